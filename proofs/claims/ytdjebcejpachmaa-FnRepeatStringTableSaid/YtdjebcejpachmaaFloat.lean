/-
  Plain facts on IEEE doubles that stand for small whole numbers and halves (n001_79).
-/
import Derived.WalkKit
import Derived.Laws.FloatArith
namespace Go.Proofs.Ytdjebcejpachmaa
set_option linter.unusedVariables false
open Ieee
def FB : Nat := 4503599627370496
theorem FB_pow : FB = 2 ^ 52 := by decide
theorem cmp_lt {x y : Int} (h : x < y) : compare x y = .lt := by
  show compareOfLessAndEq x y = .lt
  unfold compareOfLessAndEq
  rw [if_pos h]
theorem cmp_eq {x y : Int} (h : x = y) : compare x y = .eq := by subst h; simp [compare, compareOfLessAndEq]
theorem cmp_gt {x y : Int} (h : y < x) : compare x y = .gt := by
  show compareOfLessAndEq x y = .gt
  unfold compareOfLessAndEq
  rw [if_neg (by omega), if_neg (by omega)]
theorem log2_mul (m k : Nat) (hm : m ≠ 0) : (m * 2 ^ k).log2 = m.log2 + k := by
  have hk : 0 < 2 ^ k := Nat.two_pow_pos k
  have hmk : m * 2 ^ k ≠ 0 := Nat.mul_ne_zero hm (by omega)
  apply Nat.le_antisymm
  · have : (m * 2 ^ k).log2 < m.log2 + k + 1 := by
      rw [Nat.log2_lt hmk, show m.log2 + k + 1 = (m.log2 + 1) + k by omega, Nat.pow_add]
      exact Nat.mul_lt_mul_of_pos_right Nat.lt_log2_self hk
    omega
  · rw [Nat.le_log2 hmk, Nat.pow_add]
    exact Nat.mul_le_mul_right _ (Nat.log2_self_le hm)
theorem cut_exact (neg : Bool) (m k : Nat) (hm : m ≠ 0) : Toward.even.cut neg (m * 2 ^ k) k = m := by
  unfold Toward.cut
  have h1 : min k ((m * 2 ^ k).log2 + 2) = k := by rw [log2_mul m k hm]; omega
  simp only [h1, Nat.one_shiftLeft]
  have hk : 0 < 2 ^ k := Nat.two_pow_pos k
  rw [Nat.mul_mod_left, Nat.mul_div_cancel _ hk]
  have h2 : (decide (2 ^ k < 2 * 0)) = false := decide_eq_false (by omega)
  have h3 : ((2 ^ k == 2 * 0) : Bool) = false := by rw [beq_eq_false_iff_ne]; omega
  rw [h2, h3]; rfl
/-- A number m of k + 1 binary digits, k ≤ 52, drawn up to 53 digits. -/
def up (m : Nat) : Nat := m * 2 ^ (52 - m.log2)
theorem up_lo {m : Nat} (hm : m ≠ 0) (hk : m.log2 ≤ 52) : FB ≤ up m := by
  unfold up
  have h := Nat.mul_le_mul_right (2 ^ (52 - m.log2)) (Nat.log2_self_le hm)
  rw [← Nat.pow_add, show m.log2 + (52 - m.log2) = 52 by omega] at h
  rw [FB_pow]
  exact h
theorem up_hi {m : Nat} (hk : m.log2 ≤ 52) : up m < 2 * FB := by
  unfold up
  have h := Nat.mul_lt_mul_of_pos_right (Nat.lt_log2_self (n := m)) (Nat.two_pow_pos (52 - m.log2))
  rw [← Nat.pow_add, show m.log2 + 1 + (52 - m.log2) = 53 by omega] at h
  rw [FB_pow]
  exact h
theorem read_up (t q : Nat) (h1 : FB ≤ q) (h2 : q < 2 * FB) (ht : t ≤ 2000) : double.read (t * FB + q) = .number false q (-1074 + (t : Int)) := by
  have hs : double.signWeight = 9223372036854775808 := by decide
  have hb : double.binade = FB := rfl
  have hi : double.infRung = 2047 * FB := by decide
  have hl : double.leastPlace = -1074 := by decide
  have hlt : t * FB + q < 2047 * FB := by simp only [FB] at *; omega
  have hw : (t * FB + q) / 9223372036854775808 % 2 = 0 := by simp only [FB] at *; omega
  have hm : (t * FB + q) % 9223372036854775808 = t * FB + q := by simp only [FB] at *; omega
  have hd : (t * FB + q) / FB = t + 1 := by simp only [FB] at *; omega
  have hr : (t * FB + q) % FB = q - FB := by simp only [FB] at *; omega
  unfold Format.read
  simp only [hs, hb, hi, hl, hw, hm]
  rw [if_neg (by simp only [FB] at *; omega), if_pos hlt, hd, hr]
  rw [show FB + (q - FB) = q by omega, show t + 1 - 1 = t by omega]
  rfl
/-- The word of m * 2 ^ (j + place), exactly. -/
theorem nearest_up (m j : Nat) (place : Int) (t : Nat) (hm : m ≠ 0) (hk : m.log2 ≤ 52) (hp : place + j + m.log2 - 52 = t - 1074) (hj : j = 0 ∨ 52 ≤ m.log2 + j) (hj0 : j = 0 → m.log2 ≤ 52) (ht : t ≤ 2000) :
    double.nearest false (m * 2 ^ j) place = t * FB + up m := by
  have hl : double.leastPlace = -1074 := by decide
  have hf : double.fractionBits = 52 := rfl
  have hb : double.binade = FB := rfl
  have hi : double.infRung = 2047 * FB := by decide
  have hmj : m * 2 ^ j ≠ 0 := Nat.mul_ne_zero hm (by have := Nat.two_pow_pos j; omega)
  have hlo := up_lo hm hk
  have hhi := up_hi hk
  unfold Format.nearest
  rw [if_neg hmj]
  simp only [hl, hf, hb, hi, log2_mul m j hm]
  have hlast : max (place + ((m.log2 + j : Nat) : Int) - ((52 : Nat) : Int)) (-1074) = (t : Int) - 1074 := by omega
  rw [hlast]
  have hkept : Toward.even.cut false ((m * 2 ^ j) <<< (place - ((t : Int) - 1074)).toNat) ((t : Int) - 1074 - place).toNat = up m := by
    rcases hj with rfl | hj
    · have e1 : (place - ((t : Int) - 1074)).toNat = 52 - m.log2 := by omega
      have e2 : ((t : Int) - 1074 - place).toNat = 0 := by omega
      rw [e1, e2, Nat.shiftLeft_eq, Nat.pow_zero, Nat.mul_one]
      have := cut_exact false (up m) 0 (by unfold FB at hlo; omega)
      rw [Nat.pow_zero, Nat.mul_one] at this
      exact this
    · have e1 : (place - ((t : Int) - 1074)).toNat = 0 := by omega
      have e2 : ((t : Int) - 1074 - place).toNat = m.log2 + j - 52 := by omega
      rw [e1, e2, Nat.shiftLeft_eq, Nat.pow_zero, Nat.mul_one]
      have e3 : m * 2 ^ j = up m * 2 ^ (m.log2 + j - 52) := by
        unfold up
        rw [Nat.mul_assoc, ← Nat.pow_add, show 52 - m.log2 + (m.log2 + j - 52) = j by omega]
      rw [e3]
      exact cut_exact false (up m) _ (by unfold FB at hlo; omega)
  rw [hkept, show ((t : Int) - 1074 - -1074).toNat = t by omega]
  unfold Format.word
  rw [if_neg (by decide)]
  exact Nat.min_eq_left (by simp only [FB] at *; omega)
/-- What the law asks of a double x: not below 0, below 2^31 - 1, its whole part c. -/
def Flo (x c : Nat) : Prop := (double.order x 0 = some .eq ∨ double.order x 0 = some .gt) ∧ double.order x 4746794007244308480 = some .lt ∧ (double.read x).toInt .zero = some (c : Int) ∧ double.order x x = some .eq
theorem flo_up (t q c d : Nat) (h1 : FB ≤ q) (h2 : q < 2 * FB) (ht : t + d = 1074) (hd1 : 22 ≤ d) (hd2 : d ≤ 53) (hc : q / 2 ^ d = c) (hcm : c < 2147483647) : Flo (t * FB + q) c := by
  have hr := read_up t q h1 h2 (by omega)
  have hz : double.read 0 = .number false 0 (-1074) := by decide
  have hM : double.read 4746794007244308480 = .number false (2147483647 * 2 ^ 22) (-22) := by decide
  refine ⟨.inr ?_, ?_, ?_, ?_⟩
  · unfold Format.order
    rw [hr, hz]
    unfold Datum.order
    simp only
    rw [show min (-1074 + (t : Int)) (-1074) = -1074 by omega, show ((-1074 : Int) + (t : Int) - -1074).toNat = t by omega]
    simp only [signed, Bool.false_eq_true, if_false, Nat.shiftLeft_eq]
    have : 0 < q * 2 ^ t := Nat.mul_pos (by unfold FB at h1; omega) (Nat.two_pow_pos t)
    rw [Nat.zero_mul, cmp_gt (by omega)]
  · unfold Format.order
    rw [hr, hM]
    unfold Datum.order
    simp only
    rw [show min (-1074 + (t : Int)) (-22) = -1074 + (t : Int) by omega, show ((-1074 : Int) + (t : Int) - (-1074 + (t : Int))).toNat = 0 by omega, show ((-22 : Int) - (-1074 + (t : Int))).toNat = d - 22 by omega]
    simp only [signed, Bool.false_eq_true, if_false, Nat.shiftLeft_eq, Nat.pow_zero, Nat.mul_one]
    have h3 : q < 2147483647 * 2 ^ 22 * 2 ^ (d - 22) := by
      rw [Nat.mul_assoc, ← Nat.pow_add, show 22 + (d - 22) = d by omega]
      have := (Nat.div_lt_iff_lt_mul (Nat.two_pow_pos d)).1 (by omega : q / 2 ^ d < 2147483647)
      exact this
    rw [cmp_lt (by omega)]
  · rw [hr]
    unfold Datum.toInt Datum.integral
    simp only
    rw [show (-1074 + (t : Int)).toNat = 0 by omega, show (-(-1074 + (t : Int))).toNat = d by omega, Nat.shiftLeft_eq, Nat.pow_zero, Nat.mul_one]
    have hq : q.log2 = 52 := by
      have h0 : q ≠ 0 := by unfold FB at h1; omega
      apply Nat.le_antisymm
      · have : q.log2 < 53 := by rw [Nat.log2_lt h0]; simp only [FB] at h2; omega
        omega
      · rw [Nat.le_log2 h0]; simp only [FB] at h1; omega
    unfold Toward.cut
    rw [hq, show min d (52 + 2) = d by omega]
    simp only [signed, Bool.false_eq_true, if_false, Bool.toNat_false, Nat.add_zero, Nat.shiftLeft_eq, Nat.pow_zero, Nat.mul_one, Nat.one_mul, hc]
  · unfold Format.order
    rw [hr]
    unfold Datum.order
    simp only
    rw [cmp_eq rfl]
theorem flo_zero : Flo 0 0 := by
  refine ⟨.inl (by decide), by decide, by decide, by decide⟩
theorem log2_small {n : Nat} (h : n ≤ 131072) : n.log2 ≤ 17 := by
  rcases Nat.eq_zero_or_pos n with rfl | h0
  · decide
  · have : n.log2 < 18 := by rw [Nat.log2_lt (by omega)]; omega
    omega
theorem nearest_int (n : Nat) (h : n ≤ 131072) : FloatKind.f64.nearest (n : Int) = double.nearest false n 0 := by
  unfold FloatKind.nearest FloatKind.encode FloatKind.format Format.write
  have : (decide ((n : Int) < 0)) = false := decide_eq_false (by omega)
  simp only [this, Int.natAbs_natCast]
theorem up_div {m : Nat} (j : Nat) (hk : m.log2 ≤ 52) : up m / 2 ^ (52 - m.log2 + j) = m / 2 ^ j := by
  unfold up
  rw [Nat.pow_add, ← Nat.div_div_eq_div_mul, Nat.mul_div_cancel _ (Nat.two_pow_pos _)]
theorem flo_int (n : Nat) (h : n ≤ 131072) : Flo (FloatKind.f64.nearest (n : Int)) n := by
  rw [nearest_int n h]
  rcases Nat.eq_zero_or_pos n with rfl | h0
  · exact flo_zero
  · have hl := log2_small h
    have hn := nearest_up n 0 0 (n.log2 + 1022) (by omega) (by omega) (by omega) (.inl rfl) (fun _ => by omega) (by omega)
    rw [Nat.pow_zero, Nat.mul_one] at hn
    rw [hn]
    exact flo_up _ _ _ (52 - n.log2) (up_lo (by omega) (by omega)) (up_hi (by omega)) (by omega) (by omega) (by omega) (by have := up_div (m := n) 0 (by omega); simpa using this) (by omega)
theorem add_half (n : Nat) (h : n ≤ 65536) : ∃ y, double.add (FloatKind.f64.nearest (n : Int)) 4602678819172646912 = some y ∧ Flo y n := by
  rw [nearest_int n (by omega)]
  rcases Nat.eq_zero_or_pos n with rfl | h0
  · exact ⟨4602678819172646912, by decide +kernel, .inr (by decide), by decide, by decide, by decide⟩
  · have hl := log2_small (n := n) (by omega)
    have hn := nearest_up n 0 0 (n.log2 + 1022) (by omega) (by omega) (by omega) (.inl rfl) (fun _ => by omega) (by omega)
    rw [Nat.pow_zero, Nat.mul_one] at hn
    have hr := read_up (n.log2 + 1022) (up n) (up_lo (by omega) (by omega)) (up_hi (by omega)) (by omega)
    have hh : double.read 4602678819172646912 = .number false (2 ^ 52) (-53) := by decide
    have h2 : (2 * n + 1).log2 ≤ 17 := by
      have : (2 * n + 1).log2 < 18 := by rw [Nat.log2_lt (by omega)]; omega
      omega
    have hy := nearest_up (2 * n + 1) 52 (-53) ((2 * n + 1).log2 + 1021) (by omega) (by omega) (by omega) (.inr (by omega)) (fun _ => by omega) (by omega)
    refine ⟨((2 * n + 1).log2 + 1021) * FB + up (2 * n + 1), ?_, ?_⟩
    · rw [hn]
      unfold Format.add
      rw [hr, hh]
      unfold Datum.sum
      simp only
      have hs : signed false (up n) (-1074 + ((n.log2 + 1022 : Nat) : Int) - min (-1074 + ((n.log2 + 1022 : Nat) : Int)) (-53)).toNat + signed false (2 ^ 52) (-53 - min (-1074 + ((n.log2 + 1022 : Nat) : Int)) (-53)).toNat = (((2 * n + 1) * 2 ^ 52 : Nat) : Int) := by
        rw [show min (-1074 + ((n.log2 + 1022 : Nat) : Int)) (-53) = -53 by omega, show (-1074 + ((n.log2 + 1022 : Nat) : Int) - -53).toNat = n.log2 + 1 by omega, show ((-53 : Int) - -53).toNat = 0 by omega]
        simp only [signed, Bool.false_eq_true, if_false, Nat.shiftLeft_eq, Nat.pow_zero, Nat.mul_one]
        have : up n * 2 ^ (n.log2 + 1) = 2 * n * 2 ^ 52 := by
          unfold up
          rw [Nat.mul_assoc, ← Nat.pow_add, show 52 - n.log2 + (n.log2 + 1) = 1 + 52 by omega, Nat.pow_add, ← Nat.mul_assoc]
          omega
        rw [this, ← Int.natCast_add, show 2 * n * 2 ^ 52 + 2 ^ 52 = (2 * n + 1) * 2 ^ 52 by omega]
      rw [hs, show min (-1074 + ((n.log2 + 1022 : Nat) : Int)) (-53) = -53 by omega]
      have hne : ((((2 * n + 1) * 2 ^ 52 : Nat) : Int) = 0) = False := by simp; omega
      rw [Option.map_some]
      unfold Format.write
      simp only [hne, if_false, Int.natAbs_natCast]
      rw [show decide ((((2 * n + 1) * 2 ^ 52 : Nat) : Int) < 0) = false from decide_eq_false (by omega), hy]
    · exact flo_up _ _ _ (53 - (2 * n + 1).log2) (up_lo (by omega) (by omega)) (up_hi (by omega)) (by omega) (by omega) (by omega) (by
        have := up_div (m := 2 * n + 1) 1 (by omega)
        rw [show 52 - (2 * n + 1).log2 + 1 = 53 - (2 * n + 1).log2 by omega] at this
        rw [this]
        omega) (by omega)
end Go.Proofs.Ytdjebcejpachmaa
