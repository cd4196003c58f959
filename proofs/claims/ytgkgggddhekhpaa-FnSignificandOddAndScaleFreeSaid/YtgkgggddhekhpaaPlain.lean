/-
  Plain facts on IEEE words, sign and rung (n001_88): doubling, halving, scaling by 2^52, order, the normalised fraction.
-/
import Derived.WalkKit
import Derived.Laws.FloatArith
namespace Go.Proofs.Ytgkgggddhekhpaa
set_option linter.unusedVariables false
open Ieee
def B : Nat := 4503599627370496
def Inf : Nat := 9218868437227405312
def SW : Nat := 9223372036854775808
theorem B_eq : double.binade = B := rfl
theorem B_pow : B = 2 ^ 52 := by decide
theorem Inf_eq : double.infRung = Inf := by decide
theorem SW_eq : double.signWeight = SW := by decide
theorem least_eq : double.leastPlace = -1074 := by decide
theorem Inf_B : Inf = 2047 * B := by decide
def W (s : Bool) (r : Nat) : Nat := double.word s r
theorem W_eq (s : Bool) (r : Nat) : W s r = if s then SW + r else r := by unfold W Format.word; rw [SW_eq]
def mg (r : Nat) : Nat := if r < B then r else B + r % B
def xp (r : Nat) : Nat := if r < B then 0 else r / B - 1
theorem read_W (s : Bool) (r : Nat) (hr : r < SW) : double.read (W s r) = if r < Inf then .number s (mg r) (-1074 + (xp r : Int)) else if r = Inf then .infinity s else .nan s (r - Inf) := by
  have h1 : W s r / SW % 2 = if s then 1 else 0 := by
    rw [W_eq]; cases s <;> simp only [SW] at hr ⊢ <;> simp <;> omega
  have h2 : W s r % SW = r := by
    rw [W_eq]; cases s <;> simp only [SW] at hr ⊢ <;> simp <;> omega
  unfold Format.read
  simp only [SW_eq, B_eq, Inf_eq, least_eq, h1, h2]
  have h3 : ((if s = true then 1 else 0) == 1) = s := by cases s <;> rfl
  rw [h3]
  by_cases hb : r < B
  · rw [if_pos hb, if_pos (by simp only [B, Inf] at *; omega)]
    simp only [mg, xp, if_pos hb]; rfl
  · rw [if_neg hb]
    by_cases hi : r < Inf
    · rw [if_pos hi, if_pos hi]; simp only [mg, xp, if_neg hb]
    · rw [if_neg hi, if_neg hi]
theorem log2_mul (m k : Nat) (hm : m ≠ 0) : (m * 2 ^ k).log2 = m.log2 + k := by
  have hk : 0 < 2 ^ k := Nat.two_pow_pos k
  have hmk : m * 2 ^ k ≠ 0 := Nat.mul_ne_zero hm (by omega)
  apply Nat.le_antisymm
  · have : (m * 2 ^ k).log2 < m.log2 + k + 1 := by
      rw [Nat.log2_lt hmk, show m.log2 + k + 1 = (m.log2 + 1) + k by omega, Nat.pow_add]
      exact Nat.mul_lt_mul_of_pos_right Nat.lt_log2_self hk
    omega
  · rw [Nat.le_log2 hmk, Nat.pow_add]
    exact Nat.mul_le_mul_right _ (Nat.log2_self_le hm)
theorem cut_exact (neg : Bool) (m k : Nat) (hm : m ≠ 0) : Toward.even.cut neg (m * 2 ^ k) k = m := by
  unfold Toward.cut
  have h1 : min k ((m * 2 ^ k).log2 + 2) = k := by rw [log2_mul m k hm]; omega
  simp only [h1, Nat.one_shiftLeft]
  have hk : 0 < 2 ^ k := Nat.two_pow_pos k
  rw [Nat.mul_mod_left, Nat.mul_div_cancel _ hk]
  have h2 : (decide (2 ^ k < 2 * 0)) = false := decide_eq_false (by omega)
  have h3 : ((2 ^ k == 2 * 0) : Bool) = false := by rw [beq_eq_false_iff_ne]; omega
  rw [h2, h3]; rfl
theorem mg_ne (r : Nat) (h : r ≠ 0) : mg r ≠ 0 := by
  unfold mg; split
  · exact h
  · simp only [B]; omega
theorem split_rung (b r : Nat) (hb : 0 < b) (h : b ≤ r) : (r / b - 1) * b + (b + r % b) = r := by
  have h1 := Nat.div_add_mod r b
  have h6 : 1 ≤ r / b := by rw [Nat.le_div_iff_mul_le hb]; omega
  obtain ⟨q, hq⟩ : ∃ q, r / b = q + 1 := ⟨r / b - 1, by omega⟩
  rw [hq] at h1 ⊢
  rw [Nat.add_sub_cancel]
  rw [Nat.mul_add, Nat.mul_one, Nat.mul_comm] at h1
  omega
theorem nearest_exact (s : Bool) (r k : Nat) (p : Int) (hr : r < Inf) (h0 : r ≠ 0) (hp : p = -1074 + (xp r : Int) - (k : Int)) : double.nearest s (mg r * 2 ^ k) p = W s r := by
  have hm := mg_ne r h0
  have hk : 0 < 2 ^ k := Nat.two_pow_pos k
  unfold Format.nearest
  rw [if_neg (Nat.mul_ne_zero hm (by omega))]
  have hl : max (p + ((mg r * 2 ^ k).log2 : Int) - (double.fractionBits : Int)) (-1074) = -1074 + (xp r : Int) := by
    rw [log2_mul _ _ hm, show double.fractionBits = 52 from rfl]
    by_cases hb : r < B
    · have e1 : xp r = 0 := by unfold xp; rw [if_pos hb]
      have e2 : (mg r).log2 < 52 := by
        rw [Nat.log2_lt hm, ← B_pow]; unfold mg; rw [if_pos hb]; exact hb
      omega
    · have e2 : (mg r).log2 = 52 := by
        apply Nat.le_antisymm
        · have : (mg r).log2 < 53 := by
            rw [Nat.log2_lt hm]; unfold mg; rw [if_neg hb]
            have := Nat.mod_lt r (show 0 < B by decide)
            simp only [B] at this ⊢; omega
          omega
        · rw [Nat.le_log2 hm, ← B_pow]; unfold mg; rw [if_neg hb]; omega
      omega
  simp only [least_eq, Inf_eq, B_eq, hl]
  have h1 : (p - (-1074 + (xp r : Int))).toNat = 0 := by omega
  have h2 : (-1074 + (xp r : Int) - p).toNat = k := by omega
  have h3 : (-1074 + (xp r : Int) - -1074).toNat = xp r := by omega
  rw [h1, h2, h3, Nat.shiftLeft_zero, cut_exact _ _ _ hm]
  have h4 : min (xp r * B + mg r) Inf = r := by
    have h5 : xp r * B + mg r = r := by
      unfold xp mg
      by_cases hb : r < B
      · rw [if_pos hb, if_pos hb]; omega
      · rw [if_neg hb, if_neg hb]
        exact split_rung B r (by decide) (by omega)
    rw [h5]; exact Nat.min_eq_left (Nat.le_of_lt hr)
  rw [h4]; rfl
/-- 2.0, 1.0 and 2^52 as words. -/
theorem read_two : double.read 4611686018427387904 = .number false B (-51) := by decide
theorem read_scale : double.read 4841369599423283200 = .number false B 0 := by decide
theorem read_one : double.read 4607182418800017408 = .number false B (-52) := by decide
theorem read_fin (s : Bool) (r : Nat) (h : r < Inf) : double.read (W s r) = .number s (mg r) (-1074 + (xp r : Int)) := by
  rw [read_W s r (by simp only [Inf, SW] at *; omega), if_pos h]
theorem mul_two_norm (s : Bool) (r : Nat) (h : B ≤ r) (hr : r + B < Inf) : double.mul (W s r) 4611686018427387904 = some (W s (r + B)) := by
  unfold Format.mul
  rw [read_fin s r (by omega), read_two]
  simp only [Datum.product, Option.map_some, Format.write, Bool.bne_false, Option.some.injEq]
  have e1 : mg (r + B) = mg r := by unfold mg; rw [if_neg (by omega), if_neg (by omega), Nat.add_mod_right]
  have e2 : xp (r + B) = xp r + 1 := by
    unfold xp; rw [if_neg (by omega), if_neg (by omega), Nat.add_div_right _ (by decide)]
    have : 1 ≤ r / B := by rw [Nat.le_div_iff_mul_le (by decide)]; omega
    omega
  have := nearest_exact s (r + B) 52 (-1074 + (xp r : Int) + -51) hr (by simp only [B]; omega) (by rw [e2]; omega)
  rw [e1, ← B_pow] at this
  simpa using this
theorem mul_two_sub (s : Bool) (r : Nat) (h : r < B) (h0 : r ≠ 0) : double.mul (W s r) 4611686018427387904 = some (W s (2 * r)) := by
  unfold Format.mul
  rw [read_fin s r (by simp only [B, Inf] at *; omega), read_two]
  simp only [Datum.product, Option.map_some, Format.write, Option.some.injEq]
  have e0 : mg r = r := by unfold mg; rw [if_pos h]
  have e3 : xp r = 0 := by unfold xp; rw [if_pos h]
  have e1 : mg (2 * r) = 2 * r := by
    unfold mg; by_cases hb : 2 * r < B
    · rw [if_pos hb]
    · rw [if_neg hb]; simp only [B] at *; omega
  have e2 : xp (2 * r) = 0 := by
    unfold xp; by_cases hb : 2 * r < B
    · rw [if_pos hb]
    · rw [if_neg hb]; simp only [B] at *; omega
  have := nearest_exact s (2 * r) 51 (-1074 + (xp r : Int) + -51) (by simp only [B, Inf] at *; omega) (by omega) (by rw [e2, e3]; omega)
  rw [e1, show 2 * r * 2 ^ 51 = r * B by simp only [B]; omega] at this
  rw [e0]
  simpa using this
theorem div_two (s : Bool) (r : Nat) (h : 2 * B ≤ r) (hr : r < Inf) : double.div (W s r) 4611686018427387904 = some (W s (r - B)) := by
  unfold Format.div
  rw [read_fin s r hr, read_two]
  have hm := mg_ne r (by simp only [B] at h; omega)
  have hl : (mg r).log2 = 52 := by
    have hb : ¬ r < B := by omega
    apply Nat.le_antisymm
    · have : (mg r).log2 < 53 := by
        rw [Nat.log2_lt hm]; unfold mg; rw [if_neg hb]
        have := Nat.mod_lt r (show 0 < B by decide)
        simp only [B] at this ⊢; omega
      omega
    · rw [Nat.le_log2 hm, ← B_pow]; unfold mg; rw [if_neg hb]; omega
  have hB : B.log2 = 52 := by decide
  have hB0 : ¬ B = 0 := by decide
  simp only [Datum.quotient, hl, hB, if_neg hB0, show double.fractionBits = 52 from rfl, Option.map_some, Format.write, Option.some.injEq]
  have d1 : mg r <<< (52 + 2 + 52 - 52) = mg r * 4 * B := by rw [Nat.shiftLeft_eq]; simp only [B]; omega
  rw [d1, Nat.mul_mod_left, Nat.mul_div_cancel _ (by decide)]
  have e1 : mg (r - B) = mg r := by
    unfold mg; rw [if_neg (by omega), if_neg (by omega)]
    have : (r - B + B) % B = (r - B) % B := Nat.add_mod_right _ _
    rw [Nat.sub_add_cancel (by omega)] at this
    rw [this]
  have e2 : xp (r - B) + 1 = xp r := by
    unfold xp; rw [if_neg (by omega), if_neg (by omega)]
    have := Nat.add_div_right (r - B) (show 0 < B by decide)
    rw [Nat.sub_add_cancel (by omega)] at this
    have : 1 ≤ (r - B) / B := by rw [Nat.le_div_iff_mul_le (by decide)]; omega
    omega
  have := nearest_exact s (r - B) 3 (-1074 + (xp r : Int) - -51 - ((52 + 2 + 52 - 52 : Nat) : Int) - 1) (by omega) (by simp only [B] at *; omega) (by omega)
  rw [e1] at this
  have h8 : 2 * (mg r * 4) + ((0 : Nat) != 0).toNat = mg r * 2 ^ 3 := by simp; omega
  rw [h8]
  simpa using this
end Go.Proofs.Ytgkgggddhekhpaa
