/-
  More plain facts on IEEE words (n001_88): order by signed rungs, doubling in every case, scaling a subnormal by 2^52, the bits of the fraction, the normalised rung 'nrm'.
-/
import Derived.Test.YtgkgggddhekhpaaPlain
import Derived.Laws.BitsAllLaws
namespace Go.Proofs.Ytgkgggddhekhpaa
set_option linter.unusedVariables false
open Ieee
theorem B_pos : 0 < B := by decide
theorem mg_lt (r : Nat) : mg r < 2 * B := by
  unfold mg; split
  · omega
  · have := Nat.mod_lt r B_pos; omega
theorem xp_mg (r : Nat) : xp r * B + mg r = r := by
  unfold xp mg
  by_cases hb : r < B
  · rw [if_pos hb, if_pos hb]; omega
  · rw [if_neg hb, if_neg hb]
    exact split_rung B r B_pos (by omega)
theorem mg_ge (r : Nat) (h : B ≤ r) : B ≤ mg r := by unfold mg; rw [if_neg (by omega)]; omega
theorem xp_pos_ge (r : Nat) (h : 0 < xp r) : B ≤ r := by
  unfold xp at h
  by_cases hb : r < B
  · rw [if_pos hb] at h; omega
  · omega
/-- The size of a rung, in units of the least place. -/
def sz (r : Nat) : Nat := mg r * 2 ^ xp r
theorem sz_lt {r q : Nat} (h : r < q) : sz r < sz q := by
  have e1 := xp_mg r
  have e2 := xp_mg q
  have l1 := mg_lt r
  unfold sz
  by_cases hx : xp r = xp q
  · rw [hx] at e1 ⊢
    exact Nat.mul_lt_mul_of_pos_right (by omega) (Nat.two_pow_pos _)
  · have hlt : xp r < xp q := by
      rcases Nat.lt_or_gt_of_ne hx with h1 | h1
      · exact h1
      · exfalso
        have l2 := mg_lt q
        have l3 := mg_ge r (xp_pos_ge r (by omega))
        obtain ⟨k, hk⟩ : ∃ k, xp r = xp q + 1 + k := ⟨xp r - xp q - 1, by omega⟩
        have : xp r * B = xp q * B + B + k * B := by rw [hk, Nat.add_mul, Nat.add_mul, Nat.one_mul]
        omega
    have g2 := mg_ge q (xp_pos_ge q (by omega))
    obtain ⟨k, hk⟩ : ∃ k, xp q = xp r + 1 + k := ⟨xp q - xp r - 1, by omega⟩
    have p1 : 2 ^ xp q = 2 ^ xp r * 2 * 2 ^ k := by rw [hk, Nat.pow_add, Nat.pow_add]
    have pk : 1 ≤ 2 ^ k := Nat.two_pow_pos k
    have pr : 0 < 2 ^ xp r := Nat.two_pow_pos _
    calc mg r * 2 ^ xp r < 2 * B * 2 ^ xp r := Nat.mul_lt_mul_of_pos_right l1 pr
      _ = B * (2 ^ xp r * 2) := by rw [Nat.mul_comm 2 B, Nat.mul_assoc, Nat.mul_comm 2]
      _ ≤ mg q * (2 ^ xp r * 2) := Nat.mul_le_mul_right _ g2
      _ ≤ mg q * (2 ^ xp r * 2 * 2 ^ k) := Nat.mul_le_mul_left _ (Nat.le_mul_of_pos_right _ pk)
      _ = mg q * 2 ^ xp q := by rw [p1]
theorem sz_inj_lt {r q : Nat} : sz r < sz q ↔ r < q := by
  constructor
  · intro h
    rcases Nat.lt_trichotomy r q with h1 | h1 | h1
    · exact h1
    · subst h1; omega
    · have := sz_lt h1; omega
  · exact sz_lt
theorem cmp_lt {x y : Int} (h : x < y) : compare x y = .lt := by simp [compare, compareOfLessAndEq, h]
theorem cmp_eq {x y : Int} (h : x = y) : compare x y = .eq := by subst h; simp [compare, compareOfLessAndEq]
theorem cmp_gt {x y : Int} (h : y < x) : compare x y = .gt := by
  have h1 : ¬ x < y := by omega
  have h2 : ¬ x = y := by omega
  simp [compare, compareOfLessAndEq, h1, h2]
def val (s : Bool) (r : Nat) : Int := if s then -(r : Int) else r
theorem signed_cmp (s t : Bool) (r q a b : Nat) (h : r < q ↔ a < b) (h' : q < r ↔ b < a) (z : r = 0 ↔ a = 0) (z' : q = 0 ↔ b = 0) :
    compare (if s then -(a : Int) else (a : Int)) (if t then -(b : Int) else (b : Int)) = compare (val s r) (val t q) := by
  unfold val
  have e : ∀ x y u v : Int, (x < y ↔ u < v) → (y < x ↔ v < u) → compare x y = compare u v := by
    intro x y u v h1 h2
    rcases Int.lt_trichotomy x y with h | h | h
    · rw [show compare x y = .lt from cmp_lt h, show compare u v = .lt from cmp_lt (h1.1 h)]
    · have : u = v := by
        rcases Int.lt_trichotomy u v with k | k | k
        · have := h1.2 k; omega
        · exact k
        · have := h2.2 k; omega
      rw [show compare x y = .eq from cmp_eq h, show compare u v = .eq from cmp_eq this]
    · rw [show compare x y = .gt from cmp_gt h, show compare u v = .gt from cmp_gt (h2.1 h)]
  apply e
  · cases s <;> cases t <;> simp <;> omega
  · cases s <;> cases t <;> simp <;> omega
theorem sz_zero (r : Nat) : r = 0 ↔ sz r = 0 := by
  constructor
  · intro h; subst h; rfl
  · intro h
    have hz : sz 0 = 0 := rfl
    rcases Nat.eq_zero_or_pos r with h1 | h1
    · exact h1
    · have := sz_lt h1; omega
theorem order_fin (s t : Bool) (r q : Nat) (hr : r < Inf) (hq : q < Inf) : double.order (W s r) (W t q) = some (compare (val s r) (val t q)) := by
  unfold Format.order
  rw [read_fin s r hr, read_fin t q hq]
  simp only [Datum.order, Option.some.injEq]
  have hb : min (-1074 + (xp r : Int)) (-1074 + (xp q : Int)) = -1074 + ((min (xp r) (xp q) : Nat) : Int) := by omega
  rw [hb]
  unfold signed
  have k1 : (-1074 + (xp r : Int) - (-1074 + ((min (xp r) (xp q) : Nat) : Int))).toNat = xp r - min (xp r) (xp q) := by omega
  have k2 : (-1074 + (xp q : Int) - (-1074 + ((min (xp r) (xp q) : Nat) : Int))).toNat = xp q - min (xp r) (xp q) := by omega
  rw [k1, k2, Nat.shiftLeft_eq, Nat.shiftLeft_eq]
  have pm : 0 < 2 ^ min (xp r) (xp q) := Nat.two_pow_pos _
  have m1 : mg r * 2 ^ (xp r - min (xp r) (xp q)) * 2 ^ min (xp r) (xp q) = sz r := by
    rw [Nat.mul_assoc, ← Nat.pow_add, Nat.sub_add_cancel (Nat.min_le_left _ _)]; rfl
  have m2 : mg q * 2 ^ (xp q - min (xp r) (xp q)) * 2 ^ min (xp r) (xp q) = sz q := by
    rw [Nat.mul_assoc, ← Nat.pow_add, Nat.sub_add_cancel (Nat.min_le_right _ _)]; rfl
  refine signed_cmp s t r q _ _ ?_ ?_ ?_ ?_
  · rw [← sz_inj_lt, ← m1, ← m2, Nat.mul_lt_mul_right pm]
  · rw [← sz_inj_lt, ← m1, ← m2, Nat.mul_lt_mul_right pm]
  · rw [sz_zero, ← m1]; exact ⟨fun h => (Nat.mul_eq_zero.1 h).resolve_right (by omega), fun h => by rw [h]; simp⟩
  · rw [sz_zero, ← m2]; exact ⟨fun h => (Nat.mul_eq_zero.1 h).resolve_right (by omega), fun h => by rw [h]; simp⟩
theorem read_inf (s : Bool) : double.read (W s Inf) = .infinity s := by
  rw [read_W s Inf (by decide), if_neg (by decide), if_pos rfl]
theorem order_inf_r (s t : Bool) (r : Nat) (hr : r < Inf) : double.order (W s r) (W t Inf) = some (compare (val s r) (val t Inf)) := by
  unfold Format.order
  rw [read_fin s r hr, read_inf]
  simp only [Datum.order, Option.some.injEq]
  unfold val
  cases s <;> cases t <;> simp
  · exact (cmp_lt (by omega)).symm
  · exact (cmp_gt (by simp only [Inf] at *; omega)).symm
  · exact (cmp_lt (by simp only [Inf] at *; omega)).symm
  · exact (cmp_gt (by omega)).symm
theorem order_inf_l (s t : Bool) (r : Nat) (hr : r < Inf) : double.order (W t Inf) (W s r) = some (compare (val t Inf) (val s r)) := by
  unfold Format.order
  rw [read_fin s r hr, read_inf]
  simp only [Datum.order, Option.some.injEq]
  unfold val
  cases s <;> cases t <;> simp
  · exact (cmp_gt (by omega)).symm
  · exact (cmp_lt (by simp only [Inf] at *; omega)).symm
  · exact (cmp_gt (by simp only [Inf] at *; omega)).symm
  · exact (cmp_lt (by omega)).symm
theorem order_inf (s t : Bool) : double.order (W s Inf) (W t Inf) = some (compare (val s Inf) (val t Inf)) := by cases s <;> cases t <;> decide
theorem order_W (s t : Bool) (r q : Nat) (hr : r ≤ Inf) (hq : q ≤ Inf) : double.order (W s r) (W t q) = some (compare (val s r) (val t q)) := by
  by_cases h1 : r = Inf
  · subst h1
    by_cases h2 : q = Inf
    · subst h2; exact order_inf s t
    · exact order_inf_l t s q (by omega)
  · by_cases h2 : q = Inf
    · subst h2; exact order_inf_r s t r (by omega)
    · exact order_fin s t r q (by omega) (by omega)
theorem order_nan (s : Bool) (r : Nat) (x : Nat) (h : Inf < r) (hr : r < SW) : double.order (W s r) x = none := by
  unfold Format.order
  rw [read_W s r hr, if_neg (by omega), if_neg (by omega)]
  simp only [Datum.order]
theorem nearest_over (s : Bool) (r k : Nat) (p : Int) (hr : Inf ≤ r) (hp : p = -1074 + (xp r : Int) - (k : Int)) : double.nearest s (mg r * 2 ^ k) p = W s Inf := by
  have hb : ¬ r < B := by simp only [B, Inf] at *; omega
  have hm := mg_ne r (by simp only [B] at hb; omega)
  have hk : 0 < 2 ^ k := Nat.two_pow_pos k
  unfold Format.nearest
  rw [if_neg (Nat.mul_ne_zero hm (by omega))]
  have hl : max (p + ((mg r * 2 ^ k).log2 : Int) - (double.fractionBits : Int)) (-1074) = -1074 + (xp r : Int) := by
    rw [log2_mul _ _ hm, show double.fractionBits = 52 from rfl]
    have e2 : (mg r).log2 = 52 := by
      apply Nat.le_antisymm
      · have : (mg r).log2 < 53 := by
          rw [Nat.log2_lt hm]; have := mg_lt r
          simp only [B] at this ⊢; omega
        omega
      · rw [Nat.le_log2 hm, ← B_pow]; exact mg_ge r (by omega)
    omega
  simp only [least_eq, Inf_eq, B_eq, hl]
  have h1 : (p - (-1074 + (xp r : Int))).toNat = 0 := by omega
  have h2 : (-1074 + (xp r : Int) - p).toNat = k := by omega
  have h3 : (-1074 + (xp r : Int) - -1074).toNat = xp r := by omega
  rw [h1, h2, h3, Nat.shiftLeft_zero, cut_exact _ _ _ hm, xp_mg, Nat.min_eq_right hr]; rfl
theorem mul_two_over (s : Bool) (r : Nat) (h : Inf ≤ r + B) (hr : r < Inf) : double.mul (W s r) 4611686018427387904 = some (W s Inf) := by
  have hb : B ≤ r := by simp only [B, Inf] at *; omega
  unfold Format.mul
  rw [read_fin s r hr, read_two]
  simp only [Datum.product, Option.map_some, Format.write, Bool.bne_false, Option.some.injEq]
  have e1 : mg (r + B) = mg r := by unfold mg; rw [if_neg (by omega), if_neg (by omega), Nat.add_mod_right]
  have e2 : xp (r + B) = xp r + 1 := by
    unfold xp; rw [if_neg (by omega), if_neg (by omega), Nat.add_div_right _ (by decide)]
    have : 1 ≤ r / B := by rw [Nat.le_div_iff_mul_le (by decide)]; omega
    omega
  have := nearest_over s (r + B) 52 (-1074 + (xp r : Int) + -51) h (by rw [e2]; omega)
  rw [e1, ← B_pow] at this
  simpa using this
theorem mul_two_inf (s : Bool) : double.mul (W s Inf) 4611686018427387904 = some (W s Inf) := by cases s <;> decide
theorem mul_two_zero (s : Bool) : double.mul (W s 0) 4611686018427387904 = some (W s 0) := by cases s <;> decide
theorem mul_two_nan (s : Bool) (r : Nat) (h : Inf < r) (hr : r < SW) : double.mul (W s r) 4611686018427387904 = none := by
  unfold Format.mul
  rw [read_W s r hr, if_neg (by omega), if_neg (by omega)]
  simp only [Datum.product, Option.map_none]
theorem div_one_zero (s : Bool) : double.div 4607182418800017408 (W s 0) = some (W s Inf) := by cases s <;> decide
/-- What frexp's scaling makes of a subnormal rung. -/
def scl (r : Nat) : Nat := r.log2 * B + r * 2 ^ (52 - r.log2)
theorem scl_bd (r : Nat) (h0 : r ≠ 0) (h : r < B) : r.log2 < 52 ∧ B ≤ r * 2 ^ (52 - r.log2) ∧ r * 2 ^ (52 - r.log2) < 2 * B := by
  have hl : r.log2 < 52 := by rw [Nat.log2_lt h0, ← B_pow]; exact h
  have h1 := Nat.log2_self_le h0
  have h2 : r < 2 ^ (r.log2 + 1) := Nat.lt_log2_self
  have e : B = 2 ^ r.log2 * 2 ^ (52 - r.log2) := by rw [← Nat.pow_add, B_pow, show r.log2 + (52 - r.log2) = 52 by omega]
  refine ⟨hl, ?_, ?_⟩
  · rw [e]; exact Nat.mul_le_mul_right _ h1
  · have : 2 * B = 2 ^ (r.log2 + 1) * 2 ^ (52 - r.log2) := by rw [Nat.pow_succ, Nat.mul_comm _ 2, Nat.mul_assoc, ← e]
    rw [this]; exact Nat.mul_lt_mul_of_pos_right h2 (Nat.two_pow_pos _)
theorem scl_parts (r : Nat) (h0 : r ≠ 0) (h : r < B) : mg (scl r) = r * 2 ^ (52 - r.log2) ∧ xp (scl r) = r.log2 ∧ scl r < Inf ∧ B ≤ scl r := by
  obtain ⟨h1, h2, h3⟩ := scl_bd r h0 h
  obtain ⟨m, hm⟩ : ∃ m, r * 2 ^ (52 - r.log2) = B + m := ⟨r * 2 ^ (52 - r.log2) - B, by omega⟩
  have hs : scl r = (r.log2 + 1) * B + m := by unfold scl; rw [hm, Nat.add_mul, Nat.one_mul]; omega
  have hml : m < B := by omega
  have hge : B ≤ scl r := by rw [hs, Nat.add_mul]; omega
  have hdiv : scl r / B = r.log2 + 1 := by
    rw [hs, Nat.mul_comm, Nat.mul_add_div B_pos, Nat.div_eq_of_lt hml]
  have hmod : scl r % B = m := by
    rw [hs, Nat.mul_comm, Nat.mul_add_mod, Nat.mod_eq_of_lt hml]
  refine ⟨?_, ?_, ?_, hge⟩
  · unfold mg; rw [if_neg (by omega), hmod, hm]
  · unfold xp; rw [if_neg (by omega), hdiv]; rfl
  · have : (r.log2 + 1) * B ≤ 52 * B := Nat.mul_le_mul_right _ (by omega)
    rw [hs]; simp only [B, Inf] at *; omega
theorem mul_scale (s : Bool) (r : Nat) (h0 : r ≠ 0) (h : r < B) : double.mul (W s r) 4841369599423283200 = some (W s (scl r)) := by
  obtain ⟨h1, h2, h3, h4⟩ := scl_parts r h0 h
  obtain ⟨g1, _, _⟩ := scl_bd r h0 h
  unfold Format.mul
  rw [read_fin s r (by simp only [B, Inf] at *; omega), read_scale]
  simp only [Datum.product, Option.map_some, Format.write, Option.some.injEq]
  have e0 : mg r = r := by unfold mg; rw [if_pos h]
  have e3 : xp r = 0 := by unfold xp; rw [if_pos h]
  have := nearest_exact s (scl r) r.log2 (-1074 + (xp r : Int) + 0) h3 (by simp only [B] at h4; omega) (by rw [h2, e3]; omega)
  rw [h1, Nat.mul_assoc, ← Nat.pow_add, show 52 - r.log2 + r.log2 = 52 by omega, ← B_pow] at this
  rw [e0]
  simpa using this
/-- The rung of the significand. -/
def nrm (r : Nat) : Nat := 1023 * B + (if r < B then scl r else r) % B
theorem nrm_add (r : Nat) (h : B ≤ r) : nrm (r + B) = nrm r := by
  unfold nrm; rw [if_neg (by omega), if_neg (by omega), Nat.add_mod_right]
theorem nrm_sub (r : Nat) (h : 2 * B ≤ r) : nrm (r - B) = nrm r := by
  have := nrm_add (r - B) (by omega)
  rw [Nat.sub_add_cancel (by omega)] at this; exact this.symm
theorem scl_mod (r : Nat) (h0 : r ≠ 0) (h : r < B) : scl r % B = (r * 2 ^ (52 - r.log2)) % B := by
  unfold scl; rw [Nat.mul_comm, Nat.mul_add_mod]
theorem nrm_two (r : Nat) (h0 : r ≠ 0) (h : r < B) : nrm (2 * r) = nrm r := by
  have hl2 : (2 * r).log2 = r.log2 + 1 := by rw [Nat.mul_comm]; exact log2_mul r 1 h0
  obtain ⟨g1, g2, g3⟩ := scl_bd r h0 h
  unfold nrm
  rw [if_pos h, scl_mod r h0 h]
  by_cases hb : 2 * r < B
  · rw [if_pos hb, scl_mod (2 * r) (by omega) hb, hl2]
    have hk : r.log2 + 1 < 52 := by have := (scl_bd (2 * r) (by omega) hb).1; omega
    have e : 2 * r * 2 ^ (52 - (r.log2 + 1)) = r * 2 ^ (52 - r.log2) := by
      rw [show 52 - r.log2 = (52 - (r.log2 + 1)) + 1 by omega, Nat.pow_succ]
      rw [Nat.mul_comm 2 r, Nat.mul_assoc, Nat.mul_comm 2]
    rw [e]
  · rw [if_neg hb]
    have hk : r.log2 = 51 := by
      have : 52 ≤ (2 * r).log2 := by rw [Nat.le_log2 (by omega), ← B_pow]; omega
      omega
    rw [hk]; congr 2; omega
theorem nrm_end (r : Nat) (h : 1023 * B ≤ r) (h' : r < 1024 * B) : nrm r = r := by
  unfold nrm; rw [if_neg (by omega)]
  obtain ⟨m, rfl⟩ : ∃ m, r = 1023 * B + m := ⟨r - 1023 * B, by omega⟩
  rw [Nat.mul_comm 1023 B, Nat.mul_add_mod, Nat.mod_eq_of_lt (by omega)]
theorem nrm_bd (r : Nat) : 1023 * B ≤ nrm r ∧ nrm r < 1024 * B := by
  unfold nrm; have := Nat.mod_lt (if r < B then scl r else r) B_pos; omega
/-- frexp's last steps: the exponent's field struck, the one of [1/2, 1) laid in, doubled. -/
theorem half_two (s : Bool) (m : Nat) (hm : m < B) : double.mul (W s (1022 * B + m)) 4611686018427387904 = some (W s (1023 * B + m)) := by
  have := mul_two_norm s (1022 * B + m) (by omega) (by simp only [B, Inf] at *; omega)
  rw [show 1022 * B + m + B = 1023 * B + m by omega] at this; exact this
theorem W_lt (s : Bool) (r : Nat) (h : r < SW) : W s r < 18446744073709551616 := by
  rw [W_eq]; simp only [SW] at *; split <;> omega
theorem W_neg (s : Bool) (r : Nat) (h : r < SW) : W s r ^^^ 9223372036854775808 = W (!s) r := by
  rw [W_eq, W_eq]
  have h1 : r ^^^ SW = SW + r := by
    have : SW ^^^ r = SW + r := by
      rw [show SW = 2 ^ 63 * 1 by decide, Nat.two_pow_add_eq_or_of_lt (by simpa [SW] using h)]
      apply Nat.eq_of_testBit_eq; intro i
      simp only [Nat.testBit_xor, Nat.testBit_or, Nat.mul_one]
      by_cases hi : i = 63
      · subst hi
        have : r.testBit 63 = false := Nat.testBit_lt_two_pow (by simpa [SW] using h)
        simp [this]
      · have : (2 ^ 63).testBit i = false := by rw [Nat.testBit_two_pow]; simp; omega
        simp [this]
    rw [Nat.xor_comm]; exact this
  have h2 : (SW + r) ^^^ SW = r := by rw [← h1, Nat.xor_assoc, Nat.xor_self, Nat.xor_zero]
  cases s <;> simp
  · exact h1
  · exact h2
theorem W_abs (s : Bool) (r : Nat) (h : r < SW) : W s r &&& 9223372036854775807 = r := by
  rw [show (9223372036854775807 : Nat) = 2 ^ 63 - 1 by decide, Nat.and_two_pow_sub_one_eq_mod, W_eq]
  cases s <;> simp only [SW] at * <;> simp <;> omega
theorem and_lo (x : Nat) (h : x < 18446744073709551616) : x &&& 9227875636482146303 = (if SW ≤ x then SW else 0) + x % B := by
  have h1 : x &&& 9227875636482146303 = (x &&& SW) ||| (x &&& (B - 1)) := by
    rw [← Nat.and_or_distrib_left]; congr 1
  rw [h1]
  have h2 : x &&& (B - 1) = x % B := by rw [B_pow, Nat.and_two_pow_sub_one_eq_mod]
  have h3 : x &&& SW = if SW ≤ x then SW else 0 := by
    rw [show SW = 2 ^ 63 by decide, nat_bit]
    split <;> omega
  rw [h2, h3]
  exact nat_join 52 _ _ (by split <;> decide) (by rw [← B_pow]; exact Nat.mod_lt _ B_pos)
theorem W_strip (s : Bool) (r : Nat) (h : r < SW) : W s r &&& 9227875636482146303 = W s (r % B) := by
  rw [and_lo _ (W_lt s r h), W_eq, W_eq]
  have hb : SW % B = 0 := by decide
  cases s
  · simp only [Bool.false_eq_true, if_false]; rw [if_neg (by omega)]; omega
  · simp only [if_true]; rw [if_pos (by omega), Nat.add_mod, hb]; simp
theorem W_half (s : Bool) (m : Nat) (h : m < B) : W s m ||| 4602678819172646912 = W s (1022 * B + m) := by
  have j1 : 4602678819172646912 ||| m = 4602678819172646912 + m := nat_join 52 _ _ (by decide) (by rw [← B_pow]; exact h)
  rw [W_eq, W_eq]
  cases s
  · simp only [Bool.false_eq_true, if_false]; rw [Nat.or_comm, j1]; simp only [B]
  · simp only [if_true]
    have j2 : SW ||| m = SW + m := nat_join 52 _ _ (by decide) (by rw [← B_pow]; exact h)
    rw [← j2, Nat.or_assoc, Nat.or_comm m, j1]
    have j3 : SW ||| (4602678819172646912 + m) = SW + (4602678819172646912 + m) := nat_join 63 _ _ (by decide) (by simp only [B] at h; omega)
    rw [j3]; simp only [B]
theorem W_split (x : Nat) (h : x < 18446744073709551616) : ∃ s r, r < SW ∧ x = W s r := by
  by_cases hx : SW ≤ x
  · exact ⟨true, x - SW, by simp only [SW] at *; omega, by rw [W_eq]; simp; omega⟩
  · exact ⟨false, x, by omega, by rw [W_eq]; simp⟩
end Go.Proofs.Ytgkgggddhekhpaa
