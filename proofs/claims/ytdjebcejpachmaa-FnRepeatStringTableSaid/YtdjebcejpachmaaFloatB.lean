/-
  Doubles below 2^31 - 1, cut to whole numbers (n001_79).
-/
import Derived.Test.YtdjebcejpachmaaWalkA
namespace Go.Proofs.Ytdjebcejpachmaa
set_option linter.unusedVariables false
open Ieee Go.ChangeShapes Go.WideShapes Go.ChangeAt Go.RowKit M
theorem cut_zero (s : Bool) (n d : Nat) : Toward.zero.cut s n d = n / 2 ^ (min d (n.log2 + 2)) := by
  unfold Toward.cut
  simp only [Nat.one_shiftLeft, Bool.toNat_false, Nat.add_zero]
theorem cmp_lt_inv {x y : Int} (h : compare x y = .lt) : x < y := by
  rcases Int.lt_trichotomy x y with h1 | h1 | h1
  · exact h1
  · rw [cmp_eq h1] at h; cases h
  · rw [cmp_gt h1] at h; cases h
theorem cmp_ge_inv {x y : Int} (h : compare x y = .eq ∨ compare x y = .gt) : y ≤ x := by
  rcases Int.lt_trichotomy x y with h1 | h1 | h1
  · rw [cmp_lt h1] at h; rcases h with h | h <;> cases h
  · omega
  · omega
theorem read_0 : double.read 0 = .number false 0 (-1074) := by decide
theorem read_M : double.read 4746794007244308480 = .number false (2147483647 * 2 ^ 22) (-22) := by decide
theorem trunc_bound (m : Nat) (e : Int) (h : m * 2 ^ (e - min e (-22)).toNat < 2147483647 * 2 ^ 22 * 2 ^ (-22 - min e (-22)).toNat) :
    (m * 2 ^ e.toNat) / 2 ^ (min (-e).toNat ((m * 2 ^ e.toNat).log2 + 2)) < 2147483647 := by
  by_cases he : 0 ≤ e
  · have e1 : (-e).toNat = 0 := by omega
    have e2 : (e - min e (-22)).toNat = e.toNat + 22 := by omega
    have e3 : (-22 - min e (-22)).toNat = 0 := by omega
    rw [e2, e3, Nat.pow_add, ← Nat.mul_assoc, Nat.pow_zero, Nat.mul_one] at h
    rw [e1, Nat.zero_min, Nat.pow_zero, Nat.div_one]
    exact Nat.lt_of_mul_lt_mul_right h
  · have e0 : e.toNat = 0 := by omega
    obtain ⟨D, hD⟩ : ∃ D : Nat, e = -(D : Int) := ⟨(-e).toNat, by omega⟩
    have e1 : (-e).toNat = D := by omega
    rw [e0, e1, Nat.pow_zero, Nat.mul_one]
    have hm : m < 2147483647 * 2 ^ D := by
      by_cases hd : D ≤ 22
      · have e2 : (e - min e (-22)).toNat = 22 - D := by omega
        have e3 : (-22 - min e (-22)).toNat = 0 := by omega
        rw [e2, e3, Nat.pow_zero, Nat.mul_one, show (2147483647 : Nat) * 2 ^ 22 = 2147483647 * 2 ^ D * 2 ^ (22 - D) by rw [Nat.mul_assoc, ← Nat.pow_add, show D + (22 - D) = 22 by omega]] at h
        exact Nat.lt_of_mul_lt_mul_right h
      · have e2 : (e - min e (-22)).toNat = 0 := by omega
        have e3 : (-22 - min e (-22)).toNat = D - 22 := by omega
        rw [e2, e3, Nat.pow_zero, Nat.mul_one, Nat.mul_assoc, ← Nat.pow_add, show 22 + (D - 22) = D by omega] at h
        exact h
    by_cases hd : D ≤ m.log2 + 2
    · rw [Nat.min_eq_left hd]
      exact (Nat.div_lt_iff_lt_mul (Nat.two_pow_pos D)).2 hm
    · rw [Nat.min_eq_right (by omega)]
      have h1 : m < 2 ^ (m.log2 + 2) := Nat.lt_of_lt_of_le (Nat.lt_log2_self (n := m)) (Nat.pow_le_pow_right (by omega) (by omega))
      rw [Nat.div_eq_of_lt h1]
      omega
theorem flo_trunc (x : Nat) (h0 : double.order x 0 = some .eq ∨ double.order x 0 = some .gt) (hM : double.order x 4746794007244308480 = some .lt) (hx : double.order x x = some .eq) : ∃ c, c < 2147483647 ∧ Flo x c := by
  have g0 := h0
  have gM := hM
  unfold Format.order at h0 hM
  rw [read_0] at h0
  rw [read_M] at hM
  cases hr : double.read x with
  | nan s f =>
    rw [hr] at hM
    cases hM
  | infinity s =>
    rw [hr] at h0 hM
    cases s
    · cases hM
    · rcases h0 with h0 | h0 <;> cases h0
  | number s m e =>
    rw [hr] at h0 hM
    simp only [Datum.order] at h0 hM
    have h1 := cmp_ge_inv (h0.elim (fun h => .inl (Option.some.inj h)) (fun h => .inr (Option.some.inj h)))
    have h2 := cmp_lt_inv (Option.some.inj hM)
    cases s
    · simp only [signed, Bool.false_eq_true, if_false, Nat.shiftLeft_eq] at h2
      have h3 := trunc_bound m e (by exact_mod_cast h2)
      refine ⟨_, h3, g0, gM, ?_, hx⟩
      rw [hr]
      simp only [Datum.toInt, Datum.integral, cut_zero, signed, Bool.false_eq_true, if_false, Nat.shiftLeft_eq, Nat.pow_zero, Nat.mul_one]
    · simp only [signed, if_true, Bool.false_eq_true, if_false, Nat.shiftLeft_eq, Nat.zero_mul] at h1
      have hm : m = 0 := by
        have h4 : m * 2 ^ (e - min e (-1074)).toNat = 0 := by omega
        rcases Nat.mul_eq_zero.1 h4 with h | h
        · exact h
        · exact absurd h (Nat.ne_of_gt (Nat.two_pow_pos _))
      refine ⟨0, by omega, g0, gM, ?_, hx⟩
      rw [hr, hm]
      simp only [Datum.toInt, Datum.integral, cut_zero, signed, if_true, Nat.shiftLeft_eq, Nat.zero_mul, Nat.zero_div]
      rfl
theorem min_eq_neg (x : Nat) (h : double.order x 4746794007244308480 = some .eq) : (double.read x).neg = false := by
  unfold Format.order at h
  rw [read_M] at h
  cases hr : double.read x with
  | nan s f => rw [hr] at h; cases h
  | infinity s => rw [hr] at h; cases s <;> cases h
  | number s m e =>
    rw [hr] at h
    simp only [Datum.order] at h
    cases s
    · rfl
    · exfalso
      have h2 := cmp_ge_inv (.inl (Option.some.inj h))
      simp only [signed, if_true, Bool.false_eq_true, if_false, Nat.shiftLeft_eq] at h2
      have h3 : 0 < 2147483647 * 2 ^ 22 * 2 ^ (-22 - min e (-22)).toNat := Nat.mul_pos (by decide) (Nat.two_pow_pos _)
      omega
/-- What repeatString asks of its double: not below 0, its whole part, cut off at 2^31 - 1, is c. -/
def Cnt (x c : Nat) : Prop := (double.order x 0 = some .eq ∨ double.order x 0 = some .gt) ∧ double.order x x = some .eq ∧ c ≤ 2147483647 ∧
  ∃ x', (∀ W, Sem.run Try.prog (Builtin.min_ #[23, 23] 23 #[.float .f64 x, .float .f64 4746794007244308480]) W = .ok (.float .f64 x') W) ∧ ∀ W, (convert 23 3 (.float .f64 x')).run Try.prog W = .ok (.int .i64 c) W
theorem conv_any (t : TypeId) (k : IntKind) (hk : k.min ≤ 0 ∧ 2147483647 ≤ k.max) (ht : Try.prog.underlying t = some (.int k)) (x c : Nat) (h3 : (double.read x).toInt .zero = some (c : Int)) (hc : c ≤ 2147483647) (W : World) : (convert 23 t (.float .f64 x)).run Try.prog W = .ok (.int k c) W := by
  have h4 : (FloatKind.decode .f64 x).toInt .zero = some (c : Int) := h3
  refine run_convert_float_int W 23 t .f64 k x c (by rw [Try.underlying23]; rfl) ht ?_
  unfold floatToIntVal
  have e1 : k.min ≤ (c : Int) ∧ (c : Int) ≤ k.max := by omega
  simp only [h4, e1, and_self, if_true]
theorem cnt_lt (x c : Nat) (h : Flo x c) (hc : c ≤ 2147483647) : Cnt x c :=
  ⟨h.1, h.2.2.2, hc, x, run_min_flo x c h, conv_any 3 .i64 (by decide) Try.underlying3 x c h.2.2.1 hc⟩
theorem cnt_ge (x : Nat) (h0 : double.order x 0 = some .eq ∨ double.order x 0 = some .gt) (hx : double.order x x = some .eq) (hM : double.order x 4746794007244308480 = some .eq ∨ double.order x 4746794007244308480 = some .gt) : Cnt x 2147483647 := by
  refine ⟨h0, hx, by omega, 4746794007244308480, fun W => ?_, conv_any 3 .i64 (by decide) Try.underlying3 _ _ (by decide) (by omega)⟩
  have hf := f64_eq
  rcases hM with hM | hM
  · have hn : (FloatKind.decode .f64 x).neg = false := min_eq_neg x hM
    simp only [Builtin.min_, Builtin.min2, List.foldlM, hf, hM, hn]
    rfl
  · simp only [Builtin.min_, Builtin.min2, List.foldlM, hf, hM]
    rfl
theorem cnt_all (x : Nat) (h0 : double.order x 0 = some .eq ∨ double.order x 0 = some .gt) (hx : double.order x x = some .eq) : (double.order x 4746794007244308480 = some .lt ∧ ∃ c, c < 2147483647 ∧ Cnt x c ∧ ∀ W, (convert 23 25 (.float .f64 x)).run Try.prog W = .ok (.int .u64 c) W) ∨ ((double.order x 4746794007244308480 == some .lt) = false ∧ Cnt x 2147483647) := by
  rcases hq : double.order x 4746794007244308480 with _ | o
  · exfalso
    unfold Format.order at hq hx
    rw [read_M] at hq
    cases hr : double.read x with
    | nan s f => rw [hr] at hx; cases hx
    | infinity s => rw [hr] at hq; cases hq
    | number s m e => rw [hr] at hq; cases hq
  · cases o
    · obtain ⟨c, hc, hf⟩ := flo_trunc x h0 hq hx
      exact .inl ⟨rfl, c, hc, cnt_lt x c hf (by omega), conv_any 25 .u64 (by decide) Try.underlying25 x c hf.2.2.1 (by omega)⟩
    · exact .inr ⟨rfl, cnt_ge x h0 hx (.inl hq)⟩
    · exact .inr ⟨rfl, cnt_ge x h0 hx (.inr hq)⟩
end Go.Proofs.Ytdjebcejpachmaa
