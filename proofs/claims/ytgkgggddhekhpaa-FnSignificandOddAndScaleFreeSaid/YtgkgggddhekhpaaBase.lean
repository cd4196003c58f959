/-
  Contracts of math.Abs, IsInf, IsNaN, normalize, frexp, funcSignificand and of the law's own helpers (n001_88).
-/
import Derived.Test.YtgkgggddhekhpaaRows
import Derived.Test.YtgkgggddhekhpaaPlainB
import Derived.WalkKit
import Derived.ProofKit
import Derived.WalkLawsBesides
import Derived.Laws.Externs
import Derived.Deep.QuietTactic
import Derived.BigQuiet
namespace Go.Proofs.Ytgkgggddhekhpaa
set_option linter.unusedVariables false
open Go.ChangeShapes Go.WideShapes Go.ChangeAt Go.RowKit
@[go_sem] theorem neg_float (b : Nat) : Op.unary .neg (.float .f64 b) = pure (.float .f64 (b ^^^ 9223372036854775808)) := rfl
theorem bits_of (b : Nat) (w : World) : (callFunc 18 #[.float .f64 b]).run Try.prog w = .ok (.value (.int .u64 b)) w := by
  rw [run_callFunc_extern (e := Extern.MathFloatBits.float64bits) Try.func18 (by kernel_rfl) (by kernel_rfl) (by kernel_rfl) (by kernel_rfl)]; rfl
theorem of_bits (n : Int) (w : World) : (callFunc 19 #[.int .u64 n]).run Try.prog w = .ok (.value (.float .f64 n.toNat)) w := by
  rw [run_callFunc_extern (e := Extern.MathFloatBits.float64frombits) Try.func19 (by kernel_rfl) (by kernel_rfl) (by kernel_rfl) (by kernel_rfl)]; rfl
def RetF (b : Nat) (w : World) (e : Ending) (w' : World) : Prop := e = .returned (.float .f64 b) ∧ w = w'
def RetB (b : Bool) (w : World) (e : Ending) (w' : World) : Prop := e = .returned (.bool b) ∧ w = w'
theorem abs_any (s : Bool) (r : Nat) (h : r < SW) (w : World) : Calls Try.prog 20 #[.float .f64 (W s r)] w (RetF (W false r) w) := by
  have hb := bits_of
  have ho := of_bits
  have h1 : bits .andNot .u64 (W s r : Int) 9223372036854775808 = ((r : Nat) : Int) := by
    have := u64_andNot_nat (W s r) 9223372036854775808 (W_lt s r h) (by decide)
    rw [show (18446744073709551615 - 9223372036854775808 : Nat) = 9223372036854775807 by decide, W_abs s r h] at this
    exact this
  go_enter Try.func20, Try.ntmps20
  go_wp2
  go_ret
  exact ⟨by rw [W_eq]; rfl, rfl⟩
/-- IsInf (.., 0) at a finite word, at an infinity, at a NaN. -/
theorem inf_any (s : Bool) (r : Nat) (h : r < SW) (b : Bool) (hb : (Ieee.double.order (W false r) 9218868437227405311 == some .gt) = b) (w : World) : Calls Try.prog 15 #[.float .f64 (W s r), .int .i64 0] w (RetB b w) := by
  have h0 : FloatKind.f64.format = Ieee.double := rfl
  go_enter Try.func15, Try.ntmps15
  go_wp2_with (go_at_call 20; refine (abs_any s r h _).mono ?_; rintro e w' ⟨rfl, rfl⟩)
  go_ret
  exact ⟨rfl, rfl⟩
theorem f64_eq : FloatKind.f64.format = Ieee.double := rfl
theorem c_zero : (0 : Nat) = W false 0 := by decide
theorem c_one : 4607182418800017408 = W false (1023 * B) := by decide
theorem c_two : 4611686018427387904 = W false (1024 * B) := by decide
theorem c_max : 9218868437227405311 = W false (Inf - 1) := by decide
theorem c_nmax : 18442240474082181119 = W true (Inf - 1) := by decide
theorem c_least : 4503599627370496 = W false B := by decide
theorem ord_c {c : Nat} {t : Bool} {q : Nat} (hc : c = W t q) (hq : q ≤ Inf) (s : Bool) (r : Nat) (hr : r ≤ Inf) : Ieee.double.order (W s r) c = some (compare (val s r) (val t q)) := by rw [hc]; exact order_W s t r q hr hq
theorem ord_self (s : Bool) (r : Nat) (hr : r ≤ Inf) : Ieee.double.order (W s r) (W s r) = some .eq := by rw [order_W s s r r hr hr, cmp_eq rfl]
theorem inf_le {r : Nat} (h : r ≤ Inf) : r < SW := by simp only [Inf, SW] at *; omega
theorem val_f (r : Nat) : val false r = r := rfl
theorem val_t (r : Nat) : val true r = -r := rfl
theorem isnan_no (s : Bool) (r : Nat) (h : r ≤ Inf) (w : World) : Calls Try.prog 16 #[.float .f64 (W s r)] w (RetB false w) := by
  have h0 := f64_eq
  have h1 := ord_self s r h
  go_enter Try.func16, Try.ntmps16
  go_wp2
  go_ret
  exact ⟨rfl, rfl⟩
theorem isnan_yes (s : Bool) (r : Nat) (h : Inf < r) (hs : r < SW) (w : World) : Calls Try.prog 16 #[.float .f64 (W s r)] w (RetB true w) := by
  have h0 := f64_eq
  have h1 := order_nan s r (W s r) h hs
  go_enter Try.func16, Try.ntmps16
  go_wp2
  go_ret
  exact ⟨rfl, rfl⟩
theorem znan_no (s : Bool) (r : Nat) (h : r ≤ Inf) (w : World) : Calls Try.prog 6 #[.float .f64 (W s r)] w (RetB false w) := by
  have h0 := f64_eq
  have h1 := ord_self s r h
  go_enter Try.func6, Try.ntmps6
  go_wp2
  go_ret
  exact ⟨rfl, rfl⟩
theorem znan_yes (s : Bool) (r : Nat) (h : Inf < r) (hs : r < SW) (w : World) : Calls Try.prog 6 #[.float .f64 (W s r)] w (RetB true w) := by
  have h0 := f64_eq
  have h1 := order_nan s r (W s r) h hs
  go_enter Try.func6, Try.ntmps6
  go_wp2
  go_ret
  exact ⟨rfl, rfl⟩
theorem inf_no (s : Bool) (r : Nat) (h : r < Inf) (w : World) : Calls Try.prog 15 #[.float .f64 (W s r), .int .i64 0] w (RetB false w) := by
  refine inf_any s r (inf_le (by omega)) false ?_ w
  rw [ord_c c_max (by decide) false r (by omega)]
  by_cases h1 : r = Inf - 1
  · subst h1; rw [cmp_eq rfl]; rfl
  · rw [cmp_lt (by simp only [val_f, Inf] at *; omega)]; rfl
theorem inf_yes (s : Bool) (w : World) : Calls Try.prog 15 #[.float .f64 (W s Inf), .int .i64 0] w (RetB true w) := by
  refine inf_any s Inf (by decide) true ?_ w
  decide
theorem inf_nan (s : Bool) (r : Nat) (h : Inf < r) (hs : r < SW) (w : World) : Calls Try.prog 15 #[.float .f64 (W s r), .int .i64 0] w (RetB false w) := by
  refine inf_any s r hs false ?_ w
  rw [order_nan false r _ h hs]; rfl
def qq (r : Nat) : Nat := if r < B then scl r else r
def RetFI (b : Nat) (w : World) (e : Ending) (w' : World) : Prop := ∃ n : Int, e = .returned (.tuple #[.float .f64 b, .int .i64 n]) ∧ w = w'
theorem run_mul (x y r : Nat) (h : Ieee.double.mul x y = some r) (t : TypeId) (w : World) : (binOp .mul t (.float .f64 x) (.float .f64 y)).run Try.prog w = .ok (.float .f64 r) w := run_float_arith w .mul t .f64 x y r h
theorem run_div (x y r : Nat) (h : Ieee.double.div x y = some r) (t : TypeId) (w : World) : (binOp .quo t (.float .f64 x) (.float .f64 y)).run Try.prog w = .ok (.float .f64 r) w := run_float_arith w .quo t .f64 x y r h
theorem norm_any (s : Bool) (r : Nat) (h0 : r ≠ 0) (h : r < Inf) (w : World) : Calls Try.prog 17 #[.float .f64 (W s r)] w (RetFI (W s (qq r)) w) := by
  have hf := f64_eq
  by_cases hb : r < B
  · have h1 : Ieee.double.order (W false r) 4503599627370496 = some .lt := by
      rw [ord_c c_least (by decide) false r (by omega), cmp_lt (by simp only [val_f]; omega)]
    have h2 := run_mul _ _ _ (mul_scale s r h0 hb)
    go_enter Try.func17, Try.ntmps17
    go_wp2_with (go_at_call 20; refine (abs_any s r (inf_le (by omega)) _).mono ?_; rintro e w' ⟨rfl, rfl⟩)
    go_ret2
    exact ⟨-52, by unfold qq; rw [if_pos hb]; rfl, rfl⟩
  · have h1 : (Ieee.double.order (W false r) 4503599627370496 == some .lt) = false := by
      rw [ord_c c_least (by decide) false r (by omega)]
      by_cases h2 : r = B
      · rw [cmp_eq (by rw [h2])]; rfl
      · rw [cmp_gt (by simp only [val_f]; omega)]; rfl
    go_enter Try.func17, Try.ntmps17
    go_wp2_with (go_at_call 20; refine (abs_any s r (inf_le (by omega)) _).mono ?_; rintro e w' ⟨rfl, rfl⟩)
    go_ret2
    exact ⟨0, by unfold qq; rw [if_neg hb]; rfl, rfl⟩
theorem qq_lt (r : Nat) (h0 : r ≠ 0) (h : r < Inf) : qq r < Inf := by
  unfold qq; split
  · exact (scl_parts r h0 (by assumption)).2.2.1
  · exact h
set_option maxHeartbeats 1000000 in
theorem frexp_fin (s : Bool) (r : Nat) (h0 : r ≠ 0) (h : r < Inf) (w : World) : Calls Try.prog 14 #[.float .f64 (W s r)] w (RetFI (W s (1022 * B + qq r % B)) w) := by
  have hf := f64_eq
  have hq := qq_lt r h0 h
  have hb := bits_of
  have ho := of_bits
  have hz : (Ieee.double.order (W s r) 0 == some .eq) = false := by
    rw [ord_c c_zero (by decide) s r (by omega)]
    cases s
    · rw [cmp_gt (by simp only [val_f]; omega)]; rfl
    · rw [cmp_lt (by simp only [val_f, val_t]; omega)]; rfl
  have b1 : bits .andNot .u64 (W s (qq r) : Int) 9218868437227405312 = ((W s (qq r % B) : Nat) : Int) := by
    have := u64_andNot_nat (W s (qq r)) 9218868437227405312 (W_lt s _ (inf_le (by omega))) (by decide)
    rw [show (18446744073709551615 - 9218868437227405312 : Nat) = 9227875636482146303 by decide, W_strip s _ (inf_le (by omega))] at this
    exact this
  have hm : qq r % B < B := Nat.mod_lt _ B_pos
  have b2 : bits .or .u64 (W s (qq r % B) : Int) 4602678819172646912 = ((W s (1022 * B + qq r % B) : Nat) : Int) := by
    have := u64_or_nat (W s (qq r % B)) 4602678819172646912 (W_lt s _ (by simp only [B, SW] at *; omega)) (by decide)
    rw [W_half s _ hm] at this
    exact this
  clear hm hq
  go_enter Try.func14, Try.ntmps14
  go_wp2_with (first | (go_at_call 15; refine (inf_no s r h _).mono ?_; rintro e w' ⟨rfl, rfl⟩) | (go_at_call 16; refine (isnan_no s r (by omega) _).mono ?_; rintro e w' ⟨rfl, rfl⟩) | (go_at_call 17; refine (norm_any s r h0 h _).mono ?_; rintro e w' ⟨n, rfl, rfl⟩))
  go_ret2
  exact ⟨_, rfl, rfl⟩
theorem frexp_zero (s : Bool) (w : World) : Calls Try.prog 14 #[.float .f64 (W s 0)] w (RetFI (W s 0) w) := by
  have hf := f64_eq
  have hz : Ieee.double.order (W s 0) 0 = some .eq := by cases s <;> decide
  go_enter Try.func14, Try.ntmps14
  go_wp2_with fail
  go_ret2
  exact ⟨_, rfl, rfl⟩
theorem frexp_inf (s : Bool) (w : World) : Calls Try.prog 14 #[.float .f64 (W s Inf)] w (RetFI (W s Inf) w) := by
  have hf := f64_eq
  have hz : (Ieee.double.order (W s Inf) 0 == some .eq) = false := by cases s <;> decide
  go_enter Try.func14, Try.ntmps14
  go_wp2_with (first | (go_at_call 15; refine (inf_yes s _).mono ?_; rintro e w' ⟨rfl, rfl⟩))
  go_ret2
  exact ⟨_, rfl, rfl⟩
theorem frexp_nan (s : Bool) (r : Nat) (h : Inf < r) (hs : r < SW) (w : World) : Calls Try.prog 14 #[.float .f64 (W s r)] w (RetFI (W s r) w) := by
  have hf := f64_eq
  have hz : Ieee.double.order (W s r) 0 = none := order_nan s r 0 h hs
  go_enter Try.func14, Try.ntmps14
  go_wp2_with (first | (go_at_call 15; refine (inf_nan s r h hs _).mono ?_; rintro e w' ⟨rfl, rfl⟩) | (go_at_call 16; refine (isnan_yes s r h hs _).mono ?_; rintro e w' ⟨rfl, rfl⟩))
  go_ret2
  exact ⟨_, rfl, rfl⟩
theorem sig_of (x y z : Nat) (w : World) (hc : Calls Try.prog 14 #[.float .f64 x] w (RetFI y w)) (hm : Ieee.double.mul y 4611686018427387904 = some z) : Calls Try.prog 5 #[.float .f64 x] w (RetF z w) := by
  have hf := f64_eq
  have h2 := run_mul _ _ _ hm
  go_enter Try.func5, Try.ntmps5
  go_wp2_with (first | (go_at_call 14; refine hc.mono ?_; rintro e w' ⟨n, rfl, rfl⟩) | go_in)
  go_ret
  exact ⟨rfl, rfl⟩
theorem sig_fin (s : Bool) (r : Nat) (h0 : r ≠ 0) (h : r < Inf) (w : World) : Calls Try.prog 5 #[.float .f64 (W s r)] w (RetF (W s (nrm r)) w) :=
  sig_of _ _ _ w (frexp_fin s r h0 h w) (half_two s _ (Nat.mod_lt _ B_pos))
theorem sig_zero (s : Bool) (w : World) : Calls Try.prog 5 #[.float .f64 (W s 0)] w (RetF (W s 0) w) :=
  sig_of _ _ _ w (frexp_zero s w) (mul_two_zero s)
theorem sig_inf (s : Bool) (w : World) : Calls Try.prog 5 #[.float .f64 (W s Inf)] w (RetF (W s Inf) w) :=
  sig_of _ _ _ w (frexp_inf s w) (mul_two_inf s)
def RetNaN (w : World) (e : Ending) (w' : World) : Prop := ∃ (s : Bool) (r : Nat), Inf < r ∧ r < SW ∧ e = .returned (.float .f64 (W s r)) ∧ w' = w.drew
theorem nan_cut (x y t : Nat) : ∃ (s : Bool) (r : Nat), Inf < r ∧ r < SW ∧ (Question.nanBits .f64 x y).cut t = W s r := by
  refine ⟨t % 2 == 1, Inf + 1 + (t / 2) % (2 ^ 52 - 1), by omega, ?_, ?_⟩
  · have := Nat.mod_lt (t / 2) (show 0 < 2 ^ 52 - 1 by decide)
    simp only [Inf, SW]; omega
  · show (t % 2) * 2 ^ 63 + 0x7ff0000000000000 + 1 + (t / 2) % (2 ^ 52 - 1) = _
    rw [W_eq]
    rcases Nat.mod_two_eq_zero_or_one t with h | h <;> rw [h] <;> simp [Inf, SW] <;> omega
theorem run_mul_nan (x y : Nat) (h : Ieee.double.mul x y = none) (t : TypeId) (w : World) : (binOp .mul t (.float .f64 x) (.float .f64 y)).run Try.prog w = .ok (.float .f64 ((Question.nanBits .f64 x y).cut (w.tape w.drawn (.nanBits .f64 x y)))) w.drew := by
  have h' : FloatKind.f64.format.mul x y = none := h
  simp [binOp, Op.floatArith, h', Question.forced]
theorem sig_nan (s : Bool) (r : Nat) (h : Inf < r) (hs : r < SW) (w : World) : Calls Try.prog 5 #[.float .f64 (W s r)] w (RetNaN w) := by
  have hf := f64_eq
  have h2 := run_mul_nan _ _ (mul_two_nan s r h hs) 22 w
  obtain ⟨t, q, hq, hq', hc⟩ := nan_cut (W s r) 4611686018427387904 (w.tape w.drawn (.nanBits .f64 (W s r) 4611686018427387904))
  rw [hc] at h2
  clear hc
  go_enter Try.func5, Try.ntmps5
  go_wp2_with (first | (go_at_call 14; refine (frexp_nan s r h hs _).mono ?_; rintro e w' ⟨n, rfl, rfl⟩) | go_in)
  go_ret
  exact ⟨t, q, hq, hq', rfl, rfl⟩
end Go.Proofs.Ytgkgggddhekhpaa
