/-
  The walks of the laws FnStartsWithExact and FnEndsWithExact (n001_82): each returns true for every input.
-/
import Derived.Test.YtdmncgddpfkjkaaBase
namespace Go.Proofs.Ytdmncgddpfkjkaa
open Go.ChangeShapes Go.WideShapes Go.ChangeAt Go.RowKit
set_option linter.unusedVariables false
theorem grown_drewN {W w : World} (h : Grown W w) : ∀ n, Grown W (w.drewN n)
  | 0 => h
  | n + 1 => (grown_drewN h n).drew
theorem grown_trans {a b c : World} (h : Grown a b) (k : Grown b c) : Grown a c :=
  ⟨World.keptBut_trans h.1 k.1, fun x => (k.2.1 x).trans (h.2.1 x), Nat.le_trans h.2.2 k.2.2⟩
theorem fnStartsWithExact.walk (a0 : ByteArray) (a1 : ByteArray) (a2 : Int) (w0 : a0.size ≤ maxLen) (w1 : a1.size ≤ maxLen) (w2 : (Lit.int .i64 a2).wf = true) (w : World) :
    Calls Try.prog 4 #[.string a0, .string a1, .int .i64 a2] w fun e w' => e = .returned (.bool true) ∧ Grown w w' := by
  have hs : a0.size ≤ 9223372036854775807 := w0
  have ht : a1.size ≤ 9223372036854775807 := w1
  have hq : (preB a0 a1 != preB a0 a1) = false := by simp
  go_enter Try.func4, Try.ntmps4
  go_wp2_with (first | (go_at_call 12; refine (starts _ _ _ w0 w1).mono ?_; rintro e w' ⟨rfl, rfl⟩) | (go_at_call 13; refine (zpre _ _ _ w0 w1).mono ?_; rintro e w' ⟨rfl, n, rfl⟩) | (go_at_call 14; refine (starts_ref _ _ _).mono ?_; rintro e w' ⟨rfl, hg⟩) | go_in)
  all_goals go_ret
  all_goals refine ⟨rfl, ?_⟩
  all_goals first | exact Grown.refl _ | exact grown_trans (grown_drewN (Grown.refl _) _) ‹Grown _ _›
theorem fnEndsWithExact.walk (a0 : ByteArray) (a1 : ByteArray) (a2 : Int) (w0 : a0.size ≤ maxLen) (w1 : a1.size ≤ maxLen) (w2 : (Lit.int .i64 a2).wf = true) (w : World) :
    Calls Try.prog 3 #[.string a0, .string a1, .int .i64 a2] w fun e w' => e = .returned (.bool true) ∧ Grown w w' := by
  have hs : a0.size ≤ 9223372036854775807 := w0
  have ht : a1.size ≤ 9223372036854775807 := w1
  have hq : (sufB a0 a1 != sufB a0 a1) = false := by simp
  go_enter Try.func3, Try.ntmps3
  go_wp2_with (first | (go_at_call 8; refine (ends _ _ _ w0 w1).mono ?_; rintro e w' ⟨rfl, rfl⟩) | (go_at_call 9; refine (zsuf _ _ _ w0 w1).mono ?_; rintro e w' ⟨rfl, n, rfl⟩) | (go_at_call 10; refine (ends_ref _ _ _).mono ?_; rintro e w' ⟨rfl, hg⟩) | go_in)
  all_goals go_ret
  all_goals refine ⟨rfl, ?_⟩
  all_goals first | exact Grown.refl _ | exact grown_trans (grown_drewN (Grown.refl _) _) ‹Grown _ _›
end Go.Proofs.Ytdmncgddpfkjkaa
