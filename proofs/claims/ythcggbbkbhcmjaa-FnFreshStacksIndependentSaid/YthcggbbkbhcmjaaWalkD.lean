/-
  The walk of the law FnFreshStacksIndependent (n001_8), all inputs.
-/
import Derived.Test.YthcggbbkbhcmjaaWalkC
namespace Go.Proofs.Ythcggbbkbhcmjaa
set_option linter.unusedVariables false
open Go.ChangeShapes Go.WideShapes Go.ChangeAt Go.RowKit M
set_option maxRecDepth 100000 in
set_option maxHeartbeats 4000000 in
theorem fnFreshStacksIndependent.walk (a0 : Option Addr) (len0 cap0 : Nat) (z0 : List Int) (a1 : Option Addr) (len1 cap1 : Nat) (z1 : List Int) (w : World) (w0 : IsRow .i64 w a0 len0 cap0 z0) (w1 : IsRow .i64 w a1 len1 cap1 z1) :
    Calls Try.prog 7 #[.slice a0 len0 cap0, .slice a1 len1 cap1] w fun e w' => e = .returned (.bool true) ∧ Below w.heap.size w w' := by
  have hm := w0.len.2
  have hm1 := w1.len.2
  unfold maxLen at hm hm1
  by_cases h0 : len0 ≤ 65536
  · by_cases h1 : len1 ≤ 65536
    · by_cases h2 : 8 * (len0 + len1) ≤ 1048576
      · by_cases h3 : len0 < len1
        · exact fnFreshStacksIndependent.main a0 len0 cap0 z0 a1 len1 cap1 z1 w w0 w1 h0 h1 h2 len1 (by omega) (by omega) h1 (.inl ⟨h3, Nat.le_refl _⟩)
        · exact fnFreshStacksIndependent.main a0 len0 cap0 z0 a1 len1 cap1 z1 w w0 w1 h0 h1 h2 len0 (by omega) (by omega) h0 (.inr ⟨by omega, Nat.le_refl _⟩)
      · clear w0 w1
        go_enter Try.func7, Try.ntmps7
        go_wp2
        all_goals (go_ret; exact ⟨rfl, Below.refl _ _⟩)
    · clear w0 w1
      go_enter Try.func7, Try.ntmps7
      go_wp2
      all_goals (go_ret; exact ⟨rfl, Below.refl _ _⟩)
  · clear w0 w1
    go_enter Try.func7, Try.ntmps7
    go_wp2
    all_goals (go_ret; exact ⟨rfl, Below.refl _ _⟩)
end Go.Proofs.Ythcggbbkbhcmjaa
