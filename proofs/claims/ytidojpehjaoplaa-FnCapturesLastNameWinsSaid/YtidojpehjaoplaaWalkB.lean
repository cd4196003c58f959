/-
  The walk of the law FnCapturesLastNameWins (n001_90), every input: the arguments that are too long answer true at once.
-/
import Derived.Test.YtidojpehjaoplaaWalkA
namespace Go.Proofs.Ytidojpehjaoplaa
set_option linter.unusedVariables false
open Go.ChangeShapes Go.WideShapes Go.ChangeAt Go.RowKit M
set_option maxRecDepth 100000 in
set_option maxHeartbeats 2000000 in
theorem fnCapturesLastNameWins.walk (a0 : Option Addr) (len0 cap0 : Nat) (z0 : List (Int)) (a1 : Option Addr) (len1 cap1 : Nat) (z1 : List (ByteArray)) (a2 : Option Addr) (len2 cap2 : Nat) (z2 : List (ByteArray)) (w : World) (w0 : SliceOf 1 (IsInt .u8) w a0 len0 z0) (w1 : SliceOf 1 (IsStr) w a1 len1 z1) (w2 : SliceOf 1 (IsStr) w a2 len2 z2) :
    Calls Try.prog 3 #[.slice a0 len0 cap0, .slice a1 len1 cap1, .slice a2 len2 cap2] w fun e w' => e = .returned (.bool true) ∧ Below w.heap.size w w' := by
  by_cases h : len0 ≤ 1048576 ∧ len1 ≤ 65536 ∧ len2 ≤ 65536
  · exact fnCapturesLastNameWins.main a0 len0 cap0 z0 a1 len1 cap1 z1 a2 len2 cap2 z2 w w0 w1 w2 h.1 h.2.1 h.2.2
  · have W0 := Lib.hid w0
    have W1 := Lib.hid w1
    have W2 := Lib.hid w2
    have l0 := w0.lt.2
    have l1 := w1.lt.2
    have l2 := w2.lt.2
    unfold maxLen at l0 l1 l2
    clear w0 w1 w2
    rcases (show 1048576 < len0 ∨ (len0 ≤ 1048576 ∧ 65536 < len1) ∨ (len0 ≤ 1048576 ∧ len1 ≤ 65536 ∧ 65536 < len2) by omega) with q | ⟨q, r⟩ | ⟨q, r, s⟩
    all_goals
      clear h
      go_enter Try.func3, Try.ntmps3
      go_wp2_with fail
      refine (zz4 a0 len0 cap0 z0 a1 len1 cap1 z1 a2 len2 cap2 z2 _ W0.out W1.out W2.out).mono ?_
      rintro e w' ⟨b, rfl, rfl⟩
      cases b
      · go_wp2_with fail
        go_ret
        exact ⟨rfl, Below.refl _ _⟩
      go_wp2_with fail
      go_ret
      exact ⟨rfl, Below.refl _ _⟩
end Go.Proofs.Ytidojpehjaoplaa
