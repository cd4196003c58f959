/-
  Contracts of the law's helpers zzHex, zzCont, zzSeqLen (n001_83).
-/
import Derived.Test.YtfbpffgcofdciaaDoorByt
import Derived.Test.YtfbpffgcofdciaaDoorShelf
import Derived.Test.YtfbpffgcofdciaaDoorDec
import Derived.Test.YtfbpffgcofdciaaDoorRows
namespace Go.Proofs.YtfbpffgcofdciaaDoor
set_option linter.unusedVariables false
open Go.ChangeShapes Go.WideShapes Go.ChangeAt Go.RowKit M
def hexOf (d : Nat) : Nat := if d < 10 then 48 + d else 87 + d
theorem hexC (d : Nat) (hd : d < 16) (w : World) : Calls Tryd.prog 14 #[.int .u8 d] w fun e w' => e = .returned (.int .u8 (hexOf d)) ∧ w' = w := by
  by_cases h : d < 10
  · have H := Lib.hid (show hexOf d = 48 + d from if_pos h)
    go_enter Tryd.func14, Tryd.ntmps14
    go_wp2_with fail
    go_ret
    refine ⟨?_, rfl⟩
    rw [H.out]
    simp
    try omega
  · have H := Lib.hid (show hexOf d = 87 + d from if_neg h)
    go_enter Tryd.func14, Tryd.ntmps14
    go_wp2_with fail
    go_ret
    refine ⟨?_, rfl⟩
    rw [H.out]
    simp
    try omega
def contB (s : ByteArray) (i lo hi : Nat) : Bool := decide (i < s.size) && (decide (lo ≤ (s.get! i).toNat) && decide ((s.get! i).toNat ≤ hi))
theorem get_bang (s : ByteArray) (i : Nat) (h : i < s.size) : s.get! i = s[i] := by
  cases s with
  | mk d =>
    show d[i]! = d[i]
    exact getElem!_pos d i h
theorem contC (s : ByteArray) (i lo hi : Nat) (hi1 : i ≤ 1099511627776) (w : World) : Calls Tryd.prog 18 #[.string s, .int .i64 i, .int .u8 lo, .int .u8 hi] w fun e w' => e = .returned (.bool (contB s i lo hi)) ∧ w' = w := by
  by_cases h : i < s.size
  · have hg := get_bang s i h
    have H := Lib.hid (show contB s i lo hi = (decide (lo ≤ s[i].toNat) && decide (s[i].toNat ≤ hi)) by unfold contB; rw [hg, decide_eq_true h, Bool.true_and])
    clear hg
    rw [H.out]
    by_cases h1 : lo ≤ s[i].toNat
    · by_cases h2 : s[i].toNat ≤ hi
      · rw [decide_eq_true h1, decide_eq_true h2]
        go_enter Tryd.func18, Tryd.ntmps18
        go_wp2_with fail
        go_ret
        exact ⟨rfl, rfl⟩
      · rw [decide_eq_true h1, decide_eq_false h2]
        go_enter Tryd.func18, Tryd.ntmps18
        go_wp2_with fail
        go_ret
        exact ⟨rfl, rfl⟩
    · rw [decide_eq_false h1]
      go_enter Tryd.func18, Tryd.ntmps18
      go_wp2_with fail
      go_ret
      exact ⟨rfl, rfl⟩
  · have H := Lib.hid (show contB s i lo hi = false by unfold contB; rw [decide_eq_false h, Bool.false_and])
    rw [H.out]
    go_enter Tryd.func18, Tryd.ntmps18
    go_wp2_with fail
    go_ret
    exact ⟨rfl, rfl⟩
end Go.Proofs.YtfbpffgcofdciaaDoor
