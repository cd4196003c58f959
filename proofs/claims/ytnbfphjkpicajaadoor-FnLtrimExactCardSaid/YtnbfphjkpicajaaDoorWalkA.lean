/-
  The walk of FnLtrimExact (n001_95).
-/
import Derived.Test.YtnbfphjkpicajaaDoorTop
namespace Go.Proofs.YtnbfphjkpicajaaDoor
set_option linter.unusedVariables false
open Go.ChangeShapes Go.WideShapes Go.ChangeAt Go.RowKit M
set_option maxRecDepth 100000 in
set_option maxHeartbeats 4000000 in
theorem fnLtrimExact.walk (a0 : ByteArray) (a1 : Int) (w : World) (hT : Lib.WhiteTab (lays199_ren.g 6) w) (w0 : a0.size ≤ maxLen) :
    Calls Tryd.prog 3 #[.string a0, .int .i64 a1] w fun e w' => e = .returned (.bool true) ∧ Below w.heap.size w w' := by
  have HT := Lib.hid hT
  clear hT
  go_enter Tryd.func3, Tryd.ntmps3
  go_wp2_with fail
  refine (bytesA a0 a1 w).mono ?_
  rintro e w' ⟨⟨b, rfl, hb⟩, rfl⟩
  cases b
  · clear hb
    go_wp2_with fail
    go_ret
    exact ⟨rfl, Below.refl _ _⟩
  · have h1 := hb rfl
    clear hb
    go_wp2_with fail
    refine (trimZ w' a0 HT.out).mono ?_
    rintro e u1 ⟨rfl, hb1⟩
    obtain ⟨got, hgot⟩ : ∃ g : ByteArray, g = trs a0 := ⟨_, rfl⟩
    rw [← hgot]
    have HG := Lib.hid hgot
    have HB1 := Lib.hid hb1
    clear hgot hb1
    go_wp2_with fail
    refine (modelC u1 a0 h1).mono ?_
    rintro e u2 ⟨rfl, rfl⟩
    rw [← HG.out]
    go_wp2_with fail
    refine (intZ u2 a1).mono ?_
    rintro e u3 ⟨rfl, hb3⟩
    have HB3 := Lib.hid (HB1.out.trans (hb3.mono HB1.out.size))
    clear hb3
    go_wp2_with fail
    go_ret
    exact ⟨rfl, HB3.out⟩
end Go.Proofs.YtnbfphjkpicajaaDoor
