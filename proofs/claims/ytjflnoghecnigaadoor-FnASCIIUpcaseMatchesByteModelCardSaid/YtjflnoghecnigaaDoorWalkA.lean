/-
  The walk of FnASCIIUpcaseMatchesByteModel (n001_98).
-/
import Derived.Test.YtjflnoghecnigaaDoorTop
import Derived.Test.YtjflnoghecnigaaDoorMod
namespace Go.Proofs.YtjflnoghecnigaaDoor
set_option linter.unusedVariables false
open Go.ChangeShapes Go.WideShapes Go.ChangeAt Go.RowKit M
set_option maxRecDepth 100000 in
set_option maxHeartbeats 4000000 in
theorem fnASCIIUpcaseMatchesByteModel.walk (a0 : ByteArray) (w : World) (hT : Lib.Utf8Tabs 0 1 w) (w0 : a0.size ≤ maxLen) :
    Calls Tryd.prog 3 #[.string a0] w fun e w' => e = .returned (.bool true) ∧ Below w.heap.size w w' := by
  have HT := Lib.hid hT
  clear hT
  go_enter Tryd.func3, Tryd.ntmps3
  go_wp2_with fail
  refine (bytesA a0 w).mono ?_
  rintro e w' ⟨⟨b, rfl, hb⟩, rfl⟩
  cases b
  · clear hb
    go_wp2_with fail
    go_ret
    exact ⟨rfl, Below.refl _ _⟩
  · have h1 := hb rfl
    clear hb
    go_wp2_with fail
    refine (upZ w' a0 HT.out (by omega)).mono ?_
    rintro e u1 ⟨rfl, hb1⟩
    obtain ⟨got, hgot⟩ : ∃ g : ByteArray, g = ⟨(Lib.mapD up a0.data.toList).toArray⟩ := ⟨_, rfl⟩
    rw [← hgot]
    have HG := Lib.hid hgot
    have HB1 := Lib.hid hb1
    clear hgot hb1
    go_wp2_with fail
    refine (modelC u1 a0 h1).mono ?_
    rintro e u2 ⟨rfl, hb2⟩
    have HB2 := Lib.hid (HB1.out.trans (hb2.mono HB1.out.size))
    rw [← HG.out]
    clear hb2
    go_wp2_with fail
    go_ret
    exact ⟨rfl, HB2.out⟩
end Go.Proofs.YtjflnoghecnigaaDoor
