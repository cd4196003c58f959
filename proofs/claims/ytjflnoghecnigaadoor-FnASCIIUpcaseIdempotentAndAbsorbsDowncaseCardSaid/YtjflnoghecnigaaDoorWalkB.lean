/-
  The walk of FnASCIIUpcaseIdempotentAndAbsorbsDowncase (n001_98).
-/
import Derived.Test.YtjflnoghecnigaaDoorTop
namespace Go.Proofs.YtjflnoghecnigaaDoor
set_option linter.unusedVariables false
open Go.ChangeShapes Go.WideShapes Go.ChangeAt Go.RowKit M
theorem mk_list (l : List UInt8) : (ByteArray.mk l.toArray).data.toList = l := by simp
theorem mk_size (l : List UInt8) : (ByteArray.mk l.toArray).size = l.length := by
  show l.toArray.size = l.length
  simp
set_option maxRecDepth 100000 in
set_option maxHeartbeats 4000000 in
theorem fnASCIIUpcaseIdempotentAndAbsorbsDowncase.walk (a0 : ByteArray) (w : World) (hT : Lib.Utf8Tabs 0 1 w) (w0 : a0.size ≤ maxLen) :
    Calls Tryd.prog 4 #[.string a0] w fun e w' => e = .returned (.bool true) ∧ Below w.heap.size w w' := by
  have HT := Lib.hid hT
  clear hT
  go_enter Tryd.func4, Tryd.ntmps4
  go_wp2_with fail
  refine (bytesB a0 w).mono ?_
  rintro e w' ⟨⟨b, rfl, hb⟩, rfl⟩
  cases b
  · clear hb
    go_wp2_with fail
    go_ret
    exact ⟨rfl, Below.refl _ _⟩
  · have h1 := hb rfl
    clear hb
    have hlu := mapD_len up up_asc _ a0.data.toList (Nat.le_refl _)
    have hld := mapD_len dn dn_asc _ a0.data.toList (Nat.le_refl _)
    have hln : a0.data.toList.length = a0.size := Array.length_toList
    rw [hln] at hlu hld
    obtain ⟨u, hu⟩ : ∃ u : ByteArray, u = ⟨(Lib.mapD up a0.data.toList).toArray⟩ := ⟨_, rfl⟩
    obtain ⟨dd, hd⟩ : ∃ u : ByteArray, u = ⟨(Lib.mapD dn a0.data.toList).toArray⟩ := ⟨_, rfl⟩
    have hus : u.size ≤ 3 * a0.size := by rw [hu, mk_size]; exact hlu
    have hds : dd.size ≤ 3 * a0.size := by rw [hd, mk_size]; exact hld
    have huu : (⟨(Lib.mapD up u.data.toList).toArray⟩ : ByteArray) = u := by rw [hu, mk_list, up_up]
    have hdu : (⟨(Lib.mapD up dd.data.toList).toArray⟩ : ByteArray) = u := by rw [hu, hd, mk_list, up_dn]
    have HU := Lib.hid hu
    have HD := Lib.hid hd
    have HUU := Lib.hid huu
    have HDU := Lib.hid hdu
    clear hu hd huu hdu hlu hld hln
    go_wp2_with fail
    refine (upZ w' a0 HT.out (by omega)).mono ?_
    rintro e u1 ⟨rfl, hb1⟩
    rw [← HU.out]
    have HB1 := Lib.hid hb1
    clear hb1
    go_wp2_with fail
    refine (upZ u1 u (Utf8Tabs_below HT.out HB1.out) (by omega)).mono ?_
    rintro e u2 ⟨rfl, hb2⟩
    rw [HUU.out]
    have HB2 := Lib.hid (HB1.out.trans (hb2.mono HB1.out.size))
    clear hb2
    go_wp2_with fail
    refine (dnZ u2 a0 (Utf8Tabs_below HT.out HB2.out) (by omega)).mono ?_
    rintro e u3 ⟨rfl, hb3⟩
    rw [← HD.out]
    have HB3 := Lib.hid (HB2.out.trans (hb3.mono HB2.out.size))
    clear hb3
    go_wp2_with fail
    refine (upZ u3 dd (Utf8Tabs_below HT.out HB3.out) (by omega)).mono ?_
    rintro e u4 ⟨rfl, hb4⟩
    rw [HDU.out]
    have HB4 := Lib.hid (HB3.out.trans (hb4.mono HB3.out.size))
    clear hb4
    go_wp2_with fail
    go_ret
    exact ⟨rfl, HB4.out⟩
end Go.Proofs.YtjflnoghecnigaaDoor
