/-
  The law on a prefix of blanks (n001_85).
-/
import Derived.Test.YtiallbkcpobkgaaWalkA
import Derived.Test.YtiallbkcpobkgaaShift
namespace Go.Proofs.Ytiallbkcpobkgaa
set_option linter.unusedVariables false
open Go.ChangeShapes Go.WideShapes Go.ChangeAt Go.RowKit M
theorem zz16 (a b : ByteArray) (ha : a.size ≤ maxLen) (hb : b.size ≤ maxLen) (w : World) : Calls Try.prog 16 #[.string a, .string b] w (Ret (.bool (fits (a.size + b.size))) w) := by
  by_cases hz : a.size + b.size ≤ 1048576
  · have HX := Lib.hid (show fits (a.size + b.size) = true from decide_eq_true hz)
    go_enter Try.func16, Try.ntmps16
    go_wp2
    go_ret
    exact ⟨by rw [HX.out]; rfl, 0, rfl⟩
  · have HX := Lib.hid (show fits (a.size + b.size) = false from decide_eq_false hz)
    by_cases h1 : a.size ≤ 1048576
    · by_cases h2 : b.size ≤ 1048576
      · go_enter Try.func16, Try.ntmps16
        go_wp2
        go_ret
        exact ⟨by rw [HX.out]; rfl, 0, rfl⟩
      · go_enter Try.func16, Try.ntmps16
        go_wp2
        go_ret
        exact ⟨by rw [HX.out]; rfl, 0, rfl⟩
    · go_enter Try.func16, Try.ntmps16
      go_wp2
      go_ret
      exact ⟨by rw [HX.out]; rfl, 0, rfl⟩
theorem Touch.over {H : Nat} {w b : World} (h : Touch (H ≤ ·) w b) (hH : H = w.heap.size) : Below w.heap.size w b := h.below (Nat.le_refl _) (fun k hk => by omega)
set_option maxHeartbeats 4000000 in
theorem fnNextWhitePrefixShifts.walk (a0 : ByteArray) (a1 : ByteArray) (w0 : a0.size ≤ maxLen) (w1 : a1.size ≤ maxLen) (w : World) :
    Calls Try.prog 5 #[.string a0, .string a1] w fun e w' => e = .returned (.bool true) ∧ Below w.heap.size w w' := by
  by_cases hz : a0.size + a1.size ≤ 1048576
  · have HX := Lib.hid (show fits (a0.size + a1.size) = true from decide_eq_true hz)
    have hS : (a0 ++ a1).size = a0.size + a1.size := ByteArray.size_append
    have HS := Lib.hid hS
    clear hS
    go_enter Try.func5, Try.ntmps5
    go_wp2_with fail
    refine (zz16 a0 a1 w0 w1 _).mono ?_
    rintro e w2 ⟨rfl, m, rfl⟩
    rw [HX.out]
    by_cases he : a1.size = 0
    · have t0 : ((a1.size : Int) == 0) = true := by rw [beq_iff_eq]; omega
      go_wp2_with fail
      go_ret
      exact ⟨rfl, ((Touch.refl _ _).drewN _).done⟩
    have t0 : ((a1.size : Int) == 0) = false := by rw [beq_eq_false_iff_ne]; omega
    go_wp2_with fail
    refine (all_white a0 _ (by omega)).mono ?_
    rintro e w2 ⟨(⟨hA, rfl⟩ | rfl), m2, rfl⟩
    · have HA := Lib.hid (NX_blank a0 a1 hA)
      clear hA
      go_wp2_with fail
      generalize hwx : w.drewN (m + m2) = wx
      have T0 := Lib.hid (show Touch (w.heap.size ≤ ·) w wx by rw [← hwx]; exact (Touch.refl _ _).drewN _)
      have HHH := Lib.hid (show wx.heap.size = w.heap.size by rw [← hwx]; rfl)
      clear hwx
      refine (new_lexer a1 _).mono ?_
      rintro e w2 ⟨rfl, hL, hB⟩
      have T1 := Lib.hid (T0.out.trans (Touch.of_below hB _))
      have La := Lib.hid hL
      have hsz : wx.heap.size < w2.heap.size := hL.lt
      clear hL hB
      go_wp2_with fail
      refine (new_lexer (a0 ++ a1) _).mono ?_
      rintro e w3 ⟨rfl, hL, hB⟩
      have T2 := Lib.hid (T1.out.trans (Touch.of_below hB _))
      have La2 := Lib.hid (show LX w3 wx.heap.size a1 0 from (hB.block _ hsz).trans La.out)
      have Lb := Lib.hid hL
      clear hL hB
      go_wp2_with fail
      refine (zznext a1 _ _ La2.out (by omega) (by omega)).mono ?_
      rintro e w4 ⟨rfl, hL, hT⟩
      have La4 := Lib.hid hL
      have Lb4 := Lib.hid (show LX w4 w2.heap.size (a0 ++ a1) 0 from Row.touch Lb.out hT (by omega))
      have T4 := Lib.hid (T2.out.trans (hT.mono (fun k _ hk => by have := HHH.out; omega)))
      clear hL hT
      go_wp2_with fail
      refine (zznext (a0 ++ a1) _ _ Lb4.out (by rw [HS.out]; omega) (by rw [HS.out]; omega)).mono ?_
      rintro e w5 ⟨rfl, hL, hT⟩
      have La5 := Lib.hid (show LX w5 wx.heap.size a1 (NX a1 0).2.2 from Row.touch La4.out hT (by omega))
      have Lb5 := Lib.hid hL
      have T5 := Lib.hid (T4.out.trans (hT.mono (fun k _ hk => by have := HHH.out; omega)))
      clear hL hT
      rw [HA.out]
      go_wp2_with fail
      refine (fields a1 _ _ _ La5.out).mono ?_
      rintro e w6 ⟨rfl, m6, rfl⟩
      unfold F7
      go_wp2_with fail
      refine (fields (a0 ++ a1) _ _ _ (Lb5.out.drewN m6)).mono ?_
      rintro e w7 ⟨rfl, m7, rfl⟩
      unfold F7
      rw [HA.out]
      have hle := NX_le a1 a1.size 0 (by omega)
      clear La5 Lb5 La4 Lb4 La2 Lb La HA
      simp only
      generalize (NX a1 0).2.2 = n at hle ⊢
      generalize (NX a1 0).2.1 = fl
      generalize (NX a1 0).1 = c
      have te : ((a0.size : Int) + (n : Int) == (n : Int) + (a0.size : Int)) = true := by rw [beq_iff_eq]; omega
      have te2 : (((a0.size + n : Nat) : Int) == (n : Int) + (a0.size : Int)) = true := by rw [beq_iff_eq]; omega
      go_wp2_with fail
      go_ret
      exact ⟨by simp, (T5.out.drewN _).over rfl⟩
    · go_wp2_with fail
      go_ret
      exact ⟨rfl, ((Touch.refl _ _).drewN _).done⟩
  · have HX := Lib.hid (show fits (a0.size + a1.size) = false from decide_eq_false hz)
    go_enter Try.func5, Try.ntmps5
    go_wp2_with fail
    refine (zz16 a0 a1 w0 w1 _).mono ?_
    rintro e w2 ⟨rfl, m, rfl⟩
    rw [HX.out]
    go_wp2_with fail
    go_ret
    exact ⟨rfl, ((Touch.refl _ _).drewN m).done⟩
end Go.Proofs.Ytiallbkcpobkgaa
