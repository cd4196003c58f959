/-
  The laws of n001_85 walked: skipComment against the model, next against the model, where skipComment stops.
-/
import Derived.Test.YtiallbkcpobkgaaNxt
namespace Go.Proofs.Ytiallbkcpobkgaa
set_option linter.unusedVariables false
open Go.ChangeShapes Go.WideShapes Go.ChangeAt Go.RowKit M
def hash (s : ByteArray) : ByteArray := ByteArray.mk #[35] ++ s
theorem hash_size (s : ByteArray) : (hash s).size = s.size + 1 := by
  unfold hash; rw [ByteArray.size_append]
  have : (ByteArray.mk #[35]).size = 1 := rfl
  omega
theorem Touch.undraw {S : Nat → Prop} {w b : World} {m : Nat} (h : Touch S (w.drewN m) b) : Touch S w b := ⟨h.os, h.tape, h.output, h.size, h.block⟩
theorem Touch.done {w b : World} (h : Touch (· = w.heap.size) w b) : Below w.heap.size w b := h.below (Nat.le_refl _) (fun k hk => by omega)
def fits (n : Nat) : Bool := decide (n ≤ 1048576)
theorem zz7 (s : ByteArray) (hs : s.size ≤ maxLen) (w : World) : Calls Try.prog 7 #[.string s] w (Ret (.bool (fits s.size)) w) := by
  by_cases hz : s.size ≤ 1048576
  · have HX := Lib.hid (show fits s.size = true from decide_eq_true hz)
    go_enter Try.func7, Try.ntmps7
    go_wp2
    go_ret
    exact ⟨by rw [HX.out]; rfl, 0, rfl⟩
  · have HX := Lib.hid (show fits s.size = false from decide_eq_false hz)
    go_enter Try.func7, Try.ntmps7
    go_wp2
    go_ret
    exact ⟨by rw [HX.out]; rfl, 0, rfl⟩
theorem zz13 (s : ByteArray) (hs : s.size ≤ maxLen) (w : World) : Calls Try.prog 13 #[.string s] w (Ret (.bool (fits s.size)) w) := by
  by_cases hz : s.size ≤ 1048576
  · have HX := Lib.hid (show fits s.size = true from decide_eq_true hz)
    go_enter Try.func13, Try.ntmps13
    go_wp2
    go_ret
    exact ⟨by rw [HX.out]; rfl, 0, rfl⟩
  · have HX := Lib.hid (show fits s.size = false from decide_eq_false hz)
    go_enter Try.func13, Try.ntmps13
    go_wp2
    go_ret
    exact ⟨by rw [HX.out]; rfl, 0, rfl⟩
theorem zz18 (s : ByteArray) (hs : s.size ≤ maxLen) (w : World) : Calls Try.prog 18 #[.string s] w (Ret (.bool (fits s.size)) w) := by
  by_cases hz : s.size ≤ 1048576
  · have HX := Lib.hid (show fits s.size = true from decide_eq_true hz)
    go_enter Try.func18, Try.ntmps18
    go_wp2
    go_ret
    exact ⟨by rw [HX.out]; rfl, 0, rfl⟩
  · have HX := Lib.hid (show fits s.size = false from decide_eq_false hz)
    go_enter Try.func18, Try.ntmps18
    go_wp2
    go_ret
    exact ⟨by rw [HX.out]; rfl, 0, rfl⟩
set_option maxHeartbeats 4000000 in
theorem fnSkipCommentMatchesModel.walk (a0 : ByteArray) (w0 : a0.size ≤ maxLen) (w : World) :
    Calls Try.prog 3 #[.string a0] w fun e w' => e = .returned (.bool true) ∧ Below w.heap.size w w' := by
  by_cases hz : a0.size ≤ 1048576
  · have HX := Lib.hid (show fits a0.size = true from decide_eq_true hz)
    have HH := hash_size a0
    go_enter Try.func3, Try.ntmps3
    go_wp2_with fail
    refine (zz7 a0 w0 _).mono ?_
    rintro e w1 ⟨rfl, m, rfl⟩
    rw [HX.out]
    go_wp2_with fail
    refine (new_lexer (hash a0) _).mono ?_
    rintro e w1 ⟨rfl, hL, hB⟩
    have T := Lib.hid (Touch.of_below hB (· = w.heap.size))
    have L := Lib.hid hL
    clear hL hB
    go_wp2_with fail
    refine (set_off (hash a0) _ 0 1 _ L.out).mono ?_
    rintro e w2 ⟨rfl, hL, hT⟩
    have T2 := Lib.hid (T.out.trans hT)
    have L2 := Lib.hid hL
    clear hL hT
    go_wp2_with fail
    refine (zzskip (hash a0) _ 1 _ L2.out (by omega) (by omega)).mono ?_
    rintro e w3 ⟨rfl, hL, hT⟩
    have T3 := Lib.hid (T2.out.trans hT)
    have L3 := Lib.hid hL
    clear hL hT
    go_wp2_with fail
    refine (fields (hash a0) _ _ _ L3.out).mono ?_
    rintro e w4 ⟨rfl, m4, rfl⟩
    unfold F7
    go_wp2_with fail
    refine (comment_end (hash a0) 1 _ (by omega) (by omega)).mono ?_
    rintro e w5 ⟨rfl, m5, rfl⟩
    go_wp2_with fail
    go_ret
    exact ⟨by simp, ((T3.out.drewN _).undraw).done⟩
  · have HX := Lib.hid (show fits a0.size = false from decide_eq_false hz)
    go_enter Try.func3, Try.ntmps3
    go_wp2_with fail
    refine (zz7 a0 w0 _).mono ?_
    rintro e w1 ⟨rfl, m, rfl⟩
    rw [HX.out]
    go_wp2_with fail
    go_ret
    exact ⟨rfl, ((Touch.refl _ _).drewN m).done⟩
set_option maxHeartbeats 4000000 in
theorem fnNextSkipsBlanksAndComments.walk (a0 : ByteArray) (w0 : a0.size ≤ maxLen) (w : World) :
    Calls Try.prog 4 #[.string a0] w fun e w' => e = .returned (.bool true) ∧ Below w.heap.size w w' := by
  by_cases hz : a0.size ≤ 1048576
  · have HX := Lib.hid (show fits a0.size = true from decide_eq_true hz)
    go_enter Try.func4, Try.ntmps4
    go_wp2_with fail
    refine (zz13 a0 w0 _).mono ?_
    rintro e w1 ⟨rfl, m, rfl⟩
    rw [HX.out]
    by_cases he : a0.size = 0
    · have t0 : ((a0.size : Int) == 0) = true := by rw [beq_iff_eq]; omega
      go_wp2_with fail
      go_ret
      exact ⟨rfl, ((Touch.refl _ _).drewN m).done⟩
    have t0 : ((a0.size : Int) == 0) = false := by rw [beq_eq_false_iff_ne]; omega
    go_wp2_with fail
    refine (new_lexer a0 _).mono ?_
    rintro e w1 ⟨rfl, hL, hB⟩
    have T := Lib.hid (Touch.of_below hB (· = w.heap.size))
    have L := Lib.hid hL
    clear hL hB
    go_wp2_with fail
    refine (zznext a0 _ _ L.out (by omega) (by omega)).mono ?_
    rintro e w3 ⟨rfl, hL, hT⟩
    have T3 := Lib.hid (T.out.trans hT)
    have L3 := Lib.hid hL
    clear hL hT
    go_wp2_with fail
    refine (fields a0 _ _ _ L3.out).mono ?_
    rintro e w4 ⟨rfl, m4, rfl⟩
    unfold F7
    go_wp2_with fail
    refine (model_next a0 _ (by omega)).mono ?_
    rintro e w5 ⟨rfl, m5, rfl⟩
    go_wp2_with fail
    go_ret
    exact ⟨by simp, ((T3.out.drewN _).undraw).done⟩
  · have HX := Lib.hid (show fits a0.size = false from decide_eq_false hz)
    go_enter Try.func4, Try.ntmps4
    go_wp2_with fail
    refine (zz13 a0 w0 _).mono ?_
    rintro e w1 ⟨rfl, m, rfl⟩
    rw [HX.out]
    go_wp2_with fail
    go_ret
    exact ⟨rfl, ((Touch.refl _ _).drewN m).done⟩
end Go.Proofs.Ytiallbkcpobkgaa
