/-
  The law on where skipComment stops (n001_85).
-/
import Derived.Test.YtiallbkcpobkgaaWalkA
namespace Go.Proofs.Ytiallbkcpobkgaa
set_option linter.unusedVariables false
open Go.ChangeShapes Go.WideShapes Go.ChangeAt Go.RowKit M
set_option maxHeartbeats 4000000 in
theorem fnSkipCommentStopsAtLineEndOrNul.walk (a0 : ByteArray) (w0 : a0.size ≤ maxLen) (w : World) :
    Calls Try.prog 6 #[.string a0] w fun e w' => e = .returned (.bool true) ∧ Below w.heap.size w w' := by
  by_cases hz : a0.size ≤ 1048576
  · have HX := Lib.hid (show fits a0.size = true from decide_eq_true hz)
    go_enter Try.func6, Try.ntmps6
    go_wp2_with fail
    refine (zz18 a0 w0 _).mono ?_
    rintro e w1 ⟨rfl, m, rfl⟩
    rw [HX.out]
    go_wp2_with fail
    generalize hsrc : (ByteArray.mk #[35] ++ a0) = src
    have HH : src.size = a0.size + 1 := by rw [← hsrc]; exact hash_size a0
    have HN : src.size ≤ 1048577 := by omega
    have HP : 1 ≤ src.size := by omega
    clear hsrc HH
    refine (new_lexer src _).mono ?_
    rintro e w1 ⟨rfl, hL, hB⟩
    have T := Lib.hid (Touch.of_below hB (· = w.heap.size))
    have L := Lib.hid hL
    clear hL hB
    go_wp2_with fail
    refine (set_off src _ 0 1 _ L.out).mono ?_
    rintro e w2 ⟨rfl, hL, hT⟩
    have T2 := Lib.hid (T.out.trans hT)
    have L2 := Lib.hid hL
    clear hL hT
    go_wp2_with fail
    refine (zzskip src _ 1 _ L2.out (by omega) (by omega)).mono ?_
    rintro e w3 ⟨rfl, hL, hT⟩
    have T3 := Lib.hid (T2.out.trans hT)
    have E := cend_ok src 1 (by omega)
    obtain ⟨⟨off, fl⟩, hr⟩ : ∃ r, cend src 1 = r := ⟨_, rfl⟩
    rw [hr] at hL E ⊢
    have L3 := Lib.hid hL
    obtain ⟨e1, e2, e3, e4, e5⟩ := E
    simp only at e1 e2
    have E3 := Lib.hid e3
    have E4 := Lib.hid e4
    have E5 := Lib.hid e5
    clear hL hT hr e3 e4 e5
    go_wp2_with fail
    refine (fields src _ _ _ L3.out).mono ?_
    rintro e w4 ⟨rfl, m4, rfl⟩
    unfold F7
    simp only
    go_wp2_with fail
    clear T T2 L L2 L3 HX
    go_loopw [13] (fun i wr => ∃ (k m5 : Nat), 1 ≤ k ∧ k ≤ off ∧ i = .int .i64 k ∧ wr = w3.drewN m5) (fun i _ => off - (intOf i).toNat)
    case atStart => exact ⟨1, m4, Nat.le_refl _, e1, rfl, rfl⟩
    case round =>
      obtain ⟨k, m5, hk1, hk2, rfl, rfl⟩ := hrel
      by_cases hlt : k < off
      · have hks : k < src.size := by omega
        have t0 : ((src[k].toNat : Int) == 0) = false := by
          rw [byteAt_in src k hks, beq_eq_false_iff_ne]
          have := E3.out k hk1 hlt
          omega
        go_wp2_with fail
        exact ⟨⟨k + 1, m5, by omega, by omega, by go_num, rfl⟩, by simp [intOf]; omega⟩
      · cases fl with
        | true =>
          by_cases hend : off = src.size
          · have te : ((off : Int) == (src.size : Int)) = true := by rw [beq_iff_eq]; omega
            go_wp2_with fail
            go_ret
            exact ⟨by simp, ((T3.out.drewN _).undraw).done⟩
          · have te : ((off : Int) == (src.size : Int)) = false := by rw [beq_eq_false_iff_ne]; omega
            have hos : off < src.size := by omega
            have hbz : byteAt src off = 0 := (E4.out rfl).resolve_left hend
            have t0 : ((src[off].toNat : Int) == 0) = true := by rw [byteAt_in src off hos, hbz]; rfl
            clear hbz
            go_wp2_with fail
            go_ret
            exact ⟨by simp, ((T3.out.drewN _).undraw).done⟩
        | false =>
          obtain ⟨hos, hb⟩ := E5.out rfl
          by_cases h10 : byteAt src off = 10
          · have t0 : ((src[off].toNat : Int) == 10) = true := by rw [byteAt_in src off hos, h10]; rfl
            clear hb h10
            go_wp2_with fail
            go_ret
            exact ⟨by simp, ((T3.out.drewN _).undraw).done⟩
          · have h13 : byteAt src off = 13 := hb.resolve_left h10
            have t0 : ((src[off].toNat : Int) == 10) = false := by rw [byteAt_in src off hos, h13]; rfl
            have t1 : ((src[off].toNat : Int) == 13) = true := by rw [byteAt_in src off hos, h13]; rfl
            clear hb h10 h13
            go_wp2_with fail
            go_ret
            exact ⟨by simp, ((T3.out.drewN _).undraw).done⟩
  · have HX := Lib.hid (show fits a0.size = false from decide_eq_false hz)
    go_enter Try.func6, Try.ntmps6
    go_wp2_with fail
    refine (zz18 a0 w0 _).mono ?_
    rintro e w1 ⟨rfl, m, rfl⟩
    rw [HX.out]
    go_wp2_with fail
    go_ret
    exact ⟨rfl, ((Touch.refl _ _).drewN m).done⟩
end Go.Proofs.Ytiallbkcpobkgaa
