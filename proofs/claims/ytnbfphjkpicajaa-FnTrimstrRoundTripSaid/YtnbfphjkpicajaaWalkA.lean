/-
  The walks of the laws on ltrimstr, rtrimstr and trimstr (n001_95): each returns true for every input.
-/
import Derived.Test.YtnbfphjkpicajaaLaws
namespace Go.Proofs.Ytnbfphjkpicajaa
open Go.ChangeShapes Go.WideShapes Go.ChangeAt Go.RowKit M
set_option linter.unusedVariables false
set_option maxHeartbeats 1000000 in
theorem fnLtrimstrRoundTrip.walk (a0 : ByteArray) (a1 : ByteArray) (w0 : a0.size ≤ maxLen) (w1 : a1.size ≤ maxLen) (w : World) :
    Calls Try.prog 3 #[.string a0, .string a1] w fun e w' => e = .returned (.bool true) ∧ Grown w w' := by
  have hs : a0.size ≤ 9223372036854775807 := w0
  have ht : a1.size ≤ 9223372036854775807 := w1
  by_cases h0 : a0.size + a1.size ≤ 1048576
  · have hq := ltr_app a0 a1
    have hz : (a1 ++ a0).size ≤ maxLen := by rw [ByteArray.size_append]; unfold maxLen; omega
    have HZ := Lib.hid hz
    clear hz
    have hle := ltr_le a0 a1
    have hz2 : (ltr a0 a1).size ≤ maxLen := Nat.le_trans hle w0
    have HZ2 := Lib.hid hz2
    clear hz2
    have hsu := ltr_suf a0 a1
    rcases ltr_size a0 a1 with h | h
    · have h2 : (((ltr a0 a1).size : Int) == (a0.size : Int)) = true := by simp [h]
      clear h
      go_enter Try.func3, Try.ntmps3
      go_wp2_with (first | (go_at_call 7; go_in) | fail)
      refine (ltrs _ _ _ HZ.out w1).mono ?_
      rintro e w' ⟨rfl, rfl⟩
      go_wp2_with fail
      refine (ltrs _ _ _ w0 w1).mono ?_
      rintro e w' ⟨rfl, rfl⟩
      go_wp2_with fail
      refine (zsuf _ _ _ w0 HZ2.out).mono ?_
      rintro e w' ⟨rfl, n, rfl⟩
      go_wp2_with fail
      go_ret
      exact ⟨rfl, grown_drewN (Grown.refl _) _⟩
    · have h2 : (((ltr a0 a1).size : Int) + (a1.size : Int) == (a0.size : Int)) = true := by simp; omega
      clear h
      by_cases h3 : (ltr a0 a1).size = a0.size
      all_goals
        first | (have h4 : (((ltr a0 a1).size : Int) == (a0.size : Int)) = true := by simp [h3]) | (have h4 : (((ltr a0 a1).size : Int) == (a0.size : Int)) = false := by rw [beq_eq_false_iff_ne]; omega)
        clear h3
        go_enter Try.func3, Try.ntmps3
        go_wp2_with (first | (go_at_call 7; go_in) | fail)
        refine (ltrs _ _ _ HZ.out w1).mono ?_
        rintro e w' ⟨rfl, rfl⟩
        go_wp2_with fail
        refine (ltrs _ _ _ w0 w1).mono ?_
        rintro e w' ⟨rfl, rfl⟩
        go_wp2_with fail
        refine (zsuf _ _ _ w0 HZ2.out).mono ?_
        rintro e w' ⟨rfl, n, rfl⟩
        go_wp2_with fail
        go_ret
        exact ⟨rfl, grown_drewN (Grown.refl _) _⟩
  · go_enter Try.func3, Try.ntmps3
    go_wp2
    all_goals (go_ret; exact ⟨rfl, Grown.refl _⟩)
set_option maxHeartbeats 1000000 in
theorem fnRtrimstrRoundTrip.walk (a0 : ByteArray) (a1 : ByteArray) (w0 : a0.size ≤ maxLen) (w1 : a1.size ≤ maxLen) (w : World) :
    Calls Try.prog 4 #[.string a0, .string a1] w fun e w' => e = .returned (.bool true) ∧ Grown w w' := by
  have hs : a0.size ≤ 9223372036854775807 := w0
  have ht : a1.size ≤ 9223372036854775807 := w1
  by_cases h0 : a0.size + a1.size ≤ 1048576
  · have hq := rtr_app a0 a1
    have hz : (a0 ++ a1).size ≤ maxLen := by rw [ByteArray.size_append]; unfold maxLen; omega
    have HZ := Lib.hid hz
    clear hz
    have hle : (rtr a0 a1).size ≤ a0.size := by have := rtr_size a0 a1; omega
    have hz2 : (rtr a0 a1).size ≤ maxLen := Nat.le_trans hle w0
    have HZ2 := Lib.hid hz2
    clear hz2
    have hsu := rtr_pre a0 a1
    have h := rtr_size a0 a1
    by_cases h3 : (rtr a0 a1).size = a0.size
    · have h4 : (((rtr a0 a1).size : Int) == (a0.size : Int)) = true := by simp [h3]
      clear h3 h
      go_enter Try.func4, Try.ntmps4
      go_wp2_with (first | (go_at_call 10; go_in) | fail)
      refine (rtrs _ _ _ HZ.out w1).mono ?_
      rintro e w' ⟨rfl, rfl⟩
      go_wp2_with fail
      refine (rtrs _ _ _ w0 w1).mono ?_
      rintro e w' ⟨rfl, rfl⟩
      go_wp2_with fail
      refine (zpre _ _ _ w0 HZ2.out).mono ?_
      rintro e w' ⟨rfl, n, rfl⟩
      go_wp2_with fail
      go_ret
      exact ⟨rfl, grown_drewN (Grown.refl _) _⟩
    · have h4 : (((rtr a0 a1).size : Int) == (a0.size : Int)) = false := by rw [beq_eq_false_iff_ne]; omega
      have h2 : (((rtr a0 a1).size : Int) + (a1.size : Int) == (a0.size : Int)) = true := by simp; omega
      clear h3 h
      go_enter Try.func4, Try.ntmps4
      go_wp2_with (first | (go_at_call 10; go_in) | fail)
      refine (rtrs _ _ _ HZ.out w1).mono ?_
      rintro e w' ⟨rfl, rfl⟩
      go_wp2_with fail
      refine (rtrs _ _ _ w0 w1).mono ?_
      rintro e w' ⟨rfl, rfl⟩
      go_wp2_with fail
      refine (zpre _ _ _ w0 HZ2.out).mono ?_
      rintro e w' ⟨rfl, n, rfl⟩
      go_wp2_with fail
      go_ret
      exact ⟨rfl, grown_drewN (Grown.refl _) _⟩
  · go_enter Try.func4, Try.ntmps4
    go_wp2
    all_goals (go_ret; exact ⟨rfl, Grown.refl _⟩)
set_option maxHeartbeats 1000000 in
theorem fnTrimstrRoundTrip.walk (a0 : ByteArray) (a1 : ByteArray) (w0 : a0.size ≤ maxLen) (w1 : a1.size ≤ maxLen) (w : World) :
    Calls Try.prog 5 #[.string a0, .string a1] w fun e w' => e = .returned (.bool true) ∧ Grown w w' := by
  have hs : a0.size ≤ 9223372036854775807 := w0
  have ht : a1.size ≤ 9223372036854775807 := w1
  by_cases h0 : a0.size + 2 * a1.size ≤ 1048576
  · have hq := tr_app a0 a1
    have hz : (a1 ++ a0 ++ a1).size ≤ maxLen := by rw [ByteArray.size_append, ByteArray.size_append]; unfold maxLen; omega
    have HZ := Lib.hid hz
    clear hz
    have h := tr_size a0 a1
    obtain ⟨r, hr⟩ : ∃ r, rtr (ltr a0 a1) a1 = r := ⟨_, rfl⟩
    rw [hr] at h
    by_cases c1 : r.size = a0.size
    · have e1 : ((a0.size : Int) - (r.size : Int) == 0) = true := by simp; omega
      have e2 : r.size ≤ a0.size := by omega
      clear c1 h
      go_enter Try.func5, Try.ntmps5
      go_wp2_with (first | (go_at_call 13; go_in) | fail)
      refine (trs _ _ _ HZ.out w1).mono ?_
      rintro e w' ⟨rfl, rfl⟩
      go_wp2_with fail
      refine (trs _ _ _ w0 w1).mono ?_
      rintro e w' ⟨rfl, rfl⟩
      go_wp2_with fail
      go_ret
      exact ⟨rfl, Grown.refl _⟩
    · have e1 : ((a0.size : Int) - (r.size : Int) == 0) = false := by rw [beq_eq_false_iff_ne]; omega
      have e2 : r.size ≤ a0.size := by omega
      by_cases c2 : r.size + a1.size = a0.size
      · have e3 : ((a0.size : Int) - (r.size : Int) == (a1.size : Int)) = true := by simp; omega
        clear c1 c2 h
        go_enter Try.func5, Try.ntmps5
        go_wp2_with (first | (go_at_call 13; go_in) | fail)
        refine (trs _ _ _ HZ.out w1).mono ?_
        rintro e w' ⟨rfl, rfl⟩
        go_wp2_with fail
        refine (trs _ _ _ w0 w1).mono ?_
        rintro e w' ⟨rfl, rfl⟩
        go_wp2_with fail
        go_ret
        exact ⟨rfl, Grown.refl _⟩
      · have e3 : ((a0.size : Int) - (r.size : Int) == (a1.size : Int)) = false := by rw [beq_eq_false_iff_ne]; omega
        have e4 : ((a0.size : Int) - (r.size : Int) == 2 * (a1.size : Int)) = true := by simp; omega
        clear c1 c2 h
        go_enter Try.func5, Try.ntmps5
        go_wp2_with (first | (go_at_call 13; go_in) | fail)
        refine (trs _ _ _ HZ.out w1).mono ?_
        rintro e w' ⟨rfl, rfl⟩
        go_wp2_with fail
        refine (trs _ _ _ w0 w1).mono ?_
        rintro e w' ⟨rfl, rfl⟩
        go_wp2_with fail
        go_ret
        exact ⟨rfl, Grown.refl _⟩
  · go_enter Try.func5, Try.ntmps5
    go_wp2
    all_goals (go_ret; exact ⟨rfl, Grown.refl _⟩)
end Go.Proofs.Ytnbfphjkpicajaa
