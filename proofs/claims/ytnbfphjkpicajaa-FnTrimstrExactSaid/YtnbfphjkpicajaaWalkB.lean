/-
  The walk of the law FnTrimstrExact (n001_95): it returns true for every input.
-/
import Derived.Test.YtnbfphjkpicajaaLaws
namespace Go.Proofs.Ytnbfphjkpicajaa
open Go.ChangeShapes Go.WideShapes Go.ChangeAt Go.RowKit M
set_option linter.unusedVariables false
set_option maxHeartbeats 1000000 in
theorem exact_call (a0 : ByteArray) (a1 : ByteArray) (a2 : Int) (lo hi : Nat) (w0 : a0.size ≤ maxLen) (w1 : a1.size ≤ maxLen) (h0 : a0.size + a1.size ≤ 1048576) (b s : Bool) (hb : preB a0 a1 = b) (hsf : sufB a0 a1 = s)
    (hlo : lo = if b then a1.size else 0) (hl : a1.size ≤ a0.size - lo) (hq : rtr (ltr a0 a1) a1 = a0.extract lo (if s then a0.size - a1.size else a0.size)) (w : World) :
    Calls Try.prog 6 #[.string a0, .string a1, .int .i64 a2] w fun e w' => e = .returned (.bool true) ∧ Grown w w' := by
  have hs : a0.size ≤ 9223372036854775807 := w0
  have ht : a1.size ≤ 9223372036854775807 := w1
  subst hlo
  cases b <;> cases s
  all_goals
    simp only [if_true, if_false, Bool.false_eq_true] at hl hq
    go_enter Try.func6, Try.ntmps6
    go_wp2_with (first | (go_at_call 15; go_in) | fail)
    refine (trs _ _ _ w0 w1).mono ?_
    rintro e w' ⟨rfl, rfl⟩
    go_wp2_with fail
    refine (zpre _ _ _ w0 w1).mono ?_
    rintro e w' ⟨rfl, n, rfl⟩
    go_wp2_with fail
    refine (zsuf _ _ _ w0 w1).mono ?_
    rintro e w' ⟨rfl, n2, rfl⟩
    go_wp2_with fail
    refine (tr_subj _ _ _).mono ?_
    rintro e w3 ⟨rfl, hg3⟩
    go_wp2_with fail
    refine (tr_pat _ _ _).mono ?_
    rintro e w4 ⟨rfl, hg4⟩
    go_wp2_with fail
    go_ret
    exact ⟨rfl, grown_trans (grown_drewN (Grown.refl _) _) (grown_trans hg3 hg4)⟩
set_option maxHeartbeats 1000000 in
theorem exact_none (a0 : ByteArray) (a1 : ByteArray) (a2 : Int) (lo : Nat) (w0 : a0.size ≤ maxLen) (w1 : a1.size ≤ maxLen) (h0 : a0.size + a1.size ≤ 1048576) (b : Bool) (hb : preB a0 a1 = b)
    (hlo : lo = if b then a1.size else 0) (hle : lo ≤ a0.size) (hl : a0.size < a1.size + lo) (hq : rtr (ltr a0 a1) a1 = a0.extract lo a0.size) (w : World) :
    Calls Try.prog 6 #[.string a0, .string a1, .int .i64 a2] w fun e w' => e = .returned (.bool true) ∧ Grown w w' := by
  have hs : a0.size ≤ 9223372036854775807 := w0
  have ht : a1.size ≤ 9223372036854775807 := w1
  subst hlo
  cases b
  all_goals
    simp only [if_true, if_false, Bool.false_eq_true] at hl hq hle
    go_enter Try.func6, Try.ntmps6
    go_wp2_with (first | (go_at_call 15; go_in) | fail)
    refine (trs _ _ _ w0 w1).mono ?_
    rintro e w' ⟨rfl, rfl⟩
    go_wp2_with fail
    refine (zpre _ _ _ w0 w1).mono ?_
    rintro e w' ⟨rfl, n, rfl⟩
    go_wp2_with fail
    refine (tr_subj _ _ _).mono ?_
    rintro e w3 ⟨rfl, hg3⟩
    go_wp2_with fail
    refine (tr_pat _ _ _).mono ?_
    rintro e w4 ⟨rfl, hg4⟩
    go_wp2_with fail
    go_ret
    exact ⟨rfl, grown_trans (grown_drewN (Grown.refl _) _) (grown_trans hg3 hg4)⟩
theorem fnTrimstrExact.walk (a0 : ByteArray) (a1 : ByteArray) (a2 : Int) (w0 : a0.size ≤ maxLen) (w1 : a1.size ≤ maxLen) (w2 : (Lit.int .i64 a2).wf = true) (w : World) :
    Calls Try.prog 6 #[.string a0, .string a1, .int .i64 a2] w fun e w' => e = .returned (.bool true) ∧ Grown w w' := by
  have hs : a0.size ≤ 9223372036854775807 := w0
  have ht : a1.size ≤ 9223372036854775807 := w1
  by_cases h0 : a0.size + a1.size ≤ 1048576
  · cases hb : preB a0 a1
    · by_cases hl : a1.size ≤ a0.size
      · cases hsf : sufB a0 a1
        · exact exact_call a0 a1 a2 0 0 w0 w1 h0 false false hb hsf rfl (by omega) (tr_ff _ _ hb hsf) w
        · exact exact_call a0 a1 a2 0 0 w0 w1 h0 false true hb hsf rfl (by omega) (tr_ft _ _ hb hsf) w
      · exact exact_none a0 a1 a2 0 w0 w1 h0 false hb rfl (by omega) (by omega) (tr_ff _ _ hb (suf_short _ _ hl)) w
    · have hp := pre_len _ _ hb
      have hd := suf_drop a0 a1 hb
      by_cases hl : a1.size ≤ a0.size - a1.size
      · rw [decide_eq_true hl, Bool.true_and] at hd
        cases hsf : sufB a0 a1
        · exact exact_call a0 a1 a2 a1.size 0 w0 w1 h0 true false hb hsf rfl hl (tr_tf _ _ hb (hd.trans hsf)) w
        · exact exact_call a0 a1 a2 a1.size 0 w0 w1 h0 true true hb hsf rfl hl (tr_tt _ _ hb hsf hl) w
      · rw [decide_eq_false hl, Bool.false_and] at hd
        exact exact_none a0 a1 a2 a1.size w0 w1 h0 true hb rfl hp (by omega) (tr_tf _ _ hb hd) w
  · go_enter Try.func6, Try.ntmps6
    go_wp2
    all_goals (go_ret; exact ⟨rfl, Grown.refl _⟩)
end Go.Proofs.Ytnbfphjkpicajaa
