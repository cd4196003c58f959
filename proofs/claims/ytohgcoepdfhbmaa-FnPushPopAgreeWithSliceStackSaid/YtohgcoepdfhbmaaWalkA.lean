/-
  The walk of the law FnPushPopAgreeWithSliceStack (n001_96): it returns true for every input. Printed by genA.py.
-/
import Derived.Test.YtohgcoepdfhbmaaBase
namespace Go.Proofs.Ytohgcoepdfhbmaa
set_option linter.unusedVariables false
open Go.ChangeShapes Go.WideShapes Go.ChangeAt Go.RowKit M
set_option maxRecDepth 100000 in
set_option maxHeartbeats 16000000 in
theorem fnPushPopAgreeWithSliceStack.main (a0 : Option Addr) (len0 cap0 : Nat) (z0 : List Int) (a1 : Option Addr) (len1 cap1 : Nat) (z1 : List Int) (w : World) (w0 : IsRow .i8 w a0 len0 cap0 z0) (w1 : IsRow .i64 w a1 len1 cap1 z1) (hl : len0 ≤ 65536) (hl1 : len1 ≤ 65536) (hl2 : len0 + 8 * len1 ≤ 1048576) :
    Calls Try.prog 3 #[.slice a0 len0 cap0, .slice a1 len1 cap1] w fun e w' => e = .returned (.bool true) ∧ Below w.heap.size w w' := by
  have W0 := Lib.hid w0
  have W1 := Lib.hid w1
  have HXL := Lib.hid (show (z0.take len0).length = len0 by rw [List.length_take]; have := w0.len; omega)
  have HYL := Lib.hid (show (z1.take len1).length = len1 by rw [List.length_take]; have := w1.len; omega)
  clear w0 w1
  have q1 : decide ((65536 : Int) < (len0 : Int)) = false := decide_eq_false (by omega)
  have q2 : decide ((65536 : Int) < (len1 : Int)) = false := decide_eq_false (by omega)
  have q3 : decide ((1048576 : Int) < (len0 : Int) + 8 * (len1 : Int)) = false := decide_eq_false (by omega)
  have hmk := make0 len0 (by omega)
  obtain ⟨i0, hi0, hz0, hz1, hz2⟩ := info_parts info2
  have HI := Lib.hid hi0
  have HZ1 := Lib.hid hz1
  clear hi0 hz0 hz1 hz2
  go_enter Try.func3, Try.ntmps3
  go_wp2_with (first | (go_at_call 5; go_in) | fail)
  refine (copy_ops a0 len0 cap0 z0 _ W0.out (by omega)).mono ?_
  rintro e v1 ⟨A1, c1, rfl, hcp, hb1⟩
  obtain ⟨os, hos⟩ : ∃ os, z0.take len0 = os := ⟨_, rfl⟩
  rw [hos] at hcp HXL
  have HCP := Lib.hid hcp
  have HB1 := Lib.hid hb1
  have hs1 := hb1.size
  have W2 := Lib.hid (W1.out.below hb1)
  clear hcp hb1 hos
  go_wp2_with fail
  refine (copy_vals a1 len1 cap1 z1 _ W2.out (by omega)).mono ?_
  rintro e ws ⟨A2, c2, rfl, hcp2, hb2⟩
  obtain ⟨vs, hvs⟩ : ∃ vs, z1.take len1 = vs := ⟨_, rfl⟩
  rw [hvs] at hcp2 HYL
  have HCX := Lib.hid (show CopyOf .i8 30 ws w.heap.size A1 os from HCP.out.keep fun g cs hr => hr.keep hb2 hr.lt)
  have HCV := Lib.hid hcp2
  have HBS := Lib.hid (HB1.out.trans (hb2.mono hs1))
  have hs2 : w.heap.size ≤ ws.heap.size := Nat.le_trans hs1 hb2.size
  clear hcp2 hb2 hvs HCP HB1 W0 W1 W2
  go_wp2_with fail
  refine (e_new _).mono ?_
  rintro e v3 ⟨pe, rfl, hE⟩
  have HE := Lib.hid hE
  clear hE
  go_wp2_with fail
  refine (e_empty ws _ _ [] _ _ HE.out).mono ?_
  rintro e v4 ⟨rfl, rfl⟩
  have HSM := Lib.hid (SM.start (n := len0) (by omega) HE.out)
  clear HE
  go_wp2_with fail
  go_loopw [6, 7, 8] (fun mv vi i wr => ∃ (k q : Nat) (L : List Int), k ≤ len0 ∧ L.length ≤ k ∧ q ≤ len1 ∧ q ≤ k ∧ i = .int .i64 k ∧ vi = .int .i64 q ∧ mv = .slice (some ⟨v3.heap.size, 0, none⟩) L.length len0 ∧ SM ws pe ws.heap.size v3.heap.size len0 L L k wr) (fun _ _ i _ => len0 - (intOf i).toNat)
  case atStart => exact ⟨0, 0, [], Nat.zero_le _, Nat.zero_le _, Nat.zero_le _, Nat.zero_le _, rfl, rfl, rfl, HSM.out⟩
  case round =>
    obtain ⟨k, q, L, hk, hLk, hq, hqk, rfl, rfl, rfl, hS⟩ := hrel
    have HS := Lib.hid hS
    clear hS HSM
    by_cases hlt : k < len0
    · obtain ⟨go, hA1, hgo, hro, hco⟩ := HCX.out.get (i := k) (by rw [HXL.out]; exact hlt)
      have co := (HS.out.1.below.cell (p := ⟨go, k, none⟩) hro.lt).trans (hco k (by rw [HXL.out]; exact hlt))
      subst hA1
      clear hro hco
      obtain ⟨o, ho⟩ : ∃ o, os.getD k 0 = o := ⟨_, rfl⟩
      rw [ho] at co
      clear ho
      by_cases hop : 0 ≤ o
      · by_cases hqv : q < len1
        · obtain ⟨gv, hA2, hgv, hrv, hcv⟩ := HCV.out.get (i := q) (by rw [HYL.out]; exact hqv)
          have cv := (HS.out.1.below.cell (p := ⟨gv, q, none⟩) hrv.lt).trans (hcv q (by rw [HYL.out]; exact hqv))
          subst hA2
          clear hrv hcv
          obtain ⟨v, hvv⟩ : ∃ v, vs.getD q 0 = v := ⟨_, rfl⟩
          rw [hvv] at cv
          clear hvv
          rcases L with _ | ⟨x, L⟩
          · go_wp2_with fail
            refine (s_push ws _ _ _ _ [] [] _ _ HS.out (by omega) v).mono ?_
            rintro e v5 ⟨rfl, hS5⟩
            have HS5 := Lib.hid hS5
            clear hS5
            unfold NoEnd
            go_wp2_with (at_builtin; refine wpList_append_fits _ rfl (.tmp 71) (.tmp 73) 23 rfl ws.heap.size 2 i0 1 Try.underlying23 HI.out HZ1.out v3.heap.size _ len0 (List.map (Value.int .i64) (List.reverse ([] : List Int))) rfl (HS5.out.mod.alloc _) ⟨v5.heap.size, 0, none⟩ 1 1 [.int .i64 v] rfl rfl (World.news_of_block (Row.made v5 2 #[.int .i64 v])) (by simp [Value.oneCell']) (by first | omega | (simp only [List.length_nil, List.length_cons]; omega)) ?_; intro v6 hown6 hg6; have HS6 := Lib.hid (HS5.out.app hown6 hg6); clear hown6 hg6)
            refine (e_empty ws _ _ _ _ _ HS6.out.1).mono ?_
            rintro e v7 ⟨rfl, rfl⟩
            simp only [List.isEmpty_cons]
            go_wp2_with fail
            exact ⟨⟨k + 1, q + 1, v :: [], by omega, by first | (simp only [List.length_cons]; omega) | (simp; omega), by omega, by omega, by go_num, by go_num, rfl, HS6.out⟩, by simp [intOf]; omega⟩
          · have el : (((L.length + 1 : Nat) : Int) == 0) = false := by rw [beq_eq_false_iff_ne]; omega
            have el2 : ((L.length : Int) + 1 == 0) = false := by rw [beq_eq_false_iff_ne]; omega
            simp only [List.length_cons] at hLk ⊢
            go_wp2_with fail
            refine (s_push ws _ _ _ _ (x :: L) (x :: L) _ _ HS.out (by omega) v).mono ?_
            rintro e v5 ⟨rfl, hS5⟩
            have HS5 := Lib.hid hS5
            clear hS5
            unfold NoEnd
            go_wp2_with (at_builtin; refine wpList_append_fits _ rfl (.tmp 71) (.tmp 73) 23 rfl ws.heap.size 2 i0 1 Try.underlying23 HI.out HZ1.out v3.heap.size _ len0 (List.map (Value.int .i64) (List.reverse ((x :: L) : List Int))) rfl (HS5.out.mod.alloc _) ⟨v5.heap.size, 0, none⟩ 1 1 [.int .i64 v] rfl rfl (World.news_of_block (Row.made v5 2 #[.int .i64 v])) (by simp [Value.oneCell']) (by first | omega | (simp only [List.length_nil, List.length_cons]; omega)) ?_; intro v6 hown6 hg6; have HS6 := Lib.hid (HS5.out.app hown6 hg6); clear hown6 hg6)
            refine (e_empty ws _ _ _ _ _ HS6.out.1).mono ?_
            rintro e v7 ⟨rfl, rfl⟩
            simp only [List.isEmpty_cons]
            go_wp2_with fail
            exact ⟨⟨k + 1, q + 1, v :: (x :: L), by omega, by first | (simp only [List.length_cons]; omega) | (simp; omega), by omega, by omega, by go_num, by go_num, rfl, HS6.out⟩, by simp [intOf]; omega⟩
        · rcases L with _ | ⟨x, L⟩
          · go_wp2_with fail
            refine (s_push ws _ _ _ _ [] [] _ _ HS.out (by omega) (k : Int)).mono ?_
            rintro e v5 ⟨rfl, hS5⟩
            have HS5 := Lib.hid hS5
            clear hS5
            unfold NoEnd
            go_wp2_with (at_builtin; refine wpList_append_fits _ rfl (.tmp 71) (.tmp 73) 23 rfl ws.heap.size 2 i0 1 Try.underlying23 HI.out HZ1.out v3.heap.size _ len0 (List.map (Value.int .i64) (List.reverse ([] : List Int))) rfl (HS5.out.mod.alloc _) ⟨v5.heap.size, 0, none⟩ 1 1 [.int .i64 (k : Int)] rfl rfl (World.news_of_block (Row.made v5 2 #[.int .i64 (k : Int)])) (by simp [Value.oneCell']) (by first | omega | (simp only [List.length_nil, List.length_cons]; omega)) ?_; intro v6 hown6 hg6; have HS6 := Lib.hid (HS5.out.app hown6 hg6); clear hown6 hg6)
            refine (e_empty ws _ _ _ _ _ HS6.out.1).mono ?_
            rintro e v7 ⟨rfl, rfl⟩
            simp only [List.isEmpty_cons]
            go_wp2_with fail
            exact ⟨⟨k + 1, q, (k : Int) :: [], by omega, by first | (simp only [List.length_cons]; omega) | (simp; omega), by omega, by omega, by go_num, by go_num, rfl, HS6.out⟩, by simp [intOf]; omega⟩
          · have el : (((L.length + 1 : Nat) : Int) == 0) = false := by rw [beq_eq_false_iff_ne]; omega
            have el2 : ((L.length : Int) + 1 == 0) = false := by rw [beq_eq_false_iff_ne]; omega
            simp only [List.length_cons] at hLk ⊢
            go_wp2_with fail
            refine (s_push ws _ _ _ _ (x :: L) (x :: L) _ _ HS.out (by omega) (k : Int)).mono ?_
            rintro e v5 ⟨rfl, hS5⟩
            have HS5 := Lib.hid hS5
            clear hS5
            unfold NoEnd
            go_wp2_with (at_builtin; refine wpList_append_fits _ rfl (.tmp 71) (.tmp 73) 23 rfl ws.heap.size 2 i0 1 Try.underlying23 HI.out HZ1.out v3.heap.size _ len0 (List.map (Value.int .i64) (List.reverse ((x :: L) : List Int))) rfl (HS5.out.mod.alloc _) ⟨v5.heap.size, 0, none⟩ 1 1 [.int .i64 (k : Int)] rfl rfl (World.news_of_block (Row.made v5 2 #[.int .i64 (k : Int)])) (by simp [Value.oneCell']) (by first | omega | (simp only [List.length_nil, List.length_cons]; omega)) ?_; intro v6 hown6 hg6; have HS6 := Lib.hid (HS5.out.app hown6 hg6); clear hown6 hg6)
            refine (e_empty ws _ _ _ _ _ HS6.out.1).mono ?_
            rintro e v7 ⟨rfl, rfl⟩
            simp only [List.isEmpty_cons]
            go_wp2_with fail
            exact ⟨⟨k + 1, q, (k : Int) :: (x :: L), by omega, by first | (simp only [List.length_cons]; omega) | (simp; omega), by omega, by omega, by go_num, by go_num, rfl, HS6.out⟩, by simp [intOf]; omega⟩
      · have hop' : o < 0 := by omega
        rcases L with _ | ⟨x, L⟩
        · go_wp2_with fail
          refine (e_empty ws _ _ [] _ _ HS.out.1).mono ?_
          rintro e v7 ⟨rfl, rfl⟩
          simp only [List.isEmpty_nil]
          go_wp2_with fail
          exact ⟨⟨k + 1, q, [], by omega, by simp, by omega, by omega, by go_num, rfl, rfl, ⟨HS.out.1.more (by omega), HS.out.2⟩⟩, by simp [intOf]; omega⟩
        · have el : (((L.length + 1 : Nat) : Int) == 0) = false := by rw [beq_eq_false_iff_ne]; omega
          have el2 : ((L.length : Int) + 1 == 0) = false := by rw [beq_eq_false_iff_ne]; omega
          simp only [List.length_cons] at hLk ⊢
          have hxx : (x != x) = false := by simp
          go_wp2_with fail
          refine (s_pop ws _ _ _ _ L _ _ _ x HS.out).mono ?_
          rintro e v5 ⟨rfl, hS5⟩
          have HS5 := Lib.hid hS5
          have cl := hS5.last
          clear hS5
          have el0 : ((L.length : Int) == 0) = L.isEmpty := by cases L <;> simp; omega
          have hbb : (L.isEmpty != L.isEmpty) = false := by simp
          go_wp2_with fail
          refine (e_empty ws _ _ _ _ _ HS5.out.1).mono ?_
          rintro e v7 ⟨rfl, rfl⟩
          go_wp2_with fail
          exact ⟨⟨k + 1, q, L, by omega, by omega, by omega, by omega, by go_num, rfl, rfl, ⟨HS5.out.cut.1.more (by omega), HS5.out.cut.2⟩⟩, by simp [intOf]; omega⟩
    · obtain ⟨wo, hwo⟩ : ∃ wo : World, wo = wr := ⟨_, rfl⟩
      rw [← hwo] at HS ⊢
      clear hwo
      go_wp2_with fail
      go_loopw [6] (fun mv wr => ∃ (L : List Int), L.length ≤ len0 ∧ mv = .slice (some ⟨v3.heap.size, 0, none⟩) L.length len0 ∧ SM ws pe ws.heap.size v3.heap.size len0 L L k wr) (fun mv _ => sliceLen mv)
      case atStart => exact ⟨L, by omega, rfl, HS.out⟩
      case round =>
        obtain ⟨L2, hL2, rfl, hS⟩ := hrel
        have HS2 := Lib.hid hS
        clear hS
        rcases L2 with _ | ⟨x, L2⟩
        · go_wp2_with fail
          go_ret
          exact ⟨rfl, HBS.out.trans (HS2.out.1.below.mono hs2)⟩
        · have hxx : (x != x) = false := by simp
          simp only [List.length_cons] at hL2 ⊢
          go_wp2_with fail
          refine (s_pop ws _ _ _ _ L2 _ _ _ x HS2.out).mono ?_
          rintro e v5 ⟨rfl, hS5⟩
          have HS5 := Lib.hid hS5
          have cl := hS5.last
          clear hS5
          have el0 : ((L2.length : Int) == 0) = L2.isEmpty := by cases L2 <;> simp; omega
          have hbb : (L2.isEmpty != L2.isEmpty) = false := by simp
          go_wp2_with fail
          refine (e_empty ws _ _ _ _ _ HS5.out.1).mono ?_
          rintro e v7 ⟨rfl, rfl⟩
          go_wp2_with fail
          exact ⟨⟨L2, by omega, rfl, HS5.out.cut⟩, by simp [sliceLen]⟩
set_option maxRecDepth 100000 in
set_option maxHeartbeats 4000000 in
theorem fnPushPopAgreeWithSliceStack.walk (a0 : Option Addr) (len0 cap0 : Nat) (z0 : List Int) (a1 : Option Addr) (len1 cap1 : Nat) (z1 : List Int) (w : World) (w0 : IsRow .i8 w a0 len0 cap0 z0) (w1 : IsRow .i64 w a1 len1 cap1 z1) :
    Calls Try.prog 3 #[.slice a0 len0 cap0, .slice a1 len1 cap1] w fun e w' => e = .returned (.bool true) ∧ Below w.heap.size w w' := by
  have hm := w0.len.2
  have hm1 := w1.len.2
  unfold maxLen at hm hm1
  by_cases h0 : len0 ≤ 65536
  · by_cases h1 : len1 ≤ 65536
    · by_cases h2 : len0 + 8 * len1 ≤ 1048576
      · exact fnPushPopAgreeWithSliceStack.main a0 len0 cap0 z0 a1 len1 cap1 z1 w w0 w1 h0 h1 h2
      · clear w0 w1
        go_enter Try.func3, Try.ntmps3
        go_wp2
        all_goals (go_ret; exact ⟨rfl, Below.refl _ _⟩)
    · clear w0 w1
      go_enter Try.func3, Try.ntmps3
      go_wp2
      all_goals (go_ret; exact ⟨rfl, Below.refl _ _⟩)
  · clear w0 w1
    go_enter Try.func3, Try.ntmps3
    go_wp2
    all_goals (go_ret; exact ⟨rfl, Below.refl _ _⟩)
end Go.Proofs.Ytohgcoepdfhbmaa
