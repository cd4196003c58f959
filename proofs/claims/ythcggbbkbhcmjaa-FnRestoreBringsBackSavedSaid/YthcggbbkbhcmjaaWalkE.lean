/-
  The walk of the law FnStackAgreesWithSliceModel (n001_8): it returns true for every input.
-/
import Derived.Test.YthcggbbkbhcmjaaModel
namespace Go.Proofs.Ythcggbbkbhcmjaa
set_option linter.unusedVariables false
open Go.ChangeShapes Go.WideShapes Go.ChangeAt Go.RowKit M
theorem make0 (n : Nat) (hn : n ≤ 1048576) (W : World) : (Instr.makeSlice 22 (.int .i64 0) (.int .i64 (n : Int))).run Try.prog W = .ok (.slice (some ⟨W.heap.size, 0, none⟩) 0 n) (W.alloc (.cells (madeCells #[.int .i64 0] n) 3)) := by
  obtain ⟨i, hi, hz0, hz1, hz2⟩ := info_parts info3
  have hr := run_make (P := Try.prog) W 22 3 i (.int .i64 0) Try.underlying22 hi hz0 .i64 .i64 0 (n : Int) (by omega) (by omega) (by rw [hz2]; omega) (by omega)
  rw [hz1] at hr
  simp only [Int.toNat_zero, Int.toNat_natCast, Nat.mul_one] at hr
  exact hr
def sliceLen : Value → Nat | .slice _ n _ => n | _ => 0
theorem SM.start {ws w3 : World} {n : Nat} (hn : n ≤ 1048576) (hs : LStk w3 ws.heap.size ws.heap.size none (ints []) (-1) (-1) [] 0) (hb : Below ws.heap.size ws w3) :
    SM ws ws.heap.size w3.heap.size n [] [] 0 (-1) [] (w3.alloc (.cells (madeCells #[.int .i64 0] n) 3)) := by
  have h1 : Below w3.heap.size w3 (w3.alloc (.cells (madeCells #[.int .i64 0] n) 3)) := (Below.refl _ _).alloc (Nat.le_refl _) _
  exact ⟨none, -1, hs.below h1, World.ownsRow_made _ _ _ hb.size (by unfold maxLen; omega) (by rw [size_madeCells]; omega), hb.trans (h1.mono hb.size)⟩
set_option maxRecDepth 100000 in
set_option maxHeartbeats 16000000 in
theorem fnStackAgreesWithSliceModel.main (a0 : Option Addr) (len0 cap0 : Nat) (z0 : List Int) (a1 : Option Addr) (len1 cap1 : Nat) (z1 : List Int) (w : World) (w0 : IsRow .u8 w a0 len0 cap0 z0) (w1 : IsRow .i64 w a1 len1 cap1 z1) (hl : len0 ≤ 65536) (hl1 : len1 ≤ 65536) (hl2 : len0 + 8 * len1 ≤ 1048576)
    (hv : 0 < len1) :
    Calls Try.prog 5 #[.slice a0 len0 cap0, .slice a1 len1 cap1] w fun e w' => e = .returned (.bool true) ∧ Below w.heap.size w w' := by
  have W0 := Lib.hid w0
  have W1 := Lib.hid w1
  have HXL := Lib.hid (show (z0.take len0).length = len0 by rw [List.length_take]; have := w0.len; omega)
  have HYL := Lib.hid (show (z1.take len1).length = len1 by rw [List.length_take]; have := w1.len; omega)
  have HWF := Lib.hid (show ∀ i, i < len0 → 0 ≤ (z0.take len0).getD i 0 ∧ (z0.take len0).getD i 0 ≤ 255 from fun i hi => by
    have h := w0.wf i (by have := w0.len; omega)
    have e : (z0.take len0).getD i 0 = z0.getD i 0 := by simp only [List.getD_eq_getElem?_getD, List.getElem?_take_of_lt hi]
    rw [e]
    simp [Lit.wf, IntKind.min, IntKind.max] at h
    exact h)
  clear w0 w1
  have q1 : decide ((65536 : Int) < (len0 : Int)) = false := decide_eq_false (by omega)
  have q2 : decide ((65536 : Int) < (len1 : Int)) = false := decide_eq_false (by omega)
  have q3 : decide ((1048576 : Int) < (len0 : Int) + 8 * (len1 : Int)) = false := decide_eq_false (by omega)
  have hmk := make0 len0 (by omega)
  obtain ⟨i0, hi0, hz0, hz1, hz2⟩ := info_parts info3
  have HI := Lib.hid hi0
  have HZ1 := Lib.hid hz1
  clear hi0 hz0 hz1 hz2
  go_enter Try.func5, Try.ntmps5
  go_wp2_with (first | (go_at_call 16; go_in) | fail)
  refine (copy_bytes a0 len0 cap0 z0 _ W0.out (by omega)).mono ?_
  rintro e v1 ⟨A1, c1, rfl, hcp, hb1⟩
  obtain ⟨os, hos⟩ : ∃ os, z0.take len0 = os := ⟨_, rfl⟩
  rw [hos] at hcp HXL HWF
  have HCP := Lib.hid hcp
  have HB1 := Lib.hid hb1
  have hs1 := hb1.size
  have W2 := Lib.hid (W1.out.below hb1)
  clear hcp hb1 hos
  go_wp2_with fail
  refine (copy_ints a1 len1 cap1 z1 _ W2.out (by omega)).mono ?_
  rintro e ws ⟨A2, c2, rfl, hcp2, hb2⟩
  obtain ⟨vs, hvs⟩ : ∃ vs, z1.take len1 = vs := ⟨_, rfl⟩
  rw [hvs] at hcp2 HYL
  have HCX := Lib.hid (show CopyOf .u8 5 ws w.heap.size A1 os from HCP.out.keep fun g cs hr => hr.keep hb2 hr.lt)
  obtain ⟨gv, hA2, hgv, hrv, hcv⟩ := hcp2.get (i := 0) (by rw [HYL.out]; exact hv)
  have HCV := Lib.hid hcv
  have hgl := hrv.lt
  subst hA2
  have HBS := Lib.hid (HB1.out.trans (hb2.mono hs1))
  have hs2 : w.heap.size ≤ ws.heap.size := Nat.le_trans hs1 hb2.size
  clear hcp2 hb2 hvs HCP HB1 W0 W1 W2 hcv hrv
  go_wp2_with fail
  refine (znew _).mono ?_
  rintro e v3 ⟨rfl, hs3, hb3⟩
  have HS3 := Lib.hid hs3
  have HB3 := Lib.hid hb3
  clear hs3 hb3
  go_wp2_with fail
  refine (s_empty ws _ v3.heap.size len0 [] [] 0 (-1) [] _ (SM.start (by omega) HS3.out HB3.out)).mono ?_
  rintro e v4 ⟨rfl, rfl⟩
  have HSM := Lib.hid (SM.start (n := len0) (by omega) HS3.out HB3.out)
  clear HS3 HB3
  go_wp2_with fail
  go_loopw [6, 7] (fun mv i wr => ∃ (k : Nat) (L : List Int), k ≤ len0 ∧ L.length ≤ k ∧ i = .int .i64 k ∧ mv = .slice (some ⟨v3.heap.size, 0, none⟩) L.length len0 ∧ SM ws ws.heap.size v3.heap.size len0 L L k (-1) [] wr) (fun _ i _ => len0 - (intOf i).toNat)
  case atStart => exact ⟨0, [], Nat.zero_le _, Nat.zero_le _, rfl, rfl, HSM.out⟩
  case round =>
    obtain ⟨k, L, hk, hLk, rfl, rfl, hS⟩ := hrel
    have HS := Lib.hid hS
    clear hS HSM
    by_cases hlt : k < len0
    · obtain ⟨go, hA1, hgo, hro, hco⟩ := HCX.out.get (i := k) (by rw [HXL.out]; exact hlt)
      have co := (HS.out.below.cell (p := ⟨go, k, none⟩) hro.lt).trans (hco k (by rw [HXL.out]; exact hlt))
      have hmod : k % len1 < len1 := Nat.mod_lt _ hv
      have cv := (HS.out.below.cell (p := ⟨gv, k % len1, none⟩) hgl).trans (HCV.out (k % len1) (by rw [HYL.out]; exact hmod))
      obtain ⟨hw0, hw1⟩ := HWF.out k hlt
      subst hA1
      clear hro hco
      obtain ⟨o, ho⟩ : ∃ o, os.getD k 0 = o := ⟨_, rfl⟩
      obtain ⟨v, hvv⟩ : ∃ v, vs.getD (k % len1) 0 = v := ⟨_, rfl⟩
      rw [ho] at co hw0 hw1
      rw [hvv] at cv
      clear ho hvv
      have hop : o % 4 = 0 ∨ o % 4 = 1 ∨ o % 4 = 2 ∨ o % 4 = 3 := by omega
      rcases L with _ | ⟨x, L⟩
      · rcases hop with ho | ho | ho | ho
        · go_wp2_with fail
          refine (s_push ws _ _ _ [] [] _ _ _ _ HS.out (by omega) v).mono ?_
          rintro e v5 ⟨rfl, hS5⟩
          have HS5 := Lib.hid hS5
          clear hS5
          unfold NoEnd
          go_wp2_with (at_builtin; refine wpList_append_fits _ rfl (.tmp 84) (.tmp 86) 22 rfl ws.heap.size 3 i0 1 Try.underlying22 HI.out HZ1.out v3.heap.size _ len0 (List.map (Value.int .i64) (List.reverse ([] : List Int))) rfl (HS5.out.mod.alloc _) ⟨v5.heap.size, 0, none⟩ 1 1 [.int .i64 v] rfl rfl (World.news_of_block (Row.made v5 3 #[.int .i64 v])) (by simp [Value.oneCell']) (by first | omega | (simp only [List.length_nil, List.length_cons]; omega)) ?_; intro v6 hown6 hg6; have HS6 := Lib.hid (HS5.out.app hown6 hg6); clear hown6 hg6)
          refine (s_empty ws _ _ _ _ _ _ _ _ _ HS6.out).mono ?_
          rintro e v7 ⟨rfl, rfl⟩
          simp only [List.isEmpty_cons]
          go_wp2_with fail
          exact ⟨⟨k + 1, v :: [], by omega, by first | (simp only [List.length_cons]; omega) | (simp; omega), by go_num, rfl, HS6.out⟩, by simp [intOf]; omega⟩
        · go_wp2_with fail
          refine (s_push ws _ _ _ [] [] _ _ _ _ HS.out (by omega) v).mono ?_
          rintro e v5 ⟨rfl, hS5⟩
          have HS5 := Lib.hid hS5
          clear hS5
          unfold NoEnd
          go_wp2_with (at_builtin; refine wpList_append_fits _ rfl (.tmp 84) (.tmp 86) 22 rfl ws.heap.size 3 i0 1 Try.underlying22 HI.out HZ1.out v3.heap.size _ len0 (List.map (Value.int .i64) (List.reverse ([] : List Int))) rfl (HS5.out.mod.alloc _) ⟨v5.heap.size, 0, none⟩ 1 1 [.int .i64 v] rfl rfl (World.news_of_block (Row.made v5 3 #[.int .i64 v])) (by simp [Value.oneCell']) (by first | omega | (simp only [List.length_nil, List.length_cons]; omega)) ?_; intro v6 hown6 hg6; have HS6 := Lib.hid (HS5.out.app hown6 hg6); clear hown6 hg6)
          refine (s_empty ws _ _ _ _ _ _ _ _ _ HS6.out).mono ?_
          rintro e v7 ⟨rfl, rfl⟩
          simp only [List.isEmpty_cons]
          go_wp2_with fail
          exact ⟨⟨k + 1, v :: [], by omega, by first | (simp only [List.length_cons]; omega) | (simp; omega), by go_num, rfl, HS6.out⟩, by simp [intOf]; omega⟩
        · go_wp2_with fail
          refine (s_push ws _ _ _ [] [] _ _ _ _ HS.out (by omega) v).mono ?_
          rintro e v5 ⟨rfl, hS5⟩
          have HS5 := Lib.hid hS5
          clear hS5
          unfold NoEnd
          go_wp2_with (at_builtin; refine wpList_append_fits _ rfl (.tmp 84) (.tmp 86) 22 rfl ws.heap.size 3 i0 1 Try.underlying22 HI.out HZ1.out v3.heap.size _ len0 (List.map (Value.int .i64) (List.reverse ([] : List Int))) rfl (HS5.out.mod.alloc _) ⟨v5.heap.size, 0, none⟩ 1 1 [.int .i64 v] rfl rfl (World.news_of_block (Row.made v5 3 #[.int .i64 v])) (by simp [Value.oneCell']) (by first | omega | (simp only [List.length_nil, List.length_cons]; omega)) ?_; intro v6 hown6 hg6; have HS6 := Lib.hid (HS5.out.app hown6 hg6); clear hown6 hg6)
          refine (s_empty ws _ _ _ _ _ _ _ _ _ HS6.out).mono ?_
          rintro e v7 ⟨rfl, rfl⟩
          simp only [List.isEmpty_cons]
          go_wp2_with fail
          exact ⟨⟨k + 1, v :: [], by omega, by first | (simp only [List.length_cons]; omega) | (simp; omega), by go_num, rfl, HS6.out⟩, by simp [intOf]; omega⟩
        · go_wp2_with fail
          refine (s_empty ws _ _ _ _ _ _ _ _ _ HS.out).mono ?_
          rintro e v7 ⟨rfl, rfl⟩
          simp only [List.isEmpty_nil]
          go_wp2_with fail
          exact ⟨⟨k + 1, [], by omega, by omega, by go_num, rfl, HS.out.more (by omega)⟩, by simp [intOf]; omega⟩
      · have el : (((L.length + 1 : Nat) : Int) == 0) = false := by rw [beq_eq_false_iff_ne]; omega
        have el2 : ((L.length : Int) + 1 == 0) = false := by rw [beq_eq_false_iff_ne]; omega
        simp only [List.length_cons] at hLk ⊢
        have hxx : (x != x) = false := by simp
        rcases hop with ho | ho | ho | ho
        · go_wp2_with fail
          refine (s_push ws _ _ _ (x :: L) (x :: L) _ _ _ _ HS.out (by omega) v).mono ?_
          rintro e v5 ⟨rfl, hS5⟩
          have HS5 := Lib.hid hS5
          clear hS5
          unfold NoEnd
          go_wp2_with (at_builtin; refine wpList_append_fits _ rfl (.tmp 84) (.tmp 86) 22 rfl ws.heap.size 3 i0 1 Try.underlying22 HI.out HZ1.out v3.heap.size _ len0 (List.map (Value.int .i64) (List.reverse ((x :: L) : List Int))) rfl (HS5.out.mod.alloc _) ⟨v5.heap.size, 0, none⟩ 1 1 [.int .i64 v] rfl rfl (World.news_of_block (Row.made v5 3 #[.int .i64 v])) (by simp [Value.oneCell']) (by first | omega | (simp only [List.length_nil, List.length_cons]; omega)) ?_; intro v6 hown6 hg6; have HS6 := Lib.hid (HS5.out.app hown6 hg6); clear hown6 hg6)
          refine (s_empty ws _ _ _ _ _ _ _ _ _ HS6.out).mono ?_
          rintro e v7 ⟨rfl, rfl⟩
          simp only [List.isEmpty_cons]
          go_wp2_with fail
          exact ⟨⟨k + 1, v :: (x :: L), by omega, by first | (simp only [List.length_cons]; omega) | (simp; omega), by go_num, rfl, HS6.out⟩, by simp [intOf]; omega⟩
        · go_wp2_with fail
          refine (s_pop ws _ _ _ L _ _ _ _ _ x HS.out).mono ?_
          rintro e v5 ⟨rfl, hS5⟩
          have HS5 := Lib.hid hS5
          have cl := hS5.last
          clear hS5
          have el0 : ((L.length : Int) == 0) = L.isEmpty := by cases L <;> simp; omega
          have hbb : (L.isEmpty != L.isEmpty) = false := by simp
          go_wp2_with fail
          refine (s_empty ws _ _ _ _ _ _ _ _ _ HS5.out).mono ?_
          rintro e v7 ⟨rfl, rfl⟩
          go_wp2_with fail
          exact ⟨⟨k + 1, L, by omega, by omega, by go_num, rfl, HS5.out.cut.more (by omega)⟩, by simp [intOf]; omega⟩
        · go_wp2_with fail
          refine (s_top ws _ _ _ L _ _ _ _ _ x HS.out).mono ?_
          rintro e v5 ⟨rfl, hS5⟩
          have HS5 := Lib.hid hS5
          have cl := hS5.last
          clear hS5
          go_wp2_with fail
          refine (s_empty ws _ _ _ _ _ _ _ _ _ HS5.out).mono ?_
          rintro e v7 ⟨rfl, rfl⟩
          simp only [List.isEmpty_cons]
          go_wp2_with fail
          exact ⟨⟨k + 1, x :: L, by omega, by simp only [List.length_cons]; omega, by go_num, rfl, HS5.out.more (by omega)⟩, by simp [intOf]; omega⟩
        · go_wp2_with fail
          refine (s_empty ws _ _ _ _ _ _ _ _ _ HS.out).mono ?_
          rintro e v7 ⟨rfl, rfl⟩
          simp only [List.isEmpty_cons]
          go_wp2_with fail
          exact ⟨⟨k + 1, x :: L, by omega, by simp only [List.length_cons]; omega, by go_num, rfl, HS.out.more (by omega)⟩, by simp [intOf]; omega⟩
    · obtain rfl : k = len0 := by omega
      obtain ⟨wo, hwo⟩ : ∃ wo : World, wo = wr := ⟨_, rfl⟩
      rw [← hwo] at HS ⊢
      clear hwo
      go_wp2_with fail
      go_loopw [6] (fun mv wr => ∃ (L : List Int), L.length ≤ k ∧ mv = .slice (some ⟨v3.heap.size, 0, none⟩) L.length k ∧ SM ws ws.heap.size v3.heap.size k L L k (-1) [] wr) (fun mv _ => sliceLen mv)
      case atStart => exact ⟨L, hLk, rfl, HS.out⟩
      case round =>
        obtain ⟨L2, hL2, rfl, hS⟩ := hrel
        have HS2 := Lib.hid hS
        clear hS
        rcases L2 with _ | ⟨x, L2⟩
        · go_wp2_with fail
          refine (s_empty ws _ _ _ _ _ _ _ _ _ HS2.out).mono ?_
          rintro e v7 ⟨rfl, rfl⟩
          go_wp2_with fail
          go_ret
          exact ⟨rfl, HBS.out.trans (HS2.out.below.mono hs2)⟩
        · have hxx : (x != x) = false := by simp
          simp only [List.length_cons] at hL2 ⊢
          go_wp2_with fail
          refine (s_pop ws _ _ _ L2 _ _ _ _ _ x HS2.out).mono ?_
          rintro e v5 ⟨rfl, hS5⟩
          have HS5 := Lib.hid hS5
          have cl := hS5.last
          clear hS5
          go_wp2_with fail
          exact ⟨⟨L2, by omega, rfl, HS5.out.cut⟩, by simp [sliceLen]⟩
set_option maxRecDepth 100000 in
set_option maxHeartbeats 16000000 in
theorem fnStackAgreesWithSliceModel.bare (a0 : Option Addr) (len0 cap0 : Nat) (z0 : List Int) (a1 : Option Addr) (len1 cap1 : Nat) (z1 : List Int) (w : World) (w0 : IsRow .u8 w a0 len0 cap0 z0) (w1 : IsRow .i64 w a1 len1 cap1 z1) (hl : len0 ≤ 65536) (hl1 : len1 ≤ 65536) (hl2 : len0 + 8 * len1 ≤ 1048576)
    (hv : len1 = 0) :
    Calls Try.prog 5 #[.slice a0 len0 cap0, .slice a1 len1 cap1] w fun e w' => e = .returned (.bool true) ∧ Below w.heap.size w w' := by
  have W0 := Lib.hid w0
  have W1 := Lib.hid w1
  have HXL := Lib.hid (show (z0.take len0).length = len0 by rw [List.length_take]; have := w0.len; omega)
  have HYL := Lib.hid (show (z1.take len1).length = len1 by rw [List.length_take]; have := w1.len; omega)
  have HWF := Lib.hid (show ∀ i, i < len0 → 0 ≤ (z0.take len0).getD i 0 ∧ (z0.take len0).getD i 0 ≤ 255 from fun i hi => by
    have h := w0.wf i (by have := w0.len; omega)
    have e : (z0.take len0).getD i 0 = z0.getD i 0 := by simp only [List.getD_eq_getElem?_getD, List.getElem?_take_of_lt hi]
    rw [e]
    simp [Lit.wf, IntKind.min, IntKind.max] at h
    exact h)
  clear w0 w1
  have hv0 : ¬ 0 < len1 := by omega
  clear hv
  have q1 : decide ((65536 : Int) < (len0 : Int)) = false := decide_eq_false (by omega)
  have q2 : decide ((65536 : Int) < (len1 : Int)) = false := decide_eq_false (by omega)
  have q3 : decide ((1048576 : Int) < (len0 : Int) + 8 * (len1 : Int)) = false := decide_eq_false (by omega)
  have hmk := make0 len0 (by omega)
  obtain ⟨i0, hi0, hz0, hz1, hz2⟩ := info_parts info3
  have HI := Lib.hid hi0
  have HZ1 := Lib.hid hz1
  clear hi0 hz0 hz1 hz2
  go_enter Try.func5, Try.ntmps5
  go_wp2_with (first | (go_at_call 16; go_in) | fail)
  refine (copy_bytes a0 len0 cap0 z0 _ W0.out (by omega)).mono ?_
  rintro e v1 ⟨A1, c1, rfl, hcp, hb1⟩
  obtain ⟨os, hos⟩ : ∃ os, z0.take len0 = os := ⟨_, rfl⟩
  rw [hos] at hcp HXL HWF
  have HCP := Lib.hid hcp
  have HB1 := Lib.hid hb1
  have hs1 := hb1.size
  have W2 := Lib.hid (W1.out.below hb1)
  clear hcp hb1 hos
  go_wp2_with fail
  refine (copy_ints a1 len1 cap1 z1 _ W2.out (by omega)).mono ?_
  rintro e ws ⟨A2, c2, rfl, hcp2, hb2⟩
  obtain ⟨vs, hvs⟩ : ∃ vs, z1.take len1 = vs := ⟨_, rfl⟩
  rw [hvs] at hcp2 HYL
  have HCX := Lib.hid (show CopyOf .u8 5 ws w.heap.size A1 os from HCP.out.keep fun g cs hr => hr.keep hb2 hr.lt)
  have HBS := Lib.hid (HB1.out.trans (hb2.mono hs1))
  have hs2 : w.heap.size ≤ ws.heap.size := Nat.le_trans hs1 hb2.size
  clear hcp2 hb2 hvs HCP HB1 W0 W1 W2
  go_wp2_with fail
  refine (znew _).mono ?_
  rintro e v3 ⟨rfl, hs3, hb3⟩
  have HS3 := Lib.hid hs3
  have HB3 := Lib.hid hb3
  clear hs3 hb3
  go_wp2_with fail
  refine (s_empty ws _ v3.heap.size len0 [] [] 0 (-1) [] _ (SM.start (by omega) HS3.out HB3.out)).mono ?_
  rintro e v4 ⟨rfl, rfl⟩
  have HSM := Lib.hid (SM.start (n := len0) (by omega) HS3.out HB3.out)
  clear HS3 HB3
  go_wp2_with fail
  go_loopw [6, 7] (fun mv i wr => ∃ (k : Nat) (L : List Int), k ≤ len0 ∧ L.length ≤ k ∧ i = .int .i64 k ∧ mv = .slice (some ⟨v3.heap.size, 0, none⟩) L.length len0 ∧ SM ws ws.heap.size v3.heap.size len0 L L k (-1) [] wr) (fun _ i _ => len0 - (intOf i).toNat)
  case atStart => exact ⟨0, [], Nat.zero_le _, Nat.zero_le _, rfl, rfl, HSM.out⟩
  case round =>
    obtain ⟨k, L, hk, hLk, rfl, rfl, hS⟩ := hrel
    have HS := Lib.hid hS
    clear hS HSM
    by_cases hlt : k < len0
    · obtain ⟨go, hA1, hgo, hro, hco⟩ := HCX.out.get (i := k) (by rw [HXL.out]; exact hlt)
      have co := (HS.out.below.cell (p := ⟨go, k, none⟩) hro.lt).trans (hco k (by rw [HXL.out]; exact hlt))
      obtain ⟨hw0, hw1⟩ := HWF.out k hlt
      subst hA1
      clear hro hco
      obtain ⟨o, ho⟩ : ∃ o, os.getD k 0 = o := ⟨_, rfl⟩
      rw [ho] at co hw0 hw1
      clear ho
      have hop : o % 4 = 0 ∨ o % 4 = 1 ∨ o % 4 = 2 ∨ o % 4 = 3 := by omega
      rcases L with _ | ⟨x, L⟩
      · rcases hop with ho | ho | ho | ho
        · go_wp2_with fail
          refine (s_push ws _ _ _ [] [] _ _ _ _ HS.out (by omega) (k : Int)).mono ?_
          rintro e v5 ⟨rfl, hS5⟩
          have HS5 := Lib.hid hS5
          clear hS5
          unfold NoEnd
          go_wp2_with (at_builtin; refine wpList_append_fits _ rfl (.tmp 84) (.tmp 86) 22 rfl ws.heap.size 3 i0 1 Try.underlying22 HI.out HZ1.out v3.heap.size _ len0 (List.map (Value.int .i64) (List.reverse ([] : List Int))) rfl (HS5.out.mod.alloc _) ⟨v5.heap.size, 0, none⟩ 1 1 [.int .i64 (k : Int)] rfl rfl (World.news_of_block (Row.made v5 3 #[.int .i64 (k : Int)])) (by simp [Value.oneCell']) (by first | omega | (simp only [List.length_nil, List.length_cons]; omega)) ?_; intro v6 hown6 hg6; have HS6 := Lib.hid (HS5.out.app hown6 hg6); clear hown6 hg6)
          refine (s_empty ws _ _ _ _ _ _ _ _ _ HS6.out).mono ?_
          rintro e v7 ⟨rfl, rfl⟩
          simp only [List.isEmpty_cons]
          go_wp2_with fail
          exact ⟨⟨k + 1, (k : Int) :: [], by omega, by first | (simp only [List.length_cons]; omega) | (simp; omega), by go_num, rfl, HS6.out⟩, by simp [intOf]; omega⟩
        · go_wp2_with fail
          refine (s_push ws _ _ _ [] [] _ _ _ _ HS.out (by omega) (k : Int)).mono ?_
          rintro e v5 ⟨rfl, hS5⟩
          have HS5 := Lib.hid hS5
          clear hS5
          unfold NoEnd
          go_wp2_with (at_builtin; refine wpList_append_fits _ rfl (.tmp 84) (.tmp 86) 22 rfl ws.heap.size 3 i0 1 Try.underlying22 HI.out HZ1.out v3.heap.size _ len0 (List.map (Value.int .i64) (List.reverse ([] : List Int))) rfl (HS5.out.mod.alloc _) ⟨v5.heap.size, 0, none⟩ 1 1 [.int .i64 (k : Int)] rfl rfl (World.news_of_block (Row.made v5 3 #[.int .i64 (k : Int)])) (by simp [Value.oneCell']) (by first | omega | (simp only [List.length_nil, List.length_cons]; omega)) ?_; intro v6 hown6 hg6; have HS6 := Lib.hid (HS5.out.app hown6 hg6); clear hown6 hg6)
          refine (s_empty ws _ _ _ _ _ _ _ _ _ HS6.out).mono ?_
          rintro e v7 ⟨rfl, rfl⟩
          simp only [List.isEmpty_cons]
          go_wp2_with fail
          exact ⟨⟨k + 1, (k : Int) :: [], by omega, by first | (simp only [List.length_cons]; omega) | (simp; omega), by go_num, rfl, HS6.out⟩, by simp [intOf]; omega⟩
        · go_wp2_with fail
          refine (s_push ws _ _ _ [] [] _ _ _ _ HS.out (by omega) (k : Int)).mono ?_
          rintro e v5 ⟨rfl, hS5⟩
          have HS5 := Lib.hid hS5
          clear hS5
          unfold NoEnd
          go_wp2_with (at_builtin; refine wpList_append_fits _ rfl (.tmp 84) (.tmp 86) 22 rfl ws.heap.size 3 i0 1 Try.underlying22 HI.out HZ1.out v3.heap.size _ len0 (List.map (Value.int .i64) (List.reverse ([] : List Int))) rfl (HS5.out.mod.alloc _) ⟨v5.heap.size, 0, none⟩ 1 1 [.int .i64 (k : Int)] rfl rfl (World.news_of_block (Row.made v5 3 #[.int .i64 (k : Int)])) (by simp [Value.oneCell']) (by first | omega | (simp only [List.length_nil, List.length_cons]; omega)) ?_; intro v6 hown6 hg6; have HS6 := Lib.hid (HS5.out.app hown6 hg6); clear hown6 hg6)
          refine (s_empty ws _ _ _ _ _ _ _ _ _ HS6.out).mono ?_
          rintro e v7 ⟨rfl, rfl⟩
          simp only [List.isEmpty_cons]
          go_wp2_with fail
          exact ⟨⟨k + 1, (k : Int) :: [], by omega, by first | (simp only [List.length_cons]; omega) | (simp; omega), by go_num, rfl, HS6.out⟩, by simp [intOf]; omega⟩
        · go_wp2_with fail
          refine (s_empty ws _ _ _ _ _ _ _ _ _ HS.out).mono ?_
          rintro e v7 ⟨rfl, rfl⟩
          simp only [List.isEmpty_nil]
          go_wp2_with fail
          exact ⟨⟨k + 1, [], by omega, by omega, by go_num, rfl, HS.out.more (by omega)⟩, by simp [intOf]; omega⟩
      · have el : (((L.length + 1 : Nat) : Int) == 0) = false := by rw [beq_eq_false_iff_ne]; omega
        have el2 : ((L.length : Int) + 1 == 0) = false := by rw [beq_eq_false_iff_ne]; omega
        simp only [List.length_cons] at hLk ⊢
        have hxx : (x != x) = false := by simp
        rcases hop with ho | ho | ho | ho
        · go_wp2_with fail
          refine (s_push ws _ _ _ (x :: L) (x :: L) _ _ _ _ HS.out (by omega) (k : Int)).mono ?_
          rintro e v5 ⟨rfl, hS5⟩
          have HS5 := Lib.hid hS5
          clear hS5
          unfold NoEnd
          go_wp2_with (at_builtin; refine wpList_append_fits _ rfl (.tmp 84) (.tmp 86) 22 rfl ws.heap.size 3 i0 1 Try.underlying22 HI.out HZ1.out v3.heap.size _ len0 (List.map (Value.int .i64) (List.reverse ((x :: L) : List Int))) rfl (HS5.out.mod.alloc _) ⟨v5.heap.size, 0, none⟩ 1 1 [.int .i64 (k : Int)] rfl rfl (World.news_of_block (Row.made v5 3 #[.int .i64 (k : Int)])) (by simp [Value.oneCell']) (by first | omega | (simp only [List.length_nil, List.length_cons]; omega)) ?_; intro v6 hown6 hg6; have HS6 := Lib.hid (HS5.out.app hown6 hg6); clear hown6 hg6)
          refine (s_empty ws _ _ _ _ _ _ _ _ _ HS6.out).mono ?_
          rintro e v7 ⟨rfl, rfl⟩
          simp only [List.isEmpty_cons]
          go_wp2_with fail
          exact ⟨⟨k + 1, (k : Int) :: (x :: L), by omega, by first | (simp only [List.length_cons]; omega) | (simp; omega), by go_num, rfl, HS6.out⟩, by simp [intOf]; omega⟩
        · go_wp2_with fail
          refine (s_pop ws _ _ _ L _ _ _ _ _ x HS.out).mono ?_
          rintro e v5 ⟨rfl, hS5⟩
          have HS5 := Lib.hid hS5
          have cl := hS5.last
          clear hS5
          have el0 : ((L.length : Int) == 0) = L.isEmpty := by cases L <;> simp; omega
          have hbb : (L.isEmpty != L.isEmpty) = false := by simp
          go_wp2_with fail
          refine (s_empty ws _ _ _ _ _ _ _ _ _ HS5.out).mono ?_
          rintro e v7 ⟨rfl, rfl⟩
          go_wp2_with fail
          exact ⟨⟨k + 1, L, by omega, by omega, by go_num, rfl, HS5.out.cut.more (by omega)⟩, by simp [intOf]; omega⟩
        · go_wp2_with fail
          refine (s_top ws _ _ _ L _ _ _ _ _ x HS.out).mono ?_
          rintro e v5 ⟨rfl, hS5⟩
          have HS5 := Lib.hid hS5
          have cl := hS5.last
          clear hS5
          go_wp2_with fail
          refine (s_empty ws _ _ _ _ _ _ _ _ _ HS5.out).mono ?_
          rintro e v7 ⟨rfl, rfl⟩
          simp only [List.isEmpty_cons]
          go_wp2_with fail
          exact ⟨⟨k + 1, x :: L, by omega, by simp only [List.length_cons]; omega, by go_num, rfl, HS5.out.more (by omega)⟩, by simp [intOf]; omega⟩
        · go_wp2_with fail
          refine (s_empty ws _ _ _ _ _ _ _ _ _ HS.out).mono ?_
          rintro e v7 ⟨rfl, rfl⟩
          simp only [List.isEmpty_cons]
          go_wp2_with fail
          exact ⟨⟨k + 1, x :: L, by omega, by simp only [List.length_cons]; omega, by go_num, rfl, HS.out.more (by omega)⟩, by simp [intOf]; omega⟩
    · obtain rfl : k = len0 := by omega
      obtain ⟨wo, hwo⟩ : ∃ wo : World, wo = wr := ⟨_, rfl⟩
      rw [← hwo] at HS ⊢
      clear hwo
      go_wp2_with fail
      go_loopw [6] (fun mv wr => ∃ (L : List Int), L.length ≤ k ∧ mv = .slice (some ⟨v3.heap.size, 0, none⟩) L.length k ∧ SM ws ws.heap.size v3.heap.size k L L k (-1) [] wr) (fun mv _ => sliceLen mv)
      case atStart => exact ⟨L, hLk, rfl, HS.out⟩
      case round =>
        obtain ⟨L2, hL2, rfl, hS⟩ := hrel
        have HS2 := Lib.hid hS
        clear hS
        rcases L2 with _ | ⟨x, L2⟩
        · go_wp2_with fail
          refine (s_empty ws _ _ _ _ _ _ _ _ _ HS2.out).mono ?_
          rintro e v7 ⟨rfl, rfl⟩
          go_wp2_with fail
          go_ret
          exact ⟨rfl, HBS.out.trans (HS2.out.below.mono hs2)⟩
        · have hxx : (x != x) = false := by simp
          simp only [List.length_cons] at hL2 ⊢
          go_wp2_with fail
          refine (s_pop ws _ _ _ L2 _ _ _ _ _ x HS2.out).mono ?_
          rintro e v5 ⟨rfl, hS5⟩
          have HS5 := Lib.hid hS5
          have cl := hS5.last
          clear hS5
          go_wp2_with fail
          exact ⟨⟨L2, by omega, rfl, HS5.out.cut⟩, by simp [sliceLen]⟩
set_option maxRecDepth 100000 in
set_option maxHeartbeats 4000000 in
theorem fnStackAgreesWithSliceModel.walk (a0 : Option Addr) (len0 cap0 : Nat) (z0 : List Int) (a1 : Option Addr) (len1 cap1 : Nat) (z1 : List Int) (w : World) (w0 : IsRow .u8 w a0 len0 cap0 z0) (w1 : IsRow .i64 w a1 len1 cap1 z1) :
    Calls Try.prog 5 #[.slice a0 len0 cap0, .slice a1 len1 cap1] w fun e w' => e = .returned (.bool true) ∧ Below w.heap.size w w' := by
  have hm := w0.len.2
  have hm1 := w1.len.2
  unfold maxLen at hm hm1
  by_cases h0 : len0 ≤ 65536
  · by_cases h1 : len1 ≤ 65536
    · by_cases h2 : len0 + 8 * len1 ≤ 1048576
      · by_cases h3 : 0 < len1
        · exact fnStackAgreesWithSliceModel.main a0 len0 cap0 z0 a1 len1 cap1 z1 w w0 w1 h0 h1 h2 h3
        · exact fnStackAgreesWithSliceModel.bare a0 len0 cap0 z0 a1 len1 cap1 z1 w w0 w1 h0 h1 h2 (by omega)
      · clear w0 w1
        go_enter Try.func5, Try.ntmps5
        go_wp2
        all_goals (go_ret; exact ⟨rfl, Below.refl _ _⟩)
    · clear w0 w1
      go_enter Try.func5, Try.ntmps5
      go_wp2
      all_goals (go_ret; exact ⟨rfl, Below.refl _ _⟩)
  · clear w0 w1
    go_enter Try.func5, Try.ntmps5
    go_wp2
    all_goals (go_ret; exact ⟨rfl, Below.refl _ _⟩)
end Go.Proofs.Ythcggbbkbhcmjaa
