/-
  The walk of the law FnRestoreBringsBackSaved (n001_8): it returns true for every input. Printed by genF.py.
-/
import Derived.Test.YthcggbbkbhcmjaaWalkE
namespace Go.Proofs.Ythcggbbkbhcmjaa
set_option linter.unusedVariables false
open Go.ChangeShapes Go.WideShapes Go.ChangeAt Go.RowKit M
def SaveOut (ws : World) (p m cap : Nat) (L K : List Int) (N : Nat) (lim : Int) (sv : List (Int × Int × List (Nat × Value))) (e : Ending) (w' : World) : Prop :=
  ∃ idx, e = .returned (.tuple #[.int .i64 idx, .int .i64 lim]) ∧ SM ws p m cap L K N (max idx lim) ((idx, lim, ints L) :: sv) w'
theorem s_save (ws : World) (p m cap : Nat) (L K : List Int) (N : Nat) (lim : Int) (sv : List (Int × Int × List (Nat × Value))) (wr : World) (h : SM ws p m cap L K N lim sv wr) :
    Calls Try.prog 19 #[.pointer (some ⟨p, 0, none⟩)] wr (SaveOut ws p m cap L K N lim sv) := by
  obtain ⟨d, idx, h1, h2, h3⟩ := h
  refine (zsave wr _ _ d L idx _ _ _ h1).mono fun e w' ⟨he, hs, ht⟩ => ?_
  obtain ⟨g1, g2⟩ := SM.step h1 h2 h3 ht (fun k h => .inl h)
  exact ⟨idx, he, d, idx, hs, g1, g2⟩
theorem s_restore (ws : World) (p m cap : Nat) (L L0 K : List Int) (N : Nat) (lim i0 m0 : Int) (sv : List (Int × Int × List (Nat × Value))) (wr : World) (h : SM ws p m cap L K N lim ((i0, m0, ints L0) :: sv) wr) :
    Calls Try.prog 20 #[.pointer (some ⟨p, 0, none⟩), .int .i64 i0, .int .i64 m0] wr fun e w' => e = NoEnd ∧ SM ws p m cap L0 K N m0 sv w' := by
  obtain ⟨d, idx, h1, h2, h3⟩ := h
  refine (zrestore wr _ _ d L L0 idx lim i0 m0 sv N h1).mono fun e w' ⟨he, hs, ht⟩ => ?_
  obtain ⟨g1, g2⟩ := SM.step h1 h2 h3 ht (fun k h => .inl h)
  exact ⟨he, d, i0, hs, g1, g2⟩
set_option maxRecDepth 100000 in
set_option maxHeartbeats 16000000 in
theorem fnRestoreBringsBackSaved.main (a0 : Option Addr) (len0 cap0 : Nat) (z0 : List Int) (a1 : Option Addr) (len1 cap1 : Nat) (z1 : List Int) (a2 : Option Addr) (len2 cap2 : Nat) (z2 : List Int) (w : World) (w0 : IsRow .i64 w a0 len0 cap0 z0) (w1 : IsRow .u8 w a1 len1 cap1 z1) (w2 : IsRow .i64 w a2 len2 cap2 z2) (hl : len0 ≤ 65536) (hl1 : len1 ≤ 65536) (hl2 : len2 ≤ 65536) (hl3 : 8 * len0 + len1 + 8 * len2 ≤ 1048576)
    (hv : 0 < len2) :
    Calls Try.prog 6 #[.slice a0 len0 cap0, .slice a1 len1 cap1, .slice a2 len2 cap2] w fun e w' => e = .returned (.bool true) ∧ Below w.heap.size w w' := by
  have W0 := Lib.hid w0
  have W1 := Lib.hid w1
  have W2 := Lib.hid w2
  have HXL := Lib.hid (show (z0.take len0).length = len0 by rw [List.length_take]; have := w0.len; omega)
  have HOL := Lib.hid (show (z1.take len1).length = len1 by rw [List.length_take]; have := w1.len; omega)
  have HYL := Lib.hid (show (z2.take len2).length = len2 by rw [List.length_take]; have := w2.len; omega)
  have HWF := Lib.hid (show ∀ i, i < len1 → 0 ≤ (z1.take len1).getD i 0 ∧ (z1.take len1).getD i 0 ≤ 255 from fun i hi => by
    have h := w1.wf i (by have := w1.len; omega)
    have e : (z1.take len1).getD i 0 = z1.getD i 0 := by simp only [List.getD_eq_getElem?_getD, List.getElem?_take_of_lt hi]
    rw [e]
    simp [Lit.wf, IntKind.min, IntKind.max] at h
    exact h)
  clear w0 w1 w2
  have q1 : decide ((65536 : Int) < (len0 : Int)) = false := decide_eq_false (by omega)
  have q2 : decide ((65536 : Int) < (len1 : Int)) = false := decide_eq_false (by omega)
  have q3 : decide ((65536 : Int) < (len2 : Int)) = false := decide_eq_false (by omega)
  have q4 : decide ((1048576 : Int) < 8 * (len0 : Int) + (len1 : Int) + 8 * (len2 : Int)) = false := decide_eq_false (by omega)
  have hmk : ∀ W : World, (Instr.makeSlice 22 (.int .i64 0) (.int .i64 ((len0 : Int) + (len1 : Int)))).run Try.prog W = .ok (.slice (some ⟨W.heap.size, 0, none⟩) 0 (len0 + len1)) (W.alloc (.cells (madeCells #[.int .i64 0] (len0 + len1)) 3)) := fun W => by
    have := make0 (len0 + len1) (by omega) W
    rwa [Int.natCast_add] at this
  obtain ⟨i0, hi0, hz0, hz1, hz2⟩ := info_parts info3
  have HI := Lib.hid hi0
  have HZ1 := Lib.hid hz1
  clear hi0 hz0 hz1 hz2
  go_enter Try.func6, Try.ntmps6
  go_wp2_with (first | (go_at_call 18; go_in) | fail)
  refine (copy_ints a0 len0 cap0 z0 _ W0.out (by omega)).mono ?_
  rintro e u1 ⟨A0, c0, rfl, hcp, hb1⟩
  obtain ⟨xs, hxs⟩ : ∃ xs, z0.take len0 = xs := ⟨_, rfl⟩
  rw [hxs] at hcp HXL
  have HCP := Lib.hid hcp
  have HB1 := Lib.hid hb1
  have hs1 := hb1.size
  have W3 := Lib.hid (W1.out.below hb1)
  have W4 := Lib.hid (W2.out.below hb1)
  clear hcp hb1 hxs W0 W1 W2
  go_wp2_with fail
  refine (copy_bytes a1 len1 cap1 z1 _ W3.out (by omega)).mono ?_
  rintro e u2 ⟨A1, c1, rfl, hcp1, hb2⟩
  obtain ⟨os, hos⟩ : ∃ os, z1.take len1 = os := ⟨_, rfl⟩
  rw [hos] at hcp1 HOL HWF
  have HCP2 := Lib.hid (HCP.out.keep fun g cs hr => hr.keep hb2 hr.lt)
  have HCO := Lib.hid hcp1
  have HB2 := Lib.hid (HB1.out.trans (hb2.mono hs1))
  have hs2 : w.heap.size ≤ u2.heap.size := Nat.le_trans hs1 hb2.size
  have W5 := Lib.hid (W4.out.below hb2)
  clear hcp1 hb2 hos HCP HB1 W3 W4
  go_wp2_with fail
  refine (copy_ints a2 len2 cap2 z2 _ W5.out (by omega)).mono ?_
  rintro e ws ⟨A2, c2, rfl, hcp2, hb3⟩
  obtain ⟨vs, hvs⟩ : ∃ vs, z2.take len2 = vs := ⟨_, rfl⟩
  rw [hvs] at hcp2 HYL
  have HCX := Lib.hid (HCP2.out.keep fun g cs hr => hr.keep hb3 hr.lt)
  have HCO2 := Lib.hid (HCO.out.keep fun g cs hr => hr.keep hb3 hr.lt)
  obtain ⟨gv, hA2, hgv, hrv, hcv⟩ := hcp2.get (i := 0) (by rw [HYL.out]; exact hv)
  have HCV := Lib.hid hcv
  have hgl := hrv.lt
  subst hA2
  clear hcv hrv
  have HBS := Lib.hid (HB2.out.trans (hb3.mono hs2))
  have hs3 : w.heap.size ≤ ws.heap.size := Nat.le_trans hs2 hb3.size
  clear hcp2 hb3 hvs HCP2 HCO HB2 W5
  go_wp2_with fail
  refine (znew _).mono ?_
  rintro e v3 ⟨rfl, hs3', hb3⟩
  have HSM := Lib.hid (SM.start (n := len0 + len1) (by omega) hs3' hb3)
  clear hs3' hb3
  go_wp2_with fail
  go_loopw [8, 9] (fun mv i wr => ∃ (k : Nat), k ≤ len0 ∧ i = .int .i64 k ∧ mv = .slice (some ⟨v3.heap.size, 0, none⟩) k (len0 + len1) ∧ SM ws ws.heap.size v3.heap.size (len0 + len1) (xs.take k).reverse (xs.take k).reverse k (-1) [] wr) (fun _ i _ => len0 - (intOf i).toNat)
  case atStart => exact ⟨0, Nat.zero_le _, rfl, rfl, HSM.out⟩
  case round =>
    obtain ⟨k, hk, rfl, rfl, hS⟩ := hrel
    have HS := Lib.hid hS
    clear hS HSM
    have HLEN := Lib.hid (show (xs.take k).reverse.length = k by rw [List.length_reverse, List.length_take, HXL.out]; omega)
    by_cases hlt : k < len0
    · obtain ⟨gx, hA0, hgx, hrx, hcx⟩ := HCX.out.get (i := k) (by rw [HXL.out]; exact hlt)
      have cx := (HS.out.below.cell (p := ⟨gx, k, none⟩) hrx.lt).trans (hcx k (by rw [HXL.out]; exact hlt))
      have hgxl := hrx.lt
      subst hA0
      clear hrx
      have HCXX := Lib.hid hcx
      clear hcx
      go_wp2_with fail
      refine (s_push ws _ _ _ (xs.take k).reverse (xs.take k).reverse _ _ _ _ HS.out (by omega) (xs.getD k 0)).mono ?_
      rintro e v5 ⟨rfl, hS5⟩
      have HS5 := Lib.hid hS5
      have cx5 := (hS5.below.cell (p := ⟨gx, k, none⟩) hgxl).trans (HCXX.out k (by rw [HXL.out]; exact hlt))
      have hown5 := hS5.mod
      rw [HLEN.out] at hown5
      have HOWN5 := Lib.hid hown5
      clear hS5 hown5
      unfold NoEnd
      go_wp2_with (at_builtin; refine wpList_append_fits _ rfl (.tmp 75) (.tmp 80) 22 rfl ws.heap.size 3 i0 1 Try.underlying22 HI.out HZ1.out v3.heap.size k (len0 + len1) (List.map (Value.int .i64) (List.reverse ((xs.take k).reverse : List Int))) rfl (HOWN5.out.alloc _) ⟨v5.heap.size, 0, none⟩ 1 1 [.int .i64 (xs.getD k 0)] rfl rfl (World.news_of_block (Row.made v5 3 #[.int .i64 (xs.getD k 0)])) (by simp [Value.oneCell']) (by omega) ?_; intro v6 hown6 hg6; have HO6 := Lib.hid hown6; have HG6 := Lib.hid hg6; clear hown6 hg6)
      refine ⟨⟨k + 1, by omega, by go_num, rfl, ?_⟩, by simp [intOf]; omega⟩
      rw [rev_take xs k (by rw [HXL.out]; exact hlt)]
      exact HS5.out.app (by rw [HLEN.out]; exact HO6.out) HG6.out
    · obtain rfl : k = len0 := by omega
      have hS := HS.out
      rw [List.take_of_length_le (by rw [HXL.out]; exact Nat.le_refl _)] at hS
      have HS0 := Lib.hid hS
      clear hS HS HLEN
      obtain ⟨wo, hwo⟩ : ∃ wo : World, wo = wr := ⟨_, rfl⟩
      rw [← hwo] at HS0 ⊢
      clear hwo
      go_wp2_with fail
      refine (s_save ws _ _ _ xs.reverse xs.reverse _ _ _ _ HS0.out).mono ?_
      rintro e v7 ⟨idx, rfl, hS7⟩
      have HS7 := Lib.hid hS7
      clear hS7
      have HRL := Lib.hid (show xs.reverse.length = k by rw [List.length_reverse, HXL.out])
      go_wp2_with fail
      go_loopw [8, 12] (fun mv i wr => ∃ (j : Nat) (L : List Int), j ≤ len1 ∧ L.length ≤ k + j ∧ i = .int .i64 j ∧ mv = .slice (some ⟨v3.heap.size, 0, none⟩) L.length (k + len1) ∧ SM ws ws.heap.size v3.heap.size (k + len1) L L (k + j) (max idx (-1)) [(idx, -1, ints xs.reverse)] wr) (fun _ i _ => len1 - (intOf i).toNat)
      case atStart => exact ⟨0, xs.reverse, Nat.zero_le _, by rw [HRL.out]; exact Nat.le_refl _, rfl, by rw [HRL.out], HS7.out⟩
      case round =>
        obtain ⟨j, L, hj, hLj, rfl, rfl, hS⟩ := hrel
        have HS := Lib.hid hS
        clear hS HS0 HS7
        by_cases hlt2 : j < len1
        · obtain ⟨go, hA1, hgo, hro, hco⟩ := HCO2.out.get (i := j) (by rw [HOL.out]; exact hlt2)
          have co := (HS.out.below.cell (p := ⟨go, j, none⟩) hro.lt).trans (hco j (by rw [HOL.out]; exact hlt2))
          obtain ⟨hw0, hw1⟩ := HWF.out j hlt2
          subst hA1
          clear hro hco
          obtain ⟨o, ho⟩ : ∃ o, os.getD j 0 = o := ⟨_, rfl⟩
          rw [ho] at co hw0 hw1
          clear ho
          have hmod : j % len2 < len2 := Nat.mod_lt _ hv
          have cv := (HS.out.below.cell (p := ⟨gv, j % len2, none⟩) hgl).trans (HCV.out (j % len2) (by rw [HYL.out]; exact hmod))
          obtain ⟨v, hvv⟩ : ∃ v, vs.getD (j % len2) 0 = v := ⟨_, rfl⟩
          rw [hvv] at cv
          clear hvv
          have hop : o % 2 = 0 ∨ o % 2 = 1 := by omega
          rcases L with _ | ⟨x, L⟩
          · rcases hop with ho | ho
            · go_wp2_with fail
              refine (s_push ws _ _ _ [] [] _ _ _ _ HS.out (by omega) v).mono ?_
              rintro e v5 ⟨rfl, hS5⟩
              have HS5 := Lib.hid hS5
              clear hS5
              unfold NoEnd
              go_wp2_with (at_builtin; refine wpList_append_fits _ rfl (.tmp 119) (.tmp 121) 22 rfl ws.heap.size 3 i0 1 Try.underlying22 HI.out HZ1.out v3.heap.size _ (k + len1) (List.map (Value.int .i64) (List.reverse ([] : List Int))) rfl (HS5.out.mod.alloc _) ⟨v5.heap.size, 0, none⟩ 1 1 [.int .i64 v] rfl rfl (World.news_of_block (Row.made v5 3 #[.int .i64 v])) (by simp [Value.oneCell']) (by first | omega | (simp only [List.length_nil, List.length_cons]; omega)) ?_; intro v6 hown6 hg6; have HS6 := Lib.hid (HS5.out.app hown6 hg6); clear hown6 hg6)
              refine (s_empty ws _ _ _ _ _ _ _ _ _ HS6.out).mono ?_
              rintro e v7 ⟨rfl, rfl⟩
              simp only [List.isEmpty_cons]
              go_wp2_with fail
              exact ⟨⟨j + 1, v :: [], by omega, by first | (simp only [List.length_cons]; omega) | (simp; omega), by go_num, rfl, HS6.out⟩, by simp [intOf]; omega⟩
            · go_wp2_with fail
              refine (s_push ws _ _ _ [] [] _ _ _ _ HS.out (by omega) v).mono ?_
              rintro e v5 ⟨rfl, hS5⟩
              have HS5 := Lib.hid hS5
              clear hS5
              unfold NoEnd
              go_wp2_with (at_builtin; refine wpList_append_fits _ rfl (.tmp 119) (.tmp 121) 22 rfl ws.heap.size 3 i0 1 Try.underlying22 HI.out HZ1.out v3.heap.size _ (k + len1) (List.map (Value.int .i64) (List.reverse ([] : List Int))) rfl (HS5.out.mod.alloc _) ⟨v5.heap.size, 0, none⟩ 1 1 [.int .i64 v] rfl rfl (World.news_of_block (Row.made v5 3 #[.int .i64 v])) (by simp [Value.oneCell']) (by first | omega | (simp only [List.length_nil, List.length_cons]; omega)) ?_; intro v6 hown6 hg6; have HS6 := Lib.hid (HS5.out.app hown6 hg6); clear hown6 hg6)
              refine (s_empty ws _ _ _ _ _ _ _ _ _ HS6.out).mono ?_
              rintro e v7 ⟨rfl, rfl⟩
              simp only [List.isEmpty_cons]
              go_wp2_with fail
              exact ⟨⟨j + 1, v :: [], by omega, by first | (simp only [List.length_cons]; omega) | (simp; omega), by go_num, rfl, HS6.out⟩, by simp [intOf]; omega⟩
          · have el : (((L.length + 1 : Nat) : Int) == 0) = false := by rw [beq_eq_false_iff_ne]; omega
            have el2 : ((L.length : Int) + 1 == 0) = false := by rw [beq_eq_false_iff_ne]; omega
            simp only [List.length_cons] at hLj ⊢
            have hxx : (x != x) = false := by simp
            rcases hop with ho | ho
            · go_wp2_with fail
              refine (s_push ws _ _ _ (x :: L) (x :: L) _ _ _ _ HS.out (by omega) v).mono ?_
              rintro e v5 ⟨rfl, hS5⟩
              have HS5 := Lib.hid hS5
              clear hS5
              unfold NoEnd
              go_wp2_with (at_builtin; refine wpList_append_fits _ rfl (.tmp 119) (.tmp 121) 22 rfl ws.heap.size 3 i0 1 Try.underlying22 HI.out HZ1.out v3.heap.size _ (k + len1) (List.map (Value.int .i64) (List.reverse ((x :: L) : List Int))) rfl (HS5.out.mod.alloc _) ⟨v5.heap.size, 0, none⟩ 1 1 [.int .i64 v] rfl rfl (World.news_of_block (Row.made v5 3 #[.int .i64 v])) (by simp [Value.oneCell']) (by first | omega | (simp only [List.length_nil, List.length_cons]; omega)) ?_; intro v6 hown6 hg6; have HS6 := Lib.hid (HS5.out.app hown6 hg6); clear hown6 hg6)
              refine (s_empty ws _ _ _ _ _ _ _ _ _ HS6.out).mono ?_
              rintro e v7 ⟨rfl, rfl⟩
              simp only [List.isEmpty_cons]
              go_wp2_with fail
              exact ⟨⟨j + 1, v :: (x :: L), by omega, by first | (simp only [List.length_cons]; omega) | (simp; omega), by go_num, rfl, HS6.out⟩, by simp [intOf]; omega⟩
            · go_wp2_with fail
              refine (s_pop ws _ _ _ L _ _ _ _ _ x HS.out).mono ?_
              rintro e v5 ⟨rfl, hS5⟩
              have HS5 := Lib.hid hS5
              have cl := hS5.last
              clear hS5
              have el0 : ((L.length : Int) == 0) = L.isEmpty := by cases L <;> simp; omega
              have hbb : (L.isEmpty != L.isEmpty) = false := by simp
              go_wp2_with fail
              refine (s_empty ws _ _ _ _ _ _ _ _ _ HS5.out).mono ?_
              rintro e v7 ⟨rfl, rfl⟩
              go_wp2_with fail
              exact ⟨⟨j + 1, L, by omega, by omega, by go_num, rfl, HS5.out.cut.more (by omega)⟩, by simp [intOf]; omega⟩
        · obtain ⟨wq, hwq⟩ : ∃ wq : World, wq = wr := ⟨_, rfl⟩
          rw [← hwq] at HS ⊢
          clear hwq
          go_wp2_with fail
          refine (s_restore ws _ _ _ L xs.reverse L _ _ idx (-1) [] _ HS.out).mono ?_
          rintro e v8 ⟨rfl, hS8⟩
          have HS8 := Lib.hid hS8
          clear hS8
          unfold NoEnd
          go_wp2_with fail
          go_loopw [16] (fun i wr => ∃ (q : Nat), q ≤ k ∧ i = .int .i64 ((q : Int) - 1) ∧ SM ws ws.heap.size v3.heap.size (k + len1) (xs.take q).reverse L (k + j) (-1) [] wr) (fun i _ => (intOf i + 1).toNat)
          case atStart => exact ⟨k, Nat.le_refl _, rfl, by rw [List.take_of_length_le (by rw [HXL.out]; exact Nat.le_refl _)]; exact HS8.out⟩
          case round =>
            obtain ⟨q, hq, rfl, hS⟩ := hrel
            have HSQ := Lib.hid hS
            clear hS
            by_cases hq0 : 0 < q
            · have hS := HSQ.out
              rw [rev_take' xs q hq0 (by rw [HXL.out]; omega)] at hS
              have HSR := Lib.hid hS
              clear hS
              obtain ⟨gx, hA0, hgx, hrx, hcx⟩ := HCX.out.get (i := q - 1) (by rw [HXL.out]; omega)
              have hgxl := hrx.lt
              have HCXX := Lib.hid hcx
              subst hA0
              clear hrx hcx
              have hqq : (xs.getD (q - 1) 0 != xs.getD (q - 1) 0) = false := by simp
              go_wp2_with fail
              refine (s_empty ws _ _ _ _ _ _ _ _ _ HSR.out).mono ?_
              rintro e v9 ⟨rfl, rfl⟩
              simp only [List.isEmpty_cons]
              go_wp2_with fail
              refine (s_top ws _ _ _ _ _ _ _ _ _ (xs.getD (q - 1) 0) HSR.out).mono ?_
              rintro e v10 ⟨rfl, hS10⟩
              have HS10 := Lib.hid hS10
              have c10 := (hS10.below.cell (p := ⟨gx, q - 1, none⟩) hgxl).trans (HCXX.out (q - 1) (by rw [HXL.out]; omega))
              clear hS10
              go_wp2_with fail
              refine (s_pop ws _ _ _ _ _ _ _ _ _ (xs.getD (q - 1) 0) HS10.out).mono ?_
              rintro e v11 ⟨rfl, hS11⟩
              have HS11 := Lib.hid hS11
              have c11 := (hS11.below.cell (p := ⟨gx, q - 1, none⟩) hgxl).trans (HCXX.out (q - 1) (by rw [HXL.out]; omega))
              clear hS11
              go_wp2_with fail
              refine ⟨⟨q - 1, by omega, ?_, HS11.out⟩, by simp [intOf]; omega⟩
              rw [show ((q - 1 : Nat) : Int) = (q : Int) - 1 by omega]
            · obtain rfl : q = 0 := by omega
              go_wp2_with fail
              refine (s_empty ws _ _ _ [] _ _ _ _ _ HSQ.out).mono ?_
              rintro e v9 ⟨rfl, rfl⟩
              go_wp2_with fail
              go_ret
              exact ⟨rfl, HBS.out.trans (HSQ.out.below.mono hs3)⟩
set_option maxRecDepth 100000 in
set_option maxHeartbeats 16000000 in
theorem fnRestoreBringsBackSaved.bare (a0 : Option Addr) (len0 cap0 : Nat) (z0 : List Int) (a1 : Option Addr) (len1 cap1 : Nat) (z1 : List Int) (a2 : Option Addr) (len2 cap2 : Nat) (z2 : List Int) (w : World) (w0 : IsRow .i64 w a0 len0 cap0 z0) (w1 : IsRow .u8 w a1 len1 cap1 z1) (w2 : IsRow .i64 w a2 len2 cap2 z2) (hl : len0 ≤ 65536) (hl1 : len1 ≤ 65536) (hl2 : len2 ≤ 65536) (hl3 : 8 * len0 + len1 + 8 * len2 ≤ 1048576)
    (hv : len2 = 0) :
    Calls Try.prog 6 #[.slice a0 len0 cap0, .slice a1 len1 cap1, .slice a2 len2 cap2] w fun e w' => e = .returned (.bool true) ∧ Below w.heap.size w w' := by
  have W0 := Lib.hid w0
  have W1 := Lib.hid w1
  have W2 := Lib.hid w2
  have HXL := Lib.hid (show (z0.take len0).length = len0 by rw [List.length_take]; have := w0.len; omega)
  have HOL := Lib.hid (show (z1.take len1).length = len1 by rw [List.length_take]; have := w1.len; omega)
  have HYL := Lib.hid (show (z2.take len2).length = len2 by rw [List.length_take]; have := w2.len; omega)
  have HWF := Lib.hid (show ∀ i, i < len1 → 0 ≤ (z1.take len1).getD i 0 ∧ (z1.take len1).getD i 0 ≤ 255 from fun i hi => by
    have h := w1.wf i (by have := w1.len; omega)
    have e : (z1.take len1).getD i 0 = z1.getD i 0 := by simp only [List.getD_eq_getElem?_getD, List.getElem?_take_of_lt hi]
    rw [e]
    simp [Lit.wf, IntKind.min, IntKind.max] at h
    exact h)
  clear w0 w1 w2
  have hv0 : ¬ 0 < len2 := by omega
  clear hv
  have q1 : decide ((65536 : Int) < (len0 : Int)) = false := decide_eq_false (by omega)
  have q2 : decide ((65536 : Int) < (len1 : Int)) = false := decide_eq_false (by omega)
  have q3 : decide ((65536 : Int) < (len2 : Int)) = false := decide_eq_false (by omega)
  have q4 : decide ((1048576 : Int) < 8 * (len0 : Int) + (len1 : Int) + 8 * (len2 : Int)) = false := decide_eq_false (by omega)
  have hmk : ∀ W : World, (Instr.makeSlice 22 (.int .i64 0) (.int .i64 ((len0 : Int) + (len1 : Int)))).run Try.prog W = .ok (.slice (some ⟨W.heap.size, 0, none⟩) 0 (len0 + len1)) (W.alloc (.cells (madeCells #[.int .i64 0] (len0 + len1)) 3)) := fun W => by
    have := make0 (len0 + len1) (by omega) W
    rwa [Int.natCast_add] at this
  obtain ⟨i0, hi0, hz0, hz1, hz2⟩ := info_parts info3
  have HI := Lib.hid hi0
  have HZ1 := Lib.hid hz1
  clear hi0 hz0 hz1 hz2
  go_enter Try.func6, Try.ntmps6
  go_wp2_with (first | (go_at_call 18; go_in) | fail)
  refine (copy_ints a0 len0 cap0 z0 _ W0.out (by omega)).mono ?_
  rintro e u1 ⟨A0, c0, rfl, hcp, hb1⟩
  obtain ⟨xs, hxs⟩ : ∃ xs, z0.take len0 = xs := ⟨_, rfl⟩
  rw [hxs] at hcp HXL
  have HCP := Lib.hid hcp
  have HB1 := Lib.hid hb1
  have hs1 := hb1.size
  have W3 := Lib.hid (W1.out.below hb1)
  have W4 := Lib.hid (W2.out.below hb1)
  clear hcp hb1 hxs W0 W1 W2
  go_wp2_with fail
  refine (copy_bytes a1 len1 cap1 z1 _ W3.out (by omega)).mono ?_
  rintro e u2 ⟨A1, c1, rfl, hcp1, hb2⟩
  obtain ⟨os, hos⟩ : ∃ os, z1.take len1 = os := ⟨_, rfl⟩
  rw [hos] at hcp1 HOL HWF
  have HCP2 := Lib.hid (HCP.out.keep fun g cs hr => hr.keep hb2 hr.lt)
  have HCO := Lib.hid hcp1
  have HB2 := Lib.hid (HB1.out.trans (hb2.mono hs1))
  have hs2 : w.heap.size ≤ u2.heap.size := Nat.le_trans hs1 hb2.size
  have W5 := Lib.hid (W4.out.below hb2)
  clear hcp1 hb2 hos HCP HB1 W3 W4
  go_wp2_with fail
  refine (copy_ints a2 len2 cap2 z2 _ W5.out (by omega)).mono ?_
  rintro e ws ⟨A2, c2, rfl, hcp2, hb3⟩
  obtain ⟨vs, hvs⟩ : ∃ vs, z2.take len2 = vs := ⟨_, rfl⟩
  rw [hvs] at hcp2 HYL
  have HCX := Lib.hid (HCP2.out.keep fun g cs hr => hr.keep hb3 hr.lt)
  have HCO2 := Lib.hid (HCO.out.keep fun g cs hr => hr.keep hb3 hr.lt)
  have HBS := Lib.hid (HB2.out.trans (hb3.mono hs2))
  have hs3 : w.heap.size ≤ ws.heap.size := Nat.le_trans hs2 hb3.size
  clear hcp2 hb3 hvs HCP2 HCO HB2 W5
  go_wp2_with fail
  refine (znew _).mono ?_
  rintro e v3 ⟨rfl, hs3', hb3⟩
  have HSM := Lib.hid (SM.start (n := len0 + len1) (by omega) hs3' hb3)
  clear hs3' hb3
  go_wp2_with fail
  go_loopw [8, 9] (fun mv i wr => ∃ (k : Nat), k ≤ len0 ∧ i = .int .i64 k ∧ mv = .slice (some ⟨v3.heap.size, 0, none⟩) k (len0 + len1) ∧ SM ws ws.heap.size v3.heap.size (len0 + len1) (xs.take k).reverse (xs.take k).reverse k (-1) [] wr) (fun _ i _ => len0 - (intOf i).toNat)
  case atStart => exact ⟨0, Nat.zero_le _, rfl, rfl, HSM.out⟩
  case round =>
    obtain ⟨k, hk, rfl, rfl, hS⟩ := hrel
    have HS := Lib.hid hS
    clear hS HSM
    have HLEN := Lib.hid (show (xs.take k).reverse.length = k by rw [List.length_reverse, List.length_take, HXL.out]; omega)
    by_cases hlt : k < len0
    · obtain ⟨gx, hA0, hgx, hrx, hcx⟩ := HCX.out.get (i := k) (by rw [HXL.out]; exact hlt)
      have cx := (HS.out.below.cell (p := ⟨gx, k, none⟩) hrx.lt).trans (hcx k (by rw [HXL.out]; exact hlt))
      have hgxl := hrx.lt
      subst hA0
      clear hrx
      have HCXX := Lib.hid hcx
      clear hcx
      go_wp2_with fail
      refine (s_push ws _ _ _ (xs.take k).reverse (xs.take k).reverse _ _ _ _ HS.out (by omega) (xs.getD k 0)).mono ?_
      rintro e v5 ⟨rfl, hS5⟩
      have HS5 := Lib.hid hS5
      have cx5 := (hS5.below.cell (p := ⟨gx, k, none⟩) hgxl).trans (HCXX.out k (by rw [HXL.out]; exact hlt))
      have hown5 := hS5.mod
      rw [HLEN.out] at hown5
      have HOWN5 := Lib.hid hown5
      clear hS5 hown5
      unfold NoEnd
      go_wp2_with (at_builtin; refine wpList_append_fits _ rfl (.tmp 75) (.tmp 80) 22 rfl ws.heap.size 3 i0 1 Try.underlying22 HI.out HZ1.out v3.heap.size k (len0 + len1) (List.map (Value.int .i64) (List.reverse ((xs.take k).reverse : List Int))) rfl (HOWN5.out.alloc _) ⟨v5.heap.size, 0, none⟩ 1 1 [.int .i64 (xs.getD k 0)] rfl rfl (World.news_of_block (Row.made v5 3 #[.int .i64 (xs.getD k 0)])) (by simp [Value.oneCell']) (by omega) ?_; intro v6 hown6 hg6; have HO6 := Lib.hid hown6; have HG6 := Lib.hid hg6; clear hown6 hg6)
      refine ⟨⟨k + 1, by omega, by go_num, rfl, ?_⟩, by simp [intOf]; omega⟩
      rw [rev_take xs k (by rw [HXL.out]; exact hlt)]
      exact HS5.out.app (by rw [HLEN.out]; exact HO6.out) HG6.out
    · obtain rfl : k = len0 := by omega
      have hS := HS.out
      rw [List.take_of_length_le (by rw [HXL.out]; exact Nat.le_refl _)] at hS
      have HS0 := Lib.hid hS
      clear hS HS HLEN
      obtain ⟨wo, hwo⟩ : ∃ wo : World, wo = wr := ⟨_, rfl⟩
      rw [← hwo] at HS0 ⊢
      clear hwo
      go_wp2_with fail
      refine (s_save ws _ _ _ xs.reverse xs.reverse _ _ _ _ HS0.out).mono ?_
      rintro e v7 ⟨idx, rfl, hS7⟩
      have HS7 := Lib.hid hS7
      clear hS7
      have HRL := Lib.hid (show xs.reverse.length = k by rw [List.length_reverse, HXL.out])
      go_wp2_with fail
      go_loopw [8, 12] (fun mv i wr => ∃ (j : Nat) (L : List Int), j ≤ len1 ∧ L.length ≤ k + j ∧ i = .int .i64 j ∧ mv = .slice (some ⟨v3.heap.size, 0, none⟩) L.length (k + len1) ∧ SM ws ws.heap.size v3.heap.size (k + len1) L L (k + j) (max idx (-1)) [(idx, -1, ints xs.reverse)] wr) (fun _ i _ => len1 - (intOf i).toNat)
      case atStart => exact ⟨0, xs.reverse, Nat.zero_le _, by rw [HRL.out]; exact Nat.le_refl _, rfl, by rw [HRL.out], HS7.out⟩
      case round =>
        obtain ⟨j, L, hj, hLj, rfl, rfl, hS⟩ := hrel
        have HS := Lib.hid hS
        clear hS HS0 HS7
        by_cases hlt2 : j < len1
        · obtain ⟨go, hA1, hgo, hro, hco⟩ := HCO2.out.get (i := j) (by rw [HOL.out]; exact hlt2)
          have co := (HS.out.below.cell (p := ⟨go, j, none⟩) hro.lt).trans (hco j (by rw [HOL.out]; exact hlt2))
          obtain ⟨hw0, hw1⟩ := HWF.out j hlt2
          subst hA1
          clear hro hco
          obtain ⟨o, ho⟩ : ∃ o, os.getD j 0 = o := ⟨_, rfl⟩
          rw [ho] at co hw0 hw1
          clear ho
          have hop : o % 2 = 0 ∨ o % 2 = 1 := by omega
          rcases L with _ | ⟨x, L⟩
          · rcases hop with ho | ho
            · go_wp2_with fail
              refine (s_push ws _ _ _ [] [] _ _ _ _ HS.out (by omega) (-(j : Int))).mono ?_
              rintro e v5 ⟨rfl, hS5⟩
              have HS5 := Lib.hid hS5
              clear hS5
              unfold NoEnd
              go_wp2_with (at_builtin; refine wpList_append_fits _ rfl (.tmp 119) (.tmp 121) 22 rfl ws.heap.size 3 i0 1 Try.underlying22 HI.out HZ1.out v3.heap.size _ (k + len1) (List.map (Value.int .i64) (List.reverse ([] : List Int))) rfl (HS5.out.mod.alloc _) ⟨v5.heap.size, 0, none⟩ 1 1 [.int .i64 (-(j : Int))] rfl rfl (World.news_of_block (Row.made v5 3 #[.int .i64 (-(j : Int))])) (by simp [Value.oneCell']) (by first | omega | (simp only [List.length_nil, List.length_cons]; omega)) ?_; intro v6 hown6 hg6; have HS6 := Lib.hid (HS5.out.app hown6 hg6); clear hown6 hg6)
              refine (s_empty ws _ _ _ _ _ _ _ _ _ HS6.out).mono ?_
              rintro e v7 ⟨rfl, rfl⟩
              simp only [List.isEmpty_cons]
              go_wp2_with fail
              exact ⟨⟨j + 1, (-(j : Int)) :: [], by omega, by first | (simp only [List.length_cons]; omega) | (simp; omega), by go_num, rfl, HS6.out⟩, by simp [intOf]; omega⟩
            · go_wp2_with fail
              refine (s_push ws _ _ _ [] [] _ _ _ _ HS.out (by omega) (-(j : Int))).mono ?_
              rintro e v5 ⟨rfl, hS5⟩
              have HS5 := Lib.hid hS5
              clear hS5
              unfold NoEnd
              go_wp2_with (at_builtin; refine wpList_append_fits _ rfl (.tmp 119) (.tmp 121) 22 rfl ws.heap.size 3 i0 1 Try.underlying22 HI.out HZ1.out v3.heap.size _ (k + len1) (List.map (Value.int .i64) (List.reverse ([] : List Int))) rfl (HS5.out.mod.alloc _) ⟨v5.heap.size, 0, none⟩ 1 1 [.int .i64 (-(j : Int))] rfl rfl (World.news_of_block (Row.made v5 3 #[.int .i64 (-(j : Int))])) (by simp [Value.oneCell']) (by first | omega | (simp only [List.length_nil, List.length_cons]; omega)) ?_; intro v6 hown6 hg6; have HS6 := Lib.hid (HS5.out.app hown6 hg6); clear hown6 hg6)
              refine (s_empty ws _ _ _ _ _ _ _ _ _ HS6.out).mono ?_
              rintro e v7 ⟨rfl, rfl⟩
              simp only [List.isEmpty_cons]
              go_wp2_with fail
              exact ⟨⟨j + 1, (-(j : Int)) :: [], by omega, by first | (simp only [List.length_cons]; omega) | (simp; omega), by go_num, rfl, HS6.out⟩, by simp [intOf]; omega⟩
          · have el : (((L.length + 1 : Nat) : Int) == 0) = false := by rw [beq_eq_false_iff_ne]; omega
            have el2 : ((L.length : Int) + 1 == 0) = false := by rw [beq_eq_false_iff_ne]; omega
            simp only [List.length_cons] at hLj ⊢
            have hxx : (x != x) = false := by simp
            rcases hop with ho | ho
            · go_wp2_with fail
              refine (s_push ws _ _ _ (x :: L) (x :: L) _ _ _ _ HS.out (by omega) (-(j : Int))).mono ?_
              rintro e v5 ⟨rfl, hS5⟩
              have HS5 := Lib.hid hS5
              clear hS5
              unfold NoEnd
              go_wp2_with (at_builtin; refine wpList_append_fits _ rfl (.tmp 119) (.tmp 121) 22 rfl ws.heap.size 3 i0 1 Try.underlying22 HI.out HZ1.out v3.heap.size _ (k + len1) (List.map (Value.int .i64) (List.reverse ((x :: L) : List Int))) rfl (HS5.out.mod.alloc _) ⟨v5.heap.size, 0, none⟩ 1 1 [.int .i64 (-(j : Int))] rfl rfl (World.news_of_block (Row.made v5 3 #[.int .i64 (-(j : Int))])) (by simp [Value.oneCell']) (by first | omega | (simp only [List.length_nil, List.length_cons]; omega)) ?_; intro v6 hown6 hg6; have HS6 := Lib.hid (HS5.out.app hown6 hg6); clear hown6 hg6)
              refine (s_empty ws _ _ _ _ _ _ _ _ _ HS6.out).mono ?_
              rintro e v7 ⟨rfl, rfl⟩
              simp only [List.isEmpty_cons]
              go_wp2_with fail
              exact ⟨⟨j + 1, (-(j : Int)) :: (x :: L), by omega, by first | (simp only [List.length_cons]; omega) | (simp; omega), by go_num, rfl, HS6.out⟩, by simp [intOf]; omega⟩
            · go_wp2_with fail
              refine (s_pop ws _ _ _ L _ _ _ _ _ x HS.out).mono ?_
              rintro e v5 ⟨rfl, hS5⟩
              have HS5 := Lib.hid hS5
              have cl := hS5.last
              clear hS5
              have el0 : ((L.length : Int) == 0) = L.isEmpty := by cases L <;> simp; omega
              have hbb : (L.isEmpty != L.isEmpty) = false := by simp
              go_wp2_with fail
              refine (s_empty ws _ _ _ _ _ _ _ _ _ HS5.out).mono ?_
              rintro e v7 ⟨rfl, rfl⟩
              go_wp2_with fail
              exact ⟨⟨j + 1, L, by omega, by omega, by go_num, rfl, HS5.out.cut.more (by omega)⟩, by simp [intOf]; omega⟩
        · obtain ⟨wq, hwq⟩ : ∃ wq : World, wq = wr := ⟨_, rfl⟩
          rw [← hwq] at HS ⊢
          clear hwq
          go_wp2_with fail
          refine (s_restore ws _ _ _ L xs.reverse L _ _ idx (-1) [] _ HS.out).mono ?_
          rintro e v8 ⟨rfl, hS8⟩
          have HS8 := Lib.hid hS8
          clear hS8
          unfold NoEnd
          go_wp2_with fail
          go_loopw [16] (fun i wr => ∃ (q : Nat), q ≤ k ∧ i = .int .i64 ((q : Int) - 1) ∧ SM ws ws.heap.size v3.heap.size (k + len1) (xs.take q).reverse L (k + j) (-1) [] wr) (fun i _ => (intOf i + 1).toNat)
          case atStart => exact ⟨k, Nat.le_refl _, rfl, by rw [List.take_of_length_le (by rw [HXL.out]; exact Nat.le_refl _)]; exact HS8.out⟩
          case round =>
            obtain ⟨q, hq, rfl, hS⟩ := hrel
            have HSQ := Lib.hid hS
            clear hS
            by_cases hq0 : 0 < q
            · have hS := HSQ.out
              rw [rev_take' xs q hq0 (by rw [HXL.out]; omega)] at hS
              have HSR := Lib.hid hS
              clear hS
              obtain ⟨gx, hA0, hgx, hrx, hcx⟩ := HCX.out.get (i := q - 1) (by rw [HXL.out]; omega)
              have hgxl := hrx.lt
              have HCXX := Lib.hid hcx
              subst hA0
              clear hrx hcx
              have hqq : (xs.getD (q - 1) 0 != xs.getD (q - 1) 0) = false := by simp
              go_wp2_with fail
              refine (s_empty ws _ _ _ _ _ _ _ _ _ HSR.out).mono ?_
              rintro e v9 ⟨rfl, rfl⟩
              simp only [List.isEmpty_cons]
              go_wp2_with fail
              refine (s_top ws _ _ _ _ _ _ _ _ _ (xs.getD (q - 1) 0) HSR.out).mono ?_
              rintro e v10 ⟨rfl, hS10⟩
              have HS10 := Lib.hid hS10
              have c10 := (hS10.below.cell (p := ⟨gx, q - 1, none⟩) hgxl).trans (HCXX.out (q - 1) (by rw [HXL.out]; omega))
              clear hS10
              go_wp2_with fail
              refine (s_pop ws _ _ _ _ _ _ _ _ _ (xs.getD (q - 1) 0) HS10.out).mono ?_
              rintro e v11 ⟨rfl, hS11⟩
              have HS11 := Lib.hid hS11
              have c11 := (hS11.below.cell (p := ⟨gx, q - 1, none⟩) hgxl).trans (HCXX.out (q - 1) (by rw [HXL.out]; omega))
              clear hS11
              go_wp2_with fail
              refine ⟨⟨q - 1, by omega, ?_, HS11.out⟩, by simp [intOf]; omega⟩
              rw [show ((q - 1 : Nat) : Int) = (q : Int) - 1 by omega]
            · obtain rfl : q = 0 := by omega
              go_wp2_with fail
              refine (s_empty ws _ _ _ [] _ _ _ _ _ HSQ.out).mono ?_
              rintro e v9 ⟨rfl, rfl⟩
              go_wp2_with fail
              go_ret
              exact ⟨rfl, HBS.out.trans (HSQ.out.below.mono hs3)⟩
set_option maxRecDepth 100000 in
set_option maxHeartbeats 4000000 in
theorem fnRestoreBringsBackSaved.walk (a0 : Option Addr) (len0 cap0 : Nat) (z0 : List Int) (a1 : Option Addr) (len1 cap1 : Nat) (z1 : List Int) (a2 : Option Addr) (len2 cap2 : Nat) (z2 : List Int) (w : World) (w0 : IsRow .i64 w a0 len0 cap0 z0) (w1 : IsRow .u8 w a1 len1 cap1 z1) (w2 : IsRow .i64 w a2 len2 cap2 z2) :
    Calls Try.prog 6 #[.slice a0 len0 cap0, .slice a1 len1 cap1, .slice a2 len2 cap2] w fun e w' => e = .returned (.bool true) ∧ Below w.heap.size w w' := by
  have hm := w0.len.2
  have hm1 := w1.len.2
  have hm2 := w2.len.2
  unfold maxLen at hm hm1 hm2
  by_cases h0 : len0 ≤ 65536
  · by_cases h1 : len1 ≤ 65536
    · by_cases h2 : len2 ≤ 65536
      · by_cases h3 : 8 * len0 + len1 + 8 * len2 ≤ 1048576
        · by_cases h4 : 0 < len2
          · exact fnRestoreBringsBackSaved.main a0 len0 cap0 z0 a1 len1 cap1 z1 a2 len2 cap2 z2 w w0 w1 w2 h0 h1 h2 h3 h4
          · exact fnRestoreBringsBackSaved.bare a0 len0 cap0 z0 a1 len1 cap1 z1 a2 len2 cap2 z2 w w0 w1 w2 h0 h1 h2 h3 (by omega)
        · clear w0 w1 w2
          go_enter Try.func6, Try.ntmps6
          go_wp2
          all_goals (go_ret; exact ⟨rfl, Below.refl _ _⟩)
      · clear w0 w1 w2
        go_enter Try.func6, Try.ntmps6
        go_wp2
        all_goals (go_ret; exact ⟨rfl, Below.refl _ _⟩)
    · clear w0 w1 w2
      go_enter Try.func6, Try.ntmps6
      go_wp2
      all_goals (go_ret; exact ⟨rfl, Below.refl _ _⟩)
  · clear w0 w1 w2
    go_enter Try.func6, Try.ntmps6
    go_wp2
    all_goals (go_ret; exact ⟨rfl, Below.refl _ _⟩)
end Go.Proofs.Ythcggbbkbhcmjaa
