/-
  The walk of the law FnPoppathsNestedGroups (n001_93): it returns true for every input.
-/
import Derived.Test.YtbfkcnknaemccaaWalkA
namespace Go.Proofs.Ytbfkcnknaemccaa
set_option linter.unusedVariables false
open Go.ChangeShapes Go.WideShapes Go.ChangeAt Go.RowKit M
set_option maxRecDepth 100000 in
set_option maxHeartbeats 8000000 in
theorem fnPoppathsNestedGroups.main (a0 : Option Addr) (len0 cap0 : Nat) (z0 : List Int) (a1 : Option Addr) (len1 cap1 : Nat) (z1 : List Int) (a2 : Int) (a3 : Int) (w : World) (w0 : IsRow .i64 w a0 len0 cap0 z0) (w1 : IsRow .i64 w a1 len1 cap1 z1) (hl : len0 ≤ 65536) (hl1 : len1 ≤ 65536) :
    Calls Try.prog 4 #[.slice a0 len0 cap0, .slice a1 len1 cap1, .int .i64 a2, .int .i64 a3] w fun e w' => e = .returned (.bool true) ∧ Below w.heap.size w w' := by
  have W0 := Lib.hid w0
  have W1 := Lib.hid w1
  have HXL := Lib.hid (show (z0.take len0).length = len0 by rw [List.length_take]; have := w0.len; omega)
  have HYL := Lib.hid (show (z1.take len1).length = len1 by rw [List.length_take]; have := w1.len; omega)
  clear w0 w1
  have q1 : decide ((65536 : Int) < (len0 : Int)) = false := decide_eq_false (by omega)
  have q2 : decide ((65536 : Int) < (len1 : Int)) = false := decide_eq_false (by omega)
  have hnn : ((len0 : Int) != (len0 : Int)) = false := by simp
  have hmm : ((len1 : Int) != (len1 : Int)) = false := by simp
  have haa : (a2 != a2) = false := by simp
  have hbb : (a3 != a3) = false := by simp
  go_enter Try.func4, Try.ntmps4
  go_wp2_with (first | (go_at_call 13; go_in) | fail)
  refine (copy_ints a0 len0 cap0 z0 _ W0.out (by omega)).mono ?_
  rintro e u1 ⟨A, c, rfl, hcp, hb1⟩
  obtain ⟨xs, hxs⟩ : ∃ xs, z0.take len0 = xs := ⟨_, rfl⟩
  rw [hxs] at hcp HXL
  have HCP1 := Lib.hid hcp
  have HB1 := Lib.hid hb1
  have hs1 := hb1.size
  have W2 := Lib.hid (W1.out.below hb1)
  clear hcp hb1 hxs W0 W1
  go_wp2_with fail
  refine (copy_ints a1 len1 cap1 z1 _ W2.out (by omega)).mono ?_
  rintro e ws ⟨A2, c2, rfl, hcq, hb2⟩
  obtain ⟨ys, hys⟩ : ∃ ys, z1.take len1 = ys := ⟨_, rfl⟩
  rw [hys] at hcq HYL
  have HCP := Lib.hid (HCP1.out.keep fun g cs hr => hr.keep hb2 hr.lt)
  have HCQ := Lib.hid hcq
  have HBS := Lib.hid (HB1.out.trans (hb2.mono hs1))
  have hs2 : w.heap.size ≤ ws.heap.size := Nat.le_trans hs1 hb2.size
  clear hcq hb2 hys W2 HCP1 HB1
  go_wp2_with fail
  refine (pe_new _).mono ?_
  rintro e w2 ⟨rfl, hP⟩
  have HP := Lib.hid hP
  clear hP
  go_wp2_with fail
  refine (pe_raw ws _ _ _ _ _ HP.out (by omega) 3 (.int .i64 a2)).mono ?_
  rintro e w3 ⟨rfl, hP⟩
  have HP3 := Lib.hid hP
  clear hP HP
  unfold NoEnd
  go_wp2_with fail
  refine (pe_path ws _ _ _ _ _ HP3.out (by omega) .nilIface .nilIface (.inl rfl) (.inl rfl)).mono ?_
  rintro e w4 ⟨rfl, hP⟩
  have HP4 := Lib.hid hP
  clear hP HP3
  unfold NoEnd
  go_wp2_with fail
  go_loopw [10] (fun i wr => ∃ (k : Nat), k ≤ len0 ∧ i = .int .i64 k ∧ PE ws (ws.heap.size + 1) ws.heap.size (ents (xs.take k).reverse ++ (50, .agg #[.nilIface, .nilIface]) :: [(3, .int .i64 a2)]) (k + 2) wr) (fun i _ => len0 - (intOf i).toNat)
  case atStart => exact ⟨0, Nat.zero_le _, rfl, HP4.out⟩
  case round =>
    obtain ⟨k, hk, rfl, hP⟩ := hrel
    have HP := Lib.hid hP
    clear hP HP4
    by_cases hlt : k < len0
    · obtain ⟨g, hA, hgC, hrow, hcell⟩ := HCP.out.get (i := k) (by rw [HXL.out]; exact hlt)
      have cx := (HP.out.below.cell (p := ⟨g, k, none⟩) hrow.lt).trans (hcell k (by rw [HXL.out]; exact hlt))
      subst hA
      clear hcell hrow
      go_wp2_with fail
      refine (pe_path ws _ _ _ _ _ HP.out (by omega) (.iface 3 (.int .i64 (xs.getD k 0))) .nilIface (.inr ⟨_, _, rfl⟩) (.inl rfl)).mono ?_
      rintro e w5 ⟨rfl, hP5⟩
      have HP5 := Lib.hid hP5
      clear hP5
      unfold NoEnd
      go_wp2_with fail
      refine ⟨⟨k + 1, by omega, by go_num, ?_⟩, by simp [intOf]; omega⟩
      rw [rev_take xs k (by rw [HXL.out]; exact hlt), ents_cons]
      exact HP5.out
    · obtain rfl : k = len0 := by omega
      have hP := HP.out
      rw [List.take_of_length_le (by rw [HXL.out]; exact Nat.le_refl _)] at hP
      have HP2 := Lib.hid hP
      clear hP HP
      obtain ⟨L, hL⟩ : ∃ L, ents xs.reverse ++ (50, .agg #[.nilIface, .nilIface]) :: [(3, .int .i64 a2)] = L := ⟨_, rfl⟩
      rw [hL] at HP2
      have HL := Lib.hid hL
      clear hL
      obtain ⟨wo, hwo⟩ : ∃ wo : World, wo = wr := ⟨_, rfl⟩
      rw [← hwo] at HP2 ⊢
      clear hwo
      go_wp2_with fail
      refine (pe_raw ws _ _ _ _ _ HP2.out (by omega) 3 (.int .i64 a3)).mono ?_
      rintro e w5 ⟨rfl, hP⟩
      have HP5 := Lib.hid hP
      clear hP HP2
      unfold NoEnd
      go_wp2_with fail
      refine (pe_path ws _ _ _ _ _ HP5.out (by omega) .nilIface .nilIface (.inl rfl) (.inl rfl)).mono ?_
      rintro e w6 ⟨rfl, hP⟩
      have HP6 := Lib.hid hP
      clear hP HP5
      unfold NoEnd
      go_wp2_with fail
      go_loopw [11] (fun i wr => ∃ (j : Nat), j ≤ len1 ∧ i = .int .i64 j ∧ PE ws (ws.heap.size + 1) ws.heap.size (ents (ys.take j).reverse ++ (50, .agg #[.nilIface, .nilIface]) :: (3, .int .i64 a3) :: L) (k + 4 + j) wr) (fun i _ => len1 - (intOf i).toNat)
      case atStart => exact ⟨0, Nat.zero_le _, rfl, HP6.out⟩
      case round =>
        obtain ⟨j, hj, rfl, hP⟩ := hrel
        have HP := Lib.hid hP
        clear hP HP6
        by_cases hlt2 : j < len1
        · obtain ⟨g, hA, hgC, hrow, hcell⟩ := HCQ.out.get (i := j) (by rw [HYL.out]; exact hlt2)
          have cx := (HP.out.below.cell (p := ⟨g, j, none⟩) hrow.lt).trans (hcell j (by rw [HYL.out]; exact hlt2))
          subst hA
          clear hcell hrow
          go_wp2_with fail
          refine (pe_path ws _ _ _ _ _ HP.out (by omega) (.iface 3 (.int .i64 (ys.getD j 0))) .nilIface (.inr ⟨_, _, rfl⟩) (.inl rfl)).mono ?_
          rintro e w7 ⟨rfl, hP7⟩
          have HP7 := Lib.hid hP7
          clear hP7
          unfold NoEnd
          go_wp2_with fail
          refine ⟨⟨j + 1, by omega, by go_num, ?_⟩, by simp [intOf]; omega⟩
          rw [rev_take ys j (by rw [HYL.out]; exact hlt2), ents_cons]
          exact HP7.out
        · obtain rfl : j = len1 := by omega
          have hP := HP.out
          rw [List.take_of_length_le (by rw [HYL.out]; exact Nat.le_refl _)] at hP
          have HP2 := Lib.hid hP
          clear hP HP
          obtain ⟨wq, hwq⟩ : ∃ wq : World, wq = wr := ⟨_, rfl⟩
          rw [← hwq] at HP2 ⊢
          clear hwq
          go_wp2_with fail
          refine (pop_n ws _ _ ys j HYL.out .nilIface _ _ _ HP2.out (.inl rfl) hl1).mono ?_
          rintro e w8 ⟨gg, cg, rfl, ho8, hP8⟩
          have HO8 := Lib.hid ho8
          have HP8 := Lib.hid hP8
          clear ho8 hP8
          go_wp2_with fail
          go_loopw [13] (fun i wr => ∃ (q m : Nat), q ≤ j ∧ i = .int .i64 q ∧ wr = w8.drewN m) (fun i _ => j - (intOf i).toNat)
          case atStart => exact ⟨0, 0, Nat.zero_le _, rfl, rfl⟩
          case round =>
            obtain ⟨q, m, hq, rfl, rfl⟩ := hrel
            by_cases hlt3 : q < j
            · obtain ⟨g, hA, hgC, hrow, hcell⟩ := HCQ.out.get (i := q) (by rw [HYL.out]; exact hlt3)
              have cx := (HP8.out.below.cell (p := ⟨g, q, none⟩) hrow.lt).trans (hcell q (by rw [HYL.out]; exact hlt3))
              have cg := (HO8.out.cellAt q (by omega)).trans (vals_get ys q (by rw [HYL.out]; exact hlt3))
              subst hA
              clear hcell hrow
              have i0 : (0 : Int) ≤ (q : Int) := by omega
              have i1 : (q : Int) < (j : Int) := by omega
              obtain ⟨v, hv⟩ : ∃ v, ys.getD q 0 = v := ⟨_, rfl⟩
              rw [hv] at cx cg
              have hvv : (v != v) = false := by simp
              clear hv
              go_wp2_with fail
              go_quiet (fail)
              go_wp2_with fail
              exact ⟨⟨q + 1, _, by omega, by go_num, rfl⟩, by simp [intOf]; omega⟩
            · go_wp2_with fail
              refine (pe_int ws _ _ _ a3 _ _ (HP8.out.drewN m)).mono ?_
              rintro e w9 ⟨rfl, hP9, _⟩
              rw [← HL.out] at hP9
              have HP9 := Lib.hid hP9
              clear hP9
              go_wp2_with fail
              refine (pop_n ws _ _ xs k HXL.out .nilIface _ _ _ HP9.out (.inl rfl) hl).mono ?_
              rintro e w10 ⟨gh, ch, rfl, ho10, hP10⟩
              have HO10 := Lib.hid ho10
              have HP10 := Lib.hid hP10
              clear ho10 hP10
              go_wp2_with fail
              go_loopw [17] (fun i wr => ∃ (q m : Nat), q ≤ k ∧ i = .int .i64 q ∧ wr = w10.drewN m) (fun i _ => k - (intOf i).toNat)
              case atStart => exact ⟨0, 0, Nat.zero_le _, rfl, rfl⟩
              case round =>
                obtain ⟨q, m, hq, rfl, rfl⟩ := hrel
                by_cases hlt4 : q < k
                · obtain ⟨g, hA, hgC, hrow, hcell⟩ := HCP.out.get (i := q) (by rw [HXL.out]; exact hlt4)
                  have cx := (HP10.out.below.cell (p := ⟨g, q, none⟩) hrow.lt).trans (hcell q (by rw [HXL.out]; exact hlt4))
                  have cg := (HO10.out.cellAt q (by omega)).trans (vals_get xs q (by rw [HXL.out]; exact hlt4))
                  subst hA
                  clear hcell hrow
                  have i0 : (0 : Int) ≤ (q : Int) := by omega
                  have i1 : (q : Int) < (k : Int) := by omega
                  obtain ⟨v, hv⟩ : ∃ v, xs.getD q 0 = v := ⟨_, rfl⟩
                  rw [hv] at cx cg
                  have hvv : (v != v) = false := by simp
                  clear hv
                  go_wp2_with fail
                  go_quiet (fail)
                  go_wp2_with fail
                  exact ⟨⟨q + 1, _, by omega, by go_num, rfl⟩, by simp [intOf]; omega⟩
                · go_wp2_with fail
                  refine (pe_int ws _ _ _ a2 _ _ (HP10.out.drewN m)).mono ?_
                  rintro e w11 ⟨rfl, hP11, _⟩
                  have HP11 := Lib.hid hP11
                  clear hP11
                  go_wp2_with fail
                  refine (pe_empty ws _ _ _ _ _ HP11.out).mono ?_
                  rintro e w12 ⟨rfl, rfl⟩
                  go_wp2_with fail
                  go_ret
                  exact ⟨rfl, HBS.out.trans (HP11.out.below.mono hs2)⟩
set_option maxRecDepth 100000 in
theorem fnPoppathsNestedGroups.walk (a0 : Option Addr) (len0 cap0 : Nat) (z0 : List Int) (a1 : Option Addr) (len1 cap1 : Nat) (z1 : List Int) (a2 : Int) (a3 : Int) (w : World) (w0 : IsRow .i64 w a0 len0 cap0 z0) (w1 : IsRow .i64 w a1 len1 cap1 z1) (w2 : (Lit.int .i64 a2).wf = true) (w3 : (Lit.int .i64 a3).wf = true) :
    Calls Try.prog 4 #[.slice a0 len0 cap0, .slice a1 len1 cap1, .int .i64 a2, .int .i64 a3] w fun e w' => e = .returned (.bool true) ∧ Below w.heap.size w w' := by
  have hm := w0.len.2
  have hm1 := w1.len.2
  unfold maxLen at hm hm1
  by_cases h0 : len0 ≤ 65536
  · by_cases h1 : len1 ≤ 65536
    · exact fnPoppathsNestedGroups.main a0 len0 cap0 z0 a1 len1 cap1 z1 a2 a3 w w0 w1 h0 h1
    · clear w0 w1 w2 w3
      go_enter Try.func4, Try.ntmps4
      go_wp2
      all_goals (go_ret; exact ⟨rfl, Below.refl _ _⟩)
  · clear w0 w1 w2 w3
    go_enter Try.func4, Try.ntmps4
    go_wp2
    all_goals (go_ret; exact ⟨rfl, Below.refl _ _⟩)
end Go.Proofs.Ytbfkcnknaemccaa
