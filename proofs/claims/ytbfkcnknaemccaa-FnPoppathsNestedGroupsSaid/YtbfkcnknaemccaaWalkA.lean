/-
  The walk of the law FnPoppathsReturnsPushedInOrder (n001_93): it returns true for every input.
-/
import Derived.Test.YtbfkcnknaemccaaBase
namespace Go.Proofs.Ytbfkcnknaemccaa
set_option linter.unusedVariables false
open Go.ChangeShapes Go.WideShapes Go.ChangeAt Go.RowKit M
theorem rev_take (xs : List Int) (k : Nat) (hk : k < xs.length) : (xs.take (k + 1)).reverse = xs.getD k 0 :: (xs.take k).reverse := by
  rw [List.take_succ_eq_append_getElem hk, List.reverse_append, List.getD_eq_getElem?_getD, List.getElem?_eq_getElem hk]
  rfl
theorem ents_cons (v : Int) (l : List Int) : ents (v :: l) = (50, .agg #[.iface 3 (.int .i64 v), .nilIface]) :: ents l := rfl
theorem vals_rev (xs : List Int) : (vals xs.reverse).reverse = vals xs := by unfold vals; rw [List.map_reverse, List.reverse_reverse]
theorem vals_get (xs : List Int) (k : Nat) (hk : k < xs.length) : (vals xs)[k]? = some (.iface 3 (.int .i64 (xs.getD k 0))) := by
  unfold vals
  rw [List.getElem?_map, List.getElem?_eq_getElem hk, List.getD_eq_getElem?_getD, List.getElem?_eq_getElem hk]
  rfl
theorem PE.drewN {ws : World} {pe p : Nat} {l : List (Nat × Value)} {N : Nat} {wr : World} (h : PE ws pe p l N wr) (n : Nat) : PE ws pe p l N (wr.drewN n) := h.keep (below_drewN (Below.refl _ _) n)
def PopN (ws : World) (pe p : Nat) (l : List (Nat × Value)) (N : Nat) (xs : List Int) (n base : Nat) (e : Ending) (w' : World) : Prop :=
  ∃ g cap, e = .returned (.slice (some ⟨g, 0, none⟩) n cap) ∧ w'.ownsRow base 20 1 (.slice (some ⟨g, 0, none⟩) n cap) n (vals xs) ∧ PE ws pe p l N w'
/-- poppaths at the paths xs, pushed in this order. -/
theorem pop_n (ws : World) (pe p : Nat) (xs : List Int) (n : Nat) (hn : xs.length = n) (b : Value) (l : List (Nat × Value)) (N : Nat) (w : World) (h : PE ws pe p (ents xs.reverse ++ (50, .agg #[.nilIface, b]) :: l) N w) (hb : IfaceLike b) (hl : n ≤ 65536) :
    Calls Try.prog 10 #[.pointer (some ⟨pe, 0, none⟩)] w (PopN ws pe p l N xs n w.heap.size) := by
  have H := Lib.hid h
  clear h
  have HN := Lib.hid (show xs.reverse.length = n by rw [List.length_reverse]; exact hn)
  clear hn
  go_enter Try.func10, Try.ntmps10
  go_wp2_with fail
  refine (poppaths ws pe p xs.reverse b l N _ H.out hb (by rw [HN.out]; exact hl)).mono ?_
  rintro e w' ⟨g, cap, rfl, ho, hP⟩
  rw [HN.out]
  rw [HN.out, vals_rev] at ho
  have HO := Lib.hid ho
  have HP := Lib.hid hP
  clear ho hP
  go_wp2
  go_ret
  exact ⟨g, cap, rfl, HO.out, HP.out⟩
set_option maxRecDepth 100000 in
set_option maxHeartbeats 4000000 in
theorem fnPoppathsReturnsPushedInOrder.main (a0 : Option Addr) (len0 cap0 : Nat) (z0 : List Int) (a1 : Int) (w : World) (w0 : IsRow .i64 w a0 len0 cap0 z0) (hl : len0 ≤ 65536) :
    Calls Try.prog 3 #[.slice a0 len0 cap0, .int .i64 a1] w fun e w' => e = .returned (.bool true) ∧ Below w.heap.size w w' := by
  have W0 := Lib.hid w0
  have HXL := Lib.hid (show (z0.take len0).length = len0 by rw [List.length_take]; have := w0.len; omega)
  clear w0
  have q1 : decide ((65536 : Int) < (len0 : Int)) = false := decide_eq_false (by omega)
  have hnn : ((len0 : Int) != (len0 : Int)) = false := by simp
  have haa : (a1 != a1) = false := by simp
  have hnil := fun (W : World) (a : Option Addr) (n c : Nat) => Lib.run_eql_slice_nil (P := Try.prog) W 29 20 a n c 0 0 Try.underlying29
  go_enter Try.func3, Try.ntmps3
  go_wp2_with (first | (go_at_call 5; go_in) | fail)
  refine (copy_ints a0 len0 cap0 z0 _ W0.out (by omega)).mono ?_
  rintro e ws ⟨A, c, rfl, hcp, hb1⟩
  obtain ⟨xs, hxs⟩ : ∃ xs, z0.take len0 = xs := ⟨_, rfl⟩
  rw [hxs] at hcp HXL
  have HCP := Lib.hid hcp
  have HB1 := Lib.hid hb1
  have hs1 := hb1.size
  clear hcp hb1 hxs W0
  go_wp2_with fail
  refine (pe_new _).mono ?_
  rintro e w2 ⟨rfl, hP⟩
  have HP := Lib.hid hP
  clear hP
  go_wp2_with fail
  refine (pe_raw ws _ _ _ _ _ HP.out (by omega) 3 (.int .i64 a1)).mono ?_
  rintro e w3 ⟨rfl, hP⟩
  have HP3 := Lib.hid hP
  clear hP HP
  unfold NoEnd
  go_wp2_with fail
  refine (pe_path ws _ _ _ _ _ HP3.out (by omega) .nilIface (.iface 3 (.int .i64 a1)) (.inl rfl) (.inr ⟨_, _, rfl⟩)).mono ?_
  rintro e w4 ⟨rfl, hP⟩
  have HP4 := Lib.hid hP
  clear hP HP3
  unfold NoEnd
  go_wp2_with fail
  go_loopw [6] (fun i wr => ∃ (k : Nat), k ≤ len0 ∧ i = .int .i64 k ∧ PE ws (ws.heap.size + 1) ws.heap.size (ents (xs.take k).reverse ++ (50, .agg #[.nilIface, .iface 3 (.int .i64 a1)]) :: [(3, .int .i64 a1)]) (k + 2) wr) (fun i _ => len0 - (intOf i).toNat)
  case atStart => exact ⟨0, Nat.zero_le _, rfl, HP4.out⟩
  case round =>
    obtain ⟨k, hk, rfl, hP⟩ := hrel
    have HP := Lib.hid hP
    clear hP HP4
    by_cases hlt : k < len0
    · obtain ⟨g, hA, hgC, hrow, hcell⟩ := HCP.out.get (i := k) (by rw [HXL.out]; exact hlt)
      have cx := (HP.out.below.cell (p := ⟨g, k, none⟩) hrow.lt).trans (hcell k (by rw [HXL.out]; exact hlt))
      subst hA
      clear hcell hrow
      go_wp2_with fail
      refine (pe_path ws _ _ _ _ _ HP.out (by omega) (.iface 3 (.int .i64 (xs.getD k 0))) .nilIface (.inr ⟨_, _, rfl⟩) (.inl rfl)).mono ?_
      rintro e w5 ⟨rfl, hP5⟩
      have HP5 := Lib.hid hP5
      clear hP5
      unfold NoEnd
      go_wp2_with fail
      refine ⟨⟨k + 1, by omega, by go_num, ?_⟩, by simp [intOf]; omega⟩
      rw [rev_take xs k (by rw [HXL.out]; exact hlt), ents_cons]
      exact HP5.out
    · obtain rfl : k = len0 := by omega
      have hP := HP.out
      rw [List.take_of_length_le (by rw [HXL.out]; exact Nat.le_refl _)] at hP
      have HP2 := Lib.hid hP
      clear hP HP
      obtain ⟨wo, hwo⟩ : ∃ wo : World, wo = wr := ⟨_, rfl⟩
      rw [← hwo] at HP2 ⊢
      clear hwo
      go_wp2_with fail
      refine (pop_n ws _ _ xs k HXL.out (.iface 3 (.int .i64 a1)) _ _ _ HP2.out (.inr ⟨_, _, rfl⟩) hl).mono ?_
      rintro e w6 ⟨gg, cg, rfl, ho6, hP6⟩
      have HO6 := Lib.hid ho6
      have HP6 := Lib.hid hP6
      clear ho6 hP6
      go_wp2_with fail
      go_loopw [8] (fun i wr => ∃ (j m : Nat), j ≤ k ∧ i = .int .i64 j ∧ wr = w6.drewN m) (fun i _ => k - (intOf i).toNat)
      case atStart => exact ⟨0, 0, Nat.zero_le _, rfl, rfl⟩
      case round =>
        obtain ⟨j, m, hj, rfl, rfl⟩ := hrel
        by_cases hlt2 : j < k
        · obtain ⟨g, hA, hgC, hrow, hcell⟩ := HCP.out.get (i := j) (by rw [HXL.out]; exact hlt2)
          have cx := (HP6.out.below.cell (p := ⟨g, j, none⟩) hrow.lt).trans (hcell j (by rw [HXL.out]; exact hlt2))
          have cg := (HO6.out.cellAt j (by omega)).trans (vals_get xs j (by rw [HXL.out]; exact hlt2))
          subst hA
          clear hcell hrow
          have i0 : (0 : Int) ≤ (j : Int) := by omega
          have i1 : (j : Int) < (k : Int) := by omega
          obtain ⟨v, hv⟩ : ∃ v, xs.getD j 0 = v := ⟨_, rfl⟩
          rw [hv] at cx cg
          have hvv : (v != v) = false := by simp
          clear hv
          go_wp2_with fail
          go_quiet (fail)
          go_wp2_with fail
          exact ⟨⟨j + 1, _, by omega, by go_num, rfl⟩, by simp [intOf]; omega⟩
        · go_wp2_with fail
          refine (pe_int ws _ _ _ a1 _ _ (HP6.out.drewN m)).mono ?_
          rintro e w7 ⟨rfl, hP7, _⟩
          have HP7 := Lib.hid hP7
          clear hP7
          go_wp2_with fail
          refine (pe_empty ws _ _ _ _ _ HP7.out).mono ?_
          rintro e w8 ⟨rfl, rfl⟩
          go_wp2_with fail
          go_ret
          exact ⟨rfl, HB1.out.trans (HP7.out.below.mono hs1)⟩
theorem fnPoppathsReturnsPushedInOrder.walk (a0 : Option Addr) (len0 cap0 : Nat) (z0 : List Int) (a1 : Int) (w : World) (w0 : IsRow .i64 w a0 len0 cap0 z0) (w1 : (Lit.int .i64 a1).wf = true) :
    Calls Try.prog 3 #[.slice a0 len0 cap0, .int .i64 a1] w fun e w' => e = .returned (.bool true) ∧ Below w.heap.size w w' := by
  have hm := w0.len.2
  unfold maxLen at hm
  by_cases h0 : len0 ≤ 65536
  · exact fnPoppathsReturnsPushedInOrder.main a0 len0 cap0 z0 a1 w w0 h0
  · clear w0 w1
    go_enter Try.func3, Try.ntmps3
    go_wp2
    all_goals (go_ret; exact ⟨rfl, Below.refl _ _⟩)
end Go.Proofs.Ytbfkcnknaemccaa
