/-
  The walk of the law FnNewVariableAfterPushes (n001_77): it returns true for every input.
-/
import Derived.Test.YtpbolpnkfkcelaaWalkA
namespace Go.Proofs.Ytpbolpnkfkcelaa
set_option linter.unusedVariables false
open Go.ChangeShapes Go.WideShapes Go.ChangeAt Go.RowKit M
/-- The names pushed one after another: each once. -/
def dd (l : List ByteArray) : List ByteArray := l.foldl pushNs []
theorem dd_snoc (l : List ByteArray) (x : ByteArray) : dd (l ++ [x]) = pushNs (dd l) x := by simp [dd, List.foldl_append]
theorem mem_pushNs {l : List ByteArray} {x y : ByteArray} : x ∈ pushNs l y ↔ x ∈ l ∨ x = y := by
  by_cases h : y ∈ l
  · rw [pushNs_in h]
    constructor
    · exact .inl
    · rintro (h1 | rfl)
      · exact h1
      · exact h
  · rw [pushNs_out h]
    simp
theorem mem_dd_aux : ∀ (l : List ByteArray) (a : List ByteArray) (x : ByteArray), x ∈ l.foldl pushNs a ↔ x ∈ a ∨ x ∈ l
  | [], a, x => by simp
  | y :: r, a, x => by
    rw [List.foldl_cons, mem_dd_aux r, mem_pushNs, List.mem_cons, or_assoc]
theorem mem_dd {l : List ByteArray} {x : ByteArray} : x ∈ dd l ↔ x ∈ l := by
  unfold dd
  rw [mem_dd_aux]
  simp
theorem len_pushNs (l : List ByteArray) (x : ByteArray) : (pushNs l x).length ≤ l.length + 1 := by
  unfold pushNs
  split <;> simp
theorem len_dd_aux : ∀ (l : List ByteArray) (a : List ByteArray), (l.foldl pushNs a).length ≤ a.length + l.length
  | [], a => by simp
  | y :: r, a => by
    have h1 := len_dd_aux r (pushNs a y)
    have h2 := len_pushNs a y
    rw [List.foldl_cons, List.length_cons]
    omega
theorem len_dd (l : List ByteArray) : (dd l).length ≤ l.length := by
  have := len_dd_aux l []
  simpa [dd] using this
theorem dd_step_in {z : List ByteArray} {k : Nat} {x : ByteArray} (hx : z[k]? = some x) (h : x ∈ z.take k) : dd (z.take (k + 1)) = dd (z.take k) ∧ pushNs (dd (z.take k)) x = dd (z.take (k + 1)) := by
  obtain ⟨h1, h2⟩ := List.getElem?_eq_some_iff.1 hx
  rw [List.take_succ_eq_append_getElem h1, h2, dd_snoc]
  exact ⟨pushNs_in (mem_dd.2 h), rfl⟩
theorem dd_step_out {z : List ByteArray} {k : Nat} {x : ByteArray} (hx : z[k]? = some x) (h : x ∉ z.take k) : (dd (z.take (k + 1))).length = (dd (z.take k)).length + 1 := by
  obtain ⟨h1, h2⟩ := List.getElem?_eq_some_iff.1 hx
  rw [List.take_succ_eq_append_getElem h1, h2, dd_snoc, pushNs_out (fun e => h (mem_dd.1 e))]
  simp
theorem dd_push {z : List ByteArray} {k : Nat} {x : ByteArray} (hx : z[k]? = some x) : pushNs (dd (z.take k)) x = dd (z.take (k + 1)) := by
  obtain ⟨h1, h2⟩ := List.getElem?_eq_some_iff.1 hx
  rw [List.take_succ_eq_append_getElem h1, h2, dd_snoc]
theorem mem_take_of {z : List ByteArray} {j k : Nat} {x : ByteArray} (hj : z[j]? = some x) (hlt : j < k) : x ∈ z.take k := by
  apply List.mem_of_getElem? (i := j)
  rw [List.getElem?_take_of_lt hlt, hj]
theorem rep_snoc {α : Type} (l : List α) (n : Nat) (a : α) : l ++ List.replicate n a ++ [a] = l ++ List.replicate (n + 1) a := by
  rw [List.append_assoc, ← List.replicate_succ']
theorem zcount2 (w : World) (B c s p i : Nat) (ns : List ByteArray) (h : Cmp w B c s p ns) (hi : ns.length = i) :
    Calls Try.prog 13 #[.pointer (some ⟨c, 0, none⟩)] w fun e w' => e = .returned (.int .i64 i) ∧ ∃ n, w' = w.drewN n := by
  subst hi
  exact zcount w B c s p ns h
theorem zcnt2 (w : World) (B c s p i : Nat) (ns : List ByteArray) (h : Cmp w B c s p ns) (hi : ns.length = i) :
    Calls Try.prog 14 #[.pointer (some ⟨c, 0, none⟩)] w fun e w' => e = .returned (.int .i64 i) ∧ ∃ n, w' = w.drewN n := by
  subst hi
  exact zcnt w B c s p ns h
theorem Cmp.drewN {w : World} {B c s p : Nat} {ns : List ByteArray} (h : Cmp w B c s p ns) (n : Nat) : Cmp (w.drewN n) B c s p ns := h.below (below_drewN (Below.refl _ w) n)
set_option maxRecDepth 100000 in
set_option maxHeartbeats 4000000 in
theorem fnNewVariableAfterPushes.main (a0 : Option Addr) (len0 cap0 : Nat) (z0 : List ByteArray) (m0 : Nat) (w : World) (w0 : SliceOf 1 IsStr w a0 len0 z0) (hl : len0 ≤ 4096) (hm : m0 ≤ 65536) :
    Calls Try.prog 4 #[.slice a0 len0 cap0, .int .i64 m0] w fun e w' => e = .returned (.bool true) ∧ Below w.heap.size w w' := by
  have W0 := Lib.hid w0
  have HXL := Lib.hid w0.lt.1
  have hm1 : (0 : Int) ≤ m0 := by omega
  have hm2 : (m0 : Int) ≤ 65536 := by omega
  clear w0
  go_enter Try.func4, Try.ntmps4
  go_wp2_with fail
  refine (zz12 a0 len0 cap0 z0 m0 _ W0.out).mono ?_
  rintro e w' ⟨b, rfl, rfl⟩
  cases b
  · go_wp2_with fail
    go_ret
    exact ⟨rfl, Below.refl _ _⟩
  go_wp2_with fail
  refine (bytes6 _ a0 len0 cap0 z0 _ W0.out).mono ?_
  rintro e w' ⟨n, rfl, rfl⟩
  by_cases hn : 1048576 < n
  · go_wp2_with fail
    go_ret
    exact ⟨rfl, Below.refl _ _⟩
  go_wp2_with fail
  refine (copy_strs a0 len0 cap0 z0 _ W0.out (by omega)).mono ?_
  rintro e w1 ⟨A, cp, rfl, hcp, hb1⟩
  have hs1 := hb1.size
  have HC1 := Lib.hid (show Ctx w w.heap.size A z0 w1 from ⟨hcp, hb1⟩)
  clear hcp hb1 W0 hn
  go_wp2_with fail
  refine (newCmp2 _).mono ?_
  rintro e w2 ⟨⟨c, s, p, rfl, hcm⟩, hb2⟩
  have hs2 := hb2.size
  have HC2 := Lib.hid (HC1.out.step hs1 hb2 (KeepR.below hb2))
  have HM2 := Lib.hid hcm
  clear hcm hb2 HC1
  go_wp2_with fail
  go_loopw [6, 7] (fun d i wr => ∃ (k dn : Nat), k ≤ len0 ∧ i = .int .i64 k ∧ d = .int .i64 dn ∧ dn ≤ k ∧ (dd (z0.take k)).length = dn ∧ Cmp wr w1.heap.size c s p (dd (z0.take k)) ∧ Ctx w w.heap.size A z0 wr ∧ w1.heap.size ≤ wr.heap.size) (fun _ i _ => len0 - (intOf i).toNat)
  case atStart => exact ⟨0, 0, Nat.zero_le _, rfl, rfl, Nat.le_refl _, rfl, HM2.out, HC2.out, hs2⟩
  case round =>
    obtain ⟨k, dn, hk, rfl, rfl, hdk, hdn, hcm, hcx, hsz⟩ := hrel
    have HM := Lib.hid hcm
    have HX := Lib.hid hcx
    have HDN := Lib.hid hdn
    clear hcm hcx HM2 HC2 hdn
    by_cases hlt : k < len0
    · obtain ⟨g, hA, hcell⟩ := HX.out.get (k := k) (by rw [HXL.out]; exact hlt)
      obtain ⟨x, hx⟩ : ∃ x, z0[k]? = some x := ⟨_, List.getElem?_eq_getElem (by rw [HXL.out]; exact hlt)⟩
      have cx := hcell k x hx
      subst hA
      have HX0 := Lib.hid hx
      clear hcell hx
      go_wp2_with fail
      refine (zpush _ _ c s p _ x HM.out (by rw [HDN.out]; omega) hsz).mono ?_
      rintro e w4 ⟨rfl, hcm, hb4, hk4⟩
      have hs4 := hb4.size
      rw [dd_push HX0.out] at hcm
      have HM4 := Lib.hid hcm
      have HX4 := Lib.hid (HX.out.step hs1 hb4 hk4)
      clear hcm hb4 hk4 cx
      go_wp2_with fail
      go_loopw [8, 9] (fun t j wr => ∃ (j0 m : Nat), j0 ≤ k ∧ t = .bool false ∧ j = .int .i64 j0 ∧ x ∉ z0.take j0 ∧ wr = w4.drewN m) (fun _ j _ => k - (intOf j).toNat)
      case atStart => exact ⟨0, 0, Nat.zero_le _, rfl, rfl, by simp, rfl⟩
      case round =>
        obtain ⟨j, m, hj, rfl, rfl, hnj, rfl⟩ := hrel
        have HNJ := Lib.hid hnj
        clear hnj
        by_cases hlj : j < k
        · obtain ⟨g', hA, hcell⟩ := HX4.out.get (k := j) (by rw [HXL.out]; omega)
          injection hA with hA
          injection hA with hA
          subst hA
          obtain ⟨y, hy⟩ : ∃ y, z0[j]? = some y := ⟨_, List.getElem?_eq_getElem (by rw [HXL.out]; omega)⟩
          have cy := hcell j y hy
          have cx := hcell k x HX0.out
          have HJ := Lib.hid hy
          clear hcell hy
          by_cases he : y = x
          · subst he
            have HE := Lib.hid (dd_step_in HX0.out (mem_take_of HJ.out hlj))
            go_wp2_with fail
            go_quiet (fail)
            go_wp2_with fail
            exact ⟨⟨k + 1, dn, by omega, by go_num, rfl, by omega, by rw [HE.out.1]; exact HDN.out, Cmp.drewN HM4.out _, HX4.out.drewN _, by show w1.heap.size ≤ w4.heap.size; omega⟩, by simp [intOf]; omega⟩
          · have hb := str_beq_ne he
            have HNT := Lib.hid (notin_take HNJ.out HJ.out he)
            go_wp2_with fail
            go_quiet (fail)
            go_wp2_with fail
            exact ⟨⟨j + 1, _, by omega, rfl, by go_num, HNT.out, rfl⟩, by simp [intOf]; omega⟩
        · obtain rfl : j = k := by omega
          have HE := Lib.hid (dd_step_out HX0.out HNJ.out)
          go_wp2_with fail
          exact ⟨⟨j + 1, dn + 1, by omega, by go_num, by go_num, by omega, by rw [HE.out, HDN.out], Cmp.drewN HM4.out _, HX4.out.drewN _, by show w1.heap.size ≤ w4.heap.size; omega⟩, by simp [intOf]; omega⟩
    · obtain rfl : k = len0 := by omega
      have htk := Lib.hid (show z0.take k = z0 from List.take_of_length_le (by rw [HXL.out]; omega))
      have hcm := HM.out
      have hdn := HDN.out
      rw [htk.out] at hcm hdn
      have HM3 := Lib.hid hcm
      have HD3 := Lib.hid hdn
      clear HM HDN hcm hdn htk
      go_wp2_with fail
      go_loopw [10] (fun i wr => ∃ (q : Nat), q ≤ m0 ∧ i = .int .i64 q ∧ Cmp wr w1.heap.size c s p (dd z0 ++ List.replicate q ByteArray.empty) ∧ Below w.heap.size w wr ∧ w1.heap.size ≤ wr.heap.size) (fun i _ => m0 - (intOf i).toNat)
      case atStart => exact ⟨0, Nat.zero_le _, rfl, by simpa using HM3.out, HX.out.2, hsz⟩
      case round =>
        obtain ⟨q, hq, rfl, hcm, hbq, hsq⟩ := hrel
        have HM5 := Lib.hid hcm
        have HB5 := Lib.hid hbq
        have HLN := Lib.hid (show (dd z0 ++ List.replicate q ByteArray.empty).length = dn + q by rw [List.length_append, HD3.out, List.length_replicate])
        clear hcm hbq
        by_cases hlq : q < m0
        · go_wp2_with fail
          refine (znew2 _ _ c s p (dn + q) _ HM5.out (by rw [HLN.out]; omega) hsq HLN.out).mono ?_
          rintro e w6 ⟨rfl, hcm, hb6, hk6⟩
          rw [rep_snoc] at hcm
          have hs6 := hb6.size
          have HM6 := Lib.hid hcm
          have HB6 := Lib.hid (HB5.out.trans (hb6.mono hs1))
          clear hcm hb6 hk6
          go_wp2_with fail
          have hs7 := HB6.out.size
          exact ⟨⟨q + 1, by omega, by go_num, HM6.out.below ((Below.refl _ _).alloc (Nat.le_refl _) _), HB6.out.trans ((Below.refl _ _).alloc hs7 _), by simp; omega⟩, by simp [intOf]; omega⟩
        · obtain rfl : q = m0 := by omega
          go_wp2_with fail
          refine (zcount2 _ _ c s p (dn + q) _ HM5.out HLN.out).mono ?_
          rintro e w6 ⟨rfl, n1, rfl⟩
          go_wp2_with fail
          refine (zcnt2 _ _ c s p (dn + q) _ (Cmp.drewN HM5.out _) HLN.out).mono ?_
          rintro e w7 ⟨rfl, n2, rfl⟩
          go_wp2_with fail
          go_ret
          exact ⟨by simp, below_drewN HB5.out _⟩
theorem fnNewVariableAfterPushes.walk (a0 : Option Addr) (len0 cap0 : Nat) (z0 : List (ByteArray)) (a1 : Int) (w : World) (w0 : SliceOf 1 (IsStr) w a0 len0 z0) (w1 : (Lit.int .i64 a1).wf = true) :
    Calls Try.prog 4 #[.slice a0 len0 cap0, .int .i64 a1] w fun e w' => e = .returned (.bool true) ∧ Below w.heap.size w w' := by
  have hl := w0.lt.2
  unfold maxLen at hl
  by_cases hl2 : len0 ≤ 4096
  · by_cases hp2 : 0 ≤ a1 ∧ a1 ≤ 65536
    · obtain ⟨m0, rfl⟩ : ∃ m0 : Nat, a1 = m0 := ⟨a1.toNat, by omega⟩
      exact fnNewVariableAfterPushes.main a0 len0 cap0 z0 m0 w w0 hl2 (by omega)
    · have W0 := Lib.hid w0
      clear w0 w1
      rcases (show a1 < 0 ∨ (0 ≤ a1 ∧ 65536 < a1) by omega) with h0 | ⟨h0, h1⟩
      all_goals
        clear hp2
        go_enter Try.func4, Try.ntmps4
        go_wp2_with fail
        refine (zz12 a0 len0 cap0 z0 a1 _ W0.out).mono ?_
        rintro e w' ⟨b, rfl, rfl⟩
        cases b
        · go_wp2_with fail
          go_ret
          exact ⟨rfl, Below.refl _ _⟩
        go_wp2_with fail
        refine (bytes6 _ a0 len0 cap0 z0 _ W0.out).mono ?_
        rintro e w' ⟨n, rfl, rfl⟩
        by_cases hn : 1048576 < n
        · go_wp2_with fail
          go_ret
          exact ⟨rfl, Below.refl _ _⟩
        go_wp2_with fail
        go_ret
        exact ⟨rfl, Below.refl _ _⟩
  · have W0 := Lib.hid w0
    clear w0
    go_enter Try.func4, Try.ntmps4
    go_wp2_with fail
    refine (zz12 a0 len0 cap0 z0 a1 _ W0.out).mono ?_
    rintro e w' ⟨b, rfl, rfl⟩
    cases b
    · go_wp2_with fail
      go_ret
      exact ⟨rfl, Below.refl _ _⟩
    go_wp2_with fail
    go_ret
    exact ⟨rfl, Below.refl _ _⟩
end Go.Proofs.Ytpbolpnkfkcelaa
