/-
  Contract of the seat n001_78: lookupVariable.
-/
import Derived.Test.YtdlckialndahhaaLow
namespace Go.Proofs.Ytdlckialndahhaa
set_option linter.unusedVariables false
set_option linter.unusedSimpArgs false
open Go.ChangeShapes Go.WideShapes Go.ChangeAt Go.RowKit M
/-- The slot of the name, or an error. -/
def LookOut (w : World) (ns : List ByteArray) (nm : ByteArray) (e : Ending) (w' : World) : Prop :=
  ((∃ k : Nat, ns[k]? = some nm ∧ e = .returned (.tuple #[.agg #[.int .i64 1, .int .i64 k], .nilIface])) ∨ (nm ∉ ns ∧ ∃ v, e = .returned (.tuple #[.agg #[.int .i64 0, .int .i64 0], .iface 110 v]))) ∧ Below w.heap.size w w'
theorem notin_drop {ns : List ByteArray} {nm n : ByteArray} {k : Nat} (h : nm ∉ ns.drop (k + 1)) (hk : ns[k]? = some n) (hne : n ≠ nm) : nm ∉ ns.drop k := by
  obtain ⟨hl, he⟩ := List.getElem?_eq_some_iff.1 hk
  rw [List.drop_eq_getElem_cons hl, he]
  simp only [List.mem_cons, not_or]
  exact ⟨fun e => hne e.symm, h⟩
set_option maxHeartbeats 1000000 in
theorem look (w : World) (B c s p : Nat) (ns : List ByteArray) (nm : ByteArray) (h : Cmp w B c s p ns) (hn : ns.length ≤ 1048576) :
    Calls Try.prog 30 #[.pointer (some ⟨c, 0, none⟩), .string nm] w (LookOut w ns nm) := by
  have H := Lib.hid h
  obtain ⟨cc, A, cap, qs, fv, hc, hc8, hs, hp, hBp, hql, ho, hq⟩ := h
  have k8 := (hc.cell 8).trans hc8
  have s0 := hs.cell 0
  have p0 := hp.cell 0
  simp only [List.getElem?_toArray, List.getElem?_cons_succ, List.getElem?_cons_zero] at s0 p0
  have lc := hc.lt
  have ls := hs.lt
  have lp := hp.lt
  have HO := Lib.hid ho
  have HQ := Lib.hid hq
  have HQL := Lib.hid hql
  unfold ptr at *
  clear hc hc8 hs hp ho hq hql
  go_enter Try.func30, Try.ntmps30
  go_wp2_with fail
  go_loopw [6] (fun i wr => (∃ m, wr = (w.alloc (.cells #[.int .i64 0, .int .i64 0] 28)).drewN m) ∧ (i = .int .i64 0 ∨ (i = .int .i64 (-1) ∧ nm ∉ ns))) (fun i _ => (intOf i + 1).toNat)
  case atStart => exact ⟨⟨0, rfl⟩, .inl rfl⟩
  case round =>
    obtain ⟨⟨m, rfl⟩, rfl | ⟨rfl, hno⟩⟩ := hrel
    · go_wp2_with fail
      go_loopw [8] (fun j wr => ∃ (k : Nat) (kk : Int), (∃ m, wr = (w.alloc (.cells #[.int .i64 0, .int .i64 0] 28)).drewN m) ∧ kk = k ∧ k ≤ ns.length ∧ j = .int .i64 (kk - 1) ∧ nm ∉ ns.drop k) (fun j _ => (intOf j + 1).toNat)
      case atStart => exact ⟨ns.length, _, ⟨_, rfl⟩, rfl, Nat.le_refl _, rfl, by simp⟩
      case round =>
        obtain ⟨k, kk, ⟨m2, rfl⟩, hkk, hk, rfl, hnk⟩ := hrel
        have HNK := Lib.hid hnk
        clear hnk
        rcases k with _ | k
        · have hno : nm ∉ ns := by simpa using HNK.out
          have HNO := Lib.hid hno
          clear hno
          go_wp2_with fail
          exact ⟨⟨⟨_, rfl⟩, .inr ⟨by go_num, HNO.out⟩⟩, by simp [intOf]⟩
        · have hlt : k < ns.length := by omega
          have hr := HQ.out k _ _ (List.getElem?_eq_getElem (by rw [HQL.out]; exact hlt)) (List.getElem?_eq_getElem hlt)
          obtain ⟨g, cap', hv, hgB, hgl⟩ := HO.out.form (by omega)
          injection hv with hA _ hcp
          subst hA hcp
          obtain ⟨q, hqq⟩ : ∃ q, q = qs[k]'(by rw [HQL.out]; exact hlt) := ⟨_, rfl⟩
          obtain ⟨n, hnn⟩ : ∃ n, n = ns[k] := ⟨_, rfl⟩
          have v0 : w.cell? ⟨g, k, none⟩ = some (.pointer (some ⟨q, 0, none⟩)) := by
            have := HO.out.cells (g := g) rfl k (.pointer (some ⟨q, 0, none⟩)) (by rw [List.getElem?_map, List.getElem?_eq_getElem (by rw [HQL.out]; exact hlt), hqq]; rfl)
            simpa [Addr.add_lit] using this
          rw [← hqq, ← hnn] at hr
          have q0 := hr.cell 0
          have q1 := hr.cell 1
          have q2 := hr.cell 2
          have q3 := hr.cell 3
          simp only [List.getElem?_toArray, List.getElem?_cons_succ, List.getElem?_cons_zero] at q0 q1 q2 q3
          have lq := hr.lt
          have HNN := Lib.hid (show ns[k]? = some n by rw [hnn]; exact List.getElem?_eq_getElem hlt)
          clear hr hqq hnn
          have hkk2 : kk - 1 = (k : Int) := by omega
          by_cases he : n = nm
          · subst he
            go_wp2_with fail
            obtain ⟨e0, e1⟩ := cells_after (v1 := .int .i64 1) (v2 := .int .i64 k) ((Row.made w 28 #[.int .i64 0, .int .i64 0]).drewN m2)
            refine bodyPost_ret (v := .tuple #[.agg #[.int .i64 1, .int .i64 k], .nilIface]) (by simp [results, Try.results30, go_sem, e0, e1]) rfl ?_
            refine ⟨.inl ⟨k, HNN.out, rfl⟩, ?_⟩
            exact ((below_drewN ((Below.refl _ _).alloc (Nat.le_refl _) _) m2).setCell (Nat.le_refl _) _).setCell (Nat.le_refl _) _
          · have hb := str_beq_ne he
            have HNT := Lib.hid (notin_drop HNK.out HNN.out he)
            go_wp2_with fail
            exact ⟨⟨k, _, ⟨_, rfl⟩, rfl, by omega, by go_num, HNT.out⟩, by simp [intOf]; omega⟩
    · have HNO := Lib.hid hno
      clear hno
      go_wp2_with fail
      have hr2 := (((((Row.made w 28 #[.int .i64 0, .int .i64 0]).drewN m).put 0 (.int .i64 0)).put 1 (.int .i64 0)).alloc (.cells #[.string nm] 112))
      have e0 := hr2.cell 0
      have e1 := hr2.cell 1
      simp only [List.setIfInBounds_toArray, List.set_cons_zero, List.set_cons_succ, List.getElem?_toArray, List.getElem?_cons_succ, List.getElem?_cons_zero] at e0 e1
      have hb : Below w.heap.size w ((((w.alloc (.cells #[.int .i64 0, .int .i64 0] 28)).drewN m).setCell ⟨w.heap.size, 0, none⟩ (.int .i64 0)).setCell ⟨w.heap.size, 1, none⟩ (.int .i64 0)) := ((below_drewN ((Below.refl _ _).alloc (Nat.le_refl _) _) m).setCell (Nat.le_refl _) _).setCell (Nat.le_refl _) _
      refine bodyPost_ret (v := .tuple #[.agg #[.int .i64 0, .int .i64 0], .iface 110 (.pointer (some ⟨w.heap.size + 1, 0, none⟩))]) ?_ rfl ⟨.inr ⟨HNO.out, _, rfl⟩, hb.alloc (by simp [World.setCell]) _⟩
      simp [results, Try.results30, go_sem, e0, e1]
end Go.Proofs.Ytdlckialndahhaa
