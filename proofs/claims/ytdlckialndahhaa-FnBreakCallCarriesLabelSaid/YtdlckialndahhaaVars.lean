/-
  Contracts of newVariable, pushVariable and the exports over them (n001_78).
-/
import Derived.Test.YtdlckialndahhaaCmp
namespace Go.Proofs.Ytdlckialndahhaa
set_option linter.unusedVariables false
open Go.ChangeShapes Go.WideShapes Go.ChangeAt Go.RowKit M
theorem KeepR.refl (w : World) : KeepR w w := fun _ _ _ h _ _ => h
theorem KeepR.trans {a b c : World} (h : KeepR a b) (k : KeepR b c) : KeepR a c := fun g t cs r h1 h2 => k g t cs (h g t cs r h1 h2) h1 h2
theorem KeepR.below {w w' : World} (hb : Below w.heap.size w w') : KeepR w w' := fun g t cs r _ _ => r.keep hb r.lt
theorem Cmp.below {w w' : World} {B c s p : Nat} {ns : List ByteArray} (h : Cmp w B c s p ns) (hb : Below w.heap.size w w') : Cmp w' B c s p ns := by
  obtain ⟨cc, A, cap, qs, fv, hc, hc8, hs, hp, hBp, hql, ho, hq⟩ := h
  exact ⟨cc, A, cap, qs, fv, hc.keep hb hc.lt, hc8, hs.keep hb hs.lt, hp.keep hb hp.lt, hBp, hql, own_touch ho (Touch.of_below hb (fun _ => False)) (fun _ _ h => h), fun i q n h1 h2 => (hq i q n h1 h2).keep hb (hq i q n h1 h2).lt⟩
/-- A variable's slot handed back; the names after it. -/
def VarOut (w : World) (B c s p : Nat) (idx : Nat) (ns' : List ByteArray) (e : Ending) (w' : World) : Prop :=
  e = .returned (.agg #[.int .i64 1, .int .i64 idx]) ∧ Cmp w' B c s p ns' ∧ Below B w w' ∧ KeepR w w'
theorem varOut_end {w w2 : World} {B c s p idx : Nat} {ns' : List ByteArray} {u1 u2 : Value} (h : Cmp w2 B c s p ns') (hB : B ≤ w.heap.size) (hb : Below B (w.alloc (.cells #[u1, u2] 28)) w2) (hk : KeepR (w.alloc (.cells #[u1, u2] 28)) w2) :
    VarOut w B c s p idx ns' (.returned (.agg #[.int .i64 1, .int .i64 idx])) ((w2.setCell ⟨w.heap.size, 0, none⟩ (.int .i64 1)).setCell ⟨w.heap.size, 1, none⟩ (.int .i64 idx)) := by
  have hr : Row w2 w.heap.size 28 #[u1, u2] := hk _ _ _ (Row.made _ _ _) (by decide) (by decide)
  have ht : Touch (fun k => k = w.heap.size) w2 ((w2.setCell ⟨w.heap.size, 0, none⟩ (.int .i64 1)).setCell ⟨w.heap.size, 1, none⟩ (.int .i64 idx)) := ((Touch.refl (fun k => k = w.heap.size) w2).setCell (p := ⟨w.heap.size, 0, none⟩) (fun _ => rfl) _).setCell (p := ⟨w.heap.size, 1, none⟩) (fun _ => rfl) _
  obtain ⟨cc, A, cap, qs, fv, hc, hc8, hs, hp, hBp, hql, ho, hq⟩ := h
  have keep : ∀ {g : Nat} {t : TypeId} {cs : Array Value}, Row w2 g t cs → t ≠ 28 → Row ((w2.setCell ⟨w.heap.size, 0, none⟩ (.int .i64 1)).setCell ⟨w.heap.size, 1, none⟩ (.int .i64 idx)) g t cs := fun h h1 => h.touch ht (fun e => Row.ne_ h hr h1 e)
  refine ⟨rfl, ⟨cc, A, cap, qs, fv, keep hc (by decide), hc8, keep hs (by decide), keep hp (by decide), hBp, hql, own_touch ho ht (fun k hk h => own_ne ho hr (by decide) (by rw [hk, h])), fun i q n h1 h2 => keep (hq i q n h1 h2) (by decide)⟩, ?_, ?_⟩
  · exact (((Below.refl B w).alloc hB _).trans hb).trans (ht.below (Nat.le_trans (Nat.le_trans hB (by simp)) hb.size) (fun k hk h => by omega))
  · intro g t cs h h1 h2
    have h3 := h.lt
    exact (hk _ _ _ (h.alloc _) h1 h2).touch ht (by omega)
theorem cells_after {w2 : World} {r : Nat} {u1 u2 v1 v2 : Value} (hr : Row w2 r 28 #[u1, u2]) : (w2.setCell ⟨r, 0, none⟩ v1).cell? ⟨r, 0, none⟩ = some v1 ∧ ((w2.setCell ⟨r, 0, none⟩ v1).setCell ⟨r, 1, none⟩ v2).cell? ⟨r, 1, none⟩ = some v2 := by
  have h1 := hr.put 0 v1
  have h2 := h1.put 1 v2
  have e0 := h1.cell 0
  have e1 := h2.cell 1
  simp only [List.setIfInBounds_toArray, List.set_cons_zero, List.set_cons_succ, List.getElem?_toArray, List.getElem?_cons_succ, List.getElem?_cons_zero] at e0 e1
  exact ⟨e0, e1⟩
theorem notin_take {ns : List ByteArray} {nm n : ByteArray} {k : Nat} (h : nm ∉ ns.take k) (hk : ns[k]? = some n) (hne : n ≠ nm) : nm ∉ ns.take (k + 1) := by
  obtain ⟨hl, he⟩ := List.getElem?_eq_some_iff.1 hk
  rw [List.take_succ_eq_append_getElem hl, he]
  simp only [List.mem_append, List.mem_singleton, not_or]
  exact ⟨h, fun e => hne e.symm⟩
/-- The place of the first nm, or the length. -/
def idx (nm : ByteArray) : List ByteArray → Nat
  | [] => 0
  | n :: r => if n = nm then 0 else idx nm r + 1
theorem idx_at : ∀ {ns : List ByteArray} {nm : ByteArray} {k : Nat}, nm ∉ ns.take k → ns[k]? = some nm → idx nm ns = k ∧ nm ∈ ns
  | [], _, _, _, hk => by simp at hk
  | n :: r, nm, 0, _, hk => by
    simp at hk
    subst hk
    simp [idx]
  | n :: r, nm, k + 1, h, hk => by
    simp only [List.take_succ_cons, List.mem_cons, not_or] at h
    rw [List.getElem?_cons_succ] at hk
    obtain ⟨h1, h2⟩ := idx_at h.2 hk
    exact ⟨by rw [idx, if_neg (fun e => h.1 e.symm), h1], by simp [h2]⟩
theorem idx_out : ∀ {ns : List ByteArray} {nm : ByteArray}, nm ∉ ns → idx nm ns = ns.length
  | [], _, _ => rfl
  | n :: r, nm, h => by
    simp only [List.mem_cons, not_or] at h
    rw [idx, if_neg (fun e => h.1 e.symm), idx_out h.2, List.length_cons]
theorem idx_lt {ns : List ByteArray} {nm : ByteArray} : idx nm ns < ns.length ↔ nm ∈ ns := by
  constructor
  · intro h
    by_cases hm : nm ∈ ns
    · exact hm
    · rw [idx_out hm] at h
      omega
  · intro h
    obtain ⟨k, hk⟩ := List.getElem?_of_mem h
    induction ns generalizing k with
    | nil => cases h
    | cons n r ih =>
      rw [idx]
      split
      · simp
      · rename_i hne
        rcases List.mem_cons.1 h with h | h
        · exact absurd h.symm hne
        · obtain ⟨k', hk'⟩ := List.getElem?_of_mem h
          have := ih h k' hk'
          simp
          omega
def pushNs (ns : List ByteArray) (nm : ByteArray) : List ByteArray := if idx nm ns < ns.length then ns else ns ++ [nm]
theorem pushNs_in {ns : List ByteArray} {nm : ByteArray} (h : nm ∈ ns) : pushNs ns nm = ns := if_pos (idx_lt.2 h)
theorem pushNs_out {ns : List ByteArray} {nm : ByteArray} (h : nm ∉ ns) : pushNs ns nm = ns ++ [nm] := if_neg (fun e => h (idx_lt.1 e))
theorem idx_none {ns : List ByteArray} {nm : ByteArray} (h : nm ∉ ns.take ns.length) : idx nm ns = ns.length ∧ pushNs ns nm = ns ++ [nm] := by
  rw [List.take_length] at h
  exact ⟨idx_out h, pushNs_out h⟩
set_option maxHeartbeats 1000000 in
theorem pushVar (w : World) (B c s p : Nat) (ns : List ByteArray) (nm : ByteArray) (h : Cmp w B c s p ns) (hn : ns.length ≤ 1048576) (hB : B ≤ w.heap.size) :
    Calls Try.prog 25 #[ptr c, .string nm] w (VarOut w B c s p (idx nm ns) (pushNs ns nm)) := by
  have H := Lib.hid h
  obtain ⟨cc, A, cap, qs, fv, hc, hc8, hs, hp, hBp, hql, ho, hq⟩ := h
  have k8 := (hc.cell 8).trans hc8
  have s0 := hs.cell 0
  have p0 := hp.cell 0
  have p3 := hp.cell 3
  simp only [List.getElem?_toArray, List.getElem?_cons_succ, List.getElem?_cons_zero] at s0 p0 p3
  have lc := hc.lt
  have ls := hs.lt
  have lp := hp.lt
  have HO := Lib.hid ho
  have HQ := Lib.hid hq
  have HQL := Lib.hid hql
  unfold ptr at *
  clear hc hc8 hs hp ho hq hql
  go_enter Try.func25, Try.ntmps25
  go_wp2_with fail
  go_quiet (fail)
  go_wp2_with fail
  go_loopw [25] (fun i wr => ∃ (k m : Nat), k ≤ ns.length ∧ i = .int .i64 k ∧ nm ∉ ns.take k ∧ wr = (w.alloc (.cells #[.int .i64 0, .int .i64 0] 28)).drewN m) (fun i _ => ns.length - (intOf i).toNat)
  case atStart => exact ⟨0, _, Nat.zero_le _, rfl, by simp, rfl⟩
  case round =>
    obtain ⟨k, m, hk, rfl, hnk, rfl⟩ := hrel
    have HNK := Lib.hid hnk
    clear hnk
    by_cases hlt : k < ns.length
    · have hr := HQ.out k _ _ (List.getElem?_eq_getElem (by rw [HQL.out]; exact hlt)) (List.getElem?_eq_getElem hlt)
      obtain ⟨g, cap', hv, hgB, hgl⟩ := HO.out.form (by omega)
      injection hv with hA _ hcp
      subst hA hcp
      obtain ⟨q, hqq⟩ : ∃ q, q = qs[k]'(by rw [HQL.out]; exact hlt) := ⟨_, rfl⟩
      obtain ⟨n, hnn⟩ : ∃ n, n = ns[k] := ⟨_, rfl⟩
      have v0 : w.cell? ⟨g, k, none⟩ = some (.pointer (some ⟨q, 0, none⟩)) := by
        have := HO.out.cells (g := g) rfl k (.pointer (some ⟨q, 0, none⟩)) (by rw [List.getElem?_map, List.getElem?_eq_getElem (by rw [HQL.out]; exact hlt), hqq]; rfl)
        simpa [Addr.add_lit] using this
      rw [← hqq, ← hnn] at hr
      have q0 := hr.cell 0
      have q1 := hr.cell 1
      have q2 := hr.cell 2
      have q3 := hr.cell 3
      simp only [List.getElem?_toArray, List.getElem?_cons_succ, List.getElem?_cons_zero] at q0 q1 q2 q3
      have lq := hr.lt
      have HNN := Lib.hid (show ns[k]? = some n by rw [hnn]; exact List.getElem?_eq_getElem hlt)
      clear hr hqq hnn
      by_cases he : n = nm
      · subst he
        have HE := Lib.hid (idx_at HNK.out HNN.out)
        go_wp2_with fail
        go_quiet (fail)
        go_wp2_with fail
        have hw1 : ∀ x, (w.alloc (.cells #[.int .i64 0, .int .i64 0] 28)).drewN x = (w.drewN x).alloc (.cells #[.int .i64 0, .int .i64 0] 28) := fun _ => rfl
        obtain ⟨e0, e1⟩ := cells_after (v1 := .int .i64 1) (v2 := .int .i64 k) ((Row.made w 28 #[.int .i64 0, .int .i64 0]).drewN (m + nq))
        refine bodyPost_ret (v := .agg #[.int .i64 1, .int .i64 k]) (by simp [results, Try.results25, go_sem, e0, e1]) rfl ?_
        have hbb : Below (w.drewN (m + nq)).heap.size (w.drewN (m + nq)) ((w.drewN (m + nq)).alloc (.cells #[.int .i64 0, .int .i64 0] 28)) := (Below.refl _ _).alloc (Nat.le_refl _) _
        have hend := varOut_end (w := w.drewN (m + nq)) (w2 := (w.alloc (.cells #[.int .i64 0, .int .i64 0] 28)).drewN (m + nq)) (idx := k) (u1 := .int .i64 0) (u2 := .int .i64 0) ((H.out.below (below_drewN (Below.refl _ w) (m + nq))).below hbb) hB (Below.refl _ _) (KeepR.refl _)
        rw [HE.out.1, pushNs_in HE.out.2]
        exact ⟨rfl, hend.2.1, (below_drewN (Below.refl _ w) (m + nq)).trans hend.2.2.1, (KeepR.below (below_drewN (Below.refl _ w) (m + nq))).trans hend.2.2.2⟩
      · have hb := str_beq_ne he
        have HNT := Lib.hid (notin_take HNK.out HNN.out he)
        go_wp2_with fail
        go_quiet (fail)
        go_wp2_with fail
        go_roundw
        case rel => exact ⟨k + 1, _, by omega, by go_num, HNT.out, rfl⟩
        case measure => simp [intOf]; omega
    · obtain rfl : k = ns.length := by omega
      have HIP := Lib.hid (idx_none HNK.out)
      go_wp2_with fail
      refine (createVar _ B c s p ns _ (H.out.below (below_drewN ((Below.refl _ _).alloc (Nat.le_refl _) _) m)) hn (by show B ≤ (w.alloc _).heap.size; simp; omega)).mono ?_
      rintro e w2 ⟨rfl, hc, hb, hk⟩
      have hb' : Below B (w.alloc (.cells #[.int .i64 0, .int .i64 0] 28)) w2 := (below_drewN (Below.refl _ _) m).trans hb
      have hk' : KeepR (w.alloc (.cells #[.int .i64 0, .int .i64 0] 28)) w2 := (KeepR.below (below_drewN (Below.refl _ _) m)).trans hk
      have hr : Row w2 w.heap.size 28 _ := hk' _ _ _ (Row.made _ _ _) (by decide) (by decide)
      have r0 := hr.cell 0
      have r1 := hr.cell 1
      have y0 := hr.free 0
      have y1 := hr.free 1
      obtain ⟨e0, e1⟩ := cells_after (v1 := .int .i64 1) (v2 := .int .i64 ns.length) hr
      have E0 := Lib.hid e0
      have E1 := Lib.hid e1
      have HC := Lib.hid hc
      have HB := Lib.hid hb'
      have HK := Lib.hid hk'
      clear hc hb hk hr e0 e1 hb' hk'
      go_wp2_with fail
      refine bodyPost_ret (v := .agg #[.int .i64 1, .int .i64 ns.length]) (by simp [results, Try.results25, go_sem, E0.out, E1.out]) rfl ?_
      rw [HIP.out.1, HIP.out.2]
      exact varOut_end HC.out hB HB.out HK.out
set_option maxHeartbeats 1000000 in
theorem zpush (w : World) (B c s p : Nat) (ns : List ByteArray) (nm : ByteArray) (h : Cmp w B c s p ns) (hn : ns.length ≤ 1048576) (hB : B ≤ w.heap.size) :
    Calls Try.prog 9 #[ptr c, .string nm] w (VarOut w B c s p (idx nm ns) (pushNs ns nm)) := by
  have H := Lib.hid h
  clear h
  unfold ptr
  go_enter Try.func9, Try.ntmps9
  go_wp2_with fail
  refine (pushVar _ B c s p ns _ (H.out.below ((Below.refl _ _).alloc (Nat.le_refl _) _)) hn (by simp; omega)).mono ?_
  rintro e w2 ⟨rfl, hc, hb, hk⟩
  have hr : Row w2 w.heap.size 28 _ := hk _ _ _ (Row.made _ _ _) (by decide) (by decide)
  have r0 := hr.cell 0
  have r1 := hr.cell 1
  have z0 := hr.free 0
  have z1 := hr.free 1
  obtain ⟨e0, e1⟩ := cells_after (v1 := .int .i64 1) (v2 := .int .i64 (idx nm ns : Nat)) hr
  have E0 := Lib.hid e0
  have E1 := Lib.hid e1
  have HC := Lib.hid hc
  have HB := Lib.hid hb
  have HK := Lib.hid hk
  clear hc hb hk hr e0 e1
  go_wp2_with fail
  exact bodyPost_ret (v := .agg #[.int .i64 1, .int .i64 (idx nm ns : Nat)]) (by simp [results, Try.results9, go_sem, E0.out, E1.out]) rfl (varOut_end HC.out hB HB.out HK.out)
end Go.Proofs.Ytdlckialndahhaa
