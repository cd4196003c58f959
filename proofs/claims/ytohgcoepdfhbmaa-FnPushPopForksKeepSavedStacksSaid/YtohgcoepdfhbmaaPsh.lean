/-
  Contracts of the seat n001_96: pushfork.
-/
import Derived.Test.YtohgcoepdfhbmaaFrk
namespace Go.Proofs.Ytohgcoepdfhbmaa
set_option linter.unusedVariables false
set_option linter.unusedSimpArgs false
open Go.ChangeShapes Go.WideShapes Go.ChangeAt Go.RowKit M
theorem scope_save (w : World) (p : Nat) (A : Option Addr) (n c : Nat) (h : Row w p 76 #[.slice A n c, .int .i64 (-1), .int .i64 (-1)]) :
    Calls Try.prog 30 #[.pointer (some ⟨p, 0, none⟩)] w fun e w' => e = .returned (.tuple #[.int .i64 (-1), .int .i64 (-1)]) ∧ ∃ n, w' = w.drewN n := by
  have c1 := h.cell 1
  have c2 := h.cell 2
  simp only [List.getElem?_toArray, List.getElem?_cons_succ, List.getElem?_cons_zero] at c1 c2
  have lp := h.lt
  clear h
  go_enter Try.func30, Try.ntmps30
  go_wp2
  go_quiet (fail)
  go_wp2
  go_quiet (fail)
  go_wp2
  go_ret2
  exact ⟨rfl, _, drewNN _ _ _⟩
theorem scope_restore (w : World) (p : Nat) (A : Option Addr) (n c : Nat) (h : Row w p 76 #[.slice A n c, .int .i64 (-1), .int .i64 (-1)]) :
    Calls Try.prog 34 #[.pointer (some ⟨p, 0, none⟩), .int .i64 (-1), .int .i64 (-1)] w fun e w' => e = NoEnd ∧ Row w' p 76 #[.slice A n c, .int .i64 (-1), .int .i64 (-1)] ∧ Touch (· = p) w w' := by
  have c1 := h.cell 1
  have c2 := h.cell 2
  simp only [List.getElem?_toArray, List.getElem?_cons_succ, List.getElem?_cons_zero] at c1 c2
  have z1 := h.free 1
  have z2 := h.free 2
  have lp := h.lt
  have H := Lib.hid h
  clear h
  go_enter Try.func34, Try.ntmps34
  go_wp2
  go_end0
  exact ⟨rfl, by simpa using (H.out.put 1 (.int .i64 (-1))).put 2 (.int .i64 (-1)), ((Touch.refl _ _).setP _ _).setP _ _⟩
/-- The state while a fork's struct lies in block b. -/
structure PF (ws : World) (pe p p2 p3 : Nat) (d g : Option Nat) (D : List Ent) (idx lim : Int) (fr : List (Int × Int × Int)) (wr : World) (b : Nat) (cells : Array Value) (w : World) : Prop where
  fs : Fks ws pe p p2 p3 d g D idx lim fr w
  row : Row w b 69 cells
  keep : FKeep wr w
  ap : ws.heap.size ≤ b ∧ b ≠ pe ∧ b ≠ p ∧ b ≠ p2 ∧ b ≠ p3 ∧ d ≠ some b ∧ g ≠ some b
  new : wr.heap.size ≤ b
section
variable {ws wr w w' : World} {pe p p2 p3 b : Nat} {d g : Option Nat} {D : List Ent} {idx lim : Int} {fr : List (Int × Int × Int)} {cells : Array Value}
theorem FKeep.touch {S : Nat → Prop} (h : FKeep wr w) (ht : Touch S w w') (hS : ∀ k, S k → wr.heap.size ≤ k ∨ ∃ t cs, Row w k t cs ∧ (t = 67 ∨ t = 78 ∨ t = 50 ∨ t = 69 ∨ t = 76)) : FKeep wr w' := by
  intro k t cs hr h1 h2 h3 h4 h5
  have hk := h k t cs hr h1 h2 h3 h4 h5
  refine hk.touch ht (fun hs => ?_)
  rcases hS k hs with h6 | ⟨t', cs', h6, h7⟩
  · have := hr.lt
    omega
  · unfold Row at hk h6
    rw [hk] at h6
    injection h6 with h6
    injection h6 with _ h6
    subst h6
    rcases h7 with h7 | h7 | h7 | h7 | h7
    · exact h1 h7
    · exact h2 h7
    · exact h3 h7
    · exact h4 h7
    · exact h5 h7
theorem PF.put (h : PF ws pe p p2 p3 d g D idx lim fr wr b cells w) (i : Nat) (u : Value) : PF ws pe p p2 p3 d g D idx lim fr wr b (cells.setIfInBounds i u) (w.setCell ⟨b, i, none⟩ u) := by
  have ht := (Touch.refl (· = b) w).setP i u
  refine ⟨h.fs.other ht (fun k hk => by subst hk; exact h.ap), h.row.put i u, h.keep.touch ht (fun k hk => .inl (by subst hk; exact h.new)), h.ap, h.new⟩
theorem PF.drewN (h : PF ws pe p p2 p3 d g D idx lim fr wr b cells w) (n : Nat) : PF ws pe p p2 p3 d g D idx lim fr wr b cells (w.drewN n) := by
  have ht := (Touch.refl (fun _ => False) w).drewN n
  exact ⟨h.fs.other ht (fun k hk => hk.elim), h.row.drewN n, h.keep.touch ht (fun k hk => hk.elim), h.ap, h.new⟩
theorem PF.stk {idx' lim' : Int} (h : PF ws pe p p2 p3 d g D idx lim fr wr b cells w) (hs : Stk w' ws.heap.size p d D idx' lim') (ht : Touch (· = p) w w') : PF ws pe p p2 p3 d g D idx' lim' fr wr b cells w' := by
  obtain ⟨A, c, hp, _⟩ := h.fs.stk
  exact ⟨h.fs.stk' hs (ht.mono (fun k _ h => .inl h)), h.row.touch ht h.ap.2.2.1, h.keep.touch ht (fun k hk => .inr ⟨67, _, hk ▸ hp, .inl rfl⟩), h.ap, h.new⟩
theorem PF.paths (h : PF ws pe p p2 p3 d g D idx lim fr wr b cells w) (hs : Stk w' ws.heap.size p2 none [] (-1) (-1)) (ht : Touch (· = p2) w w') : PF ws pe p p2 p3 d g D idx lim fr wr b cells w' := by
  obtain ⟨A, c, hp, _⟩ := h.fs.paths
  exact ⟨h.fs.paths' hs ht, h.row.touch ht h.ap.2.2.2.1, h.keep.touch ht (fun k hk => .inr ⟨67, _, hk ▸ hp, .inl rfl⟩), h.ap, h.new⟩
theorem PF.scopes (h : PF ws pe p p2 p3 d g D idx lim fr wr b cells w) (hs : Row w' p3 76 #[.slice none 0 0, .int .i64 (-1), .int .i64 (-1)]) (ht : Touch (· = p3) w w') : PF ws pe p p2 p3 d g D idx lim fr wr b cells w' :=
  ⟨h.fs.scopes' hs ht, h.row.touch ht h.ap.2.2.2.2.1, h.keep.touch ht (fun k hk => .inr ⟨76, _, hk ▸ h.fs.scopes, by simp⟩), h.ap, h.new⟩
theorem PF.start (h : Fks ws pe p p2 p3 d g D idx lim fr wr) (cells : Array Value) (n : Nat) : PF ws pe p p2 p3 d g D idx lim fr wr wr.heap.size cells ((wr.alloc (.cells cells 69)).drewN n) := by
  have hb : Below wr.heap.size wr ((wr.alloc (.cells cells 69)).drewN n) := below_drewN ((Below.refl _ _).alloc (Nat.le_refl _) _) n
  exact ⟨h.keep hb, (Row.made _ _ _).drewN n, FKeep.below hb, h.apart (Nat.le_refl _), Nat.le_refl _⟩
end
theorem forked_end {ws w5 w6 wr : World} {pe p p2 p3 g2 cap2 cap : Nat} {d g : Option Nat} {D : List Ent} {idx lim : Int} {fr : List (Int × Int × Int)} {f : Int × Int × Int} {cs : Array Value} {Af : Option Addr} {o : Obj} (h : Fks ws pe p p2 p3 d g D idx lim fr w5)
    (he : Row w5 pe 50 cs) (h7 : cs[7]? = some (.slice Af fr.length cap)) (ho : w5.ownsRow ws.heap.size 69 9 (.slice Af fr.length cap) fr.length (frks fr)) (hg : (Value.slice Af fr.length cap).ownBlock = g)
    (hd : Row w6 pe 50 cs) (hown : w6.ownsRow ws.heap.size 69 9 (.slice (some ⟨g2, 0, none⟩) (fr.length + 1) cap2) (fr.length + 1) (frks fr ++ frk f)) (hgrow : (w5.drew.alloc o).grownBy w6 (Value.slice Af fr.length cap).ownBlock) (hk : FKeep wr w5) :
    Fks ws pe p p2 p3 d (some g2) D idx lim (fr ++ [f]) (w6.setCell ⟨pe, 7, none⟩ (.slice (some ⟨g2, 0, none⟩) (fr.length + 1) cap2)) ∧ FKeep wr (w6.setCell ⟨pe, 7, none⟩ (.slice (some ⟨g2, 0, none⟩) (fr.length + 1) cap2)) := by
  have hf := h
  obtain ⟨cs', Af', cap', q1, q2, q3, q4, q5, q6, q7, _, _⟩ := h.env
  have hcc : cs = cs' := by
    unfold Row at he q1
    rw [he] at q1
    injection q1 with q1
    injection q1
  subst hcc
  obtain ⟨A, c, hp, hB, hod, hdd⟩ := h.stk
  obtain ⟨A2, c2, hp2, hB2, ho2, hd2⟩ := h.paths
  have t3 : Touch (fun k => k = pe ∨ g = some k) w5 w6 := (((Touch.refl _ w5).drew).alloc o).grown hgrow (fun k hk _ => .inr (by rw [← hg]; exact hk))
  have tf := t3.setCell (p := ⟨pe, 7, none⟩) (fun _ => .inl rfl) (.slice (some ⟨g2, 0, none⟩) (fr.length + 1) cap2)
  have z7 : 7 < cs.size := (Array.getElem?_eq_some_iff.1 h7).1
  have idxs : ∀ i, i ≠ 7 → (cs.setIfInBounds 7 (.slice (some ⟨g2, 0, none⟩) (fr.length + 1) cap2))[i]? = cs[i]? := fun i hi => by rw [Array.getElem?_setIfInBounds, if_neg (Ne.symm hi)]
  have n1 := h.stk.ne he (by decide) (by decide)
  have n2 := h.paths.ne he (by decide) (by decide)
  have n3 : p3 ≠ pe := by
    rintro rfl
    have h8 := h.scopes
    unfold Row at he h8
    rw [he] at h8
    injection h8 with h8
    injection h8 with _ h8
    exact absurd h8 (by decide)
  have gp : g ≠ some p := by rw [← hg]; exact own_ne ho hp (by decide)
  have gp2 : g ≠ some p2 := by rw [← hg]; exact own_ne ho hp2 (by decide)
  have gp3 : g ≠ some p3 := by rw [← hg]; exact own_ne ho h.scopes (by decide)
  refine ⟨⟨h.stk.touch tf ?_ ?_, ⟨_, some ⟨g2, 0, none⟩, cap2, hd.put 7 _, ?_, ?_, ?_, ?_, ?_, ?_, ?_, rfl⟩, h.paths.touch tf ?_ (fun k hk => by cases hk), h.scopes.touch tf ?_, h.ne, h.lo, h.below.trans (tf.below h.below.size ?_)⟩, ?_⟩
  · rintro (e | e)
    · exact n1.1 e.symm
    · exact gp e
  · rintro k hk (e | e)
    · subst e
      exact n1.2 hk
    · exact own_apart ho hod (by decide) k (by rw [hg]; exact e) (by rw [hdd]; exact hk)
  · rw [idxs _ (by decide)]; exact q2
  · rw [idxs _ (by decide)]; exact q3
  · rw [idxs _ (by decide)]; exact q4
  · rw [Array.getElem?_setIfInBounds, if_pos rfl, if_pos z7]
    simp
  · rw [idxs _ (by decide)]; exact q6
  · rw [idxs _ (by decide)]; exact q7
  · have := own_touch hown ((Touch.refl (fun k => k = pe) w6).setCell (p := ⟨pe, 7, none⟩) (fun _ => rfl) (.slice (some ⟨g2, 0, none⟩) (fr.length + 1) cap2)) (fun k hk h => by subst h; exact own_ne hown hd (by decide) hk)
    rw [frks_snoc]
    simpa using this
  · rintro (e | e)
    · exact n2.1 e.symm
    · exact gp2 e
  · rintro (e | e)
    · exact n3 e
    · exact gp3 e
  · rintro k hk (e | e)
    · have := h.lo.1
      omega
    · have := (hf.glt k e).1
      omega
  · refine hk.touch tf ?_
    rintro k (e | e)
    · exact .inr ⟨50, _, e ▸ he, by simp⟩
    · rcases ho.2 with ⟨h0, _⟩ | ⟨g', cap', cur, h0, _, hh, _⟩
      · rw [← hg, h0] at e
        cases e
      · rw [← hg, h0] at e
        injection e with e
        subst e
        exact .inr ⟨69, cur, hh, by simp⟩
theorem fork_info : (Try.prog.info? 69).map (fun i => (i.zero, i.size, i.bytes)) = some (some (.agg #[.int .i64 0, .int .i64 0, .int .i64 0, .int .i64 0, .int .i64 0, .int .i64 0, .int .i64 0, .int .i64 0, .int .i64 0]), 9, 72) := by kernel_rfl
set_option maxRecDepth 100000 in
set_option maxHeartbeats 2000000 in
theorem fs_pushfork (ws : World) (pe p p2 p3 : Nat) (d g : Option Nat) (D : List Ent) (idx lim : Int) (fr : List (Int × Int × Int)) (wr : World) (pc : Int) (h : Fks ws pe p p2 p3 d g D idx lim fr wr) (hn : fr.length ≤ 1048576) :
    Calls Try.prog 21 #[.pointer (some ⟨pe, 0, none⟩), .int .i64 pc] wr fun e w' => e = NoEnd ∧ (∃ g', Fks ws pe p p2 p3 d g' D idx (max idx lim) (fr ++ [(pc, idx, lim)]) w') ∧ FKeep wr w' := by
  obtain ⟨hc1, hc2, hc3, hc9, hc10, hpe⟩ := h.c1
  have H := Lib.hid h
  clear h
  go_enter Try.func21, Try.ntmps21
  go_wp2_with fail
  go_region
  all_goals go_wp2_with fail
  have HP := Lib.hid (PF.start H.out #[.int .i64 pc, .int .i64 0, .int .i64 0, .int .i64 0, .int .i64 0, .int .i64 0, .int .i64 0, .int .i64 0, .int .i64 0] 1)
  refine (save_any _ _ p d D idx lim HP.out.fs.stk).mono ?_
  rintro e w2 ⟨rfl, hs2, ht2⟩
  have HP2 := Lib.hid (HP.out.stk hs2 ht2)
  obtain ⟨e1, e2, e3, e9, e10, e11⟩ := HP2.out.fs.c1
  have f1 := HP2.out.row.free 1
  have f2 := HP2.out.row.free 2
  have v1 := HP2.out.row.cell 1
  have v2 := HP2.out.row.cell 2
  simp only [List.getElem?_toArray, List.getElem?_cons_succ, List.getElem?_cons_zero] at v1 v2
  have lb2 := HP2.out.row.lt
  clear hs2 ht2 HP hc1 hc2 hc3 hc9 hc10
  go_wp2_with fail
  have hp3 := (HP2.out.put 1 (.int .i64 idx)).put 2 (.int .i64 lim)
  simp only [List.setIfInBounds_toArray, List.set_cons_zero, List.set_cons_succ] at hp3
  refine (scope_save _ p3 _ _ _ hp3.fs.scopes).mono ?_
  rintro e w3 ⟨rfl, n3, rfl⟩
  have HP3 := Lib.hid (hp3.drewN n3)
  clear hp3 HP2 v1 v2 f1 f2 lb2 e1 e2 e3 e9 e10 e11
  obtain ⟨w3, hw3⟩ : ∃ w3, w3 = ((w2.setCell ⟨wr.heap.size, 1, none⟩ (.int .i64 idx)).setCell ⟨wr.heap.size, 2, none⟩ (.int .i64 lim)).drewN n3 := ⟨_, rfl⟩
  rw [← hw3] at HP3 ⊢
  clear hw3
  obtain ⟨e1, e2, e3, e9, e10, e11⟩ := HP3.out.fs.c1
  have f1 := HP3.out.row.free 3
  have f2 := HP3.out.row.free 4
  have v1 := HP3.out.row.cell 3
  have v2 := HP3.out.row.cell 4
  simp only [List.getElem?_toArray, List.getElem?_cons_succ, List.getElem?_cons_zero] at v1 v2
  have lb2 := HP3.out.row.lt
  go_wp2_with fail
  have hp4 := (HP3.out.put 3 (.int .i64 (-1))).put 4 (.int .i64 (-1))
  simp only [List.setIfInBounds_toArray, List.set_cons_zero, List.set_cons_succ] at hp4
  refine (save_any _ _ p2 none [] (-1) (-1) hp4.fs.paths).mono ?_
  rintro e w4 ⟨rfl, hs4, ht4⟩
  have HP4 := Lib.hid (hp4.paths hs4 ht4)
  clear hp4 HP3 v1 v2 f1 f2 lb2 e1 e2 e3 e9 e10 e11 hs4 ht4
  obtain ⟨e1, e2, e3, e9, e10, e11⟩ := HP4.out.fs.c1
  have f1 := HP4.out.row.free 5
  have f2 := HP4.out.row.free 6
  have v0 := HP4.out.row.cell 0
  have v1 := HP4.out.row.cell 1
  have v2 := HP4.out.row.cell 2
  have v3 := HP4.out.row.cell 3
  have v4 := HP4.out.row.cell 4
  have v5 := HP4.out.row.cell 5
  have v6 := HP4.out.row.cell 6
  have v7 := HP4.out.row.cell 7
  have v8 := HP4.out.row.cell 8
  simp only [List.getElem?_toArray, List.getElem?_cons_succ, List.getElem?_cons_zero] at v0 v1 v2 v3 v4 v5 v6 v7 v8
  have lb2 := HP4.out.row.lt
  go_wp2_with fail
  have hp5 := (HP4.out.put 5 (.int .i64 (-1))).put 6 (.int .i64 (-1))
  simp only [List.setIfInBounds_toArray, List.set_cons_zero, List.set_cons_succ] at hp5
  have HP5 := Lib.hid hp5
  clear hp5 HP4 v0 v1 v2 v3 v4 v5 v6 v7 v8 f1 f2 lb2 e1 e2 e3 e9 e10 e11
  obtain ⟨w5, hw5⟩ : ∃ w5, w5 = (w4.setCell ⟨wr.heap.size, 5, none⟩ (.int .i64 (-1))).setCell ⟨wr.heap.size, 6, none⟩ (.int .i64 (-1)) := ⟨_, rfl⟩
  rw [← hw5] at HP5 ⊢
  clear hw5
  have v0 := HP5.out.row.cell 0
  have v1 := HP5.out.row.cell 1
  have v2 := HP5.out.row.cell 2
  have v3 := HP5.out.row.cell 3
  have v4 := HP5.out.row.cell 4
  have v5 := HP5.out.row.cell 5
  have v6 := HP5.out.row.cell 6
  have v7 := HP5.out.row.cell 7
  have v8 := HP5.out.row.cell 8
  simp only [List.getElem?_toArray, List.getElem?_cons_succ, List.getElem?_cons_zero] at v0 v1 v2 v3 v4 v5 v6 v7 v8
  have lb2 := HP5.out.row.lt
  obtain ⟨cs, Af, cap, q1, q2, q3, q4, q5, q6, q7, ho, hg⟩ := HP5.out.fs.env
  have e7 := (q1.cell 7).trans q5
  have e11 := q1.lt
  have HE := Lib.hid q1
  have HQ5 := Lib.hid q5
  have HO := Lib.hid ho
  have HG := Lib.hid hg
  have hws := HP5.out.fs.below.size
  clear q1 q2 q3 q4 q5 q6 q7 ho hg
  obtain ⟨i0, hi0, hz0, hz1, hz2⟩ := info_parts fork_info
  have HI := Lib.hid hi0
  have HZ0 := Lib.hid hz0
  have HZ1 := Lib.hid hz1
  have HZ2 := Lib.hid hz2
  clear hi0 hz0 hz1 hz2
  go_region_law ((refine step_append_lies _ (by rfl) (.tmp 49) (.tmp 51) 47 (by rfl) ws.heap.size 69 i0 _ 9 72 Try.underlying47 HI.out HZ0.out HZ1.out HZ2.out rfl (by omega) (.slice Af fr.length cap) fr.length (frks fr) (by simp [Act.eval]) (HO.out.drew.alloc _) ⟨w5.heap.size, 0, none⟩ 1 1 (frk (pc, idx, lim)) (by simp [Act.eval]) rfl (World.news_of_block (cs := (frk (pc, idx, lim)).toArray) (t := 69) (fr := (0, 0)) (Row.made _ _ _)) (by simp [Value.oneCell', frk]) (by omega) (by simp only [maxLen]; omega) (by omega) (by simp; omega) _ rfl ?_); intro g2 cap2 w6 hown hgrow hat hlt3; have hne := own_ne HO.out HE.out (by decide); have d0 := (hgrow.block pe (by show pe < (w5.drew.alloc _).heap.size; simp; omega) (Ne.symm hne)).trans (HE.out.drew.alloc _); have y7 := (M.Row.cell d0 7).trans HQ5.out; have z7 := M.Row.free d0 7; have lpe := M.Row.lt d0; have HD := Lib.hid d0; have HOWN := Lib.hid hown; have HGROW := Lib.hid hgrow; clear d0 hown hgrow hat)
  all_goals
    have HF := Lib.hid (forked_end HP5.out.fs HE.out HQ5.out HO.out HG.out HD.out HOWN.out HGROW.out HP5.out.keep)
    go_wp2_with (first | (go_at_call 31; go_in) | fail)
    all_goals (try go_end0)
    all_goals (try go_wp2_with (first | (go_at_call 31; go_in) | fail))
    all_goals (try go_end0)
    all_goals exact ⟨rfl, ⟨_, HF.out.1⟩, HF.out.2⟩
end Go.Proofs.Ytohgcoepdfhbmaa
