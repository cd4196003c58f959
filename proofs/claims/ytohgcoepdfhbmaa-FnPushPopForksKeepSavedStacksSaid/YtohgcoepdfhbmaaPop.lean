/-
  Contracts of the seat n001_96: popfork.
-/
import Derived.Test.YtohgcoepdfhbmaaPsh
import Derived.StillTailTactics
namespace Go.Proofs.Ytohgcoepdfhbmaa
set_option linter.unusedVariables false
set_option linter.unusedSimpArgs false
open Go.ChangeShapes Go.WideShapes Go.ChangeAt Go.RowKit M
theorem Row.made' {w : World} {n : Nat} (t : TypeId) (cs : Array Value) (h : w.heap.size = n) : Row (w.alloc (.cells cs t)) n t cs := by
  subst h
  exact Row.made _ _ _
theorem frks_last {w : World} {B g0 cap n : Nat} {fr : List (Int × Int × Int)} {f : Int × Int × Int} (hn : fr.length = n) (ho : w.ownsRow B 69 9 (.slice (some ⟨g0, 0, none⟩) (n + 1) cap) (n + 1) (frks (fr ++ [f]))) (j : Nat) (hj : j < 9) : w.cell? ⟨g0, n * 9 + j, none⟩ = (frk f)[j]? := by
  rw [ho.cellAt (n * 9 + j) (by omega), frks_snoc, List.getElem?_append_right (by rw [frks_length]; omega), frks_length, hn, Nat.add_sub_cancel_left]
theorem popped_end {ws wr w1 : World} {pe p p2 p3 b g0 cap n : Nat} {d g : Option Nat} {D : List Ent} {idx lim : Int} {fr : List (Int × Int × Int)} {f : Int × Int × Int} {cs cells : Array Value} (h : PF ws pe p p2 p3 d g D idx lim (fr ++ [f]) wr b cells w1)
    (he : Row w1 pe 50 cs) (h7 : cs[7]? = some (.slice (some ⟨g0, 0, none⟩) (n + 1) cap)) (ho : w1.ownsRow ws.heap.size 69 9 (.slice (some ⟨g0, 0, none⟩) (n + 1) cap) (n + 1) (frks (fr ++ [f]))) (hg : (Value.slice (some ⟨g0, 0, none⟩) (n + 1) cap).ownBlock = g) (hn : fr.length = n) :
    PF ws pe p p2 p3 d g D idx lim fr wr b cells (((w1.setCell ⟨pe, 7, none⟩ (.slice (some ⟨g0, 0, none⟩) n cap)).setCell ⟨pe, 9, none⟩ (.int .i64 0)).setCell ⟨pe, 10, none⟩ (.int .i64 0)).drew := by
  have hf := h.fs
  obtain ⟨cs', Af', cap', q1, q2, q3, q4, q5, q6, q7, _, _⟩ := h.fs.env
  have hcc : cs = cs' := by
    unfold Row at he q1
    rw [he] at q1
    injection q1 with q1
    injection q1
  subst hcc
  have tf : Touch (· = pe) w1 (((w1.setCell ⟨pe, 7, none⟩ (.slice (some ⟨g0, 0, none⟩) n cap)).setCell ⟨pe, 9, none⟩ (.int .i64 0)).setCell ⟨pe, 10, none⟩ (.int .i64 0)).drew := ((((Touch.refl _ _).setP _ _).setP _ _).setP _ _).drew
  have n1 := h.fs.stk.ne he (by decide) (by decide)
  have n2 := h.fs.paths.ne he (by decide) (by decide)
  have n3 : p3 ≠ pe := by
    rintro rfl
    have h8 := h.fs.scopes
    unfold Row at he h8
    rw [he] at h8
    injection h8 with h8
    injection h8 with _ h8
    exact absurd h8 (by decide)
  have z7 : 10 < cs.size := (Array.getElem?_eq_some_iff.1 q7).1
  have rw1 := ((he.put 7 (.slice (some ⟨g0, 0, none⟩) n cap)).put 9 (.int .i64 0)).put 10 (.int .i64 0)
  rw [frks_snoc] at ho
  have hop : w1.ownsRow ws.heap.size 69 9 (.slice (some ⟨g0, 0, none⟩) n cap) n (frks fr) := ownsRow_pop (by rw [frks_length, hn]) ho
  have hwt := own_touch hop tf (fun k hk hs => by subst hs; exact own_ne hop he (by decide) hk)
  subst hn
  refine ⟨⟨h.fs.stk.touch tf (fun e => n1.1 e.symm) (fun k hk e => by subst e; exact n1.2 hk), ⟨_, some ⟨g0, 0, none⟩, cap, rw1.drew, ?_, ?_, ?_, ?_, ?_, ?_, hwt, hg⟩, h.fs.paths.touch tf (fun e => n2.1 e.symm) (fun k hk => by cases hk), h.fs.scopes.touch tf n3, h.fs.ne, h.fs.lo, h.fs.below.trans (tf.below h.fs.below.size (fun k hk e => by have := h.fs.lo.1; omega))⟩, h.row.touch tf h.ap.2.1, h.keep.touch tf (fun k e => .inr ⟨50, _, e ▸ he, by simp⟩), h.ap, h.new⟩
  all_goals simp only [Array.getElem?_setIfInBounds, Array.size_setIfInBounds]
  · simpa using q2
  · simpa using q3
  · simpa using q4
  · simp; omega
  · simp; omega
  · simp; omega
set_option maxRecDepth 100000 in
set_option maxHeartbeats 2000000 in
theorem fs_popfork (ws : World) (pe p p2 p3 : Nat) (d g : Option Nat) (D : List Ent) (idx lim : Int) (fr : List (Int × Int × Int)) (wr : World) (pc i0 m0 : Int) (h : Fks ws pe p p2 p3 d g D idx lim (fr ++ [(pc, i0, m0)]) wr) (hn : fr.length ≤ 1048576) :
    Calls Try.prog 32 #[.pointer (some ⟨pe, 0, none⟩)] wr fun e w' => e = .returned (.int .i64 pc) ∧ Fks ws pe p p2 p3 d g D i0 m0 fr w' ∧ FKeep wr w' := by
  obtain ⟨hc1, hc2, hc3, hc9, hc10, hpe⟩ := h.c1
  have H := Lib.hid h
  obtain ⟨cs, Af, cap, q1, q2, q3, q4, q5, q6, q7, ho, hg⟩ := h.env
  obtain ⟨n, hnn⟩ : ∃ n, fr.length = n := ⟨_, rfl⟩
  have hlen : (fr ++ [(pc, i0, m0)]).length = n + 1 := by simp [hnn]
  rw [hlen] at q5 ho hg
  obtain ⟨g0, cap', hv, hgB, hgl⟩ := ho.form (by omega)
  injection hv with hA _ hcp
  subst hA hcp
  have v0 := frks_last hnn ho 0 (by omega)
  have v1 := frks_last hnn ho 1 (by omega)
  have v2 := frks_last hnn ho 2 (by omega)
  have v3 := frks_last hnn ho 3 (by omega)
  have v4 := frks_last hnn ho 4 (by omega)
  have v5 := frks_last hnn ho 5 (by omega)
  have v6 := frks_last hnn ho 6 (by omega)
  have v7 := frks_last hnn ho 7 (by omega)
  have v8 := frks_last hnn ho 8 (by omega)
  simp only [frk, List.getElem?_cons_succ, List.getElem?_cons_zero, Nat.add_zero] at v0 v1 v2 v3 v4 v5 v6 v7 v8
  have e7 := (q1.cell 7).trans q5
  have z7 := q1.free 7
  have z9 := q1.free 9
  have z10 := q1.free 10
  have HE := Lib.hid q1
  have HQ5 := Lib.hid q5
  have HO := Lib.hid ho
  have HG := Lib.hid hg
  have hn2 : n ≤ 1048576 := by omega
  clear h q1 q2 q3 q4 q5 q6 q7 ho hg hlen
  go_enter Try.func32, Try.ntmps32
  go_wp2_with (first | (go_at_call 31; go_in) | fail)
  go_region
  all_goals go_wp2_with (first | (go_at_call 31; go_in) | fail)
  all_goals go_end0
  have HP := Lib.hid (PF.start H.out #[.int .i64 pc, .int .i64 i0, .int .i64 m0, .int .i64 (-1), .int .i64 (-1), .int .i64 (-1), .int .i64 (-1), .int .i64 0, .int .i64 0] 1)
  have hE1 := (HE.out.alloc (.cells #[.int .i64 pc, .int .i64 i0, .int .i64 m0, .int .i64 (-1), .int .i64 (-1), .int .i64 (-1), .int .i64 (-1), .int .i64 0, .int .i64 0] 69)).drewN 1
  have hO1 : World.ownsRow ((wr.alloc (.cells #[.int .i64 pc, .int .i64 i0, .int .i64 m0, .int .i64 (-1), .int .i64 (-1), .int .i64 (-1), .int .i64 (-1), .int .i64 0, .int .i64 0] 69)).drewN 1) ws.heap.size 69 9 (.slice (some ⟨g0, 0, none⟩) (n + 1) cap) (n + 1) (frks (fr ++ [(pc, i0, m0)])) := (HO.out.alloc _).drew
  have HE1 := Lib.hid hE1
  have HO1 := Lib.hid hO1
  clear hE1 hO1 HE HO v0 v1 v2 v3 v4 v5 v6 v7 v8 hc1 hc2 hc3 hc9 hc10 e7 z7 z9 z10
  obtain ⟨w1, hw1⟩ : ∃ w1, w1 = (wr.alloc (.cells #[.int .i64 pc, .int .i64 i0, .int .i64 m0, .int .i64 (-1), .int .i64 (-1), .int .i64 (-1), .int .i64 (-1), .int .i64 0, .int .i64 0] 69)).drewN 1 := ⟨_, rfl⟩
  rw [← hw1] at HP HE1 HO1
  rw [show (wr.alloc (.cells #[.int .i64 pc, .int .i64 i0, .int .i64 m0, .int .i64 (-1), .int .i64 (-1), .int .i64 (-1), .int .i64 (-1), .int .i64 0, .int .i64 0] 69)).drew = w1 from hw1.symm]
  clear hw1
  have v0 := HP.out.row.cell 0
  have v1 := HP.out.row.cell 1
  have v2 := HP.out.row.cell 2
  have v3 := HP.out.row.cell 3
  have v4 := HP.out.row.cell 4
  have v5 := HP.out.row.cell 5
  have v6 := HP.out.row.cell 6
  have v7 := HP.out.row.cell 7
  have v8 := HP.out.row.cell 8
  simp only [List.getElem?_toArray, List.getElem?_cons_succ, List.getElem?_cons_zero] at v0 v1 v2 v3 v4 v5 v6 v7 v8
  have lb2 := HP.out.row.lt
  obtain ⟨e1, e2, e3, e9, e10, e11⟩ := HP.out.fs.c1
  have e7 := (HE1.out.cell 7).trans HQ5.out
  have z7 := HE1.out.free 7
  have z9 := HE1.out.free 9
  have z10 := HE1.out.free 10
  have hcap : n + 1 ≤ cap ∧ cap ≤ 9223372036854775807 := by
    rcases HO1.out.2 with ⟨h0, _⟩ | ⟨g', cap', cur, h0, _, _, h1, h2, _⟩
    · cases h0
    · injection h0 with _ _ h0
      subst h0
      unfold maxLen at h2
      exact ⟨h1, by omega⟩
  obtain ⟨hcap1, hcap2⟩ := hcap
  go_wp2_with fail
  go_region
  have HP2 := Lib.hid (popped_end HP.out HE1.out HQ5.out HO1.out HG.out hnn)
  clear HP HE1 HO1 v0 v1 v2 v3 v4 v5 v6 v7 v8 lb2 e1 e2 e3 e9 e10 e11 e7 z7 z9 z10
  obtain ⟨w2, hw2⟩ : ∃ w2, w2 = (((w1.setCell ⟨pe, 7, none⟩ (.slice (some ⟨g0, 0, none⟩) n cap)).setCell ⟨pe, 9, none⟩ (.int .i64 0)).setCell ⟨pe, 10, none⟩ (.int .i64 0)).drew := ⟨_, rfl⟩
  rw [← hw2] at HP2 ⊢
  clear hw2
  have v0 := HP2.out.row.cell 0
  have v1 := HP2.out.row.cell 1
  have v2 := HP2.out.row.cell 2
  have v3 := HP2.out.row.cell 3
  have v4 := HP2.out.row.cell 4
  have v5 := HP2.out.row.cell 5
  have v6 := HP2.out.row.cell 6
  simp only [List.getElem?_toArray, List.getElem?_cons_succ, List.getElem?_cons_zero] at v0 v1 v2 v3 v4 v5 v6
  have lb2 := HP2.out.row.lt
  obtain ⟨e1, e2, e3, e9, e10, e11⟩ := HP2.out.fs.c1
  go_wp2_with fail
  go_still_tail 8, (by kernel_rfl)
  change wpList _ _ _ _ _ w2.drew
  go_wp2_with fail
  refine (restore_any _ _ p d D idx lim i0 m0 (HP2.out.drewN 1).fs.stk).mono ?_
  rintro e w3 ⟨rfl, hs3, ht3⟩
  have HP3 := Lib.hid ((HP2.out.drewN 1).stk hs3 ht3)
  clear HP2 v0 v1 v2 v3 v4 v5 v6 lb2 e1 e2 e3 e9 e10 e11 hs3 ht3
  have v0 := HP3.out.row.cell 0
  have v3 := HP3.out.row.cell 3
  have v4 := HP3.out.row.cell 4
  have v5 := HP3.out.row.cell 5
  have v6 := HP3.out.row.cell 6
  simp only [List.getElem?_toArray, List.getElem?_cons_succ, List.getElem?_cons_zero] at v0 v3 v4 v5 v6
  have lb2 := HP3.out.row.lt
  obtain ⟨e1, e2, e3, e9, e10, e11⟩ := HP3.out.fs.c1
  unfold NoEnd
  go_wp2_with fail
  go_still_tail 8, (by kernel_rfl)
  change wpList _ _ _ _ _ w3.drew
  go_wp2_with fail
  refine (scope_restore _ p3 _ _ _ (HP3.out.drewN 1).fs.scopes).mono ?_
  rintro e w4 ⟨rfl, hs4, ht4⟩
  have HP4 := Lib.hid ((HP3.out.drewN 1).scopes hs4 ht4)
  clear HP3 v0 v3 v4 v5 v6 lb2 e1 e2 e3 e9 e10 e11 hs4 ht4
  have v0 := HP4.out.row.cell 0
  have v5 := HP4.out.row.cell 5
  have v6 := HP4.out.row.cell 6
  simp only [List.getElem?_toArray, List.getElem?_cons_succ, List.getElem?_cons_zero] at v0 v5 v6
  have lb2 := HP4.out.row.lt
  obtain ⟨e1, e2, e3, e9, e10, e11⟩ := HP4.out.fs.c1
  unfold NoEnd
  go_wp2_with fail
  go_still_tail 8, (by kernel_rfl)
  change wpList _ _ _ _ _ w4.drew
  go_wp2_with fail
  refine (restore_any _ _ p2 none [] (-1) (-1) (-1) (-1) (HP4.out.drewN 1).fs.paths).mono ?_
  rintro e w5 ⟨rfl, hs5, ht5⟩
  have HP5 := Lib.hid ((HP4.out.drewN 1).paths hs5 ht5)
  clear HP4 v0 v5 v6 lb2 e1 e2 e3 e9 e10 e11 hs5 ht5
  have v0 := HP5.out.row.cell 0
  simp only [List.getElem?_toArray, List.getElem?_cons_succ, List.getElem?_cons_zero] at v0
  have lb2 := HP5.out.row.lt
  unfold NoEnd
  go_wp2_with fail
  go_ret
  exact ⟨rfl, HP5.out.fs, HP5.out.keep⟩
theorem fs_popfork2 (ws : World) (pe p p2 p3 : Nat) (d g : Option Nat) (D : List Ent) (idx lim : Int) (fr : List (Int × Int × Int)) (wr : World) (pc i0 m0 : Int) (h : Fks ws pe p p2 p3 d g D idx lim (fr ++ [(pc, i0, m0)]) wr) (hn : fr.length ≤ 1048576) :
    Calls Try.prog 22 #[.pointer (some ⟨pe, 0, none⟩)] wr fun e w' => e = .returned (.int .i64 pc) ∧ Fks ws pe p p2 p3 d g D i0 m0 fr w' ∧ FKeep wr w' := by
  have H := Lib.hid h
  clear h
  go_enter Try.func22, Try.ntmps22
  go_wp2_with fail
  refine (fs_popfork ws pe p p2 p3 d g D idx lim fr _ pc i0 m0 H.out hn).mono ?_
  rintro e w' ⟨rfl, h1, h2⟩
  have H1 := Lib.hid h1
  have H2 := Lib.hid h2
  clear h1 h2
  go_wp2_with fail
  go_ret
  exact ⟨rfl, H1.out, H2.out⟩
theorem fs_pushfork2 (ws : World) (pe p p2 p3 : Nat) (d g : Option Nat) (D : List Ent) (idx lim : Int) (fr : List (Int × Int × Int)) (wr : World) (pc : Int) (h : Fks ws pe p p2 p3 d g D idx lim fr wr) (hn : fr.length ≤ 1048576) :
    Calls Try.prog 13 #[.pointer (some ⟨pe, 0, none⟩), .int .i64 pc] wr fun e w' => e = NoEnd ∧ (∃ g', Fks ws pe p p2 p3 d g' D idx (max idx lim) (fr ++ [(pc, idx, lim)]) w') ∧ FKeep wr w' := by
  have H := Lib.hid h
  clear h
  go_enter Try.func13, Try.ntmps13
  go_wp2_with fail
  refine (fs_pushfork ws pe p p2 p3 d g D idx lim fr _ pc H.out hn).mono ?_
  rintro e w' ⟨rfl, h1, h2⟩
  have H1 := Lib.hid h1
  have H2 := Lib.hid h2
  clear h1 h2
  unfold NoEnd
  go_wp2_with fail
  go_end0
  exact ⟨rfl, H1.out, H2.out⟩
theorem fs_new (w : World) : Calls Try.prog 8 #[] w fun e w' => ∃ pe p2 p3, e = .returned (.pointer (some ⟨pe, 0, none⟩)) ∧ Fks w pe w.heap.size p2 p3 none none [] (-1) (-1) [] w' := by
  go_enter Try.func8, Try.ntmps8
  go_wp2_with (first | (go_at_call 17; go_in) | (go_at_call 16; go_in) | (go_at_call 26; go_in) | fail)
  refine (new_stack _).mono ?_
  rintro e w1 ⟨rfl, hs1, hb1⟩
  have H1 := Lib.hid hs1
  have B1 := Lib.hid hb1
  clear hs1 hb1
  go_wp2_with (first | (go_at_call 17; go_in) | (go_at_call 16; go_in) | (go_at_call 26; go_in) | fail)
  refine (new_stack _).mono ?_
  rintro e w2 ⟨rfl, hs2, hb2⟩
  have H2 := Lib.hid hs2
  have B2 := Lib.hid hb2
  clear hs2 hb2
  go_wp2_with (first | (go_at_call 17; go_in) | (go_at_call 16; go_in) | (go_at_call 26; go_in) | fail)
  go_ret
  refine ⟨w2.heap.size + 1, w1.heap.size, w2.heap.size, rfl, ?_⟩
  have key : ∀ cs : Array Value, cs[1]? = some (.pointer (some ⟨w.heap.size, 0, none⟩)) → cs[2]? = some (.pointer (some ⟨w1.heap.size, 0, none⟩)) → cs[3]? = some (.pointer (some ⟨w2.heap.size, 0, none⟩)) → cs[7]? = some (.slice none 0 0) → cs[9]? = some (.int .i64 0) → cs[10]? = some (.int .i64 0) →
      Fks w (w2.heap.size + 1) w.heap.size w1.heap.size w2.heap.size none none [] (-1) (-1) [] ((w2.alloc (.cells #[.slice none 0 0, .int .i64 (-1), .int .i64 (-1)] 76)).alloc (.cells cs 50)) := by
    intro cs c1 c2 c3 c7 c9 c10
    have z1 := B1.out.size
    have z2 := B2.out.size
    have b3 : Below w2.heap.size w2 ((w2.alloc (.cells #[.slice none 0 0, .int .i64 (-1), .int .i64 (-1)] 76)).alloc (.cells cs 50)) := ((Below.refl _ _).alloc (Nat.le_refl _) _).alloc (by simp) _
    have s1 := H1.out.lt
    have sl : Stk ((w2.alloc (.cells #[.slice none 0 0, .int .i64 (-1), .int .i64 (-1)] 76)).alloc (.cells cs 50)) w1.heap.size w1.heap.size none [] (-1) (-1) := H2.out.touch (Touch.of_below b3 (fun _ => False)) (fun h => h) (fun _ _ h => h)
    refine ⟨(H1.out.touch (Touch.of_below B2.out (fun _ => False)) (fun h => h) (fun _ _ h => h)).touch (Touch.of_below b3 (fun _ => False)) (fun h => h) (fun _ _ h => h), ⟨cs, none, 0, Row.made' 50 cs (by simp), c1, c2, c3, c7, c9, c10, World.ownsRow_nil _ _ _ _, rfl⟩, ?_, (Row.made w2 76 _).alloc _, by omega, ⟨by omega, by omega⟩, (B1.out.trans (B2.out.mono z1)).trans (b3.mono (by omega))⟩
    obtain ⟨A, c, hr, hB, ho, hd⟩ := sl
    exact ⟨A, c, hr, by omega, ⟨ho.1, by
      rcases ho.2 with h2 | ⟨g', cap', cur, hv, hb, r⟩
      · exact .inl h2
      · exact .inr ⟨g', cap', cur, hv, by omega, r⟩⟩, hd⟩
  exact key _ rfl rfl rfl rfl rfl rfl
end Go.Proofs.Ytohgcoepdfhbmaa
