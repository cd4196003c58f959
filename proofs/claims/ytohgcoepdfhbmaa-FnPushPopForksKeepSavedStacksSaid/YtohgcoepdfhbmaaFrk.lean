/-
  Contracts of the seat n001_96: the interpreter's state with its forks, the stack's entries known ('Fks').
-/
import Derived.Test.YtohgcoepdfhbmaaBase
namespace Go.Proofs.Ytohgcoepdfhbmaa
set_option linter.unusedVariables false
set_option linter.unusedSimpArgs false
open Go.ChangeShapes Go.WideShapes Go.ChangeAt Go.RowKit M
/-- A fork's cells: pc, the stack's index and limit; the scopes' and the paths' stand empty. -/
def frk (f : Int × Int × Int) : List Value := [.int .i64 f.1, .int .i64 f.2.1, .int .i64 f.2.2, .int .i64 (-1), .int .i64 (-1), .int .i64 (-1), .int .i64 (-1), .int .i64 0, .int .i64 0]
def frks (l : List (Int × Int × Int)) : List Value := l.flatMap frk
theorem frks_snoc (l : List (Int × Int × Int)) (f : Int × Int × Int) : frks (l ++ [f]) = frks l ++ frk f := by simp [frks]
theorem frks_length : ∀ l : List (Int × Int × Int), (frks l).length = l.length * 9
  | [] => rfl
  | f :: r => by
    have := frks_length r
    simp only [frks, List.flatMap_cons, List.length_append, List.length_cons] at this ⊢
    rw [this]
    show 9 + _ = _
    omega
theorem Touch.row {S : Nat → Prop} {w w' : World} {g : Nat} {t : TypeId} {cs : Array Value} (ht : Touch S w w') (h : Row w g t cs) (hn : ¬ S g) : Row w' g t cs := (ht.block g h.lt hn).trans h
theorem own_apart {w : World} {b e s n b' e' s' n' : Nat} {v v' : Value} {xs xs' : List Value} (h : w.ownsRow b e s v n xs) (h' : w.ownsRow b' e' s' v' n' xs') (hne : e ≠ e') : ∀ k, v.ownBlock = some k → v'.ownBlock ≠ some k := by
  rcases h.2 with ⟨rfl, _⟩ | ⟨g', cap, cur, rfl, _, hg, _⟩
  · intro k hk; cases hk
  · intro k hk
    obtain rfl : g' = k := by simpa [Value.ownBlock] using hk
    exact own_ne h' (show Row w g' e cur from hg) (Ne.symm hne)
/-- The state at block pe: its stack at p holds the entries D, its forks fr (the first first) lie in block g; the paths' stack at p2 and the scopes' at p3 are empty; nothing below ws's end has turned. -/
structure Fks (ws : World) (pe p p2 p3 : Nat) (d g : Option Nat) (D : List Ent) (idx lim : Int) (fr : List (Int × Int × Int)) (wr : World) : Prop where
  stk : Stk wr ws.heap.size p d D idx lim
  env : ∃ cs Af cap, Row wr pe 50 cs ∧ cs[1]? = some (.pointer (some ⟨p, 0, none⟩)) ∧ cs[2]? = some (.pointer (some ⟨p2, 0, none⟩)) ∧ cs[3]? = some (.pointer (some ⟨p3, 0, none⟩)) ∧
    cs[7]? = some (.slice Af fr.length cap) ∧ cs[9]? = some (.int .i64 0) ∧ cs[10]? = some (.int .i64 0) ∧ wr.ownsRow ws.heap.size 69 9 (.slice Af fr.length cap) fr.length (frks fr) ∧ (Value.slice Af fr.length cap).ownBlock = g
  paths : Stk wr ws.heap.size p2 none [] (-1) (-1)
  scopes : Row wr p3 76 #[.slice none 0 0, .int .i64 (-1), .int .i64 (-1)]
  ne : p ≠ p2
  lo : ws.heap.size ≤ pe ∧ ws.heap.size ≤ p3
  below : Below ws.heap.size ws wr
section
variable {ws wr w' : World} {pe p p2 p3 : Nat} {d g : Option Nat} {D : List Ent} {idx lim : Int} {fr : List (Int × Int × Int)}
theorem Fks.glt (h : Fks ws pe p p2 p3 d g D idx lim fr wr) : ∀ k, g = some k → ws.heap.size ≤ k ∧ k < wr.heap.size := by
  obtain ⟨cs, Af, cap, _, _, _, _, _, _, _, ho, hg⟩ := h.env
  subst hg
  exact fun k hk => ho.lt k hk
/-- A block touched that is none of the state's. -/
theorem Fks.other {S : Nat → Prop} (h : Fks ws pe p p2 p3 d g D idx lim fr wr) (ht : Touch S wr w') (hS : ∀ k, S k → ws.heap.size ≤ k ∧ k ≠ pe ∧ k ≠ p ∧ k ≠ p2 ∧ k ≠ p3 ∧ d ≠ some k ∧ g ≠ some k) : Fks ws pe p p2 p3 d g D idx lim fr w' := by
  obtain ⟨cs, Af, cap, h1, h2, h3, h4, h5, h6, h7, ho, hg⟩ := h.env
  exact ⟨h.stk.touch ht (fun hs => (hS _ hs).2.2.1 rfl) (fun k hk hs => (hS _ hs).2.2.2.2.2.1 hk),
    ⟨cs, Af, cap, h1.touch ht (fun hs => (hS _ hs).2.1 rfl), h2, h3, h4, h5, h6, h7, own_touch ho ht (fun k hk hs => (hS _ hs).2.2.2.2.2.2 (hg ▸ hk)), hg⟩,
    h.paths.touch ht (fun hs => (hS _ hs).2.2.2.1 rfl) (fun k hk => by cases hk), h.scopes.touch ht (fun hs => (hS _ hs).2.2.2.2.1 rfl), h.ne, h.lo, h.below.trans (ht.below h.below.size (fun k hk hs => by have := (hS _ hs).1; omega))⟩
theorem Fks.keep (h : Fks ws pe p p2 p3 d g D idx lim fr wr) (hb : Below wr.heap.size wr w') : Fks ws pe p p2 p3 d g D idx lim fr w' :=
  h.other (Touch.of_below hb (fun _ => False)) (fun _ hk => hk.elim)
/-- The stack turned, alone. -/
theorem Fks.stk' {d' : Option Nat} {D' : List Ent} {idx' lim' : Int} (h : Fks ws pe p p2 p3 d g D idx lim fr wr) (hs : Stk w' ws.heap.size p d' D' idx' lim') (ht : Touch (fun k => k = p ∨ d = some k) wr w') : Fks ws pe p p2 p3 d' g D' idx' lim' fr w' := by
  obtain ⟨cs, Af, cap, h1, h2, h3, h4, h5, h6, h7, ho, hg⟩ := h.env
  obtain ⟨A, c, hp, hB, hod, hd⟩ := h.stk
  obtain ⟨n1, n2⟩ := h.stk.ne h1 (by decide) (by decide)
  obtain ⟨n3, n4⟩ := h.stk.ne h.scopes (by decide) (by decide)
  obtain ⟨A2, c2, hp2, hB2, ho2, hd2⟩ := h.paths
  have n5 : d ≠ some p2 := by rw [← hd]; exact own_ne hod hp2 (by decide)
  refine ⟨hs, ⟨cs, Af, cap, h1.touch ht (fun h => h.elim n1 n2), h2, h3, h4, h5, h6, h7, own_touch ho ht (fun k hk hs => ?_), hg⟩, h.paths.touch ht (fun hk => hk.elim (fun e => h.ne e.symm) n5) (fun k hk => by cases hk), h.scopes.touch ht (fun h => h.elim n3 n4), h.ne, h.lo, h.below.trans (ht.below h.below.size (fun k hk hs => ?_))⟩
  · rcases hs with rfl | hs
    · exact own_ne ho hp (by decide) hk
    · exact own_apart ho hod (by decide) k hk (by rw [hd]; exact hs)
  · rcases hs with rfl | hs
    · omega
    · subst hs
      have := h.stk.dlt.1
      omega
theorem Fks.paths' (h : Fks ws pe p p2 p3 d g D idx lim fr wr) (hs : Stk w' ws.heap.size p2 none [] (-1) (-1)) (ht : Touch (· = p2) wr w') : Fks ws pe p p2 p3 d g D idx lim fr w' := by
  obtain ⟨cs, Af, cap, h1, h2, h3, h4, h5, h6, h7, ho, hg⟩ := h.env
  obtain ⟨A, c, hp, hB, hod, hd⟩ := h.stk
  obtain ⟨A2, c2, hp2, hB2, ho2, hd2⟩ := h.paths
  have n1 := (h.paths.ne h1 (by decide) (by decide)).1
  have n3 := (h.paths.ne h.scopes (by decide) (by decide)).1
  refine ⟨h.stk.touch ht h.ne (fun k hk e => ?_), ⟨cs, Af, cap, h1.touch ht n1, h2, h3, h4, h5, h6, h7, own_touch ho ht (fun k hk hs => ?_), hg⟩, hs, h.scopes.touch ht n3, h.ne, h.lo, h.below.trans (ht.below h.below.size (fun k hk hs => by omega))⟩
  · subst e
    rw [← hd] at hk
    exact own_ne hod hp2 (by decide) hk
  · subst hs
    exact own_ne ho hp2 (by decide) hk
theorem Fks.scopes' (h : Fks ws pe p p2 p3 d g D idx lim fr wr) (hs : Row w' p3 76 #[.slice none 0 0, .int .i64 (-1), .int .i64 (-1)]) (ht : Touch (· = p3) wr w') : Fks ws pe p p2 p3 d g D idx lim fr w' := by
  obtain ⟨cs, Af, cap, h1, h2, h3, h4, h5, h6, h7, ho, hg⟩ := h.env
  have hlo := h.lo.2
  refine ⟨h.stk.touch ht (fun e => (h.stk.ne h.scopes (by decide) (by decide)).1 e.symm) (fun k hk e => ?_), ⟨cs, Af, cap, h1.touch ht ?_, h2, h3, h4, h5, h6, h7, own_touch ho ht (fun k hk hs => ?_), hg⟩, h.paths.touch ht (fun e => (h.paths.ne h.scopes (by decide) (by decide)).1 e.symm) (fun k hk => by cases hk), hs, h.ne, h.lo, h.below.trans (ht.below h.below.size (fun k hk hs => by omega))⟩
  · subst e
    exact (h.stk.ne h.scopes (by decide) (by decide)).2 hk
  · rintro rfl
    have h8 := h.scopes
    unfold Row at h1 h8
    rw [h1] at h8
    injection h8 with h8
    injection h8 with _ h8
    exact absurd h8 (by decide)
  · subst hs
    exact own_ne ho h.scopes (by decide) hk
theorem Fks.c1 (h : Fks ws pe p p2 p3 d g D idx lim fr wr) : wr.cell? ⟨pe, 1, none⟩ = some (.pointer (some ⟨p, 0, none⟩)) ∧ wr.cell? ⟨pe, 2, none⟩ = some (.pointer (some ⟨p2, 0, none⟩)) ∧ wr.cell? ⟨pe, 3, none⟩ = some (.pointer (some ⟨p3, 0, none⟩)) ∧ wr.cell? ⟨pe, 9, none⟩ = some (.int .i64 0) ∧ wr.cell? ⟨pe, 10, none⟩ = some (.int .i64 0) ∧ pe < wr.heap.size := by
  obtain ⟨cs, Af, cap, h1, h2, h3, h4, h5, h6, h7, ho, hg⟩ := h.env
  exact ⟨(h1.cell 1).trans h2, (h1.cell 2).trans h3, (h1.cell 3).trans h4, (h1.cell 9).trans h6, (h1.cell 10).trans h7, h1.lt⟩
theorem Fks.apart (h : Fks ws pe p p2 p3 d g D idx lim fr wr) {k : Nat} (hk : wr.heap.size ≤ k) : ws.heap.size ≤ k ∧ k ≠ pe ∧ k ≠ p ∧ k ≠ p2 ∧ k ≠ p3 ∧ d ≠ some k ∧ g ≠ some k := by
  have a1 := h.c1.2.2.2.2.2
  have a2 := h.stk.lt
  have a3 := h.paths.lt
  have a4 := h.scopes.lt
  have a5 := h.lo
  refine ⟨by omega, by omega, by omega, by omega, by omega, ?_, ?_⟩
  · rintro rfl
    have := h.stk.dlt
    omega
  · intro e
    have := h.glt k e
    omega
end
/-- What the interpreter's calls leave: every block of another type. -/
def FKeep (wr w' : World) : Prop := ∀ k t cs, Row wr k t cs → t ≠ 67 → t ≠ 78 → t ≠ 50 → t ≠ 69 → t ≠ 76 → Row w' k t cs
theorem FKeep.trans {a b c : World} (h : FKeep a b) (k : FKeep b c) : FKeep a c := fun x t cs hr h1 h2 h3 h4 h5 => k x t cs (h x t cs hr h1 h2 h3 h4 h5) h1 h2 h3 h4 h5
theorem FKeep.refl (a : World) : FKeep a a := fun x t cs hr _ _ _ _ _ => hr
theorem FKeep.below {a b : World} (h : Below a.heap.size a b) : FKeep a b := fun x t cs hr _ _ _ _ _ => hr.keep h hr.lt
theorem Fks.fkeep {ws wr w' : World} {pe p p2 p3 : Nat} {d g : Option Nat} {D : List Ent} {idx lim : Int} {fr : List (Int × Int × Int)} (h : Fks ws pe p p2 p3 d g D idx lim fr wr) (ht : Touch (fun k => k = p ∨ d = some k) wr w') : FKeep wr w' := by
  intro k t cs hr h1 h2 _ _ _
  obtain ⟨m1, m2⟩ := h.stk.ne hr (Ne.symm h1) (Ne.symm h2)
  exact hr.touch ht (fun h => h.elim m1 m2)
section
variable (ws : World) (pe p p2 p3 : Nat) (d g : Option Nat) (D : List Ent) (idx lim : Int) (fr : List (Int × Int × Int)) (wr : World)
theorem fs_push (h : Fks ws pe p p2 p3 d g D idx lim fr wr) (hi0 : -1 ≤ idx) (hl0 : -1 ≤ lim) (hi : idx < D.length) (hl : lim < D.length) (hN : D.length ≤ 1048576) (v : Int) :
    Calls Try.prog 10 #[.pointer (some ⟨pe, 0, none⟩), .int .i64 v] wr fun e w' => e = NoEnd ∧ (∃ d', Fks ws pe p p2 p3 d' g (pushD D (max idx lim + 1).toNat (2, .int .i64 v, idx)) (max idx lim + 1) lim fr w') ∧ FKeep wr w' := by
  have hc := h.c1.1
  have H := Lib.hid h
  clear h
  go_enter Try.func10, Try.ntmps10
  go_wp2_with (first | (go_at_call 19; go_in) | fail)
  refine (push_any _ _ p d D idx lim 2 (.int .i64 v) H.out.stk hi0 hl0 hi hl hN).mono ?_
  rintro e w' ⟨rfl, d', hs', hd', ht⟩
  have HE := Lib.hid (H.out.stk' hs' ht)
  have HK := Lib.hid (H.out.fkeep ht)
  clear hs' hd' ht
  unfold NoEnd
  go_wp2
  go_end0
  go_wp2
  go_end0
  exact ⟨rfl, ⟨d', HE.out⟩, HK.out⟩
theorem fs_pop (k : Nat) (v nx : Int) (h : Fks ws pe p p2 p3 d g D k lim fr wr) (hd : D[k]? = some (2, .int .i64 v, nx)) :
    Calls Try.prog 11 #[.pointer (some ⟨pe, 0, none⟩)] wr fun e w' => e = .returned (.tuple #[.int .i64 v, .bool true]) ∧ Fks ws pe p p2 p3 d g D nx lim fr w' ∧ FKeep wr w' := by
  have hc := h.c1.1
  have H := Lib.hid h
  have HD := Lib.hid hd
  clear h hd
  go_enter Try.func11, Try.ntmps11
  go_wp2_with (first | (go_at_call 20; go_in) | fail)
  refine (pop_any _ _ p d D lim k H.out.stk _ HD.out).mono ?_
  rintro e w' ⟨rfl, hs, ht⟩
  have ht' := ht.mono (T := fun k => k = p ∨ d = some k) (fun k _ h => .inl h)
  have HE := Lib.hid (H.out.stk' hs ht')
  have HK := Lib.hid (H.out.fkeep ht')
  clear hs ht ht'
  go_wp2
  go_ret2
  exact ⟨rfl, HE.out, HK.out⟩
theorem fs_empty (h : Fks ws pe p p2 p3 d g D idx lim fr wr) : Calls Try.prog 9 #[.pointer (some ⟨pe, 0, none⟩)] wr fun e w' => e = .returned (.bool (decide (idx < 0))) ∧ wr = w' := by
  have hc := h.c1.1
  have H := Lib.hid h
  clear h
  go_enter Try.func9, Try.ntmps9
  go_wp2_with fail
  refine (empty_any _ _ p d D idx lim H.out.stk).mono ?_
  rintro e w' ⟨rfl, rfl⟩
  go_wp2
  go_ret
  exact ⟨rfl, rfl⟩
theorem fs_state (h : Fks ws pe p p2 p3 d g D idx lim fr wr) : Calls Try.prog 23 #[.pointer (some ⟨pe, 0, none⟩)] wr fun e w' => e = .returned (.tuple #[.int .i64 idx, .int .i64 lim]) ∧ ∃ n, w' = wr.drewN n := by
  obtain ⟨hc, _, _, _, _, hl⟩ := h.c1
  obtain ⟨A, c, hr, _⟩ := h.stk
  have c1 := hr.cell 1
  have c2 := hr.cell 2
  have lp := hr.lt
  simp only [List.getElem?_toArray, List.getElem?_cons_succ, List.getElem?_cons_zero] at c1 c2
  clear h hr
  go_enter Try.func23, Try.ntmps23
  go_wp2
  all_goals (try go_quiet (fail))
  all_goals go_wp2
  go_ret2
  exact ⟨rfl, _, rfl⟩
theorem fs_restore (i2 l2 : Int) (h : Fks ws pe p p2 p3 d g D idx lim fr wr) : Calls Try.prog 24 #[.pointer (some ⟨pe, 0, none⟩), .int .i64 i2, .int .i64 l2] wr fun e w' => e = NoEnd ∧ Fks ws pe p p2 p3 d g D i2 l2 fr w' ∧ FKeep wr w' := by
  have hc := h.c1.1
  have H := Lib.hid h
  clear h
  go_enter Try.func24, Try.ntmps24
  go_wp2_with fail
  refine (restore_any _ _ p d D idx lim i2 l2 H.out.stk).mono ?_
  rintro e w' ⟨rfl, hs, ht⟩
  have ht' := ht.mono (T := fun k => k = p ∨ d = some k) (fun k _ h => .inl h)
  have HE := Lib.hid (H.out.stk' hs ht')
  have HK := Lib.hid (H.out.fkeep ht')
  clear hs ht ht'
  unfold NoEnd
  go_wp2
  go_end0
  exact ⟨rfl, HE.out, HK.out⟩
end
end Go.Proofs.Ytohgcoepdfhbmaa
