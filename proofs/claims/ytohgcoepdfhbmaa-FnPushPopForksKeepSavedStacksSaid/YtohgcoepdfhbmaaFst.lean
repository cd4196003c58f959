/-
  The state of the law FnPushPopForksKeepSavedStacks (n001_96): the interpreter's state and the law's four slices.
-/
import Derived.Test.YtohgcoepdfhbmaaDra
namespace Go.Proofs.Ytohgcoepdfhbmaa
set_option linter.unusedVariables false
set_option linter.unusedSimpArgs false
open Go.ChangeShapes Go.WideShapes Go.ChangeAt Go.RowKit M
/-- The law's slices: values, links, the forks' nodes and pcs. -/
structure FM (wr : World) (B m1 m2 m3 m4 cap : Nat) (V U C P : List Int) : Prop where
  v : OwnI 2 wr B m1 cap V
  u : OwnI 3 wr B m2 cap U
  c : OwnI 3 wr B m3 cap C
  p : OwnI 3 wr B m4 cap P
  n23 : m2 ≠ m3
  n24 : m2 ≠ m4
  n34 : m3 ≠ m4
section
variable {wr w' : World} {B m1 m2 m3 m4 cap : Nat} {V U C P : List Int}
theorem FM.n1 (h : FM wr B m1 m2 m3 m4 cap V U C P) : m1 ≠ m2 ∧ m1 ≠ m3 ∧ m1 ≠ m4 := by
  obtain ⟨c1, r1⟩ := h.v.row
  obtain ⟨c2, r2⟩ := h.u.row
  obtain ⟨c3, r3⟩ := h.c.row
  obtain ⟨c4, r4⟩ := h.p.row
  have ne : ∀ {k : Nat} {cs : Array Value}, Row wr k 3 cs → m1 ≠ k := by
    rintro k cs hr rfl
    unfold Row at r1 hr
    rw [r1] at hr
    injection hr with hr
    injection hr with _ hr
    exact absurd hr (by decide)
  exact ⟨ne r2, ne r3, ne r4⟩
theorem FM.fkeep (h : FM wr B m1 m2 m3 m4 cap V U C P) (hk : FKeep wr w') : FM w' B m1 m2 m3 m4 cap V U C P :=
  ⟨h.v.fkeep hk (by decide) (by decide) (by decide) (by decide) (by decide), h.u.fkeep hk (by decide) (by decide) (by decide) (by decide) (by decide), h.c.fkeep hk (by decide) (by decide) (by decide) (by decide) (by decide), h.p.fkeep hk (by decide) (by decide) (by decide) (by decide) (by decide), h.n23, h.n24, h.n34⟩
theorem FM.t1 {V' : List Int} (h : FM wr B m1 m2 m3 m4 cap V U C P) (ht : Touch (· = m1) wr w') (ho : OwnI 2 w' B m1 cap V') : FM w' B m1 m2 m3 m4 cap V' U C P := by
  obtain ⟨a, b, c⟩ := h.n1
  exact ⟨ho, h.u.touch ht (Ne.symm a), h.c.touch ht (Ne.symm b), h.p.touch ht (Ne.symm c), h.n23, h.n24, h.n34⟩
theorem FM.t2 {V' : List Int} (h : FM wr B m1 m2 m3 m4 cap V U C P) (ht : Touch (· = m2) wr w') (ho : OwnI 3 w' B m2 cap V') : FM w' B m1 m2 m3 m4 cap V V' C P := by
  obtain ⟨a, b, c⟩ := h.n1
  exact ⟨h.v.touch ht a, ho, h.c.touch ht (Ne.symm h.n23), h.p.touch ht (Ne.symm h.n24), h.n23, h.n24, h.n34⟩
theorem FM.t3 {V' : List Int} (h : FM wr B m1 m2 m3 m4 cap V U C P) (ht : Touch (· = m3) wr w') (ho : OwnI 3 w' B m3 cap V') : FM w' B m1 m2 m3 m4 cap V U V' P := by
  obtain ⟨a, b, c⟩ := h.n1
  exact ⟨h.v.touch ht b, h.u.touch ht h.n23, ho, h.p.touch ht (Ne.symm h.n34), h.n23, h.n24, h.n34⟩
theorem FM.t4 {V' : List Int} (h : FM wr B m1 m2 m3 m4 cap V U C P) (ht : Touch (· = m4) wr w') (ho : OwnI 3 w' B m4 cap V') : FM w' B m1 m2 m3 m4 cap V U C V' := by
  obtain ⟨a, b, c⟩ := h.n1
  exact ⟨h.v.touch ht c, h.u.touch ht h.n24, h.c.touch ht h.n34, ho, h.n23, h.n24, h.n34⟩
end
theorem Fks.free {ws wr : World} {pe p p2 p3 : Nat} {d g : Option Nat} {D : List Ent} {idx lim : Int} {fr : List (Int × Int × Int)} (h : Fks ws pe p p2 p3 d g D idx lim fr wr) {k : Nat} {t : TypeId} {cs : Array Value} (hr : Row wr k t cs) (hk : ws.heap.size ≤ k) (h1 : t ≠ 67) (h2 : t ≠ 78) (h3 : t ≠ 50) (h4 : t ≠ 69) (h5 : t ≠ 76) :
    ws.heap.size ≤ k ∧ k ≠ pe ∧ k ≠ p ∧ k ≠ p2 ∧ k ≠ p3 ∧ d ≠ some k ∧ g ≠ some k := by
  have ne : ∀ {k' : Nat} {t' : TypeId} {cs' : Array Value}, Row wr k' t' cs' → t ≠ t' → k ≠ k' := by
    rintro k' t' cs' hr' hne rfl
    unfold Row at hr hr'
    rw [hr] at hr'
    injection hr' with hr'
    injection hr' with _ hr'
    exact hne hr'
  obtain ⟨cs', Af, cap, q1, _, _, _, _, _, _, ho, hg⟩ := h.env
  obtain ⟨A, c, hp, _⟩ := h.stk
  obtain ⟨A2, c2, hp2, _⟩ := h.paths
  refine ⟨hk, ne q1 h3, ne hp h1, ne hp2 h1, ne h.scopes h5, (h.stk.ne hr (Ne.symm h1) (Ne.symm h2)).2, ?_⟩
  rw [← hg]
  exact own_ne ho hr (Ne.symm h4)
/-- The state at one world. -/
structure ST (ws : World) (pe p p2 p3 m1 m2 m3 m4 cap : Nat) (d g : Option Nat) (D : List Ent) (idx lim : Int) (fr : List (Int × Int × Int)) (V U C P : List Int) (wr : World) : Prop where
  fs : Fks ws pe p p2 p3 d g D idx lim fr wr
  fm : FM wr ws.heap.size m1 m2 m3 m4 cap V U C P
section
variable {ws wr w' : World} {pe p p2 p3 m1 m2 m3 m4 cap : Nat} {d g : Option Nat} {D : List Ent} {idx lim : Int} {fr : List (Int × Int × Int)} {V U C P : List Int} {o : Obj} {x : Int}
theorem ownI_snoc {t : TypeId} {B m : Nat} {L : List Int} (h : w'.ownsRow B t 1 (.slice (some ⟨m, 0, none⟩) (L.length + 1) cap) (L.length + 1) (L.map (Value.int .i64) ++ [.int .i64 x])) : OwnI t w' B m cap (L ++ [x]) := by
  unfold OwnI
  rw [List.length_append, List.map_append]
  exact h
theorem grown_touch {m : Nat} (hg : (wr.alloc o).grownBy w' (some m)) : Touch (· = m) wr w' := ((Touch.refl (· = m) wr).alloc o).grown hg (fun k hk _ => by injection hk with hk; exact hk.symm)
theorem ST.a1 (h : ST ws pe p p2 p3 m1 m2 m3 m4 cap d g D idx lim fr V U C P wr) (ho : w'.ownsRow ws.heap.size 2 1 (.slice (some ⟨m1, 0, none⟩) (V.length + 1) cap) (V.length + 1) (V.map (Value.int .i64) ++ [.int .i64 x])) (hg : (wr.alloc o).grownBy w' (some m1)) :
    ST ws pe p p2 p3 m1 m2 m3 m4 cap d g D idx lim fr (V ++ [x]) U C P w' := by
  obtain ⟨cs, hr⟩ := h.fm.v.row
  exact ⟨h.fs.other (grown_touch hg) (fun k hk => by subst hk; exact h.fs.free hr h.fm.v.lt.1 (by decide) (by decide) (by decide) (by decide) (by decide)), h.fm.t1 (grown_touch hg) (ownI_snoc ho)⟩
theorem ST.a2 (h : ST ws pe p p2 p3 m1 m2 m3 m4 cap d g D idx lim fr V U C P wr) (ho : w'.ownsRow ws.heap.size 3 1 (.slice (some ⟨m2, 0, none⟩) (U.length + 1) cap) (U.length + 1) (U.map (Value.int .i64) ++ [.int .i64 x])) (hg : (wr.alloc o).grownBy w' (some m2)) :
    ST ws pe p p2 p3 m1 m2 m3 m4 cap d g D idx lim fr V (U ++ [x]) C P w' := by
  obtain ⟨cs, hr⟩ := h.fm.u.row
  exact ⟨h.fs.other (grown_touch hg) (fun k hk => by subst hk; exact h.fs.free hr h.fm.u.lt.1 (by decide) (by decide) (by decide) (by decide) (by decide)), h.fm.t2 (grown_touch hg) (ownI_snoc ho)⟩
theorem ST.a3 (h : ST ws pe p p2 p3 m1 m2 m3 m4 cap d g D idx lim fr V U C P wr) (ho : w'.ownsRow ws.heap.size 3 1 (.slice (some ⟨m3, 0, none⟩) (C.length + 1) cap) (C.length + 1) (C.map (Value.int .i64) ++ [.int .i64 x])) (hg : (wr.alloc o).grownBy w' (some m3)) :
    ST ws pe p p2 p3 m1 m2 m3 m4 cap d g D idx lim fr V U (C ++ [x]) P w' := by
  obtain ⟨cs, hr⟩ := h.fm.c.row
  exact ⟨h.fs.other (grown_touch hg) (fun k hk => by subst hk; exact h.fs.free hr h.fm.c.lt.1 (by decide) (by decide) (by decide) (by decide) (by decide)), h.fm.t3 (grown_touch hg) (ownI_snoc ho)⟩
theorem ST.a4 (h : ST ws pe p p2 p3 m1 m2 m3 m4 cap d g D idx lim fr V U C P wr) (ho : w'.ownsRow ws.heap.size 3 1 (.slice (some ⟨m4, 0, none⟩) (P.length + 1) cap) (P.length + 1) (P.map (Value.int .i64) ++ [.int .i64 x])) (hg : (wr.alloc o).grownBy w' (some m4)) :
    ST ws pe p p2 p3 m1 m2 m3 m4 cap d g D idx lim fr V U C (P ++ [x]) w' := by
  obtain ⟨cs, hr⟩ := h.fm.p.row
  exact ⟨h.fs.other (grown_touch hg) (fun k hk => by subst hk; exact h.fs.free hr h.fm.p.lt.1 (by decide) (by decide) (by decide) (by decide) (by decide)), h.fm.t4 (grown_touch hg) (ownI_snoc ho)⟩
theorem ownI_pop {t : TypeId} {B m : Nat} {L : List Int} (h : OwnI t wr B m cap (L ++ [x])) : OwnI t wr B m cap L := by
  unfold OwnI at h
  rw [List.length_append, List.map_append] at h
  exact ownsRow_pop (by simp) h
end
/-- A fork as the law knows it: pc, the saved index and limit, its node, its list. -/
abbrev Fk := Int × Int × Int × Int × List Int
def frOf (F : List Fk) : List (Int × Int × Int) := F.reverse.map fun f => (f.1, f.2.1, f.2.2.1)
def cOf (F : List Fk) : List Int := F.reverse.map fun f => f.2.2.2.1
def pOf (F : List Fk) : List Int := F.reverse.map fun f => f.1
theorem frOf_cons (f : Fk) (F : List Fk) : frOf (f :: F) = frOf F ++ [(f.1, f.2.1, f.2.2.1)] := by simp [frOf]
theorem cOf_cons (f : Fk) (F : List Fk) : cOf (f :: F) = cOf F ++ [f.2.2.2.1] := by simp [cOf]
theorem pOf_cons (f : Fk) (F : List Fk) : pOf (f :: F) = pOf F ++ [f.1] := by simp [pOf]
theorem frOf_length (F : List Fk) : (frOf F).length = F.length := by simp [frOf]
theorem cOf_length (F : List Fk) : (cOf F).length = F.length := by simp [cOf]
theorem pOf_length (F : List Fk) : (pOf F).length = F.length := by simp [pOf]
def svOf (F : List Fk) : List (Int × Int × List (Nat × Value)) := F.map fun f => (f.2.1, f.2.2.1, i64s f.2.2.2.2)
/-- What the entries and the nodes say of one another. -/
structure RL (D : List Ent) (idx lim : Int) (V U : List Int) (cur : Int) (L : List Int) (F : List Fk) : Prop where
  ch : Chain D idx (i64s L)
  l0 : -1 ≤ lim
  l1 : lim < D.length
  sv : Saved D lim (svOf F)
  m : Mch V U cur L
  mf : ∀ f ∈ F, Mch V U f.2.2.2.1 f.2.2.2.2
  len : U.length = V.length
section
variable {D : List Ent} {idx lim : Int} {V U : List Int} {cur : Int} {L : List Int} {F : List Fk}
theorem RL.push (h : RL D idx lim V U cur L F) (x : Int) : RL (pushD D (max idx lim + 1).toNat (2, .int .i64 x, idx)) (max idx lim + 1) lim (V ++ [x]) (U ++ [cur]) V.length (x :: L) F := by
  have a1 := h.ch.lo
  have a2 := h.ch.hi
  have l0 := h.l0
  have l1 := h.l1
  have hi : (max idx lim + 1).toNat ≤ D.length := by omega
  have hl := pushD_length (D := D) (i := (max idx lim + 1).toNat) (e := (2, .int .i64 x, idx))
  have b1 := h.m.hi
  have hln := h.len
  refine ⟨⟨(max idx lim + 1).toNat, by omega, idx, pushD_self hi, by omega, h.ch.push hi (by omega)⟩, l0, by omega, h.sv.push hi (by omega), ⟨V.length, rfl, by simp, cur, ?_, b1, h.m.snoc _ _⟩, fun f hf => (h.mf f hf).snoc _ _, by simp [h.len]⟩
  rw [List.getElem?_append_right (by omega), hln]
  simp
theorem RL.fork (h : RL D idx lim V U cur L F) (pc : Int) : RL D idx (max idx lim) V U cur L ((pc, idx, lim, cur, L) :: F) := by
  have a1 := h.ch.lo
  have a2 := h.ch.hi
  have l0 := h.l0
  have l1 := h.l1
  refine ⟨h.ch, by omega, by omega, ⟨by show idx ≤ _; omega, by show lim ≤ _; omega, l0, h.ch, h.sv⟩, h.m, fun f hf => ?_, h.len⟩
  rcases List.mem_cons.1 hf with rfl | hf
  · exact h.m
  · exact h.mf f hf
theorem RL.back {f : Fk} (h : RL D idx lim V U cur L (f :: F)) : RL D f.2.1 f.2.2.1 V U f.2.2.2.1 f.2.2.2.2 F := by
  obtain ⟨h1, h2, h3, h4, h5⟩ := h.sv
  have l1 := h.l1
  exact ⟨h4, h3, by show f.2.2.1 < _; simp only at h2; omega, h5, h.mf f (by simp), fun k hk => h.mf k (by simp [hk]), h.len⟩
end
theorem info3 : (Try.prog.info? 3).map (fun i => (i.zero, i.size, i.bytes)) = some (some (.int .i64 0), 1, 8) := by kernel_rfl
theorem make3 (n : Nat) (hn : n ≤ 1048576) (W : World) : (Instr.makeSlice 34 (.int .i64 0) (.int .i64 (n : Int))).run Try.prog W = .ok (.slice (some ⟨W.heap.size, 0, none⟩) 0 n) (W.alloc (.cells (madeCells #[.int .i64 0] n) 3)) := by
  obtain ⟨i, hi, hz0, hz1, hz2⟩ := info_parts info3
  have hr := run_make (P := Try.prog) W 34 3 i (.int .i64 0) Try.underlying34 hi hz0 .i64 .i64 0 (n : Int) (by omega) (by omega) (by rw [hz2]; omega) (by omega)
  rw [hz1] at hr
  simp only [Int.toNat_zero, Int.toNat_natCast, Nat.mul_one] at hr
  exact hr
theorem ownI_made {t : TypeId} (w : World) (B n : Nat) (hB : B ≤ w.heap.size) (hn : n ≤ 1048576) : OwnI t (w.alloc (.cells (madeCells #[.int .i64 0] n) t)) B w.heap.size n [] :=
  World.ownsRow_made _ _ _ hB (by unfold maxLen; omega) (by rw [size_madeCells]; omega)
theorem st_start {ws w : World} {n pe p p2 p3 : Nat} (hn : n ≤ 1048576) (h : Fks ws pe p p2 p3 none none [] (-1) (-1) [] w) :
    ST ws pe p p2 p3 w.heap.size (w.heap.size + 1) (w.heap.size + 2) (w.heap.size + 3) n none none [] (-1) (-1) [] [] [] [] []
      ((((w.alloc (.cells (madeCells #[.int .i64 0] n) 2)).alloc (.cells (madeCells #[.int .i64 0] n) 3)).alloc (.cells (madeCells #[.int .i64 0] n) 3)).alloc (.cells (madeCells #[.int .i64 0] n) 3)) := by
  have hB := h.below.size
  have al : ∀ {t : TypeId} {X : World} {m : Nat} {L : List Int} (o : Obj), OwnI t X ws.heap.size m n L → OwnI t (X.alloc o) ws.heap.size m n L := fun o h => World.ownsRow.alloc h o
  have e2 : OwnI 3 ((w.alloc (.cells (madeCells #[.int .i64 0] n) 2)).alloc (.cells (madeCells #[.int .i64 0] n) 3)) ws.heap.size (w.heap.size + 1) n [] := by
    have := ownI_made (t := 3) (w.alloc (.cells (madeCells #[.int .i64 0] n) 2)) ws.heap.size n (by simp; omega) hn
    simpa using this
  have e3 : OwnI 3 (((w.alloc (.cells (madeCells #[.int .i64 0] n) 2)).alloc (.cells (madeCells #[.int .i64 0] n) 3)).alloc (.cells (madeCells #[.int .i64 0] n) 3)) ws.heap.size (w.heap.size + 2) n [] := by
    have := ownI_made (t := 3) ((w.alloc (.cells (madeCells #[.int .i64 0] n) 2)).alloc (.cells (madeCells #[.int .i64 0] n) 3)) ws.heap.size n (by simp; omega) hn
    simpa using this
  have e4 : OwnI 3 ((((w.alloc (.cells (madeCells #[.int .i64 0] n) 2)).alloc (.cells (madeCells #[.int .i64 0] n) 3)).alloc (.cells (madeCells #[.int .i64 0] n) 3)).alloc (.cells (madeCells #[.int .i64 0] n) 3)) ws.heap.size (w.heap.size + 3) n [] := by
    have := ownI_made (t := 3) (((w.alloc (.cells (madeCells #[.int .i64 0] n) 2)).alloc (.cells (madeCells #[.int .i64 0] n) 3)).alloc (.cells (madeCells #[.int .i64 0] n) 3)) ws.heap.size n (by simp; omega) hn
    simpa using this
  exact ⟨h.keep ((((Below.refl _ _).alloc (Nat.le_refl _) _).alloc (by simp) _).alloc (by simp; omega) _ |>.alloc (by simp; omega) _), ⟨al _ (al _ (al _ (ownI_made w ws.heap.size n hB hn))), al _ (al _ e2), al _ e3, e4, by omega, by omega, by omega⟩⟩
end Go.Proofs.Ytohgcoepdfhbmaa
