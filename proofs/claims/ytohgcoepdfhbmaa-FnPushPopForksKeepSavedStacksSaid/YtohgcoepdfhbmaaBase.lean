/-
  Contracts of the seat n001_96: the laws' copies of slices, the interpreter's state over its stack, a slice used as a stack beside it. Printed by gen.py.
-/
import Derived.Test.YtohgcoepdfhbmaaChain
import Derived.Test.YtohgcoepdfhbmaaIsRow
import Derived.Maps.AppendAt
import Derived.WalkSmall
namespace Go.Proofs.Ytohgcoepdfhbmaa
set_option linter.unusedVariables false
open Go.ChangeShapes Go.WideShapes Go.ChangeAt Go.RowKit M
theorem info30 : (Try.prog.info? 30).map (fun i => (i.zero, i.size, i.bytes)) = some (some (.int .i8 0), 1, 1) := by kernel_rfl
set_option maxHeartbeats 1000000 in
theorem copy_ops (a : Option Addr) (len cap : Nat) (zs : List Int) (w : World) (h : IsRow .i8 w a len cap zs) (hl : len ≤ 1048576) :
    Calls Try.prog 6 #[.slice a len cap] w (CopyOut .i8 30 len zs w) := by
  have hlz := h.len.1
  have hnil := fun W => Lib.run_eql_slice_nil (P := Try.prog) W 22 30 a len cap 0 0 Try.underlying22
  have hmk := fun W => run_make_row' (P := Try.prog) 22 30 (.int .i8 0) 1 Try.underlying22 info30 rfl .i64 .i64 len (by omega) (by omega) W
  have H := Lib.hid h
  rcases a with _ | x
  · have h0 : len = 0 := by
      rcases h with ⟨_, h0, _⟩ | ⟨x, h0, _⟩
      · exact h0
      · cases h0
    subst h0
    clear h hmk
    go_enter Try.func6, Try.ntmps6
    go_wp2
    go_ret
    exact ⟨none, 0, rfl, .inl rfl, Below.refl _ _⟩
  · clear h
    go_enter Try.func6, Try.ntmps6
    go_wp2
    go_loopw [4] (fun i wr => ∃ (j : Nat) (cs : Array Value), j ≤ len ∧ i = .int .i64 j ∧ Row wr w.heap.size 30 cs ∧ cs.size = len ∧ CopyTo .i8 zs j cs ∧ Below w.heap.size w wr) (fun i _ => len - (intOf i).toNat)
    case atStart => exact ⟨0, _, Nat.zero_le _, rfl, Row.made _ _ _, size_madeCells _ _, fun j hj => absurd hj (by omega), (Below.refl _ _).alloc (Nat.le_refl _) _⟩
    case round =>
      obtain ⟨j, cs, hj, rfl, hr, hz, hC, hb⟩ := hrel
      have HR := Lib.hid hr
      have HZ := Lib.hid hz
      have HC := Lib.hid hC
      have HB := Lib.hid hb
      by_cases hlt : j < len
      · obtain ⟨b, o, hx, hbl, hcell⟩ := H.out.open_ (by omega)
        injection hx with hx
        subst hx
        obtain ⟨v, hc⟩ := hr.has j (by omega)
        have hf := hr.free j
        have cx := (hb.cell (p := ⟨b, o + j, none⟩) hbl).trans (hcell j hlt)
        clear hr hz hC hb hcell
        go_wp2
        exact ⟨⟨j + 1, _, by omega, by go_num, HR.out.put _ _, by simpa using HZ.out, HC.out.step (by rw [HZ.out]; exact hlt), HB.out.setCell (Nat.le_refl _) _⟩, by simp [intOf]; omega⟩
      · obtain rfl : j = len := by omega
        clear hr hz hC hb
        go_wp2
        go_ret
        refine ⟨_, _, rfl, .inr ⟨w.heap.size, rfl, Nat.le_refl _, ?_⟩, HB.out⟩
        have := HC.out.all HZ.out hlz
        rw [← this]
        exact HR.out
theorem info2 : (Try.prog.info? 2).map (fun i => (i.zero, i.size, i.bytes)) = some (some (.int .i64 0), 1, 8) := by kernel_rfl
set_option maxHeartbeats 1000000 in
theorem copy_vals (a : Option Addr) (len cap : Nat) (zs : List Int) (w : World) (h : IsRow .i64 w a len cap zs) (hl : len ≤ 1048576) :
    Calls Try.prog 7 #[.slice a len cap] w (CopyOut .i64 2 len zs w) := by
  have hlz := h.len.1
  have hnil := fun W => Lib.run_eql_slice_nil (P := Try.prog) W 23 2 a len cap 0 0 Try.underlying23
  have hmk := fun W => run_make_row' (P := Try.prog) 23 2 (.int .i64 0) 8 Try.underlying23 info2 rfl .i64 .i64 len (by omega) (by omega) W
  have H := Lib.hid h
  rcases a with _ | x
  · have h0 : len = 0 := by
      rcases h with ⟨_, h0, _⟩ | ⟨x, h0, _⟩
      · exact h0
      · cases h0
    subst h0
    clear h hmk
    go_enter Try.func7, Try.ntmps7
    go_wp2
    go_ret
    exact ⟨none, 0, rfl, .inl rfl, Below.refl _ _⟩
  · clear h
    go_enter Try.func7, Try.ntmps7
    go_wp2
    go_loopw [4] (fun i wr => ∃ (j : Nat) (cs : Array Value), j ≤ len ∧ i = .int .i64 j ∧ Row wr w.heap.size 2 cs ∧ cs.size = len ∧ CopyTo .i64 zs j cs ∧ Below w.heap.size w wr) (fun i _ => len - (intOf i).toNat)
    case atStart => exact ⟨0, _, Nat.zero_le _, rfl, Row.made _ _ _, size_madeCells _ _, fun j hj => absurd hj (by omega), (Below.refl _ _).alloc (Nat.le_refl _) _⟩
    case round =>
      obtain ⟨j, cs, hj, rfl, hr, hz, hC, hb⟩ := hrel
      have HR := Lib.hid hr
      have HZ := Lib.hid hz
      have HC := Lib.hid hC
      have HB := Lib.hid hb
      by_cases hlt : j < len
      · obtain ⟨b, o, hx, hbl, hcell⟩ := H.out.open_ (by omega)
        injection hx with hx
        subst hx
        obtain ⟨v, hc⟩ := hr.has j (by omega)
        have hf := hr.free j
        have cx := (hb.cell (p := ⟨b, o + j, none⟩) hbl).trans (hcell j hlt)
        clear hr hz hC hb hcell
        go_wp2
        exact ⟨⟨j + 1, _, by omega, by go_num, HR.out.put _ _, by simpa using HZ.out, HC.out.step (by rw [HZ.out]; exact hlt), HB.out.setCell (Nat.le_refl _) _⟩, by simp [intOf]; omega⟩
      · obtain rfl : j = len := by omega
        clear hr hz hC hb
        go_wp2
        go_ret
        refine ⟨_, _, rfl, .inr ⟨w.heap.size, rfl, Nat.le_refl _, ?_⟩, HB.out⟩
        have := HC.out.all HZ.out hlz
        rw [← this]
        exact HR.out

@[go_sem] theorem as2_2 (v : Value) (w : World) : (Instr.typeAssert (.iface 2 v) 20 2 true).run Try.prog w = .ok (.tuple #[v, .bool true]) w := by kernel_rfl
/-- int64s as the stack holds them. -/
def i64s (l : List Int) : List (Nat × Value) := l.map fun n => (2, .int .i64 n)
theorem i64s_empty (l : List Int) : (i64s l).isEmpty = l.isEmpty := by cases l <;> rfl
theorem LStk.base {w : World} {B B' p : Nat} {d : Option Nat} {l : List (Nat × Value)} {idx lim : Int} {sv : List (Int × Int × List (Nat × Value))} {N : Nat} (h : LStk w B p d l idx lim sv N) (hB : B' ≤ B) : LStk w B' p d l idx lim sv N := by
  obtain ⟨D, ⟨A, c, hr, hp, ho, hd⟩, r⟩ := h
  refine ⟨D, ⟨A, c, hr, by omega, ⟨ho.1, ?_⟩, hd⟩, r⟩
  rcases ho.2 with h2 | ⟨g, cap, cur, hv, hb, r⟩
  · exact .inl h2
  · exact .inr ⟨g, cap, cur, hv, by omega, r⟩
/-- The slice in block m, of capacity cap, holds L bottom first (L's head is its last element). -/
def Mod (wr : World) (B m cap : Nat) (L : List Int) : Prop := wr.ownsRow B 2 1 (.slice (some ⟨m, 0, none⟩) L.length cap) L.length (L.reverse.map (Value.int .i64))
theorem Mod.row {wr : World} {B m cap : Nat} {L : List Int} (h : Mod wr B m cap L) : ∃ cs, Row wr m 2 cs := by
  rcases h.2 with ⟨h0, _⟩ | ⟨g', cap', cur, hv, hg, hh, _⟩
  · cases h0
  · injection hv with hv
    injection hv with hv
    injection hv with hv
    subst hv
    exact ⟨cur, hh⟩
theorem Mod.touch {S : Nat → Prop} {wr w' : World} {B m cap : Nat} {L : List Int} (h : Mod wr B m cap L) (ht : Touch S wr w') (hn : ¬ S m) : Mod w' B m cap L :=
  own_touch h ht fun k hk => by injection hk with hk; subst hk; exact hn
/-- The state at block pe leads to the stack at p, which spells L; nothing below ws's end has turned. -/
def EN (ws : World) (pe p : Nat) (L : List Int) (N : Nat) (wr : World) : Prop :=
  ∃ d idx cs, LStk wr ws.heap.size p d (i64s L) idx (-1) [] N ∧ Row wr pe 50 cs ∧ cs[1]? = some (.pointer (some ⟨p, 0, none⟩)) ∧ ws.heap.size ≤ pe ∧ Below ws.heap.size ws wr
theorem EN.cell {ws : World} {pe p : Nat} {L : List Int} {N : Nat} {wr : World} (h : EN ws pe p L N wr) : wr.cell? ⟨pe, 1, none⟩ = some (.pointer (some ⟨p, 0, none⟩)) := by
  obtain ⟨d, idx, cs, h1, h2, h3, h4, h5⟩ := h
  rw [h2.cell, h3]
theorem EN.below {ws : World} {pe p : Nat} {L : List Int} {N : Nat} {wr : World} (h : EN ws pe p L N wr) : Below ws.heap.size ws wr := by
  obtain ⟨d, idx, cs, h1, h2, h3, h4, h5⟩ := h
  exact h5
theorem EN.more {ws : World} {pe p : Nat} {L : List Int} {N N' : Nat} {wr : World} (h : EN ws pe p L N wr) (hN : N ≤ N') : EN ws pe p L N' wr := by
  obtain ⟨d, idx, cs, h1, r⟩ := h
  exact ⟨d, idx, cs, h1.more hN, r⟩
theorem EN.touch {ws : World} {pe p : Nat} {L : List Int} {N : Nat} {wr w' : World} {S : Nat → Prop} (h : EN ws pe p L N wr) (ht : Touch S wr w') (hS : ∀ k, S k → ∃ t cs, Row wr k t cs ∧ t ≠ 67 ∧ t ≠ 78 ∧ t ≠ 50 ∧ ws.heap.size ≤ k) : EN ws pe p L N w' := by
  obtain ⟨d, idx, cs, h1, h2, h3, h4, h5⟩ := h
  refine ⟨d, idx, cs, h1.touch ht (fun hs => ?_) (fun k hk hs => ?_), h2.touch ht (fun hs => ?_), h3, h4, h5.trans (ht.below h5.size fun k hk hs => ?_)⟩
  · obtain ⟨t, cs', hr, n1, n2, n3, n4⟩ := hS _ hs
    exact (h1.ne hr (Ne.symm n1) (Ne.symm n2)).1 rfl
  · obtain ⟨t, cs', hr, n1, n2, n3, n4⟩ := hS _ hs
    exact (h1.ne hr (Ne.symm n1) (Ne.symm n2)).2 hk
  · obtain ⟨t, cs', hr, n1, n2, n3, n4⟩ := hS _ hs
    unfold Row at hr h2
    rw [h2] at hr
    injection hr with hr
    injection hr with _ hr
    exact n3 hr.symm
  · obtain ⟨t, cs', hr, n1, n2, n3, n4⟩ := hS _ hs
    omega
/-- .. and the slice in block m holds K. -/
def SM (ws : World) (pe p m cap : Nat) (L K : List Int) (N : Nat) (wr : World) : Prop := EN ws pe p L N wr ∧ Mod wr ws.heap.size m cap K
def EKeep (pe p : Nat) (wr w' : World) : Prop := ∀ k t cs, Row wr k t cs → t ≠ 67 → t ≠ 78 → Row w' k t cs
theorem e_push (ws : World) (pe p : Nat) (L : List Int) (N : Nat) (wr : World) (h : EN ws pe p L N wr) (hN : N ≤ 1048576) (v : Int) :
    Calls Try.prog 10 #[.pointer (some ⟨pe, 0, none⟩), .int .i64 v] wr fun e w' => e = NoEnd ∧ EN ws pe p (v :: L) (N + 1) w' ∧ EKeep pe p wr w' := by
  have hc := h.cell
  have H := Lib.hid h
  clear h
  go_enter Try.func10, Try.ntmps10
  go_wp2_with (first | (go_at_call 19; go_in) | fail)
  obtain ⟨d, idx, cs, h1, h2, h3, h4, h5⟩ := H.out
  refine (lpush _ _ _ d (i64s L) idx _ _ _ h1 hN 2 (.int .i64 v)).mono ?_
  rintro e w' ⟨rfl, d', idx', hs, hd', ht⟩
  obtain ⟨n1, n2⟩ := h1.ne h2 (by decide) (by decide)
  have HE := Lib.hid (show EN ws pe p (v :: L) (N + 1) w' from ⟨d', idx', cs, hs, h2.touch ht (fun h => by
      rcases h with h | h
      · exact n1 h
      · exact n2 h), h3, h4, h5.trans (ht.below h5.size fun k hk h => by
      rcases h with h | h
      · have := h1.lt.1; omega
      · subst h; have := h1.dlt.1; omega)⟩)
  have HK := Lib.hid (show EKeep pe p _ w' from fun k t cs' hr t1 t2 => hr.touch ht (fun h => by
      obtain ⟨m1, m2⟩ := h1.ne hr (Ne.symm t1) (Ne.symm t2)
      rcases h with h | h
      · exact m1 h
      · exact m2 h))
  clear h1 h2 h3 h5 hs hd' ht n1 n2
  unfold NoEnd
  go_wp2
  go_end0
  go_wp2
  go_end0
  exact ⟨rfl, HE.out, HK.out⟩
theorem e_pop (ws : World) (pe p : Nat) (L : List Int) (N : Nat) (wr : World) (v : Int) (h : EN ws pe p (v :: L) N wr) :
    Calls Try.prog 11 #[.pointer (some ⟨pe, 0, none⟩)] wr fun e w' => e = .returned (.tuple #[.int .i64 v, .bool true]) ∧ EN ws pe p L N w' ∧ EKeep pe p wr w' := by
  have hc := h.cell
  have H := Lib.hid h
  clear h
  go_enter Try.func11, Try.ntmps11
  go_wp2_with (first | (go_at_call 20; go_in) | fail)
  obtain ⟨d, idx, cs, h1, h2, h3, h4, h5⟩ := H.out
  refine (lpop _ _ _ d (i64s L) (2, .int .i64 v) idx _ _ _ h1).mono ?_
  rintro e w' ⟨rfl, ⟨idx', hs⟩, ht⟩
  obtain ⟨n1, n2⟩ := h1.ne h2 (by decide) (by decide)
  have HE := Lib.hid (show EN ws pe p L N w' from ⟨d, idx', cs, hs, h2.touch ht n1, h3, h4, h5.trans (ht.below h5.size fun k hk h => by have := h1.lt.1; omega)⟩)
  have HK := Lib.hid (show EKeep pe p _ w' from fun k t cs' hr t1 t2 => hr.touch ht (h1.ne hr (Ne.symm t1) (Ne.symm t2)).1)
  clear h1 h2 h3 h5 hs ht n1 n2
  go_wp2
  go_ret2
  exact ⟨rfl, HE.out, HK.out⟩
theorem e_empty (ws : World) (pe p : Nat) (L : List Int) (N : Nat) (wr : World) (h : EN ws pe p L N wr) :
    Calls Try.prog 9 #[.pointer (some ⟨pe, 0, none⟩)] wr fun e w' => e = .returned (.bool L.isEmpty) ∧ wr = w' := by
  have hc := h.cell
  have H := Lib.hid h
  clear h
  rw [← i64s_empty]
  go_enter Try.func9, Try.ntmps9
  go_wp2_with fail
  obtain ⟨d, idx, cs, h1, _⟩ := H.out
  refine (lempty _ _ _ d (i64s L) idx _ _ _ h1).mono ?_
  rintro e w' ⟨rfl, rfl⟩
  clear h1
  go_wp2
  go_ret
  exact ⟨rfl, rfl⟩
theorem e_new_end (w w1 w2 w3 : World) (cs : Array Value) (h1 : LStk w1 w.heap.size w.heap.size none [] (-1) (-1) [] 0) (b1 : Below w.heap.size w w1) (b2 : Below w1.heap.size w1 w2) (b3 : Below w2.heap.size w2 w3) (h : cs[1]? = some (.pointer (some ⟨w.heap.size, 0, none⟩))) :
    EN w w3.heap.size w.heap.size [] 0 (w3.alloc (.cells cs 50)) := by
  have h4 : Below w3.heap.size w3 (w3.alloc (.cells cs 50)) := (Below.refl _ _).alloc (Nat.le_refl _) _
  have z1 := b1.size
  have z2 := b2.size
  have z3 := b3.size
  exact ⟨none, -1, cs, ((h1.below b2).below b3).below h4, Row.made _ _ _, h, by omega, ((b1.trans (b2.mono (by omega))).trans (b3.mono (by omega))).trans (h4.mono (by omega))⟩
def NewOut (w : World) (e : Ending) (w' : World) : Prop := ∃ pe, e = .returned (.pointer (some ⟨pe, 0, none⟩)) ∧ EN w pe w.heap.size [] 0 w'
theorem e_new (w : World) : Calls Try.prog 8 #[] w (NewOut w) := by
  go_enter Try.func8, Try.ntmps8
  go_wp2_with (first | (go_at_call 17; go_in) | (go_at_call 16; go_in) | (go_at_call 26; go_in) | fail)
  refine (lnew _).mono ?_
  rintro e w1 ⟨rfl, hs1, hb1⟩
  have H1 := Lib.hid hs1
  have B1 := Lib.hid hb1
  clear hs1 hb1
  go_wp2_with (first | (go_at_call 17; go_in) | (go_at_call 16; go_in) | (go_at_call 26; go_in) | fail)
  refine (lnew _).mono ?_
  rintro e w2 ⟨rfl, hs2, hb2⟩
  have B2 := Lib.hid hb2
  clear hs2 hb2
  go_wp2_with (first | (go_at_call 17; go_in) | (go_at_call 16; go_in) | (go_at_call 26; go_in) | fail)
  go_ret
  refine ⟨w2.heap.size + 1, rfl, ?_⟩
  have key : ∀ cs : Array Value, cs[1]? = some (.pointer (some ⟨w.heap.size, 0, none⟩)) → EN w (w2.heap.size + 1) w.heap.size [] 0 ((w2.alloc (.cells #[.slice none 0 0, .int .i64 (-1), .int .i64 (-1)] 76)).alloc (.cells cs 50)) := fun cs h => by
    have := e_new_end w w1 w2 _ cs H1.out B1.out B2.out ((Below.refl _ _).alloc (Nat.le_refl _) (.cells #[.slice none 0 0, .int .i64 (-1), .int .i64 (-1)] 76)) h
    rw [World.size_alloc] at this
    exact this
  exact key _ rfl
theorem SM.app {ws : World} {pe p m cap : Nat} {L K : List Int} {N : Nat} {wr w' : World} {v : Int} {o : Obj} (h : SM ws pe p m cap L K N wr)
    (hown : w'.ownsRow ws.heap.size 2 1 (.slice (some ⟨m, 0, none⟩) (K.length + 1) cap) (K.length + 1) (K.reverse.map (Value.int .i64) ++ [.int .i64 v])) (hg : (wr.alloc o).grownBy w' (some m)) : SM ws pe p m cap L (v :: K) N w' := by
  obtain ⟨h1, h2⟩ := h
  obtain ⟨cs, hr⟩ := h2.row
  have ht : Touch (· = m) wr w' := ((Touch.refl (· = m) wr).alloc o).grown hg (fun k hk _ => by injection hk with hk; exact hk.symm)
  have hm : ws.heap.size ≤ m := (h2.lt m rfl).1
  refine ⟨h1.touch ht fun k hk => ⟨2, cs, hk ▸ hr, by decide, by decide, by decide, by omega⟩, ?_⟩
  unfold Mod
  rw [List.length_cons, List.reverse_cons, List.map_append]
  exact hown
theorem SM.cut {ws : World} {pe p m cap : Nat} {L K : List Int} {N : Nat} {wr : World} {v : Int} (h : SM ws pe p m cap L (v :: K) N wr) : SM ws pe p m cap L K N wr := by
  obtain ⟨h1, h2⟩ := h
  refine ⟨h1, ?_⟩
  unfold Mod at h2
  rw [List.length_cons, List.reverse_cons, List.map_append] at h2
  exact ownsRow_pop (by simp) h2
theorem SM.last {ws : World} {pe p m cap : Nat} {L K : List Int} {N : Nat} {wr : World} {v : Int} (h : SM ws pe p m cap L (v :: K) N wr) : wr.cell? ⟨m, K.length, none⟩ = some (.int .i64 v) := by
  obtain ⟨h1, h2⟩ := h
  unfold Mod at h2
  rw [h2.cellAt K.length (by simp)]
  simp
theorem SM.mod {ws : World} {pe p m cap : Nat} {L K : List Int} {N : Nat} {wr : World} (h : SM ws pe p m cap L K N wr) :
    wr.ownsRow ws.heap.size 2 1 (.slice (some ⟨m, 0, none⟩) K.length cap) K.length (K.reverse.map (Value.int .i64)) := h.2
theorem Mod.keep {wr w' : World} {B m cap : Nat} {L : List Int} {pe p : Nat} (h : Mod wr B m cap L) (hk : EKeep pe p wr w') : Mod w' B m cap L := by
  refine ⟨h.1, ?_⟩
  rcases h.2 with h2 | ⟨g, cap, cur, hv, hb, hg, r⟩
  · exact .inl h2
  · exact .inr ⟨g, cap, cur, hv, hb, hk g 2 cur hg (by decide) (by decide), r⟩
theorem s_push (ws : World) (pe p m cap : Nat) (L K : List Int) (N : Nat) (wr : World) (h : SM ws pe p m cap L K N wr) (hN : N ≤ 1048576) (v : Int) :
    Calls Try.prog 10 #[.pointer (some ⟨pe, 0, none⟩), .int .i64 v] wr fun e w' => e = NoEnd ∧ SM ws pe p m cap (v :: L) K (N + 1) w' :=
  (e_push ws pe p L N wr h.1 hN v).mono fun _ _ ⟨he, h1, h2⟩ => ⟨he, h1, h.2.keep h2⟩
theorem s_pop (ws : World) (pe p m cap : Nat) (L K : List Int) (N : Nat) (wr : World) (v : Int) (h : SM ws pe p m cap (v :: L) K N wr) :
    Calls Try.prog 11 #[.pointer (some ⟨pe, 0, none⟩)] wr fun e w' => e = .returned (.tuple #[.int .i64 v, .bool true]) ∧ SM ws pe p m cap L K N w' :=
  (e_pop ws pe p L N wr v h.1).mono fun _ _ ⟨he, h1, h2⟩ => ⟨he, h1, h.2.keep h2⟩
theorem make0 (n : Nat) (hn : n ≤ 1048576) (W : World) : (Instr.makeSlice 23 (.int .i64 0) (.int .i64 (n : Int))).run Try.prog W = .ok (.slice (some ⟨W.heap.size, 0, none⟩) 0 n) (W.alloc (.cells (madeCells #[.int .i64 0] n) 2)) := by
  obtain ⟨i, hi, hz0, hz1, hz2⟩ := info_parts info2
  have hr := run_make (P := Try.prog) W 23 2 i (.int .i64 0) Try.underlying23 hi hz0 .i64 .i64 0 (n : Int) (by omega) (by omega) (by rw [hz2]; omega) (by omega)
  rw [hz1] at hr
  simp only [Int.toNat_zero, Int.toNat_natCast, Nat.mul_one] at hr
  exact hr
def sliceLen : Value → Nat | .slice _ n _ => n | _ => 0
theorem EN.keep {ws : World} {pe p : Nat} {L : List Int} {N : Nat} {wr w' : World} (h : EN ws pe p L N wr) (hb : Below wr.heap.size wr w') : EN ws pe p L N w' :=
  h.touch (Touch.of_below hb (fun _ => False)) (fun _ h => h.elim)
theorem SM.start {ws w3 : World} {n pe p : Nat} (hn : n ≤ 1048576) (h : EN ws pe p [] 0 w3) : SM ws pe p w3.heap.size n [] [] 0 (w3.alloc (.cells (madeCells #[.int .i64 0] n) 2)) :=
  ⟨h.keep ((Below.refl _ _).alloc (Nat.le_refl _) _), World.ownsRow_made _ _ _ h.below.size (by unfold maxLen; omega) (by rw [size_madeCells]; omega)⟩
end Go.Proofs.Ytohgcoepdfhbmaa
