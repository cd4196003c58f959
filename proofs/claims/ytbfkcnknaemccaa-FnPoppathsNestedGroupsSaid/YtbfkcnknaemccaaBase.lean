/-
  Contracts of the seat n001_93: the law's copy of a slice, the path environment over the stack, and poppaths. Printed by gen.py.
-/
import Derived.Test.YtbfkcnknaemccaaChain
import Derived.Test.YtbfkcnknaemccaaIsRow
import Derived.Maps.AppendAt
namespace Go.Proofs.Ytbfkcnknaemccaa
set_option linter.unusedVariables false
open Go.ChangeShapes Go.WideShapes Go.ChangeAt Go.RowKit M
theorem info3 : (Try.prog.info? 3).map (fun i => (i.zero, i.size, i.bytes)) = some (some (.int .i64 0), 1, 8) := by kernel_rfl
set_option maxHeartbeats 1000000 in
theorem copy_ints (a : Option Addr) (len cap : Nat) (zs : List Int) (w : World) (h : IsRow .i64 w a len cap zs) (hl : len ≤ 1048576) :
    Calls Try.prog 6 #[.slice a len cap] w (CopyOut .i64 3 len zs w) := by
  have hlz := h.len.1
  have hnil := fun W => Lib.run_eql_slice_nil (P := Try.prog) W 22 3 a len cap 0 0 Try.underlying22
  have hmk := fun W => run_make_row' (P := Try.prog) 22 3 (.int .i64 0) 8 Try.underlying22 info3 rfl .i64 .i64 len (by omega) (by omega) W
  have H := Lib.hid h
  rcases a with _ | x
  · have h0 : len = 0 := by
      rcases h with ⟨_, h0, _⟩ | ⟨x, h0, _⟩
      · exact h0
      · cases h0
    subst h0
    clear h hmk
    go_enter Try.func6, Try.ntmps6
    go_wp2
    go_ret
    exact ⟨none, 0, rfl, .inl rfl, Below.refl _ _⟩
  · clear h
    go_enter Try.func6, Try.ntmps6
    go_wp2
    go_loopw [4] (fun i wr => ∃ (j : Nat) (cs : Array Value), j ≤ len ∧ i = .int .i64 j ∧ Row wr w.heap.size 3 cs ∧ cs.size = len ∧ CopyTo .i64 zs j cs ∧ Below w.heap.size w wr) (fun i _ => len - (intOf i).toNat)
    case atStart => exact ⟨0, _, Nat.zero_le _, rfl, Row.made _ _ _, size_madeCells _ _, fun j hj => absurd hj (by omega), (Below.refl _ _).alloc (Nat.le_refl _) _⟩
    case round =>
      obtain ⟨j, cs, hj, rfl, hr, hz, hC, hb⟩ := hrel
      have HR := Lib.hid hr
      have HZ := Lib.hid hz
      have HC := Lib.hid hC
      have HB := Lib.hid hb
      by_cases hlt : j < len
      · obtain ⟨b, o, hx, hbl, hcell⟩ := H.out.open_ (by omega)
        injection hx with hx
        subst hx
        obtain ⟨v, hc⟩ := hr.has j (by omega)
        have hf := hr.free j
        have cx := (hb.cell (p := ⟨b, o + j, none⟩) hbl).trans (hcell j hlt)
        clear hr hz hC hb hcell
        go_wp2
        exact ⟨⟨j + 1, _, by omega, by go_num, HR.out.put _ _, by simpa using HZ.out, HC.out.step (by rw [HZ.out]; exact hlt), HB.out.setCell (Nat.le_refl _) _⟩, by simp [intOf]; omega⟩
      · obtain rfl : j = len := by omega
        clear hr hz hC hb
        go_wp2
        go_ret
        refine ⟨_, _, rfl, .inr ⟨w.heap.size, rfl, Nat.le_refl _, ?_⟩, HB.out⟩
        have := HC.out.all HZ.out hlz
        rw [← this]
        exact HR.out

@[go_sem] theorem as3_3 (v : Value) (w : World) : (Instr.typeAssert (.iface 3 v) 20 3 true).run Try.prog w = .ok (.tuple #[v, .bool true]) w := by kernel_rfl
@[go_sem] theorem as50_50 (v : Value) (w : World) : (Instr.typeAssert (.iface 50 v) 20 50 false).run Try.prog w = .ok v w := by kernel_rfl
@[go_sem] theorem eq_n (t : TypeId) (v : Value) (w : World) : (binOp .eql 20 (.iface t v) .nilIface).run Try.prog w = .ok (.bool false) w := by kernel_rfl
@[go_sem] theorem eq_nn (w : World) : (binOp .eql 20 .nilIface .nilIface).run Try.prog w = .ok (.bool true) w := by kernel_rfl
@[go_sem] theorem ne_ii (a b : Int) (w : World) : (binOp .neq 20 (.iface 3 (.int .i64 a)) (.iface 3 (.int .i64 b))).run Try.prog w = .ok (.bool (a != b)) w := by kernel_rfl
theorem LStk.drewN {w : World} {B p : Nat} {d : Option Nat} {l : List (Nat × Value)} {idx lim : Int} {sv : List (Int × Int × List (Nat × Value))} {N : Nat} (h : LStk w B p d l idx lim sv N) (n : Nat) : LStk (w.drewN n) B p d l idx lim sv N :=
  h.touch ((Touch.refl (fun _ => False) w).drewN n) (fun h => h) (fun _ _ h => h)
theorem LStk.base {w : World} {B B' p : Nat} {d : Option Nat} {l : List (Nat × Value)} {idx lim : Int} {sv : List (Int × Int × List (Nat × Value))} {N : Nat} (h : LStk w B p d l idx lim sv N) (hB : B' ≤ B) : LStk w B' p d l idx lim sv N := by
  obtain ⟨D, ⟨A, c, hr, hp, ho, hd⟩, r⟩ := h
  refine ⟨D, ⟨A, c, hr, by omega, ⟨ho.1, ?_⟩, hd⟩, r⟩
  rcases ho.2 with h2 | ⟨g, cap, cur, hv, hb, r⟩
  · exact .inl h2
  · exact .inr ⟨g, cap, cur, hv, by omega, r⟩
/-- The environment at block pe leads to the stack at p, which spells l; nothing below ws's end has turned. -/
def PE (ws : World) (pe p : Nat) (l : List (Nat × Value)) (N : Nat) (wr : World) : Prop :=
  ∃ d idx cs, LStk wr ws.heap.size p d l idx (-1) [] N ∧ Row wr pe 47 cs ∧ cs[2]? = some (.pointer (some ⟨p, 0, none⟩)) ∧ ws.heap.size ≤ pe ∧ Below ws.heap.size ws wr
theorem PE.below {ws : World} {pe p : Nat} {l : List (Nat × Value)} {N : Nat} {wr : World} (h : PE ws pe p l N wr) : Below ws.heap.size ws wr := by
  obtain ⟨d, idx, cs, h1, h2, h3, h4, h5⟩ := h
  exact h5
theorem PE.cell {ws : World} {pe p : Nat} {l : List (Nat × Value)} {N : Nat} {wr : World} (h : PE ws pe p l N wr) : wr.cell? ⟨pe, 2, none⟩ = some (.pointer (some ⟨p, 0, none⟩)) := by
  obtain ⟨d, idx, cs, h1, h2, h3, h4, h5⟩ := h
  rw [h2.cell, h3]
theorem PE.touch {ws : World} {pe p : Nat} {l : List (Nat × Value)} {N : Nat} {wr w' : World} {S : Nat → Prop} (h : PE ws pe p l N wr) (ht : Touch S wr w') (hS : ∀ k, S k → ∃ t cs, Row wr k t cs ∧ t ≠ 38 ∧ t ≠ 55 ∧ t ≠ 47 ∧ ws.heap.size ≤ k) : PE ws pe p l N w' := by
  obtain ⟨d, idx, cs, h1, h2, h3, h4, h5⟩ := h
  refine ⟨d, idx, cs, h1.touch ht (fun hs => ?_) (fun k hk hs => ?_), h2.touch ht (fun hs => ?_), h3, h4, h5.trans (ht.below h5.size fun k hk hs => ?_)⟩
  · obtain ⟨t, cs', hr, n1, n2, n3, n4⟩ := hS _ hs
    exact (h1.ne hr (Ne.symm n1) (Ne.symm n2)).1 rfl
  · obtain ⟨t, cs', hr, n1, n2, n3, n4⟩ := hS _ hs
    exact (h1.ne hr (Ne.symm n1) (Ne.symm n2)).2 hk
  · obtain ⟨t, cs', hr, n1, n2, n3, n4⟩ := hS _ hs
    unfold Row at hr h2
    rw [h2] at hr
    injection hr with hr
    injection hr with _ hr
    exact n3 hr.symm
  · obtain ⟨t, cs', hr, n1, n2, n3, n4⟩ := hS _ hs
    omega
theorem PE.keep {ws : World} {pe p : Nat} {l : List (Nat × Value)} {N : Nat} {wr w' : World} (h : PE ws pe p l N wr) (hb : Below wr.heap.size wr w') : PE ws pe p l N w' :=
  h.touch (Touch.of_below hb (fun _ => False)) (fun _ h => h.elim)
theorem pe_push (ws : World) (pe p : Nat) (l : List (Nat × Value)) (N : Nat) (wr : World) (h : PE ws pe p l N wr) (hN : N ≤ 1048576) (t : Nat) (x : Value) :
    Calls Try.prog 14 #[.pointer (some ⟨p, 0, none⟩), .iface t x] wr fun e w' => e = NoEnd ∧ PE ws pe p ((t, x) :: l) (N + 1) w' := by
  obtain ⟨d, idx, cs, h1, h2, h3, h4, h5⟩ := h
  refine (lpush wr _ _ d l idx _ _ _ h1 hN t x).mono fun e w' ⟨he, d', idx', hs, hd', ht⟩ => ?_
  obtain ⟨n1, n2⟩ := h1.ne h2 (by decide) (by decide)
  refine ⟨he, d', idx', cs, hs, h2.touch ht (fun h => ?_), h3, h4, h5.trans (ht.below h5.size fun k hk h => ?_)⟩
  · rcases h with h | h
    · exact n1 h
    · exact n2 h
  · rcases h with h | h
    · have := h1.lt.1; omega
    · subst h; have := h1.dlt.1; omega
theorem pe_pop (ws : World) (pe p : Nat) (l : List (Nat × Value)) (v : Nat × Value) (N : Nat) (wr : World) (h : PE ws pe p (v :: l) N wr) :
    Calls Try.prog 16 #[.pointer (some ⟨p, 0, none⟩)] wr fun e w' => e = .returned (.iface v.1 v.2) ∧ PE ws pe p l N w' ∧ Touch (· = p) wr w' := by
  obtain ⟨d, idx, cs, h1, h2, h3, h4, h5⟩ := h
  refine (lpop wr _ _ d l v idx _ _ _ h1).mono fun e w' ⟨he, ⟨idx', hs⟩, ht⟩ => ?_
  obtain ⟨n1, n2⟩ := h1.ne h2 (by decide) (by decide)
  refine ⟨he, ⟨d, idx', cs, hs, h2.touch ht n1, h3, h4, h5.trans (ht.below h5.size fun k hk h => ?_)⟩, ht⟩
  have := h1.lt.1; omega
theorem pe_empty (ws : World) (pe p : Nat) (l : List (Nat × Value)) (N : Nat) (wr : World) (h : PE ws pe p l N wr) :
    Calls Try.prog 12 #[.pointer (some ⟨pe, 0, none⟩)] wr fun e w' => e = .returned (.bool l.isEmpty) ∧ wr = w' := by
  have hc := h.cell
  have H := Lib.hid h
  clear h
  go_enter Try.func12, Try.ntmps12
  go_wp2_with fail
  obtain ⟨d, idx, cs, h1, _⟩ := H.out
  refine (lempty _ _ _ d l idx _ _ _ h1).mono ?_
  rintro e w' ⟨rfl, rfl⟩
  clear h1
  go_wp2
  go_ret
  exact ⟨rfl, rfl⟩
theorem pe_made (w : World) (cs : Array Value) (h : cs[2]? = some (.pointer (some ⟨w.heap.size, 0, none⟩))) :
    PE w (w.heap.size + 1) w.heap.size [] 0 ((w.alloc (.cells #[.slice none 0 0, .int .i64 (-1), .int .i64 (-1)] 38)).alloc (.cells cs 47)) := by
  have hr := Row.made (w.alloc (.cells #[.slice none 0 0, .int .i64 (-1), .int .i64 (-1)] 38)) 47 cs
  rw [World.size_alloc] at hr
  exact ⟨none, -1, cs, ⟨[], ⟨none, 0, (Row.made _ _ _).alloc _, Nat.le_refl _, World.ownsRow_nil _ _ _ _, rfl⟩, rfl, by omega, by simp, trivial, by simp⟩, hr, h, by omega, ((Below.refl _ _).alloc (Nat.le_refl _) _).alloc (by simp) _⟩
theorem pe_new (w : World) : Calls Try.prog 7 #[] w fun e w' => e = .returned (.pointer (some ⟨w.heap.size + 1, 0, none⟩)) ∧ PE w (w.heap.size + 1) w.heap.size [] 0 w' := by
  go_enter Try.func7, Try.ntmps7
  go_wp2
  go_ret
  exact ⟨rfl, pe_made w _ rfl⟩
theorem pe_raw (ws : World) (pe p : Nat) (l : List (Nat × Value)) (N : Nat) (wr : World) (h : PE ws pe p l N wr) (hN : N ≤ 1048576) (t : Nat) (x : Value) :
    Calls Try.prog 8 #[.pointer (some ⟨pe, 0, none⟩), .iface t x] wr fun e w' => e = NoEnd ∧ PE ws pe p ((t, x) :: l) (N + 1) w' := by
  have hc := h.cell
  have H := Lib.hid h
  clear h
  go_enter Try.func8, Try.ntmps8
  go_wp2_with fail
  refine (pe_push ws pe p l N _ H.out hN t x).mono ?_
  rintro e w' ⟨rfl, hs⟩
  have HS := Lib.hid hs
  clear hs
  unfold NoEnd
  go_wp2
  go_end0
  exact ⟨rfl, HS.out⟩
def IfaceLike (a : Value) : Prop := a = .nilIface ∨ ∃ t x, a = .iface t x
theorem pe_path (ws : World) (pe p : Nat) (l : List (Nat × Value)) (N : Nat) (wr : World) (h : PE ws pe p l N wr) (hN : N ≤ 1048576) (a b : Value) (ha : IfaceLike a) (hb : IfaceLike b) :
    Calls Try.prog 9 #[.pointer (some ⟨pe, 0, none⟩), a, b] wr fun e w' => e = NoEnd ∧ PE ws pe p ((50, .agg #[a, b]) :: l) (N + 1) w' := by
  have hc := h.cell
  have H := Lib.hid h
  clear h
  rcases ha with rfl | ⟨t1, x1, rfl⟩ <;> rcases hb with rfl | ⟨t2, x2, rfl⟩
  all_goals
    go_enter Try.func9, Try.ntmps9
    go_wp2_with fail
    refine (pe_push ws pe p l N _ H.out hN 50 _).mono ?_
    rintro e w' ⟨rfl, hs⟩
    have HS := Lib.hid hs
    clear hs
    unfold NoEnd
    go_wp2
    go_end0
    exact ⟨rfl, HS.out⟩
theorem pe_int (ws : World) (pe p : Nat) (l : List (Nat × Value)) (n : Int) (N : Nat) (wr : World) (h : PE ws pe p ((3, .int .i64 n) :: l) N wr) :
    Calls Try.prog 11 #[.pointer (some ⟨pe, 0, none⟩)] wr fun e w' => e = .returned (.tuple #[.int .i64 n, .bool true]) ∧ PE ws pe p l N w' ∧ Touch (· = p) wr w' := by
  have hc := h.cell
  have H := Lib.hid h
  clear h
  go_enter Try.func11, Try.ntmps11
  go_wp2_with fail
  refine (pe_pop ws pe p l (3, .int .i64 n) N _ H.out).mono ?_
  rintro e w' ⟨rfl, hs, ht⟩
  have HS := Lib.hid hs
  have HT := Lib.hid ht
  clear hs ht
  go_wp2
  go_ret2
  exact ⟨rfl, HS.out, HT.out⟩
/-- The entries of a group's paths, top first, over its marker. -/
def ents (vs : List Int) : List (Nat × Value) := vs.map fun n => (50, .agg #[.iface 3 (.int .i64 n), .nilIface])
def vals (vs : List Int) : List Value := vs.map fun n => .iface 3 (.int .i64 n)
theorem any_info : (Try.prog.info? 20).map (fun i => (i.zero, i.size, i.bytes)) = some (some .nilIface, 1, 16) := by kernel_rfl
/-- A row of the call's own beside the environment. -/
theorem own_row {w : World} {base : Nat} {e : TypeId} {size n : Nat} {v : Value} {xs : List Value} (h : w.ownsRow base e size v n xs) (k : Nat) (hk : v.ownBlock = some k) : ∃ cs, Row w k e cs ∧ base ≤ k := by
  rcases h.2 with ⟨rfl, _⟩ | ⟨g', cap, cur, rfl, hb, hg, _⟩
  · cases hk
  · have : g' = k := by simpa [Value.ownBlock] using hk
    subst this
    exact ⟨cur, hg, hb⟩
/-- Positions below i and from n - i on hold the mirrored value. -/
def Mid (orig : List Value) (i : Nat) (cs : List Value) : Prop := cs.length = orig.length ∧ ∀ k, k < orig.length → cs[k]? = if k < i ∨ orig.length ≤ k + i then orig[orig.length - 1 - k]? else orig[k]?
theorem Mid.start (orig : List Value) : Mid orig 0 orig := ⟨rfl, fun k hk => by rw [if_neg (by omega)]⟩
theorem Mid.form {vs : List Int} {cs : List Value} {i : Nat} (h : Mid (vals vs) i cs) (k : Nat) (hk : k < vs.length) : ∃ x : Int, cs[k]? = some (.iface 3 (.int .i64 x)) := by
  have hl : (vals vs).length = vs.length := by unfold vals; simp
  have h1 := h.2 k (by omega)
  have hf : ∀ j, j < vs.length → ∃ x : Int, (vals vs)[j]? = some (.iface 3 (.int .i64 x)) := fun j hj => ⟨vs[j], by unfold vals; rw [List.getElem?_map, List.getElem?_eq_getElem hj]; rfl⟩
  rw [h1]
  split
  · exact hf _ (by omega)
  · exact hf _ hk
theorem Mid.done {orig cs : List Value} {i : Nat} (h : Mid orig i cs) (hi : orig.length ≤ 2 * i + 1) : cs = orig.reverse := by
  apply List.ext_getElem?
  intro k
  by_cases hk : k < orig.length
  · rw [h.2 k hk, List.getElem?_reverse hk]
    by_cases hc : k < i ∨ orig.length ≤ k + i
    · rw [if_pos hc]
    · rw [if_neg hc, show orig.length - 1 - k = k by omega]
  · rw [List.getElem?_eq_none (by rw [h.1]; omega), List.getElem?_eq_none (by rw [List.length_reverse]; omega)]
theorem Mid.step {orig cs : List Value} {i j : Nat} {a b : Value} (h : Mid orig i cs) (hij : i < j) (hj : i + j + 1 = orig.length) (ha : cs[i]? = some a) (hb : cs[j]? = some b) : Mid orig (i + 1) ((cs.set i b).set j a) := by
  refine ⟨by simp [h.1], fun k hk => ?_⟩
  have h1 := h.2 i (by omega)
  have h2 := h.2 j (by omega)
  rw [ha, if_neg (by omega)] at h1
  rw [hb, if_neg (by omega)] at h2
  rw [List.getElem?_set, List.getElem?_set]
  by_cases e1 : j = k
  · subst e1
    rw [if_pos rfl, if_pos (by simp [h.1]; omega), if_pos (by omega), show orig.length - 1 - j = i by omega, h1]
  · rw [if_neg e1]
    by_cases e2 : i = k
    · subst e2
      rw [if_pos rfl, if_pos (by rw [h.1]; omega), if_pos (by omega), show orig.length - 1 - i = j by omega, h2]
    · rw [if_neg e2, h.2 k hk]
      by_cases hc : k < i ∨ orig.length ≤ k + i
      · rw [if_pos hc, if_pos (by omega)]
      · rw [if_neg hc, if_neg (by omega)]
def sliceLen : Value → Nat | .slice _ n _ => n | _ => 0
theorem PE.far {ws : World} {pe p : Nat} {l : List (Nat × Value)} {N : Nat} {wr : World} (h : PE ws pe p l N wr) {k : Nat} {t : TypeId} {cs : Array Value} (hr : Row wr k t cs) (h1 : 38 ≠ t) (h2 : 55 ≠ t) : k ≠ p := by
  obtain ⟨d, idx, cs', g1, _⟩ := h
  exact (g1.ne hr h1 h2).1
theorem PE.grown {ws : World} {pe p : Nat} {l : List (Nat × Value)} {N : Nat} {wr w' : World} {base n : Nat} {v : Value} {xs : List Value} (h : PE ws pe p l N wr) (ho : wr.ownsRow base 20 1 v n xs) (hb : ws.heap.size ≤ base) (hg : wr.grownBy w' v.ownBlock) : PE ws pe p l N w' := by
  refine h.touch (S := fun k => v.ownBlock = some k) ((Touch.refl _ wr).grown hg (fun k hk _ => hk)) fun k hk => ?_
  obtain ⟨cs, hr, hk2⟩ := own_row ho k hk
  exact ⟨20, cs, hr, by decide, by decide, by decide, by omega⟩
theorem vals_take (vs : List Int) (j : Nat) (hj : j < vs.length) : vals (vs.take (j + 1)) = vals (vs.take j) ++ [.iface 3 (.int .i64 (vs.getD j 0))] := by
  unfold vals
  rw [List.take_succ_eq_append_getElem hj, List.map_append, List.getD_eq_getElem?_getD, List.getElem?_eq_getElem hj]
  rfl
theorem ents_drop (vs : List Int) (j : Nat) (hj : j < vs.length) : ents (vs.drop j) = (50, .agg #[.iface 3 (.int .i64 (vs.getD j 0)), .nilIface]) :: ents (vs.drop (j + 1)) := by
  unfold ents
  rw [List.drop_eq_getElem_cons hj, List.map_cons, List.getD_eq_getElem?_getD, List.getElem?_eq_getElem hj]
  rfl
theorem row2 (w2 : World) (o : Obj) (v : Value) : ((w2.alloc o).alloc (.cells #[v] 20)).heap[w2.heap.size + 1]? = some (.cells #[v] 20 (0, 0)) := by
  have := Row.made (w2.alloc o) 20 #[v]
  rw [World.size_alloc] at this
  exact this
def PopOut (ws : World) (pe p : Nat) (l : List (Nat × Value)) (N : Nat) (vs : List Int) (base : Nat) (e : Ending) (w' : World) : Prop :=
  ∃ g cap, e = .returned (.slice (some ⟨g, 0, none⟩) vs.length cap) ∧ w'.ownsRow base 20 1 (.slice (some ⟨g, 0, none⟩) vs.length cap) vs.length (vals vs).reverse ∧ PE ws pe p l N w'
set_option maxRecDepth 100000 in
set_option maxHeartbeats 4000000 in
theorem poppaths (ws : World) (pe p : Nat) (vs : List Int) (b : Value) (l : List (Nat × Value)) (N : Nat) (w : World) (h : PE ws pe p (ents vs ++ (50, .agg #[.nilIface, b]) :: l) N w) (hb : IfaceLike b) (hl : vs.length ≤ 65536) :
    Calls Try.prog 15 #[.pointer (some ⟨pe, 0, none⟩)] w (PopOut ws pe p l N vs w.heap.size) := by
  have H := Lib.hid h
  have hws := h.below.size
  clear h
  obtain ⟨i0, hi0, hz0, hz1, hz2⟩ := info_parts any_info
  have HI := Lib.hid hi0
  have HZ0 := Lib.hid hz0
  have HZ1 := Lib.hid hz1
  have HZ2 := Lib.hid hz2
  clear hi0 hz0 hz1 hz2
  go_enter Try.func15, Try.ntmps15
  go_wp2_with fail
  go_loopw [3] (fun v wr => ∃ (j g cap : Nat), j ≤ vs.length ∧ v = .slice (some ⟨g, 0, none⟩) j cap ∧ wr.ownsRow w.heap.size 20 1 (.slice (some ⟨g, 0, none⟩) j cap) j (vals (vs.take j)) ∧ PE ws pe p (ents (vs.drop j) ++ (50, .agg #[.nilIface, b]) :: l) N wr ∧ w.heap.size ≤ wr.heap.size) (fun v _ => vs.length + 1 - sliceLen v)
  case atStart => exact ⟨0, w.heap.size, 0, Nat.zero_le _, rfl, World.ownsRow_made _ _ _ (Nat.le_refl _) (by unfold maxLen; omega) rfl, H.out.keep ((Below.refl _ _).alloc (Nat.le_refl _) _), by simp⟩
  case round =>
    obtain ⟨j, g, cap, hj, rfl, hown, hPE, hsz⟩ := hrel
    have HO := Lib.hid hown
    have hc := hPE.cell
    by_cases hlt : j < vs.length
    · have hP := hPE
      rw [ents_drop vs j hlt] at hP
      obtain ⟨v, hv⟩ : ∃ v, vs.getD j 0 = v := ⟨_, rfl⟩
      rw [hv] at hP
      have HP := Lib.hid hP
      have HV := Lib.hid hv
      clear hv
      have HF := Lib.hid hPE
      clear hown hPE hP H
      go_wp2_with fail
      refine (pe_pop ws pe p _ (50, .agg #[.iface 3 (.int .i64 v), .nilIface]) N _ HP.out).mono ?_
      rintro e w2 ⟨rfl, hP2, ht2⟩
      have HP2 := Lib.hid hP2
      have HO2 := Lib.hid (own_touch HO.out ht2 (fun k hk => by
        obtain ⟨cs, hr, _⟩ := own_row HO.out k hk
        exact HF.out.far hr (by decide) (by decide)))
      have hs2 := ht2.size
      clear hP2 ht2 hc
      go_wp2_with (at_builtin; refine wpList_append_lies _ rfl (.tmp 17) (.tmp 20) 29 rfl w.heap.size 20 i0 _ 1 16 Try.underlying29 HI.out HZ0.out HZ1.out HZ2.out rfl (by omega) (.slice (some ⟨g, 0, none⟩) j cap) j (vals (vs.take j)) rfl ((HO2.out.alloc _).alloc _) ⟨w2.heap.size + 1, 0, none⟩ 1 1 [.iface 3 (.int .i64 v)] rfl rfl (World.news_of_block (row2 w2 _ _)) (by simp [Value.oneCell']) (by omega) (by unfold maxLen; omega) (by omega) (by simp only [World.size_alloc]; omega) _ rfl ?_; intro g4 cap4 w4 hown4 hgrow4 hat4 hlt4; have HO4 := Lib.hid hown4; have HG4 := Lib.hid hgrow4; clear hown4 hgrow4 hat4)
      refine ⟨⟨j + 1, g4, cap4, by omega, rfl, ?_, ?_, ?_⟩, by simp [sliceLen]; omega⟩
      · rw [vals_take vs j hlt, HV.out]; exact HO4.out
      · exact (HP2.out.keep (((Below.refl _ _).alloc (Nat.le_refl _) _).alloc (by simp only [World.size_alloc]; omega) _)).grown ((HO2.out.alloc _).alloc _) hws HG4.out
      · have := HG4.out.size
        simp only [World.size_alloc] at this
        omega
    · obtain rfl : j = vs.length := by omega
      have hP := hPE
      rw [List.drop_of_length_le (Nat.le_refl _)] at hP
      have HP := Lib.hid hP
      have HF := Lib.hid hPE
      clear hown hPE hP H
      go_wp2_with fail
      refine (pe_pop ws pe p _ (50, .agg #[.nilIface, b]) N _ HP.out).mono ?_
      rintro e w2 ⟨rfl, hP2, ht2⟩
      have HP2 := Lib.hid hP2
      have HO2 := Lib.hid (own_touch HO.out ht2 (fun k hk => by
        obtain ⟨cs, hr, _⟩ := own_row HO.out k hk
        exact HF.out.far hr (by decide) (by decide)))
      have hs2 := ht2.size
      clear hP2 ht2 hc
      rw [List.take_of_length_le (Nat.le_refl _)] at HO2
      rcases hb with rfl | ⟨tb, xb, rfl⟩
      all_goals
        go_wp2_with fail
        go_loopw [5, 6] (fun i j wr => ∃ (k : Nat) (cs : List Value), 2 * k ≤ vs.length + 1 ∧ i = .int .i64 k ∧ j = .int .i64 ((vs.length : Int) - 1 - k) ∧ Mid (vals vs) k cs ∧ wr.ownsRow w.heap.size 20 1 (.slice (some ⟨g, 0, none⟩) vs.length cap) vs.length cs ∧ PE ws pe p l N wr) (fun i _ _ => vs.length - (intOf i).toNat)
        case atStart => exact ⟨0, vals vs, by omega, rfl, by simp, Mid.start _, HO2.out.alloc _, HP2.out.keep ((Below.refl _ _).alloc (Nat.le_refl _) _)⟩
        case round =>
          obtain ⟨k, cs, hk, rfl, rfl, hM, hown, hPE⟩ := hrel
          have HM := Lib.hid hM
          have HOW := Lib.hid hown
          have HPP := Lib.hid hPE
          have hvl : (vals vs).length = vs.length := by unfold vals; simp
          by_cases hlt : k + k + 1 < vs.length
          · obtain ⟨x, hx⟩ := hM.form k (by omega)
            obtain ⟨y, hy⟩ := hM.form (vs.length - 1 - k) (by omega)
            have cx := (hown.cellAt k (by omega)).trans hx
            have cy := (hown.cellAt (vs.length - 1 - k) (by omega)).trans hy
            have fx := hown.frozenAt k
            have fy := hown.frozenAt (vs.length - 1 - k)
            have HX := Lib.hid hx
            have HY := Lib.hid hy
            have HVL := Lib.hid hvl
            have i1 : (0 : Int) ≤ (vs.length : Int) - 1 - (k : Int) := by omega
            have i2 : (vs.length : Int) - 1 - (k : Int) < (vs.length : Int) := by omega
            have i3 : (k : Int) < (vs.length : Int) := by omega
            have i5 : k ≠ vs.length - 1 - k := by omega
            have i6 : (k : Int) < (vs.length : Int) - 1 - (k : Int) := by omega
            have i4 : ((vs.length : Int) - 1 - (k : Int)).toNat = vs.length - 1 - k := by omega
            clear hM hown hPE hx hy hvl
            go_wp2_with fail
            go_region
            all_goals go_wp2_with fail
            refine ⟨⟨k + 1, _, by omega, by go_num, ?_, HM.out.step (i := k) (j := vs.length - 1 - k) (by omega) (by rw [HVL.out]; omega) HX.out HY.out, ((HOW.out.stored k _).1.stored _ _).1.drew, HPP.out.touch ((((Touch.refl (· = g) _).setP _ _).setP _ _).drew) (fun q hq => ?_)⟩, by simp [intOf]; omega⟩
            · rw [show ((vs.length : Int) - 1 - (k : Int) - 1) = (vs.length : Int) - 1 - ((k + 1 : Nat) : Int) by omega]
            · subst hq
              obtain ⟨cs', hr, hb'⟩ := own_row HOW.out q rfl
              exact ⟨20, cs', hr, by decide, by decide, by decide, by omega⟩
          · have HC := Lib.hid (hM.done (by omega))
            clear hM hown hPE hvl
            go_wp2_with fail
            go_ret
            refine ⟨g, cap, rfl, ?_, HPP.out⟩
            rw [← HC.out]
            exact HOW.out
end Go.Proofs.Ytbfkcnknaemccaa
