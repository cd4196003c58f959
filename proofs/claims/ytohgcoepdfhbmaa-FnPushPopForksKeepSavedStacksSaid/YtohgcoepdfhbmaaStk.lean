/-
  Contracts of gojq's stack (newStack, push, pop, top, empty, save, restore): the stack in memory, 'Stk', is a list of entries (value, next), an index and a limit.
-/
import Derived.Test.YtohgcoepdfhbmaaMem
import Derived.Test.YtohgcoepdfhbmaaRows
import Derived.WalkKit
import Derived.IntWalk
import Derived.ProofKit
import Derived.WalkSpells
import Derived.WalkLawsBesides
import Derived.Deep.QuietTactic
import Derived.RegionTactic
import Derived.BigQuiet
import Derived.BigRegion
import Derived.OneCell
import Derived.OwnWalk
import Derived.Deep.AppendLies
import Derived.Deep.RegionLaw
import Derived.Laws.OwnMore
import Derived.Outline
namespace Go.Proofs.Ytohgcoepdfhbmaa
set_option linter.unusedVariables false
open Go.ChangeShapes Go.WideShapes Go.ChangeAt Go.RowKit M
/-- An entry: the value's dynamic type, the value, and the index of the entry below it. -/
abbrev Ent := Nat × Value × Int
def flat : List Ent → List Value
  | [] => []
  | e :: r => .iface e.1 e.2.1 :: .int .i64 e.2.2 :: flat r
theorem flat_length : ∀ D : List Ent, (flat D).length = D.length * 2
  | [] => rfl
  | e :: r => by simp only [flat, List.length_cons, flat_length r]; omega
theorem flat_append : ∀ (D E : List Ent), flat (D ++ E) = flat D ++ flat E
  | [], _ => rfl
  | e :: r, E => by simp only [flat, List.cons_append, flat_append r E]
theorem flat_get : ∀ (D : List Ent) (k : Nat) (e : Ent), D[k]? = some e → (flat D)[k * 2]? = some (.iface e.1 e.2.1) ∧ (flat D)[k * 2 + 1]? = some (.int .i64 e.2.2)
  | [], _, _, h => by simp at h
  | a :: r, 0, e, h => by
    simp only [List.getElem?_cons_zero, Option.some.injEq] at h
    subst h
    exact ⟨rfl, rfl⟩
  | a :: r, k + 1, e, h => by
    rw [List.getElem?_cons_succ] at h
    have h2 := flat_get r k e h
    rw [show (k + 1) * 2 = k * 2 + 1 + 1 by omega]
    simpa only [flat, List.getElem?_cons_succ] using h2
theorem flat_set : ∀ (D : List Ent) (k : Nat) (e : Ent), flat (D.set k e) = ((flat D).set (k * 2) (.iface e.1 e.2.1)).set (k * 2 + 1) (.int .i64 e.2.2)
  | [], _, _ => by simp [flat]
  | a :: r, 0, e => by simp [flat]
  | a :: r, k + 1, e => by
    rw [show (k + 1) * 2 = k * 2 + 1 + 1 by omega]
    simp only [flat, List.set_cons_succ, flat_set r k e]
/-- Every block of w but those of S is in w' as it was. -/
structure Touch (S : Nat → Prop) (w w' : World) : Prop where
  os : w'.os = w.os
  tape : w'.tape = w.tape
  output : w'.output = w.output
  size : w.heap.size ≤ w'.heap.size
  block : ∀ k, k < w.heap.size → ¬ S k → w'.heap[k]? = w.heap[k]?
theorem Touch.refl (S : Nat → Prop) (w : World) : Touch S w w := ⟨rfl, rfl, rfl, Nat.le_refl _, fun _ _ _ => rfl⟩
theorem Touch.trans {S : Nat → Prop} {a b c : World} (h : Touch S a b) (k : Touch S b c) : Touch S a c :=
  ⟨k.os.trans h.os, k.tape.trans h.tape, k.output.trans h.output, Nat.le_trans h.size k.size, fun i hi hn => (k.block i (Nat.lt_of_lt_of_le hi h.size) hn).trans (h.block i hi hn)⟩
theorem Touch.mono {S T : Nat → Prop} {a b : World} (h : Touch S a b) (hst : ∀ k, k < a.heap.size → S k → T k) : Touch T a b :=
  ⟨h.os, h.tape, h.output, h.size, fun i hi hn => h.block i hi (fun hs => hn (hst i hi hs))⟩
theorem Touch.below {S : Nat → Prop} {a b : World} {B : Nat} (h : Touch S a b) (hB : B ≤ a.heap.size) (hS : ∀ k, k < B → ¬ S k) : Below B a b :=
  ⟨h.os, h.tape, h.output, h.size, fun k hk => h.block k (by omega) (hS k hk)⟩
theorem Touch.of_below {a b : World} (h : Below a.heap.size a b) (S : Nat → Prop) : Touch S a b := ⟨h.os, h.tape, h.output, h.size, fun k hk _ => h.block k hk⟩
theorem Touch.drew {S : Nat → Prop} {a b : World} (h : Touch S a b) : Touch S a b.drew := ⟨h.os, h.tape, h.output, h.size, h.block⟩
theorem Touch.drewN {S : Nat → Prop} {a b : World} (h : Touch S a b) (n : Nat) : Touch S a (b.drewN n) := ⟨h.os, h.tape, h.output, h.size, h.block⟩
theorem Touch.alloc {S : Nat → Prop} {a b : World} (h : Touch S a b) (o : Obj) : Touch S a (b.alloc o) :=
  h.trans ⟨rfl, rfl, rfl, by simp, fun k hk _ => Below.heap_alloc _ _ _ hk⟩
theorem Touch.setCell {S : Nat → Prop} {a b : World} (h : Touch S a b) {p : Addr} (hp : p.block < a.heap.size → S p.block) (u : Value) : Touch S a (b.setCell p u) := by
  refine ⟨h.os, h.tape, h.output, by simpa [World.setCell] using h.size, fun k hk hn => ?_⟩
  rw [Below.heap_setCell _ _ _ _ (fun e => hn (by rw [e]; exact hp (by omega)))]
  exact h.block k hk hn
theorem Touch.setP {p : Nat} {a b : World} (h : Touch (· = p) a b) (i : Nat) (u : Value) : Touch (· = p) a (b.setCell ⟨p, i, none⟩ u) := h.setCell (p := ⟨p, i, none⟩) (fun _ => rfl) u
theorem M.Row.touch {S : Nat → Prop} {w w' : World} {g : Nat} {t : TypeId} {cs : Array Value} (h : Row w g t cs) (ht : Touch S w w') (hn : ¬ S g) : Row w' g t cs := (ht.block g h.lt hn).trans h
theorem Touch.grown {S : Nat → Prop} {a b c : World} {row : Option Nat} (h : Touch S a b) (hg : b.grownBy c row) (hr : ∀ k, row = some k → k < a.heap.size → S k) : Touch S a c :=
  ⟨hg.os.trans h.os, hg.tape.trans h.tape, hg.output.trans h.output, Nat.le_trans h.size hg.size, fun k hk hn => (hg.block k (Nat.lt_of_lt_of_le hk h.size) (fun e => hn (hr k e.symm hk))).trans (h.block k hk hn)⟩
theorem own_touch {S : Nat → Prop} {w w' : World} {base : Nat} {e : TypeId} {size n : Nat} {v : Value} {xs : List Value} (h : w.ownsRow base e size v n xs) (ht : Touch S w w') (hn : ∀ k, v.ownBlock = some k → ¬ S k) : w'.ownsRow base e size v n xs := by
  refine ⟨h.1, ?_⟩
  rcases h.2 with h2 | ⟨g, cap, cur, hv, hb, hg, r⟩
  · exact .inl h2
  · have hlt : g < w.heap.size := (h.lt g (by rw [hv]; rfl)).2
    exact .inr ⟨g, cap, cur, hv, hb, (ht.block g hlt (hn g (by rw [hv]; rfl))).trans hg, r⟩
/-- An owned row and a block of another element type do not meet. -/
theorem own_ne {w : World} {base : Nat} {e t : TypeId} {size n g : Nat} {v : Value} {xs : List Value} {cs : Array Value} (h : w.ownsRow base e size v n xs) (hr : Row w g t cs) (hne : e ≠ t) : v.ownBlock ≠ some g := by
  rcases h.2 with ⟨rfl, _⟩ | ⟨g', cap, cur, rfl, _, hg, _⟩
  · intro h; cases h
  · intro he
    have : g' = g := by simpa [Value.ownBlock] using he
    subst this
    unfold Row at hr
    rw [hg] at hr
    injection hr with hr
    injection hr with _ ht
    exact hne ht
theorem own_form {w : World} {base : Nat} {e : TypeId} {size n : Nat} {v : Value} {xs : List Value} (h : w.ownsRow base e size v n xs) : ∃ A c, v = .slice A n c := by
  rcases h.2 with ⟨rfl, rfl⟩ | ⟨g', cap, cur, rfl, _⟩
  · exact ⟨_, _, rfl⟩
  · exact ⟨_, _, rfl⟩
/-- The stack at block p: its entries D lie in an array of the call's own (block d, if any), from block number B on. -/
def Stk (w : World) (B p : Nat) (d : Option Nat) (D : List Ent) (idx lim : Int) : Prop :=
  ∃ A c, Row w p 67 #[.slice A D.length c, .int .i64 idx, .int .i64 lim] ∧ B ≤ p ∧ w.ownsRow B 78 2 (.slice A D.length c) D.length (flat D) ∧ (Value.slice A D.length c).ownBlock = d
theorem Stk.lt {w : World} {B p : Nat} {d : Option Nat} {D : List Ent} {idx lim : Int} (h : Stk w B p d D idx lim) : B ≤ p ∧ p < w.heap.size := by
  obtain ⟨A, c, hr, hB, _⟩ := h
  exact ⟨hB, hr.lt⟩
theorem Stk.dlt {w : World} {B p g : Nat} {D : List Ent} {idx lim : Int} (h : Stk w B p (some g) D idx lim) : B ≤ g ∧ g < w.heap.size := by
  obtain ⟨A, c, hr, hB, ho, hd⟩ := h
  exact ho.lt g hd
theorem Stk.touch {S : Nat → Prop} {w w' : World} {B p : Nat} {d : Option Nat} {D : List Ent} {idx lim : Int} (h : Stk w B p d D idx lim) (ht : Touch S w w') (hp : ¬ S p) (hd : ∀ k, d = some k → ¬ S k) : Stk w' B p d D idx lim := by
  obtain ⟨A, c, hr, hB, ho, rfl⟩ := h
  exact ⟨A, c, hr.touch ht hp, hB, own_touch ho ht hd, rfl⟩
theorem Stk.ne {w : World} {B p : Nat} {d : Option Nat} {D : List Ent} {idx lim : Int} (h : Stk w B p d D idx lim) {g : Nat} {t : TypeId} {cs : Array Value} (hr : Row w g t cs) (h1 : 67 ≠ t) (h2 : 78 ≠ t) : g ≠ p ∧ d ≠ some g := by
  obtain ⟨A, c, hp, hB, ho, rfl⟩ := h
  refine ⟨?_, own_ne ho hr h2⟩
  rintro rfl
  unfold Row at hp hr
  rw [hp] at hr
  injection hr with hr
  injection hr with _ ht
  exact h1 ht
theorem Stk.self {w : World} {B p : Nat} {d : Option Nat} {D : List Ent} {idx lim : Int} (h : Stk w B p d D idx lim) : d ≠ some p := by
  obtain ⟨A, c, hp, hB, ho, rfl⟩ := h
  exact own_ne ho hp (by decide)
theorem new_stack (w : World) : Calls Try.prog 25 #[] w fun e w' => e = .returned (.pointer (some ⟨w.heap.size, 0, none⟩)) ∧ Stk w' w.heap.size w.heap.size none [] (-1) (-1) ∧ Below w.heap.size w w' := by
  go_enter Try.func25, Try.ntmps25
  go_wp2
  go_ret
  exact ⟨rfl, ⟨none, 0, Row.made _ _ _, Nat.le_refl _, World.ownsRow_nil _ _ _ _, rfl⟩, (Below.refl _ _).alloc (Nat.le_refl _) _⟩
theorem empty_any (w : World) (B p : Nat) (d : Option Nat) (D : List Ent) (idx lim : Int) (h : Stk w B p d D idx lim) :
    Calls Try.prog 18 #[.pointer (some ⟨p, 0, none⟩)] w fun e w' => e = .returned (.bool (decide (idx < 0))) ∧ w = w' := by
  obtain ⟨A, c, hr, _⟩ := h
  have c1 := hr.cell 1
  simp only [List.getElem?_toArray, List.getElem?_cons_succ, List.getElem?_cons_zero] at c1
  clear hr
  go_enter Try.func18, Try.ntmps18
  go_wp2
  go_ret
  exact ⟨rfl, rfl⟩
set_option maxHeartbeats 1000000 in
theorem pop_any (w : World) (B p : Nat) (d : Option Nat) (D : List Ent) (lim : Int) (k : Nat) (h : Stk w B p d D k lim) (e : Ent) (he : D[k]? = some e) :
    Calls Try.prog 28 #[.pointer (some ⟨p, 0, none⟩)] w fun en w' => en = .returned (.iface e.1 e.2.1) ∧ Stk w' B p d D e.2.2 lim ∧ Touch (· = p) w w' := by
  have hk : k < D.length := (List.getElem?_eq_some_iff.1 he).1
  obtain ⟨A, c, hr, hB, ho, hd⟩ := h
  obtain ⟨g, cap, hv, hgB, hgl⟩ := ho.form (by omega)
  injection hv with hA _ hc
  subst hA hc
  obtain ⟨t, x, nx⟩ := e
  obtain ⟨f0, f1⟩ := flat_get D k _ he
  have e0 := (ho.cellAt (k * 2) (by omega)).trans f0
  have e1 := (ho.cellAt (k * 2 + 1) (by omega)).trans f1
  have c0 := hr.cell 0
  have c1 := hr.cell 1
  simp only [List.getElem?_toArray, List.getElem?_cons_succ, List.getElem?_cons_zero] at c0 c1
  have z1 := hr.free 1
  have hpl := hr.lt
  have HR := Lib.hid hr
  have HO := Lib.hid ho
  have HD := Lib.hid hd
  have HM : Hid (D.length ≤ maxLen) := by
    rcases ho.2 with ⟨h0, _⟩ | ⟨g', cap', cur, h0, _, _, h1, h2, _⟩
    · cases h0
    · exact Nat.le_trans h1 h2
  have hml := HM.out
  unfold maxLen at hml
  clear hr ho he f0 f1 hd
  go_enter Try.func28, Try.ntmps28
  go_wp2
  go_region
  all_goals go_wp2
  all_goals go_ret
  all_goals exact ⟨rfl, ⟨_, c, ((HR.out.put 1 _).alloc _).drew, hB, ((ownsRow_setCell_other HO.out (own_ne HO.out HR.out (by decide)) _).alloc _).drew, HD.out⟩, (((Touch.refl _ _).setP _ _).alloc _).drew⟩
def NoEnd : Ending := .returned (.tuple #[])
set_option maxHeartbeats 1000000 in
theorem save_any (w : World) (B p : Nat) (d : Option Nat) (D : List Ent) (idx lim : Int) (h : Stk w B p d D idx lim) :
    Calls Try.prog 29 #[.pointer (some ⟨p, 0, none⟩)] w fun en w' => en = .returned (.tuple #[.int .i64 idx, .int .i64 lim]) ∧ Stk w' B p d D idx (max idx lim) ∧ Touch (· = p) w w' := by
  obtain ⟨A, c, hr, hB, ho, hd⟩ := h
  have c0 := hr.cell 0
  have c1 := hr.cell 1
  have c2 := hr.cell 2
  simp only [List.getElem?_toArray, List.getElem?_cons_succ, List.getElem?_cons_zero] at c0 c1 c2
  have z0 := hr.free 0
  have z1 := hr.free 1
  have z2 := hr.free 2
  have hpl := hr.lt
  have HR := Lib.hid hr
  have HO := Lib.hid ho
  have HD := Lib.hid hd
  by_cases hil : lim < idx
  · have HX : Hid (max idx lim = idx) := by show max idx lim = idx; omega
    clear hr ho hd
    go_enter Try.func29, Try.ntmps29
    go_wp2
    go_quiet (fail)
    go_wp2
    go_quiet (fail)
    go_wp2
    go_ret2
    refine ⟨rfl, ?_, ?_⟩
    · rw [HX.out]
      exact ⟨A, c, Row.drewN (HR.out.put 2 _) _, hB, (ownsRow_setCell_other HO.out (own_ne HO.out HR.out (by decide)) _), HD.out⟩
    · exact ((Touch.refl _ _).drewN _).setP _ _
  · have HX : Hid (max idx lim = lim) := by show max idx lim = lim; omega
    clear hr ho hd
    go_enter Try.func29, Try.ntmps29
    go_wp2
    go_quiet (fail)
    go_wp2
    go_quiet (fail)
    go_wp2
    go_ret2
    refine ⟨rfl, ?_, ?_⟩
    · rw [HX.out]
      exact ⟨A, c, HR.out, hB, HO.out, HD.out⟩
    · exact ((Touch.refl _ _).drewN _).drewN _
theorem restore_any (w : World) (B p : Nat) (d : Option Nat) (D : List Ent) (idx lim i2 l2 : Int) (h : Stk w B p d D idx lim) :
    Calls Try.prog 33 #[.pointer (some ⟨p, 0, none⟩), .int .i64 i2, .int .i64 l2] w fun en w' => en = NoEnd ∧ Stk w' B p d D i2 l2 ∧ Touch (· = p) w w' := by
  obtain ⟨A, c, hr, hB, ho, hd⟩ := h
  have c0 := hr.cell 0
  have c1 := hr.cell 1
  have c2 := hr.cell 2
  simp only [List.getElem?_toArray, List.getElem?_cons_succ, List.getElem?_cons_zero] at c0 c1 c2
  have z0 := hr.free 0
  have z1 := hr.free 1
  have z2 := hr.free 2
  have hpl := hr.lt
  have HR := Lib.hid hr
  have HO := Lib.hid ho
  have HD := Lib.hid hd
  clear hr ho hd
  go_enter Try.func33, Try.ntmps33
  go_wp2
  go_end0
  exact ⟨rfl, ⟨A, c, (HR.out.put 1 _).put 2 _, hB, ownsRow_setCell_other (ownsRow_setCell_other HO.out (own_ne HO.out HR.out (by decide)) _) (own_ne HO.out HR.out (by decide)) _, HD.out⟩, ((Touch.refl _ _).setP _ _).setP _ _⟩
def pushD (D : List Ent) (i : Nat) (e : Ent) : List Ent := if i < D.length then D.set i e else D ++ [e]
def PushOut (w : World) (B p : Nat) (d : Option Nat) (D : List Ent) (idx lim : Int) (t : Nat) (x : Value) (en : Ending) (w' : World) : Prop :=
  en = NoEnd ∧ ∃ d', Stk w' B p d' (pushD D (max idx lim + 1).toNat (t, x, idx)) (max idx lim + 1) lim ∧ (d' = d ∨ ∃ k, d' = some k ∧ w.heap.size ≤ k) ∧ Touch (fun k => k = p ∨ d = some k) w w'
theorem push_set_end {w w1 : World} {B p : Nat} {d : Option Nat} {D : List Ent} {idx lim : Int} {t : Nat} {x : Value} {k g c m : Nat} (hB : B ≤ p)
    (R1 : Row w1 p 67 #[.slice (some ⟨g, 0, none⟩) D.length c, .int .i64 k, .int .i64 lim]) (O1 : w1.ownsRow B 78 2 (.slice (some ⟨g, 0, none⟩) D.length c) D.length (flat D)) (T1 : Touch (· = p) w w1)
    (hd : (Value.slice (some ⟨g, 0, none⟩) D.length c).ownBlock = d) (hk : max idx lim + 1 = k) (hlt : k < D.length) (hne : g ≠ p) :
    PushOut w B p d D idx lim t x NoEnd (((w1.drewN m).setCell ⟨g, k * 2, none⟩ (.iface t x)).setCell ⟨g, k * 2 + 1, none⟩ (.int .i64 idx)) := by
  subst hd
  have e1 : pushD D (max idx lim + 1).toNat (t, x, idx) = D.set k (t, x, idx) := by
    unfold pushD; rw [show (max idx lim + 1).toNat = k by omega, if_pos hlt]
  have O2 : (w1.drewN m).ownsRow B 78 2 (.slice (some ⟨g, 0, none⟩) D.length c) D.length (flat D) := O1
  have O4 := ((O2.stored (k * 2) (.iface t x)).1.stored (k * 2 + 1) (.int .i64 idx)).1
  have R4 : Row (((w1.drewN m).setCell ⟨g, k * 2, none⟩ (.iface t x)).setCell ⟨g, k * 2 + 1, none⟩ (.int .i64 idx)) p 67 #[.slice (some ⟨g, 0, none⟩) D.length c, .int .i64 k, .int .i64 lim] :=
    ((R1.drewN m).other (p := ⟨g, k * 2, none⟩) (Ne.symm hne) _).other (p := ⟨g, k * 2 + 1, none⟩) (Ne.symm hne) _
  refine ⟨rfl, _, ⟨some ⟨g, 0, none⟩, c, ?_, hB, ?_, rfl⟩, .inl rfl, ?_⟩
  · rw [e1, List.length_set, hk]; exact R4
  · rw [e1, List.length_set, flat_set]; exact O4
  · exact (((T1.mono (fun k _ h => .inl h)).drewN m).setCell (p := ⟨g, k * 2, none⟩) (fun _ => .inr rfl) _).setCell (p := ⟨g, k * 2 + 1, none⟩) (fun _ => .inr rfl) _
set_option maxRecDepth 100000 in
set_option maxHeartbeats 2000000 in
theorem push_set (w : World) (B p : Nat) (d : Option Nat) (D : List Ent) (idx lim : Int) (t : Nat) (x : Value) (h : Stk w B p d D idx lim) (h1 : -1 ≤ idx) (h2 : -1 ≤ lim) (h3 : idx < D.length) (h4 : lim < D.length) (h5 : D.length ≤ 1048576)
    (k : Nat) (hk : max idx lim + 1 = k) (hlt : k < D.length) :
    Calls Try.prog 27 #[.pointer (some ⟨p, 0, none⟩), .iface t x] w (PushOut w B p d D idx lim t x) := by
  obtain ⟨A, c, hr, hB, ho, hd⟩ := h
  have c0 := hr.cell 0
  have c1 := hr.cell 1
  have c2 := hr.cell 2
  simp only [List.getElem?_toArray, List.getElem?_cons_succ, List.getElem?_cons_zero] at c0 c1 c2
  have z0 := hr.free 0
  have z1 := hr.free 1
  have z2 := hr.free 2
  have hpl := hr.lt
  have HR := Lib.hid hr
  have HO := Lib.hid ho
  have HD := Lib.hid hd
  obtain ⟨g, cap, hv, hgB, hgl⟩ := ho.form (by omega)
  injection hv with hA _ hc
  subst hA hc
  obtain ⟨f0, f1⟩ := flat_get D k _ (List.getElem?_eq_getElem hlt)
  have e0 := (ho.cellAt (k * 2) (by omega)).trans f0
  have e1 := (ho.cellAt (k * 2 + 1) (by omega)).trans f1
  have y0 := ho.frozenAt (k * 2)
  have y1 := ho.frozenAt (k * 2 + 1)
  have hne : g ≠ p := fun e => own_ne ho hr (by decide) (by rw [e]; rfl)
  clear hr ho hd f0 f1
  go_enter Try.func27, Try.ntmps27
  go_wp2
  go_region
  all_goals go_wp2
  all_goals
    first | rw [show lim + 1 = (k : Int) from by omega] | rw [show idx + 1 = (k : Int) from by omega]
    have r1 : Row ((w.setCell ⟨p, 1, none⟩ (.int .i64 k)).alloc (.cells #[.iface t x, .int .i64 idx] 78)).drew p 67 #[.slice (some ⟨g, 0, none⟩) D.length c, .int .i64 k, .int .i64 lim] := ((HR.out.put 1 _).alloc _).drew
    have o1 : World.ownsRow ((w.setCell ⟨p, 1, none⟩ (.int .i64 k)).alloc (.cells #[.iface t x, .int .i64 idx] 78)).drew B 78 2 (.slice (some ⟨g, 0, none⟩) D.length c) D.length (flat D) := ((ownsRow_setCell_other HO.out (own_ne HO.out HR.out (by decide)) _).alloc _).drew
    have b1 : Row ((w.setCell ⟨p, 1, none⟩ (.int .i64 k)).alloc (.cells #[.iface t x, .int .i64 idx] 78)).drew w.heap.size 78 #[.iface t x, .int .i64 idx] := by
      have := Row.made (w.setCell ⟨p, 1, none⟩ (.int .i64 k)) 78 #[.iface t x, .int .i64 idx]
      rw [World.size_setCell] at this
      exact this.drew
    have t1 : Touch (· = p) w ((w.setCell ⟨p, 1, none⟩ (.int .i64 k)).alloc (.cells #[.iface t x, .int .i64 idx] 78)).drew := (((Touch.refl _ _).setP _ _).alloc _).drew
    obtain ⟨w1, hw1⟩ : ∃ w1, w1 = ((w.setCell ⟨p, 1, none⟩ (.int .i64 k)).alloc (.cells #[.iface t x, .int .i64 idx] 78)).drew := ⟨_, rfl⟩
    rw [← hw1] at r1 o1 b1 t1 ⊢
    clear hw1 c0 c1 c2 z0 z1 z2 e0 e1 y0 y1
    have c0 := r1.cell 0
    have c1 := r1.cell 1
    have q0 := b1.cell 0
    have q1 := b1.cell 1
    simp only [List.getElem?_toArray, List.getElem?_cons_succ, List.getElem?_cons_zero] at c0 c1 q0 q1
    have z0 := r1.free 0
    have R1 := Lib.hid r1
    have O1 := Lib.hid o1
    have B1 := Lib.hid b1
    have T1 := Lib.hid t1
    have hs1 := t1.size
    have hb1 := b1.lt
    have hp1 := r1.lt
    obtain ⟨f0, f1⟩ := flat_get D k _ (List.getElem?_eq_getElem hlt)
    have e0 := (o1.cellAt (k * 2) (by omega)).trans f0
    have e1 := (o1.cellAt (k * 2 + 1) (by omega)).trans f1
    have y0 := o1.frozenAt (k * 2)
    have y1 := o1.frozenAt (k * 2 + 1)
    have hqb : w.heap.size ≠ g := by omega
    clear r1 o1 b1 t1 f0 f1
    go_quiet (fail)
    go_wp2
    go_region
    all_goals go_wp2
    all_goals go_end0
    all_goals exact push_set_end hB R1.out O1.out T1.out HD.out hk hlt hne
theorem push_far {w2 w3 : World} {p : Nat} {cs es : Array Value} {t e : TypeId} {row : Option Nat} (r : Row w2 p t cs) (hg : (w2.drew.alloc (.cells es e)).grownBy w3 row) (hne : row ≠ some p) : Row w3 p t cs := by
  have h1 : Row (w2.drew.alloc (.cells es e)) p t cs := r.drew.alloc _
  exact (hg.block p h1.lt (Ne.symm hne)).trans h1
set_option maxRecDepth 100000 in
theorem block_info : (Try.prog.info? 78).map (fun i => (i.zero, i.size, i.bytes)) = some (some (.agg #[.nilIface, .int .i64 0]), 2, 24) := by kernel_rfl
theorem push_app_end {w w2 w3 : World} {B p : Nat} {d : Option Nat} {D : List Ent} {idx lim : Int} {t : Nat} {x : Value} {k c g2 cap2 : Nat} {A : Option Addr} (hB : B ≤ p)
    (D0 : Row w3 p 67 #[.slice A D.length c, .int .i64 k, .int .i64 lim]) (hown : w3.ownsRow B 78 2 (.slice (some ⟨g2, 0, none⟩) (D.length + 1) cap2) (D.length + 1) (flat D ++ [.iface t x, .int .i64 idx]))
    (hgrow : ((w2.alloc (.cells #[.iface t x, .int .i64 idx] 78)).drew).grownBy w3 (Value.slice A D.length c).ownBlock)
    (hat : (Value.slice A D.length c).ownBlock = some g2 ∨ g2 = ((w2.alloc (.cells #[.iface t x, .int .i64 idx] 78)).drew).heap.size) (T2 : Touch (· = p) w w2)
    (hd : (Value.slice A D.length c).ownBlock = d) (hk : max idx lim + 1 = k) (hl : k = D.length) :
    PushOut w B p d D idx lim t x NoEnd (w3.setCell ⟨p, 0, none⟩ (.slice (some ⟨g2, 0, none⟩) (D.length + 1) cap2)) := by
  have e1 : pushD D (max idx lim + 1).toNat (t, x, idx) = D ++ [(t, x, idx)] := by
    unfold pushD; rw [show (max idx lim + 1).toNat = k by omega, if_neg (by omega)]
  have e2 : (D ++ [(t, x, idx)]).length = D.length + 1 := by simp
  have e3 : flat (D ++ [(t, x, idx)]) = flat D ++ [.iface t x, .int .i64 idx] := by rw [flat_append]; rfl
  have S3 : Touch (fun k => k = p ∨ d = some k) w w3 :=
    (((T2.mono (T := fun k => k = p ∨ d = some k) (fun k _ h => .inl h)).alloc (.cells #[.iface t x, .int .i64 idx] 78)).drew).grown hgrow (fun k hk _ => .inr (hd.symm.trans hk))
  refine ⟨rfl, some g2, ⟨some ⟨g2, 0, none⟩, cap2, ?_, hB, ?_, rfl⟩, ?_, S3.setCell (p := ⟨p, 0, none⟩) (fun _ => .inl rfl) _⟩
  · rw [e1, e2, hk]; exact D0.put 0 _
  · rw [e1, e2, e3]; exact ownsRow_setCell_other hown (own_ne hown D0 (by decide)) _
  · rcases hat with h | h
    · exact .inl (h.symm.trans hd)
    · refine .inr ⟨g2, rfl, ?_⟩
      rw [h]
      show _ ≤ (w2.alloc _).heap.size
      rw [World.size_alloc]
      have := T2.size
      omega
set_option maxRecDepth 100000 in
set_option maxHeartbeats 2000000 in
theorem push_app (w : World) (B p : Nat) (d : Option Nat) (D : List Ent) (idx lim : Int) (t : Nat) (x : Value) (h : Stk w B p d D idx lim) (h1 : -1 ≤ idx) (h2 : -1 ≤ lim) (h3 : idx < D.length) (h4 : lim < D.length) (h5 : D.length ≤ 1048576)
    (k : Nat) (hk : max idx lim + 1 = k) (hlt : k = D.length) :
    Calls Try.prog 27 #[.pointer (some ⟨p, 0, none⟩), .iface t x] w (PushOut w B p d D idx lim t x) := by
  obtain ⟨A, c, hr, hB, ho, hd⟩ := h
  have c0 := hr.cell 0
  have c1 := hr.cell 1
  have c2 := hr.cell 2
  simp only [List.getElem?_toArray, List.getElem?_cons_succ, List.getElem?_cons_zero] at c0 c1 c2
  have z0 := hr.free 0
  have z1 := hr.free 1
  have z2 := hr.free 2
  have hpl := hr.lt
  have HR := Lib.hid hr
  have HO := Lib.hid ho
  have HD := Lib.hid hd
  obtain ⟨i0, hi0, hz0, hz1, hz2⟩ := info_parts block_info
  have HI := Lib.hid hi0
  have HZ0 := Lib.hid hz0
  have HZ1 := Lib.hid hz1
  have HZ2 := Lib.hid hz2
  have HK := Lib.hid hk
  have hkl : ¬ k < D.length := by omega
  have HL := Lib.hid hlt
  clear hr ho hd hi0 hz0 hz1 hz2 hlt
  go_enter Try.func27, Try.ntmps27
  go_wp2
  go_region
  all_goals go_wp2
  all_goals
    first | rw [show lim + 1 = (k : Int) from by omega] | rw [show idx + 1 = (k : Int) from by omega]
    have r1 : Row ((w.setCell ⟨p, 1, none⟩ (.int .i64 k)).alloc (.cells #[.iface t x, .int .i64 idx] 78)).drew p 67 #[.slice A D.length c, .int .i64 k, .int .i64 lim] := ((HR.out.put 1 _).alloc _).drew
    have o1 : World.ownsRow ((w.setCell ⟨p, 1, none⟩ (.int .i64 k)).alloc (.cells #[.iface t x, .int .i64 idx] 78)).drew B 78 2 (.slice A D.length c) D.length (flat D) := ((ownsRow_setCell_other HO.out (own_ne HO.out HR.out (by decide)) _).alloc _).drew
    have b1 : Row ((w.setCell ⟨p, 1, none⟩ (.int .i64 k)).alloc (.cells #[.iface t x, .int .i64 idx] 78)).drew w.heap.size 78 #[.iface t x, .int .i64 idx] := by
      have := Row.made (w.setCell ⟨p, 1, none⟩ (.int .i64 k)) 78 #[.iface t x, .int .i64 idx]
      rw [World.size_setCell] at this
      exact this.drew
    have t1 : Touch (· = p) w ((w.setCell ⟨p, 1, none⟩ (.int .i64 k)).alloc (.cells #[.iface t x, .int .i64 idx] 78)).drew := (((Touch.refl _ _).setP _ _).alloc _).drew
    obtain ⟨w1, hw1⟩ : ∃ w1, w1 = ((w.setCell ⟨p, 1, none⟩ (.int .i64 k)).alloc (.cells #[.iface t x, .int .i64 idx] 78)).drew := ⟨_, rfl⟩
    rw [← hw1] at r1 o1 b1 t1 ⊢
    clear hw1 c0 c1 c2 z0 z1 z2
    have c0 := r1.cell 0
    have c1 := r1.cell 1
    have q0 := b1.cell 0
    have q1 := b1.cell 1
    simp only [List.getElem?_toArray, List.getElem?_cons_succ, List.getElem?_cons_zero] at c0 c1 q0 q1
    have z0 := r1.free 0
    have R1 := Lib.hid r1
    have O1 := Lib.hid o1
    have B1 := Lib.hid b1
    have T1 := Lib.hid t1
    have hs1 := t1.size
    have hb1 := b1.lt
    have hp1 := r1.lt
    clear r1 o1 b1 t1
    go_quiet (fail)
    go_wp2
    have r2 := R1.out.drewN nq
    have o2 : (w1.drewN nq).ownsRow B 78 2 (.slice A D.length c) D.length (flat D) := O1.out
    have b2 := B1.out.drewN nq
    have t2 := T1.out.drewN nq
    obtain ⟨w2, hw2⟩ : ∃ w2, w2 = w1.drewN nq := ⟨_, rfl⟩
    rw [← hw2] at r2 o2 b2 t2 ⊢
    clear hw2 c0 c1 q0 q1 z0 hs1 hb1 hp1 R1 O1 B1 T1
    have c0 := r2.cell 0
    have q0 := b2.cell 0
    have q1 := b2.cell 1
    simp only [List.getElem?_toArray, List.getElem?_cons_succ, List.getElem?_cons_zero] at c0 q0 q1
    have z0 := r2.free 0
    have hs2 := t2.size
    have hb2 := b2.lt
    have hp2 := r2.lt
    have R2 := Lib.hid r2
    have O2 := Lib.hid o2
    have T2 := Lib.hid t2
    have hBs : B ≤ w2.heap.size := by omega
    clear r2 o2 b2 t2
    go_region_law ((refine step_append_lies _ (by rfl) (.tmp 48) (.tmp 50) 65 (by rfl) B 78 i0 _ 2 24 Try.underlying65 HI.out HZ0.out HZ1.out HZ2.out rfl (by omega) (.slice A D.length c) D.length (flat D) (by simp [Act.eval]) (O2.out.drew.alloc _) ⟨w2.heap.size, 0, none⟩ 1 1 [.iface t x, .int .i64 idx] (by simp [Act.eval]) rfl (World.news_of_block (cs := #[.iface t x, .int .i64 idx]) (t := 78) (fr := (0, 0)) (Row.made w2.drew 78 #[.iface t x, .int .i64 idx])) (by simp [Value.oneCell']) (by omega) (by simp only [maxLen]; omega) (by omega) (Nat.le_trans hBs (by simp)) _ rfl ?_); intro g2 cap2 w3 hown hgrow hat hlt3; have d0 := push_far R2.out hgrow (own_ne O2.out R2.out (by decide)); have z3 := d0.free 0; have d1 := d0.cell 0; have D0 := Lib.hid d0; have HOWN := Lib.hid hown; have HGROW := Lib.hid hgrow; have HAT := Lib.hid hat; clear d0 hown hgrow hat)
    all_goals go_wp2
    all_goals go_end0
    all_goals exact push_app_end hB D0.out HOWN.out HGROW.out HAT.out T2.out HD.out HK.out HL.out
theorem push_any (w : World) (B p : Nat) (d : Option Nat) (D : List Ent) (idx lim : Int) (t : Nat) (x : Value) (h : Stk w B p d D idx lim) (h1 : -1 ≤ idx) (h2 : -1 ≤ lim) (h3 : idx < D.length) (h4 : lim < D.length) (h5 : D.length ≤ 1048576) :
    Calls Try.prog 27 #[.pointer (some ⟨p, 0, none⟩), .iface t x] w (PushOut w B p d D idx lim t x) := by
  by_cases hlt : max idx lim + 1 < D.length
  · exact push_set w B p d D idx lim t x h h1 h2 h3 h4 h5 (max idx lim + 1).toNat (by omega) (by omega)
  · exact push_app w B p d D idx lim t x h h1 h2 h3 h4 h5 (max idx lim + 1).toNat (by omega) (by omega)
end Go.Proofs.Ytohgcoepdfhbmaa
