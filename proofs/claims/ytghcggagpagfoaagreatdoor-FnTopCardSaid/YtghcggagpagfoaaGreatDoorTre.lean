/-
  Trees in memory: a node is a block whose cells are its fields: strings, ints, bools, pointers to nodes, slices of pointers to nodes, slices of strings (n001_1001).
-/
import Derived.Test.YtghcggagpagfoaaGreatDoorArgs
import Derived.Test.YtghcggagpagfoaaGreatDoorTouch
import Derived.Deep.AppendLies
import Derived.OwnWalk
namespace Go.Proofs.YtghcggagpagfoaaGreatDoor
set_option linter.unusedVariables false
set_option linter.unusedSimpArgs false
open Go.ChangeShapes Go.WideShapes Go.ChangeAt Go.RowKit M
/-- The slice at a, of len elements of one cell each, holds the values vs. -/
def Vw (w : World) (a : Option Addr) (len : Nat) (vs : List Value) : Prop :=
  vs.length = len ∧ (0 < len → ∃ b o, a = some ⟨b, o, none⟩ ∧ b < w.heap.size ∧ ∀ (i : Nat) (v : Value), vs[i]? = some v → w.cell? ⟨b, o + i, none⟩ = some v)
theorem Vw.touch {S : Nat → Prop} {w w' : World} {a : Option Addr} {len : Nat} {vs : List Value} (h : Vw w a len vs) (ht : Touch S w w') (hn : 0 < len → ∀ x, a = some x → x.block < w.heap.size → ¬ S x.block) : Vw w' a len vs := by
  refine ⟨h.1, fun hl => ?_⟩
  obtain ⟨b, o, ha, hb, hc⟩ := h.2 hl
  refine ⟨b, o, ha, Nat.lt_of_lt_of_le hb ht.size, fun i v hv => ?_⟩
  have := hc i v hv
  have hbk := ht.block b hb (hn hl _ ha hb)
  rw [World.cell?_of_block (a := ⟨b, o + i, none⟩) hbk]
  exact this
theorem Vw.keep {w w' : World} {a : Option Addr} {len : Nat} {vs : List Value} (h : Vw w a len vs) (hb : Below w.heap.size w w') : Vw w' a len vs := h.touch (Touch.of_below hb (fun _ => False)) (fun _ _ _ _ q => q)
theorem Vw.get {w : World} {a : Option Addr} {len : Nat} {vs : List Value} (h : Vw w a len vs) {i : Nat} (hi : i < len) : ∃ b o v, a = some ⟨b, o, none⟩ ∧ b < w.heap.size ∧ vs[i]? = some v ∧ w.cell? ⟨b, o + i, none⟩ = some v := by
  obtain ⟨b, o, ha, hb, hc⟩ := h.2 (by omega)
  have hil : i < vs.length := by rw [h.1]; exact hi
  have hv : vs[i]? = some vs[i] := List.getElem?_eq_getElem hil
  exact ⟨b, o, _, ha, hb, hv, hc i _ hv⟩
theorem Vw.nil (w : World) (a : Option Addr) : Vw w a 0 [] := ⟨rfl, fun h => absurd h (by omega)⟩
def strV (zs : List ByteArray) : List Value := zs.map .string
theorem own_vw {w : World} {B e n : Nat} {v : Value} {xs : List Value} (h : w.ownsRow B e 1 v n xs) : ∃ a c, v = .slice a n c ∧ Vw w a n xs ∧ ∀ x, a = some x → B ≤ x.block := by
  have hl := h.1
  rcases h.2 with ⟨rfl, rfl⟩ | ⟨g, cap, cur, rfl, hb, hg, hn, hc, hs, ht⟩
  · exact ⟨none, 0, rfl, ⟨by simpa using hl, fun q => absurd q (by omega)⟩, fun x q => by cases q⟩
  · refine ⟨_, cap, rfl, ⟨by simpa using hl, fun _ => ⟨g, 0, rfl, (Array.getElem?_eq_some_iff.1 hg).1, fun i v hv => ?_⟩⟩, fun x q => by cases q; exact hb⟩
    rw [Nat.zero_add]
    unfold World.cell?
    simp only [hg]
    rw [← ht] at hv
    have hi := (List.getElem?_eq_some_iff.1 hv).1
    rw [List.getElem?_take] at hv
    split at hv
    · simpa using hv
    · cases hv
mutual
inductive T where
  | nd (k : Nat) (fs : List F)
inductive F where
  | s (b : ByteArray)
  | i (n : Int)
  | b (x : Bool)
  | p (t : Option T)
  | l (nn : Bool) (ts : List T)
  | ss (l : List ByteArray)
  | any
end
/-- A field in a cell; P: a node at a block; ok: the blocks that the tree may take. -/
def FV (P : Nat → T → Prop) (ok : Nat → Prop) (w : World) : F → Value → Prop
  | .s b, v => v = .string b
  | .i x, v => v = .int .i64 x
  | .b x, v => v = .bool x
  | .p none, v => v = .pointer none
  | .p (some t), v => ∃ q, v = .pointer (some ⟨q, 0, none⟩) ∧ P q t
  | .l nn ts, v => ∃ A c us, v = .slice A ts.length c ∧ A.isSome = nn ∧ Vw w A ts.length us ∧ (∀ x, A = some x → 0 < ts.length → ok x.block) ∧ ∀ (i : Nat) (t : T) (u : Value), ts[i]? = some t → us[i]? = some u → ∃ q, u = .pointer (some ⟨q, 0, none⟩) ∧ P q t
  | .ss l, v => ∃ A c, v = .slice A l.length c ∧ l.length ≤ c ∧ Vw w A l.length (strV l) ∧ ∀ x, A = some x → 0 < l.length → ok x.block
  | .any, _ => True
/-- The node t stands at block p; its height is below n. -/
def At (ok : Nat → Prop) : Nat → World → Nat → T → Prop
  | 0, _, _, _ => False
  | n + 1, w, p, .nd k fs => ∃ cs : Array Value, Row w p k cs ∧ ok p ∧ cs.size = fs.length ∧ ∀ (i : Nat) (f : F) (v : Value), fs[i]? = some f → cs[i]? = some v → FV (At ok n w) ok w f v
theorem FV.imp {P P' : Nat → T → Prop} {ok ok' : Nat → Prop} {S : Nat → Prop} {w w' : World} {f : F} {v : Value} (h : FV P ok w f v) (hP : ∀ q t, P q t → P' q t) (ht : Touch S w w') (hn : ∀ k, ok k → k < w.heap.size → ¬ S k) (ho : ∀ k, ok k → k < w.heap.size → ok' k) : FV P' ok' w' f v := by
  cases f with
  | s b => exact h
  | i x => exact h
  | b x => exact h
  | any => exact h
  | p t =>
    cases t with
    | none => exact h
    | some t =>
      obtain ⟨q, h1, h2⟩ := h
      exact ⟨q, h1, hP q t h2⟩
  | l nn ts =>
    obtain ⟨A, c, us, h1, h2, h3, h4, h5⟩ := h
    refine ⟨A, c, us, h1, h2, h3.touch ht (fun hl x hx hb => hn _ (h4 x hx hl) hb), fun x hx hl => ho _ (h4 x hx hl) ?_, fun i t u hi hu => ?_⟩
    · obtain ⟨b, o, ha, hb, _⟩ := h3.2 hl
      rw [hx] at ha
      cases ha
      exact hb
    · obtain ⟨q, h6, h7⟩ := h5 i t u hi hu
      exact ⟨q, h6, hP q t h7⟩
  | ss l =>
    obtain ⟨A, c, h1, h0, h3, h4⟩ := h
    refine ⟨A, c, h1, h0, h3.touch ht (fun hl x hx hb => hn _ (h4 x hx hl) hb), fun x hx hl => ho _ (h4 x hx hl) ?_⟩
    obtain ⟨b, o, ha, hb, _⟩ := h3.2 hl
    rw [hx] at ha
    cases ha
    exact hb
theorem At.turn {ok ok' S : Nat → Prop} {w w' : World} (ht : Touch S w w') (hn : ∀ k, ok k → k < w.heap.size → ¬ S k) (ho : ∀ k, ok k → k < w.heap.size → ok' k) : ∀ (n : Nat) {p : Nat} {t : T}, At ok n w p t → At ok' n w' p t
  | 0, _, _, h => h
  | n + 1, p, .nd k fs, h => by
    obtain ⟨cs, h1, h2, h3, h4⟩ := h
    exact ⟨cs, h1.touch ht (hn p h2 h1.lt), ho p h2 h1.lt, h3, fun i f v hf hv => (h4 i f v hf hv).imp (fun q t hq => At.turn ht hn ho n hq) ht hn ho⟩
theorem At.keep {ok : Nat → Prop} {w w' : World} {n p : Nat} {t : T} (h : At ok n w p t) (hb : Below w.heap.size w w') : At ok n w' p t := At.turn (Touch.of_below hb (fun _ => False)) (fun _ _ _ q => q) (fun _ q _ => q) n h
theorem At.lt {ok : Nat → Prop} {w : World} {p : Nat} {t : T} : ∀ {n : Nat}, At ok n w p t → p < w.heap.size ∧ ok p
  | 0, h => h.elim
  | n + 1, h => by
    cases t with
    | nd k fs =>
      obtain ⟨cs, h1, h2, _⟩ := h
      exact ⟨h1.lt, h2⟩
theorem At.succ {ok : Nat → Prop} {w : World} : ∀ (n : Nat) {p : Nat} {t : T}, At ok n w p t → At ok (n + 1) w p t
  | 0, _, _, h => h.elim
  | n + 1, p, .nd k fs, h => by
    obtain ⟨cs, h1, h2, h3, h4⟩ := h
    exact ⟨cs, h1, h2, h3, fun i f v hf hv => (h4 i f v hf hv).imp (fun q t hq => At.succ n hq) (Touch.refl (fun _ => False) w) (fun _ _ _ q => q) (fun _ q _ => q)⟩
theorem At.le {ok : Nat → Prop} {w : World} {n m : Nat} (h : n ≤ m) {p : Nat} {t : T} (ha : At ok n w p t) : At ok m w p t := by
  induction h with
  | refl => exact ha
  | step _ ih => exact At.succ _ ih
theorem FV.mono {ok ok' : Nat → Prop} {n m : Nat} {w : World} {f : F} {v : Value} (h : FV (At ok n w) ok w f v) (hn : n ≤ m) (ho : ∀ k, ok k → k < w.heap.size → ok' k) : FV (At ok' m w) ok' w f v :=
  h.imp (fun q t hq => At.turn (Touch.refl (fun _ => False) w) (fun _ _ _ x => x) ho m (At.le hn hq)) (Touch.refl (fun _ => False) w) (fun _ _ _ x => x) ho
/-- A slice of nodes under way: each stands off the blocks D. -/
def Kids (w : World) (D : Nat → Prop) (B n : Nat) (us : List Value) (ts : List T) : Prop := us.length = ts.length ∧ ∀ (i : Nat) (t : T) (u : Value), ts[i]? = some t → us[i]? = some u → ∃ q, u = .pointer (some ⟨q, 0, none⟩) ∧ At (fun k => B ≤ k ∧ ¬ D k) n w q t
theorem Kids.turn {S D D' : Nat → Prop} {w w' : World} {B n : Nat} {us : List Value} {ts : List T} (h : Kids w D B n us ts) (ht : Touch S w w') (hS : ∀ k, B ≤ k → S k → D k) (hD : ∀ k, D' k → D k ∨ w.heap.size ≤ k) : Kids w' D' B n us ts := by
  refine ⟨h.1, fun i t u hi hu => ?_⟩
  obtain ⟨q, h1, h2⟩ := h.2 i t u hi hu
  refine ⟨q, h1, At.turn ht (fun k hk hl hs => hk.2 (hS k hk.1 hs)) (fun k hk hl => ⟨hk.1, fun hd => ?_⟩) n h2⟩
  rcases hD k hd with h3 | h3
  · exact hk.2 h3
  · omega
theorem Kids.snoc {D : Nat → Prop} {w : World} {B n q : Nat} {us : List Value} {ts : List T} {t : T} (h : Kids w D B n us ts) (ht : At (fun k => B ≤ k ∧ ¬ D k) n w q t) : Kids w D B n (us ++ [.pointer (some ⟨q, 0, none⟩)]) (ts ++ [t]) := by
  refine ⟨by simp [h.1], fun i t' u hi hu => ?_⟩
  by_cases hl : i < ts.length
  · rw [List.getElem?_append_left hl] at hi
    rw [List.getElem?_append_left (by rw [h.1]; exact hl)] at hu
    exact h.2 i t' u hi hu
  · have h1 := (List.getElem?_eq_some_iff.1 hi).1
    rw [List.length_append, List.length_singleton] at h1
    have h2 : i = ts.length := by omega
    subst h2
    rw [List.getElem?_append_right (Nat.le_refl _), Nat.sub_self] at hi
    rw [List.getElem?_append_right (by rw [h.1]; exact Nat.le_refl _), h.1, Nat.sub_self] at hu
    simp only [List.getElem?_cons_zero, Option.some.injEq] at hi hu
    subst hi hu
    exact ⟨q, rfl, ht⟩
/-- A node under way at block p, made since the base b0; D: blocks that its children keep off (beside p). -/
structure Und (b0 : Nat) (D : Nat → Prop) (w : World) (p k h : Nat) (fs : List F) (cs : List Value) : Prop where
  row : Row w p k cs.toArray
  base : b0 ≤ p
  len : cs.length = fs.length
  fld : ∀ (i : Nat) (f : F) (v : Value), fs[i]? = some f → cs[i]? = some v → FV (At (fun j => b0 ≤ j ∧ j ≠ p ∧ ¬ D j) h w) (fun j => b0 ≤ j ∧ j ≠ p ∧ ¬ D j) w f v
theorem Und.turn {b0 : Nat} {D S : Nat → Prop} {w w' : World} {p k h : Nat} {fs : List F} {cs : List Value} (u : Und b0 D w p k h fs cs) (ht : Touch S w w') (hS : ∀ j, b0 ≤ j → j < w.heap.size → S j → D j) (hp : ¬ S p) : Und b0 D w' p k h fs cs :=
  ⟨u.row.touch ht hp, u.base, u.len, fun i f v hf hv => (u.fld i f v hf hv).imp (fun q t hq => At.turn ht (fun j hj hl hs => hj.2.2 (hS j hj.1 hl hs)) (fun j hj _ => hj) h hq) ht (fun j hj hl hs => hj.2.2 (hS j hj.1 hl hs)) (fun j hj _ => hj)⟩
theorem Und.rd {b0 rb : Nat} {w w' : World} {p k h : Nat} {fs : List F} {cs : List Value} (u : Und b0 (fun _ => False) w p k h fs cs) (ht : Touch (fun j => j = rb) w w') (hr : rb < b0) : Und b0 (fun _ => False) w' p k h fs cs :=
  u.turn ht (fun j hj _ e => by have e' : j = rb := e; omega) (fun e => by have e' : p = rb := e; have := u.base; omega)
theorem Und.keep {b0 : Nat} {D : Nat → Prop} {w w' : World} {p k h : Nat} {fs : List F} {cs : List Value} (u : Und b0 D w p k h fs cs) (hb : Below w.heap.size w w') : Und b0 D w' p k h fs cs :=
  u.turn (Touch.of_below hb (fun _ => False)) (fun _ _ _ e => e.elim) (fun e => e)
theorem Und.le {b0 : Nat} {D : Nat → Prop} {w : World} {p k h m : Nat} {fs : List F} {cs : List Value} (u : Und b0 D w p k h fs cs) (hm : h ≤ m) : Und b0 D w p k m fs cs :=
  ⟨u.row, u.base, u.len, fun i f v hf hv => (u.fld i f v hf hv).mono hm (fun _ x _ => x)⟩
theorem Und.fin {b0 : Nat} {D : Nat → Prop} {w : World} {p k h : Nat} {fs : List F} {cs : List Value} (u : Und b0 D w p k h fs cs) : At (fun j => b0 ≤ j) (h + 1) w p (.nd k fs) :=
  ⟨cs.toArray, u.row, u.base, by simpa using u.len, fun i f v hf hv => (u.fld i f v hf (by simpa using hv)).mono (Nat.le_refl _) (fun j x _ => x.1)⟩
/-- A field set. -/
theorem Und.set {b0 : Nat} {D : Nat → Prop} {w : World} {p k h : Nat} {fs : List F} {cs : List Value} (u : Und b0 D w p k h fs cs) (i : Nat) {f : F} {v : Value} (hf : FV (At (fun j => b0 ≤ j ∧ j ≠ p ∧ ¬ D j) h w) (fun j => b0 ≤ j ∧ j ≠ p ∧ ¬ D j) w f v) (fs' : List F) (cs' : List Value) (hfs : fs' = fs.set i f) (hcs : cs' = cs.set i v) : Und b0 D (w.setCell ⟨p, i, none⟩ v) p k h fs' cs' := by
  subst hfs hcs
  have ht : Touch (fun j => j = p) w (w.setCell ⟨p, i, none⟩ v) := (Touch.refl (fun j => j = p) w).setCell (fun _ => rfl) _
  have hn : ∀ j, (b0 ≤ j ∧ j ≠ p ∧ ¬ D j) → j < w.heap.size → ¬ (j = p) := fun j hj _ e => hj.2.1 e
  refine ⟨?_, u.base, by simp [u.len], fun i' f' v' hf' hv' => ?_⟩
  · have := u.row.put i v
    rw [List.setIfInBounds_toArray] at this
    exact this
  · by_cases hi : i = i'
    · subst hi
      have h1 := (List.getElem?_eq_some_iff.1 hf').1
      have h2 := (List.getElem?_eq_some_iff.1 hv').1
      rw [List.length_set] at h1 h2
      rw [List.getElem?_set_self h1] at hf'
      rw [List.getElem?_set_self h2] at hv'
      cases hf'
      cases hv'
      exact hf.imp (fun q t hq => At.turn ht hn (fun _ x _ => x) h hq) ht hn (fun _ x _ => x)
    · rw [List.getElem?_set_ne hi] at hf' hv'
      exact (u.fld i' f' v' hf' hv').imp (fun q t hq => At.turn ht hn (fun _ x _ => x) h hq) ht hn (fun _ x _ => x)
/-- What a call has made, as a field's value. -/
theorem Und.kid {b0 : Nat} {w w' : World} {p k h n q : Nat} {fs : List F} {cs : List Value} {t : T} {S : Nat → Prop} (u : Und b0 (fun _ => False) w p k h fs cs) (hb : b0 ≤ w.heap.size) (ha : At (fun j => w.heap.size ≤ j) n w' q t) (hn : n ≤ h) : FV (At (fun j => b0 ≤ j ∧ j ≠ p ∧ ¬ (fun _ => False) j) h w') (fun j => b0 ≤ j ∧ j ≠ p ∧ ¬ (fun _ => False) j) w' (.p (some t)) (.pointer (some ⟨q, 0, none⟩)) :=
  ⟨q, rfl, At.turn (Touch.refl (fun _ => False) w') (fun _ _ _ x => x) (fun j hj _ => by have hl := u.row.lt; have hj' : w.heap.size ≤ j := hj; exact ⟨by omega, by omega, fun x => x⟩) h (At.le hn ha)⟩
theorem Und.made {w : World} {b0 k h : Nat} {cs : List Value} (hb : b0 ≤ w.heap.size) (fs : List F) (hl : cs.length = fs.length) (hf : ∀ (i : Nat) (f : F) (v : Value), fs[i]? = some f → cs[i]? = some v → FV (fun _ _ => False) (fun _ => False) w f v) : Und b0 (fun _ => False) (w.alloc (.cells cs.toArray k)) w.heap.size k h fs cs :=
  ⟨Row.made w k cs.toArray, hb, hl, fun i f v hf' hv' => (hf i f v hf' hv').imp (S := fun _ => False) (fun _ _ x => x.elim) ((Touch.refl _ w).alloc _) (fun _ x _ _ => x) (fun _ x _ => x.elim)⟩
/-- A list under way in field i (its elements' type e; z: it began as an empty slice that isn't nil). -/
structure Lco (z : Bool) (b0 : Nat) (w : World) (p k i e n h : Nat) (fs : List F) (cs : List Value) (v : Value) (us : List Value) : Prop where
  und : Und b0 (fun j => v.ownBlock = some j) w p k h fs cs
  cell : cs[i]? = some v
  fany : fs[i]? = some .any
  own : w.ownsRow b0 e 1 v n us
  nz : v.ownBlock.isSome = (z || decide (0 < n))
theorem Lco.start {b0 : Nat} {w : World} {p k e h : Nat} {fs : List F} {cs : List Value} (u : Und b0 (fun _ => False) w p k h fs cs) (i : Nat) (hc : cs[i]? = some (.slice none 0 0)) (fs' : List F) (hfs : fs' = fs.set i .any) (hi : i < fs.length) : Lco false b0 w p k i e 0 h fs' cs (.slice none 0 0) [] := by
  subst hfs
  refine ⟨⟨u.row, u.base, by simp [u.len], fun i' f' v' hf' hv' => ?_⟩, hc, List.getElem?_set_self hi, ⟨by simp, .inl ⟨rfl, rfl⟩⟩, rfl⟩
  by_cases hii : i = i'
  · subst hii
    rw [List.getElem?_set_self hi] at hf'
    cases hf'
    exact trivial
  · rw [List.getElem?_set_ne hii] at hf'
    exact (u.fld i' f' v' hf' hv').mono (Nat.le_refl _) (fun j x _ => ⟨x.1, x.2.1, fun y => by cases y⟩)
theorem Lco.le {z : Bool} {b0 : Nat} {w : World} {p k i e n h m : Nat} {fs : List F} {cs : List Value} {v : Value} {us : List Value} (l : Lco z b0 w p k i e n h fs cs v us) (hm : h ≤ m) : Lco z b0 w p k i e n m fs cs v us := ⟨l.und.le hm, l.cell, l.fany, l.own, l.nz⟩
theorem Lco.rd {z : Bool} {b0 rb : Nat} {w w' : World} {p k i e n h : Nat} {fs : List F} {cs : List Value} {v : Value} {us : List Value} (l : Lco z b0 w p k i e n h fs cs v us) (ht : Touch (fun j => j = rb) w w') (hr : rb < b0) : Lco z b0 w' p k i e n h fs cs v us :=
  ⟨l.und.turn ht (fun j hj _ x => by have x' : j = rb := x; omega) (fun x => by have x' : p = rb := x; have := l.und.base; omega), l.cell, l.fany, own_touch l.own ht (fun j hj x => by have x' : j = rb := x; have := (l.own.lt j hj).1; omega), l.nz⟩
/-- One more: the value u; the append's outcome: block g. -/
theorem Lco.push {z : Bool} {b0 : Nat} {w1 w2 : World} {p k i e n h g cap : Nat} {fs : List F} {cs : List Value} {v u : Value} {us : List Value} (l : Lco z b0 w1 p k i e n h fs cs v us) (hne : e ≠ k)
    (ho : w2.ownsRow b0 e 1 (.slice (some ⟨g, 0, none⟩) (n + 1) cap) (n + 1) (us ++ [u])) (h2 : Touch (fun j => v.ownBlock = some j) (w1.alloc (.cells #[u] e)) w2)
    (hg : v.ownBlock = some g ∨ g = (w1.alloc (.cells #[u] e)).heap.size) (cs' : List Value) (hcs : cs' = cs.set i (.slice (some ⟨g, 0, none⟩) (n + 1) cap)) :
    Lco z b0 (w2.setCell ⟨p, i, none⟩ (.slice (some ⟨g, 0, none⟩) (n + 1) cap)) p k i e (n + 1) h fs cs' (.slice (some ⟨g, 0, none⟩) (n + 1) cap) (us ++ [u]) ∧ Touch (fun j => j = p ∨ v.ownBlock = some j) w1 (w2.setCell ⟨p, i, none⟩ (.slice (some ⟨g, 0, none⟩) (n + 1) cap)) := by
  subst hcs
  have hci := (List.getElem?_eq_some_iff.1 l.cell).1
  have hfi := (List.getElem?_eq_some_iff.1 l.fany).1
  have ta : Touch (fun j => v.ownBlock = some j) w1 w2 := ((Touch.refl _ _).alloc (.cells #[u] e)).trans' h2 (fun j hj q => q)
  have hqo : v.ownBlock ≠ some p := own_ne l.own l.und.row hne
  have hr2 : Row w2 p k cs.toArray := l.und.row.touch ta hqo
  have ts' : Touch (fun j => j = p) w2 (w2.setCell ⟨p, i, none⟩ (.slice (some ⟨g, 0, none⟩) (n + 1) cap)) := (Touch.refl (fun j => j = p) w2).setCell (fun _ => rfl) _
  have hgp : g ≠ p := by
    intro e0
    subst e0
    rcases hg with x | x
    · exact hqo x
    · have := l.und.row.lt
      simp only [World.size_alloc] at x
      omega
  have tall : Touch (fun j => j = p ∨ v.ownBlock = some j) w1 (w2.setCell ⟨p, i, none⟩ (.slice (some ⟨g, 0, none⟩) (n + 1) cap)) := (ta.mono (fun j _ x => .inr x)).trans (ts'.mono (fun j _ x => .inl x))
  have hgn : ∀ j, (b0 ≤ j ∧ j ≠ p ∧ ¬ v.ownBlock = some j) → j < w1.heap.size → ¬ ((Value.slice (some ⟨g, 0, none⟩) (n + 1) cap).ownBlock = some j) := fun j hj hl x => by
    have x' : g = j := Option.some.inj x
    subst x'
    rcases hg with y | y
    · exact hj.2.2 y
    · simp only [World.size_alloc] at y
      omega
  refine ⟨⟨⟨?_, l.und.base, by simp [l.und.len], fun i' f' v' hf' hv' => ?_⟩, List.getElem?_set_self hci, l.fany, own_touch ho ts' (fun j hj e0 => ?_), by simp [Value.ownBlock]⟩, tall⟩
  · have := hr2.put i (.slice (some ⟨g, 0, none⟩) (n + 1) cap)
    rw [List.setIfInBounds_toArray] at this
    exact this
  · by_cases hii : i = i'
    · subst hii
      rw [l.fany] at hf'
      cases hf'
      exact trivial
    · rw [List.getElem?_set_ne hii] at hv'
      have hn : ∀ j, (b0 ≤ j ∧ j ≠ p ∧ ¬ v.ownBlock = some j) → j < w1.heap.size → ¬ (j = p ∨ v.ownBlock = some j) := fun j hj _ x => x.elim hj.2.1 hj.2.2
      have hm : ∀ j, (b0 ≤ j ∧ j ≠ p ∧ ¬ v.ownBlock = some j) → j < w1.heap.size → (b0 ≤ j ∧ j ≠ p ∧ ¬ (Value.slice (some ⟨g, 0, none⟩) (n + 1) cap).ownBlock = some j) := fun j hj hl => ⟨hj.1, hj.2.1, hgn j hj hl⟩
      exact (l.und.fld i' f' v' hf' hv').imp (fun q t hq => At.turn tall hn hm h hq) tall hn hm
  · have hj' : g = j := Option.some.inj hj
    have e1 : j = p := e0
    omega
theorem Lco.fin {z : Bool} {b0 : Nat} {w : World} {p k i e n h : Nat} {fs : List F} {cs : List Value} {v : Value} {us : List Value} (l : Lco z b0 w p k i e n h fs cs v us) (hne : e ≠ k) (f : F) (hf : (∀ x, v.ownBlock = some x → b0 ≤ x ∧ x ≠ p) → FV (At (fun j => b0 ≤ j ∧ j ≠ p ∧ ¬ False) h w) (fun j => b0 ≤ j ∧ j ≠ p ∧ ¬ False) w f v) (fs' : List F) (hfs : fs' = fs.set i f) : Und b0 (fun _ => False) w p k h fs' cs := by
  subst hfs
  have hqo : v.ownBlock ≠ some p := own_ne l.own l.und.row hne
  have hfi := (List.getElem?_eq_some_iff.1 l.fany).1
  refine ⟨l.und.row, l.und.base, by simp [l.und.len], fun i' f' v' hf' hv' => ?_⟩
  by_cases hii : i = i'
  · subst hii
    rw [List.getElem?_set_self hfi] at hf'
    rw [l.cell] at hv'
    cases hf'
    cases hv'
    exact hf (fun x hx => ⟨(l.own.lt x hx).1, fun y => hqo (by rw [← y]; exact hx)⟩)
  · rw [List.getElem?_set_ne hii] at hf'
    exact (l.und.fld i' f' v' hf' hv').mono (Nat.le_refl _) (fun j x _ => ⟨x.1, x.2.1, fun y => y⟩)
/-- A list of nodes under way. -/
structure Lsu (z : Bool) (b0 : Nat) (w : World) (p k i e n h : Nat) (fs : List F) (cs : List Value) (v : Value) (us : List Value) (ts : List T) : Prop extends Lco z b0 w p k i e n h fs cs v us where
  kids : Kids w (fun j => j = p ∨ v.ownBlock = some j) b0 h us ts
  len : ts.length = n
theorem Lsu.rd {z : Bool} {b0 rb : Nat} {w w' : World} {p k i e n h : Nat} {fs : List F} {cs : List Value} {v : Value} {us : List Value} {ts : List T} (l : Lsu z b0 w p k i e n h fs cs v us ts) (ht : Touch (fun j => j = rb) w w') (hr : rb < b0) : Lsu z b0 w' p k i e n h fs cs v us ts :=
  ⟨l.toLco.rd ht hr, l.kids.turn ht (fun j hj x => by have x' : j = rb := x; omega) (fun j hj => .inl hj), l.len⟩
/-- One more: the child q (of the tree t), made since w; the append's outcome: block g. -/
theorem Lsu.push {z : Bool} {b0 : Nat} {w w1 w2 : World} {p k i e n h g cap q : Nat} {fs : List F} {cs : List Value} {v : Value} {us : List Value} {ts : List T} {t : T} (l : Lsu z b0 w1 p k i e n h fs cs v us ts) (hne : e ≠ k) (hw : p < w.heap.size) (hb0 : b0 ≤ w.heap.size) (hvw : ∀ j, v.ownBlock = some j → j < w.heap.size)
    (hT : At (fun j => w.heap.size ≤ j) h w1 q t) (ho : w2.ownsRow b0 e 1 (.slice (some ⟨g, 0, none⟩) (n + 1) cap) (n + 1) (us ++ [.pointer (some ⟨q, 0, none⟩)])) (h2 : Touch (fun j => v.ownBlock = some j) (w1.alloc (.cells #[.pointer (some ⟨q, 0, none⟩)] e)) w2)
    (hg : v.ownBlock = some g ∨ g = (w1.alloc (.cells #[.pointer (some ⟨q, 0, none⟩)] e)).heap.size) (cs' : List Value) (hcs : cs' = cs.set i (.slice (some ⟨g, 0, none⟩) (n + 1) cap)) :
    Lsu z b0 (w2.setCell ⟨p, i, none⟩ (.slice (some ⟨g, 0, none⟩) (n + 1) cap)) p k i e (n + 1) h fs cs' (.slice (some ⟨g, 0, none⟩) (n + 1) cap) (us ++ [.pointer (some ⟨q, 0, none⟩)]) (ts ++ [t]) ∧ Touch (fun j => j = p ∨ v.ownBlock = some j) w1 (w2.setCell ⟨p, i, none⟩ (.slice (some ⟨g, 0, none⟩) (n + 1) cap)) := by
  obtain ⟨P1, tall⟩ := l.toLco.push hne ho h2 hg cs' hcs
  refine ⟨⟨P1, ?_, by rw [List.length_append, l.len]; rfl⟩, tall⟩
  have hk := l.kids.snoc (t := t) (q := q) (At.turn (ok' := fun j => b0 ≤ j ∧ ¬ (j = p ∨ v.ownBlock = some j)) (Touch.refl (fun _ => False) w1) (fun _ _ _ x => x) (fun j hj _ => ⟨by omega, fun x => by
    rcases x with x | x
    · omega
    · have := hvw j x; omega⟩) h hT)
  refine hk.turn tall (fun j _ x => x) (fun j x => ?_)
  rcases x with x | x
  · exact .inl (.inl x)
  · have hj : g = j := Option.some.inj x
    subst hj
    rcases hg with y | y
    · exact .inl (.inr y)
    · exact .inr (by rw [y]; simp)
theorem Lsu.fin {z : Bool} {b0 : Nat} {w : World} {p k i e n h : Nat} {fs : List F} {cs : List Value} {v : Value} {us : List Value} {ts : List T} (l : Lsu z b0 w p k i e n h fs cs v us ts) (hne : e ≠ k) (fs' : List F) (hfs : fs' = fs.set i (.l (z || decide (0 < n)) ts)) : Und b0 (fun _ => False) w p k h fs' cs := by
  refine l.toLco.fin hne _ (fun hx => ?_) fs' hfs
  have hlen := l.len
  have hnz := l.nz
  have hkids := l.kids
  obtain ⟨A, c, rfl, hv, hb⟩ := own_vw l.own
  refine ⟨A, c, us, by rw [hlen], ?_, by rw [hlen]; exact hv, fun x hA _ => ?_, fun i t u hi hu => ?_⟩
  · rw [← hnz]
    cases A <;> rfl
  · subst hA
    exact ⟨(hx _ rfl).1, (hx _ rfl).2, fun y => y⟩
  · obtain ⟨q, h1, h2⟩ := hkids.2 i t u hi hu
    exact ⟨q, h1, At.turn (Touch.refl (fun _ => False) w) (fun _ _ _ x => x) (fun j hj _ => ⟨hj.1, fun y => hj.2 (.inl y), fun y => y⟩) h h2⟩
theorem Lco.finS {z : Bool} {b0 : Nat} {w : World} {p k i e n h : Nat} {fs : List F} {cs : List Value} {v : Value} {ss : List ByteArray} (l : Lco z b0 w p k i e n h fs cs v (strV ss)) (hn : ss.length = n) (hne : e ≠ k) (fs' : List F) (hfs : fs' = fs.set i (.ss ss)) : Und b0 (fun _ => False) w p k h fs' cs := by
  refine l.fin hne _ (fun hx => ?_) fs' hfs
  have ho := l.own
  obtain ⟨A, c, rfl, hv, hb⟩ := own_vw ho
  have hc : n ≤ c := by
    rcases ho.2 with ⟨y, z⟩ | ⟨g, cap, cur, y, _, _, hn, _⟩
    · omega
    · cases y; exact hn
  refine ⟨A, c, by rw [hn], by omega, by rw [hn]; exact hv, fun x hA _ => ?_⟩
  subst hA
  exact ⟨(hx _ rfl).1, (hx _ rfl).2, fun y => y⟩
end Go.Proofs.YtghcggagpagfoaaGreatDoor
