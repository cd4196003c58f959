/-
  Trees in memory: a node is a block whose cells are its fields: strings, ints, bools, pointers to nodes, slices of pointers to nodes, slices of strings (n001_1001).
-/
import Derived.Test.YtgbkjdndbjaeoaaDoorArgs
import Derived.Test.YtgbkjdndbjaeoaaDoorTouch
import Derived.Deep.AppendLies
import Derived.OwnWalk
namespace Go.Proofs.YtgbkjdndbjaeoaaDoor
set_option linter.unusedVariables false
set_option linter.unusedSimpArgs false
open Go.ChangeShapes Go.WideShapes Go.ChangeAt Go.RowKit M
/-- The slice at a, of len elements of one cell each, holds the values vs. -/
def Vw (w : World) (a : Option Addr) (len : Nat) (vs : List Value) : Prop :=
  vs.length = len ∧ (0 < len → ∃ b o, a = some ⟨b, o, none⟩ ∧ b < w.heap.size ∧ ∀ (i : Nat) (v : Value), vs[i]? = some v → w.cell? ⟨b, o + i, none⟩ = some v)
theorem Vw.touch {S : Nat → Prop} {w w' : World} {a : Option Addr} {len : Nat} {vs : List Value} (h : Vw w a len vs) (ht : Touch S w w') (hn : 0 < len → ∀ x, a = some x → x.block < w.heap.size → ¬ S x.block) : Vw w' a len vs := by
  refine ⟨h.1, fun hl => ?_⟩
  obtain ⟨b, o, ha, hb, hc⟩ := h.2 hl
  refine ⟨b, o, ha, Nat.lt_of_lt_of_le hb ht.size, fun i v hv => ?_⟩
  have := hc i v hv
  have hbk := ht.block b hb (hn hl _ ha hb)
  rw [World.cell?_of_block (a := ⟨b, o + i, none⟩) hbk]
  exact this
theorem Vw.keep {w w' : World} {a : Option Addr} {len : Nat} {vs : List Value} (h : Vw w a len vs) (hb : Below w.heap.size w w') : Vw w' a len vs := h.touch (Touch.of_below hb (fun _ => False)) (fun _ _ _ _ q => q)
theorem Vw.get {w : World} {a : Option Addr} {len : Nat} {vs : List Value} (h : Vw w a len vs) {i : Nat} (hi : i < len) : ∃ b o v, a = some ⟨b, o, none⟩ ∧ b < w.heap.size ∧ vs[i]? = some v ∧ w.cell? ⟨b, o + i, none⟩ = some v := by
  obtain ⟨b, o, ha, hb, hc⟩ := h.2 (by omega)
  have hil : i < vs.length := by rw [h.1]; exact hi
  have hv : vs[i]? = some vs[i] := List.getElem?_eq_getElem hil
  exact ⟨b, o, _, ha, hb, hv, hc i _ hv⟩
theorem Vw.nil (w : World) (a : Option Addr) : Vw w a 0 [] := ⟨rfl, fun h => absurd h (by omega)⟩
def strV (zs : List ByteArray) : List Value := zs.map .string
theorem own_vw {w : World} {B e n : Nat} {v : Value} {xs : List Value} (h : w.ownsRow B e 1 v n xs) : ∃ a c, v = .slice a n c ∧ Vw w a n xs ∧ ∀ x, a = some x → B ≤ x.block := by
  have hl := h.1
  rcases h.2 with ⟨rfl, rfl⟩ | ⟨g, cap, cur, rfl, hb, hg, hn, hc, hs, ht⟩
  · exact ⟨none, 0, rfl, ⟨by simpa using hl, fun q => absurd q (by omega)⟩, fun x q => by cases q⟩
  · refine ⟨_, cap, rfl, ⟨by simpa using hl, fun _ => ⟨g, 0, rfl, (Array.getElem?_eq_some_iff.1 hg).1, fun i v hv => ?_⟩⟩, fun x q => by cases q; exact hb⟩
    rw [Nat.zero_add]
    unfold World.cell?
    simp only [hg]
    rw [← ht] at hv
    have hi := (List.getElem?_eq_some_iff.1 hv).1
    rw [List.getElem?_take] at hv
    split at hv
    · simpa using hv
    · cases hv
mutual
inductive T where
  | nd (k : Nat) (fs : List F)
inductive F where
  | s (b : ByteArray)
  | i (n : Int)
  | b (x : Bool)
  | p (t : Option T)
  | l (nn : Bool) (ts : List T)
  | ss (l : List ByteArray)
end
/-- A field in a cell; P: a node at a block; ok: the blocks that the tree may take. -/
def FV (P : Nat → T → Prop) (ok : Nat → Prop) (w : World) : F → Value → Prop
  | .s b, v => v = .string b
  | .i x, v => v = .int .i64 x
  | .b x, v => v = .bool x
  | .p none, v => v = .pointer none
  | .p (some t), v => ∃ q, v = .pointer (some ⟨q, 0, none⟩) ∧ P q t
  | .l nn ts, v => ∃ A c us, v = .slice A ts.length c ∧ A.isSome = nn ∧ Vw w A ts.length us ∧ (∀ x, A = some x → 0 < ts.length → ok x.block) ∧ ∀ (i : Nat) (t : T) (u : Value), ts[i]? = some t → us[i]? = some u → ∃ q, u = .pointer (some ⟨q, 0, none⟩) ∧ P q t
  | .ss l, v => ∃ A c, v = .slice A l.length c ∧ Vw w A l.length (strV l) ∧ ∀ x, A = some x → 0 < l.length → ok x.block
/-- The node t stands at block p; its height is below n. -/
def At (ok : Nat → Prop) : Nat → World → Nat → T → Prop
  | 0, _, _, _ => False
  | n + 1, w, p, .nd k fs => ∃ cs : Array Value, Row w p k cs ∧ ok p ∧ cs.size = fs.length ∧ ∀ (i : Nat) (f : F) (v : Value), fs[i]? = some f → cs[i]? = some v → FV (At ok n w) ok w f v
theorem FV.imp {P P' : Nat → T → Prop} {ok ok' : Nat → Prop} {S : Nat → Prop} {w w' : World} {f : F} {v : Value} (h : FV P ok w f v) (hP : ∀ q t, P q t → P' q t) (ht : Touch S w w') (hn : ∀ k, ok k → k < w.heap.size → ¬ S k) (ho : ∀ k, ok k → k < w.heap.size → ok' k) : FV P' ok' w' f v := by
  cases f with
  | s b => exact h
  | i x => exact h
  | b x => exact h
  | p t =>
    cases t with
    | none => exact h
    | some t =>
      obtain ⟨q, h1, h2⟩ := h
      exact ⟨q, h1, hP q t h2⟩
  | l nn ts =>
    obtain ⟨A, c, us, h1, h2, h3, h4, h5⟩ := h
    refine ⟨A, c, us, h1, h2, h3.touch ht (fun hl x hx hb => hn _ (h4 x hx hl) hb), fun x hx hl => ho _ (h4 x hx hl) ?_, fun i t u hi hu => ?_⟩
    · obtain ⟨b, o, ha, hb, _⟩ := h3.2 hl
      rw [hx] at ha
      cases ha
      exact hb
    · obtain ⟨q, h6, h7⟩ := h5 i t u hi hu
      exact ⟨q, h6, hP q t h7⟩
  | ss l =>
    obtain ⟨A, c, h1, h3, h4⟩ := h
    refine ⟨A, c, h1, h3.touch ht (fun hl x hx hb => hn _ (h4 x hx hl) hb), fun x hx hl => ho _ (h4 x hx hl) ?_⟩
    obtain ⟨b, o, ha, hb, _⟩ := h3.2 hl
    rw [hx] at ha
    cases ha
    exact hb
theorem At.turn {ok ok' S : Nat → Prop} {w w' : World} (ht : Touch S w w') (hn : ∀ k, ok k → k < w.heap.size → ¬ S k) (ho : ∀ k, ok k → k < w.heap.size → ok' k) : ∀ (n : Nat) {p : Nat} {t : T}, At ok n w p t → At ok' n w' p t
  | 0, _, _, h => h
  | n + 1, p, .nd k fs, h => by
    obtain ⟨cs, h1, h2, h3, h4⟩ := h
    exact ⟨cs, h1.touch ht (hn p h2 h1.lt), ho p h2 h1.lt, h3, fun i f v hf hv => (h4 i f v hf hv).imp (fun q t hq => At.turn ht hn ho n hq) ht hn ho⟩
theorem At.keep {ok : Nat → Prop} {w w' : World} {n p : Nat} {t : T} (h : At ok n w p t) (hb : Below w.heap.size w w') : At ok n w' p t := At.turn (Touch.of_below hb (fun _ => False)) (fun _ _ _ q => q) (fun _ q _ => q) n h
theorem At.lt {ok : Nat → Prop} {w : World} {p : Nat} {t : T} : ∀ {n : Nat}, At ok n w p t → p < w.heap.size ∧ ok p
  | 0, h => h.elim
  | n + 1, h => by
    cases t with
    | nd k fs =>
      obtain ⟨cs, h1, h2, _⟩ := h
      exact ⟨h1.lt, h2⟩
theorem At.succ {ok : Nat → Prop} {w : World} : ∀ (n : Nat) {p : Nat} {t : T}, At ok n w p t → At ok (n + 1) w p t
  | 0, _, _, h => h.elim
  | n + 1, p, .nd k fs, h => by
    obtain ⟨cs, h1, h2, h3, h4⟩ := h
    exact ⟨cs, h1, h2, h3, fun i f v hf hv => (h4 i f v hf hv).imp (fun q t hq => At.succ n hq) (Touch.refl (fun _ => False) w) (fun _ _ _ q => q) (fun _ q _ => q)⟩
/-- A slice of nodes under way: each stands off the blocks D. -/
def Kids (w : World) (D : Nat → Prop) (B n : Nat) (us : List Value) (ts : List T) : Prop := us.length = ts.length ∧ ∀ (i : Nat) (t : T) (u : Value), ts[i]? = some t → us[i]? = some u → ∃ q, u = .pointer (some ⟨q, 0, none⟩) ∧ At (fun k => B ≤ k ∧ ¬ D k) n w q t
theorem Kids.turn {S D D' : Nat → Prop} {w w' : World} {B n : Nat} {us : List Value} {ts : List T} (h : Kids w D B n us ts) (ht : Touch S w w') (hS : ∀ k, B ≤ k → S k → D k) (hD : ∀ k, D' k → D k ∨ w.heap.size ≤ k) : Kids w' D' B n us ts := by
  refine ⟨h.1, fun i t u hi hu => ?_⟩
  obtain ⟨q, h1, h2⟩ := h.2 i t u hi hu
  refine ⟨q, h1, At.turn ht (fun k hk hl hs => hk.2 (hS k hk.1 hs)) (fun k hk hl => ⟨hk.1, fun hd => ?_⟩) n h2⟩
  rcases hD k hd with h3 | h3
  · exact hk.2 h3
  · omega
theorem Kids.snoc {D : Nat → Prop} {w : World} {B n q : Nat} {us : List Value} {ts : List T} {t : T} (h : Kids w D B n us ts) (ht : At (fun k => B ≤ k ∧ ¬ D k) n w q t) : Kids w D B n (us ++ [.pointer (some ⟨q, 0, none⟩)]) (ts ++ [t]) := by
  refine ⟨by simp [h.1], fun i t' u hi hu => ?_⟩
  by_cases hl : i < ts.length
  · rw [List.getElem?_append_left hl] at hi
    rw [List.getElem?_append_left (by rw [h.1]; exact hl)] at hu
    exact h.2 i t' u hi hu
  · have h1 := (List.getElem?_eq_some_iff.1 hi).1
    rw [List.length_append, List.length_singleton] at h1
    have h2 : i = ts.length := by omega
    subst h2
    rw [List.getElem?_append_right (Nat.le_refl _), Nat.sub_self] at hi
    rw [List.getElem?_append_right (by rw [h.1]; exact Nat.le_refl _), h.1, Nat.sub_self] at hu
    simp only [List.getElem?_cons_zero, Option.some.injEq] at hi hu
    subst hi hu
    exact ⟨q, rfl, ht⟩
end Go.Proofs.YtgbkjdndbjaeoaaDoor
