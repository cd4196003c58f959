/-
  The stack as a list: 'LStk': from the index down the entries' links spell the list l; saved (index, limit) pairs spell the lists that they held. push, pop, top, empty, save and restore on it.
-/
import Derived.Test.YtohgcoepdfhbmaaStk
namespace Go.Proofs.Ytohgcoepdfhbmaa
set_option linter.unusedVariables false
open Go.ChangeShapes Go.WideShapes Go.ChangeAt Go.RowKit M
/-- From index i down the links spell the list l. -/
def Chain (D : List Ent) : Int → List (Nat × Value) → Prop
  | i, [] => i = -1
  | i, v :: r => ∃ k : Nat, i = k ∧ ∃ nx : Int, D[k]? = some (v.1, v.2, nx) ∧ nx < i ∧ Chain D nx r
theorem Chain.lo {D : List Ent} : ∀ {l : List (Nat × Value)} {i : Int}, Chain D i l → -1 ≤ i
  | [], i, h => by unfold Chain at h; omega
  | v :: r, i, h => by
    obtain ⟨k, hk, _⟩ := h
    omega
theorem Chain.hi {D : List Ent} : ∀ {l : List (Nat × Value)} {i : Int}, Chain D i l → i < D.length
  | [], i, h => by unfold Chain at h; omega
  | v :: r, i, h => by
    obtain ⟨k, hk, nx, hd, _⟩ := h
    have := (List.getElem?_eq_some_iff.1 hd).1
    omega
theorem pushD_get {D : List Ent} {i k : Nat} {e : Ent} (hk : k < i) (hi : i ≤ D.length) : (pushD D i e)[k]? = D[k]? := by
  unfold pushD
  split
  · rw [List.getElem?_set_ne (by omega)]
  · rw [List.getElem?_append_left (by omega)]
theorem pushD_self {D : List Ent} {i : Nat} {e : Ent} (hi : i ≤ D.length) : (pushD D i e)[i]? = some e := by
  unfold pushD
  split
  · rw [List.getElem?_set_self (by omega)]
  · obtain rfl : i = D.length := by omega
    simp
theorem pushD_length {D : List Ent} {i : Nat} {e : Ent} : D.length ≤ (pushD D i e).length ∧ (pushD D i e).length ≤ D.length + 1 := by
  unfold pushD
  split
  · rw [List.length_set]; omega
  · rw [List.length_append]; simp
theorem Chain.push {D : List Ent} {i : Nat} {e : Ent} (hi : i ≤ D.length) : ∀ {l : List (Nat × Value)} {j : Int}, Chain D j l → j < i → Chain (pushD D i e) j l
  | [], j, h, _ => h
  | v :: r, j, h, hj => by
    obtain ⟨k, hk, nx, hd, hn, hc⟩ := h
    exact ⟨k, hk, nx, by rw [pushD_get (by omega) hi]; exact hd, hn, hc.push hi (by omega)⟩
/-- Each saved (index, limit) spells its list, and lies under the limit that stood behind it. -/
def Saved (D : List Ent) : Int → List (Int × Int × List (Nat × Value)) → Prop
  | _, [] => True
  | lim, s :: r => s.1 ≤ lim ∧ s.2.1 ≤ lim ∧ -1 ≤ s.2.1 ∧ Chain D s.1 s.2.2 ∧ Saved D s.2.1 r
theorem Saved.push {D : List Ent} {i : Nat} {e : Ent} (hi : i ≤ D.length) : ∀ {sv : List (Int × Int × List (Nat × Value))} {lim : Int}, Saved D lim sv → lim < i → Saved (pushD D i e) lim sv
  | [], _, _, _ => trivial
  | s :: r, lim, h, hl => by
    obtain ⟨h1, h2, h3, h4, h5⟩ := h
    exact ⟨h1, h2, h3, h4.push hi (by omega), h5.push hi (by omega)⟩
theorem Saved.mono {D : List Ent} {lim lim' : Int} (h : lim ≤ lim') : ∀ {sv : List (Int × Int × List (Nat × Value))}, Saved D lim sv → Saved D lim' sv
  | [], _ => trivial
  | s :: r, ⟨h1, h2, h3, h4, h5⟩ => ⟨by omega, by omega, h3, h4, h5⟩
/-- The stack at block p spells l; sv: what was saved; N bounds the entries. -/
def LStk (w : World) (B p : Nat) (d : Option Nat) (l : List (Nat × Value)) (idx lim : Int) (sv : List (Int × Int × List (Nat × Value))) (N : Nat) : Prop :=
  ∃ D, Stk w B p d D idx lim ∧ Chain D idx l ∧ -1 ≤ lim ∧ lim < D.length ∧ Saved D lim sv ∧ D.length ≤ N
theorem LStk.lt {w : World} {B p : Nat} {d : Option Nat} {l : List (Nat × Value)} {idx lim : Int} {sv : List (Int × Int × List (Nat × Value))} {N : Nat} (h : LStk w B p d l idx lim sv N) : B ≤ p ∧ p < w.heap.size := by
  obtain ⟨D, h, _⟩ := h
  exact h.lt
theorem LStk.dlt {w : World} {B p g : Nat} {l : List (Nat × Value)} {idx lim : Int} {sv : List (Int × Int × List (Nat × Value))} {N : Nat} (h : LStk w B p (some g) l idx lim sv N) : B ≤ g ∧ g < w.heap.size := by
  obtain ⟨D, h, _⟩ := h
  exact h.dlt
theorem LStk.touch {S : Nat → Prop} {w w' : World} {B p : Nat} {d : Option Nat} {l : List (Nat × Value)} {idx lim : Int} {sv : List (Int × Int × List (Nat × Value))} {N : Nat} (h : LStk w B p d l idx lim sv N) (ht : Touch S w w') (hp : ¬ S p) (hd : ∀ k, d = some k → ¬ S k) : LStk w' B p d l idx lim sv N := by
  obtain ⟨D, h, r⟩ := h
  exact ⟨D, h.touch ht hp hd, r⟩
theorem LStk.below {w w' : World} {B p : Nat} {d : Option Nat} {l : List (Nat × Value)} {idx lim : Int} {sv : List (Int × Int × List (Nat × Value))} {N : Nat} (h : LStk w B p d l idx lim sv N) (ht : Below w.heap.size w w') : LStk w' B p d l idx lim sv N :=
  h.touch (Touch.of_below ht (fun _ => False)) (fun h => h) (fun _ _ h => h)
theorem LStk.ne {w : World} {B p : Nat} {d : Option Nat} {l : List (Nat × Value)} {idx lim : Int} {sv : List (Int × Int × List (Nat × Value))} {N : Nat} (h : LStk w B p d l idx lim sv N) {g : Nat} {t : TypeId} {cs : Array Value} (hr : Row w g t cs) (h1 : 67 ≠ t) (h2 : 78 ≠ t) : g ≠ p ∧ d ≠ some g := by
  obtain ⟨D, h, _⟩ := h
  exact h.ne hr h1 h2
theorem LStk.nonneg {w : World} {B p : Nat} {d : Option Nat} {v : Nat × Value} {l : List (Nat × Value)} {idx lim : Int} {sv : List (Int × Int × List (Nat × Value))} {N : Nat} (h : LStk w B p d (v :: l) idx lim sv N) : 0 ≤ idx := by
  obtain ⟨D, _, ⟨k, hk, _⟩, _⟩ := h
  omega
theorem LStk.nil {w : World} {B p : Nat} {d : Option Nat} {idx lim : Int} {sv : List (Int × Int × List (Nat × Value))} {N : Nat} (h : LStk w B p d [] idx lim sv N) : idx = -1 := by
  obtain ⟨D, _, h, _⟩ := h
  exact h
theorem LStk.more {w : World} {B p : Nat} {d : Option Nat} {l : List (Nat × Value)} {idx lim : Int} {sv : List (Int × Int × List (Nat × Value))} {N N' : Nat} (h : LStk w B p d l idx lim sv N) (hN : N ≤ N') : LStk w B p d l idx lim sv N' := by
  obtain ⟨D, a, b, c, d, e, f⟩ := h
  exact ⟨D, a, b, c, d, e, by omega⟩
theorem lnew (w : World) : Calls Try.prog 25 #[] w fun e w' => e = .returned (.pointer (some ⟨w.heap.size, 0, none⟩)) ∧ LStk w' w.heap.size w.heap.size none [] (-1) (-1) [] 0 ∧ Below w.heap.size w w' :=
  (new_stack w).mono fun e w' ⟨he, hs, hb⟩ => ⟨he, ⟨[], hs, rfl, by omega, by simp, trivial, by simp⟩, hb⟩
def LPush (w : World) (B p : Nat) (d : Option Nat) (l : List (Nat × Value)) (lim : Int) (sv : List (Int × Int × List (Nat × Value))) (N : Nat) (en : Ending) (w' : World) : Prop :=
  en = NoEnd ∧ ∃ d' idx', LStk w' B p d' l idx' lim sv N ∧ (d' = d ∨ ∃ k, d' = some k ∧ w.heap.size ≤ k) ∧ Touch (fun k => k = p ∨ d = some k) w w'
theorem lpush (w : World) (B p : Nat) (d : Option Nat) (l : List (Nat × Value)) (idx lim : Int) (sv : List (Int × Int × List (Nat × Value))) (N : Nat) (h : LStk w B p d l idx lim sv N) (hN : N ≤ 1048576) (t : Nat) (x : Value) :
    Calls Try.prog 27 #[.pointer (some ⟨p, 0, none⟩), .iface t x] w (LPush w B p d ((t, x) :: l) lim sv (N + 1)) := by
  obtain ⟨D, hs, hc, h1, h2, h3, h4⟩ := h
  refine (push_any w B p d D idx lim t x hs hc.lo h1 hc.hi h2 (by omega)).mono fun en w' ⟨he, d', hs', hd', ht⟩ => ?_
  have a1 := hc.lo
  have a2 := hc.hi
  have hi : (max idx lim + 1).toNat ≤ D.length := by omega
  have hl := pushD_length (D := D) (i := (max idx lim + 1).toNat) (e := (t, x, idx))
  refine ⟨he, d', _, ⟨_, hs', ⟨(max idx lim + 1).toNat, by omega, idx, pushD_self hi, by omega, hc.push hi (by omega)⟩, h1, by omega, h3.push hi (by omega), by omega⟩, hd', ht⟩
theorem lpop (w : World) (B p : Nat) (d : Option Nat) (l : List (Nat × Value)) (v : Nat × Value) (idx lim : Int) (sv : List (Int × Int × List (Nat × Value))) (N : Nat) (h : LStk w B p d (v :: l) idx lim sv N) :
    Calls Try.prog 28 #[.pointer (some ⟨p, 0, none⟩)] w fun en w' => en = .returned (.iface v.1 v.2) ∧ (∃ idx', LStk w' B p d l idx' lim sv N) ∧ Touch (· = p) w w' := by
  obtain ⟨D, hs, ⟨k, rfl, nx, hd, hn, hc⟩, h1, h2, h3, h4⟩ := h
  exact (pop_any w B p d D lim k hs _ hd).mono fun en w' ⟨he, hs', ht⟩ => ⟨he, ⟨_, D, hs', hc, h1, h2, h3, h4⟩, ht⟩
theorem lempty (w : World) (B p : Nat) (d : Option Nat) (l : List (Nat × Value)) (idx lim : Int) (sv : List (Int × Int × List (Nat × Value))) (N : Nat) (h : LStk w B p d l idx lim sv N) :
    Calls Try.prog 18 #[.pointer (some ⟨p, 0, none⟩)] w fun e w' => e = .returned (.bool l.isEmpty) ∧ w = w' := by
  have hi : decide (idx < 0) = l.isEmpty := by
    obtain ⟨D, hs, hc, _⟩ := h
    cases l with
    | nil => unfold Chain at hc; subst hc; rfl
    | cons v r =>
      obtain ⟨k, hk, _⟩ := hc
      rw [decide_eq_false (by omega)]; rfl
  obtain ⟨D, hs, _⟩ := h
  rw [← hi]
  exact empty_any w B p d D idx lim hs
theorem lsave (w : World) (B p : Nat) (d : Option Nat) (l : List (Nat × Value)) (idx lim : Int) (sv : List (Int × Int × List (Nat × Value))) (N : Nat) (h : LStk w B p d l idx lim sv N) :
    Calls Try.prog 29 #[.pointer (some ⟨p, 0, none⟩)] w fun en w' => en = .returned (.tuple #[.int .i64 idx, .int .i64 lim]) ∧ LStk w' B p d l idx (max idx lim) ((idx, lim, l) :: sv) N ∧ Touch (· = p) w w' := by
  obtain ⟨D, hs, hc, h1, h2, h3, h4⟩ := h
  have a1 := hc.lo
  have a2 := hc.hi
  exact (save_any w B p d D idx lim hs).mono fun en w' ⟨he, hs', ht⟩ => ⟨he, ⟨D, hs', hc, by omega, by omega, ⟨by show idx ≤ _; omega, by show lim ≤ _; omega, h1, hc, h3⟩, h4⟩, ht⟩
theorem lrestore (w : World) (B p : Nat) (d : Option Nat) (l l0 : List (Nat × Value)) (idx lim i0 m0 : Int) (sv : List (Int × Int × List (Nat × Value))) (N : Nat) (h : LStk w B p d l idx lim ((i0, m0, l0) :: sv) N) :
    Calls Try.prog 33 #[.pointer (some ⟨p, 0, none⟩), .int .i64 i0, .int .i64 m0] w fun en w' => en = NoEnd ∧ LStk w' B p d l0 i0 m0 sv N ∧ Touch (· = p) w w' := by
  obtain ⟨D, hs, hc, h1, h2, ⟨s1, s2, s3, s4, s5⟩, h4⟩ := h
  exact (restore_any w B p d D idx lim i0 m0 hs).mono fun en w' ⟨he, hs', ht⟩ => ⟨he, ⟨D, hs', s4, s3, by simp only at s2; omega, s5, h4⟩, ht⟩
end Go.Proofs.Ytohgcoepdfhbmaa
