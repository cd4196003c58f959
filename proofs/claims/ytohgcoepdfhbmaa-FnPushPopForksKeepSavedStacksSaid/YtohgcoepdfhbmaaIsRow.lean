/-
  A slice of integers that came in ('IsRow', as the frame of a law's proof hands it), opened; a copy of it in a block of the call's own.
-/
import Derived.Test.YtohgcoepdfhbmaaMem
import Derived.Test.YtohgcoepdfhbmaaRows
import Derived.OpenShut
import Derived.WalkSpells
import Derived.WalkLawsBesides
import Derived.Deep.OwnRows
import Derived.Lib.SliceRun
namespace Go.Proofs.Ytohgcoepdfhbmaa
set_option linter.unusedVariables false
open Go.ChangeShapes Go.WideShapes Go.ChangeAt Go.RowKit M
def IsRow (k : IntKind) (w : World) (a : Option Addr) (len cap : Nat) (zs : List Int) : Prop :=
  (a = none ∧ len = 0 ∧ cap = 0 ∧ zs = []) ∨
  ∃ x, a = some x ∧ len ≤ cap ∧ cap ≤ maxLen ∧ zs.length = cap ∧ (∀ i, i < zs.length → w.cell? (x.add i) = some (.int k (zs.getD i 0))) ∧ ∀ n ∈ zs, (Lit.int k n).wf = true
theorem IsRow.len {k : IntKind} {w : World} {a : Option Addr} {len cap : Nat} {zs : List Int} (h : IsRow k w a len cap zs) : len ≤ zs.length ∧ len ≤ maxLen := by
  rcases h with ⟨_, rfl, _, rfl⟩ | ⟨x, _, h1, h2, h3, _⟩
  · exact ⟨Nat.zero_le _, Nat.zero_le _⟩
  · exact ⟨by omega, by omega⟩
theorem cell_lt {w : World} {b o : Nat} {s : Option Nat} {v : Value} (h : w.cell? ⟨b, o, none⟩ = some v) : b < w.heap.size := by
  unfold World.cell? at h
  by_cases hb : b < w.heap.size
  · exact hb
  · simp [Array.getElem?_eq_none (show w.heap.size ≤ b by omega)] at h
/-- Where there is an element, the slice leads to a row below the heap's end. -/
theorem IsRow.open_ {k : IntKind} {w : World} {a : Option Addr} {len cap : Nat} {zs : List Int} (h : IsRow k w a len cap zs) (hp : 0 < len) :
    ∃ b o, a = some ⟨b, o, none⟩ ∧ b < w.heap.size ∧ ∀ i, i < len → w.cell? ⟨b, o + i, none⟩ = some (.int k (zs.getD i 0)) := by
  rcases h with ⟨_, rfl, _, rfl⟩ | ⟨x, rfl, h1, h2, h3, h4, _⟩
  · omega
  · obtain ⟨b, o, rfl, hc⟩ := ints_at h4 (by omega)
    exact ⟨b, o, rfl, cell_lt (s := none) (hc 0 (by omega)), fun i hi => hc i (by omega)⟩
theorem IsRow.wf {k : IntKind} {w : World} {a : Option Addr} {len cap : Nat} {zs : List Int} (h : IsRow k w a len cap zs) (i : Nat) (hi : i < zs.length) : (Lit.int k (zs.getD i 0)).wf = true := by
  rcases h with ⟨_, rfl, _, rfl⟩ | ⟨x, rfl, h1, h2, h3, h4, h5⟩
  · simp at hi
  · rw [List.getD_eq_getElem?_getD, List.getElem?_eq_getElem hi]
    exact h5 _ (List.getElem_mem _)
/-- Slice address A leads to exactly the numbers zs, in a block of its own from B on; or there is none. -/
def CopyOf (k : IntKind) (t : TypeId) (w : World) (B : Nat) (A : Option Addr) (zs : List Int) : Prop :=
  zs = [] ∨ ∃ g, A = some ⟨g, 0, none⟩ ∧ B ≤ g ∧ Row w g t (zs.map (Value.int k)).toArray
theorem CopyOf.get {k : IntKind} {t : TypeId} {w : World} {B : Nat} {A : Option Addr} {zs : List Int} (h : CopyOf k t w B A zs) {i : Nat} (hi : i < zs.length) :
    ∃ g, A = some ⟨g, 0, none⟩ ∧ B ≤ g ∧ Row w g t (zs.map (Value.int k)).toArray ∧ ∀ j, j < zs.length → w.cell? ⟨g, j, none⟩ = some (.int k (zs.getD j 0)) := by
  rcases h with rfl | ⟨g, hA, hB, hr⟩
  · simp at hi
  · refine ⟨g, hA, hB, hr, fun j hj => ?_⟩
    rw [hr.cell, List.getElem?_toArray, List.getElem?_map, List.getElem?_eq_getElem hj, List.getD_eq_getElem?_getD, List.getElem?_eq_getElem hj]
    rfl
theorem CopyOf.keep {k : IntKind} {t : TypeId} {w w' : World} {B : Nat} {A : Option Addr} {zs : List Int} (h : CopyOf k t w B A zs) (hk : ∀ g cs, Row w g t cs → Row w' g t cs) : CopyOf k t w' B A zs := by
  rcases h with rfl | ⟨g, hA, hB, hr⟩
  · exact .inl rfl
  · exact .inr ⟨g, hA, hB, hk g _ hr⟩
theorem IsRow.below {k : IntKind} {w w' : World} {a : Option Addr} {len cap : Nat} {zs : List Int} (h : IsRow k w a len cap zs) (hb : Below w.heap.size w w') : IsRow k w' a len cap zs := by
  rcases h with h | ⟨x, hx, h1, h2, h3, h4, h5⟩
  · exact .inl h
  · refine .inr ⟨x, hx, h1, h2, h3, fun i hi => ?_, h5⟩
    obtain ⟨b, o, rfl, hc⟩ := ints_at h4 (by omega)
    have := hc i hi
    rw [Go.WideShapes.add_plain]
    exact (hb.cell (p := ⟨b, o + i, none⟩) (cell_lt (s := none) this)).trans this
theorem CopyOf.base {k : IntKind} {t : TypeId} {w : World} {B B' : Nat} {A : Option Addr} {zs : List Int} (h : CopyOf k t w B A zs) (hB : B' ≤ B) : CopyOf k t w B' A zs := by
  rcases h with h | ⟨g, hA, hg, hr⟩
  · exact .inl h
  · exact .inr ⟨g, hA, by omega, hr⟩
def CopyTo (k : IntKind) (zs : List Int) (n : Nat) (cs : Array Value) : Prop := ∀ j, j < n → cs[j]? = some (.int k (zs.getD j 0))
theorem CopyTo.step {k : IntKind} {zs : List Int} {n : Nat} {cs : Array Value} (h : CopyTo k zs n cs) (hn : n < cs.size) : CopyTo k zs (n + 1) (cs.setIfInBounds n (.int k (zs.getD n 0))) := by
  intro j hj
  rw [Array.getElem?_setIfInBounds]
  by_cases he : n = j
  · subst he
    rw [if_pos rfl, if_pos hn]
  · rw [if_neg he]
    exact h j (by omega)
theorem CopyTo.all {k : IntKind} {zs : List Int} {n : Nat} {cs : Array Value} (h : CopyTo k zs n cs) (hs : cs.size = n) (hn : n ≤ zs.length) : cs = ((zs.take n).map (Value.int k)).toArray := by
  apply Array.ext_getElem?
  intro i
  by_cases hi : i < n
  · rw [h i hi, List.getElem?_toArray, List.getElem?_map, List.getElem?_take_of_lt hi, List.getElem?_eq_getElem (by omega), List.getD_eq_getElem?_getD, List.getElem?_eq_getElem (by omega)]
    rfl
  · rw [Array.getElem?_eq_none (by omega), List.getElem?_toArray, List.getElem?_eq_none (by simp; omega)]
def CopyOut (k : IntKind) (t : TypeId) (n : Nat) (zs : List Int) (w : World) (e : Ending) (w' : World) : Prop :=
  ∃ A c, e = .returned (.slice A n c) ∧ CopyOf k t w' w.heap.size A (zs.take n) ∧ Below w.heap.size w w'
end Go.Proofs.Ytohgcoepdfhbmaa
