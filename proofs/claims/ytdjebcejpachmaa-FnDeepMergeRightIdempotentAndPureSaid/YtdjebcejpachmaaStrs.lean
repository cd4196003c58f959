/-
  A slice of strings that came in; a copy of values in a block of the call's own ('CopyV').
-/
import Derived.Test.YtdjebcejpachmaaArgs
import Derived.Test.YtdjebcejpachmaaTouch
import Derived.WalkSpells
import Derived.WalkLawsBesides
import Derived.Deep.OwnRows
import Derived.Lib.SliceRun
namespace Go.Proofs.Ytdjebcejpachmaa
set_option linter.unusedVariables false
open Go.ChangeShapes Go.WideShapes Go.ChangeAt Go.RowKit M
theorem SliceOf.str {w : World} {a : Option Addr} {len : Nat} {xs : List ByteArray} (h : SliceOf 1 IsStr w a len xs) {k : Nat} (hk : k < len) :
    ∃ b o s, a = some ⟨b, o, none⟩ ∧ b < w.heap.size ∧ xs[k]? = some s ∧ s.size ≤ maxLen ∧ w.cell? ⟨b, o + k, none⟩ = some (.string s) := by
  obtain ⟨b, o, s, cs, ha, hb, hx, h1, h2, rfl, hs⟩ := h.get hk
  have := h2 0 (.string s) rfl
  rw [Nat.mul_one, Nat.add_zero] at this
  exact ⟨b, o, s, ha, hb, hx, hs, this⟩
theorem SliceOf.int {kd : IntKind} {w : World} {a : Option Addr} {len : Nat} {xs : List Int} (h : SliceOf 1 (IsInt kd) w a len xs) {k : Nat} (hk : k < len) :
    ∃ b o s, a = some ⟨b, o, none⟩ ∧ b < w.heap.size ∧ xs[k]? = some s ∧ (Lit.int kd s).wf = true ∧ w.cell? ⟨b, o + k, none⟩ = some (.int kd s) := by
  obtain ⟨b, o, s, cs, ha, hb, hx, h1, h2, rfl, hs⟩ := h.get hk
  have := h2 0 (.int kd s) rfl
  rw [Nat.mul_one, Nat.add_zero] at this
  exact ⟨b, o, s, ha, hb, hx, hs, this⟩
/-- Slice address A leads to exactly the values vs, in a block of its own from B on; or there is none. -/
def CopyV (t : TypeId) (w : World) (B : Nat) (A : Option Addr) (vs : List Value) : Prop :=
  vs = [] ∨ ∃ g, A = some ⟨g, 0, none⟩ ∧ B ≤ g ∧ Row w g t vs.toArray
theorem CopyV.get {t : TypeId} {w : World} {B : Nat} {A : Option Addr} {vs : List Value} (h : CopyV t w B A vs) {i : Nat} (hi : i < vs.length) :
    ∃ g, A = some ⟨g, 0, none⟩ ∧ B ≤ g ∧ Row w g t vs.toArray ∧ ∀ j v, vs[j]? = some v → w.cell? ⟨g, j, none⟩ = some v := by
  rcases h with rfl | ⟨g, hA, hB, hr⟩
  · simp at hi
  · refine ⟨g, hA, hB, hr, fun j v hj => ?_⟩
    rw [hr.cell, List.getElem?_toArray, hj]
theorem CopyV.keep {t : TypeId} {w w' : World} {B : Nat} {A : Option Addr} {vs : List Value} (h : CopyV t w B A vs) (hk : ∀ g cs, Row w g t cs → Row w' g t cs) : CopyV t w' B A vs := by
  rcases h with rfl | ⟨g, hA, hB, hr⟩
  · exact .inl rfl
  · exact .inr ⟨g, hA, hB, hk g _ hr⟩
theorem CopyV.below {t : TypeId} {w w' : World} {B : Nat} {A : Option Addr} {vs : List Value} (h : CopyV t w B A vs) (hb : Below w.heap.size w w') : CopyV t w' B A vs := h.keep fun g cs hr => hr.keep hb hr.lt
def CopyVTo (vs : List Value) (n : Nat) (cs : Array Value) : Prop := ∀ j, j < n → cs[j]? = vs[j]?
theorem CopyVTo.step {vs : List Value} {n : Nat} {v : Value} {cs : Array Value} (h : CopyVTo vs n cs) (hn : n < cs.size) (hv : vs[n]? = some v) : CopyVTo vs (n + 1) (cs.setIfInBounds n v) := by
  intro j hj
  rw [Array.getElem?_setIfInBounds]
  by_cases he : n = j
  · subst he
    rw [if_pos rfl, if_pos hn, hv]
  · rw [if_neg he]
    exact h j (by omega)
theorem CopyVTo.all {vs : List Value} {n : Nat} {cs : Array Value} (h : CopyVTo vs n cs) (hs : cs.size = n) (hn : vs.length = n) : cs = vs.toArray := by
  apply Array.ext_getElem?
  intro i
  by_cases hi : i < n
  · rw [h i hi, List.getElem?_toArray]
  · rw [Array.getElem?_eq_none (by omega), List.getElem?_toArray, List.getElem?_eq_none (by omega)]
def CopyVOut (t : TypeId) (n : Nat) (vs : List Value) (w : World) (e : Ending) (w' : World) : Prop :=
  ∃ A c, e = .returned (.slice A n c) ∧ CopyV t w' w.heap.size A vs ∧ Below w.heap.size w w'
def SomeBool (w : World) (e : Ending) (w' : World) : Prop := ∃ b : Bool, e = .returned (.bool b) ∧ w = w'
def SomeInt (w : World) (e : Ending) (w' : World) : Prop := ∃ n : Int, e = .returned (.int .i64 n) ∧ w = w'
theorem str_beq_ne {a b : ByteArray} (h : a ≠ b) : (a.toList == b.toList) = false := by
  rw [beq_eq_false_iff_ne, ByteArray.toList_eq, ByteArray.toList_eq]
  intro e
  apply h
  cases a
  cases b
  simpa using Array.toList_inj.1 e
theorem str_beq_eq {a b : ByteArray} (h : a = b) : (a.toList == b.toList) = true := by
  subst h
  simp
theorem strs_get {zs : List ByteArray} {k : Nat} {s : ByteArray} (h : zs[k]? = some s) : (zs.map Value.string)[k]? = some (.string s) := by simp [h]
end Go.Proofs.Ytdjebcejpachmaa
