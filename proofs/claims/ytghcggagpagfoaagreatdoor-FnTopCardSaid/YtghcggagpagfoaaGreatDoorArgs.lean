/-
  A slice that came in, of elements of any kind: 'SliceOf' (element i lies in C cells, of which R says that they hold xs[i]); how the form's own reading opens to it; one-cell fields of a struct.
-/
import Derived.Test.YtghcggagpagfoaaGreatDoorMem
import Derived.Deep.Slices
import Derived.Deep.Fields
import Derived.ChangeSame
import Derived.OpenShut
import Derived.Carry
namespace Go.Proofs.YtghcggagpagfoaaGreatDoor
set_option linter.unusedVariables false
open Go.ChangeShapes Go.WideShapes Go.ChangeAt Go.RowKit Go.Deep M
def SliceOf {α : Type} (C : Nat) (R : List Value → α → Prop) (w : World) (a : Option Addr) (len : Nat) (xs : List α) : Prop :=
  xs.length = len ∧ len ≤ maxLen ∧ (0 < len → ∃ b o, a = some ⟨b, o, none⟩ ∧ b < w.heap.size ∧ ∀ i x, xs[i]? = some x → ∃ cs : List Value, cs.length = C ∧ (∀ j v, cs[j]? = some v → w.cell? ⟨b, o + (i * C + j), none⟩ = some v) ∧ R cs x)
theorem SliceOf.keep {α : Type} {C : Nat} {R : List Value → α → Prop} {w w' : World} {a : Option Addr} {len : Nat} {xs : List α} (h : SliceOf C R w a len xs) (hb : Below w.heap.size w w') : SliceOf C R w' a len xs := by
  refine ⟨h.1, h.2.1, fun hl => ?_⟩
  obtain ⟨b, o, ha, hlt, hc⟩ := h.2.2 hl
  refine ⟨b, o, ha, Nat.lt_of_lt_of_le hlt hb.size, fun i x hx => ?_⟩
  obtain ⟨cs, h1, h2, h3⟩ := hc i x hx
  exact ⟨cs, h1, fun j v hv => (hb.cell (p := ⟨b, o + (i * C + j), none⟩) hlt).trans (h2 j v hv), h3⟩
theorem SliceOf.lt {α : Type} {C : Nat} {R : List Value → α → Prop} {w : World} {a : Option Addr} {len : Nat} {xs : List α} (h : SliceOf C R w a len xs) : xs.length = len ∧ len ≤ maxLen := ⟨h.1, h.2.1⟩
/-- One element. -/
theorem SliceOf.get {α : Type} {C : Nat} {R : List Value → α → Prop} {w : World} {a : Option Addr} {len : Nat} {xs : List α} (h : SliceOf C R w a len xs) {i : Nat} (hi : i < len) :
    ∃ b o x cs, a = some ⟨b, o, none⟩ ∧ b < w.heap.size ∧ xs[i]? = some x ∧ cs.length = C ∧ (∀ j v, cs[j]? = some v → w.cell? ⟨b, o + (i * C + j), none⟩ = some v) ∧ R cs x := by
  obtain ⟨h1, h2, h3⟩ := h
  obtain ⟨b, o, ha, hlt, hc⟩ := h3 (by omega)
  have hx : xs[i]? = some xs[i] := List.getElem?_eq_getElem (by omega)
  obtain ⟨cs, c1, c2, c3⟩ := hc i _ hx
  exact ⟨b, o, _, cs, ha, hlt, hx, c1, c2, c3⟩
theorem choose_list {α : Type} {p : Nat → α → Prop} : ∀ (n : Nat), (∀ i, i < n → ∃ x, p i x) → ∃ xs : List α, xs.length = n ∧ ∀ i x, xs[i]? = some x → p i x
  | 0, _ => ⟨[], rfl, fun i x h => by simp at h⟩
  | n + 1, h => by
    obtain ⟨xs, hl, hx⟩ := choose_list n fun i hi => h i (by omega)
    obtain ⟨x, hp⟩ := h n (by omega)
    refine ⟨xs ++ [x], by simp [hl], fun i y hy => ?_⟩
    by_cases hi : i < xs.length
    · rw [List.getElem?_append_left hi] at hy
      exact hx i y hy
    · rw [List.getElem?_append_right (by omega)] at hy
      have h0 : i = n := by
        have := (List.getElem?_eq_some_iff.1 hy).1
        simp at this
        omega
      subst h0
      rw [hl] at hy
      simp at hy
      subst hy
      exact hp
section
variable {H : Type} {enc : TypeId × Value → H} {P : Program} {w : World} {base : Nat} {spare : Nat → Bool} {held : Bool}
theorem open_sliceOf {α : Type} {t e : TypeId} {C : Nat} {R : List Value → α → Prop} {fuel : Nat} {a : Option Addr} {len cap : Nat} {x : DataW H × List MemPlace} (ht : P.underlying t = some (.slice e)) (hc : P.cellsOf e = C) (hC : 0 < C)
    (hR : ∀ n cs y, DataW.trod enc P w base spare held n e cs = some y → ∃ x : α, R cs x) (h : DataW.trod enc P w base spare held fuel t [.slice a len cap] = some x) : ∃ xs : List α, SliceOf C R w a len xs := by
  rcases open_slice ht h with ⟨hcs, _⟩ | ⟨ad, l, c, m, n, D, Pl, hcs, _, hl, hm, hmm, _, hx⟩
  · simp at hcs
    obtain ⟨rfl, rfl, rfl⟩ := hcs
    exact ⟨[], rfl, Nat.zero_le _, fun h => absurd h (by omega)⟩
  · simp at hcs
    obtain ⟨rfl, rfl, rfl⟩ := hcs
    have hlm : len ≤ m := by rw [hmm]; split <;> omega
    obtain ⟨xs, hxl, hxs⟩ := choose_list (p := fun i (x : α) => ∃ cs : List Value, cs.length = C ∧ (∀ j, j < C → w.cell? ((ad.add (i * C)).add j) = cs[j]?) ∧ R cs x) len (fun i hi => by
      obtain ⟨cs', h1, h2⟩ := hx i (by omega)
      rw [hc] at h1
      obtain ⟨_, c2, c3⟩ := World.cells?_some h1
      obtain ⟨x, hx⟩ := hR n cs' _ h2
      exact ⟨x, cs', c2, c3, hx⟩)
    refine ⟨xs, hxl, by omega, fun hl0 => ?_⟩
    obtain ⟨b, off, spot⟩ := ad
    have hspot : spot = none := by
      obtain ⟨cs, c1, c2, _⟩ := hxs 0 xs[0] (List.getElem?_eq_getElem (by omega))
      have h0 := c2 0 hC
      rw [List.getElem?_eq_getElem (by omega)] at h0
      simpa [Addr.add] using World.cell?_spot h0
    subst hspot
    have hat : ∀ i j, ((⟨b, off, none⟩ : Addr).add (i * C)).add j = ⟨b, off + (i * C + j), none⟩ := fun i j => by
      rw [Go.WideShapes.add_plain, Go.WideShapes.add_plain, Nat.add_assoc]
    refine ⟨b, off, rfl, ?_, fun i x hx => ?_⟩
    · obtain ⟨cs, c1, c2, _⟩ := hxs 0 xs[0] (List.getElem?_eq_getElem (by omega))
      have h0 := c2 0 hC
      rw [hat, List.getElem?_eq_getElem (by omega)] at h0
      unfold World.cell? at h0
      by_cases hb : b < w.heap.size
      · exact hb
      · simp [Array.getElem?_eq_none (show w.heap.size ≤ b by omega)] at h0
    · obtain ⟨cs, c1, c2, c3⟩ := hxs i x hx
      refine ⟨cs, c1, fun j v hv => ?_, c3⟩
      have hj : j < C := by have := (List.getElem?_eq_some_iff.1 hv).1; omega
      rw [← hat, c2 j hj, hv]
/-- Element readings. -/
def IsStr (cs : List Value) (s : ByteArray) : Prop := cs = [.string s] ∧ s.size ≤ maxLen
theorem read_str {e : TypeId} (he : P.underlying e = some .string) (n : Nat) (cs : List Value) (y : DataW H × List MemPlace) (h : DataW.trod enc P w base spare held n e cs = some y) : ∃ s : ByteArray, IsStr cs s := by
  obtain ⟨s, rfl, _, hs⟩ := DataW.trod_string he h
  exact ⟨s, rfl, hs⟩
def IsInt (k : IntKind) (cs : List Value) (n : Int) : Prop := cs = [.int k n] ∧ (Lit.int k n).wf = true
theorem read_int {e : TypeId} {k : IntKind} (he : P.underlying e = some (.int k)) (n : Nat) (cs : List Value) (y : DataW H × List MemPlace) (h : DataW.trod enc P w base spare held n e cs = some y) : ∃ s : Int, IsInt k cs s := by
  obtain ⟨s, rfl, _, hs⟩ := DataW.trod_int he h
  exact ⟨s, rfl, hs⟩
/-- The one-cell fields of a struct: each cell read by its own type. -/
theorem read_fields {e : TypeId} {fs : Array Field} (he : P.underlying e = some (.struct fs)) (hone : oneCellFields P fs = true) (hC : P.cellsOf e = fs.size) (n : Nat) (cs : List Value) (y : DataW H × List MemPlace) (h : DataW.trod enc P w base spare held n e cs = some y) :
    cs.length = fs.size ∧ ∀ (j : Nat) (f : Field), fs[j]? = some f → ∃ (v : Value) (m : Nat) (z : DataW H × List MemPlace), cs[j]? = some v ∧ DataW.trod enc P w base spare held m f.type [v] = some z := by
  obtain ⟨ys, n', hn', hy, hlen, hyl, hf⟩ := DataW.trod_struct he h
  refine ⟨hlen.trans hC, fun j f hj => ?_⟩
  obtain ⟨ho, hk⟩ := hone_of hone j f hj
  have hjl : j < fs.size := (Array.getElem?_eq_some_iff.1 hj).1
  have h1 := hf j f hj
  rw [ho, hk] at h1
  have hone' : (cs.drop j).take 1 = [cs[j]'(by omega)] := by
    rw [List.drop_eq_getElem_cons (by omega)]
    rfl
  rw [hone'] at h1
  have hys : ys[j]? = some (ys[j]'(by omega)) := List.getElem?_eq_getElem (by omega)
  exact ⟨_, n', _, List.getElem?_eq_getElem (by omega), h1.trans hys⟩
end
end Go.Proofs.YtghcggagpagfoaaGreatDoor
