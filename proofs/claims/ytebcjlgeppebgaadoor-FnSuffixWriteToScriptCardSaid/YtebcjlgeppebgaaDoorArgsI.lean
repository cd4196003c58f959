/-
  How the form's reading opens an item (n001_84).
-/
import Derived.Test.YtebcjlgeppebgaaDoorItems
namespace Go.Proofs.YtebcjlgeppebgaaDoor
set_option linter.unusedVariables false
open Go.ChangeShapes Go.WideShapes Go.ChangeAt Go.RowKit Go.Deep M
section
variable {H : Type} {enc : TypeId × Value → H} {w : World} {base : Nat} {spare : Nat → Bool} {held : Bool}
theorem item_under : ∃ f0 f1, Tryd.prog.underlying 91 = some (.struct #[f0, f1]) ∧ f0.type = 4 ∧ f1.type = 9 := ⟨_, _, Tryd.underlying91, rfl, rfl⟩
theorem read_item (n : Nat) (cs : List Value) (y : DataW H × List MemPlace) (h : DataW.trod enc Tryd.prog w base spare held n 91 cs = some y) : ∃ x : Item, IsItem cs x := by
  obtain ⟨f0, f1, hu, t0, t1⟩ := item_under
  obtain ⟨hl, hf⟩ := read_fields Tryd.underlying91 (by kernel_rfl) (by kernel_rfl) n cs y h
  obtain ⟨v0, m0, z0, e0, r0⟩ := hf 0 _ rfl
  obtain ⟨v1, m1, z1, e1, r1⟩ := hf 1 _ rfl
  obtain ⟨b, hb, _⟩ := DataW.trod_bool Tryd.underlying4 r0
  obtain ⟨s, hs, _, hs2⟩ := DataW.trod_string Tryd.underlying9 r1
  simp only [List.cons.injEq, and_true] at hb hs
  subst hb hs
  refine ⟨(b, s), ?_, hs2⟩
  match cs, hl, e0, e1 with
  | [c0, c1], _, e0, e1 =>
    simp at e0 e1
    rw [e0, e1]
end
end Go.Proofs.YtebcjlgeppebgaaDoor
