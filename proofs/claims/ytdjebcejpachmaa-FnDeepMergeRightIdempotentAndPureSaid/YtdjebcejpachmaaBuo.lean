/-
  The contracts of buildObject and objMatches (n001_79).
-/
import Derived.Test.YtdjebcejpachmaaMrg
namespace Go.Proofs.Ytdjebcejpachmaa
set_option linter.unusedVariables false
set_option linter.unusedSimpArgs false
open Go.ChangeShapes Go.WideShapes Go.ChangeAt Go.RowKit M
/-- What a model says, name by name. -/
def fun1 (f : Flat) : Fun1 := fun s => aget f s
def entF : Ent → Int ⊕ Fun1 | .inl n => .inl n | .inr f => .inr (fun1 f)
def fun2 (om : OML) : Fun2 := fun s => (aget om s).map entF
/-- An object of ints under way. -/
def FObjX (w : World) (b : Nat) (es : ES) (f : Flat) : Prop := MMap w b es ∧ ∀ s, aget es s = (aget f s).map intV
theorem FObjX.len {w : World} {b : Nat} {es : ES} {f : Flat} (h : FObjX w b es f) (hn : Nd f) : es.length = f.length :=
  len_of_keys h.1.1 hn fun s => by rw [h.2 s]; cases aget f s <;> rfl
theorem FObjX.put {w w' : World} {b : Nat} {es : ES} {f : Flat} {s : ByteArray} {n : Int} (h : FObjX w b es f) (hm : MMap w' b (aset es s (intV n))) : FObjX w' b (aset es s (intV n)) (aset f s n) := by
  refine ⟨hm, fun t => ?_⟩
  rw [aget_aset, aget_aset, h.2 t]
  split <;> rfl
def VX (w : World) (b : Nat) : Option Value → Option Ent → Prop
  | none, none => True
  | some v, some (.inl n) => v = intV n
  | some v, some (.inr f) => Nd f ∧ f.length ≤ 4096 ∧ ∃ m fs, v = .iface 42 (.map (some m)) ∧ m ≠ b ∧ FObjX w m fs f
  | _, _ => False
theorem VX.touch {S : Nat → Prop} {w w' : World} {b : Nat} {v : Option Value} {e : Option Ent} (h : VX w b v e) (ht : Touch S w w') (hn : ∀ k, k < w.heap.size → k ≠ b → ¬ S k) : VX w' b v e := by
  unfold VX at h ⊢
  split at h
  · trivial
  · exact h
  · obtain ⟨h3, h4, m, fs, h5, h6, h7, h8⟩ := h
    exact ⟨h3, h4, m, fs, h5, h6, h7.touch ht (hn _ h7.lt h6), h8⟩
  · exact h
/-- The whole object under way: the values that are objects do not lie at b. -/
def OObjX (w : World) (b : Nat) (es : ES) (om : OML) : Prop := MMap w b es ∧ ∀ s, VX w b (aget es s) (aget om s)
theorem OObjX.keep {w w' : World} {b : Nat} {es : ES} {om : OML} (h : OObjX w b es om) (hb : Below w.heap.size w w') : OObjX w' b es om :=
  ⟨h.1.keep hb, fun s => (h.2 s).touch (Touch.of_below hb (fun _ => False)) (fun _ _ _ q => q)⟩
theorem OObjX.set {w w' : World} {b : Nat} {es : ES} {om : OML} {s : ByteArray} {v : Value} {e : Ent} (h : OObjX w b es om) (hm : MMap w' b (aset es s v)) (ht : Touch (· = b) w w') (hv : VX w' b (some v) (some e)) : OObjX w' b (aset es s v) (aset om s e) := by
  refine ⟨hm, fun t => ?_⟩
  rw [aget_aset, aget_aset]
  by_cases hst : s = t
  · rw [if_pos hst, if_pos hst]
    exact hv
  · rw [if_neg hst, if_neg hst]
    exact (h.2 t).touch ht (fun _ _ q => q)
theorem OObjX.obj {w : World} {b : Nat} {es : ES} {om : OML} (h : OObjX w b es om) (hn : Nd om) (hl : om.length ≤ 4096) : OObj w b 4096 (fun2 om) := by
  have hlen : es.length = om.length := len_of_keys h.1.1 hn fun s => by
    have := h.2 s
    cases h1 : aget es s with
    | none =>
      rw [h1] at this
      cases h2 : aget om s with
      | none => rfl
      | some y => rw [h2] at this; cases y <;> exact absurd this id
    | some u =>
      rw [h1] at this
      cases h2 : aget om s with
      | none => rw [h2] at this; exact absurd this id
      | some y => rfl
  refine ⟨es, h.1, by omega, fun s => ?_⟩
  have := h.2 s
  unfold fun2
  cases h1 : aget es s with
  | none =>
    rw [h1] at this
    cases h2 : aget om s with
    | none => trivial
    | some y => rw [h2] at this; cases y <;> exact absurd this id
  | some u =>
    rw [h1] at this
    cases h2 : aget om s with
    | none => rw [h2] at this; exact absurd this id
    | some y =>
      rw [h2] at this
      cases y with
      | inl n => exact this
      | inr f =>
        obtain ⟨h3, h4, m, fs, h5, h6, h7⟩ := this
        refine ⟨m, h5, trivial, fs, h7.1, by rw [h7.len h3]; exact h4, fun t => h7.2 t⟩
end Go.Proofs.Ytdjebcejpachmaa
