/-
  The model's struct in memory: a block of five slices, each an own row; one append, one store (n001_79). Printed by genM.py.
-/
import Derived.Test.YtdjebcejpachmaaFlat
namespace Go.Proofs.Ytdjebcejpachmaa
set_option linter.unusedVariables false
set_option linter.unusedSimpArgs false
open Go.ChangeShapes Go.WideShapes Go.ChangeAt Go.RowKit M
structure St (w : World) (B p : Nat) (v0 v1 v2 v3 v4 : Value) (n0 n1 n2 n3 n4 : Nat) (l0 l1 l2 l3 l4 : List Value) : Prop where
  row : Row w p 39 #[v0, v1, v2, v3, v4]
  low : B ≤ p
  o0 : w.ownsRow B 9 1 v0 n0 l0
  o1 : w.ownsRow B 3 1 v1 n1 l1
  o2 : w.ownsRow B 4 1 v2 n2 l2
  o3 : w.ownsRow B 24 1 v3 n3 l3
  o4 : w.ownsRow B 29 1 v4 n4 l4
/-- The blocks that a change of the struct may turn. -/
def DM (p : Nat) (v0 v1 v2 v3 v4 : Value) (k : Nat) : Prop := k = p ∨ v0.ownBlock = some k ∨ v1.ownBlock = some k ∨ v2.ownBlock = some k ∨ v3.ownBlock = some k ∨ v4.ownBlock = some k
theorem St.np0 {w : World} {B p : Nat} {v0 v1 v2 v3 v4 : Value} {n0 n1 n2 n3 n4 : Nat} {l0 l1 l2 l3 l4 : List Value} (h : St w B p v0 v1 v2 v3 v4 n0 n1 n2 n3 n4 l0 l1 l2 l3 l4) : ∀ k, v0.ownBlock = some k → k ≠ p := fun k q e => own_ne h.o0 h.row (by decide) (by rw [q, e])
theorem St.np1 {w : World} {B p : Nat} {v0 v1 v2 v3 v4 : Value} {n0 n1 n2 n3 n4 : Nat} {l0 l1 l2 l3 l4 : List Value} (h : St w B p v0 v1 v2 v3 v4 n0 n1 n2 n3 n4 l0 l1 l2 l3 l4) : ∀ k, v1.ownBlock = some k → k ≠ p := fun k q e => own_ne h.o1 h.row (by decide) (by rw [q, e])
theorem St.np2 {w : World} {B p : Nat} {v0 v1 v2 v3 v4 : Value} {n0 n1 n2 n3 n4 : Nat} {l0 l1 l2 l3 l4 : List Value} (h : St w B p v0 v1 v2 v3 v4 n0 n1 n2 n3 n4 l0 l1 l2 l3 l4) : ∀ k, v2.ownBlock = some k → k ≠ p := fun k q e => own_ne h.o2 h.row (by decide) (by rw [q, e])
theorem St.np3 {w : World} {B p : Nat} {v0 v1 v2 v3 v4 : Value} {n0 n1 n2 n3 n4 : Nat} {l0 l1 l2 l3 l4 : List Value} (h : St w B p v0 v1 v2 v3 v4 n0 n1 n2 n3 n4 l0 l1 l2 l3 l4) : ∀ k, v3.ownBlock = some k → k ≠ p := fun k q e => own_ne h.o3 h.row (by decide) (by rw [q, e])
theorem St.np4 {w : World} {B p : Nat} {v0 v1 v2 v3 v4 : Value} {n0 n1 n2 n3 n4 : Nat} {l0 l1 l2 l3 l4 : List Value} (h : St w B p v0 v1 v2 v3 v4 n0 n1 n2 n3 n4 l0 l1 l2 l3 l4) : ∀ k, v4.ownBlock = some k → k ≠ p := fun k q e => own_ne h.o4 h.row (by decide) (by rw [q, e])
theorem St.lowD {w : World} {B p : Nat} {v0 v1 v2 v3 v4 : Value} {n0 n1 n2 n3 n4 : Nat} {l0 l1 l2 l3 l4 : List Value} (h : St w B p v0 v1 v2 v3 v4 n0 n1 n2 n3 n4 l0 l1 l2 l3 l4) : ∀ k, DM p v0 v1 v2 v3 v4 k → B ≤ k ∧ k < w.heap.size := by
  rintro k (rfl | q | q | q | q | q)
  · exact ⟨h.low, h.row.lt⟩
  · exact h.o0.lt k q
  · exact h.o1.lt k q
  · exact h.o2.lt k q
  · exact h.o3.lt k q
  · exact h.o4.lt k q
theorem St.touch {S : Nat → Prop} {w w' : World} {B p : Nat} {v0 v1 v2 v3 v4 : Value} {n0 n1 n2 n3 n4 : Nat} {l0 l1 l2 l3 l4 : List Value} (h : St w B p v0 v1 v2 v3 v4 n0 n1 n2 n3 n4 l0 l1 l2 l3 l4) (ht : Touch S w w') (hn : ∀ k, DM p v0 v1 v2 v3 v4 k → ¬ S k) : St w' B p v0 v1 v2 v3 v4 n0 n1 n2 n3 n4 l0 l1 l2 l3 l4 :=
  ⟨h.row.touch ht (hn p (.inl rfl)), h.low, own_touch h.o0 ht (fun k q => hn k (.inr (.inl q) )), own_touch h.o1 ht (fun k q => hn k (.inr (.inr (.inl q)) )), own_touch h.o2 ht (fun k q => hn k (.inr (.inr (.inr (.inl q))) )), own_touch h.o3 ht (fun k q => hn k (.inr (.inr (.inr (.inr (.inl q)))) )), own_touch h.o4 ht (fun k q => hn k (.inr (.inr (.inr (.inr (.inr q))))))⟩
theorem St.app0 {w w' : World} {B p : Nat} {v0 v1 v2 v3 v4 : Value} {n0 n1 n2 n3 n4 : Nat} {l0 l1 l2 l3 l4 : List Value} {v' : Value} {n' : Nat} {l' : List Value} (h : St w B p v0 v1 v2 v3 v4 n0 n1 n2 n3 n4 l0 l1 l2 l3 l4) (o : Obj) (ht : Touch (fun j => v0.ownBlock = some j) (w.alloc o) w') (ho : w'.ownsRow B 9 1 v' n' l') : St (w'.setCell ⟨p, 0, none⟩ v') B p v' v1 v2 v3 v4 n' n1 n2 n3 n4 l' l1 l2 l3 l4 := by
  have hr : Row w' p 39 #[v0, v1, v2, v3, v4] := (h.row.alloc o).touch ht (fun q => h.np0 p q rfl)
  refine ⟨hr.put 0 v', h.low, ?_, ?_, ?_, ?_, ?_⟩
  · exact own_touch ho ((Touch.refl (· = p) w').setCell (fun _ => rfl) _) (fun k q e => own_ne ho hr (by decide) (by rw [q, e]))
  · exact own_touch (own_touch (h.o1.alloc o) ht (fun k q e => own_apart h.o1 h.o0 (by decide) k q e)) ((Touch.refl (· = p) w').setCell (fun _ => rfl) _) (fun k q e => h.np1 k q e)
  · exact own_touch (own_touch (h.o2.alloc o) ht (fun k q e => own_apart h.o2 h.o0 (by decide) k q e)) ((Touch.refl (· = p) w').setCell (fun _ => rfl) _) (fun k q e => h.np2 k q e)
  · exact own_touch (own_touch (h.o3.alloc o) ht (fun k q e => own_apart h.o3 h.o0 (by decide) k q e)) ((Touch.refl (· = p) w').setCell (fun _ => rfl) _) (fun k q e => h.np3 k q e)
  · exact own_touch (own_touch (h.o4.alloc o) ht (fun k q e => own_apart h.o4 h.o0 (by decide) k q e)) ((Touch.refl (· = p) w').setCell (fun _ => rfl) _) (fun k q e => h.np4 k q e)
theorem St.tapp0 {w w' : World} {B p : Nat} {v0 v1 v2 v3 v4 : Value} {n0 n1 n2 n3 n4 : Nat} {l0 l1 l2 l3 l4 : List Value} (v' : Value) (h : St w B p v0 v1 v2 v3 v4 n0 n1 n2 n3 n4 l0 l1 l2 l3 l4) (o : Obj) (ht : Touch (fun j => v0.ownBlock = some j) (w.alloc o) w') : Touch (fun k => k = p ∨ v0.ownBlock = some k) w (w'.setCell ⟨p, 0, none⟩ v') :=
  (((Touch.refl _ w).alloc o).trans' (ht.mono (T := fun k => k = p ∨ v0.ownBlock = some k) (fun k _ q => .inr q)) (fun k _ q => q)).setCell (fun _ => .inl rfl) _
theorem St.app1 {w w' : World} {B p : Nat} {v0 v1 v2 v3 v4 : Value} {n0 n1 n2 n3 n4 : Nat} {l0 l1 l2 l3 l4 : List Value} {v' : Value} {n' : Nat} {l' : List Value} (h : St w B p v0 v1 v2 v3 v4 n0 n1 n2 n3 n4 l0 l1 l2 l3 l4) (o : Obj) (ht : Touch (fun j => v1.ownBlock = some j) (w.alloc o) w') (ho : w'.ownsRow B 3 1 v' n' l') : St (w'.setCell ⟨p, 1, none⟩ v') B p v0 v' v2 v3 v4 n0 n' n2 n3 n4 l0 l' l2 l3 l4 := by
  have hr : Row w' p 39 #[v0, v1, v2, v3, v4] := (h.row.alloc o).touch ht (fun q => h.np1 p q rfl)
  refine ⟨hr.put 1 v', h.low, ?_, ?_, ?_, ?_, ?_⟩
  · exact own_touch (own_touch (h.o0.alloc o) ht (fun k q e => own_apart h.o0 h.o1 (by decide) k q e)) ((Touch.refl (· = p) w').setCell (fun _ => rfl) _) (fun k q e => h.np0 k q e)
  · exact own_touch ho ((Touch.refl (· = p) w').setCell (fun _ => rfl) _) (fun k q e => own_ne ho hr (by decide) (by rw [q, e]))
  · exact own_touch (own_touch (h.o2.alloc o) ht (fun k q e => own_apart h.o2 h.o1 (by decide) k q e)) ((Touch.refl (· = p) w').setCell (fun _ => rfl) _) (fun k q e => h.np2 k q e)
  · exact own_touch (own_touch (h.o3.alloc o) ht (fun k q e => own_apart h.o3 h.o1 (by decide) k q e)) ((Touch.refl (· = p) w').setCell (fun _ => rfl) _) (fun k q e => h.np3 k q e)
  · exact own_touch (own_touch (h.o4.alloc o) ht (fun k q e => own_apart h.o4 h.o1 (by decide) k q e)) ((Touch.refl (· = p) w').setCell (fun _ => rfl) _) (fun k q e => h.np4 k q e)
theorem St.tapp1 {w w' : World} {B p : Nat} {v0 v1 v2 v3 v4 : Value} {n0 n1 n2 n3 n4 : Nat} {l0 l1 l2 l3 l4 : List Value} (v' : Value) (h : St w B p v0 v1 v2 v3 v4 n0 n1 n2 n3 n4 l0 l1 l2 l3 l4) (o : Obj) (ht : Touch (fun j => v1.ownBlock = some j) (w.alloc o) w') : Touch (fun k => k = p ∨ v1.ownBlock = some k) w (w'.setCell ⟨p, 1, none⟩ v') :=
  (((Touch.refl _ w).alloc o).trans' (ht.mono (T := fun k => k = p ∨ v1.ownBlock = some k) (fun k _ q => .inr q)) (fun k _ q => q)).setCell (fun _ => .inl rfl) _
theorem St.app2 {w w' : World} {B p : Nat} {v0 v1 v2 v3 v4 : Value} {n0 n1 n2 n3 n4 : Nat} {l0 l1 l2 l3 l4 : List Value} {v' : Value} {n' : Nat} {l' : List Value} (h : St w B p v0 v1 v2 v3 v4 n0 n1 n2 n3 n4 l0 l1 l2 l3 l4) (o : Obj) (ht : Touch (fun j => v2.ownBlock = some j) (w.alloc o) w') (ho : w'.ownsRow B 4 1 v' n' l') : St (w'.setCell ⟨p, 2, none⟩ v') B p v0 v1 v' v3 v4 n0 n1 n' n3 n4 l0 l1 l' l3 l4 := by
  have hr : Row w' p 39 #[v0, v1, v2, v3, v4] := (h.row.alloc o).touch ht (fun q => h.np2 p q rfl)
  refine ⟨hr.put 2 v', h.low, ?_, ?_, ?_, ?_, ?_⟩
  · exact own_touch (own_touch (h.o0.alloc o) ht (fun k q e => own_apart h.o0 h.o2 (by decide) k q e)) ((Touch.refl (· = p) w').setCell (fun _ => rfl) _) (fun k q e => h.np0 k q e)
  · exact own_touch (own_touch (h.o1.alloc o) ht (fun k q e => own_apart h.o1 h.o2 (by decide) k q e)) ((Touch.refl (· = p) w').setCell (fun _ => rfl) _) (fun k q e => h.np1 k q e)
  · exact own_touch ho ((Touch.refl (· = p) w').setCell (fun _ => rfl) _) (fun k q e => own_ne ho hr (by decide) (by rw [q, e]))
  · exact own_touch (own_touch (h.o3.alloc o) ht (fun k q e => own_apart h.o3 h.o2 (by decide) k q e)) ((Touch.refl (· = p) w').setCell (fun _ => rfl) _) (fun k q e => h.np3 k q e)
  · exact own_touch (own_touch (h.o4.alloc o) ht (fun k q e => own_apart h.o4 h.o2 (by decide) k q e)) ((Touch.refl (· = p) w').setCell (fun _ => rfl) _) (fun k q e => h.np4 k q e)
theorem St.tapp2 {w w' : World} {B p : Nat} {v0 v1 v2 v3 v4 : Value} {n0 n1 n2 n3 n4 : Nat} {l0 l1 l2 l3 l4 : List Value} (v' : Value) (h : St w B p v0 v1 v2 v3 v4 n0 n1 n2 n3 n4 l0 l1 l2 l3 l4) (o : Obj) (ht : Touch (fun j => v2.ownBlock = some j) (w.alloc o) w') : Touch (fun k => k = p ∨ v2.ownBlock = some k) w (w'.setCell ⟨p, 2, none⟩ v') :=
  (((Touch.refl _ w).alloc o).trans' (ht.mono (T := fun k => k = p ∨ v2.ownBlock = some k) (fun k _ q => .inr q)) (fun k _ q => q)).setCell (fun _ => .inl rfl) _
theorem St.app3 {w w' : World} {B p : Nat} {v0 v1 v2 v3 v4 : Value} {n0 n1 n2 n3 n4 : Nat} {l0 l1 l2 l3 l4 : List Value} {v' : Value} {n' : Nat} {l' : List Value} (h : St w B p v0 v1 v2 v3 v4 n0 n1 n2 n3 n4 l0 l1 l2 l3 l4) (o : Obj) (ht : Touch (fun j => v3.ownBlock = some j) (w.alloc o) w') (ho : w'.ownsRow B 24 1 v' n' l') : St (w'.setCell ⟨p, 3, none⟩ v') B p v0 v1 v2 v' v4 n0 n1 n2 n' n4 l0 l1 l2 l' l4 := by
  have hr : Row w' p 39 #[v0, v1, v2, v3, v4] := (h.row.alloc o).touch ht (fun q => h.np3 p q rfl)
  refine ⟨hr.put 3 v', h.low, ?_, ?_, ?_, ?_, ?_⟩
  · exact own_touch (own_touch (h.o0.alloc o) ht (fun k q e => own_apart h.o0 h.o3 (by decide) k q e)) ((Touch.refl (· = p) w').setCell (fun _ => rfl) _) (fun k q e => h.np0 k q e)
  · exact own_touch (own_touch (h.o1.alloc o) ht (fun k q e => own_apart h.o1 h.o3 (by decide) k q e)) ((Touch.refl (· = p) w').setCell (fun _ => rfl) _) (fun k q e => h.np1 k q e)
  · exact own_touch (own_touch (h.o2.alloc o) ht (fun k q e => own_apart h.o2 h.o3 (by decide) k q e)) ((Touch.refl (· = p) w').setCell (fun _ => rfl) _) (fun k q e => h.np2 k q e)
  · exact own_touch ho ((Touch.refl (· = p) w').setCell (fun _ => rfl) _) (fun k q e => own_ne ho hr (by decide) (by rw [q, e]))
  · exact own_touch (own_touch (h.o4.alloc o) ht (fun k q e => own_apart h.o4 h.o3 (by decide) k q e)) ((Touch.refl (· = p) w').setCell (fun _ => rfl) _) (fun k q e => h.np4 k q e)
theorem St.tapp3 {w w' : World} {B p : Nat} {v0 v1 v2 v3 v4 : Value} {n0 n1 n2 n3 n4 : Nat} {l0 l1 l2 l3 l4 : List Value} (v' : Value) (h : St w B p v0 v1 v2 v3 v4 n0 n1 n2 n3 n4 l0 l1 l2 l3 l4) (o : Obj) (ht : Touch (fun j => v3.ownBlock = some j) (w.alloc o) w') : Touch (fun k => k = p ∨ v3.ownBlock = some k) w (w'.setCell ⟨p, 3, none⟩ v') :=
  (((Touch.refl _ w).alloc o).trans' (ht.mono (T := fun k => k = p ∨ v3.ownBlock = some k) (fun k _ q => .inr q)) (fun k _ q => q)).setCell (fun _ => .inl rfl) _
theorem St.app4 {w w' : World} {B p : Nat} {v0 v1 v2 v3 v4 : Value} {n0 n1 n2 n3 n4 : Nat} {l0 l1 l2 l3 l4 : List Value} {v' : Value} {n' : Nat} {l' : List Value} (h : St w B p v0 v1 v2 v3 v4 n0 n1 n2 n3 n4 l0 l1 l2 l3 l4) (o : Obj) (ht : Touch (fun j => v4.ownBlock = some j) (w.alloc o) w') (ho : w'.ownsRow B 29 1 v' n' l') : St (w'.setCell ⟨p, 4, none⟩ v') B p v0 v1 v2 v3 v' n0 n1 n2 n3 n' l0 l1 l2 l3 l' := by
  have hr : Row w' p 39 #[v0, v1, v2, v3, v4] := (h.row.alloc o).touch ht (fun q => h.np4 p q rfl)
  refine ⟨hr.put 4 v', h.low, ?_, ?_, ?_, ?_, ?_⟩
  · exact own_touch (own_touch (h.o0.alloc o) ht (fun k q e => own_apart h.o0 h.o4 (by decide) k q e)) ((Touch.refl (· = p) w').setCell (fun _ => rfl) _) (fun k q e => h.np0 k q e)
  · exact own_touch (own_touch (h.o1.alloc o) ht (fun k q e => own_apart h.o1 h.o4 (by decide) k q e)) ((Touch.refl (· = p) w').setCell (fun _ => rfl) _) (fun k q e => h.np1 k q e)
  · exact own_touch (own_touch (h.o2.alloc o) ht (fun k q e => own_apart h.o2 h.o4 (by decide) k q e)) ((Touch.refl (· = p) w').setCell (fun _ => rfl) _) (fun k q e => h.np2 k q e)
  · exact own_touch (own_touch (h.o3.alloc o) ht (fun k q e => own_apart h.o3 h.o4 (by decide) k q e)) ((Touch.refl (· = p) w').setCell (fun _ => rfl) _) (fun k q e => h.np3 k q e)
  · exact own_touch ho ((Touch.refl (· = p) w').setCell (fun _ => rfl) _) (fun k q e => own_ne ho hr (by decide) (by rw [q, e]))
theorem St.tapp4 {w w' : World} {B p : Nat} {v0 v1 v2 v3 v4 : Value} {n0 n1 n2 n3 n4 : Nat} {l0 l1 l2 l3 l4 : List Value} (v' : Value) (h : St w B p v0 v1 v2 v3 v4 n0 n1 n2 n3 n4 l0 l1 l2 l3 l4) (o : Obj) (ht : Touch (fun j => v4.ownBlock = some j) (w.alloc o) w') : Touch (fun k => k = p ∨ v4.ownBlock = some k) w (w'.setCell ⟨p, 4, none⟩ v') :=
  (((Touch.refl _ w).alloc o).trans' (ht.mono (T := fun k => k = p ∨ v4.ownBlock = some k) (fun k _ q => .inr q)) (fun k _ q => q)).setCell (fun _ => .inl rfl) _
theorem St.set1 {w : World} {B p : Nat} {v0 v1 v2 v3 v4 : Value} {n0 n1 n2 n3 n4 : Nat} {l0 l1 l2 l3 l4 : List Value} (h : St w B p v0 v1 v2 v3 v4 n0 n1 n2 n3 n4 l0 l1 l2 l3 l4) {k : Nat} (hk : k < n1) : ∃ g cap, v1 = .slice (some ⟨g, 0, none⟩) n1 cap ∧ (∃ u, w.cell? ⟨g, k, none⟩ = some u) ∧ w.frozen? ⟨g, k, none⟩ = false ∧ g < w.heap.size ∧ ∀ u, St (w.setCell ⟨g, k, none⟩ u) B p v0 v1 v2 v3 v4 n0 n1 n2 n3 n4 l0 (l1.set k u) l2 l3 l4 ∧ Touch (DM p v0 v1 v2 v3 v4) w (w.setCell ⟨g, k, none⟩ u) := by
  obtain ⟨g, cap, he, _, hl, hc, hf, hst⟩ := own_store h.o1 hk
  have hg : v1.ownBlock = some g := by rw [he]; rfl
  have tu : ∀ u, Touch (· = g) w (w.setCell ⟨g, k, none⟩ u) := fun u => (Touch.refl (· = g) w).setCell (fun _ => rfl) u
  refine ⟨g, cap, he, hc, hf, hl, fun u => ⟨⟨h.row.touch (tu u) (fun e => h.np1 g hg e.symm), h.low, ?_, ?_, ?_, ?_, ?_⟩, (Touch.refl _ w).setCell (fun _ => ?_) u⟩⟩
  · exact own_touch h.o0 (tu u) (fun m q e => own_apart h.o0 h.o1 (by decide) m q (by rw [e]; exact hg))
  · exact hst u
  · exact own_touch h.o2 (tu u) (fun m q e => own_apart h.o2 h.o1 (by decide) m q (by rw [e]; exact hg))
  · exact own_touch h.o3 (tu u) (fun m q e => own_apart h.o3 h.o1 (by decide) m q (by rw [e]; exact hg))
  · exact own_touch h.o4 (tu u) (fun m q e => own_apart h.o4 h.o1 (by decide) m q (by rw [e]; exact hg))
  · exact .inr (.inr (.inl hg))
theorem St.set2 {w : World} {B p : Nat} {v0 v1 v2 v3 v4 : Value} {n0 n1 n2 n3 n4 : Nat} {l0 l1 l2 l3 l4 : List Value} (h : St w B p v0 v1 v2 v3 v4 n0 n1 n2 n3 n4 l0 l1 l2 l3 l4) {k : Nat} (hk : k < n2) : ∃ g cap, v2 = .slice (some ⟨g, 0, none⟩) n2 cap ∧ (∃ u, w.cell? ⟨g, k, none⟩ = some u) ∧ w.frozen? ⟨g, k, none⟩ = false ∧ g < w.heap.size ∧ ∀ u, St (w.setCell ⟨g, k, none⟩ u) B p v0 v1 v2 v3 v4 n0 n1 n2 n3 n4 l0 l1 (l2.set k u) l3 l4 ∧ Touch (DM p v0 v1 v2 v3 v4) w (w.setCell ⟨g, k, none⟩ u) := by
  obtain ⟨g, cap, he, _, hl, hc, hf, hst⟩ := own_store h.o2 hk
  have hg : v2.ownBlock = some g := by rw [he]; rfl
  have tu : ∀ u, Touch (· = g) w (w.setCell ⟨g, k, none⟩ u) := fun u => (Touch.refl (· = g) w).setCell (fun _ => rfl) u
  refine ⟨g, cap, he, hc, hf, hl, fun u => ⟨⟨h.row.touch (tu u) (fun e => h.np2 g hg e.symm), h.low, ?_, ?_, ?_, ?_, ?_⟩, (Touch.refl _ w).setCell (fun _ => ?_) u⟩⟩
  · exact own_touch h.o0 (tu u) (fun m q e => own_apart h.o0 h.o2 (by decide) m q (by rw [e]; exact hg))
  · exact own_touch h.o1 (tu u) (fun m q e => own_apart h.o1 h.o2 (by decide) m q (by rw [e]; exact hg))
  · exact hst u
  · exact own_touch h.o3 (tu u) (fun m q e => own_apart h.o3 h.o2 (by decide) m q (by rw [e]; exact hg))
  · exact own_touch h.o4 (tu u) (fun m q e => own_apart h.o4 h.o2 (by decide) m q (by rw [e]; exact hg))
  · exact .inr (.inr (.inr (.inl hg)))
theorem St.set3 {w : World} {B p : Nat} {v0 v1 v2 v3 v4 : Value} {n0 n1 n2 n3 n4 : Nat} {l0 l1 l2 l3 l4 : List Value} (h : St w B p v0 v1 v2 v3 v4 n0 n1 n2 n3 n4 l0 l1 l2 l3 l4) {k : Nat} (hk : k < n3) : ∃ g cap, v3 = .slice (some ⟨g, 0, none⟩) n3 cap ∧ (∃ u, w.cell? ⟨g, k, none⟩ = some u) ∧ w.frozen? ⟨g, k, none⟩ = false ∧ g < w.heap.size ∧ ∀ u, St (w.setCell ⟨g, k, none⟩ u) B p v0 v1 v2 v3 v4 n0 n1 n2 n3 n4 l0 l1 l2 (l3.set k u) l4 ∧ Touch (DM p v0 v1 v2 v3 v4) w (w.setCell ⟨g, k, none⟩ u) := by
  obtain ⟨g, cap, he, _, hl, hc, hf, hst⟩ := own_store h.o3 hk
  have hg : v3.ownBlock = some g := by rw [he]; rfl
  have tu : ∀ u, Touch (· = g) w (w.setCell ⟨g, k, none⟩ u) := fun u => (Touch.refl (· = g) w).setCell (fun _ => rfl) u
  refine ⟨g, cap, he, hc, hf, hl, fun u => ⟨⟨h.row.touch (tu u) (fun e => h.np3 g hg e.symm), h.low, ?_, ?_, ?_, ?_, ?_⟩, (Touch.refl _ w).setCell (fun _ => ?_) u⟩⟩
  · exact own_touch h.o0 (tu u) (fun m q e => own_apart h.o0 h.o3 (by decide) m q (by rw [e]; exact hg))
  · exact own_touch h.o1 (tu u) (fun m q e => own_apart h.o1 h.o3 (by decide) m q (by rw [e]; exact hg))
  · exact own_touch h.o2 (tu u) (fun m q e => own_apart h.o2 h.o3 (by decide) m q (by rw [e]; exact hg))
  · exact hst u
  · exact own_touch h.o4 (tu u) (fun m q e => own_apart h.o4 h.o3 (by decide) m q (by rw [e]; exact hg))
  · exact .inr (.inr (.inr (.inr (.inl hg))))
theorem St.set4 {w : World} {B p : Nat} {v0 v1 v2 v3 v4 : Value} {n0 n1 n2 n3 n4 : Nat} {l0 l1 l2 l3 l4 : List Value} (h : St w B p v0 v1 v2 v3 v4 n0 n1 n2 n3 n4 l0 l1 l2 l3 l4) {k : Nat} (hk : k < n4) : ∃ g cap, v4 = .slice (some ⟨g, 0, none⟩) n4 cap ∧ (∃ u, w.cell? ⟨g, k, none⟩ = some u) ∧ w.frozen? ⟨g, k, none⟩ = false ∧ g < w.heap.size ∧ ∀ u, St (w.setCell ⟨g, k, none⟩ u) B p v0 v1 v2 v3 v4 n0 n1 n2 n3 n4 l0 l1 l2 l3 (l4.set k u) ∧ Touch (DM p v0 v1 v2 v3 v4) w (w.setCell ⟨g, k, none⟩ u) := by
  obtain ⟨g, cap, he, _, hl, hc, hf, hst⟩ := own_store h.o4 hk
  have hg : v4.ownBlock = some g := by rw [he]; rfl
  have tu : ∀ u, Touch (· = g) w (w.setCell ⟨g, k, none⟩ u) := fun u => (Touch.refl (· = g) w).setCell (fun _ => rfl) u
  refine ⟨g, cap, he, hc, hf, hl, fun u => ⟨⟨h.row.touch (tu u) (fun e => h.np4 g hg e.symm), h.low, ?_, ?_, ?_, ?_, ?_⟩, (Touch.refl _ w).setCell (fun _ => ?_) u⟩⟩
  · exact own_touch h.o0 (tu u) (fun m q e => own_apart h.o0 h.o4 (by decide) m q (by rw [e]; exact hg))
  · exact own_touch h.o1 (tu u) (fun m q e => own_apart h.o1 h.o4 (by decide) m q (by rw [e]; exact hg))
  · exact own_touch h.o2 (tu u) (fun m q e => own_apart h.o2 h.o4 (by decide) m q (by rw [e]; exact hg))
  · exact own_touch h.o3 (tu u) (fun m q e => own_apart h.o3 h.o4 (by decide) m q (by rw [e]; exact hg))
  · exact hst u
  · exact .inr (.inr (.inr (.inr (.inr hg))))
abbrev Ent := Int ⊕ Flat
abbrev OML := List (ByteArray × Ent)
def entI : Ent → Int | .inl n => n | .inr _ => 0
def entB : Ent → Bool | .inl _ => false | .inr _ => true
/-- The two inner slices of an entry. -/
def EntIn (w : World) (D : Nat → Prop) : Ent → Value → Value → Prop
  | .inl _, u, x => (∃ a n c, u = .slice a n c) ∧ ∃ a n c, x = .slice a n c
  | .inr fl, u, x => ∃ n g c g' c', fl.length = n ∧ u = .slice (some ⟨g, 0, none⟩) n c ∧ x = .slice (some ⟨g', 0, none⟩) n c' ∧ Vw w (some ⟨g, 0, none⟩) n (fk fl) ∧ Vw w (some ⟨g', 0, none⟩) n (fv fl) ∧ (¬ D g ∧ g < w.heap.size) ∧ ¬ D g' ∧ g' < w.heap.size
theorem EntIn.form {w : World} {D : Nat → Prop} {e : Ent} {u x : Value} (h : EntIn w D e u x) : (∃ a n c, u = .slice a n c) ∧ ∃ a n c, x = .slice a n c := by
  cases e with
  | inl n => exact h
  | inr fl =>
    obtain ⟨n, g, c, g', c', _, rfl, rfl, _⟩ := h
    exact ⟨⟨_, _, _, rfl⟩, _, _, _, rfl⟩
theorem EntIn.turn {S D D' : Nat → Prop} {w w' : World} {e : Ent} {u x : Value} (h : EntIn w D e u x) (ht : Touch S w w') (hS : ∀ k, S k → D k) (hD : ∀ k, D' k → D k ∨ w.heap.size ≤ k) : EntIn w' D' e u x := by
  cases e with
  | inl n => exact h
  | inr fl =>
    obtain ⟨n, g, c, g', c', hl, hu, hx, h1, h2, ⟨h3, h4⟩, h5, h6⟩ := h
    refine ⟨n, g, c, g', c', hl, hu, hx, h1.touch ht (fun _ y q _ e => ?_), h2.touch ht (fun _ y q _ e => ?_), ⟨fun q => ?_, by have := ht.size; omega⟩, fun q => ?_, by have := ht.size; omega⟩
    · cases q
      exact h3 (hS _ e)
    · cases q
      exact h5 (hS _ e)
    · rcases hD _ q with q | q
      · exact h3 q
      · omega
    · rcases hD _ q with q | q
      · exact h5 q
      · omega
/-- Entry by entry. -/
def Ents (w : World) (D : Nat → Prop) (om : OML) (us ws : List Value) : Prop := ∀ (i : Nat) (e : ByteArray × Ent), om[i]? = some e → ∃ u x, us[i]? = some u ∧ ws[i]? = some x ∧ EntIn w D e.2 u x
theorem Ents.turn {S D D' : Nat → Prop} {w w' : World} {om : OML} {us ws : List Value} (h : Ents w D om us ws) (ht : Touch S w w') (hS : ∀ k, S k → D k) (hD : ∀ k, D' k → D k ∨ w.heap.size ≤ k) : Ents w' D' om us ws := by
  intro i e he
  obtain ⟨u, x, h1, h2, h3⟩ := h i e he
  exact ⟨u, x, h1, h2, h3.turn ht hS hD⟩
theorem Ents.snoc {D : Nat → Prop} {w : World} {om : OML} {us ws : List Value} {s : ByteArray} {e : Ent} {u x : Value} (h : Ents w D om us ws) (hu : us.length = om.length) (hw : ws.length = om.length) (he : EntIn w D e u x) : Ents w D (om ++ [(s, e)]) (us ++ [u]) (ws ++ [x]) := by
  intro i e' he'
  by_cases hi : i < om.length
  · rw [List.getElem?_append_left hi] at he'
    obtain ⟨u', x', h1, h2, h3⟩ := h i e' he'
    exact ⟨u', x', by rw [List.getElem?_append_left (by omega)]; exact h1, by rw [List.getElem?_append_left (by omega)]; exact h2, h3⟩
  · have h1 := (List.getElem?_eq_some_iff.1 he').1
    rw [List.length_append, List.length_singleton] at h1
    have h2 : i = om.length := by omega
    subst h2
    rw [List.getElem?_append_right (Nat.le_refl _), Nat.sub_self] at he'
    simp only [List.getElem?_cons_zero, Option.some.injEq] at he'
    subst he'
    exact ⟨u, x, by rw [← hu, List.getElem?_append_right (Nat.le_refl _), Nat.sub_self]; rfl, by rw [← hw, List.getElem?_append_right (Nat.le_refl _), Nat.sub_self]; rfl, he⟩
theorem Ents.set {D : Nat → Prop} {w : World} {om : OML} {us ws : List Value} {k : Nat} {s : ByteArray} {e : Ent} {u x : Value} (h : Ents w D om us ws) (hk : k < om.length) (hu : us.length = om.length) (hw : ws.length = om.length) (he : EntIn w D e u x) : Ents w D (om.set k (s, e)) (us.set k u) (ws.set k x) := by
  intro i e' he'
  rw [List.getElem?_set] at he'
  by_cases hi : k = i
  · subst hi
    rw [if_pos rfl, if_pos hk] at he'
    injection he' with he'
    subst he'
    exact ⟨u, x, by rw [List.getElem?_set, if_pos rfl, if_pos (by omega)], by rw [List.getElem?_set, if_pos rfl, if_pos (by omega)], he⟩
  · rw [if_neg hi] at he'
    obtain ⟨u', x', h1, h2, h3⟩ := h i e' he'
    exact ⟨u', x', by rw [List.getElem?_set, if_neg hi]; exact h1, by rw [List.getElem?_set, if_neg hi]; exact h2, h3⟩
def ok (om : OML) : List Value := strV (om.map Prod.fst)
def oi (om : OML) : List Value := intsV (om.map fun e => entI e.2)
def ob (om : OML) : List Value := om.map fun e => Value.bool (entB e.2)
/-- The struct at p holds the model om; all blocks of its own lie from B on and ahead of H. -/
def Mdl (w : World) (B H p n : Nat) (om : OML) : Prop := om.length = n ∧ ∃ v0 v1 v2 v3 v4 us ws, St w B p v0 v1 v2 v3 v4 n n n n n (ok om) (oi om) (ob om) us ws ∧ Ents w (DM p v0 v1 v2 v3 v4) om us ws ∧ ∀ k, DM p v0 v1 v2 v3 v4 k → k < H
theorem EntIn.weak {w : World} {D D' : Nat → Prop} {e : Ent} {u x : Value} (h : EntIn w D e u x) (hD : ∀ k, k < w.heap.size → D' k → D k) : EntIn w D' e u x := by
  cases e with
  | inl n => exact h
  | inr fl =>
    obtain ⟨n, g, c, g', c', hl, hu, hx, h1, h2, ⟨h3, h4⟩, h5, h6⟩ := h
    exact ⟨n, g, c, g', c', hl, hu, hx, h1, h2, ⟨fun q => h3 (hD _ h4 q), h4⟩, fun q => h5 (hD _ h6 q), h6⟩
theorem Mdl.keep {w w' : World} {B H p n : Nat} {om : OML} (h : Mdl w B H p n om) (hb : Below w.heap.size w w') : Mdl w' B H p n om := by
  obtain ⟨hl, v0, v1, v2, v3, v4, us, ws, hs, he, hH⟩ := h
  have ht := Touch.of_below hb (fun _ => False)
  exact ⟨hl, v0, v1, v2, v3, v4, us, ws, hs.touch ht (fun _ _ q => q), he.turn ht (fun _ q => q.elim) (fun _ q => .inl q), hH⟩
theorem Mdl.mono {w : World} {B H H' p n : Nat} {om : OML} (h : Mdl w B H p n om) (hH : H ≤ H') : Mdl w B H' p n om := by
  obtain ⟨hl, v0, v1, v2, v3, v4, us, ws, hs, he, hk⟩ := h
  exact ⟨hl, v0, v1, v2, v3, v4, us, ws, hs, he, fun k q => Nat.lt_of_lt_of_le (hk k q) hH⟩
theorem info4 : (Try.prog.info? 4).map (fun i => (i.zero, i.size, i.bytes)) = some (some (.bool false), 1, 1) := by kernel_rfl
theorem info24 : (Try.prog.info? 24).map (fun i => (i.zero, i.size, i.bytes)) = some (some (.slice none 0 0), 1, 24) := by kernel_rfl
theorem info29 : (Try.prog.info? 29).map (fun i => (i.zero, i.size, i.bytes)) = some (some (.slice none 0 0), 1, 24) := by kernel_rfl
end Go.Proofs.Ytdjebcejpachmaa
