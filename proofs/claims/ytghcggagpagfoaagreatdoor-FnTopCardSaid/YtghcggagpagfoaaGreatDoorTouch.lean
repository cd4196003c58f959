/-
  'Touch S w w'': every block of w but those of S is in w' as it was.
-/
import Derived.Test.YtghcggagpagfoaaGreatDoorMem
import Derived.Laws.OwnMore
import Derived.Lib.FrozenHead
namespace Go.Proofs.YtghcggagpagfoaaGreatDoor
set_option linter.unusedVariables false
open Go.ChangeShapes Go.WideShapes Go.ChangeAt Go.RowKit M
structure Touch (S : Nat → Prop) (w w' : World) : Prop where
  os : w'.os = w.os
  tape : w'.tape = w.tape
  output : w'.output = w.output
  size : w.heap.size ≤ w'.heap.size
  block : ∀ k, k < w.heap.size → ¬ S k → w'.heap[k]? = w.heap[k]?
theorem Touch.refl (S : Nat → Prop) (w : World) : Touch S w w := ⟨rfl, rfl, rfl, Nat.le_refl _, fun _ _ _ => rfl⟩
theorem Touch.trans {S : Nat → Prop} {a b c : World} (h : Touch S a b) (k : Touch S b c) : Touch S a c :=
  ⟨k.os.trans h.os, k.tape.trans h.tape, k.output.trans h.output, Nat.le_trans h.size k.size, fun i hi hn => (k.block i (Nat.lt_of_lt_of_le hi h.size) hn).trans (h.block i hi hn)⟩
theorem Touch.mono {S T : Nat → Prop} {a b : World} (h : Touch S a b) (hst : ∀ k, k < a.heap.size → S k → T k) : Touch T a b :=
  ⟨h.os, h.tape, h.output, h.size, fun i hi hn => h.block i hi (fun hs => hn (hst i hi hs))⟩
theorem Touch.trans' {S T : Nat → Prop} {a b c : World} (h : Touch S a b) (k : Touch T b c) (hT : ∀ i, i < a.heap.size → T i → S i) : Touch S a c :=
  ⟨k.os.trans h.os, k.tape.trans h.tape, k.output.trans h.output, Nat.le_trans h.size k.size, fun i hi hn => (k.block i (Nat.lt_of_lt_of_le hi h.size) (fun ht => hn (hT i hi ht))).trans (h.block i hi hn)⟩
theorem Touch.below {S : Nat → Prop} {a b : World} {B : Nat} (h : Touch S a b) (hB : B ≤ a.heap.size) (hS : ∀ k, k < B → ¬ S k) : Below B a b :=
  ⟨h.os, h.tape, h.output, h.size, fun k hk => h.block k (by omega) (hS k hk)⟩
theorem Touch.of_below {a b : World} (h : Below a.heap.size a b) (S : Nat → Prop) : Touch S a b := ⟨h.os, h.tape, h.output, h.size, fun k hk _ => h.block k hk⟩
theorem Touch.drew {S : Nat → Prop} {a b : World} (h : Touch S a b) : Touch S a b.drew := ⟨h.os, h.tape, h.output, h.size, h.block⟩
theorem Touch.drewN {S : Nat → Prop} {a b : World} (h : Touch S a b) (n : Nat) : Touch S a (b.drewN n) := ⟨h.os, h.tape, h.output, h.size, h.block⟩
theorem Touch.alloc {S : Nat → Prop} {a b : World} (h : Touch S a b) (o : Obj) : Touch S a (b.alloc o) :=
  h.trans ⟨rfl, rfl, rfl, by simp, fun k hk _ => Below.heap_alloc _ _ _ hk⟩
theorem Touch.setCell {S : Nat → Prop} {a b : World} (h : Touch S a b) {p : Addr} (hp : p.block < a.heap.size → S p.block) (u : Value) : Touch S a (b.setCell p u) := by
  refine ⟨h.os, h.tape, h.output, by simpa [World.setCell] using h.size, fun k hk hn => ?_⟩
  rw [Below.heap_setCell _ _ _ _ (fun e => hn (by rw [e]; exact hp (by omega)))]
  exact h.block k hk hn
theorem M.Row.touch {S : Nat → Prop} {w w' : World} {g : Nat} {t : TypeId} {cs : Array Value} (h : Row w g t cs) (ht : Touch S w w') (hn : ¬ S g) : Row w' g t cs := (ht.block g h.lt hn).trans h
theorem Touch.grown {S : Nat → Prop} {a b c : World} {row : Option Nat} (h : Touch S a b) (hg : b.grownBy c row) (hr : ∀ k, row = some k → k < a.heap.size → S k) : Touch S a c :=
  ⟨hg.os.trans h.os, hg.tape.trans h.tape, hg.output.trans h.output, Nat.le_trans h.size hg.size, fun k hk hn => (hg.block k (Nat.lt_of_lt_of_le hk h.size) (fun e => hn (hr k e.symm hk))).trans (h.block k hk hn)⟩
theorem own_touch {S : Nat → Prop} {w w' : World} {base : Nat} {e : TypeId} {size n : Nat} {v : Value} {xs : List Value} (h : w.ownsRow base e size v n xs) (ht : Touch S w w') (hn : ∀ k, v.ownBlock = some k → ¬ S k) : w'.ownsRow base e size v n xs := by
  refine ⟨h.1, ?_⟩
  rcases h.2 with h2 | ⟨g, cap, cur, hv, hb, hg, r⟩
  · exact .inl h2
  · have hlt : g < w.heap.size := (h.lt g (by rw [hv]; rfl)).2
    exact .inr ⟨g, cap, cur, hv, hb, (ht.block g hlt (hn g (by rw [hv]; rfl))).trans hg, r⟩
theorem ownF_touch {S : Nat → Prop} {w w' : World} {base : Nat} {e : TypeId} {size n : Nat} {v : Value} {xs : List Value} (h : w.ownsRowF base e size v n xs) (ht : Touch S w w') (hn : ∀ k, v.ownBlock = some k → ¬ S k) : w'.ownsRowF base e size v n xs := by
  refine ⟨h.1, ?_⟩
  rcases h.2 with h2 | ⟨g, cap, cur, fz, hv, hb, hg, r⟩
  · exact .inl h2
  · have hlt : g < w.heap.size := (h.lt g (by rw [hv]; rfl)).2
    exact .inr ⟨g, cap, cur, fz, hv, hb, (ht.block g hlt (hn g (by rw [hv]; rfl))).trans hg, r⟩
/-- An owned row and a block of another element type do not meet. -/
theorem own_ne {w : World} {base : Nat} {e t : TypeId} {size n g : Nat} {v : Value} {xs : List Value} {cs : Array Value} (h : w.ownsRow base e size v n xs) (hr : Row w g t cs) (hne : e ≠ t) : v.ownBlock ≠ some g := by
  rcases h.2 with ⟨rfl, _⟩ | ⟨g', cap, cur, rfl, _, hg, _⟩
  · intro h; cases h
  · intro he
    have : g' = g := by simpa [Value.ownBlock] using he
    subst this
    unfold Row at hr
    rw [hg] at hr
    injection hr with hr
    injection hr with _ ht
    exact hne ht
theorem ownF_ne {w : World} {base : Nat} {e t : TypeId} {size n g : Nat} {v : Value} {xs : List Value} {cs : Array Value} (h : w.ownsRowF base e size v n xs) (hr : Row w g t cs) (hne : e ≠ t) : v.ownBlock ≠ some g := by
  rcases h.2 with ⟨rfl, _⟩ | ⟨g', cap, cur, fz, rfl, _, hg, _⟩
  · intro h; cases h
  · intro he
    have : g' = g := by simpa [Value.ownBlock] using he
    subst this
    unfold Row at hr
    rw [hg] at hr
    injection hr with hr
    injection hr with _ ht
    exact hne ht
theorem own_form {w : World} {base : Nat} {e : TypeId} {size n : Nat} {v : Value} {xs : List Value} (h : w.ownsRow base e size v n xs) : ∃ A c, v = .slice A n c := by
  rcases h.2 with ⟨rfl, rfl⟩ | ⟨g', cap, cur, rfl, _⟩
  · exact ⟨_, _, rfl⟩
  · exact ⟨_, _, rfl⟩
theorem own_base {w : World} {base b' : Nat} {e : TypeId} {size n : Nat} {v : Value} {xs : List Value} (h : w.ownsRow base e size v n xs) (hb : b' ≤ base) : w.ownsRow b' e size v n xs := by
  refine ⟨h.1, ?_⟩
  rcases h.2 with h2 | ⟨g, cap, cur, hv, hg, r⟩
  · exact .inl h2
  · exact .inr ⟨g, cap, cur, hv, by omega, r⟩
theorem Row.made' {w : World} {n : Nat} (t : TypeId) (cs : Array Value) (h : w.heap.size = n) : Row (w.alloc (.cells cs t)) n t cs := by
  subst h
  exact Row.made _ _ _
theorem Row.ne_ {w : World} {g g' : Nat} {t t' : TypeId} {cs cs' : Array Value} (h : Row w g t cs) (h' : Row w g' t' cs') (hne : t ≠ t') : g ≠ g' := by
  rintro rfl
  unfold Row at h h'
  rw [h] at h'
  injection h' with h'
  injection h' with _ ht
  exact hne ht
end Go.Proofs.YtghcggagpagfoaaGreatDoor
