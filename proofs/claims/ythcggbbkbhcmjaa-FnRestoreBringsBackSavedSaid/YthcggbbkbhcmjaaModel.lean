/-
  A stack beside a slice used as a stack (n001_8): 'SM', and the steps on both.
-/
import Derived.Test.YthcggbbkbhcmjaaWalkC
import Derived.WalkSmall
namespace Go.Proofs.Ythcggbbkbhcmjaa
set_option linter.unusedVariables false
open Go.ChangeShapes Go.WideShapes Go.ChangeAt Go.RowKit M
/-- The slice in block m, of capacity cap, holds L bottom first (L's head is its last element). -/
def Mod (wr : World) (B m cap : Nat) (L : List Int) : Prop := wr.ownsRow B 3 1 (.slice (some ⟨m, 0, none⟩) L.length cap) L.length (L.reverse.map (Value.int .i64))
/-- The stack at p spells L, the model slice in block m holds K; nothing below ws's end has turned. -/
def SM (ws : World) (p m cap : Nat) (L K : List Int) (N : Nat) (lim : Int) (sv : List (Int × Int × List (Nat × Value))) (wr : World) : Prop :=
  ∃ d idx, LStk wr ws.heap.size p d (ints L) idx lim sv N ∧ Mod wr ws.heap.size m cap K ∧ Below ws.heap.size ws wr
theorem Mod.row {wr : World} {B m cap : Nat} {L : List Int} (h : Mod wr B m cap L) : ∃ cs, Row wr m 3 cs := by
  rcases h.2 with ⟨h0, _⟩ | ⟨g', cap', cur, hv, hg, hh, _⟩
  · cases h0
  · injection hv with hv
    injection hv with hv
    injection hv with hv
    subst hv
    exact ⟨cur, hh⟩
theorem Mod.touch {S : Nat → Prop} {wr w' : World} {B m cap : Nat} {L : List Int} (h : Mod wr B m cap L) (ht : Touch S wr w') (hn : ¬ S m) : Mod w' B m cap L :=
  own_touch h ht fun k hk => by injection hk with hk; subst hk; exact hn
theorem SM.below {ws : World} {p m cap : Nat} {L K : List Int} {N : Nat} {lim : Int} {sv : List (Int × Int × List (Nat × Value))} {wr : World} (h : SM ws p m cap L K N lim sv wr) : Below ws.heap.size ws wr := by
  obtain ⟨d, idx, h1, h2, h3⟩ := h
  exact h3
theorem SM.more {ws : World} {p m cap : Nat} {L K : List Int} {N N' : Nat} {lim : Int} {sv : List (Int × Int × List (Nat × Value))} {wr : World} (h : SM ws p m cap L K N lim sv wr) (hN : N ≤ N') : SM ws p m cap L K N' lim sv wr := by
  obtain ⟨d, idx, h1, h2, h3⟩ := h
  exact ⟨d, idx, h1.more hN, h2, h3⟩
theorem SM.step {ws : World} {p m cap : Nat} {L K : List Int} {N : Nat} {lim : Int} {sv : List (Int × Int × List (Nat × Value))} {wr w' : World} {d : Option Nat} {idx : Int} {S : Nat → Prop}
    (h1 : LStk wr ws.heap.size p d (ints L) idx lim sv N) (h2 : Mod wr ws.heap.size m cap K) (h3 : Below ws.heap.size ws wr) (ht : Touch S wr w') (hS : ∀ k, S k → k = p ∨ d = some k) :
    Mod w' ws.heap.size m cap K ∧ Below ws.heap.size ws w' := by
  obtain ⟨cs, hr⟩ := h2.row
  obtain ⟨n1, n2⟩ := h1.ne hr (by decide) (by decide)
  refine ⟨h2.touch ht fun hs => ?_, h3.trans (ht.below h3.size fun k hk hs => ?_)⟩
  · rcases hS m hs with h | h
    · exact n1 h
    · exact n2 h
  · rcases hS k hs with h | h
    · have := h1.lt.1; omega
    · subst h
      have := h1.dlt.1; omega
theorem s_push (ws : World) (p m cap : Nat) (L K : List Int) (N : Nat) (lim : Int) (sv : List (Int × Int × List (Nat × Value))) (wr : World) (h : SM ws p m cap L K N lim sv wr) (hN : N ≤ 1048576) (v : Int) :
    Calls Try.prog 11 #[.pointer (some ⟨p, 0, none⟩), .int .i64 v] wr fun e w' => e = NoEnd ∧ SM ws p m cap (v :: L) K (N + 1) lim sv w' := by
  obtain ⟨d, idx, h1, h2, h3⟩ := h
  refine (zpush wr _ _ d L idx _ _ _ h1 hN v).mono fun e w' ⟨he, d', idx', hs, hd', ht⟩ => ?_
  obtain ⟨g1, g2⟩ := SM.step h1 h2 h3 ht (fun k h => h)
  exact ⟨he, d', idx', hs, g1, g2⟩
theorem s_pop (ws : World) (p m cap : Nat) (L K : List Int) (N : Nat) (lim : Int) (sv : List (Int × Int × List (Nat × Value))) (wr : World) (v : Int) (h : SM ws p m cap (v :: L) K N lim sv wr) :
    Calls Try.prog 13 #[.pointer (some ⟨p, 0, none⟩)] wr fun e w' => e = .returned (.tuple #[.int .i64 v, .bool true]) ∧ SM ws p m cap L K N lim sv w' := by
  obtain ⟨d, idx, h1, h2, h3⟩ := h
  refine (zpop wr _ _ d L v idx _ _ _ h1).mono fun e w' ⟨he, ⟨idx', hs⟩, ht⟩ => ?_
  obtain ⟨g1, g2⟩ := SM.step h1 h2 h3 ht (fun k h => .inl h)
  exact ⟨he, d, idx', hs, g1, g2⟩
theorem s_top (ws : World) (p m cap : Nat) (L K : List Int) (N : Nat) (lim : Int) (sv : List (Int × Int × List (Nat × Value))) (wr : World) (v : Int) (h : SM ws p m cap (v :: L) K N lim sv wr) :
    Calls Try.prog 12 #[.pointer (some ⟨p, 0, none⟩)] wr fun e w' => e = .returned (.tuple #[.int .i64 v, .bool true]) ∧ SM ws p m cap (v :: L) K N lim sv w' := by
  obtain ⟨d, idx, h1, h2, h3⟩ := h
  refine (ztop wr _ _ d L v idx _ _ _ h1).mono fun e w' ⟨he, n, hn⟩ => ?_
  subst hn
  exact ⟨he, d, idx, h1.drewN n, h2, below_drewN h3 n⟩
theorem s_empty (ws : World) (p m cap : Nat) (L K : List Int) (N : Nat) (lim : Int) (sv : List (Int × Int × List (Nat × Value))) (wr : World) (h : SM ws p m cap L K N lim sv wr) :
    Calls Try.prog 14 #[.pointer (some ⟨p, 0, none⟩)] wr fun e w' => e = .returned (.bool L.isEmpty) ∧ wr = w' := by
  obtain ⟨d, idx, h1, _⟩ := h
  exact zempty wr _ _ d L idx _ _ _ h1
/-- The model's append: behind a law that ends in 'grownBy'. -/
theorem SM.app {ws : World} {p m cap : Nat} {L K : List Int} {N : Nat} {lim : Int} {sv : List (Int × Int × List (Nat × Value))} {wr w' : World} {v : Int} {o : Obj} (h : SM ws p m cap L K N lim sv wr)
    (hown : w'.ownsRow ws.heap.size 3 1 (.slice (some ⟨m, 0, none⟩) (K.length + 1) cap) (K.length + 1) (K.reverse.map (Value.int .i64) ++ [.int .i64 v])) (hg : (wr.alloc o).grownBy w' (some m)) : SM ws p m cap L (v :: K) N lim sv w' := by
  obtain ⟨d, idx, h1, h2, h3⟩ := h
  obtain ⟨cs, hr⟩ := h2.row
  obtain ⟨n1, n2⟩ := h1.ne hr (by decide) (by decide)
  have ht : Touch (· = m) wr w' := ((Touch.refl (· = m) wr).alloc o).grown hg (fun k hk _ => by injection hk with hk; exact hk.symm)
  have hm : ws.heap.size ≤ m := (h2.lt m rfl).1
  refine ⟨d, idx, h1.touch ht (Ne.symm n1) (fun k hk h => n2 (by rw [hk, h])), ?_, h3.trans (ht.below h3.size fun k hk h => by omega)⟩
  unfold Mod
  rw [List.length_cons, List.reverse_cons, List.map_append]
  exact hown
theorem SM.cut {ws : World} {p m cap : Nat} {L K : List Int} {N : Nat} {lim : Int} {sv : List (Int × Int × List (Nat × Value))} {wr : World} {v : Int} (h : SM ws p m cap L (v :: K) N lim sv wr) : SM ws p m cap L K N lim sv wr := by
  obtain ⟨d, idx, h1, h2, h3⟩ := h
  refine ⟨d, idx, h1, ?_, h3⟩
  unfold Mod at h2
  rw [List.length_cons, List.reverse_cons, List.map_append] at h2
  exact ownsRow_pop (by simp) h2
theorem SM.last {ws : World} {p m cap : Nat} {L K : List Int} {N : Nat} {lim : Int} {sv : List (Int × Int × List (Nat × Value))} {wr : World} {v : Int} (h : SM ws p m cap L (v :: K) N lim sv wr) : wr.cell? ⟨m, K.length, none⟩ = some (.int .i64 v) := by
  obtain ⟨d, idx, h1, h2, h3⟩ := h
  unfold Mod at h2
  rw [h2.cellAt K.length (by simp)]
  simp
theorem SM.mod {ws : World} {p m cap : Nat} {L K : List Int} {N : Nat} {lim : Int} {sv : List (Int × Int × List (Nat × Value))} {wr : World} (h : SM ws p m cap L K N lim sv wr) :
    wr.ownsRow ws.heap.size 3 1 (.slice (some ⟨m, 0, none⟩) K.length cap) K.length (K.reverse.map (Value.int .i64)) := by
  obtain ⟨d, idx, h1, h2, h3⟩ := h
  exact h2
end Go.Proofs.Ythcggbbkbhcmjaa
