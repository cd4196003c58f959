/-
  Words for memory that the call itself made: a block that is known whole ('Row'), kept over draws, new blocks and stores elsewhere; 'Kept': below a block number the world is as it was.
-/
import Derived.WalkKit
import Derived.ProofKit
import Derived.Below
import Derived.Laws.Rows
import Derived.Deep.Draws
import Derived.Lib.Hide
namespace Go.Proofs.YtghcggagpagfoaaGreatDoor.M
open Go.RowKit Go.WideShapes Go.ChangeShapes
set_option linter.unusedVariables false
/-- Block g is exactly the cells cs, of element type t, none frozen. -/
def Row (w : World) (g : Nat) (t : TypeId) (cs : Array Value) : Prop := w.heap[g]? = some (.cells cs t (0, 0))
section
variable {w w' : World} {g : Nat} {t : TypeId} {cs : Array Value}
theorem Row.lt (h : Row w g t cs) : g < w.heap.size := by
  unfold Row at h
  by_cases hg : g < w.heap.size
  · exact hg
  · rw [Array.getElem?_eq_none (by omega)] at h
    cases h
theorem Row.cell (h : Row w g t cs) (i : Nat) : w.cell? ⟨g, i, none⟩ = cs[i]? := by
  unfold Row at h
  simp [World.cell?, h]
theorem Row.has (h : Row w g t cs) (i : Nat) (hi : i < cs.size) : ∃ v, w.cell? ⟨g, i, none⟩ = some v := ⟨cs[i], by rw [h.cell, Array.getElem?_eq_getElem hi]⟩
theorem Row.free (h : Row w g t cs) (i : Nat) : w.frozen? ⟨g, i, none⟩ = false := by
  unfold Row at h
  simp [World.frozen?, h]
theorem Row.made (w : World) (t : TypeId) (cs : Array Value) : Row (w.alloc (.cells cs t)) w.heap.size t cs := by
  show (w.heap.push _)[w.heap.size]? = _
  simp
theorem Row.keep (h : Row w g t cs) {B : Nat} (hb : Below B w w') (hg : g < B) : Row w' g t cs := (hb.block g hg).trans h
theorem Row.drew (h : Row w g t cs) : Row w.drew g t cs := h
theorem Row.drewN (h : Row w g t cs) (n : Nat) : Row (w.drewN n) g t cs := h
theorem Row.alloc (h : Row w g t cs) (o : Obj) : Row (w.alloc o) g t cs := (Below.heap_alloc w o g h.lt).trans h
theorem Row.put (h : Row w g t cs) (i : Nat) (u : Value) : Row (w.setCell ⟨g, i, none⟩ u) g t (cs.setIfInBounds i u) := by
  unfold Row at h ⊢
  simp [World.setCell, Array.getElem?_modify, h]
theorem Row.other (h : Row w g t cs) {p : Addr} (hp : g ≠ p.block) (u : Value) : Row (w.setCell p u) g t cs := (Below.heap_setCell w p u g hp).trans h
end
theorem below_drewN {B : Nat} {a w : World} (h : Below B a w) (n : Nat) : Below B a (w.drewN n) := ⟨h.os, h.tape, h.output, h.size, h.block⟩
theorem below_cell {W w1 : World} (hb : Below W.heap.size W w1) (b o : Nat) (h : b < W.heap.size) : w1.cell? ⟨b, o, none⟩ = W.cell? ⟨b, o, none⟩ := hb.cell (p := ⟨b, o, none⟩) h
theorem below_grown {W w' : World} (h : Grown W w') (hb : Below W.heap.size W w') : Below W.heap.size W w' := hb
theorem grown_drewN {W w : World} (h : Grown W w) : ∀ n, Grown W (w.drewN n)
  | 0 => h
  | n + 1 => (grown_drewN h n).drew
theorem grown_trans {a b c : World} (h : Grown a b) (k : Grown b c) : Grown a c :=
  ⟨World.keptBut_trans h.1 k.1, fun x => (k.2.1 x).trans (h.2.1 x), Nat.le_trans h.2.2 k.2.2⟩
theorem drewNN (w : World) (a : Nat) : ∀ b, (w.drewN a).drewN b = w.drewN (a + b)
  | 0 => rfl
  | b + 1 => by show ((w.drewN a).drewN b).drew = (w.drewN (a + b)).drew; rw [drewNN w a b]
theorem ret_b {a b : Bool} (h : a = b) : Ending.returned (.bool a) = .returned (.bool b) := by rw [h]
theorem ret_i {k : IntKind} {a b : Int} (h : a = b) : Ending.returned (.int k a) = .returned (.int k b) := by rw [h]
theorem ret_s {a b : ByteArray} (h : a = b) : Ending.returned (.string a) = .returned (.string b) := by rw [h]

/-- The last step of a law's row, from 'Below' alone (new blocks may be frozen). -/
theorem post_from_below {H : Type} {enc : TypeId × Value → H} {P : Program} {f : Func} {s : ChangeSpec} {apart fresh handsOn again : Bool} {W W' : World} {args : Array Value} {v : Value} {ds gs : List (DataW H)} {before pa pv : List MemPlace}
    (hW : DataW.Whole enc P f.params.toList s.vars apart W args.toList ds gs before)
    (hres : ∀ (b : Nat) (sp : Nat → Bool) (hd : Bool), DataW.TrodAll enc P W' b sp hd f.resultTypes.toList (v.resultList f.resultTypes.size) (s.fn H (ds ++ gs)).results [])
    (hargs : ∀ sp : Nat → Bool, (∀ p ∈ before, sp p.block = true) → DataW.TrodAll enc P W' 0 sp true f.params.toList args.toList (s.fn H (ds ++ gs)).args pa)
    (hvars : ∀ sp : Nat → Bool, (∀ p ∈ before, sp p.block = true) → DataW.TrodVars enc P W' sp s.vars (s.fn H (ds ++ gs)).vars pv)
    (hps : before = pa ++ pv) (hb : Below W.heap.size W W')
    (hok : ∀ (j : Nat) (t : TypeId) (r : Value), f.resultTypes[j]? = some t → (v.resultList f.resultTypes.size)[j]? = some r → Value.okWide P W' .any 0 t r) :
    s.post enc P f apart fresh handsOn again W args v W' := by
  have hl := fun p hp => hW.lt p hp
  have ho : ∀ p ∈ before, (fun b => decide (b < W.heap.size)) p.block = true := fun p hp => decide_eq_true (hl p hp)
  have hf : W.keptBut W' (fun p => p ∈ before ∧ (p ∈ ([] : List MemPlace) ∨ p ∈ pa ∨ p ∈ pv)) :=
    World.keptBut_mono (fun p hp => ⟨hp, .inr (List.mem_append.1 (hps ▸ hp))⟩) (hb.frame (· ∈ before))
  refine ⟨ds, gs, before, [], pa, pv, hW, hres _ _ _, hargs _ ho, hvars _ ho, hf, fun _ => ⟨hok, ?_⟩⟩
  obtain ⟨_, _, _, _, _, hz, hn⟩ := hW
  have hin : ∀ p, p ∈ ([] ++ pa) ++ pv → p ∈ before := fun p hp => by rw [hps]; simpa using hp
  refine ⟨_, _, ([] ++ pa) ++ pv, ⟨[] ++ pa, pv, trodAll_append (hargs _ (fun _ _ => rfl)) (hres _ _ _), hvars _ (fun _ _ => rfl), rfl, fun b off hp => ?_, fun ha => ?_⟩, fun p hp _ => ?_⟩
  · have h1 := hin _ hp
    exact (hb.frozen (p := ⟨b, off, none⟩) (hl _ h1)).trans (hz b off h1)
  · have h1 := hn ha
    rw [hps] at h1
    simpa using h1
  · exact hin p hp
end Go.Proofs.YtghcggagpagfoaaGreatDoor.M
