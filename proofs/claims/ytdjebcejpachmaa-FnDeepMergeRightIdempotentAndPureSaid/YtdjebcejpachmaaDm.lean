/-
  Contracts of maps.Copy and deepMergeObjects (n001_79).
-/
import Derived.Test.YtdjebcejpachmaaObj
namespace Go.Proofs.Ytdjebcejpachmaa
set_option linter.unusedVariables false
set_option linter.unusedSimpArgs false
open Go.ChangeShapes Go.WideShapes Go.ChangeAt Go.RowKit M
/-- What the copy's target holds while rem is still to come. -/
def CopyTo (es rem ts : ES) : Prop := ∀ s, aget ts s = if (aget rem s).isSome then none else aget es s
theorem CopyTo.start (es : ES) : CopyTo es es [] := by
  intro s
  cases h : aget es s <;> simp [aget]
theorem CopyTo.step {es rem ts : ES} {s : ByteArray} {v : Value} (h : CopyTo es rem ts) (he : aget es s = some v) : CopyTo es (adel rem s) (aset ts s v) := by
  intro t
  rw [aget_aset, aget_adel]
  by_cases hst : s = t
  · subst hst
    rw [if_pos rfl, if_pos rfl, he]
    rfl
  · rw [if_neg hst, if_neg hst]
    exact h t
theorem CopyTo.stop {es ts : ES} (h : CopyTo es [] ts) : ∀ s, aget ts s = aget es s := fun s => by
  have := h s
  simpa [aget] using this
def CopyOut (w : World) (T : Nat) (es : ES) (e : Ending) (w' : World) : Prop := e = .returned (.tuple #[]) ∧ (∃ ts, MMap w' T ts ∧ ∀ s, aget ts s = aget es s) ∧ Touch (· = T) w w'
set_option maxHeartbeats 2000000 in
theorem copyC (w : World) (T b : Nat) (es : ES) (hT : MMap w T []) (hb : MMap w b es) (hne : b ≠ T) : Calls Try.prog 44 #[.map (some T), .map (some b)] w (CopyOut w T es) := by
  have HT := Lib.hid hT
  have HB := Lib.hid hb
  have hlT := hT.lt
  have HNE := Lib.hid hne
  clear hT hb hne
  go_enter Try.func44, Try.ntmps44
  go_wp2_with (at_range; refine wpList_rng w rfl _ rfl b es rfl HB.out ?_; intro ob hr; have HR := Lib.hid hr; clear hr)
  go_frame
  go_loopw [8] (fun _ wr => ∃ rem ts, Rng wr w.heap.size b es rem ∧ MMap wr T ts ∧ CopyTo es rem ts ∧ Touch (· = T) w wr) (fun _ wr => wr.rangeLeft b w.heap.size)
  case atStart => exact ⟨es, [], HR.out, HT.out.keep ((Below.refl _ _).alloc (Nat.le_refl _) _), CopyTo.start es, (Touch.refl _ _).alloc _⟩
  case round =>
    obtain ⟨rem, ts, hrg, hm, hcp, ht⟩ := hrel
    have HRG := Lib.hid hrg
    have HM := Lib.hid hm
    have HCP := Lib.hid hcp
    have HTT := Lib.hid ht
    have hs := ht.size
    clear hrg hm hcp ht
    go_wp2_with (first | (at_next; refine wpList_nxt _ rfl _ rfl w.heap.size b es rem rfl HRG.out ?_ ?_) | go_in)
    · intro hz
      have HZ := Lib.hid hz
      clear hz
      go_wp2_with fail
      (try simp only [Exit.inBlock, Exit.then])
      refine bodyPost_ret (results_none rfl _ _ _) rfl ?_
      refine ⟨rfl, ⟨ts, HM.out, ?_⟩, HTT.out⟩
      have := HCP.out
      rw [HZ.out] at this
      exact this.stop
    · intro s v w1 hg hg2 hr1 hl1 ht1 hs1 hen
      have HG2 := Lib.hid hg2
      have HR1 := Lib.hid hr1
      have HL1 := Lib.hid hl1
      have hnr : T ≠ w.heap.size := by omega
      have HM1 := Lib.hid (HM.out.touch ht1 hnr)
      have HT1 := Lib.hid (HTT.out.trans' ht1 (fun i hi q => by omega))
      clear hg hg2 hr1 hl1 ht1 hs1
      go_wp2_with (first | (refine wpList_upd w1 rfl _ _ _ rfl T ts s v rfl rfl rfl HM1.out ?_; intro w2 hm2 ht2 hs2; have HM2 := Lib.hid hm2; have HT2 := Lib.hid ht2; clear hm2 ht2 hs2; go_frame) | go_in)
      have HR2 := HR1.out.touch HT2.out (fun q => by omega) HNE.out
      go_roundw
      case rel => exact ⟨_, _, HR2, HM2.out, HCP.out.step HG2.out, HT1.out.trans HT2.out⟩
      case measure => rw [HR2.left, HRG.out.left]; exact HL1.out
/-- What an object holds, name by name: an int, or an object of ints. -/
abbrev Fun1 := ByteArray → Option Int
abbrev Fun2 := ByteArray → Option (Int ⊕ Fun1)
def intV (n : Int) : Value := .iface 3 (.int .i64 n)
def FObj (w : World) (b N : Nat) (f : Fun1) : Prop := ∃ es, MMap w b es ∧ es.length ≤ N ∧ ∀ s, aget es s = (f s).map intV
/-- A value as it lies in a map; an object's block is one that 'ok' lets by. -/
def VIs (w : World) (ok : Nat → Prop) (N : Nat) : Option Value → Option (Int ⊕ Fun1) → Prop
  | none, none => True
  | some v, some (.inl n) => v = intV n
  | some v, some (.inr f) => ∃ b, v = .iface 42 (.map (some b)) ∧ ok b ∧ FObj w b N f
  | _, _ => False
def OObj (w : World) (b N : Nat) (F : Fun2) : Prop := ∃ es, MMap w b es ∧ es.length ≤ N ∧ ∀ s, VIs w (fun _ => True) N (aget es s) (F s)
def mrg1 (x y : Fun1) : Fun1 := fun s => match y s with | none => x s | some n => some n
def mrgE (x y : Option (Int ⊕ Fun1)) : Option (Int ⊕ Fun1) :=
  match y with
  | none => x
  | some (.inl n) => some (.inl n)
  | some (.inr g) => match x with
    | some (.inr f) => some (.inr (mrg1 f g))
    | _ => some (.inr g)
def mrg2 (x y : Fun2) : Fun2 := fun s => mrgE (x s) (y s)
theorem FObj.touch {S : Nat → Prop} {w w' : World} {b N : Nat} {f : Fun1} (h : FObj w b N f) (ht : Touch S w w') (hn : ¬ S b) : FObj w' b N f := by
  obtain ⟨es, h1, h2⟩ := h
  exact ⟨es, h1.touch ht hn, h2⟩
theorem FObj.lt {w : World} {b N : Nat} {f : Fun1} (h : FObj w b N f) : b < w.heap.size := by
  obtain ⟨es, h1, _⟩ := h
  exact h1.lt
theorem FObj.mono {w : World} {b N N' : Nat} {f : Fun1} (h : FObj w b N f) (hN : N ≤ N') : FObj w b N' f := by
  obtain ⟨es, h1, h2, h3⟩ := h
  exact ⟨es, h1, by omega, h3⟩
theorem VIs.touch {S : Nat → Prop} {w w' : World} {ok : Nat → Prop} {N : Nat} {v : Option Value} {x : Option (Int ⊕ Fun1)} (h : VIs w ok N v x) (ht : Touch S w w') (hn : ∀ b, ok b → b < w.heap.size → ¬ S b) : VIs w' ok N v x := by
  unfold VIs at h ⊢
  split at h
  · trivial
  · exact h
  · obtain ⟨b, h1, h2, h3⟩ := h
    exact ⟨b, h1, h2, h3.touch ht (hn b h2 h3.lt)⟩
  · exact h
theorem VIs.imp {w : World} {ok ok' : Nat → Prop} {N N' : Nat} {v : Option Value} {x : Option (Int ⊕ Fun1)} (h : VIs w ok N v x) (hn : ∀ b, ok b → b < w.heap.size → ok' b) (hN : N ≤ N') : VIs w ok' N' v x := by
  unfold VIs at h ⊢
  split at h
  · trivial
  · exact h
  · obtain ⟨b, h1, h2, h3⟩ := h
    exact ⟨b, h1, hn b h2 h3.lt, h3.mono hN⟩
  · exact h
theorem VIs.some_eq {w : World} {ok : Nat → Prop} {N : Nat} {v : Option Value} {x : Option (Int ⊕ Fun1)} (h : VIs w ok N v x) : v.isSome = x.isSome := by
  unfold VIs at h
  split at h
  · rfl
  · rfl
  · rfl
  · exact absurd h id
theorem VIs.none_left {w : World} {ok : Nat → Prop} {N : Nat} {x : Option (Int ⊕ Fun1)} (h : VIs w ok N none x) : x = none := by
  have := h.some_eq
  cases x
  · rfl
  · cases this
theorem OObj.keep {w w' : World} {b N : Nat} {F : Fun2} (h : OObj w b N F) (hb : Below w.heap.size w w') : OObj w' b N F := by
  obtain ⟨es, h1, h2, h3⟩ := h
  exact ⟨es, h1.keep hb, h2, fun s => (h3 s).touch (Touch.of_below hb (fun _ => False)) (fun _ _ _ q => q)⟩
def lift1 (f : Fun1) : Fun2 := fun s => (f s).map .inl
theorem FObj.lift {w : World} {b N : Nat} {f : Fun1} (h : FObj w b N f) : OObj w b N (lift1 f) := by
  obtain ⟨es, h1, h2, h3⟩ := h
  refine ⟨es, h1, h2, fun s => ?_⟩
  rw [h3 s]
  unfold lift1
  cases f s <;> simp [VIs]
theorem OObj.unlift {w : World} {b N : Nat} {f : Fun1} (h : OObj w b N (lift1 f)) : FObj w b N f := by
  obtain ⟨es, h1, h2, h3⟩ := h
  refine ⟨es, h1, h2, fun s => ?_⟩
  have h4 := h3 s
  unfold lift1 at h4
  cases hf : f s with
  | none =>
    rw [hf] at h4
    cases he : aget es s with
    | none => rfl
    | some v => rw [he] at h4; exact absurd h4 id
  | some n =>
    rw [hf] at h4
    cases he : aget es s with
    | none => rw [he] at h4; exact absurd h4 id
    | some v =>
      rw [he] at h4
      simp only [Option.map_some, VIs] at h4
      rw [h4]
      rfl
theorem mrg_lift (f g : Fun1) : mrg2 (lift1 f) (lift1 g) = lift1 (mrg1 f g) := by
  funext s
  unfold mrg2 lift1 mrg1 mrgE
  cases g s <;> rfl
/-- The state of the merge: the target ts; es: the left object's entries; rem: the right object's that are still to come. -/
def MrgTo (w : World) (T N : Nat) (F G : Fun2) (es rem ts : ES) : Prop := ∀ s, if (aget rem s).isSome then aget ts s = aget es s else VIs w (· ≠ T) N (aget ts s) (mrg2 F G s)
theorem MrgTo.start {w : World} {T N : Nat} {F G : Fun2} {es gs ts : ES} (hF : ∀ s, VIs w (· ≠ T) N (aget es s) (F s)) (hG : ∀ s, (aget gs s).isSome = (G s).isSome) (ht : ∀ s, aget ts s = aget es s) : MrgTo w T N F G es gs ts := by
  intro s
  split
  · exact ht s
  · rename_i h
    rw [hG s] at h
    rw [ht s]
    have h2 : G s = none := by simpa using h
    unfold mrg2 mrgE
    rw [h2]
    exact hF s
theorem MrgTo.step {w w' : World} {T N : Nat} {F G : Fun2} {es rem ts : ES} {s : ByteArray} {v : Value} (h : MrgTo w T N F G es rem ts) (ht : Touch (· = T) w w') (hv : VIs w' (· ≠ T) N (some v) (mrg2 F G s)) : MrgTo w' T N F G es (adel rem s) (aset ts s v) := by
  intro t
  rw [aget_aset, aget_adel]
  by_cases hst : s = t
  · subst hst
    rw [if_pos rfl, if_pos rfl]
    simpa using hv
  · rw [if_neg hst, if_neg hst]
    have := h t
    split
    · rename_i h2
      rwa [if_pos h2] at this
    · rename_i h2
      rw [if_neg h2] at this
      exact this.touch ht (fun _ q _ => q)
theorem MrgTo.keep {w w' : World} {T N : Nat} {F G : Fun2} {es rem ts : ES} (h : MrgTo w T N F G es rem ts) (ht : Below w.heap.size w w') : MrgTo w' T N F G es rem ts := by
  intro t
  have := h t
  split
  · rename_i h2
    rwa [if_pos h2] at this
  · rename_i h2
    rw [if_neg h2] at this
    exact this.touch (Touch.of_below ht (fun _ => False)) (fun _ _ _ q => q)
theorem MrgTo.keepR {w w' : World} {T N r : Nat} {F G : Fun2} {es rem ts : ES} (h : MrgTo w T N F G es rem ts) (ht : Touch (· = r) w w') (hr : ∀ b fs, MMap w b fs → r ≠ b) : MrgTo w' T N F G es rem ts := by
  intro t
  have := h t
  split
  · rename_i h2
    rwa [if_pos h2] at this
  · rename_i h2
    rw [if_neg h2] at this
    unfold VIs at this ⊢
    split at this
    · trivial
    · exact this
    · obtain ⟨b, h1, h2, h3⟩ := this
      exact ⟨b, h1, h2, h3.touch ht (fun e => hr b _ h3.choose_spec.1 e.symm)⟩
    · exact this
theorem MrgTo.stop {w : World} {T N : Nat} {F G : Fun2} {es ts : ES} (h : MrgTo w T N F G es [] ts) (s : ByteArray) : VIs w (· ≠ T) N (aget ts s) (mrg2 F G s) := by
  have := h s
  simpa [aget] using this
theorem len_union {a b c : ES} (ha : Nd a) (h : ∀ s, (aget a s).isSome = true → (aget b s).isSome = true ∨ (aget c s).isSome = true) : a.length ≤ b.length + c.length := by
  have h1 : (a.map Prod.fst) ⊆ (b.map Prod.fst ++ c.map Prod.fst) := by
    intro s hs
    have h4 : aget a s ≠ none := fun q => (aget_none_iff a s).1 q hs
    rw [List.mem_append]
    rcases h s (Option.isSome_iff_ne_none.2 h4) with h2 | h2
    · exact .inl (Classical.byContradiction fun q => by rw [(aget_none_iff b s).2 q] at h2; cases h2)
    · exact .inr (Classical.byContradiction fun q => by rw [(aget_none_iff c s).2 q] at h2; cases h2)
  have := nodup_len _ _ ha h1
  simpa using this
theorem mrg_some {F G : Fun2} {s : ByteArray} (h : (mrg2 F G s).isSome = true) : (F s).isSome = true ∨ (G s).isSome = true := by
  unfold mrg2 mrgE at h
  cases hG : G s with
  | none => rw [hG] at h; exact .inl h
  | some x => exact .inr rfl
@[go_sem] theorem as42_42 (v : Value) (w : World) : (Instr.typeAssert (.iface 42 v) 20 42 true).run Try.prog w = .ok (.tuple #[v, .bool true]) w := by kernel_rfl
@[go_sem] theorem as3_42 (v : Value) (w : World) : (Instr.typeAssert (.iface 3 v) 20 42 true).run Try.prog w = .ok (.tuple #[.map none, .bool false]) w := by kernel_rfl
@[go_sem] theorem as3_3 (v : Value) (w : World) : (Instr.typeAssert (.iface 3 v) 20 3 true).run Try.prog w = .ok (.tuple #[v, .bool true]) w := by kernel_rfl
@[go_sem] theorem as42_3 (v : Value) (w : World) : (Instr.typeAssert (.iface 42 v) 20 3 true).run Try.prog w = .ok (.tuple #[.int .i64 0, .bool false]) w := by kernel_rfl
end Go.Proofs.Ytdjebcejpachmaa
