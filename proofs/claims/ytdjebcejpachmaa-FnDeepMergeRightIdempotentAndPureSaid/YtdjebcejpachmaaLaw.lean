/-
  Plain laws of the models and the objects (n001_79): merging.
-/
import Derived.Test.YtdjebcejpachmaaMat
namespace Go.Proofs.Ytdjebcejpachmaa
set_option linter.unusedVariables false
set_option linter.unusedSimpArgs false
theorem mrgEnt_inl (x : Option Ent) (n : Int) : mrgEnt x (.inl n) = .inl n := by
  cases x with
  | none => rfl
  | some x => cases x <;> rfl
theorem mrgE_inl (x : Option (Int ⊕ Fun1)) (n : Int) : mrgE x (some (.inl n)) = some (.inl n) := rfl
theorem mfl_nd {f g : Flat} (hf : Nd f) : ∀ j, Nd (mfl f g j)
  | 0 => hf
  | j + 1 => by
    rw [mfl]
    split
    · exact mfl_nd hf j
    · exact (mfl_nd hf j).aset _ _
theorem mrgF_nd {a b : OML} (ha : Nd a) : ∀ j, Nd (mrgF a b j)
  | 0 => ha
  | j + 1 => by
    rw [mrgF]
    split
    · exact mrgF_nd ha j
    · exact (mrgF_nd ha j).aset _ _
theorem modF_in (ks : List ByteArray) (vs : List Int) (nks : NK) (nvs : NI) (hln : ∀ j, (nkAt nks j).2.length ≤ 4096) : ∀ j, NdIn (modF ks vs nks nvs j) ∧ Small (modF ks vs nks nvs j) 4096
  | 0 => ⟨fun s f h => by simp [modF, aget] at h, fun s f h => by simp [modF, aget] at h⟩
  | j + 1 => by
    obtain ⟨h1, h2⟩ := modF_in ks vs nks nvs hln j
    have he : ∀ fl, entAt vs nks nvs j = .inr fl → Nd fl ∧ fl.length ≤ 4096 := by
      intro fl h
      unfold entAt at h
      split at h
      · injection h with h
        subst h
        exact ⟨flatF_nd _ _ _, Nat.le_trans (flatF_len _ _ _) (hln j)⟩
      · cases h
    rw [modF]
    split
    · exact ⟨h1, h2⟩
    · rename_i s _
      refine ⟨fun t f h => ?_, h2.aset fun fl h => (he fl h).2⟩
      rw [aget_aset] at h
      split at h
      · injection h with h
        exact (he f h).1
      · exact h1 t f h
theorem mrgEnt_in {a b : OML} (ha : NdIn a) (hb : NdIn b) (sa : Small a 4096) (sb : Small b 4096) (hnb : Nd b) : NdIn (mrgF a b b.length) ∧ Small (mrgF a b b.length) 8192 := by
  have key : ∀ s f, aget (mrgF a b b.length) s = some (.inr f) → Nd f ∧ f.length ≤ 8192 := by
    intro s f h
    rw [aget_mrgF a b hnb, List.take_length] at h
    cases h1 : aget b s with
    | none =>
      rw [h1] at h
      exact ⟨ha s f h, by have := sa s f h; omega⟩
    | some e =>
      rw [h1] at h
      injection h with h
      cases e with
      | inl n => rw [mrgEnt_inl] at h; cases h
      | inr g =>
        have hg := hb s g h1
        have hgl := sb s g h1
        cases h2 : aget a s with
        | none =>
          rw [h2] at h
          injection h with h
          subst h
          exact ⟨hg, by omega⟩
        | some x =>
          rw [h2] at h
          cases x with
          | inl n =>
            injection h with h
            subst h
            exact ⟨hg, by omega⟩
          | inr f' =>
            injection h with h
            subst h
            exact ⟨mfl_nd (ha s f' h2) _, by have := mfl_len f' g g.length; have := sa s f' h2; omega⟩
  exact ⟨fun s f h => (key s f h).1, fun s f h => (key s f h).2⟩
theorem fun1_mfl {f g : Flat} (hg : Nd g) : fun1 (mfl f g g.length) = mrg1 (fun1 f) (fun1 g) := by
  funext s
  unfold fun1 mrg1
  rw [aget_mfl f g hg, List.take_length]
  show (match aget g s with | none => aget f s | some v => some v) = (match aget g s with | none => aget f s | some n => some n)
  cases aget g s <;> rfl
theorem fun2_mrgF {a b : OML} (hnb : Nd b) (hb : NdIn b) : fun2 (mrgF a b b.length) = mrg2 (fun2 a) (fun2 b) := by
  funext s
  unfold mrg2
  rw [show fun2 (mrgF a b b.length) s = (aget (mrgF a b b.length) s).map entF from rfl, aget_mrgF a b hnb, List.take_length]
  unfold fun2
  cases h1 : aget b s with
  | none => rfl
  | some e =>
    cases e with
    | inl n =>
      show Option.map entF (some (mrgEnt (aget a s) (.inl n))) = _
      rw [mrgEnt_inl]
      rfl
    | inr g =>
      have hg := hb s g h1
      cases h2 : aget a s with
      | none => rfl
      | some x =>
        cases x with
        | inl n => rfl
        | inr f =>
          show some (Sum.inr (fun1 (mfl f g g.length))) = some (Sum.inr (mrg1 (fun1 f) (fun1 g)))
          rw [fun1_mfl hg]
theorem mrg1_idem (f g : Fun1) : mrg1 (mrg1 f g) g = mrg1 f g := by
  funext s
  unfold mrg1
  cases g s <;> rfl
theorem mrg1_self (g : Fun1) : mrg1 g g = g := by
  funext s
  unfold mrg1
  cases h : g s <;> simp [h]
theorem mrgE_idem (x y : Option (Int ⊕ Fun1)) : mrgE (mrgE x y) y = mrgE x y := by
  cases y with
  | none => rfl
  | some y =>
    cases y with
    | inl n => rfl
    | inr g =>
      cases x with
      | none => show some (Sum.inr (mrg1 g g)) = some (Sum.inr g); rw [mrg1_self]
      | some x =>
        cases x with
        | inl n => show some (Sum.inr (mrg1 g g)) = some (Sum.inr g); rw [mrg1_self]
        | inr f => show some (Sum.inr (mrg1 (mrg1 f g) g)) = some (Sum.inr (mrg1 f g)); rw [mrg1_idem]
theorem mrg2_idem (A B : Fun2) : mrg2 (mrg2 A B) B = mrg2 A B := by
  funext s
  exact mrgE_idem _ _
def none2 : Fun2 := fun _ => none
theorem mrg2_none_right (A : Fun2) : mrg2 A none2 = A := rfl
theorem mrg2_none_left (B : Fun2) : mrg2 none2 B = B := by
  funext s
  unfold mrg2 none2 mrgE
  cases B s with
  | none => rfl
  | some y => cases y <;> rfl
theorem OObj.empty {w : World} {m : Nat} (h : MMap w m []) : OObj w m 0 none2 := ⟨[], h, Nat.le_refl _, fun s => trivial⟩
end Go.Proofs.Ytdjebcejpachmaa
