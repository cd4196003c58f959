/-
  The law's reader of a text (n001_1001): all heights; the shapes of what the code decodes to.
-/
import Derived.Test.YtgbkjdndbjaeoaaDoorMto
namespace Go.Proofs.YtgbkjdndbjaeoaaDoor
set_option linter.unusedVariables false
set_option linter.unusedSimpArgs false
open Go.ChangeShapes Go.WideShapes Go.ChangeAt Go.RowKit M
theorem mO_0 : MO 0 := by
  intro w pb S L p t hw
  cases hw
theorem mT_0 : MT 0 := by
  intro w pb S L p t hw
  cases hw
theorem mT_step (n : Nat) (hO : MO n) (hA : ∀ k, n = k + 1 → MT k) : MT (n + 1) := by
  intro w pb S L p t hw ha hz hs hL
  cases hw with
  | obj n' o ho => exact mT_obj n o hO ho w pb S L p ha hz hs hL
  | arr n' a ho =>
    cases ho with
    | mk k nn ts hl hk => exact mT_arr k (hA k rfl) nn ts hl hk w pb S L p ha hz hs hL
  | num n' m => exact mT_num n m w pb S L p ha hz hs hL
  | null => exact mT_null n w pb S L p ha hz hs hL
  | tru => exact mT_tru n w pb S L p ha hz hs hL
  | fls => exact mT_fls n w pb S L p ha hz hs hL
  | str n' s hss => exact mT_str n s hss w pb S L p ha hz hs hL
theorem mO_1 : MO 1 := by
  intro w pb S L p t hw ha hz hs
  cases hw with
  | mk n' nn ts hl hk =>
    cases ts with
    | nil => exact mO_s 0 mT_0 nn [] hl (fun t ht => by cases ht) w pb S L p (At.succ 1 ha) hz hs
    | cons t ts =>
      have := hk t (List.mem_cons_self ..)
      cases this
theorem mO_step (n : Nat) (hT : MT n) : MO (n + 2) := by
  intro w pb S L p t hw ha hz hs
  cases hw with
  | mk n' nn ts hl hk => exact mO_s n hT nn ts hl hk w pb S L p ha hz hs
theorem mAll : ∀ n, (MO n ∧ MT n) ∧ (MO (n + 1) ∧ MT (n + 1))
  | 0 => ⟨⟨mO_0, mT_0⟩, mO_1, mT_step 0 mO_0 (fun k hk => by omega)⟩
  | n + 1 => by
    obtain ⟨⟨h1, h2⟩, h3, h4⟩ := mAll n
    have hA : ∀ k, n + 1 = k + 1 → MT k := by
      intro k hk
      have e : n = k := by omega
      rw [← e]
      exact h2
    exact ⟨⟨h3, h4⟩, mO_step n h2, mT_step (n + 1) h3 hA⟩
theorem W_succ : ∀ n, (∀ t, WO n t → WO (n + 1) t) ∧ (∀ t, WK n t → WK (n + 1) t) ∧ (∀ t, WA n t → WA (n + 1) t) ∧ (∀ t, WT n t → WT (n + 1) t)
  | 0 => by
    refine ⟨?_, ?_, ?_, ?_⟩ <;> (intro t h; cases h)
  | n + 1 => by
    obtain ⟨hO, hK, hA, hT⟩ := W_succ n
    refine ⟨?_, ?_, ?_, ?_⟩
    · intro t h
      cases h with
      | mk _ nn ts hl hk => exact .mk _ nn ts hl (fun t ht => hK t (hk t ht))
    · intro t h
      cases h with
      | key _ m v hv => exact .key _ m v (hT v hv)
      | str _ s v hs hv => exact .str _ s v hs (hT v hv)
    · intro t h
      cases h with
      | mk _ nn ts hl hk => exact .mk _ nn ts hl (fun t ht => hT t (hk t ht))
    · intro t h
      cases h with
      | obj _ o ho => exact .obj _ o (hO o ho)
      | arr _ a ho => exact .arr _ a (hA a ho)
      | num _ m => exact .num _ m
      | null => exact .null _
      | tru => exact .tru _
      | fls => exact .fls _
      | str _ s hs => exact .str _ s hs
theorem rep_mem (f : Nat → T × Nat) (P : T → Prop) (hf : ∀ i, P (f i).1) : ∀ k i, (rep f k i).1.length = k ∧ ∀ t ∈ (rep f k i).1, P t
  | 0, i => ⟨rfl, fun t ht => by cases ht⟩
  | k + 1, i => by
    obtain ⟨h1, h2⟩ := rep_mem f P hf k i
    refine ⟨by rw [rep_succ, List.length_append, h1]; rfl, fun t ht => ?_⟩
    rw [rep_succ, List.mem_append] at ht
    rcases ht with h | h
    · exact h2 t h
    · rw [List.mem_singleton] at h
      rw [h]
      exact hf _
theorem strB_le (z : List Int) (hw : ∀ j, 0 ≤ b1 z j ∧ b1 z j < 256) (i : Nat) : (strB z i).size ≤ 255 := by
  have h : (strB z i).size = (strN z i).1.toNat := by simp [strB, rdL, ByteArray.size]
  rw [h]
  unfold strN
  have h1 := hw i
  have h2 := hw (adv z i)
  split
  · show (b1 z (adv z i)).toNat ≤ 255
    omega
  · show (b1 z i % 12).toNat ≤ 255
    omega
theorem decW (z : List Int) (hw : ∀ j, 0 ≤ b1 z j ∧ b1 z j < 256) : ∀ m i, WO (2 * m + 1) ((decs z m).1 i).1 ∧ WT (2 * m + 1) ((decs z m).2 i).1
  | 0, i => ⟨.mk 0 _ [] (by simp) (fun t ht => by cases ht), .null 0⟩
  | m + 1, i => by
    have hT : ∀ j, WT (2 * m + 1) ((decs z m).2 j).1 := fun j => (decW z hw m j).2
    have hO : ∀ j, WO (2 * m + 1) ((decs z m).1 j).1 := fun j => (decW z hw m j).1
    have hs := W_succ (2 * m + 1)
    constructor
    · have hK : ∀ j, WK (2 * m + 2) (kvD z (decs z m).2 j).1 := by
        intro j
        unfold kvD
        split
        · exact .key _ _ _ (hT _)
        · exact .str _ _ _ (strB_le z hw _) (hT _)
      have hr := rep_mem (kvD z (decs z m).2) (WK (2 * m + 2)) hK (b1 z i % 4).toNat (adv z i)
      exact .mk (2 * m + 2) _ _ (by rw [hr.1]; have := hw i; omega) hr.2
    · show WT (2 * m + 2 + 1) (trmD z (decs z m).1 (decs z m).2 i).1
      unfold trmD
      split
      · exact .str _ _ (strB_le z hw _)
      split
      · exact .null _
      split
      · exact .tru _
      split
      · exact .fls _
      split
      · exact .num _ _
      split
      · have hr := rep_mem (decs z m).2 (WT (2 * m + 1)) hT (b1 z (adv z i) % 4).toNat (adv z (adv z i))
        exact .arr _ _ (.mk (2 * m + 1) _ _ (by rw [hr.1]; have := hw (adv z i); omega) hr.2)
      · exact .obj _ _ (hs.1 _ (hO _))
end Go.Proofs.YtgbkjdndbjaeoaaDoor
