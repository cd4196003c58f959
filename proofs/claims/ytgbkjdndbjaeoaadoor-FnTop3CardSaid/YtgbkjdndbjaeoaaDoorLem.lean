/-
  How long the text of a decoded tree may be (n001_1001): terms, all heights.
-/
import Derived.Test.YtgbkjdndbjaeoaaDoorLen
namespace Go.Proofs.YtgbkjdndbjaeoaaDoor
set_option linter.unusedVariables false
set_option linter.unusedSimpArgs false
open Go.ChangeShapes Go.WideShapes Go.ChangeAt Go.RowKit M
theorem bd0 {z : List Int} {n i e : Nat} {t : T} (h : i ≤ e) (he : e ≤ z.length) (hn : ∀ k, n = k + 1 → (txt (k + 1) t).length ≤ 2000 * (e - i) + 4) : Bd z 4 i e (txt n t).length := by
  refine ⟨?_, h, he⟩
  cases n with
  | zero => simp [txt]
  | succ k => exact hn k rfl
theorem trm_bd (z : List Int) (hw : ∀ j, 0 ≤ b1 z j ∧ b1 z j < 256) (fO fT : Nat → T × Nat) (hO : LB z fO) (hT : LB z fT) : LB z (trmD z fO fT) := by
  intro n i h
  have ha := adv_b z i h
  have hb := hw i
  unfold trmD
  split
  · obtain ⟨g1, g2, g3⟩ := str_bd z hw (adv z i) ha.2.1
    refine bd0 (show i ≤ strE z (adv z i) by omega) g3 (fun k hk => ?_)
    show (quoted (strB z (adv z i))).length ≤ 2000 * (strE z (adv z i) - i) + 4
    omega
  split
  · exact bd0 ha.1 ha.2.1 (fun k hk => by show ([110, 117, 108, 108] : List UInt8).length ≤ _; simp)
  split
  · exact bd0 ha.1 ha.2.1 (fun k hk => by show ([116, 114, 117, 101] : List UInt8).length ≤ _; simp)
  split
  · rename_i h3
    have h5 := ha.2.2 (fun q => by rw [q] at h3; simp at h3)
    refine bd0 ha.1 ha.2.1 (fun k hk => ?_)
    show 5 ≤ 2000 * (adv z i - i) + 4
    omega
  split
  · have h6 := numT_len (b1 z i / 8 % 8)
    refine bd0 ha.1 ha.2.1 (fun k hk => ?_)
    show (txt (k + 1) (termF none none (numT (b1 z i / 8 % 8)) E0 false false false)).length ≤ 2000 * (adv z i - i) + 4
    rw [txt_l, if_pos (numT_ne _).2]
    omega
  split
  · rename_i h3
    have h5 := ha.2.2 (fun q => by rw [q] at h3; simp at h3)
    have ha2 := adv_b z (adv z i) ha.2.1
    have hb2 := hw (adv z i)
    obtain ⟨c, hc⟩ : ∃ c, c = (b1 z (adv z i) % 4).toNat := ⟨_, rfl⟩
    rw [← hc]
    have hc3 : c ≤ 3 := by omega
    obtain ⟨g1, g2, g3⟩ := rep_bd z fT (txt (n - 2)) (fun j hj => by obtain ⟨x1, x2, x3⟩ := hT (n - 2) j hj; exact ⟨by omega, x2, x3⟩) c (adv z (adv z i)) ha2.2.1
    refine bd0 (show i ≤ (rep fT c (adv z (adv z i))).2 by omega) g3 (fun k hk => ?_)
    show (txt k (.nd 59 [.l (decide (0 < c)) (rep fT c (adv z (adv z i))).1])).length ≤ 2000 * ((rep fT c (adv z (adv z i))).2 - i) + 4
    subst hk
    cases k with
    | zero => simp [txt]
    | succ k =>
      rw [txt_arr]
      simp only [List.length_append, List.length_cons, List.length_nil, Nat.add_sub_cancel] at g1 ⊢
      have e : k + 1 + 1 - 2 = k := by omega
      rw [e] at g1
      omega
  · obtain ⟨g1, g2, g3⟩ := hO (n - 1) (adv z i) ha.2.1
    refine bd0 (show i ≤ (fO (adv z i)).2 by omega) g3 (fun k hk => ?_)
    show (txt k (fO (adv z i)).1).length ≤ 2000 * ((fO (adv z i)).2 - i) + 4
    subst hk
    rw [Nat.add_sub_cancel] at g1
    omega
theorem decL (z : List Int) (hw : ∀ j, 0 ≤ b1 z j ∧ b1 z j < 256) : ∀ m, LB z (decs z m).1 ∧ LB z (decs z m).2
  | 0 => by
    constructor
    · intro n i h
      exact obj_bd z hw (fun j => (nilT, j)) (fun n j hj => bd0 (Nat.le_refl _) hj (fun k hk => by show ([110, 117, 108, 108] : List UInt8).length ≤ _; simp)) 0 (by omega) n i (fun q => absurd q (by omega)) h
    · intro n i h
      have ha := adv_b z i h
      exact bd0 ha.1 ha.2.1 (fun k hk => by show ([110, 117, 108, 108] : List UInt8).length ≤ _; simp)
  | m + 1 => by
    obtain ⟨hO, hT⟩ := decL z hw m
    constructor
    · intro n i h
      have hb := hw i
      exact obj_bd z hw (decs z m).2 hT (b1 z i % 4).toNat (by omega) n i (fun q e => by rw [e] at q; simp at q) h
    · exact trm_bd z hw _ _ hO hT
end Go.Proofs.YtgbkjdndbjaeoaaDoor
