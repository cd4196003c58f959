/-
  How long the text of a decoded tree may be (n001_1001).
-/
import Derived.Test.YtgbkjdndbjaeoaaDoorMal
namespace Go.Proofs.YtgbkjdndbjaeoaaDoor
set_option linter.unusedVariables false
set_option linter.unusedSimpArgs false
open Go.ChangeShapes Go.WideShapes Go.ChangeAt Go.RowKit M
theorem adv_b (z : List Int) (i : Nat) (h : i ≤ z.length) : i ≤ adv z i ∧ adv z i ≤ z.length ∧ (b1 z i ≠ 0 → adv z i = i + 1) := by
  unfold adv b1
  split
  · exact ⟨by omega, by omega, fun _ => rfl⟩
  · refine ⟨by omega, h, fun q => absurd ?_ q⟩
    rw [List.getElem?_eq_none (by omega)]
    rfl
def Bd (z : List Int) (c : Nat) (i e k : Nat) : Prop := k ≤ 2000 * (e - i) + c ∧ i ≤ e ∧ e ≤ z.length
theorem str_bd (z : List Int) (hw : ∀ j, 0 ≤ b1 z j ∧ b1 z j < 256) (i : Nat) (h : i ≤ z.length) : Bd z 2 i (strE z i) (quoted (strB z i)).length := by
  have h1 := hw i
  have ha := adv_b z i h
  have ha2 := adv_b z (adv z i) ha.2.1
  have hs := strB_le z hw i
  have hq := (quoted_len (strB z i)).2
  have hsz : (strB z i).size = (strN z i).1.toNat := by simp [strB, rdL, ByteArray.size]
  have h2 : i ≤ (strN z i).2 ∧ (strN z i).2 ≤ z.length ∧ (b1 z i ≠ 0 → i + 1 ≤ (strN z i).2) := by
    unfold strN
    split
    · exact ⟨by show i ≤ adv z (adv z i); omega, by show adv z (adv z i) ≤ _; omega, fun q => by have := ha.2.2 q; show i + 1 ≤ adv z (adv z i); omega⟩
    · exact ⟨ha.1, ha.2.1, fun q => by have := ha.2.2 q; show i + 1 ≤ adv z i; omega⟩
  have h3 : strE z i = min ((strN z i).2 + (strN z i).1.toNat) z.length := rfl
  unfold Bd
  by_cases h0 : b1 z i = 0
  · have : (strN z i).1 = 0 := by
      unfold strN
      rw [h0]
      rfl
    rw [this] at hsz h3
    have e0 : (0 : Int).toNat = 0 := rfl
    rw [e0] at hsz h3
    omega
  · have := h2.2.2 h0
    omega
theorem jr_snoc (f : T → List UInt8) (t : T) : ∀ (ts : List T) (c : Bool), (jr f c (ts ++ [t])).length ≤ (jr f c ts).length + (f t).length + 2
  | [], c => by cases c <;> simp [jr]
  | a :: ts, c => by
    have := jr_snoc f t ts true
    cases c <;> simp [jr] <;> omega
theorem rep_bd (z : List Int) (F : Nat → T × Nat) (f : T → List UInt8) (hF : ∀ i, i ≤ z.length → Bd z 20 i (F i).2 (f (F i).1).length) : ∀ k i, i ≤ z.length → Bd z (22 * k) i (rep F k i).2 (jr f false (rep F k i).1).length
  | 0, i, h => ⟨by simp [rep, jr], Nat.le_refl _, h⟩
  | k + 1, i, h => by
    obtain ⟨h1, h2, h3⟩ := rep_bd z F f hF k i h
    obtain ⟨h4, h5, h6⟩ := hF _ h3
    have := jr_snoc f (F (rep F k i).2).1 (rep F k i).1 false
    rw [rep_succ]
    refine ⟨?_, ?_, h6⟩
    · show (jr f false ((rep F k i).1 ++ [(F (rep F k i).2).1])).length ≤ 2000 * ((F (rep F k i).2).2 - i) + 22 * (k + 1)
      omega
    · show i ≤ (F (rep F k i).2).2
      omega
theorem nameT_len (m : Int) : (nameT m).data.toList.length ≤ 8 := by
  unfold nameT
  repeat' split
  all_goals decide
theorem numT_len (m : Int) : (numT m).data.toList.length ≤ 4 := by
  unfold numT
  repeat' split
  all_goals decide
def LB (z : List Int) (f : Nat → T × Nat) : Prop := ∀ n i, i ≤ z.length → Bd z 4 i (f i).2 (txt n (f i).1).length
theorem kv_bd (z : List Int) (hw : ∀ j, 0 ≤ b1 z j ∧ b1 z j < 256) (fT : Nat → T × Nat) (hT : LB z fT) : ∀ n i, i ≤ z.length → Bd z 20 i (kvD z fT i).2 (txt n (kvD z fT i).1).length := by
  intro n i h
  have ha := adv_b z i h
  unfold kvD
  split
  · obtain ⟨h1, h2, h3⟩ := hT (n - 1) (adv z i) ha.2.1
    have h4 := nameT_len (b1 z i / 2 % 8)
    refine ⟨?_, by show i ≤ (fT (adv z i)).2; omega, h3⟩
    cases n with
    | zero => simp [txt]
    | succ n =>
      show (txt (n + 1) (kvF (nameT (b1 z i / 2 % 8)) E0 (fT (adv z i)).1)).length ≤ 2000 * ((fT (adv z i)).2 - i) + 20
      rw [txt_kv, if_neg (nameT_ne _).2]
      simp only [List.length_append, List.length_cons, List.length_nil, Nat.add_sub_cancel] at h1 ⊢
      omega
  · rename_i hodd
    have hne : b1 z i ≠ 0 := fun q => hodd (by rw [q]; rfl)
    have h5 := ha.2.2 hne
    obtain ⟨g1, g2, g3⟩ := str_bd z hw (adv z i) ha.2.1
    obtain ⟨h1, h2, h3⟩ := hT (n - 1) (strE z (adv z i)) g3
    refine ⟨?_, by show i ≤ (fT (strE z (adv z i))).2; omega, h3⟩
    cases n with
    | zero => simp [txt]
    | succ n =>
      show (txt (n + 1) (kvF E0 (strB z (adv z i)) (fT (strE z (adv z i))).1)).length ≤ 2000 * ((fT (strE z (adv z i))).2 - i) + 20
      rw [txt_kv, if_pos (show E0.size = 0 from rfl)]
      simp only [List.length_append, List.length_cons, List.length_nil, Nat.add_sub_cancel] at h1 ⊢
      omega
theorem obj_bd (z : List Int) (hw : ∀ j, 0 ≤ b1 z j ∧ b1 z j < 256) (fT : Nat → T × Nat) (hT : LB z fT) (k : Nat) (hk : k ≤ 3) : ∀ n i, (0 < k → b1 z i ≠ 0) → i ≤ z.length → Bd z 4 i (objD z fT k i).2 (txt n (objD z fT k i).1).length := by
  intro n i hb h
  have ha := adv_b z i h
  obtain ⟨h1, h2, h3⟩ := rep_bd z (kvD z fT) (txt (n - 1)) (fun j hj => kv_bd z hw fT hT (n - 1) j hj) k (adv z i) ha.2.1
  have hl := (rep_mem (kvD z fT) (fun _ => True) (fun _ => trivial) k (adv z i)).1
  refine ⟨?_, by show i ≤ (rep (kvD z fT) k (adv z i)).2; omega, h3⟩
  cases n with
  | zero => simp [txt]
  | succ n =>
    show (txt (n + 1) (.nd 40 [.l (decide (0 < k)) (rep (kvD z fT) k (adv z i)).1])).length ≤ 2000 * ((rep (kvD z fT) k (adv z i)).2 - i) + 4
    rw [txt_obj, hl]
    split
    · simp
    · have h5 := ha.2.2 (hb (by omega))
      simp only [List.length_append, List.length_cons, List.length_nil, Nat.add_sub_cancel] at h1 ⊢
      omega
end Go.Proofs.YtgbkjdndbjaeoaaDoor
