/-
  Plain: the leading white space of a text, rune by rune and by its bytes (n001_95).
-/
import Derived.Lib.TrimU
import Derived.Lib.TrimUEq
import Derived.Lib.MapLaws
import Derived.Lib.TrimAscii
namespace Go.Proofs.YtnbfphjkpicajaaDoor
set_option linter.unusedVariables false
open Go.Lib
/-- The text without its leading white space. -/
def trF : Nat → List UInt8 → List UInt8
  | 0, l => l
  | f + 1, l => if l = [] then [] else if isSpaceR (decodeL l).1 then trF f (l.drop (decodeL l).2) else l
theorem trF_fuel : ∀ f g (l : List UInt8), l.length ≤ f → l.length ≤ g → trF f l = trF g l
  | 0, g, l, h, _ => by
    obtain rfl : l = [] := List.eq_nil_of_length_eq_zero (by omega)
    cases g <;> rfl
  | f + 1, 0, l, _, h => by
    obtain rfl : l = [] := List.eq_nil_of_length_eq_zero (by omega)
    rfl
  | f + 1, g + 1, l, hf, hg => by
    unfold trF
    by_cases hne : l = []
    · rw [if_pos hne, if_pos hne]
    · have hw := decodeL_width l
      have hl : 0 < l.length := List.length_pos_iff.2 hne
      rw [if_neg hne, if_neg hne]
      split
      · exact trF_fuel f g _ (by rw [List.length_drop]; omega) (by rw [List.length_drop]; omega)
      · rfl
def tr (l : List UInt8) : List UInt8 := trF l.length l
theorem tr_nil : tr [] = [] := rfl
theorem tr_space (l : List UInt8) (hne : l ≠ []) (h : isSpaceR (decodeL l).1 = true) : tr l = tr (l.drop (decodeL l).2) := by
  have hw := decodeL_width l
  have hl : 0 < l.length := List.length_pos_iff.2 hne
  unfold tr
  rw [trF_fuel l.length (l.length + 1) l (Nat.le_refl _) (by omega)]
  show (if l = [] then [] else if isSpaceR (decodeL l).1 then trF l.length (l.drop (decodeL l).2) else l) = _
  rw [if_neg hne, if_pos h]
  exact trF_fuel _ _ _ (by rw [List.length_drop]; omega) (Nat.le_refl _)
theorem tr_stop (l : List UInt8) (hne : l ≠ []) (h : isSpaceR (decodeL l).1 = false) : tr l = l := by
  unfold tr
  rw [trF_fuel l.length (l.length + 1) l (Nat.le_refl _) (by omega)]
  show (if l = [] then [] else if isSpaceR (decodeL l).1 then trF l.length (l.drop (decodeL l).2) else l) = _
  rw [if_neg hne, if_neg (by rw [h]; decide)]
/-- What is left is nothing or begins with no white space; it is a suffix. -/
theorem tr_end : ∀ n (l : List UInt8), l.length ≤ n → (tr l = [] ∨ (tr l ≠ [] ∧ isSpaceR (decodeL (tr l)).1 = false)) ∧ ∃ k, k ≤ l.length ∧ tr l = l.drop k
  | 0, l, h => by
    obtain rfl : l = [] := List.eq_nil_of_length_eq_zero (by omega)
    exact ⟨.inl rfl, 0, Nat.le_refl _, rfl⟩
  | n + 1, l, h => by
    by_cases hne : l = []
    · subst hne
      exact ⟨.inl rfl, 0, Nat.le_refl _, rfl⟩
    · have hw := decodeL_width l
      have hle := decodeL_le l hne
      have hl : 0 < l.length := List.length_pos_iff.2 hne
      cases hs : isSpaceR (decodeL l).1 with
      | true =>
        rw [tr_space l hne hs]
        obtain ⟨h1, k, hk, h2⟩ := tr_end n (l.drop (decodeL l).2) (by rw [List.length_drop]; omega)
        rw [List.length_drop] at hk
        exact ⟨h1, (decodeL l).2 + k, by omega, by rw [h2, List.drop_drop]⟩
      | false =>
        rw [tr_stop l hne hs]
        exact ⟨.inr ⟨hne, hs⟩, 0, Nat.zero_le _, rfl⟩
theorem tr_tr (l : List UInt8) : tr (tr l) = tr l := by
  rcases (tr_end _ l (Nat.le_refl _)).1 with h | ⟨h1, h2⟩
  · rw [h]
    rfl
  · exact tr_stop _ h1 h2
theorem dec2 (t : List UInt8) : decodeL ([194, 160] ++ t) = (160, 2) := by
  rw [decodeL_N]
  show decodeN ([194, 160] ++ t).length 194 160 _ _ = _
  have y : 1 < ([194, 160] ++ t).length := by simp
  unfold decodeN
  rw [if_neg (by decide), if_pos ⟨by decide, y, by decide⟩, if_pos (by decide)]
theorem dec3 (a b c : UInt8) (t : List UInt8) (h : a.toNat / 16 = 14 ∧ b.toNat / 64 = 2 ∧ c.toNat / 64 = 2 ∧ 2048 ≤ a.toNat % 16 * 4096 + b.toNat % 64 * 64 + c.toNat % 64 ∧ a.toNat % 16 * 4096 + b.toNat % 64 * 64 + c.toNat % 64 < 55296) : decodeL ([a, b, c] ++ t) = (a.toNat % 16 * 4096 + b.toNat % 64 * 64 + c.toNat % 64, 3) := by
  rw [decodeL_N]
  show decodeN ([a, b, c] ++ t).length a.toNat b.toNat c.toNat _ = _
  have y : 2 < ([a, b, c] ++ t).length := by simp
  unfold decodeN
  rw [if_neg (by omega), if_neg (by omega), if_pos ⟨h.1, ⟨by omega, h.2.1⟩, ⟨y, h.2.2.1⟩⟩, if_pos ⟨h.2.2.2.1, .inl h.2.2.2.2⟩]
def pre : List UInt8 := [32, 9, 194, 160, 227, 128, 128, 10, 226, 128, 168]
theorem tr_pre (l : List UInt8) : tr (pre ++ l) = tr l := by
  have e1 : pre ++ l = 32 :: 9 :: ([194, 160] ++ ([227, 128, 128] ++ (10 :: ([226, 128, 168] ++ l)))) := rfl
  rw [e1, tr_space _ (by simp) (by rw [decodeL_ascii _ _ (by decide)]; decide), decodeL_ascii _ _ (by decide)]
  show tr (9 :: ([194, 160] ++ ([227, 128, 128] ++ (10 :: ([226, 128, 168] ++ l))))) = _
  rw [tr_space _ (by simp) (by rw [decodeL_ascii _ _ (by decide)]; decide), decodeL_ascii _ _ (by decide)]
  show tr ([194, 160] ++ ([227, 128, 128] ++ (10 :: ([226, 128, 168] ++ l)))) = _
  rw [tr_space _ (by simp) (by rw [dec2]; decide), dec2]
  show tr ([227, 128, 128] ++ (10 :: ([226, 128, 168] ++ l))) = _
  rw [tr_space _ (by simp) (by rw [dec3 _ _ _ _ (by decide)]; decide), dec3 _ _ _ _ (by decide)]
  show tr (10 :: ([226, 128, 168] ++ l)) = _
  rw [tr_space _ (by simp) (by rw [decodeL_ascii _ _ (by decide)]; decide), decodeL_ascii _ _ (by decide)]
  show tr ([226, 128, 168] ++ l) = _
  rw [tr_space _ (by simp) (by rw [dec3 _ _ _ _ (by decide)]; decide), dec3 _ _ _ _ (by decide)]
  rfl
/-- The library's answer is that text. -/
theorem left_tr (s : ByteArray) : ∀ f k, s.size - k ≤ f → k ≤ s.size → (leftFrom s f k = -1 ∧ tr (s.data.toList.drop k) = []) ∨ (∃ j : Nat, leftFrom s f k = (j : Int) ∧ j < s.size ∧ tr (s.data.toList.drop k) = s.data.toList.drop j)
  | 0, k, h, hk => by
    left
    have hd : s.data.toList.drop k = [] := List.drop_of_length_le (by rw [Array.length_toList]; show s.size ≤ k; omega)
    exact ⟨rfl, by rw [hd]; rfl⟩
  | f + 1, k, h, hk => by
    unfold leftFrom
    by_cases hlt : k < s.size
    · rw [if_pos hlt]
      have hd := decodeL_drop s k
      have hl : (s.data.toList.drop k).length = s.size - k := by rw [List.length_drop, Array.length_toList]; rfl
      have hne : s.data.toList.drop k ≠ [] := List.length_pos_iff.1 (by omega)
      have hw := decodeL_width (s.data.toList.drop k)
      have hle := decodeL_le _ hne
      rw [hd] at hw hle
      cases hs : isSpaceR (Utf8.decode s k).1 with
      | true =>
        rw [if_pos rfl, tr_space _ hne (by rw [hd]; exact hs), hd, List.drop_drop]
        exact left_tr s f (k + (Utf8.decode s k).2) (by omega) (by omega)
      | false =>
        rw [if_neg (by decide), tr_stop _ hne (by rw [hd]; exact hs)]
        exact .inr ⟨k, rfl, hlt, rfl⟩
    · rw [if_neg hlt]
      left
      have hd : s.data.toList.drop k = [] := List.drop_of_length_le (by rw [Array.length_toList]; show s.size ≤ k; omega)
      exact ⟨rfl, by rw [hd]; rfl⟩
theorem ba_ext {a b : ByteArray} (h : a.data.toList = b.data.toList) : a = b := by
  cases a; cases b; simp_all
theorem extract_tail (b : ByteArray) (i : Nat) : (b.extract i b.size).data.toList = b.data.toList.drop i := by
  have h : b.data.toList.length = b.size := Array.length_toList
  simp [List.extract_eq_take_drop]
  exact List.take_of_length_le (by rw [List.length_drop, h]; exact Nat.le_refl _)
theorem goTrim_tr (s : ByteArray) : goTrimLeft s = ⟨(tr s.data.toList).toArray⟩ := by
  refine ba_ext ?_
  unfold goTrimLeft
  have h := left_tr s s.size 0 (by omega) (Nat.zero_le _)
  rw [List.drop_zero] at h
  change (leftIdx s = -1 ∧ _) ∨ (∃ j : Nat, leftIdx s = (j : Int) ∧ _) at h
  rcases h with ⟨h1, h2⟩ | ⟨j, h1, h2, h3⟩
  · rw [if_pos h1, h2]
  · rw [if_neg (by omega), h1, Int.toNat_natCast, extract_tail, h3]
/-- The law's own look at the bytes of a white space. -/
def spN (n b0 b1 b2 : Nat) : Nat :=
  if b0 = 32 ∨ (9 ≤ b0 ∧ b0 ≤ 13) then 1
  else if b0 = 194 ∧ 1 < n then (if b1 = 133 ∨ b1 = 160 then 2 else 0)
  else if n ≤ 2 then 0
  else if b0 = 225 ∧ b1 = 154 ∧ b2 = 128 then 3
  else if b0 = 226 ∧ b1 = 128 then (if (128 ≤ b2 ∧ b2 ≤ 138) ∨ b2 = 168 ∨ b2 = 169 ∨ b2 = 175 then 3 else 0)
  else if b0 = 226 ∧ b1 = 129 ∧ b2 = 159 then 3
  else if b0 = 227 ∧ b1 = 128 ∧ b2 = 128 then 3 else 0
theorem space_iff (r : Nat) : isSpaceR r = decide ((9 ≤ r ∧ r ≤ 13) ∨ r = 32 ∨ r = 133 ∨ r = 160 ∨ r = 5760 ∨ (8192 ≤ r ∧ r ≤ 8202) ∨ r = 8232 ∨ r = 8233 ∨ r = 8239 ∨ r = 8287 ∨ r = 12288) := by
  unfold isSpaceR
  rw [Bool.eq_iff_iff]
  simp only [Bool.or_eq_true, Bool.and_eq_true, decide_eq_true_eq, beq_iff_eq]
  omega
theorem spN_dec (n b0 b1 b2 b3 : Nat) (hn : 0 < n) (h0 : b0 < 256) (h1 : b1 < 256) (h2 : b2 < 256) (h3 : b3 < 256) :
    (isSpaceR (decodeN n b0 b1 b2 b3).1 = true ∧ (decodeN n b0 b1 b2 b3).2 = spN n b0 b1 b2 ∧ 0 < spN n b0 b1 b2) ∨ (isSpaceR (decodeN n b0 b1 b2 b3).1 = false ∧ spN n b0 b1 b2 = 0) := by
  rw [space_iff]
  rcases decodeN_shape n b0 b1 b2 b3 with ⟨c, e⟩ | ⟨c1, c2, c3, cv, e⟩ | ⟨c1, c2, c3, c4, cv, cs, e⟩ | ⟨c1, c2, c3, c4, c5, cv, cw, e⟩ | e
  · rw [e]
    by_cases q : b0 = 32 ∨ (9 ≤ b0 ∧ b0 ≤ 13)
    · left
      have es : spN n b0 b1 b2 = 1 := by unfold spN; rw [if_pos q]
      exact ⟨decide_eq_true (by omega), by rw [es], by omega⟩
    · right
      refine ⟨decide_eq_false (by omega), ?_⟩
      unfold spN
      rw [if_neg q, if_neg (by omega), if_neg (show ¬ (b0 = 225 ∧ b1 = 154 ∧ b2 = 128) by omega), if_neg (show ¬ (b0 = 226 ∧ b1 = 128) by omega), if_neg (show ¬ (b0 = 226 ∧ b1 = 129 ∧ b2 = 159) by omega), if_neg (show ¬ (b0 = 227 ∧ b1 = 128 ∧ b2 = 128) by omega)]
      split <;> rfl
  · rw [e]
    by_cases q : b0 = 194 ∧ (b1 = 133 ∨ b1 = 160)
    · left
      have es : spN n b0 b1 b2 = 2 := by unfold spN; rw [if_neg (by omega), if_pos (by omega), if_pos q.2]
      exact ⟨decide_eq_true (by omega), by rw [es], by omega⟩
    · right
      refine ⟨decide_eq_false (by omega), ?_⟩
      unfold spN
      rw [if_neg (by omega)]
      by_cases q2 : b0 = 194 ∧ 1 < n
      · rw [if_pos q2, if_neg (by omega)]
      · rw [if_neg q2, if_neg (show ¬ (b0 = 225 ∧ b1 = 154 ∧ b2 = 128) by omega), if_neg (show ¬ (b0 = 226 ∧ b1 = 128) by omega), if_neg (show ¬ (b0 = 226 ∧ b1 = 129 ∧ b2 = 159) by omega), if_neg (show ¬ (b0 = 227 ∧ b1 = 128 ∧ b2 = 128) by omega)]
        split <;> rfl
  · rw [e]
    have key : spN n b0 b1 b2 = if (b0 = 225 ∧ b1 = 154 ∧ b2 = 128) ∨ (b0 = 226 ∧ b1 = 128 ∧ ((128 ≤ b2 ∧ b2 ≤ 138) ∨ b2 = 168 ∨ b2 = 169 ∨ b2 = 175)) ∨ (b0 = 226 ∧ b1 = 129 ∧ b2 = 159) ∨ (b0 = 227 ∧ b1 = 128 ∧ b2 = 128) then 3 else 0 := by
      unfold spN
      rw [if_neg (by omega), if_neg (by omega), if_neg (by omega)]
      repeat' split
      all_goals omega
    by_cases q : (b0 = 225 ∧ b1 = 154 ∧ b2 = 128) ∨ (b0 = 226 ∧ b1 = 128 ∧ ((128 ≤ b2 ∧ b2 ≤ 138) ∨ b2 = 168 ∨ b2 = 169 ∨ b2 = 175)) ∨ (b0 = 226 ∧ b1 = 129 ∧ b2 = 159) ∨ (b0 = 227 ∧ b1 = 128 ∧ b2 = 128)
    · left
      rw [key, if_pos q]
      exact ⟨decide_eq_true (by omega), rfl, by omega⟩
    · right
      rw [key, if_neg q]
      exact ⟨decide_eq_false (by omega), rfl⟩
  · rw [e]
    right
    refine ⟨decide_eq_false (by omega), ?_⟩
    unfold spN
    rw [if_neg (by omega), if_neg (by omega), if_neg (show ¬ (b0 = 225 ∧ b1 = 154 ∧ b2 = 128) by omega), if_neg (show ¬ (b0 = 226 ∧ b1 = 128) by omega), if_neg (show ¬ (b0 = 226 ∧ b1 = 129 ∧ b2 = 159) by omega), if_neg (show ¬ (b0 = 227 ∧ b1 = 128 ∧ b2 = 128) by omega)]
    split <;> rfl
  · right
    rw [e]
    refine ⟨by decide, ?_⟩
    have k2 : ¬ (b0 = 194 ∧ 1 < n ∧ (b1 = 133 ∨ b1 = 160)) := by
      intro h
      unfold decodeN at e
      rw [if_neg (by omega), if_pos (by omega), if_pos (by omega)] at e
      injection e with e1 e2
      omega
    have k3 : ¬ (2 < n ∧ ((b0 = 225 ∧ b1 = 154 ∧ b2 = 128) ∨ (b0 = 226 ∧ b1 = 128 ∧ ((128 ≤ b2 ∧ b2 ≤ 138) ∨ b2 = 168 ∨ b2 = 169 ∨ b2 = 175)) ∨ (b0 = 226 ∧ b1 = 129 ∧ b2 = 159) ∨ (b0 = 227 ∧ b1 = 128 ∧ b2 = 128))) := by
      intro h
      unfold decodeN at e
      rw [if_neg (by omega), if_neg (by omega), if_pos (by omega), if_pos (by omega)] at e
      injection e with e1 e2
      omega
    have k1 : ¬ (b0 = 32 ∨ (9 ≤ b0 ∧ b0 ≤ 13)) := by
      intro h
      unfold decodeN at e
      rw [if_pos (by omega)] at e
      injection e with e1 e2
      omega
    unfold spN
    rw [if_neg k1]
    repeat' split
    all_goals omega
end Go.Proofs.YtnbfphjkpicajaaDoor
