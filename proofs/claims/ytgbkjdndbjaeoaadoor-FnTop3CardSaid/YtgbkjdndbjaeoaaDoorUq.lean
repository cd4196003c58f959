/-
  Plain: what the law's reader makes of the escaped text: the string with each invalid byte replaced (n001_1001).
-/
import Derived.Test.YtgbkjdndbjaeoaaDoorEsc
namespace Go.Proofs.YtgbkjdndbjaeoaaDoor
set_option linter.unusedVariables false
/-- The bytes at place i, an invalid one replaced. -/
def fixP (s : ByteArray) (i : Nat) : List UInt8 :=
  if (s.get! i).toNat < 128 then [s.get! i] else if seqS s i = 0 then [239, 191, 189] else cutN s i (seqS s i)
def fx (s : ByteArray) : Nat → Nat → List UInt8
  | 0, _ => []
  | f + 1, i => if i < s.size then fixP s i ++ fx s f (i + (piece s i).2) else []
theorem fx_fuel (s : ByteArray) : ∀ f g i, s.size - i ≤ f → s.size - i ≤ g → fx s f i = fx s g i
  | 0, 0, _, _, _ => rfl
  | 0, g + 1, i, h, _ => by
    unfold fx
    rw [if_neg (by omega)]
  | f + 1, 0, i, _, h => by
    unfold fx
    rw [if_neg (by omega)]
  | f + 1, g + 1, i, hf, hg => by
    unfold fx
    have := piece_pos s i
    by_cases h : i < s.size
    · rw [if_pos h, if_pos h, fx_fuel s f g _ (by omega) (by omega)]
    · rw [if_neg h, if_neg h]
/-- The string from place i on, each invalid byte replaced by U+FFFD. -/
def fixT (s : ByteArray) (i : Nat) : List UInt8 := fx s s.size i
theorem fix_step (s : ByteArray) (i : Nat) (h : i < s.size) : fixT s i = fixP s i ++ fixT s (i + (piece s i).2) := by
  have h0 := piece_pos s i
  unfold fixT
  rw [fx_fuel s s.size (s.size + 1) i (by omega) (by omega)]
  show (if i < s.size then _ else _) = _
  rw [if_pos h]
theorem fix_end (s : ByteArray) : fixT s s.size = [] := by
  unfold fixT
  rw [fx_fuel s s.size 0 s.size (by omega) (by omega)]
  rfl
def escOf (e x : UInt8) : Prop := (e = 34 ∧ x = 34) ∨ (e = 92 ∧ x = 92) ∨ (e = 98 ∧ x = 8) ∨ (e = 102 ∧ x = 12) ∨ (e = 110 ∧ x = 10) ∨ (e = 114 ∧ x = 13) ∨ (e = 116 ∧ x = 9)
/-- The reader, at the text T, adds the bytes R and ends at the text's last quote. -/
def uq (Z : List UInt8) : Nat → List UInt8 → List UInt8 → Prop
  | 0, _, _ => False
  | f + 1, T, R => (T = 34 :: Z ∧ R = []) ∨
    (∃ c t R', T = c :: t ∧ R = c :: R' ∧ 32 ≤ c.toNat ∧ c.toNat ≠ 34 ∧ c.toNat ≠ 92 ∧ uq Z f t R') ∨
    (∃ e x t R', T = 92 :: e :: t ∧ R = x :: R' ∧ escOf e x ∧ uq Z f t R') ∨
    (∃ a b x t R', T = 92 :: 117 :: 48 :: 48 :: a :: b :: t ∧ R = x :: R' ∧ x.toNat < 128 ∧ a.toNat = hexOf (x.toNat / 16) ∧ b.toNat = hexOf (x.toNat % 16) ∧ uq Z f t R') ∨
    (∃ t R', T = 92 :: 117 :: 102 :: 102 :: 102 :: 100 :: t ∧ R = 239 :: 191 :: 189 :: R' ∧ uq Z f t R')
theorem uq_plain {Z : List UInt8} : ∀ (p : List UInt8) (f : Nat) (t R : List UInt8), (∀ b ∈ p, 32 ≤ b.toNat ∧ b.toNat ≠ 34 ∧ b.toNat ≠ 92) → uq Z f t R → uq Z (f + p.length) (p ++ t) (p ++ R)
  | [], _, _, _, _, h => h
  | b :: p, f, t, R, hp, h => by
    have hb := hp b (.head _)
    exact .inr (.inl ⟨b, p ++ t, p ++ R, rfl, rfl, hb.1, hb.2.1, hb.2.2, uq_plain p f t R (fun c hc => hp c (.tail _ hc)) h⟩)
theorem uq_esc {Z : List UInt8} {f : Nat} {t R : List UInt8} (e x : UInt8) (h : escOf e x) (hu : uq Z f t R) : uq Z (f + 1) (92 :: e :: t) (x :: R) := .inr (.inr (.inl ⟨e, x, t, R, rfl, rfl, h, hu⟩))
theorem eq_ofNat {b : UInt8} {n : Nat} (h : b.toNat = n) : b = UInt8.ofNat n := by
  rw [← h]
  simp
theorem uq_escA {Z : List UInt8} {f : Nat} {t R : List UInt8} (b : UInt8) (hb : b.toNat < 128) (hu : uq Z f t R) : ∃ g, uq Z g ((escA b.toNat).map UInt8.ofNat ++ t) (b :: R) := by
  obtain ⟨c, hc⟩ : ∃ c, c = b.toNat := ⟨_, rfl⟩
  have h1 := hexOf_bd (c / 16) (by omega)
  have h2 := hexOf_bd (c % 16) (by omega)
  rw [← hc]
  unfold escA
  by_cases c0 : c = 34
  · rw [if_pos c0, eq_ofNat (hc.symm.trans c0)]; exact ⟨_, uq_esc 34 34 (.inl ⟨rfl, rfl⟩) hu⟩
  rw [if_neg c0]
  by_cases c1 : c = 92
  · rw [if_pos c1, eq_ofNat (hc.symm.trans c1)]; exact ⟨_, uq_esc 92 92 (.inr (.inl ⟨rfl, rfl⟩)) hu⟩
  rw [if_neg c1]
  by_cases c2 : c = 8
  · rw [if_pos c2, eq_ofNat (hc.symm.trans c2)]; exact ⟨_, uq_esc 98 8 (.inr (.inr (.inl ⟨rfl, rfl⟩))) hu⟩
  rw [if_neg c2]
  by_cases c3 : c = 12
  · rw [if_pos c3, eq_ofNat (hc.symm.trans c3)]; exact ⟨_, uq_esc 102 12 (.inr (.inr (.inr (.inl ⟨rfl, rfl⟩)))) hu⟩
  rw [if_neg c3]
  by_cases c4 : c = 10
  · rw [if_pos c4, eq_ofNat (hc.symm.trans c4)]; exact ⟨_, uq_esc 110 10 (.inr (.inr (.inr (.inr (.inl ⟨rfl, rfl⟩))))) hu⟩
  rw [if_neg c4]
  by_cases c5 : c = 13
  · rw [if_pos c5, eq_ofNat (hc.symm.trans c5)]; exact ⟨_, uq_esc 114 13 (.inr (.inr (.inr (.inr (.inr (.inl ⟨rfl, rfl⟩)))))) hu⟩
  rw [if_neg c5]
  by_cases c6 : c = 9
  · rw [if_pos c6, eq_ofNat (hc.symm.trans c6)]; exact ⟨_, uq_esc 116 9 (.inr (.inr (.inr (.inr (.inr (.inr ⟨rfl, rfl⟩)))))) hu⟩
  rw [if_neg c6]
  by_cases c7 : c < 32 ∨ c = 127
  · rw [if_pos c7]
    refine ⟨f + 1, .inr (.inr (.inr (.inl ⟨UInt8.ofNat (hexOf (c / 16)), UInt8.ofNat (hexOf (c % 16)), b, t, R, rfl, rfl, hb, ?_, ?_, hu⟩)))⟩
    · rw [← hc]
      exact ofNat_toNat (by omega)
    · rw [← hc]
      exact ofNat_toNat (by omega)
  · rw [if_neg c7]
    refine ⟨f + 1, .inr (.inl ⟨UInt8.ofNat c, t, R, rfl, ?_, ?_, ?_, ?_, hu⟩)⟩
    · rw [eq_ofNat hc.symm]
    all_goals rw [ofNat_toNat (by omega)]
    all_goals omega
theorem uq_tail (Z : List UInt8) (s : ByteArray) : ∀ n k, s.size - k ≤ n → k ≤ s.size → ∃ f, uq Z f (tail s k ++ 34 :: Z) (fixT s k)
  | 0, k, hn, hk => by
    obtain rfl : k = s.size := by omega
    rw [tail_end, fix_end]
    exact ⟨1, .inl ⟨rfl, rfl⟩⟩
  | n + 1, k, hn, hk => by
    by_cases hlt : k < s.size
    · have hp := piece_pos s k
      have hle := piece_le s k hlt
      obtain ⟨f, hf⟩ := uq_tail Z s n (k + (piece s k).2) (by omega) hle
      rw [tail_step s k hlt, fix_step s k hlt, List.append_assoc]
      by_cases hb : (s.get! k).toNat < 128
      · have h5 : (piece s k).1 = (escA (s.get! k).toNat).map UInt8.ofNat := by unfold piece; rw [if_pos hb]
        have hfp : fixP s k = [s.get! k] := by unfold fixP; rw [if_pos hb]
        rw [h5, hfp]
        exact uq_escA (s.get! k) hb hf
      · by_cases h0 : seqS s k = 0
        · have h5 : (piece s k).1 = [92, 117, 102, 102, 102, 100] := by unfold piece; rw [if_neg hb, if_pos h0]
          have hfp : fixP s k = [239, 191, 189] := by unfold fixP; rw [if_neg hb, if_pos h0]
          rw [h5, hfp]
          exact ⟨f + 1, .inr (.inr (.inr (.inr ⟨_, _, rfl, rfl, hf⟩)))⟩
        · have h5 : (piece s k).1 = cutN s k (seqS s k) := by unfold piece; rw [if_neg hb, if_neg h0]
          have h6 : (piece s k).2 = seqS s k := by unfold piece; rw [if_neg hb, if_neg h0]
          have h3 : k + seqS s k ≤ s.size := by rw [← h6]; exact hle
          have hfp : fixP s k = cutN s k (seqS s k) := by unfold fixP; rw [if_neg hb, if_neg h0]
          rw [h5, hfp]
          refine ⟨_, uq_plain _ f _ _ ?_ hf⟩
          intro b hb2
          obtain ⟨t, ht⟩ := List.mem_iff_getElem?.1 hb2
          have hlt2 : t < seqS s k := by
            have := (List.getElem?_eq_some_iff.1 ht).1
            rw [cutN_len s k _ h3] at this
            exact this
          rw [cutN_at s k _ h3 t hlt2] at ht
          have h7 := seq_ge s k (by omega) t hlt2
          obtain rfl : s.get! (k + t) = b := by simpa using ht
          exact ⟨by omega, by omega, by omega⟩
    · obtain rfl : k = s.size := by omega
      rw [tail_end, fix_end]
      exact ⟨1, .inl ⟨rfl, rfl⟩⟩
end Go.Proofs.YtgbkjdndbjaeoaaDoor
