/-
  Plain: blanks before a text shift the first byte that counts by their number (n001_85).
-/
import Derived.Test.YtiallbkcpobkgaaPlain
namespace Go.Proofs.Ytiallbkcpobkgaa
set_option linter.unusedVariables false
theorem byteAt_right (a b : ByteArray) (i : Nat) : byteAt (a ++ b) (a.size + i) = byteAt b i := by
  unfold byteAt
  by_cases h : i < b.size
  · rw [dif_pos h, dif_pos (by rw [ByteArray.size_append]; omega), ByteArray.getElem_append_right (Nat.le_add_right _ _)]
    congr 2; omega
  · rw [dif_neg h, dif_neg (by rw [ByteArray.size_append]; omega)]
theorem byteAt_left (a b : ByteArray) (i : Nat) (h : i < a.size) : byteAt (a ++ b) i = byteAt a i := by
  unfold byteAt
  rw [dif_pos h, dif_pos (by rw [ByteArray.size_append]; omega), ByteArray.getElem_append_left h]
theorem scan_shift (b c : Nat → Nat) (k : Nat) (hb : ∀ i, c (k + i) = b i) : ∀ (f e : Nat) (p q : Bool), scan c f (k + e) p q = (k + (scan b f e p q).1, (scan b f e p q).2)
  | 0, e, p, q => rfl
  | f + 1, e, p, q => by
    have ih := fun p q => scan_shift b c k hb f (e + 1) p q
    have he : k + e + 1 = k + (e + 1) := by omega
    rw [scan, scan, hb e, he]
    by_cases h0 : b e = 0
    · rw [if_pos h0, if_pos h0]
    · rw [if_neg h0, if_neg h0]
      by_cases h1 : b e = 10 ∨ b e = 13
      · rw [if_pos h1, if_pos h1]
        by_cases h2 : (p || (decide (b e = 10) && q)) = true
        · rw [if_pos h2, if_pos h2]; exact ih _ _
        · rw [if_neg h2, if_neg h2]
      · rw [if_neg h1, if_neg h1]
        by_cases h2 : b e = 92
        · rw [if_pos h2, if_pos h2]; exact ih _ _
        · rw [if_neg h2, if_neg h2]; exact ih _ _
theorem cend_shift (a b : ByteArray) (e : Nat) : cend (a ++ b) (a.size + e) = (a.size + (cend b e).1, (cend b e).2) := by
  unfold cend
  rw [← scan_shift (byteAt b) (byteAt (a ++ b)) a.size (byteAt_right a b), ByteArray.size_append, show a.size + b.size - (a.size + e) = b.size - e by omega]
theorem NX_shift (a b : ByteArray) : ∀ (n i : Nat), b.size - i ≤ n → NX (a ++ b) (a.size + i) = ((NX b i).1, (NX b i).2.1, a.size + (NX b i).2.2) := by
  have hsz : (a ++ b).size = a.size + b.size := ByteArray.size_append
  intro n
  induction n with
  | zero =>
    intro i hi
    rw [NX_end _ _ (by omega), NX_end b i (by omega), hsz]
  | succ n ih =>
    intro i hi
    by_cases hlt : i < b.size
    · have hb := byteAt_right a b i
      by_cases h35 : byteAt b i = 35
      · have hc := cend_shift a b (i + 1)
        cases hx : (cend b (i + 1)).2 with
        | true => rw [NX_stop b i h35 hx, NX_stop (a ++ b) _ (by rw [hb]; exact h35) (by rw [Nat.add_assoc, hc]; exact hx), Nat.add_assoc, hc]
        | false =>
          rw [NX_go b i h35 hx, NX_go (a ++ b) _ (by rw [hb]; exact h35) (by rw [Nat.add_assoc, hc]; exact hx), Nat.add_assoc, hc]
          have := (cend_ok b (i + 1) (by omega)).1
          exact ih _ (by omega)
      · cases hw : white (byteAt b i) with
        | true =>
          rw [NX_white b i hlt h35 hw, NX_white (a ++ b) _ (by omega) (by rw [hb]; exact h35) (by rw [hb]; exact hw), Nat.add_assoc]
          exact ih _ (by omega)
        | false => rw [NX_hit b i hlt h35 hw, NX_hit (a ++ b) _ (by omega) (by rw [hb]; exact h35) (by rw [hb]; exact hw), hb, Nat.add_assoc]
    · rw [NX_end _ _ (by omega), NX_end b i (by omega), hsz]
theorem white_ne (c : Nat) (h : white c = true) : c ≠ 35 := by
  rintro rfl; exact absurd h (by decide)
theorem NX_prefix (a b : ByteArray) (h : ∀ i, i < a.size → white (byteAt a i) = true) : ∀ (n i : Nat), i + n = a.size → NX (a ++ b) i = NX (a ++ b) a.size
  | 0, i, e => by rw [show i = a.size by omega]
  | n + 1, i, e => by
    have hsz : (a ++ b).size = a.size + b.size := ByteArray.size_append
    have hb := byteAt_left a b i (by omega)
    have hw := h i (by omega)
    rw [NX_white (a ++ b) i (by omega) (by rw [hb]; exact white_ne _ hw) (by rw [hb]; exact hw)]
    exact NX_prefix a b h n (i + 1) (by omega)
theorem NX_blank (a b : ByteArray) (h : ∀ i, i < a.size → white (byteAt a i) = true) : NX (a ++ b) 0 = ((NX b 0).1, (NX b 0).2.1, a.size + (NX b 0).2.2) := by
  rw [NX_prefix a b h a.size 0 (by omega)]
  exact NX_shift a b b.size 0 (by omega)
theorem NX_le (s : ByteArray) : ∀ (n i : Nat), s.size - i ≤ n → (NX s i).2.2 ≤ s.size := by
  intro n
  induction n with
  | zero => intro i hi; rw [NX_end _ _ (by omega)]; exact Nat.le_refl _
  | succ n ih =>
    intro i hi
    by_cases hlt : i < s.size
    · by_cases h35 : byteAt s i = 35
      · have hc := cend_ok s (i + 1) (by omega)
        cases hx : (cend s (i + 1)).2 with
        | true => rw [NX_stop s i h35 hx]; exact hc.2.1
        | false =>
          rw [NX_go s i h35 hx]
          have := hc.1
          exact ih _ (by omega)
      · cases hw : white (byteAt s i) with
        | true => rw [NX_white s i hlt h35 hw]; exact ih _ (by omega)
        | false => rw [NX_hit s i hlt h35 hw]; exact hlt
    · rw [NX_end _ _ (by omega)]; exact Nat.le_refl _
end Go.Proofs.Ytiallbkcpobkgaa
