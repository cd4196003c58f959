/-
  Plain: mapping the ASCII letters of a text, rune by rune (n001_98).
-/
import Derived.Test.YtjflnoghecnigaaDoorUni
import Derived.Lib.MapLaws
import Derived.Lib.TrimAscii
namespace Go.Proofs.YtjflnoghecnigaaDoor
set_option linter.unusedVariables false
open Go.Lib
/-- A function on runes that stays within ASCII there and leaves every other rune. -/
def Asc (f : Int → Int) : Prop := (∀ x : Nat, x < 128 → 0 ≤ f x ∧ f x < 128) ∧ ∀ x : Nat, 128 ≤ x → f x = x
def up (x : Int) : Int := if 97 ≤ x ∧ x ≤ 122 then x - 32 else x
def dn (x : Int) : Int := if 65 ≤ x ∧ x ≤ 90 then x + 32 else x
theorem up_asc : Asc up := by
  refine ⟨fun x hx => ?_, fun x hx => ?_⟩
  · unfold up
    split <;> omega
  · unfold up
    rw [if_neg (by omega)]
theorem dn_asc : Asc dn := by
  refine ⟨fun x hx => ?_, fun x hx => ?_⟩
  · unfold dn
    split <;> omega
  · unfold dn
    rw [if_neg (by omega)]
def mapB (f : Int → Int) (b : UInt8) : UInt8 := (f b.toNat).toNat.toUInt8
theorem mapB_nat {f : Int → Int} (hf : Asc f) {b : UInt8} (hb : b.toNat < 128) : ((mapB f b).toNat : Int) = f b.toNat := by
  have h := hf.1 b.toNat hb
  unfold mapB
  obtain ⟨m, hm⟩ : ∃ m : Nat, f b.toNat = m := ⟨(f b.toNat).toNat, by omega⟩
  rw [hm] at h ⊢
  have : (Nat.toUInt8 m).toNat = m := by
    show (UInt8.ofNat m).toNat = m
    simp
    omega
  rw [Int.toNat_natCast, this]
theorem mapD_ascii {f : Int → Int} (hf : Asc f) (b : UInt8) (t : List UInt8) (hb : b.toNat < 128) : mapD f (b :: t) = mapB f b :: mapD f t := by
  have h := hf.1 b.toNat hb
  rw [mapD_step f _ (by simp), decodeL_ascii b t hb]
  show (if 0 ≤ f b.toNat then encodeRune (f b.toNat) else []) ++ mapD f t = _
  rw [if_pos h.1]
  unfold encodeRune
  rw [encodeRuneZ_one h.1 (by omega)]
  rfl
def badB : List UInt8 := [239, 191, 189]
theorem mapD_bad {f : Int → Int} (hf : Asc f) (l : List UInt8) (hne : l ≠ []) (h : decodeL l = (65533, 1)) : mapD f l = badB ++ mapD f (l.drop 1) := by
  rw [mapD_step f _ hne, h]
  show (if 0 ≤ f ((65533 : Nat) : Int) then encodeRune (f ((65533 : Nat) : Int)) else []) ++ mapD f (l.drop 1) = _
  rw [hf.2 65533 (by omega), if_pos (by omega)]
  rfl
/-- Bytes of one rune that is no ASCII, whatever follows them. -/
def Val (p : List UInt8) : Prop := p ≠ [] ∧ ∃ r : Nat, 128 ≤ r ∧ 2 ≤ p.length ∧ ∀ t, decodeL (p ++ t) = (r, p.length)
theorem mapD_val {f : Int → Int} (hf : Asc f) (p t : List UInt8) (hp : Val p) : mapD f (p ++ t) = p ++ mapD f t := by
  obtain ⟨hne, r, hr, h2, hd⟩ := hp
  have hx := mapD_same f (p ++ t) (by simp [hne]) (by rw [hd t]; exact hf.2 r hr) (by rw [hd t]; intro h; have := h.2; simp at this; omega)
  rw [hd t] at hx
  rw [hx]
  simp
theorem bad_val : Val badB := by
  refine ⟨by decide, 65533, by omega, by decide, fun t => ?_⟩
  rw [decodeL_N]
  unfold decodeN
  have e0 : ((badB ++ t).getD 0 0).toNat = 239 := rfl
  have e1 : ((badB ++ t).getD 1 0).toNat = 191 := rfl
  have e2 : ((badB ++ t).getD 2 0).toNat = 189 := rfl
  have el : (badB ++ t).length = 3 + t.length := by simp [badB]; omega
  rw [e0, e1, e2, el]
  rw [if_neg (by decide), if_neg (by omega), if_pos (by omega), if_pos (by omega)]
  rfl
/-- How a text begins. -/
theorem start_cases (l : List UInt8) (hne : l ≠ []) : (∃ b t, l = b :: t ∧ b.toNat < 128) ∨ decodeL l = (65533, 1) ∨ (∃ p t, l = p ++ t ∧ Val p ∧ p.length = (decodeL l).2) := by
  cases l with
  | nil => exact absurd rfl hne
  | cons b t =>
    by_cases hb : b.toNat < 128
    · exact .inl ⟨b, t, rfl, hb⟩
    · right
      have hN := decodeL_N (b :: t)
      have k : ((b :: t).getD 0 0) = b := rfl
      rw [k] at hN
      rcases decodeN_shape (b :: t).length b.toNat ((b :: t).getD 1 0).toNat ((b :: t).getD 2 0).toNat ((b :: t).getD 3 0).toNat with ⟨c, e⟩ | ⟨c1, c2, c3, cv, e⟩ | ⟨c1, c2, c3, c4, cv, cs, e⟩ | ⟨c1, c2, c3, c4, c5, cv, cw, e⟩ | e
      · exact absurd c hb
      · right
        obtain ⟨x, t1, rfl⟩ : ∃ x t1, t = x :: t1 := by
          cases t with
          | nil => simp at c2
          | cons x t1 => exact ⟨x, t1, rfl⟩
        have c3' : x.toNat / 64 = 2 := c3
        have cv' : b.toNat % 32 * 64 + x.toNat % 64 ≥ 128 := cv
        refine ⟨[b, x], t1, rfl, ⟨by simp, _, cv', by simp, fun u => ?_⟩, by rw [hN, e]; rfl⟩
        rw [decodeL_N]
        show decodeN ([b, x] ++ u).length b.toNat x.toNat _ _ = _
        have y : 1 < ([b, x] ++ u).length := by simp
        unfold decodeN
        rw [if_neg hb, if_pos ⟨c1, y, c3'⟩, if_pos cv']
        rfl
      · right
        obtain ⟨x, y, t1, rfl⟩ : ∃ x y t1, t = x :: y :: t1 := by
          clear hN k e cv cs c3 c4
          rcases t with _ | ⟨x, _ | ⟨y, t1⟩⟩
          · simp at c2
          · simp at c2
          · exact ⟨x, y, t1, rfl⟩
        have c3' : x.toNat / 64 = 2 := c3
        have c4' : y.toNat / 64 = 2 := c4
        have cv' : 2048 ≤ b.toNat % 16 * 4096 + x.toNat % 64 * 64 + y.toNat % 64 := cv
        have cs' : b.toNat % 16 * 4096 + x.toNat % 64 * 64 + y.toNat % 64 < 55296 ∨ 57344 ≤ b.toNat % 16 * 4096 + x.toNat % 64 * 64 + y.toNat % 64 := cs
        refine ⟨[b, x, y], t1, rfl, ⟨by simp, _, Nat.le_trans (by decide) cv', by simp, fun u => ?_⟩, by rw [hN, e]; rfl⟩
        rw [decodeL_N]
        show decodeN ([b, x, y] ++ u).length b.toNat x.toNat y.toNat _ = _
        have y1 : 2 < ([b, x, y] ++ u).length := by simp
        unfold decodeN
        rw [if_neg hb, if_neg (by omega), if_pos ⟨c1, ⟨by omega, c3'⟩, ⟨y1, c4'⟩⟩, if_pos ⟨cv', by clear e hN cv cs; omega⟩]
        rfl
      · right
        obtain ⟨x, y, z, t1, rfl⟩ : ∃ x y z t1, t = x :: y :: z :: t1 := by
          clear hN k e cv cw c3 c4 c5
          rcases t with _ | ⟨x, _ | ⟨y, _ | ⟨z, t1⟩⟩⟩
          · simp at c2
          · simp at c2
          · simp at c2
          · exact ⟨x, y, z, t1, rfl⟩
        have c3' : x.toNat / 64 = 2 := c3
        have c4' : y.toNat / 64 = 2 := c4
        have c5' : z.toNat / 64 = 2 := c5
        have cv' : 65536 ≤ b.toNat % 8 * 262144 + x.toNat % 64 * 4096 + y.toNat % 64 * 64 + z.toNat % 64 := cv
        have cw' : b.toNat % 8 * 262144 + x.toNat % 64 * 4096 + y.toNat % 64 * 64 + z.toNat % 64 ≤ 1114111 := cw
        refine ⟨[b, x, y, z], t1, rfl, ⟨by simp, _, Nat.le_trans (by decide) cv', by simp, fun u => ?_⟩, by rw [hN, e]; rfl⟩
        rw [decodeL_N]
        show decodeN ([b, x, y, z] ++ u).length b.toNat x.toNat y.toNat z.toNat = _
        have y1 : 3 < ([b, x, y, z] ++ u).length := by simp
        unfold decodeN
        rw [if_neg hb, if_neg (by omega), if_neg (by omega), if_pos ⟨c1, ⟨by omega, c3'⟩, ⟨by omega, c4'⟩, ⟨y1, c5'⟩⟩, if_pos ⟨cv', .inr ⟨Nat.le_trans (by decide) cv', cw'⟩⟩]
        rfl
      · left
        rw [hN, e]
theorem mapB_lt {f : Int → Int} (hf : Asc f) {b : UInt8} (hb : b.toNat < 128) : (mapB f b).toNat < 128 := by
  have h1 := mapB_nat hf hb
  have h2 := hf.1 b.toNat hb
  omega
theorem up_idem (g : Int → Int) (hg : Asc g) (hug : ∀ x : Nat, x < 128 → up (g x) = up x) : ∀ n (l : List UInt8), l.length ≤ n → mapD up (mapD g l) = mapD up l
  | 0, l, h => by
    obtain rfl : l = [] := List.eq_nil_of_length_eq_zero (by omega)
    rfl
  | n + 1, l, h => by
    by_cases hne : l = []
    · subst hne
      rfl
    · rcases start_cases l hne with ⟨b, t, rfl, hb⟩ | hd | ⟨p, t, rfl, hp, _⟩
      · have hm := mapB_nat hg hb
        rw [mapD_ascii hg b t hb, mapD_ascii up_asc _ _ (mapB_lt hg hb), mapD_ascii up_asc b t hb, up_idem g hg hug n t (by simp at h; omega)]
        congr 1
        unfold mapB at hm ⊢
        rw [hm, hug b.toNat hb]
      · have hl : 0 < l.length := List.length_pos_iff.2 hne
        rw [mapD_bad hg l hne hd, mapD_val up_asc _ _ bad_val, mapD_bad up_asc l hne hd, up_idem g hg hug n _ (by rw [List.length_drop]; omega)]
      · have h2 : 2 ≤ p.length := by obtain ⟨_, _, _, h2, _⟩ := hp; exact h2
        rw [mapD_val hg p t hp, mapD_val up_asc p _ hp, mapD_val up_asc p t hp, up_idem g hg hug n t (by simp at h; omega)]
theorem up_up (l : List UInt8) : mapD up (mapD up l) = mapD up l := up_idem up up_asc (fun x hx => by unfold up; repeat' split <;> omega) l.length l (Nat.le_refl _)
theorem up_dn (l : List UInt8) : mapD up (mapD dn l) = mapD up l := up_idem dn dn_asc (fun x hx => by unfold up dn; repeat' split <;> omega) l.length l (Nat.le_refl _)
theorem mapD_len (f : Int → Int) (hf : Asc f) : ∀ n (l : List UInt8), l.length ≤ n → (mapD f l).length ≤ 3 * l.length
  | 0, l, h => by
    obtain rfl : l = [] := List.eq_nil_of_length_eq_zero (by omega)
    exact Nat.le_refl _
  | n + 1, l, h => by
    by_cases hne : l = []
    · subst hne
      exact Nat.le_refl _
    · rcases start_cases l hne with ⟨b, t, rfl, hb⟩ | hd | ⟨p, t, rfl, hp, _⟩
      · have := mapD_len f hf n t (by simp at h; omega)
        rw [mapD_ascii hf b t hb, List.length_cons, List.length_cons]
        omega
      · have hl : 0 < l.length := List.length_pos_iff.2 hne
        have := mapD_len f hf n (l.drop 1) (by rw [List.length_drop]; omega)
        rw [List.length_drop] at this
        rw [mapD_bad hf l hne hd, List.length_append]
        show 3 + _ ≤ _
        omega
      · have h2 : 2 ≤ p.length := by obtain ⟨_, _, _, h2, _⟩ := hp; exact h2
        have := mapD_len f hf n t (by simp at h; omega)
        rw [mapD_val hf p t hp, List.length_append, List.length_append]
        omega
end Go.Proofs.YtjflnoghecnigaaDoor
