/-
  Plain: the escaped text is one token: printable bytes alone, valid UTF-8, no quote but an escaped one (n001_83).
-/
import Derived.Test.YtfbpffgcofdciaaDoorLen
namespace Go.Proofs.YtfbpffgcofdciaaDoor
set_option linter.unusedVariables false
theorem contB_ge {s : ByteArray} {i lo hi : Nat} (h : contB s i lo hi = true) : i < s.size ∧ lo ≤ (s.get! i).toNat := by
  unfold contB at h
  simp only [Bool.and_eq_true, decide_eq_true_eq] at h
  exact ⟨h.1, h.2.1⟩
def lo3 (b : Nat) : Nat := if b = 224 then 160 else 128
def hi3 (b : Nat) : Nat := if b = 237 then 159 else 191
def lo4 (b : Nat) : Nat := if b = 240 then 144 else 128
def hi4 (b : Nat) : Nat := if b = 244 then 143 else 191
theorem lo3_ge (b : Nat) : 128 ≤ lo3 b := by
  unfold lo3
  split <;> omega
theorem lo4_ge (b : Nat) : 128 ≤ lo4 b := by
  unfold lo4
  split <;> omega
theorem seqS_def (s : ByteArray) (i : Nat) : seqS s i =
    if 194 ≤ (s.get! i).toNat ∧ (s.get! i).toNat ≤ 223 then (if contB s (i + 1) 128 191 = true then 2 else 0)
    else if 224 ≤ (s.get! i).toNat ∧ (s.get! i).toNat ≤ 239 then (if (contB s (i + 1) (lo3 (s.get! i).toNat) (hi3 (s.get! i).toNat) && contB s (i + 2) 128 191) = true then 3 else 0)
    else if 240 ≤ (s.get! i).toNat ∧ (s.get! i).toNat ≤ 244 then (if (contB s (i + 1) (lo4 (s.get! i).toNat) (hi4 (s.get! i).toNat) && contB s (i + 2) 128 191 && contB s (i + 3) 128 191) = true then 4 else 0)
    else 0 := rfl
/-- The bytes of a sequence are no ASCII bytes. -/
theorem seq_ge (s : ByteArray) (k : Nat) (h128 : 128 ≤ (s.get! k).toNat) (t : Nat) (ht : t < seqS s k) : 128 ≤ (s.get! (k + t)).toNat := by
  have g3 := lo3_ge (s.get! k).toNat
  have g4 := lo4_ge (s.get! k).toNat
  have key : ∀ n, n = seqS s k → t < n → 128 ≤ (s.get! (k + t)).toNat := by
    intro n hn ht
    rw [seqS_def] at hn
    by_cases c2 : 194 ≤ (s.get! k).toNat ∧ (s.get! k).toNat ≤ 223
    · rw [if_pos c2] at hn
      by_cases q : contB s (k + 1) 128 191 = true
      · rw [if_pos q] at hn
        rcases (show t = 0 ∨ t = 1 by omega) with rfl | rfl
        · exact h128
        · exact (contB_ge q).2
      · rw [if_neg q] at hn
        omega
    · rw [if_neg c2] at hn
      by_cases c3 : 224 ≤ (s.get! k).toNat ∧ (s.get! k).toNat ≤ 239
      · rw [if_pos c3] at hn
        by_cases q : (contB s (k + 1) (lo3 (s.get! k).toNat) (hi3 (s.get! k).toNat) && contB s (k + 2) 128 191) = true
        · rw [if_pos q] at hn
          simp only [Bool.and_eq_true] at q
          rcases (show t = 0 ∨ t = 1 ∨ t = 2 by omega) with rfl | rfl | rfl
          · exact h128
          · exact Nat.le_trans g3 (contB_ge q.1).2
          · exact (contB_ge q.2).2
        · rw [if_neg q] at hn
          omega
      · rw [if_neg c3] at hn
        by_cases c4 : 240 ≤ (s.get! k).toNat ∧ (s.get! k).toNat ≤ 244
        · rw [if_pos c4] at hn
          by_cases q : (contB s (k + 1) (lo4 (s.get! k).toNat) (hi4 (s.get! k).toNat) && contB s (k + 2) 128 191 && contB s (k + 3) 128 191) = true
          · rw [if_pos q] at hn
            simp only [Bool.and_eq_true] at q
            rcases (show t = 0 ∨ t = 1 ∨ t = 2 ∨ t = 3 by omega) with rfl | rfl | rfl | rfl
            · exact h128
            · exact Nat.le_trans g4 (contB_ge q.1.1).2
            · exact (contB_ge q.1.2).2
            · exact (contB_ge q.2).2
          · rw [if_neg q] at hn
            omega
        · rw [if_neg c4] at hn
          omega
  exact key _ rfl ht
/-- The same bytes elsewhere are the same sequence. -/
theorem seq_same (r s : ByteArray) (j k : Nat) (h0 : seqS s k ≠ 0) (hd : r.get! j = s.get! k) (hb : ∀ t, t < seqS s k → ∀ lo hi, contB r (j + t) lo hi = contB s (k + t) lo hi) : seqS r j = seqS s k := by
  obtain ⟨n, hn⟩ : ∃ n, n = seqS s k := ⟨_, rfl⟩
  rw [← hn] at hb h0 ⊢
  rw [seqS_def] at hn ⊢
  rw [hd]
  by_cases c2 : 194 ≤ (s.get! k).toNat ∧ (s.get! k).toNat ≤ 223
  · rw [if_pos c2] at hn ⊢
    by_cases q : contB s (k + 1) 128 191 = true
    · rw [if_pos q] at hn
      rw [hb 1 (by omega), if_pos q, hn]
    · rw [if_neg q] at hn
      omega
  · rw [if_neg c2] at hn ⊢
    by_cases c3 : 224 ≤ (s.get! k).toNat ∧ (s.get! k).toNat ≤ 239
    · rw [if_pos c3] at hn ⊢
      by_cases q : (contB s (k + 1) (lo3 (s.get! k).toNat) (hi3 (s.get! k).toNat) && contB s (k + 2) 128 191) = true
      · rw [if_pos q] at hn
        rw [hb 1 (by omega), hb 2 (by omega), if_pos q, hn]
      · rw [if_neg q] at hn
        omega
    · rw [if_neg c3] at hn ⊢
      by_cases c4 : 240 ≤ (s.get! k).toNat ∧ (s.get! k).toNat ≤ 244
      · rw [if_pos c4] at hn ⊢
        by_cases q : (contB s (k + 1) (lo4 (s.get! k).toNat) (hi4 (s.get! k).toNat) && contB s (k + 2) 128 191 && contB s (k + 3) 128 191) = true
        · rw [if_pos q] at hn
          rw [hb 1 (by omega), hb 2 (by omega), hb 3 (by omega), if_pos q, hn]
        · rw [if_neg q] at hn
          omega
      · rw [if_neg c4] at hn
        omega
theorem cutN_at (s : ByteArray) (k n : Nat) (h : k + n ≤ s.size) (t : Nat) (ht : t < n) : (cutN s k n)[t]? = some (s.get! (k + t)) := by
  unfold cutN
  rw [List.getElem?_take_of_lt ht, List.getElem?_drop, get_bang s (k + t) (by omega)]
  have hx : k + t < s.data.toList.length := by rw [Array.length_toList]; have : s.data.size = s.size := rfl; omega
  rw [List.getElem?_eq_getElem hx]
  rfl
theorem hexOf_bd (d : Nat) (h : d < 16) : 48 ≤ hexOf d ∧ hexOf d ≤ 102 ∧ hexOf d ≠ 92 := by
  unfold hexOf
  split <;> omega
/-- A piece: the escape of an ASCII byte, the replacement, or a sequence as it stands. -/
theorem piece_cases (s : ByteArray) (i : Nat) (hi : i < s.size) :
    ((piece s i).2 = 1 ∧ (piece s i).1 = (escA (s.get! i).toNat).map UInt8.ofNat ∧ (s.get! i).toNat < 128) ∨ ((piece s i).2 = 1 ∧ (piece s i).1 = [92, 117, 102, 102, 102, 100]) ∨
    (128 ≤ (s.get! i).toNat ∧ seqS s i ≠ 0 ∧ i + seqS s i ≤ s.size ∧ (piece s i).2 = seqS s i ∧ (piece s i).1 = cutN s i (seqS s i)) := by
  have hle := piece_le s i hi
  unfold piece at hle ⊢
  by_cases h : (s.get! i).toNat < 128
  · rw [if_pos h]
    exact .inl ⟨rfl, rfl, h⟩
  · rw [if_neg h] at hle ⊢
    by_cases h2 : seqS s i = 0
    · rw [if_pos h2]
      exact .inr (.inl ⟨rfl, rfl⟩)
    · rw [if_neg h2] at hle ⊢
      exact .inr (.inr ⟨by omega, h2, hle, rfl, rfl⟩)
/-- Printable: neither below 32 nor 127. -/
def okc (b : UInt8) : Prop := 32 ≤ b.toNat ∧ b.toNat ≠ 127
theorem escA_all (c : Nat) (hc : c < 128) : ∀ x ∈ escA c, 32 ≤ x ∧ x ≠ 127 ∧ x < 128 := by
  have h1 := hexOf_bd (c / 16) (by omega)
  have h2 := hexOf_bd (c % 16) (by omega)
  unfold escA
  intro x hx
  repeat' split at hx
  all_goals simp only [List.mem_cons, List.mem_nil_iff, or_false] at hx
  all_goals omega
theorem ofNat_toNat {x : Nat} (h : x < 256) : (UInt8.ofNat x).toNat = x := by
  simp
  omega
theorem piece_ok (s : ByteArray) (i : Nat) (hi : i < s.size) : ∀ b ∈ (piece s i).1, okc b := by
  intro b hb
  rcases piece_cases s i hi with ⟨_, h1, h2⟩ | ⟨_, h1⟩ | ⟨h1, h2, h3, _, h4⟩
  · rw [h1, List.mem_map] at hb
    obtain ⟨x, hx, rfl⟩ := hb
    have := escA_all _ h2 x hx
    unfold okc
    rw [ofNat_toNat (by omega)]
    exact ⟨this.1, this.2.1⟩
  · rw [h1] at hb
    simp only [List.mem_cons, List.mem_nil_iff, or_false] at hb
    rcases hb with rfl | rfl | rfl | rfl | rfl | rfl
    all_goals exact ⟨by decide, by decide⟩
  · rw [h4] at hb
    obtain ⟨t, ht⟩ := List.mem_iff_getElem?.1 hb
    have hlt : t < seqS s i := by
      have := (List.getElem?_eq_some_iff.1 ht).1
      rw [cutN_len s i _ h3] at this
      exact this
    rw [cutN_at s i _ h3 t hlt] at ht
    have h5 := seq_ge s i h1 t hlt
    obtain rfl : s.get! (i + t) = b := by simpa using ht
    exact ⟨by omega, by omega⟩
theorem tail_ok (s : ByteArray) : ∀ n i, s.size - i ≤ n → i ≤ s.size → ∀ b ∈ tail s i, okc b
  | 0, i, h, hi, b, hb => by
    obtain rfl : i = s.size := by omega
    rw [tail_end] at hb
    cases hb
  | n + 1, i, h, hi, b, hb => by
    by_cases hlt : i < s.size
    · rw [tail_step s i hlt, List.mem_append] at hb
      have h1 := piece_pos s i
      rcases hb with hb | hb
      · exact piece_ok s i hlt b hb
      · exact tail_ok s n (i + (piece s i).2) (by omega) (piece_le s i hlt) b hb
    · obtain rfl : i = s.size := by omega
      rw [tail_end] at hb
      cases hb
theorem quoted_ok (s : ByteArray) : ∀ b ∈ quoted s, okc b := by
  intro b hb
  unfold quoted at hb
  simp only [List.mem_append, List.mem_cons, List.mem_nil_iff, or_false] at hb
  rcases hb with (rfl | hb) | rfl
  · exact ⟨by decide, by decide⟩
  · exact tail_ok s s.size 0 (by omega) (by omega) b hb
  · exact ⟨by decide, by decide⟩
/-- Walked over two by two at a backslash and one by one elsewhere, the text ends where it ends, and no quote is met. -/
def tk : List UInt8 → Prop
  | [] => True
  | [b] => b ≠ 92 ∧ b ≠ 34
  | b :: c :: t => (b = 92 ∧ tk t) ∨ (b ≠ 92 ∧ b ≠ 34 ∧ tk (c :: t))
theorem tk_esc {x : UInt8} {t : List UInt8} (h : tk t) : tk (92 :: x :: t) := .inl ⟨rfl, h⟩
theorem tk_one {b : UInt8} {t : List UInt8} (h1 : b ≠ 92) (h2 : b ≠ 34) (h : tk t) : tk (b :: t) := by
  cases t with
  | nil => exact ⟨h1, h2⟩
  | cons c t => exact .inr ⟨h1, h2, h⟩
theorem tk_plain {t : List UInt8} (h : tk t) : ∀ l : List UInt8, (∀ b ∈ l, b ≠ 92 ∧ b ≠ 34) → tk (l ++ t)
  | [], _ => h
  | b :: l, hl => tk_one (hl b (.head _)).1 (hl b (.head _)).2 (tk_plain h l fun c hc => hl c (.tail _ hc))
theorem ne_of_toNat {b : UInt8} {n : UInt8} (h : b.toNat ≠ n.toNat) : b ≠ n := fun e => h (by rw [e])
theorem escA_tk (c : Nat) (hc : c < 128) {t : List UInt8} (h : tk t) : tk ((escA c).map UInt8.ofNat ++ t) := by
  have h1 := hexOf_bd (c / 16) (by omega)
  have h2 := hexOf_bd (c % 16) (by omega)
  unfold escA
  by_cases c0 : c = 34
  · rw [if_pos c0]; exact tk_esc h
  rw [if_neg c0]
  by_cases c1 : c = 92
  · rw [if_pos c1]; exact tk_esc h
  rw [if_neg c1]
  by_cases c2 : c = 8
  · rw [if_pos c2]; exact tk_esc h
  rw [if_neg c2]
  by_cases c3 : c = 12
  · rw [if_pos c3]; exact tk_esc h
  rw [if_neg c3]
  by_cases c4 : c = 10
  · rw [if_pos c4]; exact tk_esc h
  rw [if_neg c4]
  by_cases c5 : c = 13
  · rw [if_pos c5]; exact tk_esc h
  rw [if_neg c5]
  by_cases c6 : c = 9
  · rw [if_pos c6]; exact tk_esc h
  rw [if_neg c6]
  by_cases c7 : c < 32 ∨ c = 127
  · rw [if_pos c7]
    refine tk_esc (tk_one (by decide) (by decide) (tk_one (by decide) (by decide) (tk_one ?_ ?_ (tk_one ?_ ?_ h))))
    all_goals
      refine ne_of_toNat ?_
      rw [ofNat_toNat (by omega)]
      first
        | exact h1.2.2
        | exact h2.2.2
        | (show _ ≠ 34; omega)
  · rw [if_neg c7]
    refine tk_one ?_ ?_ h
    all_goals
      refine ne_of_toNat ?_
      rw [ofNat_toNat (by omega)]
      assumption
theorem piece_tk (s : ByteArray) (i : Nat) (hi : i < s.size) {t : List UInt8} (h : tk t) : tk ((piece s i).1 ++ t) := by
  rcases piece_cases s i hi with ⟨_, h1, h2⟩ | ⟨_, h1⟩ | ⟨h1, h2, h3, _, h4⟩
  · rw [h1]
    exact escA_tk _ h2 h
  · rw [h1]
    exact tk_esc (tk_one (by decide) (by decide) (tk_one (by decide) (by decide) (tk_one (by decide) (by decide) (tk_one (by decide) (by decide) h))))
  · rw [h4]
    refine tk_plain h _ fun b hb => ?_
    obtain ⟨t, ht⟩ := List.mem_iff_getElem?.1 hb
    have hlt : t < seqS s i := by
      have := (List.getElem?_eq_some_iff.1 ht).1
      rw [cutN_len s i _ h3] at this
      exact this
    rw [cutN_at s i _ h3 t hlt] at ht
    have h5 := seq_ge s i h1 t hlt
    obtain rfl : s.get! (i + t) = b := by simpa using ht
    exact ⟨ne_of_toNat (by show _ ≠ 92; omega), ne_of_toNat (by show _ ≠ 34; omega)⟩
theorem tail_tk (s : ByteArray) : ∀ n i, s.size - i ≤ n → i ≤ s.size → tk (tail s i)
  | 0, i, h, hi => by
    obtain rfl : i = s.size := by omega
    rw [tail_end]
    trivial
  | n + 1, i, h, hi => by
    by_cases hlt : i < s.size
    · rw [tail_step s i hlt]
      have h1 := piece_pos s i
      exact piece_tk s i hlt (tail_tk s n (i + (piece s i).2) (by omega) (piece_le s i hlt))
    · obtain rfl : i = s.size := by omega
      rw [tail_end]
      trivial
end Go.Proofs.YtfbpffgcofdciaaDoor
