/-
  Plain: UTF-8 sequences in a string, and the model's decoder (n001_1001).
-/
import Derived.Test.YtghcggagpagfoaaGreatDoorDec
import Derived.Lib.RuneCountTail
namespace Go.Proofs.YtghcggagpagfoaaGreatDoor
set_option linter.unusedVariables false
open Go.Lib
def contB (s : ByteArray) (i lo hi : Nat) : Bool := decide (i < s.size) && (decide (lo ≤ (s.get! i).toNat) && decide ((s.get! i).toNat ≤ hi))
theorem get_bang (s : ByteArray) (i : Nat) (h : i < s.size) : s.get! i = s[i] := by
  cases s with
  | mk d =>
    show d[i]! = d[i]
    exact getElem!_pos d i h
def seqS (s : ByteArray) (i : Nat) : Nat :=
  if 194 ≤ (s.get! i).toNat ∧ (s.get! i).toNat ≤ 223 then (if contB s (i + 1) 128 191 then 2 else 0)
  else if 224 ≤ (s.get! i).toNat ∧ (s.get! i).toNat ≤ 239 then (if contB s (i + 1) (if (s.get! i).toNat = 224 then 160 else 128) (if (s.get! i).toNat = 237 then 159 else 191) && contB s (i + 2) 128 191 then 3 else 0)
  else if 240 ≤ (s.get! i).toNat ∧ (s.get! i).toNat ≤ 244 then (if contB s (i + 1) (if (s.get! i).toNat = 240 then 144 else 128) (if (s.get! i).toNat = 244 then 143 else 191) && contB s (i + 2) 128 191 && contB s (i + 3) 128 191 then 4 else 0)
  else 0
theorem seqS_N (s : ByteArray) (i : Nat) : seqS s i = seqN (s.size - i) (s.get! i).toNat (s.get! (i + 1)).toNat (s.get! (i + 2)).toNat (s.get! (i + 3)).toNat := by
  have c1 : (i + 1 < s.size) = (1 < s.size - i) := propext ⟨fun h => by omega, fun h => by omega⟩
  have c2 : (i + 2 < s.size) = (2 < s.size - i) := propext ⟨fun h => by omega, fun h => by omega⟩
  have c3 : (i + 3 < s.size) = (3 < s.size - i) := propext ⟨fun h => by omega, fun h => by omega⟩
  unfold seqS seqN contB
  simp only [Bool.and_eq_true, decide_eq_true_eq, c1, c2, c3, and_assoc]
/-- At a byte from 0x80 on: no sequence, and the decoder answers U+FFFD of one byte; or a sequence as wide as the decoder says. -/
theorem seq_decode (s : ByteArray) (i : Nat) (hi : i < s.size) (h : 128 ≤ (s.get! i).toNat) :
    (seqS s i = 0 ∧ Utf8.decode s i = (65533, 1)) ∨ (2 ≤ seqS s i ∧ i + seqS s i ≤ s.size ∧ seqS s i ≤ 4 ∧ (Utf8.decode s i).2 = seqS s i) := by
  rw [seqS_N, decode_at]
  rcases seq_dec (s.size - i) (s.get! i).toNat (s.get! (i + 1)).toNat (s.get! (i + 2)).toNat (s.get! (i + 3)).toNat h (UInt8.toNat_lt _) (UInt8.toNat_lt _) (UInt8.toNat_lt _) (UInt8.toNat_lt _) (by omega) with h1 | ⟨h1, h2, h3, h4⟩
  · exact .inl h1
  · exact .inr ⟨h1, by omega, h3, h4⟩
/-- The bytes i .. i + n of s. -/
def cutN (s : ByteArray) (i n : Nat) : List UInt8 := (s.data.toList.drop i).take n
theorem cutN_len (s : ByteArray) (i n : Nat) (h : i + n ≤ s.size) : (cutN s i n).length = n := by
  unfold cutN
  rw [List.length_take, List.length_drop, Array.length_toList]
  have : s.data.size = s.size := rfl
  omega
theorem contB_ge {s : ByteArray} {i lo hi : Nat} (h : contB s i lo hi = true) : i < s.size ∧ lo ≤ (s.get! i).toNat := by
  unfold contB at h
  simp only [Bool.and_eq_true, decide_eq_true_eq] at h
  exact ⟨h.1, h.2.1⟩
def lo3 (b : Nat) : Nat := if b = 224 then 160 else 128
def hi3 (b : Nat) : Nat := if b = 237 then 159 else 191
def lo4 (b : Nat) : Nat := if b = 240 then 144 else 128
def hi4 (b : Nat) : Nat := if b = 244 then 143 else 191
theorem lo3_ge (b : Nat) : 128 ≤ lo3 b := by
  unfold lo3
  split <;> omega
theorem lo4_ge (b : Nat) : 128 ≤ lo4 b := by
  unfold lo4
  split <;> omega
theorem seqS_def (s : ByteArray) (i : Nat) : seqS s i =
    if 194 ≤ (s.get! i).toNat ∧ (s.get! i).toNat ≤ 223 then (if contB s (i + 1) 128 191 = true then 2 else 0)
    else if 224 ≤ (s.get! i).toNat ∧ (s.get! i).toNat ≤ 239 then (if (contB s (i + 1) (lo3 (s.get! i).toNat) (hi3 (s.get! i).toNat) && contB s (i + 2) 128 191) = true then 3 else 0)
    else if 240 ≤ (s.get! i).toNat ∧ (s.get! i).toNat ≤ 244 then (if (contB s (i + 1) (lo4 (s.get! i).toNat) (hi4 (s.get! i).toNat) && contB s (i + 2) 128 191 && contB s (i + 3) 128 191) = true then 4 else 0)
    else 0 := rfl
/-- The bytes of a sequence are no ASCII bytes. -/
theorem seq_ge (s : ByteArray) (k : Nat) (h128 : 128 ≤ (s.get! k).toNat) (t : Nat) (ht : t < seqS s k) : 128 ≤ (s.get! (k + t)).toNat := by
  have g3 := lo3_ge (s.get! k).toNat
  have g4 := lo4_ge (s.get! k).toNat
  have key : ∀ n, n = seqS s k → t < n → 128 ≤ (s.get! (k + t)).toNat := by
    intro n hn ht
    rw [seqS_def] at hn
    by_cases c2 : 194 ≤ (s.get! k).toNat ∧ (s.get! k).toNat ≤ 223
    · rw [if_pos c2] at hn
      by_cases q : contB s (k + 1) 128 191 = true
      · rw [if_pos q] at hn
        rcases (show t = 0 ∨ t = 1 by omega) with rfl | rfl
        · exact h128
        · exact (contB_ge q).2
      · rw [if_neg q] at hn
        omega
    · rw [if_neg c2] at hn
      by_cases c3 : 224 ≤ (s.get! k).toNat ∧ (s.get! k).toNat ≤ 239
      · rw [if_pos c3] at hn
        by_cases q : (contB s (k + 1) (lo3 (s.get! k).toNat) (hi3 (s.get! k).toNat) && contB s (k + 2) 128 191) = true
        · rw [if_pos q] at hn
          simp only [Bool.and_eq_true] at q
          rcases (show t = 0 ∨ t = 1 ∨ t = 2 by omega) with rfl | rfl | rfl
          · exact h128
          · exact Nat.le_trans g3 (contB_ge q.1).2
          · exact (contB_ge q.2).2
        · rw [if_neg q] at hn
          omega
      · rw [if_neg c3] at hn
        by_cases c4 : 240 ≤ (s.get! k).toNat ∧ (s.get! k).toNat ≤ 244
        · rw [if_pos c4] at hn
          by_cases q : (contB s (k + 1) (lo4 (s.get! k).toNat) (hi4 (s.get! k).toNat) && contB s (k + 2) 128 191 && contB s (k + 3) 128 191) = true
          · rw [if_pos q] at hn
            simp only [Bool.and_eq_true] at q
            rcases (show t = 0 ∨ t = 1 ∨ t = 2 ∨ t = 3 by omega) with rfl | rfl | rfl | rfl
            · exact h128
            · exact Nat.le_trans g4 (contB_ge q.1.1).2
            · exact (contB_ge q.1.2).2
            · exact (contB_ge q.2).2
          · rw [if_neg q] at hn
            omega
        · rw [if_neg c4] at hn
          omega
  exact key _ rfl ht
/-- The same bytes elsewhere are the same sequence. -/
theorem seq_same (r s : ByteArray) (j k : Nat) (h0 : seqS s k ≠ 0) (hd : r.get! j = s.get! k) (hb : ∀ t, t < seqS s k → ∀ lo hi, contB r (j + t) lo hi = contB s (k + t) lo hi) : seqS r j = seqS s k := by
  obtain ⟨n, hn⟩ : ∃ n, n = seqS s k := ⟨_, rfl⟩
  rw [← hn] at hb h0 ⊢
  rw [seqS_def] at hn ⊢
  rw [hd]
  by_cases c2 : 194 ≤ (s.get! k).toNat ∧ (s.get! k).toNat ≤ 223
  · rw [if_pos c2] at hn ⊢
    by_cases q : contB s (k + 1) 128 191 = true
    · rw [if_pos q] at hn
      rw [hb 1 (by omega), if_pos q, hn]
    · rw [if_neg q] at hn
      omega
  · rw [if_neg c2] at hn ⊢
    by_cases c3 : 224 ≤ (s.get! k).toNat ∧ (s.get! k).toNat ≤ 239
    · rw [if_pos c3] at hn ⊢
      by_cases q : (contB s (k + 1) (lo3 (s.get! k).toNat) (hi3 (s.get! k).toNat) && contB s (k + 2) 128 191) = true
      · rw [if_pos q] at hn
        rw [hb 1 (by omega), hb 2 (by omega), if_pos q, hn]
      · rw [if_neg q] at hn
        omega
    · rw [if_neg c3] at hn ⊢
      by_cases c4 : 240 ≤ (s.get! k).toNat ∧ (s.get! k).toNat ≤ 244
      · rw [if_pos c4] at hn ⊢
        by_cases q : (contB s (k + 1) (lo4 (s.get! k).toNat) (hi4 (s.get! k).toNat) && contB s (k + 2) 128 191 && contB s (k + 3) 128 191) = true
        · rw [if_pos q] at hn
          rw [hb 1 (by omega), hb 2 (by omega), hb 3 (by omega), if_pos q, hn]
        · rw [if_neg q] at hn
          omega
      · rw [if_neg c4] at hn
        omega
theorem cutN_at (s : ByteArray) (k n : Nat) (h : k + n ≤ s.size) (t : Nat) (ht : t < n) : (cutN s k n)[t]? = some (s.get! (k + t)) := by
  unfold cutN
  rw [List.getElem?_take_of_lt ht, List.getElem?_drop, get_bang s (k + t) (by omega)]
  have hx : k + t < s.data.toList.length := by rw [Array.length_toList]; have : s.data.size = s.size := rfl; omega
  rw [List.getElem?_eq_getElem hx]
  rfl
end Go.Proofs.YtghcggagpagfoaaGreatDoor
