/-
  Plain: the text of a string as jsonEncodeString writes it, piece by piece (n001_1001).
-/
import Derived.Test.YtghcggagpagfoaaGreatDoorUni
import Derived.Shelf.Unicode.DecodeAny
namespace Go.Proofs.YtghcggagpagfoaaGreatDoor
set_option linter.unusedVariables false
def hexOf (d : Nat) : Nat := if d < 10 then 48 + d else 87 + d
/-- The text of a byte below 0x80. -/
def escA (c : Nat) : List Nat :=
  if c = 34 then [92, 34] else if c = 92 then [92, 92] else if c = 8 then [92, 98] else if c = 12 then [92, 102] else if c = 10 then [92, 110] else if c = 13 then [92, 114] else if c = 9 then [92, 116]
  else if c < 32 ∨ c = 127 then [92, 117, 48, 48, hexOf (c / 16), hexOf (c % 16)] else [c]
def piece (s : ByteArray) (i : Nat) : List UInt8 × Nat :=
  if (s.get! i).toNat < 128 then ((escA (s.get! i).toNat).map UInt8.ofNat, 1)
  else if seqS s i = 0 then ([92, 117, 102, 102, 102, 100], 1) else (cutN s i (seqS s i), seqS s i)
theorem piece_pos (s : ByteArray) (i : Nat) : 0 < (piece s i).2 := by
  unfold piece
  split
  · exact Nat.one_pos
  · split
    · exact Nat.one_pos
    · show 0 < seqS s i
      omega
theorem piece_le (s : ByteArray) (i : Nat) (hi : i < s.size) : i + (piece s i).2 ≤ s.size := by
  unfold piece
  split
  · exact hi
  · rename_i h
    split
    · exact hi
    · rename_i h2
      rcases seq_decode s i hi (by omega) with ⟨h3, _⟩ | ⟨_, h3, _⟩
      · exact absurd h3 h2
      · exact h3
def tl (s : ByteArray) : Nat → Nat → List UInt8
  | 0, _ => []
  | f + 1, i => if i < s.size then (piece s i).1 ++ tl s f (i + (piece s i).2) else []
theorem tl_fuel (s : ByteArray) : ∀ f g i, s.size - i ≤ f → s.size - i ≤ g → tl s f i = tl s g i
  | 0, 0, _, _, _ => rfl
  | 0, g + 1, i, h, _ => by
    unfold tl
    rw [if_neg (by omega)]
  | f + 1, 0, i, _, h => by
    unfold tl
    rw [if_neg (by omega)]
  | f + 1, g + 1, i, hf, hg => by
    unfold tl
    have := piece_pos s i
    by_cases h : i < s.size
    · rw [if_pos h, if_pos h, tl_fuel s f g _ (by omega) (by omega)]
    · rw [if_neg h, if_neg h]
/-- What is still to be written from place i on. -/
def tail (s : ByteArray) (i : Nat) : List UInt8 := tl s s.size i
theorem tail_step (s : ByteArray) (i : Nat) (h : i < s.size) : tail s i = (piece s i).1 ++ tail s (i + (piece s i).2) := by
  have h0 := piece_pos s i
  unfold tail
  rw [tl_fuel s s.size (s.size + 1) i (by omega) (by omega)]
  show (if i < s.size then _ else _) = _
  rw [if_pos h]
theorem tail_end (s : ByteArray) : tail s s.size = [] := by
  unfold tail
  rw [tl_fuel s s.size 0 s.size (by omega) (by omega)]
  rfl
/-- The whole text, with its quotes. -/
def quoted (s : ByteArray) : List UInt8 := [34] ++ tail s 0 ++ [34]
open Go.Lib in
theorem go_tail (s : ByteArray) (i : Nat) (hi : i < s.size) : decodeGo (s.extract i s.size) = Utf8.decode s i := by
  unfold decodeGo
  rw [if_neg (by rw [ByteArray.size_extract]; omega), tail_decode, Nat.add_zero]
theorem escA_len (c : Nat) : 1 ≤ (escA c).length ∧ (escA c).length ≤ 6 := by
  unfold escA
  repeat' split
  all_goals simp
theorem piece_len (s : ByteArray) (i : Nat) (hi : i < s.size) : (piece s i).2 ≤ (piece s i).1.length ∧ (piece s i).1.length ≤ 6 * (piece s i).2 := by
  have hle := piece_le s i hi
  unfold piece at hle ⊢
  split
  · rw [List.length_map]
    have := escA_len (s.get! i).toNat
    exact ⟨this.1, by omega⟩
  · rename_i h
    rw [if_neg h] at hle
    split
    · exact ⟨by decide, by decide⟩
    · rename_i h2
      rw [if_neg h2] at hle
      have h3 : i + seqS s i ≤ s.size := hle
      show seqS s i ≤ (cutN s i (seqS s i)).length ∧ (cutN s i (seqS s i)).length ≤ 6 * seqS s i
      rw [cutN_len s i _ h3]
      omega
theorem tail_len (s : ByteArray) : ∀ n i, s.size - i ≤ n → i ≤ s.size → s.size - i ≤ (tail s i).length ∧ (tail s i).length ≤ 6 * (s.size - i)
  | 0, i, h, hi => by
    obtain rfl : i = s.size := by omega
    rw [tail_end]
    simp
  | n + 1, i, h, hi => by
    by_cases hlt : i < s.size
    · rw [tail_step s i hlt, List.length_append]
      have h1 := piece_pos s i
      have h2 := piece_le s i hlt
      have h3 := piece_len s i hlt
      have h4 := tail_len s n (i + (piece s i).2) (by omega) h2
      omega
    · obtain rfl : i = s.size := by omega
      rw [tail_end]
      simp
theorem quoted_len (s : ByteArray) : s.size + 2 ≤ (quoted s).length ∧ (quoted s).length ≤ 6 * s.size + 2 := by
  unfold quoted
  have := tail_len s s.size 0 (by omega) (by omega)
  simp
  omega
theorem hexOf_bd (d : Nat) (h : d < 16) : 48 ≤ hexOf d ∧ hexOf d ≤ 102 ∧ hexOf d ≠ 92 := by
  unfold hexOf
  split <;> omega
/-- A piece: the escape of an ASCII byte, the replacement, or a sequence as it stands. -/
theorem piece_cases (s : ByteArray) (i : Nat) (hi : i < s.size) :
    ((piece s i).2 = 1 ∧ (piece s i).1 = (escA (s.get! i).toNat).map UInt8.ofNat ∧ (s.get! i).toNat < 128) ∨ ((piece s i).2 = 1 ∧ (piece s i).1 = [92, 117, 102, 102, 102, 100]) ∨
    (128 ≤ (s.get! i).toNat ∧ seqS s i ≠ 0 ∧ i + seqS s i ≤ s.size ∧ (piece s i).2 = seqS s i ∧ (piece s i).1 = cutN s i (seqS s i)) := by
  have hle := piece_le s i hi
  unfold piece at hle ⊢
  by_cases h : (s.get! i).toNat < 128
  · rw [if_pos h]
    exact .inl ⟨rfl, rfl, h⟩
  · rw [if_neg h] at hle ⊢
    by_cases h2 : seqS s i = 0
    · rw [if_pos h2]
      exact .inr (.inl ⟨rfl, rfl⟩)
    · rw [if_neg h2] at hle ⊢
      exact .inr (.inr ⟨by omega, h2, hle, rfl, rfl⟩)
/-- Printable: neither below 32 nor 127. -/
def okc (b : UInt8) : Prop := 32 ≤ b.toNat ∧ b.toNat ≠ 127
theorem escA_all (c : Nat) (hc : c < 128) : ∀ x ∈ escA c, 32 ≤ x ∧ x ≠ 127 ∧ x < 128 := by
  have h1 := hexOf_bd (c / 16) (by omega)
  have h2 := hexOf_bd (c % 16) (by omega)
  unfold escA
  intro x hx
  repeat' split at hx
  all_goals simp only [List.mem_cons, List.mem_nil_iff, or_false] at hx
  all_goals omega
theorem ofNat_toNat {x : Nat} (h : x < 256) : (UInt8.ofNat x).toNat = x := by
  simp
  omega
theorem piece_esc {s : ByteArray} {i : Nat} (hi : i < s.size) (h : s[i].toNat < 128) : piece s i = ((escA s[i].toNat).map UInt8.ofNat, 1) := by
  unfold piece
  rw [get_bang s i hi, if_pos h]
theorem piece_bad {s : ByteArray} {i : Nat} (hi : i < s.size) (h : ¬ s[i].toNat < 128) (h0 : seqS s i = 0) : piece s i = ([92, 117, 102, 102, 102, 100], 1) := by
  unfold piece
  rw [get_bang s i hi, if_neg h, if_pos h0]
theorem piece_run {s : ByteArray} {i : Nat} (hi : i < s.size) (h : ¬ s[i].toNat < 128) (h0 : seqS s i ≠ 0) : piece s i = (cutN s i (seqS s i), seqS s i) := by
  unfold piece
  rw [get_bang s i hi, if_neg h, if_neg h0]
theorem cutN_snoc (s : ByteArray) (i n : Nat) (h : i + n < s.size) : cutN s i (n + 1) = cutN s i n ++ [s[i + n]] := by
  unfold cutN
  have hl : n < (s.data.toList.drop i).length := by rw [List.length_drop, Array.length_toList]; have : s.data.size = s.size := rfl; omega
  rw [List.take_succ_eq_append_getElem hl, List.getElem_drop]
  rfl
end Go.Proofs.YtghcggagpagfoaaGreatDoor
