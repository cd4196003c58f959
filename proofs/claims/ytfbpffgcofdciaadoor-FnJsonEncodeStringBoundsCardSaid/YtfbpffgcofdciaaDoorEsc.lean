/-
  Plain: the text of a string as jsonEncodeString writes it, piece by piece (n001_83).
-/
import Derived.Test.YtfbpffgcofdciaaDoorLink
namespace Go.Proofs.YtfbpffgcofdciaaDoor
set_option linter.unusedVariables false
/-- The text of a byte below 0x80. -/
def escA (c : Nat) : List Nat :=
  if c = 34 then [92, 34] else if c = 92 then [92, 92] else if c = 8 then [92, 98] else if c = 12 then [92, 102] else if c = 10 then [92, 110] else if c = 13 then [92, 114] else if c = 9 then [92, 116]
  else if c < 32 ∨ c = 127 then [92, 117, 48, 48, hexOf (c / 16), hexOf (c % 16)] else [c]
/-- The bytes i .. i + n of s. -/
def cutN (s : ByteArray) (i n : Nat) : List UInt8 := (s.data.toList.drop i).take n
def piece (s : ByteArray) (i : Nat) : List UInt8 × Nat :=
  if (s.get! i).toNat < 128 then ((escA (s.get! i).toNat).map UInt8.ofNat, 1)
  else if seqS s i = 0 then ([92, 117, 102, 102, 102, 100], 1) else (cutN s i (seqS s i), seqS s i)
theorem piece_pos (s : ByteArray) (i : Nat) : 0 < (piece s i).2 := by
  unfold piece
  split
  · exact Nat.one_pos
  · split
    · exact Nat.one_pos
    · show 0 < seqS s i
      omega
theorem piece_le (s : ByteArray) (i : Nat) (hi : i < s.size) : i + (piece s i).2 ≤ s.size := by
  unfold piece
  split
  · exact hi
  · rename_i h
    split
    · exact hi
    · rename_i h2
      rcases seq_decode s i hi (by omega) with ⟨h3, _⟩ | ⟨_, h3, _⟩
      · exact absurd h3 h2
      · exact h3
def tl (s : ByteArray) : Nat → Nat → List UInt8
  | 0, _ => []
  | f + 1, i => if i < s.size then (piece s i).1 ++ tl s f (i + (piece s i).2) else []
theorem tl_fuel (s : ByteArray) : ∀ f g i, s.size - i ≤ f → s.size - i ≤ g → tl s f i = tl s g i
  | 0, 0, _, _, _ => rfl
  | 0, g + 1, i, h, _ => by
    unfold tl
    rw [if_neg (by omega)]
  | f + 1, 0, i, _, h => by
    unfold tl
    rw [if_neg (by omega)]
  | f + 1, g + 1, i, hf, hg => by
    unfold tl
    have := piece_pos s i
    by_cases h : i < s.size
    · rw [if_pos h, if_pos h, tl_fuel s f g _ (by omega) (by omega)]
    · rw [if_neg h, if_neg h]
/-- What is still to be written from place i on. -/
def tail (s : ByteArray) (i : Nat) : List UInt8 := tl s s.size i
theorem tail_step (s : ByteArray) (i : Nat) (h : i < s.size) : tail s i = (piece s i).1 ++ tail s (i + (piece s i).2) := by
  have h0 := piece_pos s i
  unfold tail
  rw [tl_fuel s s.size (s.size + 1) i (by omega) (by omega)]
  show (if i < s.size then _ else _) = _
  rw [if_pos h]
theorem tail_end (s : ByteArray) : tail s s.size = [] := by
  unfold tail
  rw [tl_fuel s s.size 0 s.size (by omega) (by omega)]
  rfl
/-- The whole text, with its quotes. -/
def quoted (s : ByteArray) : List UInt8 := [34] ++ tail s 0 ++ [34]
end Go.Proofs.YtfbpffgcofdciaaDoor
