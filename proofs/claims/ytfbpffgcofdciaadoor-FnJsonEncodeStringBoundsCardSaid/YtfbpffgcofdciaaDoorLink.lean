/-
  zzSeqLen against the model's decoder (n001_83).
-/
import Derived.Test.YtfbpffgcofdciaaDoorSeq
import Derived.Lib.RuneCountTail
namespace Go.Proofs.YtfbpffgcofdciaaDoor
set_option linter.unusedVariables false
open Go.Lib
theorem seqS_N (s : ByteArray) (i : Nat) : seqS s i = seqN (s.size - i) (s.get! i).toNat (s.get! (i + 1)).toNat (s.get! (i + 2)).toNat (s.get! (i + 3)).toNat := by
  have c1 : (i + 1 < s.size) = (1 < s.size - i) := propext ⟨fun h => by omega, fun h => by omega⟩
  have c2 : (i + 2 < s.size) = (2 < s.size - i) := propext ⟨fun h => by omega, fun h => by omega⟩
  have c3 : (i + 3 < s.size) = (3 < s.size - i) := propext ⟨fun h => by omega, fun h => by omega⟩
  unfold seqS seqN contB
  simp only [Bool.and_eq_true, decide_eq_true_eq, c1, c2, c3, and_assoc]
/-- At a byte from 0x80 on: no sequence, and the decoder answers U+FFFD of one byte; or a sequence as wide as the decoder says. -/
theorem seq_decode (s : ByteArray) (i : Nat) (hi : i < s.size) (h : 128 ≤ (s.get! i).toNat) :
    (seqS s i = 0 ∧ Utf8.decode s i = (65533, 1)) ∨ (2 ≤ seqS s i ∧ i + seqS s i ≤ s.size ∧ seqS s i ≤ 4 ∧ (Utf8.decode s i).2 = seqS s i) := by
  rw [seqS_N, decode_at]
  rcases seq_dec (s.size - i) (s.get! i).toNat (s.get! (i + 1)).toNat (s.get! (i + 2)).toNat (s.get! (i + 3)).toNat h (UInt8.toNat_lt _) (UInt8.toNat_lt _) (UInt8.toNat_lt _) (UInt8.toNat_lt _) (by omega) with h1 | ⟨h1, h2, h3, h4⟩
  · exact .inl h1
  · exact .inr ⟨h1, by omega, h3, h4⟩
theorem go_tail (s : ByteArray) (i : Nat) (hi : i < s.size) : decodeGo (s.extract i s.size) = Utf8.decode s i := by
  unfold decodeGo
  rw [if_neg (by rw [ByteArray.size_extract]; omega), tail_decode, Nat.add_zero]
end Go.Proofs.YtfbpffgcofdciaaDoor
