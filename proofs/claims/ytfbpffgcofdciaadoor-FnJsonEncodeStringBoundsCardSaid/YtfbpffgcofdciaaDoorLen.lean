/-
  Plain: the length of the escaped text (n001_83).
-/
import Derived.Test.YtfbpffgcofdciaaDoorEsc
namespace Go.Proofs.YtfbpffgcofdciaaDoor
set_option linter.unusedVariables false
theorem escA_len (c : Nat) : 1 ≤ (escA c).length ∧ (escA c).length ≤ 6 := by
  unfold escA
  repeat' split
  all_goals simp
theorem cutN_len (s : ByteArray) (i n : Nat) (h : i + n ≤ s.size) : (cutN s i n).length = n := by
  unfold cutN
  rw [List.length_take, List.length_drop, Array.length_toList]
  have : s.data.size = s.size := rfl
  omega
theorem piece_len (s : ByteArray) (i : Nat) (hi : i < s.size) : (piece s i).2 ≤ (piece s i).1.length ∧ (piece s i).1.length ≤ 6 * (piece s i).2 := by
  have hle := piece_le s i hi
  unfold piece at hle ⊢
  split
  · rw [List.length_map]
    have := escA_len (s.get! i).toNat
    exact ⟨this.1, by omega⟩
  · rename_i h
    rw [if_neg h] at hle
    split
    · exact ⟨by decide, by decide⟩
    · rename_i h2
      rw [if_neg h2] at hle
      have h3 : i + seqS s i ≤ s.size := hle
      show seqS s i ≤ (cutN s i (seqS s i)).length ∧ (cutN s i (seqS s i)).length ≤ 6 * seqS s i
      rw [cutN_len s i _ h3]
      omega
theorem tail_len (s : ByteArray) : ∀ n i, s.size - i ≤ n → i ≤ s.size → s.size - i ≤ (tail s i).length ∧ (tail s i).length ≤ 6 * (s.size - i)
  | 0, i, h, hi => by
    obtain rfl : i = s.size := by omega
    rw [tail_end]
    simp
  | n + 1, i, h, hi => by
    by_cases hlt : i < s.size
    · rw [tail_step s i hlt, List.length_append]
      have h1 := piece_pos s i
      have h2 := piece_le s i hlt
      have h3 := piece_len s i hlt
      have h4 := tail_len s n (i + (piece s i).2) (by omega) h2
      omega
    · obtain rfl : i = s.size := by omega
      rw [tail_end]
      simp
theorem quoted_len (s : ByteArray) : s.size + 2 ≤ (quoted s).length ∧ (quoted s).length ≤ 6 * s.size + 2 := by
  unfold quoted
  have := tail_len s s.size 0 (by omega) (by omega)
  simp
  omega
end Go.Proofs.YtfbpffgcofdciaaDoor
