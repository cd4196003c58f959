/-
  Plain: the law's own reading of a UTF-8 sequence (zzSeqLen) against the decoder's (n001_1001).
-/
import Derived.Lib.DecodeN
namespace Go.Proofs.YtghcggagpagfoaaGreatDoor
set_option linter.unusedVariables false
open Go.Lib
/-- zzSeqLen over the first four bytes of n that are there. -/
def seqN (n b0 b1 b2 b3 : Nat) : Nat :=
  if 194 ≤ b0 ∧ b0 ≤ 223 then (if 1 < n ∧ 128 ≤ b1 ∧ b1 ≤ 191 then 2 else 0)
  else if 224 ≤ b0 ∧ b0 ≤ 239 then
    (if (1 < n ∧ (if b0 = 224 then 160 else 128) ≤ b1 ∧ b1 ≤ (if b0 = 237 then 159 else 191)) ∧ (2 < n ∧ 128 ≤ b2 ∧ b2 ≤ 191) then 3 else 0)
  else if 240 ≤ b0 ∧ b0 ≤ 244 then
    (if (1 < n ∧ (if b0 = 240 then 144 else 128) ≤ b1 ∧ b1 ≤ (if b0 = 244 then 143 else 191)) ∧ (2 < n ∧ 128 ≤ b2 ∧ b2 ≤ 191) ∧ (3 < n ∧ 128 ≤ b3 ∧ b3 ≤ 191) then 4 else 0)
  else 0
theorem seq_dec (n b0 b1 b2 b3 : Nat) (h0 : 128 ≤ b0) (hb0 : b0 < 256) (hb1 : b1 < 256) (hb2 : b2 < 256) (hb3 : b3 < 256) (hn : 0 < n) :
    (seqN n b0 b1 b2 b3 = 0 ∧ decodeN n b0 b1 b2 b3 = (65533, 1)) ∨
    (2 ≤ seqN n b0 b1 b2 b3 ∧ seqN n b0 b1 b2 b3 ≤ n ∧ seqN n b0 b1 b2 b3 ≤ 4 ∧ (decodeN n b0 b1 b2 b3).2 = seqN n b0 b1 b2 b3) := by
  by_cases h2 : b0 / 32 = 6
  · by_cases c1 : 1 < n ∧ b1 / 64 = 2
    · by_cases hv : b0 % 32 * 64 + b1 % 64 ≥ 128
      · right
        have e : seqN n b0 b1 b2 b3 = 2 := by
          unfold seqN
          rw [if_pos (by omega), if_pos (by omega)]
        have e2 : (decodeN n b0 b1 b2 b3).2 = 2 := by
          unfold decodeN
          rw [if_neg (by omega), if_pos ⟨h2, c1⟩, if_pos hv]
        rw [e, e2]
        omega
      · left
        refine ⟨?_, ?_⟩
        · unfold seqN
          rw [if_neg (by omega), if_neg (by omega), if_neg (by omega)]
        · unfold decodeN
          rw [if_neg (by omega), if_pos ⟨h2, c1⟩, if_neg hv]
    · left
      refine ⟨?_, ?_⟩
      · unfold seqN
        by_cases h : 194 ≤ b0 ∧ b0 ≤ 223
        · rw [if_pos h, if_neg (by omega)]
        · rw [if_neg h, if_neg (by omega), if_neg (by omega)]
      · unfold decodeN
        rw [if_neg (by omega), if_neg (fun h => c1 h.2), if_neg (by omega), if_neg (by omega)]
  · by_cases h3 : b0 / 16 = 14
    · have s3 : seqN n b0 b1 b2 b3 = (if (1 < n ∧ (if b0 = 224 then 160 else 128) ≤ b1 ∧ b1 ≤ (if b0 = 237 then 159 else 191)) ∧ (2 < n ∧ 128 ≤ b2 ∧ b2 ≤ 191) then 3 else 0) := by
        unfold seqN
        rw [if_neg (by omega), if_pos (by omega)]
      have d3 : decodeN n b0 b1 b2 b3 = (if (1 < n ∧ b1 / 64 = 2) ∧ (2 < n ∧ b2 / 64 = 2) then (if b0 % 16 * 4096 + b1 % 64 * 64 + b2 % 64 ≥ 2048 ∧ (b0 % 16 * 4096 + b1 % 64 * 64 + b2 % 64 < 55296 ∨ (57344 ≤ b0 % 16 * 4096 + b1 % 64 * 64 + b2 % 64 ∧ b0 % 16 * 4096 + b1 % 64 * 64 + b2 % 64 ≤ 1114111)) then (b0 % 16 * 4096 + b1 % 64 * 64 + b2 % 64, 3) else (65533, 1)) else (65533, 1)) := by
        unfold decodeN
        rw [if_neg (by omega), if_neg (by omega)]
        by_cases c : (1 < n ∧ b1 / 64 = 2) ∧ (2 < n ∧ b2 / 64 = 2)
        · rw [if_pos c, if_pos ⟨h3, c⟩]
        · rw [if_neg c, if_neg (fun h => c h.2), if_neg (by omega)]
      rw [s3, d3]
      by_cases c : (1 < n ∧ b1 / 64 = 2) ∧ (2 < n ∧ b2 / 64 = 2)
      · rw [if_pos c]
        by_cases hv : b0 % 16 * 4096 + b1 % 64 * 64 + b2 % 64 ≥ 2048 ∧ (b0 % 16 * 4096 + b1 % 64 * 64 + b2 % 64 < 55296 ∨ (57344 ≤ b0 % 16 * 4096 + b1 % 64 * 64 + b2 % 64 ∧ b0 % 16 * 4096 + b1 % 64 * 64 + b2 % 64 ≤ 1114111))
        · right
          rw [if_pos hv, if_pos (by refine ⟨⟨c.1.1, ?_, ?_⟩, c.2.1, ?_, ?_⟩ <;> (try split) <;> omega)]
          exact ⟨by omega, by omega, by omega, rfl⟩
        · left
          rw [if_neg hv, if_neg (by
            rintro ⟨⟨_, p, q⟩, _⟩
            split at p <;> split at q <;> omega)]
          exact ⟨rfl, rfl⟩
      · left
        rw [if_neg c, if_neg (by
          rintro ⟨⟨_, p, q⟩, _⟩
          split at p <;> split at q <;> omega)]
        exact ⟨rfl, rfl⟩
    · by_cases h4 : b0 / 8 = 30
      · have s4 : seqN n b0 b1 b2 b3 = (if 240 ≤ b0 ∧ b0 ≤ 244 then (if (1 < n ∧ (if b0 = 240 then 144 else 128) ≤ b1 ∧ b1 ≤ (if b0 = 244 then 143 else 191)) ∧ (2 < n ∧ 128 ≤ b2 ∧ b2 ≤ 191) ∧ (3 < n ∧ 128 ≤ b3 ∧ b3 ≤ 191) then 4 else 0) else 0) := by
          unfold seqN
          rw [if_neg (by omega), if_neg (by omega)]
        have d4 : decodeN n b0 b1 b2 b3 = (if (1 < n ∧ b1 / 64 = 2) ∧ (2 < n ∧ b2 / 64 = 2) ∧ (3 < n ∧ b3 / 64 = 2) then (if b0 % 8 * 262144 + b1 % 64 * 4096 + b2 % 64 * 64 + b3 % 64 ≥ 65536 ∧ (b0 % 8 * 262144 + b1 % 64 * 4096 + b2 % 64 * 64 + b3 % 64 < 55296 ∨ (57344 ≤ b0 % 8 * 262144 + b1 % 64 * 4096 + b2 % 64 * 64 + b3 % 64 ∧ b0 % 8 * 262144 + b1 % 64 * 4096 + b2 % 64 * 64 + b3 % 64 ≤ 1114111)) then (b0 % 8 * 262144 + b1 % 64 * 4096 + b2 % 64 * 64 + b3 % 64, 4) else (65533, 1)) else (65533, 1)) := by
          unfold decodeN
          rw [if_neg (by omega), if_neg (by omega), if_neg (by omega)]
          by_cases c : (1 < n ∧ b1 / 64 = 2) ∧ (2 < n ∧ b2 / 64 = 2) ∧ (3 < n ∧ b3 / 64 = 2)
          · rw [if_pos c, if_pos ⟨h4, c⟩]
          · rw [if_neg c, if_neg (fun h => c h.2)]
        rw [s4, d4]
        by_cases c : (1 < n ∧ b1 / 64 = 2) ∧ (2 < n ∧ b2 / 64 = 2) ∧ (3 < n ∧ b3 / 64 = 2)
        · rw [if_pos c]
          by_cases hv : b0 % 8 * 262144 + b1 % 64 * 4096 + b2 % 64 * 64 + b3 % 64 ≥ 65536 ∧ (b0 % 8 * 262144 + b1 % 64 * 4096 + b2 % 64 * 64 + b3 % 64 < 55296 ∨ (57344 ≤ b0 % 8 * 262144 + b1 % 64 * 4096 + b2 % 64 * 64 + b3 % 64 ∧ b0 % 8 * 262144 + b1 % 64 * 4096 + b2 % 64 * 64 + b3 % 64 ≤ 1114111))
          · right
            rw [if_pos hv, if_pos (by omega), if_pos (by refine ⟨⟨c.1.1, ?_, ?_⟩, ⟨c.2.1.1, ?_, ?_⟩, c.2.2.1, ?_, ?_⟩ <;> (try split) <;> omega)]
            exact ⟨by omega, by omega, by omega, rfl⟩
          · left
            rw [if_neg hv]
            refine ⟨?_, rfl⟩
            by_cases h : 240 ≤ b0 ∧ b0 ≤ 244
            · rw [if_pos h, if_neg (by
                rintro ⟨⟨_, p, q⟩, _⟩
                split at p <;> split at q <;> omega)]
            · rw [if_neg h]
        · left
          rw [if_neg c]
          refine ⟨?_, rfl⟩
          by_cases h : 240 ≤ b0 ∧ b0 ≤ 244
          · rw [if_pos h, if_neg (by
              rintro ⟨⟨_, p, q⟩, _⟩
              split at p <;> split at q <;> omega)]
          · rw [if_neg h]
      · left
        refine ⟨?_, ?_⟩
        · unfold seqN
          rw [if_neg (by omega), if_neg (by omega), if_neg (by omega)]
        · unfold decodeN
          rw [if_neg (by omega), if_neg (by omega), if_neg (by omega), if_neg (by omega)]
end Go.Proofs.YtghcggagpagfoaaGreatDoor
