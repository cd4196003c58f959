/-
  The escaped text is valid UTF-8 as zzValidUTF8 reads it (n001_83).
-/
import Derived.Test.YtfbpffgcofdciaaDoorBnd
import Derived.RegionTactic
import Derived.BigQuiet
namespace Go.Proofs.YtfbpffgcofdciaaDoor
set_option linter.unusedVariables false
open Go.ChangeShapes Go.WideShapes Go.ChangeAt Go.RowKit M
def vu (r : ByteArray) : Nat → Nat → Prop
  | 0, i => i = r.size
  | f + 1, i => i = r.size ∨ ∃ h : i < r.size, (r[i].toNat < 128 ∧ vu r f (i + 1)) ∨ (¬ r[i].toNat < 128 ∧ seqS r i ≠ 0 ∧ i + seqS r i ≤ r.size ∧ vu r f (i + seqS r i))
theorem drop_at {r : ByteArray} {j t : Nat} {L : List UInt8} {b : UInt8} (h : r.data.toList.drop j = L) (hb : L[t]? = some b) : j + t < r.size ∧ r.get! (j + t) = b := by
  rw [← h, List.getElem?_drop] at hb
  have hlt := (List.getElem?_eq_some_iff.1 hb).1
  rw [Array.length_toList] at hlt
  have hlt' : j + t < r.size := hlt
  refine ⟨hlt', ?_⟩
  rw [get_bang r (j + t) hlt']
  have h2 := (List.getElem?_eq_some_iff.1 hb).2
  rw [← h2]
  rfl
theorem drop_next {r : ByteArray} {j : Nat} {A L : List UInt8} (h : r.data.toList.drop j = A ++ L) : r.data.toList.drop (j + A.length) = L := by
  rw [← List.drop_drop, h, List.drop_left]
theorem vu_ascii (r : ByteArray) : ∀ (A L : List UInt8) (f j : Nat), r.data.toList.drop j = A ++ L → (∀ b ∈ A, b.toNat < 128) → vu r f (j + A.length) → vu r (f + A.length) j
  | [], _, _, _, _, _, h => h
  | a :: A, L, f, j, hd, ha, h => by
    have h0 := drop_at (t := 0) hd rfl
    have hn : r.data.toList.drop (j + 1) = A ++ L := drop_next (A := [a]) hd
    refine .inr ⟨h0.1, .inl ⟨?_, ?_⟩⟩
    · rw [← get_bang r j h0.1]
      have := h0.2
      rw [Nat.add_zero] at this
      rw [this]
      exact ha a (.head _)
    · refine vu_ascii r A L f (j + 1) hn (fun b hb => ha b (.tail _ hb)) ?_
      rw [List.length_cons] at h
      rw [show j + 1 + A.length = j + (A.length + 1) by omega]
      exact h
def At (r s : ByteArray) (j k : Nat) : Prop := r.data.toList.drop j = tail s k ++ [34]
theorem vu_tail (r s : ByteArray) : ∀ n k j, s.size - k ≤ n → k ≤ s.size → At r s j k → ∃ f, vu r f j
  | 0, k, j, hn, hk, h => by
    obtain rfl : k = s.size := by omega
    unfold At at h
    rw [tail_end] at h
    refine ⟨0 + [(34 : UInt8)].length, vu_ascii r [34] [] 0 j (by rw [h]; rfl) (by simp) ?_⟩
    have h1 := congrArg List.length h
    have h2 := (drop_at (t := 0) h rfl).1
    rw [List.length_drop, Array.length_toList] at h1
    have h3 : r.size - j = 1 := h1
    show j + 1 = r.size
    omega
  | n + 1, k, j, hn, hk, h => by
    by_cases hlt : k < s.size
    · have hp := piece_pos s k
      have hle := piece_le s k hlt
      unfold At at h
      rw [tail_step s k hlt, List.append_assoc] at h
      obtain ⟨f, hf⟩ := vu_tail r s n (k + (piece s k).2) (j + (piece s k).1.length) (by omega) hle (drop_next h)
      rcases piece_cases s k hlt with ⟨_, h1, h2⟩ | ⟨_, h1⟩ | ⟨h1, h2, h3, _, h4⟩
      · refine ⟨_, vu_ascii r _ _ f j h ?_ hf⟩
        intro b hb
        rw [h1, List.mem_map] at hb
        obtain ⟨x, hx, rfl⟩ := hb
        have := escA_all _ h2 x hx
        rw [ofNat_toNat (by omega)]
        exact this.2.2
      · refine ⟨_, vu_ascii r _ _ f j h ?_ hf⟩
        rw [h1]
        intro b hb
        simp only [List.mem_cons, List.mem_nil_iff, or_false] at hb
        rcases hb with rfl | rfl | rfl | rfl | rfl | rfl
        all_goals decide
      · rw [h4] at h hf
        rw [cutN_len s k _ h3] at hf
        have key : ∀ t, t < seqS s k → j + t < r.size ∧ r.get! (j + t) = s.get! (k + t) := fun t ht =>
          drop_at (t := t) h (by rw [List.getElem?_append_left (by rw [cutN_len s k _ h3]; exact ht)]; exact cutN_at s k _ h3 t ht)
        have k0 := key 0 (by omega)
        rw [Nat.add_zero, Nat.add_zero] at k0
        have hs : seqS r j = seqS s k := by
          refine seq_same r s j k h2 k0.2 fun t ht lo hi => ?_
          obtain ⟨ka, kb⟩ := key t ht
          unfold contB
          rw [kb, decide_eq_true ka, decide_eq_true (show k + t < s.size by omega)]
        refine ⟨f + 1, .inr ⟨k0.1, .inr ⟨?_, by rw [hs]; exact h2, ?_, by rw [hs]; exact hf⟩⟩⟩
        · rw [← get_bang r j k0.1, k0.2]
          omega
        · have := (key (seqS s k - 1) (by omega)).1
          omega
    · obtain rfl : k = s.size := by omega
      exact vu_tail r s n s.size j (by omega) (Nat.le_refl _) h
theorem quoted_vu (r s : ByteArray) (h : r.data.toList = quoted s) : ∃ f, vu r f 0 := by
  have h0 : r.data.toList.drop 0 = [34] ++ (tail s 0 ++ [34]) := by
    rw [List.drop_zero, h]
    simp [quoted]
  obtain ⟨f, hf⟩ := vu_tail r s s.size 0 (0 + [(34 : UInt8)].length) (by omega) (by omega) (drop_next h0)
  exact ⟨_, vu_ascii r [34] _ f 0 h0 (by simp) hf⟩
set_option maxRecDepth 100000 in
theorem validC (w : World) (r : ByteArray) (f0 : Nat) (hv : vu r f0 0) (hm : r.size ≤ 1073741824) : Calls Tryd.prog 10 #[.string r] w fun e w' => e = .returned (.bool true) ∧ w' = w := by
  have HV := Lib.hid hv
  clear hv
  go_enter Tryd.func10, Tryd.ntmps10
  go_wp2_with fail
  go_loopw [3] (fun i wr => ∃ k f : Nat, i = .int .i64 k ∧ k ≤ r.size ∧ Hid (vu r f k) ∧ wr = w) (fun i _ => r.size - (intOf i).toNat)
  case atStart => exact ⟨0, f0, rfl, Nat.zero_le _, HV, rfl⟩
  case round =>
    obtain ⟨k, f, rfl, hk, HF, rfl⟩ := hrel
    by_cases hlt : k < r.size
    · obtain ⟨g, hg⟩ : ∃ g, (r[k].toNat < 128 ∧ vu r g (k + 1)) ∨ (¬ r[k].toNat < 128 ∧ seqS r k ≠ 0 ∧ k + seqS r k ≤ r.size ∧ vu r g (k + seqS r k)) := by
        have hf := HF.out
        cases f with
        | zero => exact absurd hf (by show ¬ k = r.size; omega)
        | succ g =>
          rcases hf with h | ⟨_, h⟩
          · omega
          · exact ⟨g, h⟩
      rcases hg with ⟨q, hn⟩ | ⟨q, h0, hle, hn⟩
      · have HN := Lib.hid hn
        clear hn
        go_wp2_with fail
        exact ⟨⟨k + 1, g, by go_num, by omega, HN, trivial⟩, by simp [intOf]; omega⟩
      · obtain ⟨m, hm⟩ : ∃ m, m = seqS r k := ⟨_, rfl⟩
        have HS : SeqIs r k m := by rw [hm]; exact seqC r k hlt (by omega)
        rw [← hm] at hn h0 hle
        have HN := Lib.hid hn
        have hmz : ((m : Int) == 0) = false := by simpa using h0
        have p128 : decide ((r[k].toNat : Int) < 128) = false := decide_eq_false (by omega)
        clear hn hm
        go_wp2_with fail
        refine (HS _).mono ?_
        rintro e w' ⟨rfl, rfl⟩
        go_wp2_with fail
        exact ⟨⟨k + m, g, by go_num, by omega, HN, trivial⟩, by simp [intOf]; omega⟩
    · obtain rfl : k = r.size := by omega
      go_wp2_with fail
      go_ret
      exact ⟨rfl, rfl⟩
end Go.Proofs.YtfbpffgcofdciaaDoor
