/-
  Plain facts on trimming: what is left when a leading or trailing string is dropped once.
-/
import Derived.Test.YtnbfphjkpicajaaBase
namespace Go.Proofs.Ytnbfphjkpicajaa
set_option linter.unusedVariables false
theorem bext {s t : ByteArray} (h : s.data.toList = t.data.toList) : s = t := by
  apply ByteArray.ext
  exact Array.toList_inj.1 h
theorem ex_tail (s : ByteArray) (a : Nat) : (s.extract a s.size).data.toList = s.data.toList.drop a := by
  rw [Lib.extract_data]
  exact List.take_of_length_le (by rw [List.length_drop, dlen]; omega)
theorem ex_head (s : ByteArray) (b : Nat) : (s.extract 0 b).data.toList = s.data.toList.take b := by
  rw [Lib.extract_data]; simp
theorem ltr_data (s t : ByteArray) (h : preB s t = true) : (ltr s t).data.toList = s.data.toList.drop t.size := by
  unfold ltr; rw [if_pos h, ex_tail]
theorem rtr_data (s t : ByteArray) (h : sufB s t = true) : (rtr s t).data.toList = s.data.toList.take (s.size - t.size) := by
  unfold rtr; rw [if_pos h, ex_head]
theorem ltr_app (s t : ByteArray) : ltr (t ++ s) t = s := by
  have hp : preB (t ++ s) t = true := by
    unfold preB
    rw [decide_eq_true_eq, ByteArray.data_append, Array.toList_append]
    exact List.prefix_append _ _
  apply bext
  rw [ltr_data _ _ hp, ByteArray.data_append, Array.toList_append]
  exact List.drop_left' (dlen t)
theorem rtr_app (s t : ByteArray) : rtr (s ++ t) t = s := by
  have hp : sufB (s ++ t) t = true := by
    unfold sufB
    rw [decide_eq_true_eq, ByteArray.data_append, Array.toList_append]
    exact List.suffix_append _ _
  apply bext
  rw [rtr_data _ _ hp, ByteArray.data_append, Array.toList_append, ByteArray.size_append]
  exact List.take_left' (by rw [dlen]; omega)
theorem tr_app (s t : ByteArray) : rtr (ltr (t ++ s ++ t) t) t = s := by
  rw [ByteArray.append_assoc, ltr_app, rtr_app]
theorem ltr_suf (s t : ByteArray) : sufB s (ltr s t) = true := by
  unfold sufB
  rw [decide_eq_true_eq]
  by_cases h : preB s t = true
  · rw [ltr_data _ _ h]; exact List.drop_suffix _ _
  · unfold ltr; rw [if_neg h]; exact List.suffix_refl _
theorem rtr_pre (s t : ByteArray) : preB s (rtr s t) = true := by
  unfold preB
  rw [decide_eq_true_eq]
  by_cases h : sufB s t = true
  · rw [rtr_data _ _ h]; exact List.take_prefix _ _
  · unfold rtr; rw [if_neg h]; exact List.prefix_refl _
theorem ltr_size (s t : ByteArray) : (ltr s t).size = s.size ∨ (ltr s t).size + t.size = s.size := by
  by_cases h : preB s t = true
  · right
    have := pre_len s t h
    rw [← dlen, ltr_data _ _ h, List.length_drop, dlen]; omega
  · left; unfold ltr; rw [if_neg h]
theorem rtr_size (s t : ByteArray) : (rtr s t).size = s.size ∨ (rtr s t).size + t.size = s.size := by
  by_cases h : sufB s t = true
  · right
    have := suf_len s t h
    rw [← dlen, rtr_data _ _ h, List.length_take, dlen]; omega
  · left; unfold rtr; rw [if_neg h]
theorem tr_size (s t : ByteArray) : (rtr (ltr s t) t).size = s.size ∨ (rtr (ltr s t) t).size + t.size = s.size ∨ (rtr (ltr s t) t).size + 2 * t.size = s.size := by
  have h1 := ltr_size s t
  have h2 := rtr_size (ltr s t) t
  omega
theorem suf_drop (s t : ByteArray) (hp : preB s t = true) : sufB (ltr s t) t = (decide (t.size ≤ s.size - t.size) && sufB s t) := by
  have hl := pre_len s t hp
  have hz : (ltr s t).data.toList.length = s.size - t.size := by rw [ltr_data _ _ hp, List.length_drop, dlen]
  rw [Bool.eq_iff_iff]
  simp only [sufB, Bool.and_eq_true, decide_eq_true_eq]
  rw [ltr_data _ _ hp]
  constructor
  · intro h
    have h1 := h.length_le
    rw [List.length_drop, dlen, dlen] at h1
    exact ⟨h1, h.trans (List.drop_suffix _ _)⟩
  · rintro ⟨h1, h2⟩
    exact List.suffix_of_suffix_length_le h2 (List.drop_suffix _ _) (by rw [List.length_drop, dlen, dlen]; exact h1)
theorem tr_tt (s t : ByteArray) (hp : preB s t = true) (hs : sufB s t = true) (hl : t.size ≤ s.size - t.size) : rtr (ltr s t) t = s.extract t.size (s.size - t.size) := by
  have h1 : sufB (ltr s t) t = true := by rw [suf_drop s t hp, hs]; simpa using hl
  apply bext
  rw [rtr_data _ _ h1, ltr_data _ _ hp, Lib.extract_data]
  congr 1
  rw [← dlen (ltr s t), ltr_data _ _ hp, List.length_drop, dlen]
theorem tr_tf (s t : ByteArray) (hp : preB s t = true) (hs : sufB (ltr s t) t = false) : rtr (ltr s t) t = s.extract t.size s.size := by
  unfold rtr
  rw [hs]
  show ltr s t = _
  unfold ltr; rw [if_pos hp]
theorem tr_ft (s t : ByteArray) (hp : preB s t = false) (hs : sufB s t = true) : rtr (ltr s t) t = s.extract 0 (s.size - t.size) := by
  have : ltr s t = s := by unfold ltr; rw [hp]; rfl
  rw [this]; unfold rtr; rw [if_pos hs]
theorem tr_ff (s t : ByteArray) (hp : preB s t = false) (hs : sufB s t = false) : rtr (ltr s t) t = s.extract 0 s.size := by
  have : ltr s t = s := by unfold ltr; rw [hp]; rfl
  rw [this]; unfold rtr; rw [hs, if_neg (by simp)]
  apply bext
  rw [ex_head]
  exact (List.take_of_length_le (by rw [dlen]; omega)).symm
end Go.Proofs.Ytnbfphjkpicajaa
