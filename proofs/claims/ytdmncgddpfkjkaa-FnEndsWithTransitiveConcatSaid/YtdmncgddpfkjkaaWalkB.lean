/-
  The walks of the laws FnStartsEndsMirror and FnEndsWithTransitiveConcat (n001_82): each returns true for every input.
-/
import Derived.Test.YtdmncgddpfkjkaaWalkA
import Derived.Test.YtdmncgddpfkjkaaMem
import Derived.Lib.SlBytesRow
import Derived.Deep.OwnRows
import Derived.Outline
namespace Go.Proofs.Ytdmncgddpfkjkaa
open Go.ChangeShapes Go.WideShapes Go.ChangeAt Go.RowKit M
set_option linter.unusedVariables false
def revB (s : ByteArray) : ByteArray := ⟨s.data.reverse⟩
theorem revB_size (s : ByteArray) : (revB s).size = s.size := by show s.data.reverse.size = s.data.size; simp
theorem revB_at (s : ByteArray) (j : Nat) (hj : j < s.size) (hj' : s.size - 1 - j < (revB s).size) : (revB s)[s.size - 1 - j] = s[j] := by
  have h0 : s.size - 1 - j < s.data.reverse.size := hj'
  have h1 : s.data.size - 1 - (s.size - 1 - j) = j := by have : s.data.size = s.size := rfl; omega
  have h2 := Array.getElem_reverse (xs := s.data) (i := s.size - 1 - j) h0
  simp only [h1] at h2
  exact h2
theorem suf_rev (s t : ByteArray) : sufB (revB s) (revB t) = preB s t := by
  unfold sufB preB revB
  simp only [Array.toList_reverse, List.reverse_suffix]
theorem pre_app (s t : ByteArray) : preB (t ++ s) t = true := by
  unfold preB
  rw [decide_eq_true_eq, ByteArray.data_append, Array.toList_append]
  exact List.prefix_append _ _
theorem suf_app (u t : ByteArray) : sufB (u ++ t) t = true := by
  unfold sufB
  rw [decide_eq_true_eq, ByteArray.data_append, Array.toList_append]
  exact List.suffix_append _ _
theorem suf_self (s : ByteArray) : sufB s s = true := by unfold sufB; rw [decide_eq_true_eq]; exact List.suffix_refl _
theorem suf_empty (s : ByteArray) : sufB s ByteArray.empty = true := by unfold sufB; rw [decide_eq_true_eq]; exact List.nil_suffix
theorem suf_trans (s t u : ByteArray) (h : sufB s t = true) (k : sufB t u = true) : sufB s u = true := by
  unfold sufB at *; rw [decide_eq_true_eq] at *; exact k.trans h
def RevTo (s : ByteArray) (k : Nat) (cs : Array Value) : Prop := ∀ j (hj : j < s.size), j < k → cs[s.size - 1 - j]? = some (.int .u8 (s[j].toNat : Int))
theorem RevTo.step {s : ByteArray} {k : Nat} {cs : Array Value} (h : RevTo s k cs) (hz : cs.size = s.size) (hk : k < s.size) :
    RevTo s (k + 1) (cs.setIfInBounds (s.size - 1 - k) (.int .u8 (s[k].toNat : Int))) := by
  intro j hj hjk
  rw [Array.getElem?_setIfInBounds]
  by_cases he : j = k
  · subst he
    rw [if_pos rfl, if_pos (by omega)]
  · rw [if_neg (by omega)]
    exact h j hj (by omega)
theorem Try.info5 : (Try.prog.info? 5).map (fun i => (i.zero, i.size, i.bytes)) = some (some (.int .u8 0), 1, 1) := by kernel_rfl
theorem rev_conv (s : ByteArray) (wr : World) (g : Nat) (cs : Array Value) (hr : Row wr g 5 cs) (h : RevTo s s.size cs) :
    (convert 32 9 (.slice (some ⟨g, 0, none⟩) s.size s.size)).run Try.prog wr = .ok (.string (revB s)) wr := by
  have hb : Lib.Bytes wr g 0 (revB s) := by
    intro i hi
    have hi' := hi
    rw [revB_size] at hi'
    rw [Nat.zero_add, hr.cell]
    have h1 := h (s.size - 1 - i) (by omega) (by omega)
    have e : s.size - 1 - (s.size - 1 - i) = i := by omega
    rw [e] at h1
    rw [h1]
    have h2 := revB_at s (s.size - 1 - i) (by omega) (by rw [e]; exact hi)
    simp only [e] at h2
    rw [h2]
  have h3 := Lib.run_convert_whole (P := Try.prog) wr 32 5 9 Try.underlying32 Try.underlying5 Try.underlying9 g 0 (revB s) hb s.size
  rw [revB_size] at h3
  exact h3
theorem rev_any (s : ByteArray) (w : World) (hs : s.size ≤ 1048576) :
    Calls Try.prog 16 #[.string s] w fun e w' => e = .returned (.string (revB s)) ∧ Grown w w' := by
  have hmk := fun W => run_make_row' (P := Try.prog) 32 5 (.int .u8 0) 1 Try.underlying32 Try.info5 rfl .i64 .i64 s.size (by omega) (by omega) W
  go_enter Try.func16, Try.ntmps16
  go_wp2
  go_loopw [4] (fun i wr => ∃ (k : Nat) (cs : Array Value), k ≤ s.size ∧ i = .int .i64 k ∧ Row wr w.heap.size 5 cs ∧ cs.size = s.size ∧ RevTo s k cs ∧ Grown w wr) (fun i _ => s.size - (intOf i).toNat)
  case atStart => exact ⟨0, _, Nat.zero_le _, rfl, Row.made _ _ _, size_madeCells _ _, fun j hj h => absurd h (by omega), (Grown.refl _).alloc _ _⟩
  case round =>
    obtain ⟨k, cs, hk, rfl, hr, hz, hR, hg⟩ := hrel
    have HR := Lib.hid hr
    have HZ := Lib.hid hz
    have HV := Lib.hid hR
    by_cases hlt : k < s.size
    · obtain ⟨v, hc⟩ := hr.has (s.size - 1 - k) (by omega)
      have hf := hr.free (s.size - 1 - k)
      clear hr hz hR
      go_wp2
      exact ⟨⟨k + 1, _, by omega, by go_num, HR.out.put _ _, by simpa using HZ.out, HV.out.step HZ.out hlt, hg.setCell (Nat.le_refl _) _⟩, by simp [intOf]; omega⟩
    · have hks : k = s.size := by omega
      have hcv := rev_conv s wr w.heap.size cs hr (hks ▸ hR)
      clear hr hz hR hks
      go_wp2
      go_ret
      exact ⟨rfl, hg⟩
set_option maxHeartbeats 1000000 in
theorem fnStartsEndsMirror.walk (a0 : ByteArray) (a1 : ByteArray) (w0 : a0.size ≤ maxLen) (w1 : a1.size ≤ maxLen) (w : World) :
    Calls Try.prog 5 #[.string a0, .string a1] w fun e w' => e = .returned (.bool true) ∧ Grown w w' := by
  have hs : a0.size ≤ 9223372036854775807 := w0
  have ht : a1.size ≤ 9223372036854775807 := w1
  by_cases h0 : a0.size ≤ 262144
  · by_cases h1 : a1.size ≤ 262144
    · have hq := suf_rev a0 a1
      have hp := pre_app a0 a1
      have hz : (a1 ++ a0).size ≤ maxLen := by rw [ByteArray.size_append]; unfold maxLen; omega
      have HZ := Lib.hid hz
      clear hz
      cases hb : preB a0 a1
      all_goals rw [hb] at hq
      all_goals
       go_enter Try.func5, Try.ntmps5
       go_wp2_with (first | (go_at_call 15; go_in) | fail)
       refine (starts _ _ _ w0 w1).mono ?_
       rintro e w' ⟨rfl, rfl⟩
       go_wp2_with fail
       refine (rev_any _ _ (by omega)).mono ?_
       rintro e w2 ⟨rfl, hg2⟩
       go_wp2_with fail
       refine (rev_any _ _ (by omega)).mono ?_
       rintro e w3 ⟨rfl, hg3⟩
       go_wp2_with fail
       refine (ends _ _ _ (by rw [revB_size]; exact w0) (by rw [revB_size]; exact w1)).mono ?_
       rintro e w' ⟨rfl, rfl⟩
       go_wp2_with fail
       refine (starts _ _ _ HZ.out w1).mono ?_
       rintro e w' ⟨rfl, rfl⟩
       go_wp2_with fail
       go_ret
       exact ⟨rfl, grown_trans hg2 hg3⟩
    · go_enter Try.func5, Try.ntmps5
      go_wp2
      all_goals (go_ret; exact ⟨rfl, Grown.refl _⟩)
  · go_enter Try.func5, Try.ntmps5
    go_wp2
    all_goals (go_ret; exact ⟨rfl, Grown.refl _⟩)
set_option maxHeartbeats 1000000 in
theorem fnEndsWithTransitiveConcat.walk (a0 : ByteArray) (a1 : ByteArray) (a2 : ByteArray) (w0 : a0.size ≤ maxLen) (w1 : a1.size ≤ maxLen) (w2 : a2.size ≤ maxLen) (w : World) :
    Calls Try.prog 6 #[.string a0, .string a1, .string a2] w fun e w' => e = .returned (.bool true) ∧ Grown w w' := by
  have hs : a0.size ≤ 9223372036854775807 := w0
  have ht : a1.size ≤ 9223372036854775807 := w1
  have hu : a2.size ≤ 9223372036854775807 := w2
  by_cases h0 : a0.size ≤ 262144
  · by_cases h1 : a1.size ≤ 262144
    · by_cases h2 : a2.size ≤ 262144
      · have q1 := suf_self a0
        have q2 := suf_empty a0
        have q3 := suf_app a2 a1
        have hz : (a2 ++ a1).size ≤ maxLen := by rw [ByteArray.size_append]; unfold maxLen; omega
        have HZ := Lib.hid hz
        have he : ByteArray.empty.size ≤ maxLen := Nat.zero_le _
        have HE := Lib.hid he
        have HT := Lib.hid (suf_trans a0 a1 a2)
        clear hz he
        cases b1 : sufB a0 a1 <;> cases b2 : sufB a1 a2
        case true.true =>
          have b3 := HT.out b1 b2
          go_enter Try.func6, Try.ntmps6
          go_wp2_with (first | (go_at_call 17; go_in) | fail)
          iterate 6 (refine (ends _ _ _ (by first | assumption | exact HZ.out | exact HE.out) (by first | assumption | exact HZ.out | exact HE.out)).mono ?_; rintro e w' ⟨rfl, rfl⟩; go_wp2_with fail)
          go_ret
          exact ⟨rfl, Grown.refl _⟩
        all_goals
          go_enter Try.func6, Try.ntmps6
          go_wp2_with (first | (go_at_call 17; go_in) | fail)
          iterate 6 (refine (ends _ _ _ (by first | assumption | exact HZ.out | exact HE.out) (by first | assumption | exact HZ.out | exact HE.out)).mono ?_; rintro e w' ⟨rfl, rfl⟩; go_wp2_with fail)
          go_ret
          exact ⟨rfl, Grown.refl _⟩
      · go_enter Try.func6, Try.ntmps6
        go_wp2
        all_goals (go_ret; exact ⟨rfl, Grown.refl _⟩)
    · go_enter Try.func6, Try.ntmps6
      go_wp2
      all_goals (go_ret; exact ⟨rfl, Grown.refl _⟩)
  · go_enter Try.func6, Try.ntmps6
    go_wp2
    all_goals (go_ret; exact ⟨rfl, Grown.refl _⟩)
end Go.Proofs.Ytdmncgddpfkjkaa
