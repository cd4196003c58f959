/-
  Plain facts on strings as byte lists: what the walks of HasPrefix and HasSuffix leave, said as the list relations 'is a prefix of', 'is a suffix of'.
-/
import Derived.Lib.Strings
import Derived.WalkKit
namespace Go.Proofs.Ytnbfphjkpicajaa
set_option linter.unusedVariables false
def preB (s t : ByteArray) : Bool := decide (t.data.toList <+: s.data.toList)
def sufB (s t : ByteArray) : Bool := decide (t.data.toList <:+ s.data.toList)
theorem toL (s : ByteArray) : s.toList = s.data.toList := ByteArray.toList_eq s
theorem dlen (s : ByteArray) : s.data.toList.length = s.size := Array.length_toList
theorem pre_walk (s t : ByteArray) (h : t.size ≤ s.size) : ((s.extract 0 t.size).toList == t.toList) = preB s t := by
  unfold preB
  rw [toL, toL, Lib.extract_data, Bool.eq_iff_iff]
  simp only [beq_iff_eq, decide_eq_true_eq, List.prefix_iff_eq_take, List.drop_zero, Nat.sub_zero, dlen]
  exact ⟨fun h => h.symm, fun h => h.symm⟩
theorem pre_short (s t : ByteArray) (h : ¬ t.size ≤ s.size) : preB s t = false := by
  unfold preB
  rw [decide_eq_false_iff_not]
  intro hp
  have := hp.length_le
  rw [dlen, dlen] at this
  exact h this
theorem suf_walk (s t : ByteArray) (h : t.size ≤ s.size) : ((s.extract (s.size - t.size) s.size).toList == t.toList) = sufB s t := by
  unfold sufB
  rw [toL, toL, Lib.extract_data, Bool.eq_iff_iff]
  simp only [beq_iff_eq, decide_eq_true_eq, List.suffix_iff_eq_drop, dlen]
  rw [List.take_of_length_le (by rw [List.length_drop, dlen]; omega)]
  exact ⟨fun h => h.symm, fun h => h.symm⟩
theorem suf_short (s t : ByteArray) (h : ¬ t.size ≤ s.size) : sufB s t = false := by
  unfold sufB
  rw [decide_eq_false_iff_not]
  intro hp
  have := hp.length_le
  rw [dlen, dlen] at this
  exact h this
theorem gi (s : ByteArray) (i : Nat) (h : i < s.size) : s.data.toList[i]'(by rw [dlen]; exact h) = s[i] := by
  simp only [Array.getElem_toList]; rfl
theorem pre_take (s t : ByteArray) (k : Nat) (hk : k < t.size) (h : t.size ≤ s.size) (hp : t.data.toList.take k <+: s.data.toList) (he : s[k] = t[k]) :
    t.data.toList.take (k + 1) <+: s.data.toList := by
  rw [List.prefix_iff_eq_take] at hp ⊢
  have hl : ∀ j, j ≤ t.size → (t.data.toList.take j).length = j := fun j hj => by rw [List.length_take, dlen]; omega
  rw [hl _ (by omega)] at hp ⊢
  rw [List.take_succ_eq_append_getElem (by rw [dlen]; exact hk), List.take_succ_eq_append_getElem (by rw [dlen]; omega), hp, gi t k hk, gi s k (by omega), he]
theorem pre_not (s t : ByteArray) (k : Nat) (hk : k < t.size) (h : t.size ≤ s.size) (he : s[k] ≠ t[k]) : preB s t = false := by
  unfold preB
  rw [decide_eq_false_iff_not]
  intro hp
  apply he
  have h2 := (List.prefix_iff_getElem.1 hp).2 k (by rw [dlen]; exact hk)
  rw [gi t k hk, gi s k (by omega)] at h2
  exact h2.symm
theorem suf_take (s t : ByteArray) (k : Nat) (hk : k < t.size) (h : t.size ≤ s.size) (hp : t.data.toList.take k <+: s.data.toList.drop (s.size - t.size)) (he : s[s.size - t.size + k] = t[k]) :
    t.data.toList.take (k + 1) <+: s.data.toList.drop (s.size - t.size) := by
  rw [List.prefix_iff_eq_take] at hp ⊢
  have hl : ∀ j, j ≤ t.size → (t.data.toList.take j).length = j := fun j hj => by rw [List.length_take, dlen]; omega
  rw [hl _ (by omega)] at hp ⊢
  rw [List.take_succ_eq_append_getElem (by rw [dlen]; exact hk), List.take_succ_eq_append_getElem (by rw [List.length_drop, dlen]; omega), hp, gi t k hk, List.getElem_drop, gi s _ (by omega), he]
theorem suf_all (s t : ByteArray) (h : t.size ≤ s.size) (hp : t.data.toList.take t.size <+: s.data.toList.drop (s.size - t.size)) : sufB s t = true := by
  unfold sufB
  rw [decide_eq_true_eq, List.suffix_iff_eq_drop, dlen, dlen]
  rw [List.take_of_length_le (by rw [dlen]; omega)] at hp
  exact hp.eq_of_length (by rw [List.length_drop, dlen, dlen]; omega)
theorem suf_not (s t : ByteArray) (k : Nat) (hk : k < t.size) (h : t.size ≤ s.size) (he : s[s.size - t.size + k] ≠ t[k]) : sufB s t = false := by
  unfold sufB
  rw [decide_eq_false_iff_not]
  intro hp
  apply he
  rw [List.suffix_iff_eq_drop, dlen, dlen] at hp
  have h2 : t.data.toList[k]'(by rw [dlen]; exact hk) = (s.data.toList.drop (s.size - t.size))[k]'(by rw [List.length_drop, dlen]; omega) := by
    congr 1
  rw [gi t k hk, List.getElem_drop, gi s _ (by omega)] at h2
  exact h2.symm
theorem pre_all (s t : ByteArray) (hp : t.data.toList.take t.size <+: s.data.toList) : preB s t = true := by
  unfold preB
  rw [decide_eq_true_eq]
  rwa [List.take_of_length_le (by rw [dlen]; omega)] at hp
theorem byte_ne (a b : UInt8) (h : ((a.toNat : Int) != (b.toNat : Int)) = true) : a ≠ b := by
  rintro rfl; simp at h
theorem byte_eq (a b : UInt8) (h : ((a.toNat : Int) != (b.toNat : Int)) = false) : a = b := by
  have h2 : (a.toNat : Int) = (b.toNat : Int) := by simpa using h
  have : a.toNat = b.toNat := by omega
  exact UInt8.toNat_inj.1 this
end Go.Proofs.Ytnbfphjkpicajaa
