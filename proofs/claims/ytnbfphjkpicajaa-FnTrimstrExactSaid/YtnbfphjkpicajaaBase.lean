/-
  Contracts of the seat n001_95: HasPrefix, HasSuffix, TrimPrefix, TrimSuffix, the thin exports over ltrimstr, rtrimstr and trimstr, and the laws' own tests of prefix and suffix.
-/
import Derived.Test.YtnbfphjkpicajaaPlain
import Derived.Test.YtnbfphjkpicajaaMem
import Derived.Test.YtnbfphjkpicajaaRows
import Derived.WalkKit
import Derived.IntWalk
import Derived.ProofKit
import Derived.WalkSpells
import Derived.WalkLawsBesides
import Derived.Deep.QuietTactic
import Derived.BigQuiet
import Derived.Lib.Hide
import Derived.Outline
namespace Go.Proofs.Ytnbfphjkpicajaa
set_option linter.unusedVariables false
open Go.ChangeShapes Go.WideShapes Go.ChangeAt Go.RowKit M
@[go_sem] theorem as9_9 (v : Value) (w : World) : (Instr.typeAssert (.iface 9 v) 20 9 true).run Try.prog w = .ok (.tuple #[v, .bool true]) w := by kernel_rfl
@[go_sem] theorem as3_9 (v : Value) (w : World) : (Instr.typeAssert (.iface 3 v) 20 9 true).run Try.prog w = .ok (.tuple #[.string ByteArray.empty, .bool false]) w := by kernel_rfl
@[go_sem] theorem as29_29 (v : Value) (w : World) : (Instr.typeAssert (.iface 29 v) 20 29 true).run Try.prog w = .ok (.tuple #[v, .bool true]) w := by kernel_rfl
def Ret (b : Bool) (w : World) (e : Ending) (w' : World) : Prop := e = .returned (.bool b) ∧ ∃ n, w' = w.drewN n
theorem pre_len (s t : ByteArray) (h : preB s t = true) : t.size ≤ s.size := by
  by_cases hl : t.size ≤ s.size
  · exact hl
  · rw [pre_short s t hl] at h; cases h
theorem suf_len (s t : ByteArray) (h : sufB s t = true) : t.size ≤ s.size := by
  by_cases hl : t.size ≤ s.size
  · exact hl
  · rw [suf_short s t hl] at h; cases h
/-- What is left of s when a leading t is dropped, once. -/
def ltr (s t : ByteArray) : ByteArray := if preB s t = true then s.extract t.size s.size else s
def rtr (s t : ByteArray) : ByteArray := if sufB s t = true then s.extract 0 (s.size - t.size) else s
theorem ext_size (s : ByteArray) (a b : Nat) (h : b ≤ s.size) : (s.extract a b).size = b - a := by rw [ByteArray.size_extract]; omega
theorem ltr_le (s t : ByteArray) : (ltr s t).size ≤ s.size := by
  unfold ltr
  split
  · rw [ext_size _ _ _ (Nat.le_refl _)]; omega
  · exact Nat.le_refl _
theorem hp (s t : ByteArray) (w : World) (hs : s.size ≤ maxLen) (ht : t.size ≤ maxLen) :
    Calls Try.prog 25 #[.string s, .string t] w fun e w' => e = .returned (.bool (preB s t)) ∧ w = w' := by
  unfold maxLen at hs ht
  by_cases h : t.size ≤ s.size
  · have H := Lib.hid (pre_walk s t h)
    go_enter Try.func25, Try.ntmps25
    go_wp2
    go_ret
    exact ⟨ret_b H.out, rfl⟩
  · have H := Lib.hid (pre_short s t h)
    go_enter Try.func25, Try.ntmps25
    go_wp2
    go_ret
    exact ⟨ret_b H.out.symm, rfl⟩
theorem hs (s t : ByteArray) (w : World) (hs : s.size ≤ maxLen) (ht : t.size ≤ maxLen) :
    Calls Try.prog 26 #[.string s, .string t] w fun e w' => e = .returned (.bool (sufB s t)) ∧ w = w' := by
  unfold maxLen at hs ht
  by_cases h : t.size ≤ s.size
  · have H := Lib.hid (suf_walk s t h)
    go_enter Try.func26, Try.ntmps26
    go_wp2
    go_ret
    exact ⟨ret_b H.out, rfl⟩
  · have H := Lib.hid (suf_short s t h)
    go_enter Try.func26, Try.ntmps26
    go_wp2
    go_ret
    exact ⟨ret_b H.out.symm, rfl⟩
theorem tp (s t : ByteArray) (w : World) (h1 : s.size ≤ maxLen) (h2 : t.size ≤ maxLen) :
    Calls Try.prog 21 #[.string s, .string t] w fun e w' => e = .returned (.string (ltr s t)) ∧ w = w' := by
  cases hb : preB s t
  · have H := Lib.hid (show ltr s t = s by unfold ltr; rw [hb]; rfl)
    go_enter Try.func21, Try.ntmps21
    go_wp2_with (first | (go_at_call 25; refine (hp _ _ _ h1 h2).mono ?_; rintro e w' ⟨rfl, rfl⟩) | go_in)
    go_ret
    exact ⟨ret_s H.out.symm, rfl⟩
  · have H := Lib.hid (show ltr s t = s.extract t.size s.size by unfold ltr; rw [hb]; rfl)
    have hl := pre_len s t hb
    unfold maxLen at h1 h2
    go_enter Try.func21, Try.ntmps21
    go_wp2_with (first | (go_at_call 25; refine (hp _ _ _ h1 h2).mono ?_; rintro e w' ⟨rfl, rfl⟩) | go_in)
    go_ret
    exact ⟨ret_s H.out.symm, rfl⟩
theorem ts (s t : ByteArray) (w : World) (h1 : s.size ≤ maxLen) (h2 : t.size ≤ maxLen) :
    Calls Try.prog 22 #[.string s, .string t] w fun e w' => e = .returned (.string (rtr s t)) ∧ w = w' := by
  cases hb : sufB s t
  · have H := Lib.hid (show rtr s t = s by unfold rtr; rw [hb]; rfl)
    go_enter Try.func22, Try.ntmps22
    go_wp2_with (first | (go_at_call 26; refine (hs _ _ _ h1 h2).mono ?_; rintro e w' ⟨rfl, rfl⟩) | go_in)
    go_ret
    exact ⟨ret_s H.out.symm, rfl⟩
  · have H := Lib.hid (show rtr s t = s.extract 0 (s.size - t.size) by unfold rtr; rw [hb]; rfl)
    have hl := suf_len s t hb
    unfold maxLen at h1 h2
    go_enter Try.func22, Try.ntmps22
    go_wp2_with (first | (go_at_call 26; refine (hs _ _ _ h1 h2).mono ?_; rintro e w' ⟨rfl, rfl⟩) | go_in)
    go_ret
    exact ⟨ret_s H.out.symm, rfl⟩
theorem ltrs (s t : ByteArray) (w : World) (h1 : s.size ≤ maxLen) (h2 : t.size ≤ maxLen) :
    Calls Try.prog 8 #[.string s, .string t] w fun e w' => e = .returned (.tuple #[.string (ltr s t), .bool true]) ∧ w = w' := by
  go_enter Try.func8, Try.ntmps8
  go_wp2_with (first | (go_at_call 21; refine (tp _ _ _ h1 h2).mono ?_; rintro e w' ⟨rfl, rfl⟩) | go_in)
  go_ret2
  exact ⟨rfl, rfl⟩
theorem rtrs (s t : ByteArray) (w : World) (h1 : s.size ≤ maxLen) (h2 : t.size ≤ maxLen) :
    Calls Try.prog 11 #[.string s, .string t] w fun e w' => e = .returned (.tuple #[.string (rtr s t), .bool true]) ∧ w = w' := by
  go_enter Try.func11, Try.ntmps11
  go_wp2_with (first | (go_at_call 22; refine (ts _ _ _ h1 h2).mono ?_; rintro e w' ⟨rfl, rfl⟩) | go_in)
  go_ret2
  exact ⟨rfl, rfl⟩
theorem trs (s t : ByteArray) (w : World) (h1 : s.size ≤ maxLen) (h2 : t.size ≤ maxLen) :
    Calls Try.prog 14 #[.string s, .string t] w fun e w' => e = .returned (.tuple #[.string (rtr (ltr s t) t), .bool true]) ∧ w = w' := by
  have h3 := Lib.hid (Nat.le_trans (ltr_le s t) h1)
  go_enter Try.func14, Try.ntmps14
  go_wp2_with (first | (go_at_call 21; refine (tp _ _ _ h1 h2).mono ?_; rintro e w' ⟨rfl, rfl⟩) | (go_at_call 22; refine (ts _ _ _ h3.out h2).mono ?_; rintro e w' ⟨rfl, rfl⟩) | go_in)
  go_ret2
  exact ⟨rfl, rfl⟩
theorem tr_subj (n : Int) (t : ByteArray) (w : World) :
    Calls Try.prog 16 #[.int .i64 n, .string t] w fun e w' => e = .returned (.bool true) ∧ Grown w w' := by
  go_enter Try.func16, Try.ntmps16
  go_wp2
  go_ret
  exact ⟨rfl, by repeat (first | exact Grown.refl _ | apply Grown.drew | apply Grown.alloc)⟩
theorem tr_pat (s : ByteArray) (n : Int) (w : World) :
    Calls Try.prog 17 #[.string s, .int .i64 n] w fun e w' => e = .returned (.bool true) ∧ Grown w w' := by
  go_enter Try.func17, Try.ntmps17
  go_wp2
  go_ret
  exact ⟨rfl, by repeat (first | exact Grown.refl _ | apply Grown.drew | apply Grown.alloc)⟩
theorem zpre (s t : ByteArray) (w : World) (hs : s.size ≤ maxLen) (ht : t.size ≤ maxLen) :
    Calls Try.prog 12 #[.string s, .string t] w (Ret (preB s t) w) := by
  unfold maxLen at hs ht
  by_cases h : t.size ≤ s.size
  · go_enter Try.func12, Try.ntmps12
    go_wp2
    go_loopw [5] (fun i wr => ∃ k n : Nat, k ≤ t.size ∧ t.data.toList.take k <+: s.data.toList ∧ i = .int .i64 k ∧ wr = w.drewN n) (fun i _ => t.size - (intOf i).toNat)
    case atStart => exact ⟨0, 0, Nat.zero_le _, by simp, rfl, rfl⟩
    case round =>
      obtain ⟨k, n, hk, hp, rfl, rfl⟩ := hrel
      have HP := Lib.hid hp; clear hp
      by_cases hlt : k < t.size
      · have hlt2 : k < s.size := by omega
        by_cases he : s[k] = t[k]
        · have h1 : ((s[k].toNat : Int) != (t[k].toNat : Int)) = false := by simp [he]
          have HE := Lib.hid he; clear he
          go_wp2
          go_quiet (fail)
          go_wp2
          exact ⟨⟨k + 1, _, by omega, pre_take s t k hlt h HP.out HE.out, by go_num, rfl⟩, by simp [intOf]; omega⟩
        · have HE := Lib.hid (pre_not s t k hlt h he)
          have h1 : ((s[k].toNat : Int) != (t[k].toNat : Int)) = true := by
            cases hh : ((s[k].toNat : Int) != (t[k].toNat : Int)) with
            | true => rfl
            | false => exact absurd (byte_eq _ _ hh) he
          clear he
          go_wp2
          go_quiet (fail)
          go_wp2
          go_ret
          exact ⟨ret_b HE.out.symm, n + nq, drewNN _ _ _⟩
      · have hkt : k = t.size := by omega
        have HE := Lib.hid (pre_all s t (hkt ▸ HP.out))
        clear hkt
        go_wp2
        go_ret
        exact ⟨ret_b HE.out.symm, n, rfl⟩
  · have H := Lib.hid (pre_short s t h)
    go_enter Try.func12, Try.ntmps12
    go_wp2
    go_ret
    exact ⟨ret_b H.out.symm, 0, rfl⟩
theorem zsuf (s t : ByteArray) (w : World) (hs : s.size ≤ maxLen) (ht : t.size ≤ maxLen) :
    Calls Try.prog 9 #[.string s, .string t] w (Ret (sufB s t) w) := by
  unfold maxLen at hs ht
  by_cases h : t.size ≤ s.size
  · go_enter Try.func9, Try.ntmps9
    go_wp2
    go_loopw [6] (fun i wr => ∃ k n : Nat, k ≤ t.size ∧ t.data.toList.take k <+: s.data.toList.drop (s.size - t.size) ∧ i = .int .i64 k ∧ wr = w.drewN n) (fun i _ => t.size - (intOf i).toNat)
    case atStart => exact ⟨0, 0, Nat.zero_le _, by simp, rfl, rfl⟩
    case round =>
      obtain ⟨k, n, hk, hp, rfl, rfl⟩ := hrel
      have HP := Lib.hid hp; clear hp
      by_cases hlt : k < t.size
      · have hlt2 : s.size - t.size + k < s.size := by omega
        have i1 : (0 : Int) ≤ (s.size : Int) - (t.size : Int) + (k : Int) := by omega
        have i2 : (s.size : Int) - (t.size : Int) + (k : Int) < (s.size : Int) := by omega
        have i3 : IntKind.i64.wrap ((s.size : Int) - (t.size : Int) + (k : Int)) = (s.size : Int) - (t.size : Int) + (k : Int) := IntWalk.i64_in _ (by omega)
        have i4 : ((s.size : Int) - (t.size : Int) + (k : Int)).toNat = s.size - t.size + k := by omega
        by_cases he : s[s.size - t.size + k] = t[k]
        · have h1 : ((s[s.size - t.size + k].toNat : Int) != (t[k].toNat : Int)) = false := by simp [he]
          have HE := Lib.hid he; clear he
          go_wp2
          go_quiet (fail)
          go_wp2
          exact ⟨⟨k + 1, _, by omega, suf_take s t k hlt h HP.out HE.out, by go_num, rfl⟩, by simp [intOf]; omega⟩
        · have HE := Lib.hid (suf_not s t k hlt h he)
          have h1 : ((s[s.size - t.size + k].toNat : Int) != (t[k].toNat : Int)) = true := by
            cases hh : ((s[s.size - t.size + k].toNat : Int) != (t[k].toNat : Int)) with
            | true => rfl
            | false => exact absurd (byte_eq _ _ hh) he
          clear he
          go_wp2
          go_quiet (fail)
          go_wp2
          go_ret
          exact ⟨ret_b HE.out.symm, n + nq, drewNN _ _ _⟩
      · have hkt : k = t.size := by omega
        have HE := Lib.hid (suf_all s t h (hkt ▸ HP.out))
        clear hkt
        go_wp2
        go_ret
        exact ⟨ret_b HE.out.symm, n, rfl⟩
  · have H := Lib.hid (suf_short s t h)
    go_enter Try.func9, Try.ntmps9
    go_wp2
    go_ret
    exact ⟨ret_b H.out.symm, 0, rfl⟩
end Go.Proofs.Ytnbfphjkpicajaa
