/-
  Contracts of the seat n001_82: strings.HasPrefix and HasSuffix, the thin exports over startswith and endswith, and the laws' own models of prefix and suffix.
-/
import Derived.Test.YtdmncgddpfkjkaaPlain
import Derived.Test.YtdmncgddpfkjkaaRows
import Derived.WalkKit
import Derived.IntWalk
import Derived.ProofKit
import Derived.WalkSpells
import Derived.WalkLawsBesides
import Derived.Deep.QuietTactic
import Derived.BigQuiet
import Derived.Lib.Hide
namespace Go.Proofs.Ytdmncgddpfkjkaa
set_option linter.unusedVariables false
open Go.ChangeShapes Go.WideShapes Go.ChangeAt Go.RowKit
@[go_sem] theorem as4_4 (v : Value) (w : World) : (Instr.typeAssert (.iface 4 v) 20 4 true).run Try.prog w = .ok (.tuple #[v, .bool true]) w := by kernel_rfl
@[go_sem] theorem as9_9 (v : Value) (w : World) : (Instr.typeAssert (.iface 9 v) 20 9 true).run Try.prog w = .ok (.tuple #[v, .bool true]) w := by kernel_rfl
@[go_sem] theorem as3_9 (v : Value) (w : World) : (Instr.typeAssert (.iface 3 v) 20 9 true).run Try.prog w = .ok (.tuple #[.string ByteArray.empty, .bool false]) w := by kernel_rfl
@[go_sem] theorem as30_30 (v : Value) (w : World) : (Instr.typeAssert (.iface 30 v) 20 30 true).run Try.prog w = .ok (.tuple #[v, .bool true]) w := by kernel_rfl
theorem ret_b {a b : Bool} (h : a = b) : Ending.returned (.bool a) = .returned (.bool b) := by rw [h]
def Ret (b : Bool) (w : World) (e : Ending) (w' : World) : Prop := e = .returned (.bool b) ∧ ∃ n, w' = w.drewN n

theorem drewNN (w : World) (a : Nat) : ∀ b, (w.drewN a).drewN b = w.drewN (a + b)
  | 0 => rfl
  | b + 1 => by show ((w.drewN a).drewN b).drew = (w.drewN (a + b)).drew; rw [drewNN w a b]

theorem hp (s t : ByteArray) (w : World) (hs : s.size ≤ maxLen) (ht : t.size ≤ maxLen) :
    Calls Try.prog 21 #[.string s, .string t] w fun e w' => e = .returned (.bool (preB s t)) ∧ w = w' := by
  unfold maxLen at hs ht
  by_cases h : t.size ≤ s.size
  · have H := Lib.hid (pre_walk s t h)
    go_enter Try.func21, Try.ntmps21
    go_wp2
    go_ret
    exact ⟨ret_b H.out, rfl⟩
  · have H := Lib.hid (pre_short s t h)
    go_enter Try.func21, Try.ntmps21
    go_wp2
    go_ret
    exact ⟨ret_b H.out.symm, rfl⟩
theorem hs (s t : ByteArray) (w : World) (hs : s.size ≤ maxLen) (ht : t.size ≤ maxLen) :
    Calls Try.prog 20 #[.string s, .string t] w fun e w' => e = .returned (.bool (sufB s t)) ∧ w = w' := by
  unfold maxLen at hs ht
  by_cases h : t.size ≤ s.size
  · have H := Lib.hid (suf_walk s t h)
    go_enter Try.func20, Try.ntmps20
    go_wp2
    go_ret
    exact ⟨ret_b H.out, rfl⟩
  · have H := Lib.hid (suf_short s t h)
    go_enter Try.func20, Try.ntmps20
    go_wp2
    go_ret
    exact ⟨ret_b H.out.symm, rfl⟩
theorem starts (s t : ByteArray) (w : World) (h1 : s.size ≤ maxLen) (h2 : t.size ≤ maxLen) :
    Calls Try.prog 12 #[.string s, .string t] w fun e w' => e = .returned (.tuple #[.bool (preB s t), .bool true]) ∧ w = w' := by
  go_enter Try.func12, Try.ntmps12
  go_wp2_with (first | (go_at_call 21; refine (hp _ _ _ h1 h2).mono ?_; rintro e w' ⟨rfl, rfl⟩) | go_in)
  go_ret2
  exact ⟨rfl, rfl⟩
theorem ends (s t : ByteArray) (w : World) (h1 : s.size ≤ maxLen) (h2 : t.size ≤ maxLen) :
    Calls Try.prog 8 #[.string s, .string t] w fun e w' => e = .returned (.tuple #[.bool (sufB s t), .bool true]) ∧ w = w' := by
  go_enter Try.func8, Try.ntmps8
  go_wp2_with (first | (go_at_call 20; refine (hs _ _ _ h1 h2).mono ?_; rintro e w' ⟨rfl, rfl⟩) | go_in)
  go_ret2
  exact ⟨rfl, rfl⟩
theorem starts_ref (s : ByteArray) (n : Int) (w : World) :
    Calls Try.prog 14 #[.string s, .int .i64 n] w fun e w' => e = .returned (.bool true) ∧ Grown w w' := by
  go_enter Try.func14, Try.ntmps14
  go_wp2
  go_ret
  exact ⟨rfl, by repeat (first | exact Grown.refl _ | apply Grown.drew | apply Grown.alloc)⟩
theorem ends_ref (s : ByteArray) (n : Int) (w : World) :
    Calls Try.prog 10 #[.string s, .int .i64 n] w fun e w' => e = .returned (.bool true) ∧ Grown w w' := by
  go_enter Try.func10, Try.ntmps10
  go_wp2
  go_ret
  exact ⟨rfl, by repeat (first | exact Grown.refl _ | apply Grown.drew | apply Grown.alloc)⟩

theorem zpre (s t : ByteArray) (w : World) (hs : s.size ≤ maxLen) (ht : t.size ≤ maxLen) :
    Calls Try.prog 13 #[.string s, .string t] w (Ret (preB s t) w) := by
  unfold maxLen at hs ht
  by_cases h : t.size ≤ s.size
  · go_enter Try.func13, Try.ntmps13
    go_wp2
    go_loopw [5] (fun i wr => ∃ k n : Nat, k ≤ t.size ∧ t.data.toList.take k <+: s.data.toList ∧ i = .int .i64 k ∧ wr = w.drewN n) (fun i _ => t.size - (intOf i).toNat)
    case atStart => exact ⟨0, 0, Nat.zero_le _, by simp, rfl, rfl⟩
    case round =>
      obtain ⟨k, n, hk, hp, rfl, rfl⟩ := hrel
      have HP := Lib.hid hp; clear hp
      by_cases hlt : k < t.size
      · have hlt2 : k < s.size := by omega
        by_cases he : s[k] = t[k]
        · have h1 : ((s[k].toNat : Int) != (t[k].toNat : Int)) = false := by simp [he]
          have HE := Lib.hid he; clear he
          go_wp2
          go_quiet (fail)
          go_wp2
          exact ⟨⟨k + 1, _, by omega, pre_take s t k hlt h HP.out HE.out, by go_num, rfl⟩, by simp [intOf]; omega⟩
        · have HE := Lib.hid (pre_not s t k hlt h he)
          have h1 : ((s[k].toNat : Int) != (t[k].toNat : Int)) = true := by
            cases hh : ((s[k].toNat : Int) != (t[k].toNat : Int)) with
            | true => rfl
            | false => exact absurd (byte_eq _ _ hh) he
          clear he
          go_wp2
          go_quiet (fail)
          go_wp2
          go_ret
          exact ⟨ret_b HE.out.symm, n + nq, drewNN _ _ _⟩
      · have hkt : k = t.size := by omega
        have HE := Lib.hid (pre_all s t (hkt ▸ HP.out))
        clear hkt
        go_wp2
        go_ret
        exact ⟨ret_b HE.out.symm, n, rfl⟩
  · have H := Lib.hid (pre_short s t h)
    go_enter Try.func13, Try.ntmps13
    go_wp2
    go_ret
    exact ⟨ret_b H.out.symm, 0, rfl⟩
theorem zsuf (s t : ByteArray) (w : World) (hs : s.size ≤ maxLen) (ht : t.size ≤ maxLen) :
    Calls Try.prog 9 #[.string s, .string t] w (Ret (sufB s t) w) := by
  unfold maxLen at hs ht
  by_cases h : t.size ≤ s.size
  · go_enter Try.func9, Try.ntmps9
    go_wp2
    go_loopw [6] (fun i wr => ∃ k n : Nat, k ≤ t.size ∧ t.data.toList.take k <+: s.data.toList.drop (s.size - t.size) ∧ i = .int .i64 k ∧ wr = w.drewN n) (fun i _ => t.size - (intOf i).toNat)
    case atStart => exact ⟨0, 0, Nat.zero_le _, by simp, rfl, rfl⟩
    case round =>
      obtain ⟨k, n, hk, hp, rfl, rfl⟩ := hrel
      have HP := Lib.hid hp; clear hp
      by_cases hlt : k < t.size
      · have hlt2 : s.size - t.size + k < s.size := by omega
        have i1 : (0 : Int) ≤ (s.size : Int) - (t.size : Int) + (k : Int) := by omega
        have i2 : (s.size : Int) - (t.size : Int) + (k : Int) < (s.size : Int) := by omega
        have i3 : IntKind.i64.wrap ((s.size : Int) - (t.size : Int) + (k : Int)) = (s.size : Int) - (t.size : Int) + (k : Int) := IntWalk.i64_in _ (by omega)
        have i4 : ((s.size : Int) - (t.size : Int) + (k : Int)).toNat = s.size - t.size + k := by omega
        by_cases he : s[s.size - t.size + k] = t[k]
        · have h1 : ((s[s.size - t.size + k].toNat : Int) != (t[k].toNat : Int)) = false := by simp [he]
          have HE := Lib.hid he; clear he
          go_wp2
          go_quiet (fail)
          go_wp2
          exact ⟨⟨k + 1, _, by omega, suf_take s t k hlt h HP.out HE.out, by go_num, rfl⟩, by simp [intOf]; omega⟩
        · have HE := Lib.hid (suf_not s t k hlt h he)
          have h1 : ((s[s.size - t.size + k].toNat : Int) != (t[k].toNat : Int)) = true := by
            cases hh : ((s[s.size - t.size + k].toNat : Int) != (t[k].toNat : Int)) with
            | true => rfl
            | false => exact absurd (byte_eq _ _ hh) he
          clear he
          go_wp2
          go_quiet (fail)
          go_wp2
          go_ret
          exact ⟨ret_b HE.out.symm, n + nq, drewNN _ _ _⟩
      · have hkt : k = t.size := by omega
        have HE := Lib.hid (suf_all s t h (hkt ▸ HP.out))
        clear hkt
        go_wp2
        go_ret
        exact ⟨ret_b HE.out.symm, n, rfl⟩
  · have H := Lib.hid (suf_short s t h)
    go_enter Try.func9, Try.ntmps9
    go_wp2
    go_ret
    exact ⟨ret_b H.out.symm, 0, rfl⟩
end Go.Proofs.Ytdmncgddpfkjkaa
