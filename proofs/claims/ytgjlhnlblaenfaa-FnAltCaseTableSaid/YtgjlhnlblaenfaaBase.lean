/-
  Facts and contracts for the seat n001_81: comparisons and assertions of interface values, funcOpAlt's thin exports, zzSameBytes at two equal strings.
-/
import Derived.Test.YtgjlhnlblaenfaaRows
import Derived.WalkKit
import Derived.ProofKit
import Derived.Deep.QuietTactic
import Derived.BigQuiet
namespace Go.Proofs.Ytgjlhnlblaenfaa
open Go.ChangeShapes Go.WideShapes Go.ChangeAt Go.RowKit
@[go_sem] theorem eq_b (a : Bool) (w : World) : (binOp .eql 20 (.iface 4 (.bool a)) (.iface 4 (.bool false))).run Try.prog w = .ok (.bool (a == false)) w := by cases a <;> kernel_rfl
@[go_sem] theorem eq_n (t : TypeId) (v : Value) (w : World) : (binOp .eql 20 (.iface t v) .nilIface).run Try.prog w = .ok (.bool false) w := by kernel_rfl
@[go_sem] theorem eq_nn (w : World) : (binOp .eql 20 .nilIface .nilIface).run Try.prog w = .ok (.bool true) w := by kernel_rfl
@[go_sem] theorem eq_3 (v : Value) (w : World) : (binOp .eql 20 (.iface 3 v) (.iface 4 (.bool false))).run Try.prog w = .ok (.bool false) w := by kernel_rfl
@[go_sem] theorem eq_9 (v : Value) (w : World) : (binOp .eql 20 (.iface 9 v) (.iface 4 (.bool false))).run Try.prog w = .ok (.bool false) w := by kernel_rfl
@[go_sem] theorem as4_4 (v : Value) (w : World) : (Instr.typeAssert (.iface 4 v) 20 4 true).run Try.prog w = .ok (.tuple #[v, .bool true]) w := by kernel_rfl
@[go_sem] theorem as3_3 (v : Value) (w : World) : (Instr.typeAssert (.iface 3 v) 20 3 true).run Try.prog w = .ok (.tuple #[v, .bool true]) w := by kernel_rfl
@[go_sem] theorem as9_9 (v : Value) (w : World) : (Instr.typeAssert (.iface 9 v) 20 9 true).run Try.prog w = .ok (.tuple #[v, .bool true]) w := by kernel_rfl

def Ret (b : Bool) (w : World) (e : Ending) (w' : World) : Prop := e = .returned (.bool b) ∧ ∃ n, w' = w.drewN n

theorem same_eq (a : ByteArray) (w : World) (ha : a.size ≤ maxLen) :
    Calls Try.prog 8 #[.string a, .string a] w (Ret true w) := by
  unfold maxLen at ha
  have h0 : ((a.size : Int) != (a.size : Int)) = false := by simp
  go_enter Try.func8, Try.ntmps8
  go_wp2
  go_loopw [5] (fun i wr => ∃ k n : Nat, k ≤ a.size ∧ i = .int .i64 k ∧ wr = w.drewN n) (fun i _ => a.size - (intOf i).toNat)
  case atStart => exact ⟨0, 0, Nat.zero_le _, rfl, rfl⟩
  case round =>
    obtain ⟨k, n, hk, rfl, rfl⟩ := hrel
    by_cases hlt : k < a.size
    · have h1 : ((a[k].toNat : Int) != (a[k].toNat : Int)) = false := by simp
      go_wp2
      go_quiet (fail)
      go_wp2
      exact ⟨⟨k + 1, _, by omega, by go_num, rfl⟩, by simp [intOf]; omega⟩
    · go_wp2
      go_ret
      exact ⟨rfl, n, rfl⟩

theorem fnAltBoolsIsOr.walk (a0 : Bool) (a1 : Bool) (w : World) :
    Calls Try.prog 3 #[.bool a0, .bool a1] w fun e w' => e = .returned (.bool true) ∧ Grown w w' := by
  cases a0 <;> cases a1
  all_goals
    go_enter Try.func3, Try.ntmps3
    go_wp2
    go_ret
    exact ⟨rfl, by repeat (first | exact Grown.refl _ | apply Grown.drew | apply Grown.alloc)⟩

theorem grown_drewN {W w : World} (h : Grown W w) : ∀ n, Grown W (w.drewN n)
  | 0 => h
  | n + 1 => (grown_drewN h n).drew

theorem fnAltCaseTable.walk (a0 : Int) (a1 : ByteArray) (_w0 : (Lit.int .i64 a0).wf = true) (w1 : a1.size ≤ maxLen) (w : World) :
    Calls Try.prog 4 #[.int .i64 a0, .string a1] w fun e w' => e = .returned (.bool true) ∧ Grown w w' := by
  have hs : a1.size ≤ 9223372036854775807 := w1
  by_cases hlt : a1.size ≤ 1048576
  · have hn : (a0 != a0) = false := by simp
    go_enter Try.func4, Try.ntmps4
    go_wp2_with (first | (go_at_call 8; refine (same_eq a1 _ w1).mono ?_; rintro e w' ⟨rfl, n, rfl⟩) | go_in)
    go_ret
    exact ⟨rfl, by repeat (first | exact Grown.refl _ | apply grown_drewN)⟩
  · go_enter Try.func4, Try.ntmps4
    go_wp2
    go_ret
    exact ⟨rfl, Grown.refl _⟩
end Go.Proofs.Ytgjlhnlblaenfaa
