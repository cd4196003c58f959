/-
  Contracts of the seat n001_91: the maker of mixed values and funcRange over three values.
-/
import Derived.Test.YtdckncpalaoadaaMem
import Derived.Test.YtdckncpalaoadaaRows
import Derived.WalkKit
import Derived.IntWalk
import Derived.ProofKit
import Derived.WalkSpells
import Derived.WalkLawsBesides
import Derived.Deep.QuietTactic
import Derived.RegionTactic
import Derived.BigQuiet
import Derived.Outline
import Derived.Stop.Asserts
namespace Go.Proofs.Ytdckncpalaoadaa
set_option linter.unusedVariables false
open Go.ChangeShapes Go.WideShapes Go.ChangeAt Go.RowKit M
@[go_sem] theorem as3_3 (v : Value) (w : World) : (Instr.typeAssert (.iface 3 v) 20 3 true).run Try.prog w = .ok (.tuple #[v, .bool true]) w := by kernel_rfl
@[go_sem] theorem as3_32 (v : Value) (w : World) : (Instr.typeAssert (.iface 3 v) 20 32 true).run Try.prog w = .ok (.tuple #[.float .f64 0, .bool false]) w := by kernel_rfl
@[go_sem] theorem as3_37 (v : Value) (w : World) : (Instr.typeAssert (.iface 3 v) 20 37 true).run Try.prog w = .ok (.tuple #[.pointer none, .bool false]) w := by kernel_rfl
@[go_sem] theorem as3_38 (v : Value) (w : World) : (Instr.typeAssert (.iface 3 v) 20 38 true).run Try.prog w = .ok (.tuple #[.string ByteArray.empty, .bool false]) w := by kernel_rfl
@[go_sem] theorem as32_3 (v : Value) (w : World) : (Instr.typeAssert (.iface 32 v) 20 3 true).run Try.prog w = .ok (.tuple #[.int .i64 0, .bool false]) w := by kernel_rfl
@[go_sem] theorem as32_32 (v : Value) (w : World) : (Instr.typeAssert (.iface 32 v) 20 32 true).run Try.prog w = .ok (.tuple #[v, .bool true]) w := by kernel_rfl
@[go_sem] theorem as32_37 (v : Value) (w : World) : (Instr.typeAssert (.iface 32 v) 20 37 true).run Try.prog w = .ok (.tuple #[.pointer none, .bool false]) w := by kernel_rfl
@[go_sem] theorem as32_38 (v : Value) (w : World) : (Instr.typeAssert (.iface 32 v) 20 38 true).run Try.prog w = .ok (.tuple #[.string ByteArray.empty, .bool false]) w := by kernel_rfl
@[go_sem] theorem as9_3 (v : Value) (w : World) : (Instr.typeAssert (.iface 9 v) 20 3 true).run Try.prog w = .ok (.tuple #[.int .i64 0, .bool false]) w := by kernel_rfl
@[go_sem] theorem as9_32 (v : Value) (w : World) : (Instr.typeAssert (.iface 9 v) 20 32 true).run Try.prog w = .ok (.tuple #[.float .f64 0, .bool false]) w := by kernel_rfl
@[go_sem] theorem as9_37 (v : Value) (w : World) : (Instr.typeAssert (.iface 9 v) 20 37 true).run Try.prog w = .ok (.tuple #[.pointer none, .bool false]) w := by kernel_rfl
@[go_sem] theorem as9_38 (v : Value) (w : World) : (Instr.typeAssert (.iface 9 v) 20 38 true).run Try.prog w = .ok (.tuple #[.string ByteArray.empty, .bool false]) w := by kernel_rfl
@[go_sem] theorem as4_3 (v : Value) (w : World) : (Instr.typeAssert (.iface 4 v) 20 3 true).run Try.prog w = .ok (.tuple #[.int .i64 0, .bool false]) w := by kernel_rfl
@[go_sem] theorem as4_32 (v : Value) (w : World) : (Instr.typeAssert (.iface 4 v) 20 32 true).run Try.prog w = .ok (.tuple #[.float .f64 0, .bool false]) w := by kernel_rfl
@[go_sem] theorem as4_37 (v : Value) (w : World) : (Instr.typeAssert (.iface 4 v) 20 37 true).run Try.prog w = .ok (.tuple #[.pointer none, .bool false]) w := by kernel_rfl
@[go_sem] theorem as4_38 (v : Value) (w : World) : (Instr.typeAssert (.iface 4 v) 20 38 true).run Try.prog w = .ok (.tuple #[.string ByteArray.empty, .bool false]) w := by kernel_rfl
@[go_sem] theorem as23_3 (v : Value) (w : World) : (Instr.typeAssert (.iface 23 v) 20 3 true).run Try.prog w = .ok (.tuple #[.int .i64 0, .bool false]) w := by kernel_rfl
@[go_sem] theorem as23_32 (v : Value) (w : World) : (Instr.typeAssert (.iface 23 v) 20 32 true).run Try.prog w = .ok (.tuple #[.float .f64 0, .bool false]) w := by kernel_rfl
@[go_sem] theorem as23_37 (v : Value) (w : World) : (Instr.typeAssert (.iface 23 v) 20 37 true).run Try.prog w = .ok (.tuple #[.pointer none, .bool false]) w := by kernel_rfl
@[go_sem] theorem as23_38 (v : Value) (w : World) : (Instr.typeAssert (.iface 23 v) 20 38 true).run Try.prog w = .ok (.tuple #[.string ByteArray.empty, .bool false]) w := by kernel_rfl
@[go_sem] theorem as33_3 (v : Value) (w : World) : (Instr.typeAssert (.iface 33 v) 20 3 true).run Try.prog w = .ok (.tuple #[.int .i64 0, .bool false]) w := by kernel_rfl
@[go_sem] theorem as33_32 (v : Value) (w : World) : (Instr.typeAssert (.iface 33 v) 20 32 true).run Try.prog w = .ok (.tuple #[.float .f64 0, .bool false]) w := by kernel_rfl
@[go_sem] theorem as33_37 (v : Value) (w : World) : (Instr.typeAssert (.iface 33 v) 20 37 true).run Try.prog w = .ok (.tuple #[.pointer none, .bool false]) w := by kernel_rfl
@[go_sem] theorem as33_38 (v : Value) (w : World) : (Instr.typeAssert (.iface 33 v) 20 38 true).run Try.prog w = .ok (.tuple #[.string ByteArray.empty, .bool false]) w := by kernel_rfl
@[go_sem] theorem asn_3 (w : World) : (Instr.typeAssert .nilIface 20 3 true).run Try.prog w = .ok (.tuple #[.int .i64 0, .bool false]) w := by kernel_rfl
@[go_sem] theorem asn_32 (w : World) : (Instr.typeAssert .nilIface 20 32 true).run Try.prog w = .ok (.tuple #[.float .f64 0, .bool false]) w := by kernel_rfl
@[go_sem] theorem asn_37 (w : World) : (Instr.typeAssert .nilIface 20 37 true).run Try.prog w = .ok (.tuple #[.pointer none, .bool false]) w := by kernel_rfl
@[go_sem] theorem asn_38 (w : World) : (Instr.typeAssert .nilIface 20 38 true).run Try.prog w = .ok (.tuple #[.string ByteArray.empty, .bool false]) w := by kernel_rfl
@[go_sem] theorem as26_26 (v : Value) (w : World) : (Instr.typeAssert (.iface 26 v) 20 26 true).run Try.prog w = .ok (.tuple #[v, .bool true]) w := by kernel_rfl
@[go_sem] theorem as39_26 (v : Value) (w : World) : (Instr.typeAssert (.iface 39 v) 20 26 true).run Try.prog w = .ok (.tuple #[.pointer none, .bool false]) w := by kernel_rfl
@[go_sem] theorem as26_35 (v : Value) (w : World) : (Instr.typeAssert (.iface 26 v) 20 35 true).run Try.prog w = .ok (.tuple #[.nilIface, .bool false]) w := run_typeAssert_lacksB Try.underlying35 (by kernel_rfl) (by kernel_rfl) v 20 w
@[go_sem] theorem as39_35 (v : Value) (w : World) : (Instr.typeAssert (.iface 39 v) 20 35 true).run Try.prog w = .ok (.tuple #[.iface 39 v, .bool true]) w := run_typeAssert_hasB Try.underlying35 (by kernel_rfl) v 20 w
theorem fadd (x y : Nat) (W : World) : ∃ r n, (binOp .add 32 (.float .f64 x) (.float .f64 y)).run Try.prog W = .ok (.float .f64 r) (W.drewN n) := by
  cases h : FloatKind.f64.format.add x y with
  | some r => exact ⟨r, 0, run_float_arith W .add 32 .f64 x y r h⟩
  | none =>
    refine ⟨(Question.nanBits .f64 x y).cut (W.tape W.drawn (.nanBits .f64 x y)), 1, ?_⟩
    simp [binOp, Op.floatArith, h, Question.forced]
    rfl
def Num (v : Value) : Prop := (∃ n, v = .iface 3 (.int .i64 n)) ∨ (∃ b, v = .iface 32 (.float .f64 b))
def Non (v : Value) : Prop := v = .nilIface ∨ (∃ x, v = .iface 9 (.string x)) ∨ (∃ x, v = .iface 4 (.bool x)) ∨ (∃ a n c, v = .iface 23 (.slice a n c)) ∨ (∃ r, v = .iface 33 (.map r))
def Fits (k : Int) (v : Value) : Prop := (k ≤ 2 → Num v) ∧ (2 < k → Non v)
def FitTo (ks : Nat → Int) (k : Nat) (cs : Array Value) : Prop := ∀ j, j < k → ∃ v, cs[j]? = some v ∧ Fits (ks j) v
theorem FitTo.step {ks : Nat → Int} {k : Nat} {cs : Array Value} {v : Value} (h : FitTo ks k cs) (hk : k < cs.size) (hv : Fits (ks k) v) : FitTo ks (k + 1) (cs.setIfInBounds k v) := by
  intro j hj
  rw [Array.getElem?_setIfInBounds]
  by_cases he : k = j
  · subst he
    rw [if_pos rfl, if_pos hk]
    exact ⟨v, rfl, hv⟩
  · rw [if_neg he]
    exact h j (by omega)
def MixOut (ks : Nat → Int) (w : World) (e : Ending) (w' : World) : Prop :=
  ∃ g cs, e = .returned (.slice (some ⟨g, 0, none⟩) 3 3) ∧ Row w' g 20 cs ∧ cs.size = 3 ∧ FitTo ks 3 cs ∧ Below w.heap.size w w'
set_option maxHeartbeats 2000000 in
theorem mixed (xs ks : Nat → Int) (b1 b2 : Nat) (w : World) (h1 : ∀ j, j < 3 → w.cell? ⟨b1, j, none⟩ = some (.int .i64 (xs j))) (h2 : ∀ j, j < 3 → w.cell? ⟨b2, j, none⟩ = some (.int .i64 (ks j)))
    (l1 : b1 < w.heap.size) (l2 : b2 < w.heap.size) (hr : ∀ j, j < 3 → 0 ≤ ks j ∧ ks j ≤ 7) :
    Calls Try.prog 5 #[.slice (some ⟨b1, 0, none⟩) 3 3, .slice (some ⟨b2, 0, none⟩) 3 3] w (MixOut ks w) := by
  have hmk : ∀ W, (Instr.makeSlice 23 (.int .i64 3) (.int .i64 3)).run Try.prog W = .ok (.slice (some ⟨W.heap.size, 0, none⟩) 3 3) (W.alloc (.cells #[.nilIface, .nilIface, .nilIface] 20)) := fun _ => by kernel_rfl
  have hmm := @run_makeMap Try.prog
  have H1 := Lib.hid h1
  have H2 := Lib.hid h2
  have HR := Lib.hid hr
  clear h1 h2 hr
  go_enter Try.func5, Try.ntmps5
  go_wp2
  go_loopw [13] (fun i wr => ∃ (k : Nat) (cs : Array Value), k ≤ 3 ∧ i = .int .i64 k ∧ Row wr w.heap.size 20 cs ∧ cs.size = 3 ∧ FitTo ks k cs ∧ Below w.heap.size w wr) (fun i _ => 3 - (intOf i).toNat)
  case atStart => exact ⟨0, _, Nat.zero_le _, rfl, Row.made _ _ _, rfl, fun j hj => absurd hj (by omega), (Below.refl _ _).alloc (Nat.le_refl _) _⟩
  case round =>
    obtain ⟨k, cs, hk, rfl, hrow, hz, hF, hb⟩ := hrel
    have HROW := Lib.hid hrow
    have HZ := Lib.hid hz
    have HF := Lib.hid hF
    have HB := Lib.hid hb
    by_cases hlt : k < 3
    · obtain ⟨v, hc⟩ := hrow.has k (by omega)
      have hf := hrow.free k
      have c1 := (hb.cell (p := ⟨b1, k, none⟩) l1).trans (H1.out k hlt)
      have c2 := (hb.cell (p := ⟨b2, k, none⟩) l2).trans (H2.out k hlt)
      obtain ⟨q0, q7⟩ := HR.out k hlt
      obtain ⟨q, hq⟩ : ∃ q, ks k = q := ⟨_, rfl⟩
      rw [hq] at c2 q0 q7
      have HQ := Lib.hid hq
      have hzl := hrow.lt
      clear hrow hz hF hb hq
      have hcase : q = 0 ∨ q = 1 ∨ q = 2 ∨ q = 3 ∨ q = 4 ∨ q = 5 ∨ q = 6 ∨ q = 7 := by omega
      clear q0 q7
      rcases hcase with rfl | rfl | rfl | rfl | rfl | rfl | rfl | rfl
      case inr.inr.inl =>
        obtain ⟨r, n, hadd⟩ := fadd (floatOfInt .f64 (xs k)) 4602678819172646912 wr
        go_wp2
        refine ⟨⟨k + 1, _, by omega, by go_num, Row.drewN (HROW.out.put _ _) n, by simpa using HZ.out, HF.out.step (by rw [HZ.out]; exact hlt) ⟨fun _ => .inr ⟨_, rfl⟩, fun h => ?_⟩, below_drewN (HB.out.setCell (Nat.le_refl _) _) n⟩, by simp [intOf]; omega⟩
        rw [HQ.out] at h
        exact absurd h (by omega)
      all_goals
        go_wp2
        refine ⟨⟨k + 1, _, by omega, by go_num, by first | exact HROW.out.put _ _ | exact (HROW.out.put _ _).alloc _, by simpa using HZ.out, HF.out.step (by rw [HZ.out]; exact hlt) ⟨fun h => ?_, fun h => ?_⟩, by first | exact HB.out.setCell (Nat.le_refl _) _ | exact (HB.out.setCell (Nat.le_refl _) _).alloc (by simp [World.setCell]; omega) _⟩, by simp [intOf]; omega⟩
        all_goals rw [HQ.out] at h
        all_goals first | exact absurd h (by omega) | exact .inl ⟨_, rfl⟩ | exact .inr ⟨_, rfl⟩ | exact .inl rfl | exact .inr (.inl ⟨_, rfl⟩) | exact .inr (.inr (.inl ⟨_, rfl⟩)) | exact .inr (.inr (.inr (.inl ⟨_, _, _, rfl⟩))) | exact .inr (.inr (.inr (.inr ⟨_, rfl⟩)))
    · obtain rfl : k = 3 := by omega
      go_wp2
      go_ret
      exact ⟨_, _, rfl, HROW.out, HZ.out, HF.out, HB.out⟩
def RangeOut (T : Nat) (w : World) (e : Ending) (w' : World) : Prop := ∃ a, e = .returned (.iface T (.pointer (some a))) ∧ Below w.heap.size w w'
theorem Num.form {v : Value} (h : Num v) : ∃ t x, v = .iface t x := by
  rcases h with ⟨n, rfl⟩ | ⟨b, rfl⟩ <;> exact ⟨_, _, rfl⟩
def NumTo (k : Nat) (cs : Array Value) : Prop := ∀ j, j < k → ∃ v, cs[j]? = some v ∧ Num v
set_option maxHeartbeats 1000000 in
theorem range_num (g : Nat) (cs : Array Value) (w : World) (hr : Row w g 20 cs) (hz : cs.size = 3) (hn : NumTo 3 cs) :
    Calls Try.prog 4 #[.slice (some ⟨g, 0, none⟩) 3 3] w (RangeOut 26 w) := by
  have HR := Lib.hid hr
  have HN := Lib.hid hn
  obtain ⟨v0, e0, n0⟩ := hn 0 (by omega)
  obtain ⟨v1, e1, n1⟩ := hn 1 (by omega)
  obtain ⟨v2, e2, n2⟩ := hn 2 (by omega)
  have c0 := (hr.cell 0).trans e0
  have c1 := (hr.cell 1).trans e1
  have c2 := (hr.cell 2).trans e2
  obtain ⟨t0, x0, rfl⟩ := n0.form
  obtain ⟨t1, x1, rfl⟩ := n1.form
  obtain ⟨t2, x2, rfl⟩ := n2.form
  clear hr hn hz e0 e1 e2 n0 n1 n2
  go_enter Try.func4, Try.ntmps4
  go_wp2
  go_loop [9] (fun i => ∃ (k : Nat), k ≤ 3 ∧ i = .int .i64 k) (fun i => 3 - (intOf i).toNat)
  case atStart => exact ⟨0, Nat.zero_le _, rfl⟩
  case round =>
    obtain ⟨k, hk, rfl⟩ := hrel
    by_cases hlt : k < 3
    · obtain ⟨v, ev, nv⟩ := HN.out k hlt
      have cv := (HR.out.cell k).trans ev
      clear ev
      rcases nv with ⟨n, rfl⟩ | ⟨b, rfl⟩
      all_goals
        go_wp2
        exact ⟨⟨k + 1, by omega, by go_num⟩, by simp [intOf]; omega⟩
    · obtain rfl : k = 3 := by omega
      go_wp2
      go_region
      all_goals go_wp2
      all_goals go_ret
      all_goals exact ⟨_, rfl, ((Below.refl _ _).alloc (Nat.le_refl _) _).drew⟩
set_option maxHeartbeats 1000000 in
theorem range_non (g : Nat) (cs : Array Value) (w : World) (hr : Row w g 20 cs) (hz : cs.size = 3) (j0 : Nat) (hj : j0 < 3) (hn : NumTo j0 cs) (hx : ∃ v, cs[j0]? = some v ∧ Non v) :
    Calls Try.prog 4 #[.slice (some ⟨g, 0, none⟩) 3 3] w (RangeOut 39 w) := by
  have HR := Lib.hid hr
  have HN := Lib.hid hn
  have HX := Lib.hid hx
  clear hr hn hx hz
  go_enter Try.func4, Try.ntmps4
  go_wp2
  go_loop [9] (fun i => ∃ (k : Nat), k ≤ j0 ∧ i = .int .i64 k) (fun i => 3 - (intOf i).toNat)
  case atStart => exact ⟨0, Nat.zero_le _, rfl⟩
  case round =>
    obtain ⟨k, hk, rfl⟩ := hrel
    by_cases hlt : k < j0
    · obtain ⟨v, ev, nv⟩ := HN.out k hlt
      have cv := (HR.out.cell k).trans ev
      clear ev
      rcases nv with ⟨n, rfl⟩ | ⟨b, rfl⟩
      all_goals
        go_wp2
        exact ⟨⟨k + 1, by omega, by go_num⟩, by simp [intOf]; omega⟩
    · obtain rfl : k = j0 := by omega
      obtain ⟨v, ev, nv⟩ := HX.out
      have cv := (HR.out.cell k).trans ev
      clear ev
      rcases nv with rfl | ⟨x, rfl⟩ | ⟨x, rfl⟩ | ⟨a, n, c, rfl⟩ | ⟨r, rfl⟩
      all_goals
        go_wp2
        go_ret
        exact ⟨_, rfl, (Below.refl _ _).alloc (Nat.le_refl _) _⟩
def three (a b c : Int) : Nat → Int | 0 => a | 1 => b | _ => c
theorem cells3 {W : World} {g : Nat} {a b c : Int} (h : Row W g 3 #[.int .i64 a, .int .i64 b, .int .i64 c]) (j : Nat) (hj : j < 3) : W.cell? ⟨g, j, none⟩ = some (.int .i64 (three a b c j)) := by
  rw [h.cell]
  match j, hj with
  | 0, _ => rfl
  | 1, _ => rfl
  | 2, _ => rfl
end Go.Proofs.Ytdckncpalaoadaa
