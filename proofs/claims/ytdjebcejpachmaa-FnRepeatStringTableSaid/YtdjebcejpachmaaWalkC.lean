/-
  repeatString's answers at any double, and their reading (n001_79).
-/
import Derived.Test.YtdjebcejpachmaaFloatB
import Derived.Test.YtdjebcejpachmaaWalkB
namespace Go.Proofs.Ytdjebcejpachmaa
set_option linter.unusedVariables false
open Ieee Go.ChangeShapes Go.WideShapes Go.ChangeAt Go.RowKit M
theorem nanW (x : Nat) (b : Bool) (h : (double.order x x != some .eq) = b) (w : World) : Calls Try.prog 53 #[.float .f64 x] w fun e w' => e = .returned (.bool b) ∧ w' = w := by
  have H := Lib.hid h
  have h0 := f64_eq
  clear h
  go_enter Try.func53, Try.ntmps53
  go_wp2_with fail
  go_ret
  refine ⟨?_, rfl⟩
  show Ending.returned (.bool (double.order x x != some .eq)) = _
  rw [H.out]
theorem ltW_lt (x : Nat) (h : double.order x 0 = some .lt) (w : World) : Calls Try.prog 42 #[.float .f64 x, .float .f64 0] w fun e w' => e = .returned (.bool true) ∧ w' = w := by
  have h1 : (double.order x 0 == some .lt) = true := by rw [h]; rfl
  have h0 := f64_eq
  clear h
  go_enter Try.func42, Try.ntmps42
  go_wp2_with fail
  go_ret
  exact ⟨rfl, rfl⟩
theorem ltW (x : Nat) (b : Bool) (h : (double.order x 0 == some .lt) = false) (hb : (double.order x x != some .eq) = b) (w : World) : Calls Try.prog 42 #[.float .f64 x, .float .f64 0] w fun e w' => e = .returned (.bool b) ∧ w' = w := by
  have H := Lib.hid hb
  have h0 := f64_eq
  clear hb
  go_enter Try.func42, Try.ntmps42
  go_wp2_with fail
  refine (nanW x b H.out _).mono ?_
  rintro e w' ⟨rfl, rfl⟩
  go_wp2_with fail
  go_ret
  exact ⟨rfl, rfl⟩
def LtIs (x : Nat) (b : Bool) : Prop := ∀ w, Calls Try.prog 42 #[.float .f64 x, .float .f64 0] w fun e w' => e = .returned (.bool b) ∧ w' = w
theorem cnt_ltis {x c : Nat} (h : Cnt x c) : LtIs x false := fun w => ltW x false (by rcases h.1 with h | h <;> rw [h] <;> rfl) (by rw [h.2.1]; rfl) w
def AnsV (w : World) (V : Value → Prop) (e : Ending) (w' : World) : Prop := ∃ v, e = .returned v ∧ V v ∧ Below w.heap.size w w'
theorem repNil (s : ByteArray) (x : Nat) (h : LtIs x true) (w : World) : Calls Try.prog 24 #[.string s, .float .f64 x] w (AnsV w (fun v => v = .nilIface)) := by
  have H := Lib.hid h
  clear h
  go_enter Try.func24, Try.ntmps24
  go_wp2_with fail
  refine (H.out _).mono ?_
  rintro e w' ⟨rfl, rfl⟩
  go_wp2_with fail
  go_ret
  exact ⟨_, rfl, rfl, Below.refl _ _⟩
theorem wrap_u64b (n : Nat) (hn : n ≤ 140737488355328) : IntKind.u64.wrap (n : Int) = n := by
  unfold IntKind.wrap
  have h1 : (n : Int) % 2 ^ IntKind.u64.bits = n := by
    have : (2 : Int) ^ IntKind.u64.bits = 18446744073709551616 := by decide
    rw [this]
    omega
  rw [h1]
  rfl
theorem run_cv_u64b (n : Nat) (hn : n ≤ 140737488355328) (W : World) : (convert 3 25 (.int .i64 n)).run Try.prog W = .ok (.int .u64 n) W := by
  go_simp
  exact wrap_u64b n hn
theorem run_mul_u64b (n c : Nat) (hm2 : n * c ≤ 140737488355328) (W : World) : (binOp .mul 25 (.int .u64 n) (.int .u64 c)).run Try.prog W = .ok (.int .u64 (n * c : Nat)) W := by
  go_simp
  rw [← Int.natCast_mul]
  exact wrap_u64b _ hm2
theorem run_geqM (m : Nat) (hm : m ≤ 140737488355328) (W : World) : (binOp .geq 25 (.int .u64 m) (.int .u64 2147483647)).run Try.prog W = .ok (.bool (decide (2147483647 ≤ m))) W := by
  by_cases h : 2147483647 ≤ m
  · rw [decide_eq_true h]
    go_simp
    omega
  · rw [decide_eq_false h]
    go_simp
    omega
theorem mul_le (s c : Nat) (h1 : s ≤ 65536) (h2 : c ≤ 2147483647) : s * c ≤ 140737488355328 := Nat.le_trans (Nat.mul_le_mul h1 h2) (by omega)
set_option maxRecDepth 100000 in
theorem repAny (s : ByteArray) (x c : Nat) (h : Cnt x c) (hs : s.size ≤ 65536) (b : Bool) (hb : b = decide (2147483647 ≤ s.size * c)) (w : World) :
    Calls Try.prog 24 #[.string s, .float .f64 x] w (AnsV w (fun v => if b then ∃ g, v = .iface 79 (.pointer (some ⟨g, 0, none⟩)) else v = .iface 9 (.string (rep s c)))) := by
  have HLT := Lib.hid (cnt_ltis h)
  obtain ⟨_, _, hc, x', hmn, hcv0⟩ := h
  have hcv := Lib.hid hcv0
  clear hcv0
  have hq := mul_le s.size c hs hc
  have hm := run_mul_u64b s.size c hq
  have hg := run_geqM (s.size * c) hq
  have c1 := run_cv_u64 s.size (by omega)
  have c2 := run_cv_u64 c (by omega)
  obtain ⟨n, hn⟩ : ∃ n : Value, n = .int .u64 (s.size * c : Nat) := ⟨_, rfl⟩
  obtain ⟨A, hA⟩ : ∃ n : Value, n = .int .u64 s.size := ⟨_, rfl⟩
  obtain ⟨B, hB⟩ : ∃ n : Value, n = .int .u64 c := ⟨_, rfl⟩
  rw [← hn] at hm hg
  rw [← hb] at hg
  rw [← hA] at hm c1
  rw [← hB] at hm c2
  have HQ := Lib.hid hq
  clear hn hA hB hb hq
  cases b
  · go_enter Try.func24, Try.ntmps24
    go_wp2_with fail
    refine (HLT.out _).mono ?_
    rintro e w' ⟨rfl, rfl⟩
    go_wp2_with fail
    rw [hcv.out]
    simp only [Result.andThen]
    go_wp2_with fail
    refine (strings_Repeat s c _ (by omega) (by have := HQ.out; omega)).mono ?_
    rintro e w1 ⟨rfl, hb⟩
    have HB := Lib.hid hb
    clear hb
    go_wp2_with fail
    go_ret
    exact ⟨_, rfl, rfl, HB.out⟩
  · go_enter Try.func24, Try.ntmps24
    go_wp2_with fail
    refine (HLT.out _).mono ?_
    rintro e w' ⟨rfl, rfl⟩
    go_wp2_with fail
    rw [hcv.out]
    simp only [Result.andThen]
    go_wp2_with fail
    go_ret
    exact ⟨_, rfl, ⟨_, rfl⟩, (Below.refl _ _).alloc (Nat.le_refl _) _⟩
@[go_sem] theorem as79_3 (v : Value) (w : World) : (Instr.typeAssert (.iface 79 v) 20 3 true).run Try.prog w = .ok (.tuple #[.int .i64 0, .bool false]) w := by kernel_rfl
@[go_sem] theorem as79_23 (v : Value) (w : World) : (Instr.typeAssert (.iface 79 v) 20 23 true).run Try.prog w = .ok (.tuple #[.float .f64 0, .bool false]) w := by kernel_rfl
@[go_sem] theorem as79_66 (v : Value) (w : World) : (Instr.typeAssert (.iface 79 v) 20 66 true).run Try.prog w = .ok (.tuple #[.pointer none, .bool false]) w := by kernel_rfl
@[go_sem] theorem as79_9 (v : Value) (w : World) : (Instr.typeAssert (.iface 79 v) 20 9 true).run Try.prog w = .ok (.tuple #[.string ByteArray.empty, .bool false]) w := by kernel_rfl
@[go_sem] theorem as79_75 (v : Value) (w : World) : (Instr.typeAssert (.iface 79 v) 20 75 true).run Try.prog w = .ok (.tuple #[.slice none 0 0, .bool false]) w := by kernel_rfl
@[go_sem] theorem as79_77 (v : Value) (w : World) : (Instr.typeAssert (.iface 79 v) 20 77 true).run Try.prog w = .ok (.tuple #[.pointer none, .bool false]) w := by kernel_rfl
@[go_sem] theorem as79_78 (v : Value) (w : World) : (Instr.typeAssert (.iface 79 v) 20 78 true).run Try.prog w = .ok (.tuple #[.pointer none, .bool false]) w := by kernel_rfl
@[go_sem] theorem as79_79 (v : Value) (w : World) : (Instr.typeAssert (.iface 79 v) 20 79 true).run Try.prog w = .ok (.tuple #[v, .bool true]) w := by kernel_rfl
def zk (k : Int) (s : ByteArray) : Array Value := #[.int .i64 k, .int .i64 0, .float .f64 0, .string s, .slice none 0 0, .int .i64 0, .bool false, .int .u64 0]
def ClsIs (v : Value) (k : Int) (s : ByteArray) : Prop := ∀ w, Calls Try.prog 23 #[v] w fun e w' => e = .returned (.agg (zk k s)) ∧ Below w.heap.size w w'
set_option maxRecDepth 100000 in
theorem clsNil : ClsIs .nilIface 1 ⟨#[]⟩ := by
  intro w
  go_enter Try.func23, Try.ntmps23
  go_wp2_with fail
  (try simp only [Exit.inBlock, Exit.then])
  refine bodyPost_ret (v := .agg (zk 1 ⟨#[]⟩)) ?_ rfl ⟨rfl, (Below.refl _ _).alloc (Nat.le_refl _) _⟩
  exact results_cell_row rfl _ _ w.heap.size 27 _ (0, 0) _ rfl (Row.made w 27 _) Try.underlying27 rfl (by kernel_rfl)
set_option maxRecDepth 100000 in
theorem clsBig (g : Nat) : ClsIs (.iface 79 (.pointer (some ⟨g, 0, none⟩))) 9 ⟨#[]⟩ := by
  intro w
  go_enter Try.func23, Try.ntmps23
  go_wp2_with fail
  (try simp only [Exit.inBlock, Exit.then])
  refine bodyPost_ret (v := .agg (zk 9 ⟨#[]⟩)) ?_ rfl ⟨rfl, (Below.refl _ _).alloc (Nat.le_refl _) _⟩
  exact results_cell_row rfl _ _ w.heap.size 27 _ (0, 0) _ rfl (Row.made w 27 _) Try.underlying27 rfl (by kernel_rfl)
theorem clsStr (s : ByteArray) : ClsIs (.iface 9 (.string s)) 5 s := fun w => clsS s w
set_option maxRecDepth 100000 in
set_option maxHeartbeats 1500000 in
theorem zAny (s t : ByteArray) (x : Nat) (k : Int) (V : Value → Prop) (h : ∀ w, Calls Try.prog 24 #[.string s, .float .f64 x] w (AnsV w V)) (hv : ∀ v, V v → ClsIs v k t) (w : World) :
    Calls Try.prog 8 #[.string s, .float .f64 x] w fun e w' => e = .returned (.agg #[.int .i64 k, .int .i64 0, .float .f64 0, .string t, .slice none 0 0, .int .i64 0, .bool false, .int .u64 0]) ∧ Below w.heap.size w w' := by
  have H := Lib.hid h
  have HV := Lib.hid hv
  clear h hv
  go_enter Try.func8, Try.ntmps8
  go_wp2_with fail
  refine (H.out _).mono ?_
  rintro e w1 ⟨v, rfl, hV, hb⟩
  have HB := Lib.hid hb
  have HC := Lib.hid (HV.out v hV)
  clear hb hV
  go_wp2_with fail
  refine (HC.out _).mono ?_
  rintro e w2 ⟨rfl, hb⟩
  have HB2 := Lib.hid (HB.out.trans (hb.mono HB.out.size))
  clear hb
  have hr := (Row.made w 27 #[.int .i64 0, .int .i64 0, .float .f64 0, .string ⟨#[]⟩, .slice none 0 0, .int .i64 0, .bool false, .int .u64 0]).keep HB2.out (Row.made w 27 _).lt
  have HR := Lib.hid hr
  have HBW := Lib.hid (((Below.refl w.heap.size w).alloc (Nat.le_refl _) (.cells #[.int .i64 0, .int .i64 0, .float .f64 0, .string ⟨#[]⟩, .slice none 0 0, .int .i64 0, .bool false, .int .u64 0] 27)).trans (HB2.out.mono (by simp)))
  clear hr
  obtain ⟨v0, hc0⟩ := HR.out.has 0 (by decide)
  have hf0 := HR.out.free 0
  obtain ⟨v1, hc1⟩ := HR.out.has 1 (by decide)
  have hf1 := HR.out.free 1
  obtain ⟨v2, hc2⟩ := HR.out.has 2 (by decide)
  have hf2 := HR.out.free 2
  obtain ⟨v3, hc3⟩ := HR.out.has 3 (by decide)
  have hf3 := HR.out.free 3
  obtain ⟨v4, hc4⟩ := HR.out.has 4 (by decide)
  have hf4 := HR.out.free 4
  obtain ⟨v5, hc5⟩ := HR.out.has 5 (by decide)
  have hf5 := HR.out.free 5
  obtain ⟨v6, hc6⟩ := HR.out.has 6 (by decide)
  have hf6 := HR.out.free 6
  obtain ⟨v7, hc7⟩ := HR.out.has 7 (by decide)
  have hf7 := HR.out.free 7
  unfold zk
  go_wp2_with fail
  (try simp only [Exit.inBlock, Exit.then])
  refine bodyPost_ret (v := .agg #[.int .i64 k, .int .i64 0, .float .f64 0, .string t, .slice none 0 0, .int .i64 0, .bool false, .int .u64 0]) ?_ rfl ⟨rfl, ((((((((HBW.out.setCell (Nat.le_refl _) _).setCell (Nat.le_refl _) _).setCell (Nat.le_refl _) _).setCell (Nat.le_refl _) _).setCell (Nat.le_refl _) _).setCell (Nat.le_refl _) _).setCell (Nat.le_refl _) _).setCell (Nat.le_refl _) _)⟩
  exact results_cell_row rfl _ _ w.heap.size 27 _ (0, 0) _ rfl ((((((((HR.out.put _ _).put _ _).put _ _).put _ _).put _ _).put _ _).put _ _).put _ _) Try.underlying27 rfl (by kernel_rfl)
def ZAns (s : ByteArray) (x : Nat) (k : Int) (t : ByteArray) : Prop := ∀ w, Calls Try.prog 8 #[.string s, .float .f64 x] w fun e w' => e = .returned (.agg #[.int .i64 k, .int .i64 0, .float .f64 0, .string t, .slice none 0 0, .int .i64 0, .bool false, .int .u64 0]) ∧ Below w.heap.size w w'
theorem zNil (s : ByteArray) (x : Nat) (h : LtIs x true) : ZAns s x 1 ⟨#[]⟩ := fun w => zAny s ⟨#[]⟩ x 1 _ (repNil s x h) (fun v hv => by subst hv; exact clsNil) w
theorem zBig (s : ByteArray) (x c : Nat) (h : Cnt x c) (hs : s.size ≤ 65536) (hl : 2147483647 ≤ s.size * c) : ZAns s x 9 ⟨#[]⟩ := fun w => zAny s ⟨#[]⟩ x 9 _ (repAny s x c h hs true (decide_eq_true hl).symm) (fun v hv => by obtain ⟨g, rfl⟩ := hv; exact clsBig g) w
theorem zStr (s : ByteArray) (x c : Nat) (h : Cnt x c) (hs : s.size ≤ 65536) (hl : ¬ 2147483647 ≤ s.size * c) : ZAns s x 5 (rep s c) := fun w => zAny s (rep s c) x 5 _ (repAny s x c h hs false (decide_eq_false hl).symm) (fun v hv => by obtain rfl := hv; exact clsStr _) w
end Go.Proofs.Ytdjebcejpachmaa
