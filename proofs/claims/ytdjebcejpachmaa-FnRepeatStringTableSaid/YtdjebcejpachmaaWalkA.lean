/-
  repeatString and its reading (n001_79).
-/
import Derived.Test.YtdjebcejpachmaaTouch
import Derived.Test.YtdjebcejpachmaaShelf
import Derived.Test.YtdjebcejpachmaaFloat
namespace Go.Proofs.Ytdjebcejpachmaa
set_option linter.unusedVariables false
open Go.ChangeShapes Go.WideShapes Go.ChangeAt Go.RowKit M
theorem f64_eq : FloatKind.f64.format = Ieee.double := rfl
theorem nanC (x c : Nat) (h : Flo x c) (w : World) : Calls Try.prog 53 #[.float .f64 x] w fun e w' => e = .returned (.bool false) ∧ w' = w := by
  have H := Lib.hid h
  have h0 := f64_eq
  clear h
  go_enter Try.func53, Try.ntmps53
  go_wp2_with fail
  go_ret
  refine ⟨?_, rfl⟩
  show Ending.returned (.bool (Ieee.double.order x x != some .eq)) = _
  rw [H.out.2.2.2]
  rfl
theorem ltC (x c : Nat) (h : Flo x c) (w : World) : Calls Try.prog 42 #[.float .f64 x, .float .f64 0] w fun e w' => e = .returned (.bool false) ∧ w' = w := by
  have h1 : (Ieee.double.order x 0 == some .lt) = false := by rcases h.1 with h | h <;> rw [h] <;> rfl
  have H := Lib.hid h
  have h0 := f64_eq
  clear h
  go_enter Try.func42, Try.ntmps42
  go_wp2_with fail
  refine (nanC x c H.out _).mono ?_
  rintro e w' ⟨rfl, rfl⟩
  go_wp2_with fail
  go_ret
  exact ⟨rfl, rfl⟩
theorem run_min_flo (x c : Nat) (h : Flo x c) (W : World) : Sem.run Try.prog (Builtin.min_ #[23, 23] 23 #[.float .f64 x, .float .f64 4746794007244308480]) W = .ok (.float .f64 x) W := by
  have h2 := h.2.1
  have h0 := f64_eq
  simp only [Builtin.min_, Builtin.min2, List.foldlM, h0, h2]
  rfl
theorem run_conv_flo (x c : Nat) (h : Flo x c) (hc : c ≤ 131072) (W : World) : (convert 23 3 (.float .f64 x)).run Try.prog W = .ok (.int .i64 c) W := by
  have h3 : (FloatKind.decode .f64 x).toInt .zero = some (c : Int) := h.2.2.1
  have e1 : IntKind.i64.min ≤ (c : Int) ∧ (c : Int) ≤ IntKind.i64.max := by
    have a1 : IntKind.i64.min = -9223372036854775808 := by decide
    have a2 : IntKind.i64.max = 9223372036854775807 := by decide
    omega
  refine run_convert_float_int W 23 3 .f64 .i64 x c (by rw [Try.underlying23]; rfl) Try.underlying3 ?_
  unfold floatToIntVal
  simp only [h3, e1, and_self, if_true]
theorem wrap_u64 (n : Nat) (hn : n ≤ 1099511627776) : IntKind.u64.wrap (n : Int) = n := by
  unfold IntKind.wrap
  have h1 : (n : Int) % 2 ^ IntKind.u64.bits = n := by
    have : (2 : Int) ^ IntKind.u64.bits = 18446744073709551616 := by decide
    rw [this]
    omega
  rw [h1]
  rfl
theorem run_cv_u64 (n : Nat) (hn : n ≤ 1099511627776) (W : World) : (convert 3 25 (.int .i64 n)).run Try.prog W = .ok (.int .u64 n) W := by
  go_simp
  exact wrap_u64 n hn
theorem run_mul_u64 (n c : Nat) (hm2 : n * c ≤ 1099511627776) (W : World) : (binOp .mul 25 (.int .u64 n) (.int .u64 c)).run Try.prog W = .ok (.int .u64 (n * c : Nat)) W := by
  go_simp
  rw [← Int.natCast_mul]
  exact wrap_u64 _ hm2
theorem run_geq_u64 (m : Nat) (hm2 : m ≤ 1048576) (W : World) : (binOp .geq 25 (.int .u64 m) (.int .u64 2147483647)).run Try.prog W = .ok (.bool false) W := by
  go_simp
  omega
set_option maxRecDepth 100000 in
theorem repS (s : ByteArray) (x c : Nat) (h : Flo x c) (hc : c ≤ 131072) (hs : s.size ≤ 65536) (hl : s.size * c ≤ 1048576) (w : World) : Calls Try.prog 24 #[.string s, .float .f64 x] w fun e w' => e = .returned (.iface 9 (.string ⟨(Lib.repeatL s.data.toList c).toArray⟩)) ∧ Below w.heap.size w w' := by
  have H := Lib.hid h
  have hmn := run_min_flo x c h
  have hcv := Lib.hid (run_conv_flo x c h hc)
  clear h
  go_enter Try.func24, Try.ntmps24
  go_wp2_with fail
  refine (ltC x c H.out _).mono ?_
  rintro e w' ⟨rfl, rfl⟩
  have hm := run_mul_u64 s.size c (by omega)
  have hg := run_geq_u64 (s.size * c) hl
  have c1 := run_cv_u64 s.size (by omega)
  have c2 := run_cv_u64 c (by omega)
  obtain ⟨n, hn⟩ : ∃ n : Value, n = .int .u64 (s.size * c : Nat) := ⟨_, rfl⟩
  obtain ⟨A, hA⟩ : ∃ n : Value, n = .int .u64 s.size := ⟨_, rfl⟩
  obtain ⟨B, hB⟩ : ∃ n : Value, n = .int .u64 c := ⟨_, rfl⟩
  rw [← hn] at hm hg
  rw [← hA] at hm c1
  rw [← hB] at hm c2
  have HL := Lib.hid hl
  clear hl hn hA hB
  go_wp2_with fail
  rw [hcv.out]
  simp only [Result.andThen]
  go_wp2_with fail
  refine (strings_Repeat s c _ (by omega) (by have := HL.out; omega)).mono ?_
  rintro e w1 ⟨rfl, hb⟩
  have HB := Lib.hid hb
  clear hb
  go_wp2_with fail
  go_ret
  exact ⟨rfl, HB.out⟩
@[go_sem] theorem as9_3 (v : Value) (w : World) : (Instr.typeAssert (.iface 9 v) 20 3 true).run Try.prog w = .ok (.tuple #[.int .i64 0, .bool false]) w := by kernel_rfl
@[go_sem] theorem as9_23 (v : Value) (w : World) : (Instr.typeAssert (.iface 9 v) 20 23 true).run Try.prog w = .ok (.tuple #[.float .f64 0, .bool false]) w := by kernel_rfl
@[go_sem] theorem as9_66 (v : Value) (w : World) : (Instr.typeAssert (.iface 9 v) 20 66 true).run Try.prog w = .ok (.tuple #[.pointer none, .bool false]) w := by kernel_rfl
@[go_sem] theorem as9_9 (v : Value) (w : World) : (Instr.typeAssert (.iface 9 v) 20 9 true).run Try.prog w = .ok (.tuple #[v, .bool true]) w := by kernel_rfl
@[go_sem] theorem run_store_float {P : Program} {w : World} {a : Addr} {m : Mode} (k : FloatKind) (b : Nat) : (store a (.float k b) m).run P w = stored P w a (.float k b) m := run_store P w a _ m rfl
def zv (s : ByteArray) : Array Value := #[.int .i64 5, .int .i64 0, .float .f64 0, .string s, .slice none 0 0, .int .i64 0, .bool false, .int .u64 0]
set_option maxRecDepth 100000 in
theorem clsS (s : ByteArray) (w : World) : Calls Try.prog 23 #[.iface 9 (.string s)] w fun e w' => e = .returned (.agg (zv s)) ∧ Below w.heap.size w w' := by
  go_enter Try.func23, Try.ntmps23
  go_wp2_with fail
  (try simp only [Exit.inBlock, Exit.then])
  refine bodyPost_ret (v := .agg (zv s)) ?_ rfl ⟨rfl, (Below.refl _ _).alloc (Nat.le_refl _) _⟩
  exact results_cell_row rfl _ _ w.heap.size 27 _ (0, 0) _ rfl (Row.made w 27 _) Try.underlying27 rfl (by kernel_rfl)
set_option maxRecDepth 100000 in
theorem zRep (s : ByteArray) (x c : Nat) (h : Flo x c) (hc : c ≤ 131072) (hs : s.size ≤ 65536) (hl : s.size * c ≤ 1048576) (w : World) : Calls Try.prog 8 #[.string s, .float .f64 x] w fun e w' => e = .returned (.agg (zv ⟨(Lib.repeatL s.data.toList c).toArray⟩)) ∧ Below w.heap.size w w' := by
  have H := Lib.hid h
  have HL := Lib.hid hl
  clear h hl
  go_enter Try.func8, Try.ntmps8
  go_wp2_with fail
  refine (repS s x c H.out hc hs HL.out _).mono ?_
  rintro e w1 ⟨rfl, hb⟩
  have HB := Lib.hid hb
  clear hb
  go_wp2_with fail
  refine (clsS _ _).mono ?_
  rintro e w2 ⟨rfl, hb⟩
  have HB2 := Lib.hid (HB.out.trans (hb.mono HB.out.size))
  clear hb
  have hr := (Row.made w 27 #[.int .i64 0, .int .i64 0, .float .f64 0, .string ⟨#[]⟩, .slice none 0 0, .int .i64 0, .bool false, .int .u64 0]).keep HB2.out (Row.made w 27 _).lt
  have HR := Lib.hid hr
  have HBW := Lib.hid (((Below.refl w.heap.size w).alloc (Nat.le_refl _) (.cells #[.int .i64 0, .int .i64 0, .float .f64 0, .string ⟨#[]⟩, .slice none 0 0, .int .i64 0, .bool false, .int .u64 0] 27)).trans (HB2.out.mono (by simp)))
  clear hr
  obtain ⟨v0, hc0⟩ := HR.out.has 0 (by decide)
  have hf0 := HR.out.free 0
  obtain ⟨v1, hc1⟩ := HR.out.has 1 (by decide)
  have hf1 := HR.out.free 1
  obtain ⟨v2, hc2⟩ := HR.out.has 2 (by decide)
  have hf2 := HR.out.free 2
  obtain ⟨v3, hc3⟩ := HR.out.has 3 (by decide)
  have hf3 := HR.out.free 3
  obtain ⟨v4, hc4⟩ := HR.out.has 4 (by decide)
  have hf4 := HR.out.free 4
  obtain ⟨v5, hc5⟩ := HR.out.has 5 (by decide)
  have hf5 := HR.out.free 5
  obtain ⟨v6, hc6⟩ := HR.out.has 6 (by decide)
  have hf6 := HR.out.free 6
  obtain ⟨v7, hc7⟩ := HR.out.has 7 (by decide)
  have hf7 := HR.out.free 7
  unfold zv
  go_wp2_with fail
  (try simp only [Exit.inBlock, Exit.then])
  refine bodyPost_ret (v := .agg #[.int .i64 5, .int .i64 0, .float .f64 0, .string ⟨(Lib.repeatL s.data.toList c).toArray⟩, .slice none 0 0, .int .i64 0, .bool false, .int .u64 0]) ?_ rfl ⟨rfl, ((((((((HBW.out.setCell (Nat.le_refl _) _).setCell (Nat.le_refl _) _).setCell (Nat.le_refl _) _).setCell (Nat.le_refl _) _).setCell (Nat.le_refl _) _).setCell (Nat.le_refl _) _).setCell (Nat.le_refl _) _).setCell (Nat.le_refl _) _)⟩
  exact results_cell_row rfl _ _ w.heap.size 27 _ (0, 0) _ rfl ((((((((HR.out.put _ _).put _ _).put _ _).put _ _).put _ _).put _ _).put _ _).put _ _) Try.underlying27 rfl (by kernel_rfl)
def BoolIf (p : Prop) (w : World) (e : Ending) (w' : World) : Prop := ∃ b : Bool, e = .returned (.bool b) ∧ (b = true → p) ∧ w' = w
theorem zz6 (s : ByteArray) (a b : Int) (w : World) (hs : s.size ≤ maxLen) : Calls Try.prog 6 #[.string s, .int .i64 a, .int .i64 b] w (BoolIf True w) := by
  unfold maxLen at hs
  by_cases h : s.size ≤ 1048576
  all_goals
    go_enter Try.func6, Try.ntmps6
    go_wp2_with fail
    go_ret
    exact ⟨_, rfl, fun _ => trivial, rfl⟩
theorem run_leq_u64 (m : Nat) (W : World) : (binOp .leq 25 (.int .u64 m) (.int .u64 1048576)).run Try.prog W = .ok (.bool (decide (m ≤ 1048576))) W := by
  by_cases h : m ≤ 1048576
  · rw [decide_eq_true h]
    go_simp
    omega
  · rw [decide_eq_false h]
    go_simp
    omega
set_option maxRecDepth 100000 in
theorem fits7 (s : ByteArray) (a b : Int) (w : World) (hs : s.size ≤ maxLen) : Calls Try.prog 7 #[.string s, .int .i64 a, .int .i64 b] w (BoolIf (s.size ≤ 65536 ∧ ∃ A B : Nat, a = A ∧ b = B ∧ A ≤ 65536 ∧ B ≤ 65536 ∧ s.size * (A + B) ≤ 1048576) w) := by
  unfold maxLen at hs
  by_cases h1 : s.size ≤ 65536
  · by_cases h2 : 0 ≤ a ∧ 0 ≤ b ∧ a ≤ 65536 ∧ b ≤ 65536
    · obtain ⟨A, rfl⟩ : ∃ A : Nat, a = A := ⟨a.toNat, by omega⟩
      obtain ⟨B, rfl⟩ : ∃ B : Nat, b = B := ⟨b.toNat, by omega⟩
      have hA : A ≤ 65536 := by omega
      have hB : B ≤ 65536 := by omega
      have hq : s.size * (A + B) ≤ 1099511627776 := Nat.le_trans (Nat.mul_le_mul h1 (show A + B ≤ 131072 by omega)) (by omega)
      have hm := run_mul_u64 s.size (A + B) hq
      have hg := run_leq_u64 (s.size * (A + B))
      have c1 := run_cv_u64 s.size (by omega)
      have c2 := run_cv_u64 (A + B) (by omega)
      rw [Int.natCast_add] at c2
      obtain ⟨n, hn⟩ : ∃ n : Value, n = .int .u64 (s.size * (A + B) : Nat) := ⟨_, rfl⟩
      obtain ⟨X, hX⟩ : ∃ n : Value, n = .int .u64 s.size := ⟨_, rfl⟩
      obtain ⟨Y, hY⟩ : ∃ n : Value, n = .int .u64 ((A : Int) + (B : Int)) := ⟨_, rfl⟩
      obtain ⟨r, hr⟩ : ∃ r : Bool, r = decide (s.size * (A + B) ≤ 1048576) := ⟨_, rfl⟩
      rw [← hn] at hm hg
      rw [← hr] at hg
      rw [← hX] at hm c1
      rw [Int.natCast_add, ← hY] at hm
      rw [← hY] at c2
      have HR := Lib.hid hr
      clear hn hX hY hr hq h2
      go_enter Try.func7, Try.ntmps7
      go_wp2_with fail
      go_ret
      refine ⟨r, rfl, fun h => ?_, rfl⟩
      rw [HR.out] at h
      exact ⟨h1, A, B, rfl, rfl, hA, hB, by simpa using h⟩
    · rcases (show a < 0 ∨ (0 ≤ a ∧ b < 0) ∨ (0 ≤ a ∧ 0 ≤ b ∧ 65536 < a) ∨ (0 ≤ a ∧ 0 ≤ b ∧ a ≤ 65536 ∧ 65536 < b) by omega) with h | ⟨h, h3⟩ | ⟨h, h3, h4⟩ | ⟨h, h3, h4, h5⟩
      all_goals
        clear h2
        go_enter Try.func7, Try.ntmps7
        go_wp2_with fail
        go_ret
        exact ⟨_, rfl, (fun h => by cases h), rfl⟩
  · go_enter Try.func7, Try.ntmps7
    go_wp2_with fail
    go_ret
    exact ⟨_, rfl, (fun h => by cases h), rfl⟩
theorem run_cv_f (n : Int) (W : World) : (convert 3 23 (.int .i64 n)).run Try.prog W = .ok (.float .f64 (FloatKind.f64.nearest n)) W := by
  go_simp
  rfl
end Go.Proofs.Ytdjebcejpachmaa
