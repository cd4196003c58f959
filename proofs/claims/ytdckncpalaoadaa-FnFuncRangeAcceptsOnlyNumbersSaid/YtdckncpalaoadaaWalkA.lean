/-
  The walk of the law FnFuncRangeAcceptsOnlyNumbers (n001_91): it returns true for every input.
-/
import Derived.Test.YtdckncpalaoadaaBase
namespace Go.Proofs.Ytdckncpalaoadaa
set_option linter.unusedVariables false
open Go.ChangeShapes Go.WideShapes Go.ChangeAt Go.RowKit M
set_option maxHeartbeats 2000000 in
theorem law_with (a0 a1 a2 a3 a4 a5 : Int) (w : World) (T : Nat) (hT : T = if a3 ≤ 2 ∧ a4 ≤ 2 ∧ a5 ≤ 2 then 26 else 39)
    (hin : (0 ≤ a3 ∧ a3 ≤ 7) ∧ (0 ≤ a4 ∧ a4 ≤ 7) ∧ (0 ≤ a5 ∧ a5 ≤ 7))
    (hrange : ∀ (g : Nat) (cs : Array Value) (w : World), Row w g 20 cs → cs.size = 3 → FitTo (three a3 a4 a5) 3 cs → Calls Try.prog 4 #[.slice (some ⟨g, 0, none⟩) 3 3] w (RangeOut T w)) :
    Calls Try.prog 3 #[.int .i64 a0, .int .i64 a1, .int .i64 a2, .int .i64 a3, .int .i64 a4, .int .i64 a5] w fun e w' => e = .returned (.bool true) ∧ Below w.heap.size w w' := by
  obtain ⟨⟨l3, u3⟩, ⟨l4, u4⟩, ⟨l5, u5⟩⟩ := hin
  have HR := Lib.hid hrange
  have HI := Lib.hid (show ∀ j, j < 3 → 0 ≤ three a3 a4 a5 j ∧ three a3 a4 a5 j ≤ 7 from fun j hj => by
    match j, hj with
    | 0, _ => exact ⟨l3, u3⟩
    | 1, _ => exact ⟨l4, u4⟩
    | 2, _ => exact ⟨l5, u5⟩)
  clear hrange
  by_cases n3 : a3 ≤ 2 <;> by_cases n4 : a4 ≤ 2 <;> by_cases n5 : a5 ≤ 2
  all_goals
    simp only [n3, n4, n5, and_self, and_true, and_false, if_true, if_false] at hT
    subst hT
    first | (have d5 : decide (a5 ≤ 2) = true := decide_eq_true n5) | (have d5 : decide (a5 ≤ 2) = false := decide_eq_false n5)
    go_enter Try.func3, Try.ntmps3
    go_wp2_with fail
    refine (mixed (three a0 a1 a2) (three a3 a4 a5) w.heap.size (w.heap.size + 1) _ (cells3 ?_) (cells3 ?_) ?_ ?_ HI.out).mono ?_
    · exact (Row.made _ _ _).alloc _
    · have := Row.made (w.alloc (.cells #[.int .i64 a0, .int .i64 a1, .int .i64 a2] 3)) 3 #[.int .i64 a3, .int .i64 a4, .int .i64 a5]
      rw [World.size_alloc] at this
      exact this
    · first | omega | (simp only [World.size_alloc]; omega)
    · first | omega | (simp only [World.size_alloc]; omega)
    · rintro e w1 ⟨g, cs, rfl, hrow, hz, hF, hb⟩
      have HROW := Lib.hid hrow
      have HZ := Lib.hid hz
      have HF := Lib.hid hF
      have HB := Lib.hid hb
      clear hrow hz hF hb
      go_wp2_with fail
      refine (HR.out g cs _ HROW.out HZ.out HF.out).mono ?_
      rintro e w2 ⟨q, rfl, hb2⟩
      have HB2 := Lib.hid hb2
      clear hb2
      go_wp2
      go_ret
      refine ⟨rfl, ?_⟩
      have hb := HB.out
      have h0 : Below w.heap.size w ((w.alloc (.cells #[.int .i64 a0, .int .i64 a1, .int .i64 a2] 3)).alloc (.cells #[.int .i64 a3, .int .i64 a4, .int .i64 a5] 3)) := ((Below.refl _ _).alloc (Nat.le_refl _) _).alloc (by simp) _
      have h1 := h0.trans (hb.mono (by simp; omega))
      exact h1.trans (HB2.out.mono h1.size)
set_option maxHeartbeats 1000000 in
theorem law_out (a0 a1 a2 a3 a4 a5 : Int) (w : World) (h : (a3 < 0 ∨ 7 < a3) ∨ (a4 < 0 ∨ 7 < a4) ∨ (a5 < 0 ∨ 7 < a5)) :
    Calls Try.prog 3 #[.int .i64 a0, .int .i64 a1, .int .i64 a2, .int .i64 a3, .int .i64 a4, .int .i64 a5] w fun e w' => e = .returned (.bool true) ∧ Below w.heap.size w w' := by
  by_cases p3 : a3 < 0
  · go_enter Try.func3, Try.ntmps3
    go_wp2_with fail
    go_ret
    exact ⟨rfl, Below.refl _ _⟩
  by_cases q3 : 7 < a3
  · go_enter Try.func3, Try.ntmps3
    go_wp2_with fail
    go_ret
    exact ⟨rfl, Below.refl _ _⟩
  by_cases p4 : a4 < 0
  · go_enter Try.func3, Try.ntmps3
    go_wp2_with fail
    go_ret
    exact ⟨rfl, Below.refl _ _⟩
  by_cases q4 : 7 < a4
  · go_enter Try.func3, Try.ntmps3
    go_wp2_with fail
    go_ret
    exact ⟨rfl, Below.refl _ _⟩
  by_cases p5 : a5 < 0
  · go_enter Try.func3, Try.ntmps3
    go_wp2_with fail
    go_ret
    exact ⟨rfl, Below.refl _ _⟩
  have q5 : 7 < a5 := by omega
  clear h
  go_enter Try.func3, Try.ntmps3
  go_wp2_with fail
  go_ret
  exact ⟨rfl, Below.refl _ _⟩
theorem fit_num {a3 a4 a5 : Int} {cs : Array Value} (h : FitTo (three a3 a4 a5) 3 cs) (k : Nat) (hk : k ≤ 3) (hn : ∀ j, j < k → three a3 a4 a5 j ≤ 2) : NumTo k cs := by
  intro j hj
  obtain ⟨v, hv, hf⟩ := h j (by omega)
  exact ⟨v, hv, hf.1 (hn j hj)⟩
theorem fit_non {a3 a4 a5 : Int} {cs : Array Value} (h : FitTo (three a3 a4 a5) 3 cs) (k : Nat) (hk : k < 3) (hn : 2 < three a3 a4 a5 k) : ∃ v, cs[k]? = some v ∧ Non v := by
  obtain ⟨v, hv, hf⟩ := h k hk
  exact ⟨v, hv, hf.2 hn⟩
theorem fnFuncRangeAcceptsOnlyNumbers.walk (a0 : Int) (a1 : Int) (a2 : Int) (a3 : Int) (a4 : Int) (a5 : Int) (w0 : (Lit.int .i64 a0).wf = true) (w1 : (Lit.int .i64 a1).wf = true) (w2 : (Lit.int .i64 a2).wf = true) (w3 : (Lit.int .i64 a3).wf = true) (w4 : (Lit.int .i64 a4).wf = true) (w5 : (Lit.int .i64 a5).wf = true) (w : World) :
    Calls Try.prog 3 #[.int .i64 a0, .int .i64 a1, .int .i64 a2, .int .i64 a3, .int .i64 a4, .int .i64 a5] w fun e w' => e = .returned (.bool true) ∧ Below w.heap.size w w' := by
  by_cases h3 : 0 ≤ a3 ∧ a3 ≤ 7
  · by_cases h4 : 0 ≤ a4 ∧ a4 ≤ 7
    · by_cases h5 : 0 ≤ a5 ∧ a5 ≤ 7
      · by_cases n3 : a3 ≤ 2
        · by_cases n4 : a4 ≤ 2
          · by_cases n5 : a5 ≤ 2
            · refine law_with a0 a1 a2 a3 a4 a5 w 26 (by rw [if_pos ⟨n3, n4, n5⟩]) ⟨h3, h4, h5⟩ fun g cs W hr hz hf => range_num g cs W hr hz (fit_num hf 3 (by omega) fun j hj => ?_)
              match j, hj with
              | 0, _ => exact n3
              | 1, _ => exact n4
              | 2, _ => exact n5
            · refine law_with a0 a1 a2 a3 a4 a5 w 39 (by rw [if_neg (by omega)]) ⟨h3, h4, h5⟩ fun g cs W hr hz hf => range_non g cs W hr hz 2 (by omega) (fit_num hf 2 (by omega) fun j hj => ?_) (fit_non hf 2 (by omega) (by show 2 < a5; omega))
              match j, hj with
              | 0, _ => exact n3
              | 1, _ => exact n4
          · refine law_with a0 a1 a2 a3 a4 a5 w 39 (by rw [if_neg (by omega)]) ⟨h3, h4, h5⟩ fun g cs W hr hz hf => range_non g cs W hr hz 1 (by omega) (fit_num hf 1 (by omega) fun j hj => ?_) (fit_non hf 1 (by omega) (by show 2 < a4; omega))
            match j, hj with
            | 0, _ => exact n3
        · exact law_with a0 a1 a2 a3 a4 a5 w 39 (by rw [if_neg (by omega)]) ⟨h3, h4, h5⟩ fun g cs W hr hz hf => range_non g cs W hr hz 0 (by omega) (fun j hj => absurd hj (by omega)) (fit_non hf 0 (by omega) (by show 2 < a3; omega))
      · exact law_out a0 a1 a2 a3 a4 a5 w (by omega)
    · exact law_out a0 a1 a2 a3 a4 a5 w (by omega)
  · exact law_out a0 a1 a2 a3 a4 a5 w (by omega)
end Go.Proofs.Ytdckncpalaoadaa
