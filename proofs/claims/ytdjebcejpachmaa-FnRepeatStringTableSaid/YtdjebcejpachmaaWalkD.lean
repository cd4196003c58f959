/-
  The walk of the law FnRepeatStringTable (n001_79): it returns true for every input.
-/
import Derived.Test.YtdjebcejpachmaaWalkC
import Derived.Deep.QuietTactic
import Derived.RegionTactic
import Derived.BigQuiet
import Derived.Deep.RegionWith
namespace Go.Proofs.Ytdjebcejpachmaa
set_option linter.unusedVariables false
open Ieee Go.ChangeShapes Go.WideShapes Go.ChangeAt Go.RowKit M
theorem zz21 (s : ByteArray) (x : Nat) (w : World) (hs : s.size ≤ maxLen) : Calls Try.prog 21 #[.string s, .float .f64 x] w (BoolIf True w) := by
  unfold maxLen at hs
  by_cases h : s.size ≤ 1048576
  all_goals
    go_enter Try.func21, Try.ntmps21
    go_wp2_with fail
    go_ret
    exact ⟨_, rfl, fun _ => trivial, rfl⟩
/-- A double that is no number or is below 0. -/
def Out (x : Nat) : Prop := (double.order x x != some .eq) = true ∨ ((double.order x x != some .eq) = false ∧ (double.order x 0 == some .lt) = true)
/-- A double whose whole part, cut off at 2^31 - 1, is c: as the law counts it. -/
def Cas (x c : Nat) : Prop := (double.order x x != some .eq) = false ∧ (double.order x 0 == some .lt) = false ∧ Cnt x c ∧
  (((double.order x 4746794007244308480 == some .lt) = true ∧ ∀ W, (convert 23 25 (.float .f64 x)).run Try.prog W = .ok (.int .u64 c) W) ∨ ((double.order x 4746794007244308480 == some .lt) = false ∧ c = 2147483647))
theorem out_or (x : Nat) : (Out x ∧ LtIs x true) ∨ ∃ c, Cas x c := by
  by_cases hx : double.order x x = some .eq
  · have h1 : (double.order x x != some .eq) = false := by rw [hx]; rfl
    rcases h0 : double.order x 0 with _ | o
    · exfalso
      unfold Format.order at h0 hx
      rw [read_0] at h0
      cases hr : double.read x with
      | nan s f => rw [hr] at hx; cases hx
      | infinity s => rw [hr] at h0; cases h0
      | number s m e => rw [hr] at h0; cases h0
    · cases o
      · have h2 : (double.order x 0 == some .lt) = true := by rw [h0]; rfl
        exact .inl ⟨.inr ⟨h1, h2⟩, ltW_lt x h0⟩
      all_goals
        have h2 : (double.order x 0 == some .lt) = false := by rw [h0]; rfl
        rcases cnt_all x (by simp [h0]) hx with ⟨h3, c, _, h4, h5⟩ | ⟨h3, h4⟩
        · exact .inr ⟨c, h1, h2, h4, .inl ⟨by rw [h3]; rfl, h5⟩⟩
        · exact .inr ⟨_, h1, h2, h4, .inr ⟨h3, rfl⟩⟩
  · have h1 : (double.order x x != some .eq) = true := by simpa using hx
    by_cases h0 : double.order x 0 = some .lt
    · exact .inl ⟨.inl h1, ltW_lt x h0⟩
    · exact .inl ⟨.inl h1, fun w => ltW x true (by simpa using h0) h1 w⟩
theorem fitsN (s : ByteArray) (x : Nat) (h : Out x) (w : World) (hs : s.size ≤ maxLen) : Calls Try.prog 22 #[.string s, .float .f64 x] w (BoolIf True w) := by
  unfold maxLen at hs
  have hf := f64_eq
  rcases h with h | ⟨h, h2⟩
  all_goals
    by_cases h1 : s.size ≤ 65536
    all_goals
      go_enter Try.func22, Try.ntmps22
      go_wp2_with fail
      go_ret
      exact ⟨_, rfl, fun _ => trivial, rfl⟩
theorem run_lssM (m : Nat) (W : World) : (binOp .lss 25 (.int .u64 m) (.int .u64 2147483647)).run Try.prog W = .ok (.bool (decide (m < 2147483647))) W := by
  by_cases h : m < 2147483647
  · rw [decide_eq_true h]
    go_simp
    omega
  · rw [decide_eq_false h]
    go_simp
    omega
theorem run_gtrK (m : Nat) (W : World) : (binOp .gtr 25 (.int .u64 m) (.int .u64 1048576)).run Try.prog W = .ok (.bool (decide (1048576 < m))) W := by
  by_cases h : 1048576 < m
  · rw [decide_eq_true h]
    go_simp
    omega
  · rw [decide_eq_false h]
    go_simp
    omega
theorem run_neqT (m : Nat) (W : World) : (binOp .neq 25 (.int .u64 m) (.int .u64 m)).run Try.prog W = .ok (.bool false) W := by
  go_simp
set_option maxRecDepth 100000 in
theorem fitsC (s : ByteArray) (x c : Nat) (h : Cas x c) (w : World) (hs : s.size ≤ maxLen) : Calls Try.prog 22 #[.string s, .float .f64 x] w (BoolIf (s.size ≤ 65536 ∧ (2147483647 ≤ s.size * c ∨ s.size * c ≤ 1048576)) w) := by
  unfold maxLen at hs
  have hf := f64_eq
  obtain ⟨g1, g2, hc, hcase⟩ := h
  have hc2 := hc.2.2.1
  have HC := Lib.hid hc
  clear hc
  by_cases h1 : s.size ≤ 65536
  · have hq := mul_le s.size c h1 hc2
    have hm := run_mul_u64b s.size c hq
    have hl := run_lssM (s.size * c)
    have hg := run_gtrK (s.size * c)
    have c1 := run_cv_u64 s.size (by omega)
    obtain ⟨T, hT⟩ : ∃ n : Value, n = .int .u64 (s.size * c : Nat) := ⟨_, rfl⟩
    obtain ⟨A, hA⟩ : ∃ n : Value, n = .int .u64 s.size := ⟨_, rfl⟩
    obtain ⟨b1, hb1⟩ : ∃ r : Bool, r = decide (s.size * c < 2147483647) := ⟨_, rfl⟩
    obtain ⟨b2, hb2⟩ : ∃ r : Bool, r = decide (1048576 < s.size * c) := ⟨_, rfl⟩
    rw [← hT] at hm hl hg
    rw [← hb1] at hl
    rw [← hb2] at hg
    rw [← hA] at hm c1
    have hres : (!(b1 && b2)) = true → 2147483647 ≤ s.size * c ∨ s.size * c ≤ 1048576 := by
      rw [hb1, hb2]
      intro h
      simp at h
      omega
    have HRES := Lib.hid hres
    clear hT hA hb1 hb2 hq hres
    rcases hcase with ⟨g3, hcv⟩ | ⟨g3, rfl⟩
    · obtain ⟨C, hC⟩ : ∃ n : Value, n = .int .u64 c := ⟨_, rfl⟩
      rw [← hC] at hcv hm
      clear hC
      cases b1 <;> cases b2
      all_goals
        go_enter Try.func22, Try.ntmps22
        go_wp2_with fail
        go_ret
        exact ⟨_, rfl, fun h => ⟨h1, HRES.out (by first | rfl | exact h)⟩, rfl⟩
    · have hm' : ∀ W, (binOp .mul 25 A (.int .u64 2147483647)).run Try.prog W = .ok T W := hm
      clear hm
      cases b1 <;> cases b2
      all_goals
        go_enter Try.func22, Try.ntmps22
        go_wp2_with fail
        go_ret
        exact ⟨_, rfl, fun h => ⟨h1, HRES.out (by first | rfl | exact h)⟩, rfl⟩
  · clear hcase
    go_enter Try.func22, Try.ntmps22
    go_wp2_with fail
    go_ret
    exact ⟨_, rfl, (fun h => by cases h), rfl⟩
theorem run_eqgT (m : Nat) (W : World) : (eqGuard .neq 25 (.tmp 53) (.tmp 54) (.int .u64 m) (.int .u64 m)).run Try.prog W = .ok () W := by
  go_simp
@[go_sem] theorem field27_0 (k : Int) (v1 v2 v3 v4 v5 v6 v7 : Value) (w : World) : (Instr.field 27 (.agg #[.int .i64 k, v1, v2, v3, v4, v5, v6, v7]) 0).run Try.prog w = .ok (.int .i64 k) w := by kernel_rfl
set_option maxRecDepth 100000 in
theorem tabN (s : ByteArray) (x : Nat) (h : Out x) (hl : LtIs x true) (w : World) (hs : s.size ≤ maxLen) : Calls Try.prog 5 #[.string s, .float .f64 x] w fun e w' => e = .returned (.bool true) ∧ Below w.heap.size w w' := by
  have hf := f64_eq
  have Z := Lib.hid (zNil s x hl)
  have F := Lib.hid (fun w => fitsN s x h w hs)
  have G := Lib.hid (fun w => zz21 s x w hs)
  clear hl
  rcases h with h | ⟨h, h2⟩
  all_goals
    go_enter Try.func5, Try.ntmps5
    go_wp2_with fail
    refine (G.out _).mono ?_
    rintro e w' ⟨r, rfl, -, rfl⟩
    cases r
    · go_wp2_with fail
      go_ret
      exact ⟨rfl, Below.refl _ _⟩
    go_wp2_with fail
    refine (F.out _).mono ?_
    rintro e w' ⟨r, rfl, -, rfl⟩
    cases r
    · go_wp2_with fail
      go_ret
      exact ⟨rfl, Below.refl _ _⟩
    go_wp2_with fail
    refine (Z.out _).mono ?_
    rintro e w1 ⟨rfl, hb⟩
    have HB := Lib.hid hb
    clear hb
    go_wp2_with fail
    go_ret
    exact ⟨rfl, HB.out⟩
theorem rep_get (s : ByteArray) (c k : Nat) (hk : k < (rep s c).size) (h0 : 0 < s.size) : (rep s c)[k] = s[k % s.size]'(Nat.mod_lt _ h0) := by
  have h : ∀ (l : List UInt8) (c k : Nat), (hl : 0 < l.length) → k < c * l.length → (Lib.repeatL l c)[k]? = l[k % l.length]? := by
    intro l c
    induction c with
    | zero => intro k hl hk; omega
    | succ c ih =>
      intro k hl hk
      show (l ++ Lib.repeatL l c)[k]? = _
      by_cases h1 : k < l.length
      · rw [List.getElem?_append_left h1, Nat.mod_eq_of_lt h1]
      · rw [List.getElem?_append_right (by omega), ih (k - l.length) hl (by rw [Nat.succ_mul] at hk; omega)]
        rw [Nat.mod_eq_sub_mod (by omega : k ≥ l.length)]
  have h2 := h s.data.toList c k (by rw [Array.length_toList]; exact h0) (by rw [Array.length_toList]; rw [rep_size] at hk; exact hk)
  have e1 : (Lib.repeatL s.data.toList c)[k]? = some ((rep s c)[k]) := by
    rw [List.getElem?_eq_getElem (by have := rep_size s c; rw [Lib.repeatL_length, Array.length_toList]; rw [rep_size] at hk; exact hk)]
    rfl
  have e2 : s.data.toList[k % s.data.toList.length]? = some (s[k % s.size]'(Nat.mod_lt _ h0)) := by
    rw [List.getElem?_eq_getElem (by rw [Array.length_toList]; exact Nat.mod_lt _ h0)]
    rfl
  rw [e1, e2] at h2
  exact Option.some.inj h2
set_option maxRecDepth 100000 in
set_option maxHeartbeats 1500000 in
theorem tabBig (s : ByteArray) (x c : Nat) (h : Cas x c) (h1 : s.size ≤ 65536) (hM : 2147483647 ≤ s.size * c) (w : World) (hs : s.size ≤ maxLen) : Calls Try.prog 5 #[.string s, .float .f64 x] w fun e w' => e = .returned (.bool true) ∧ Below w.heap.size w w' := by
  have hf := f64_eq
  have F := Lib.hid (fun w => fitsC s x c h w hs)
  have G := Lib.hid (fun w => zz21 s x w hs)
  obtain ⟨g1, g2, hc, hcase⟩ := h
  have hc2 := hc.2.2.1
  have Z := Lib.hid (zBig s x c hc h1 hM)
  clear hc
  have hq := mul_le s.size c h1 hc2
  have hm := run_mul_u64b s.size c hq
  have hg := run_geqM (s.size * c) hq
  rw [decide_eq_true hM] at hg
  have c1 := run_cv_u64 s.size (by omega)
  obtain ⟨T, hT⟩ : ∃ n : Value, n = .int .u64 (s.size * c : Nat) := ⟨_, rfl⟩
  obtain ⟨A, hA⟩ : ∃ n : Value, n = .int .u64 s.size := ⟨_, rfl⟩
  rw [← hT] at hm hg
  rw [← hA] at hm c1
  have HM := Lib.hid hM
  clear hT hA hq hM
  rcases hcase with ⟨g3, hcv⟩ | ⟨g3, rfl⟩
  · obtain ⟨C, hC⟩ : ∃ n : Value, n = .int .u64 c := ⟨_, rfl⟩
    rw [← hC] at hcv hm
    clear hC
    go_enter Try.func5, Try.ntmps5
    go_wp2_with fail
    refine (G.out _).mono ?_
    rintro e w' ⟨r, rfl, -, rfl⟩
    cases r
    · go_wp2_with fail
      go_ret
      exact ⟨rfl, Below.refl _ _⟩
    go_wp2_with fail
    refine (F.out _).mono ?_
    rintro e w' ⟨r, rfl, -, rfl⟩
    cases r
    · go_wp2_with fail
      go_ret
      exact ⟨rfl, Below.refl _ _⟩
    go_wp2_with fail
    refine (Z.out _).mono ?_
    rintro e w1 ⟨rfl, hb⟩
    have HB := Lib.hid hb
    clear hb
    go_wp2_with fail
    go_ret
    exact ⟨rfl, HB.out.alloc HB.out.size _⟩
  · have hm' : ∀ W, (binOp .mul 25 A (.int .u64 2147483647)).run Try.prog W = .ok T W := hm
    clear hm
    go_enter Try.func5, Try.ntmps5
    go_wp2_with fail
    refine (G.out _).mono ?_
    rintro e w' ⟨r, rfl, -, rfl⟩
    cases r
    · go_wp2_with fail
      go_ret
      exact ⟨rfl, Below.refl _ _⟩
    go_wp2_with fail
    refine (F.out _).mono ?_
    rintro e w' ⟨r, rfl, -, rfl⟩
    cases r
    · go_wp2_with fail
      go_ret
      exact ⟨rfl, Below.refl _ _⟩
    go_wp2_with fail
    refine (Z.out _).mono ?_
    rintro e w1 ⟨rfl, hb⟩
    have HB := Lib.hid hb
    clear hb
    go_wp2_with fail
    go_ret
    exact ⟨rfl, HB.out.alloc HB.out.size _⟩
set_option maxRecDepth 100000 in
set_option maxHeartbeats 1500000 in
theorem tabStr (s : ByteArray) (x c : Nat) (h : Cas x c) (h1 : s.size ≤ 65536) (hM : ¬ 2147483647 ≤ s.size * c) (hK : s.size * c ≤ 1048576) (w : World) (hs : s.size ≤ maxLen) : Calls Try.prog 5 #[.string s, .float .f64 x] w fun e w' => e = .returned (.bool true) ∧ Below w.heap.size w w' := by
  have hf := f64_eq
  have F := Lib.hid (fun w => fitsC s x c h w hs)
  have G := Lib.hid (fun w => zz21 s x w hs)
  obtain ⟨g1, g2, hc, hcase⟩ := h
  have hc2 := hc.2.2.1
  have hZ := zStr s x c hc h1 hM
  clear hc
  have hq := mul_le s.size c h1 hc2
  have hm := run_mul_u64b s.size c hq
  have hg := run_geqM (s.size * c) hq
  rw [decide_eq_false hM] at hg
  have c1 := run_cv_u64 s.size (by omega)
  have hRs := rep_size s c
  have c2 := run_cv_u64b (rep s c).size (by rw [hRs, Nat.mul_comm]; exact hq)
  rw [show ((rep s c).size : Nat) = s.size * c by rw [hRs, Nat.mul_comm]] at c2
  have c2' : ∀ W, (convert 3 25 (.int .i64 (rep s c).size)).run Try.prog W = .ok (.int .u64 (s.size * c : Nat)) W := by rw [show ((rep s c).size : Nat) = s.size * c by rw [hRs, Nat.mul_comm]]; exact c2
  have hne := run_neqT (s.size * c)
  have hne2 := run_eqgT (s.size * c)
  have hget := rep_get s c
  have hRm : (rep s c).size ≤ 1048576 := by rw [hRs, Nat.mul_comm]; exact hK
  have hz0 : s.size = 0 → (rep s c).size = 0 := fun h => by rw [hRs, h, Nat.mul_zero]
  clear c2 hRs
  obtain ⟨R, hR⟩ : ∃ r, r = rep s c := ⟨_, rfl⟩
  rw [← hR] at hZ c2' hRm hz0
  obtain ⟨T, hT⟩ : ∃ n : Value, n = .int .u64 (s.size * c : Nat) := ⟨_, rfl⟩
  obtain ⟨A, hA⟩ : ∃ n : Value, n = .int .u64 s.size := ⟨_, rfl⟩
  rw [← hT] at hm hg c2' hne hne2
  rw [← hA] at hm c1
  have Z := Lib.hid hZ
  have HG := Lib.hid (show ∀ k (hk : k < R.size) (h0 : 0 < s.size), R[k] = s[k % s.size]'(Nat.mod_lt _ h0) by rw [hR]; exact hget)
  have HZ0 := Lib.hid hz0
  clear hT hA hq hM hK hR hget hZ hz0
  rcases hcase with ⟨g3, hcv⟩ | ⟨g3, rfl⟩
  · obtain ⟨C, hC⟩ : ∃ n : Value, n = .int .u64 c := ⟨_, rfl⟩
    rw [← hC] at hcv hm
    clear hC
    go_enter Try.func5, Try.ntmps5
    go_wp2_with fail
    refine (G.out _).mono ?_
    rintro e w' ⟨r, rfl, -, rfl⟩
    cases r
    · go_wp2_with fail
      go_ret
      exact ⟨rfl, Below.refl _ _⟩
    go_wp2_with fail
    refine (F.out _).mono ?_
    rintro e w' ⟨r, rfl, -, rfl⟩
    cases r
    · go_wp2_with fail
      go_ret
      exact ⟨rfl, Below.refl _ _⟩
    go_wp2_with fail
    refine (Z.out _).mono ?_
    rintro e w1 ⟨rfl, hb⟩
    have HB := Lib.hid hb
    clear hb
    go_wp2_with fail
    go_loopw [8] (fun i wr => ∃ k : Nat, k ≤ R.size ∧ i = .int .i64 k ∧ Row wr w1.heap.size 27 (zk 5 R) ∧ Below w'.heap.size w' wr) (fun i _ => R.size - (intOf i).toNat)
    case atStart => exact ⟨0, Nat.zero_le _, rfl, Row.made w1 27 _, HB.out.alloc HB.out.size _⟩
    case round =>
      obtain ⟨k, hk, rfl, hr, hbw⟩ := hrel
      have q3 : wr.cell? ⟨w1.heap.size, 3, none⟩ = some (.string R) := by rw [hr.cell]; rfl
      have HR := Lib.hid hr
      have HBW := Lib.hid hbw
      clear hr hbw
      by_cases hlt : k < R.size
      · have hs0 : 0 < s.size := by
          rcases Nat.eq_zero_or_pos s.size with h | h
          · have := HZ0.out h
            omega
          · exact h
        obtain ⟨r, hrl, hcast, hidx⟩ : ∃ r : Nat, ∃ hr : r < s.size, (k : Int) % (s.size : Int) = (r : Int) ∧ R[k] = s[r] := ⟨k % s.size, Nat.mod_lt _ hs0, (Int.natCast_emod k s.size).symm, HG.out k hlt hs0⟩
        go_wp2_with fail
        go_region
        all_goals go_wp2_with fail
        all_goals exact ⟨⟨k + 1, by omega, by go_num, HR.out.drew, HBW.out.drew⟩, by simp [intOf]; omega⟩
      · obtain rfl : k = R.size := by omega
        go_wp2_with fail
        go_ret
        exact ⟨rfl, HBW.out⟩
  · have hm' : ∀ W, (binOp .mul 25 A (.int .u64 2147483647)).run Try.prog W = .ok T W := hm
    clear hm
    go_enter Try.func5, Try.ntmps5
    go_wp2_with fail
    refine (G.out _).mono ?_
    rintro e w' ⟨r, rfl, -, rfl⟩
    cases r
    · go_wp2_with fail
      go_ret
      exact ⟨rfl, Below.refl _ _⟩
    go_wp2_with fail
    refine (F.out _).mono ?_
    rintro e w' ⟨r, rfl, -, rfl⟩
    cases r
    · go_wp2_with fail
      go_ret
      exact ⟨rfl, Below.refl _ _⟩
    go_wp2_with fail
    refine (Z.out _).mono ?_
    rintro e w1 ⟨rfl, hb⟩
    have HB := Lib.hid hb
    clear hb
    go_wp2_with fail
    go_loopw [8] (fun i wr => ∃ k : Nat, k ≤ R.size ∧ i = .int .i64 k ∧ Row wr w1.heap.size 27 (zk 5 R) ∧ Below w'.heap.size w' wr) (fun i _ => R.size - (intOf i).toNat)
    case atStart => exact ⟨0, Nat.zero_le _, rfl, Row.made w1 27 _, HB.out.alloc HB.out.size _⟩
    case round =>
      obtain ⟨k, hk, rfl, hr, hbw⟩ := hrel
      have q3 : wr.cell? ⟨w1.heap.size, 3, none⟩ = some (.string R) := by rw [hr.cell]; rfl
      have HR := Lib.hid hr
      have HBW := Lib.hid hbw
      clear hr hbw
      by_cases hlt : k < R.size
      · have hs0 : 0 < s.size := by
          rcases Nat.eq_zero_or_pos s.size with h | h
          · have := HZ0.out h
            omega
          · exact h
        obtain ⟨r, hrl, hcast, hidx⟩ : ∃ r : Nat, ∃ hr : r < s.size, (k : Int) % (s.size : Int) = (r : Int) ∧ R[k] = s[r] := ⟨k % s.size, Nat.mod_lt _ hs0, (Int.natCast_emod k s.size).symm, HG.out k hlt hs0⟩
        go_wp2_with fail
        go_region
        all_goals go_wp2_with fail
        all_goals exact ⟨⟨k + 1, by omega, by go_num, HR.out.drew, HBW.out.drew⟩, by simp [intOf]; omega⟩
      · obtain rfl : k = R.size := by omega
        go_wp2_with fail
        go_ret
        exact ⟨rfl, HBW.out⟩
theorem fnRepeatStringTable.walk (a0 : ByteArray) (a1 : Nat) (w : World) (w0 : a0.size ≤ maxLen) (w1 : (Lit.float .f64 a1).wf = true) :
    Calls Try.prog 5 #[.string a0, .float .f64 a1] w fun e w' => e = .returned (.bool true) ∧ Below w.heap.size w w' := by
  rcases out_or a1 with ⟨h, hl⟩ | ⟨c, h⟩
  · exact tabN a0 a1 h hl w w0
  · by_cases h1 : a0.size ≤ 65536 ∧ (2147483647 ≤ a0.size * c ∨ a0.size * c ≤ 1048576)
    · by_cases hM : 2147483647 ≤ a0.size * c
      · exact tabBig a0 a1 c h h1.1 hM w w0
      · exact tabStr a0 a1 c h h1.1 hM (h1.2.resolve_left hM) w w0
    · have HH := Lib.hid h1
      have F := Lib.hid (fun w => fitsC a0 a1 c h w w0)
      clear h1 h
      go_enter Try.func5, Try.ntmps5
      go_wp2_with fail
      refine (zz21 a0 a1 _ w0).mono ?_
      rintro e w' ⟨r, rfl, -, rfl⟩
      cases r
      · go_wp2_with fail
        go_ret
        exact ⟨rfl, Below.refl _ _⟩
      go_wp2_with fail
      refine (F.out _).mono ?_
      rintro e w' ⟨r, rfl, hr, rfl⟩
      cases r
      · clear hr
        go_wp2_with fail
        go_ret
        exact ⟨rfl, Below.refl _ _⟩
      · exact absurd (hr rfl) HH.out
end Go.Proofs.Ytdjebcejpachmaa
