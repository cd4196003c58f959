/-
  The walk of the law FnArrayStringNesting (n001_84): it returns true for every input.
-/
import Derived.Test.YtebcjlgeppebgaaDoorHlp
namespace Go.Proofs.YtebcjlgeppebgaaDoor
set_option linter.unusedVariables false
open Go.ChangeShapes Go.WideShapes Go.ChangeAt Go.RowKit M
set_option maxHeartbeats 1000000 in
theorem zz26 (a0 : Int) (p : ByteArray) (w : World) (hp : p.size ≤ maxLen) : Calls Tryd.prog 26 #[.int .i64 a0, .string p] w (SomeBool w) := by
  unfold maxLen at hp
  by_cases hp2 : p.size ≤ 1048576
  · go_enter Tryd.func26, Tryd.ntmps26
    go_wp2
    all_goals (go_ret; exact ⟨_, rfl, rfl⟩)
  · go_enter Tryd.func26, Tryd.ntmps26
    go_wp2
    all_goals (go_ret; exact ⟨_, rfl, rfl⟩)
def ArrAt (w : World) (k : Nat) (o : Option Qy) : Prop := ∃ v, Row w k 51 #[v] ∧ (match o with | none => v = np | some q => ∃ a, v = pt a ∧ IsQ w a q)
theorem arrStr2 (w : World) (k : Nat) (o : Option Qy) (l : List UInt8) (hr : ArrAt w k o) (hl : l.length ≤ 140737488355328) (he : prArr o [] = l) :
    Calls Tryd.prog 20 #[.pointer (some ⟨k, 0, none⟩)] w fun e w' => e = .returned (.string ⟨l.toArray⟩) ∧ Below w.heap.size w w' := by
  subst he
  exact arrStr w k o hr hl
theorem run_make_cap (n : Nat) (hn : n ≤ 281474976710656) (w : World) : (Instr.makeSlice 39 (.int .i64 0) (.int .i64 (n : Int))).run Tryd.prog w = .ok (.slice (some ⟨w.heap.size, 0, none⟩) 0 n) (w.alloc (.cells (madeCells #[.int .u8 0] n) 5)) := by
  obtain ⟨i0, hi, hz0, hz1, hz2⟩ := info_parts infoByte
  have hr := run_make (P := Tryd.prog) w 39 5 i0 (.int .u8 0) Tryd.underlying39 hi hz0 .i64 .i64 0 n (by omega) (by omega) (by rw [hz2]; omega) (by omega)
  simp only [Int.toNat_natCast, hz1, Nat.mul_one] at hr
  exact hr
set_option maxRecDepth 100000 in
set_option maxHeartbeats 4000000 in
theorem fnArrayStringNesting.main (d0 : Nat) (a1 : ByteArray) (w : World) (w1 : a1.size ≤ maxLen) (h1 : 1 ≤ d0) (h2 : d0 ≤ 4096) (h3 : a1.size ≤ 1048576) :
    Calls Tryd.prog 6 #[.int .i64 d0, .string a1] w fun e w' => e = .returned (.bool true) ∧ Below w.heap.size w w' := by
  have i1 : (1 : Int) ≤ d0 := by omega
  have i2 : (d0 : Int) ≤ 4096 := by omega
  go_enter Tryd.func6, Tryd.ntmps6
  go_wp2_with fail
  refine (zz26 d0 a1 _ w1).mono ?_
  rintro e w' ⟨b, rfl, rfl⟩
  cases b
  · go_wp2_with fail
    go_ret
    exact ⟨rfl, Below.refl _ _⟩
  go_wp2_with fail
  refine (numQ _ a1).mono ?_
  rintro e w2 ⟨n, rfl, hq, hb, hn⟩
  have hs2 := hb.size
  have HQ := Lib.hid hq
  have HB := Lib.hid hb
  clear hq hb
  go_wp2_with fail
  go_loopw [5, 6] (fun a i wr => ∃ (k m q : Nat), k + 1 ≤ d0 ∧ i = .int .i64 (k + 1 : Nat) ∧ a = .pointer (some ⟨m, 0, none⟩) ∧ Row wr m 51 #[pt q] ∧ IsQ wr q (nest a1 k) ∧ Below w.heap.size w wr) (fun _ i _ => d0 - (intOf i).toNat)
  case atStart => exact ⟨0, _, n, h1, by simp, rfl, Row.made _ _ _, HQ.out.keep (KeepN.below ((Below.refl _ _).alloc (Nat.le_refl _) _)), HB.out.trans ((Below.refl _ _).alloc hs2 _)⟩
  case round =>
    obtain ⟨k, m, q, hk, rfl, rfl, hr, hq, hb⟩ := hrel
    have hsz := hb.size
    have HR := Lib.hid hr
    have HQ1 := Lib.hid hq
    have HB1 := Lib.hid hb
    clear hr hq hb
    by_cases hlt : k + 1 < d0
    · go_wp2_with fail
      have hq2 := HQ1.out.keep (KeepN.below (((((Below.refl _ wr).alloc (Nat.le_refl _) (.cells (termCells 9 np (pt m) ⟨#[]⟩) 66))).alloc (by simp) (.cells (queryCells (pt wr.heap.size) np np 0) 73)).alloc (by simp; omega) (.cells #[pt (wr.heap.size + 1)] 51)))
      have hm2 := ((HR.out.alloc (.cells (termCells 9 np (pt m) ⟨#[]⟩) 66)).alloc (.cells (queryCells (pt wr.heap.size) np np 0) 73)).alloc (.cells #[pt (wr.heap.size + 1)] 51)
      exact ⟨⟨k + 1, _, _, by omega, by go_num, rfl, Row.made' _ _ (by simp), ⟨_, _, _, (Row.made' _ _ (by simp)).alloc _, ((Row.made _ _ _).alloc _).alloc _, hm2, hq2⟩, HB1.out.trans ((((Below.refl _ _).alloc hsz _).alloc (by simp; omega) _).alloc (by simp; omega) _)⟩, by simp [intOf]; omega⟩
    · obtain rfl : d0 = k + 1 := by omega
      have hmk : ∀ W, (Instr.makeSlice 39 (.int .i64 0) (.int .i64 (2 * ((k : Int) + 1) + (a1.size : Int)))).run Tryd.prog W = .ok (.slice (some ⟨W.heap.size, 0, none⟩) 0 (2 * (k + 1) + a1.size)) (W.alloc (.cells (madeCells #[.int .u8 0] (2 * (k + 1) + a1.size)) 5)) := fun W => by
        rw [show (2 * ((k : Int) + 1) + (a1.size : Int)) = ((2 * (k + 1) + a1.size : Nat) : Int) by omega]
        exact run_make_cap _ (by omega) W
      go_wp2_with fail
      have ho0 := OwnB.made wr (2 * (k + 1) + a1.size) (Nat.le_refl _) (by unfold maxLen; omega)
      have hw3 : Below wr.heap.size wr (wr.alloc (.cells (madeCells #[.int .u8 0] (2 * (k + 1) + a1.size)) 5)) := (Below.refl _ _).alloc (Nat.le_refl _) _
      obtain ⟨W3, hW3⟩ : ∃ W3, W3 = wr.alloc (.cells (madeCells #[.int .u8 0] (2 * (k + 1) + a1.size)) 5) := ⟨_, rfl⟩
      rw [← hW3] at ho0 hw3 ⊢
      have hsz3 := hw3.size
      have HO0 := Lib.hid ho0
      have HW3 := Lib.hid hw3
      clear ho0 hw3 hW3 hmk
      obtain ⟨wo, rfl⟩ : ∃ x : World, x = wr := ⟨_, rfl⟩
      go_loopw [7, 8] (fun v i ww => ∃ (j : Nat) (A : Option Addr) (c n : Nat), j ≤ k + 1 ∧ i = .int .i64 j ∧ v = .slice A n c ∧ n = j ∧ AOut W3 wo.heap.size (some wo.heap.size) (List.replicate j 91) (.slice A n c) ww) (fun _ i _ => k + 1 - (intOf i).toNat)
      case atStart => exact ⟨0, _, _, _, Nat.zero_le _, rfl, rfl, rfl, AOut.refl HO0.out⟩
      case round =>
        obtain ⟨j, A, c, n, hj, rfl, rfl, hn, ho⟩ := hrel
        have HN := Lib.hid hn
        have hszw : W3.heap.size ≤ wr.heap.size := by obtain ⟨_, _, _, ht⟩ := ho; exact ht.size
        have HO := Lib.hid ho
        clear hn ho
        by_cases hlj : j < k + 1
        · obtain ⟨e1, x1, x2, x3⟩ := HO.out
          have X1 := Lib.hid x1
          have X2 := Lib.hid x2
          have X3 := Lib.hid x3
          clear x1 x2 x3
          go_wp2_with (at_builtin; refine wp_byte rfl _ _ rfl _ wo.heap.size (.slice A n c) e1 (List.replicate j 91) rfl X1.out 91 _ rfl rfl (by simp; omega) (by omega) ?_)
          intro v' w' ho
          obtain ⟨A', c', rfl⟩ := ho.form
          have HO2 := Lib.hid (AOut.then X2.out X3.out ho)
          clear ho
          go_wp2_with fail
          refine ⟨?_, by simp [intOf]; omega⟩
          repeat apply Exists.intro
          exact ⟨⟨j + 1, A', c', _, by omega, by go_num, rfl, by simp, by rw [List.replicate_succ']; exact HO2.out⟩, rfl⟩
        · obtain rfl : j = k + 1 := by omega
          obtain ⟨e1, x1, x2, x3⟩ := HO.out
          have X1 := Lib.hid x1
          have X2 := Lib.hid x2
          have X3 := Lib.hid x3
          clear x1 x2 x3
          go_wp2_with fail
          refine (appendStr _ wo.heap.size _ e1 _ a1 X1.out (by simp; omega) (by omega)).mono ?_
          rintro e w5 ⟨A5, c5, rfl, ho⟩
          have hsz5 : wr.heap.size ≤ w5.heap.size := by obtain ⟨_, _, _, ht⟩ := ho; exact ht.size
          have HO5 := Lib.hid (AOut.then X2.out X3.out ho)
          obtain ⟨n5, hn5⟩ : ∃ n5, n5 = (List.replicate (k + 1) 91 ++ a1.data.toList).length := ⟨_, rfl⟩
          rw [← hn5] at HO5 ⊢
          have HN5 := Lib.hid hn5
          clear ho hn5
          obtain ⟨wp, rfl⟩ : ∃ x : World, x = wr := ⟨_, rfl⟩
          go_wp2_with fail
          go_loopw [7, 9] (fun v i ww => ∃ (j : Nat) (A : Option Addr) (c n : Nat), j ≤ k + 1 ∧ i = .int .i64 j ∧ v = .slice A n c ∧ n = n5 + j ∧ AOut W3 wo.heap.size (some wo.heap.size) (List.replicate (k + 1) 91 ++ a1.data.toList ++ List.replicate j 93) (.slice A n c) ww ∧ W3.heap.size ≤ ww.heap.size) (fun _ i _ => k + 1 - (intOf i).toNat)
          case atStart => exact ⟨0, _, _, _, Nat.zero_le _, rfl, rfl, rfl, by simpa using HO5.out, by omega⟩
          case round =>
            obtain ⟨j, A6, c6, n6, hj, rfl, rfl, hn, ho, hsw⟩ := hrel
            have HN6 := Lib.hid hn
            have HO6 := Lib.hid ho
            clear hn ho
            obtain ⟨e6, x1, x2, x3⟩ := HO6.out
            have Y1 := Lib.hid x1
            have Y2 := Lib.hid x2
            have Y3 := Lib.hid x3
            clear x1 x2 x3
            by_cases hlj : j < k + 1
            · go_wp2_with (at_builtin; refine wp_byte rfl _ _ rfl _ wo.heap.size (.slice A6 n6 c6) e6 _ rfl Y1.out 93 _ rfl rfl (by simp; omega) (by omega) ?_)
              intro v' w' ho
              obtain ⟨A', c', rfl⟩ := ho.form
              have hsw2 : wr.heap.size ≤ w'.heap.size := by obtain ⟨_, _, _, ht⟩ := ho; exact ht.size
              have HO2 := Lib.hid (AOut.then Y2.out Y3.out ho)
              clear ho
              go_wp2_with fail
              refine ⟨⟨j + 1, A', c', _, by omega, by go_num, rfl, ?_, ?_, by omega⟩, by simp [intOf]; omega⟩
              · rw [HN5.out]
                simp only [List.length_append, List.length_replicate, List.length_singleton]
                omega
              · have h9 := HO2.out
                simp only [List.replicate_succ', List.append_assoc] at h9 ⊢
                exact h9
            · obtain rfl : j = k + 1 := by omega
              have hb7 : Below wo.heap.size wo wr := HW3.out.trans (HO6.out.below hsz3 (fun g hg => by injection hg with hg; omega))
              have HB7 := Lib.hid hb7
              have HPA := Lib.hid (prArr_nest a1 k)
              have hi7 : ArrAt wr.drew m (some (nest a1 k)) := ⟨_, HR.out.keep hb7.drew HR.out.lt, _, rfl, HQ1.out.keep (KeepN.below hb7.drew)⟩
              have HI7 := Lib.hid hi7
              have hcv : (convert 39 9 (.slice A6 n6 c6)).run Tryd.prog wr.drew = _ := OwnB.conv (w := wr.drew) Y1.out
              have hbf := Lib.hid (HB1.out.trans (HB7.out.mono hsz))
              have hszf : w.heap.size ≤ wr.heap.size := hbf.out.size
              clear hb7 hi7
              go_wp2_with fail
              go_region_with (go_at_call 20; refine (arrStr2 _ m (some (nest a1 k)) _ HI7.out (by simp; omega) HPA.out).mono ?_; rintro e w8 ⟨rfl, hb8⟩; have hc8 := (OwnB.below Y1.out (show Below wr.heap.size wr w8 from (below_drewN (Below.refl _ wr) 1).trans hb8)).conv; have HB8 := Lib.hid (hbf.out.trans (((below_drewN (Below.refl _ wr) 1).trans hb8).mono hszf)); clear hb8)
              all_goals go_wp2_with fail
              all_goals go_ret
              all_goals exact ⟨rfl, HB8.out⟩
theorem fnArrayStringNesting.walk (a0 : Int) (a1 : ByteArray) (w : World) (w0 : (Lit.int .i64 a0).wf = true) (w1 : a1.size ≤ maxLen) :
    Calls Tryd.prog 6 #[.int .i64 a0, .string a1] w fun e w' => e = .returned (.bool true) ∧ Below w.heap.size w w' := by
  have hp := w1
  unfold maxLen at hp
  by_cases h3 : a1.size ≤ 1048576
  · by_cases h1 : 1 ≤ a0 ∧ a0 ≤ 4096
    · obtain ⟨d0, rfl⟩ : ∃ d0 : Nat, a0 = d0 := ⟨a0.toNat, by omega⟩
      exact fnArrayStringNesting.main d0 a1 w w1 (by omega) (by omega) h3
    · rcases (show a0 < 1 ∨ (1 ≤ a0 ∧ 4096 < a0) by omega) with h0 | ⟨h0, h2⟩
      all_goals
        clear h1 w0
        go_enter Tryd.func6, Tryd.ntmps6
        go_wp2_with fail
        refine (zz26 a0 a1 _ w1).mono ?_
        rintro e w' ⟨b, rfl, rfl⟩
        cases b
        · go_wp2_with fail
          go_ret
          exact ⟨rfl, Below.refl _ _⟩
        go_wp2_with fail
        go_ret
        exact ⟨rfl, Below.refl _ _⟩
  · go_enter Tryd.func6, Tryd.ntmps6
    go_wp2_with fail
    refine (zz26 a0 a1 _ w1).mono ?_
    rintro e w' ⟨b, rfl, rfl⟩
    cases b
    · go_wp2_with fail
      go_ret
      exact ⟨rfl, Below.refl _ _⟩
    go_wp2_with fail
    go_ret
    exact ⟨rfl, Below.refl _ _⟩
end Go.Proofs.YtebcjlgeppebgaaDoor
