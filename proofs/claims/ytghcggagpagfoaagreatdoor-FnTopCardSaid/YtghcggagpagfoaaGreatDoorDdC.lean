/-
  The decoders: patterns, constant terms (n001_1001). Printed by genDd.py.
-/
import Derived.Test.YtghcggagpagfoaaGreatDoorDcl
namespace Go.Proofs.YtghcggagpagfoaaGreatDoor
set_option linter.unusedVariables false
set_option linter.unusedSimpArgs false
open Go.ChangeShapes Go.WideShapes Go.ChangeAt Go.RowKit M
set_option maxRecDepth 100000 in
set_option maxHeartbeats 8000000 in
theorem dPT (m : Nat) (IHP : ∀ k, k < m → DC 12 .pt 200 (8 * k + 8) k) (IHO : ∀ k, k < m → DC 37 .po 2200 (8 * k + 11) k) : DC 12 .pt 200 (8 * m + 8) m := by
 intro w rb a len cap z i d h hl hd hd2; have HR0 := Lh h; have hlr := h.row.lt; have HT0 := Lh (Touch.refl (fun k => k = rb) w); clear h; go_enter Tryz.func12, Tryz.ntmps12; go_wp2_with fail; refine (byteX _ rb a len cap z i HR0.out hl).mono ?_; rintro e w1 ⟨x1, i1, rfl, x1a, x1b, hi, hx, hr, ht⟩; have Hx1 := Lh (And.intro hi hx); clear hi hx; have R1 := Lh hr; have T1 := Lh (HT0.out.trans' ht (fun _ _ x => x)); have hs1 := ht.size; clear hr ht
 by_cases hx0 : x1 = 0
 ·
  have hbA := (Below.refl (w1).heap.size w1).alloc (Nat.le_refl _) (.cells #[.string ByteArray.empty, .slice none 0 0, .slice none 0 0] 104); have hb2 : w.heap.size ≤ (w1).heap.size := T1.out.size; have U2 := Lh (Und.lay (w := w1) (b0 := w.heap.size) (k := 104) (h := 8 * m + 7) (fs := [.s ByteArray.empty, .l false [], .l false []]) (cs := [.string ByteArray.empty, .slice none 0 0, .slice none 0 0]) (by omega) ⟨rfl, nil_fv, nil_fv, trivial⟩); have R2 := Lh (R1.out.keep hbA); have T2 := Lh (T1.out.alloc (.cells #[.string ByteArray.empty, .slice none 0 0, .slice none 0 0] 104)); clear hbA
  have hz2 : (w1.alloc (.cells #[.string ByteArray.empty, .slice none 0 0, .slice none 0 0] 104)).heap.size = (w1).heap.size + 1 := by simp
  go_wp2_with fail; refine (nameX _ _ (by omega) (by omega)).mono ?_; rintro e w9 ⟨nm, rfl, hE9, hz9, hy9, rfl⟩; have Hnm := Lh (And.intro hz9 hy9); have HEnm := Lh hE9; clear hE9 hz9 hy9; have hbA := (Below.refl (w1).heap.size w1).alloc (Nat.le_refl _) (.cells #[.string nm, .slice none 0 0, .slice none 0 0] 104); have hb3 : w.heap.size ≤ (w1).heap.size := T1.out.size; have U3 := Lh (Und.lay (w := w1) (b0 := w.heap.size) (k := 104) (h := 8 * m + 7) (fs := [.s nm, .l false [], .l false []]) (cs := [.string nm, .slice none 0 0, .slice none 0 0]) (by omega) ⟨rfl, nil_fv, nil_fv, trivial⟩); have R3 := Lh (R1.out.keep hbA); have T3 := Lh (T1.out.alloc (.cells #[.string nm, .slice none 0 0, .slice none 0 0] 104)); clear hbA
  have hz3 : (w1.alloc (.cells #[.string nm, .slice none 0 0, .slice none 0 0] 104)).heap.size = (w1).heap.size + 1 := by simp
  go_wp2_with fail; go_ret; exact DOut.of U3.out (by omega) (by omega) R3.out (.pt _ _ _ _ _ (by decide) mW (by decide) mW) (by (try simp only [T.wt, wtF, F.wt, wtO, wtT, wtS, ByteArray.size_empty, sz0]); have := Hx1.out; have := Hnm.out;  omega) T3.out
 by_cases hd40 : 40 ≤ d
 ·
  have hbA := (Below.refl (w1).heap.size w1).alloc (Nat.le_refl _) (.cells #[.string ByteArray.empty, .slice none 0 0, .slice none 0 0] 104); have hb4 : w.heap.size ≤ (w1).heap.size := T1.out.size; have U4 := Lh (Und.lay (w := w1) (b0 := w.heap.size) (k := 104) (h := 8 * m + 7) (fs := [.s ByteArray.empty, .l false [], .l false []]) (cs := [.string ByteArray.empty, .slice none 0 0, .slice none 0 0]) (by omega) ⟨rfl, nil_fv, nil_fv, trivial⟩); have R4 := Lh (R1.out.keep hbA); have T4 := Lh (T1.out.alloc (.cells #[.string ByteArray.empty, .slice none 0 0, .slice none 0 0] 104)); clear hbA
  have hz4 : (w1.alloc (.cells #[.string ByteArray.empty, .slice none 0 0, .slice none 0 0] 104)).heap.size = (w1).heap.size + 1 := by simp
  go_wp2_with fail; refine (nameX _ _ (by omega) (by omega)).mono ?_; rintro e w9 ⟨nm, rfl, hE9, hz9, hy9, rfl⟩; have Hnm := Lh (And.intro hz9 hy9); have HEnm := Lh hE9; clear hE9 hz9 hy9; have hbA := (Below.refl (w1).heap.size w1).alloc (Nat.le_refl _) (.cells #[.string nm, .slice none 0 0, .slice none 0 0] 104); have hb5 : w.heap.size ≤ (w1).heap.size := T1.out.size; have U5 := Lh (Und.lay (w := w1) (b0 := w.heap.size) (k := 104) (h := 8 * m + 7) (fs := [.s nm, .l false [], .l false []]) (cs := [.string nm, .slice none 0 0, .slice none 0 0]) (by omega) ⟨rfl, nil_fv, nil_fv, trivial⟩); have R5 := Lh (R1.out.keep hbA); have T5 := Lh (T1.out.alloc (.cells #[.string nm, .slice none 0 0, .slice none 0 0] 104)); clear hbA
  have hz5 : (w1.alloc (.cells #[.string nm, .slice none 0 0, .slice none 0 0] 104)).heap.size = (w1).heap.size + 1 := by simp
  go_wp2_with fail; go_ret; exact DOut.of U5.out (by omega) (by omega) R5.out (.pt _ _ _ _ _ (by decide) mW (by decide) mW) (by (try simp only [T.wt, wtF, F.wt, wtO, wtT, wtS, ByteArray.size_empty, sz0]); have := Hx1.out; have := Hnm.out;  omega) T5.out
 have hd41 : d < 40 := by omega
 have hx1b : (x1 == 0) = false := by simp [hx0]
 obtain ⟨m, rfl⟩ : ∃ k, m = k + 1 := ⟨m - 1, by omega⟩; have hbA := (Below.refl (w1).heap.size w1).alloc (Nat.le_refl _) (.cells #[.string ByteArray.empty, .slice none 0 0, .slice none 0 0] 104); have hb6 : w.heap.size ≤ (w1).heap.size := T1.out.size; have U6 := Lh (Und.lay (w := w1) (b0 := w.heap.size) (k := 104) (h := 8 * m + 12) (fs := [.s ByteArray.empty, .l false [], .l false []]) (cs := [.string ByteArray.empty, .slice none 0 0, .slice none 0 0]) (by omega) ⟨rfl, nil_fv, nil_fv, trivial⟩); have R6 := Lh (R1.out.keep hbA); have T6 := Lh (T1.out.alloc (.cells #[.string ByteArray.empty, .slice none 0 0, .slice none 0 0] 104)); clear hbA
 have hz6 : (w1.alloc (.cells #[.string ByteArray.empty, .slice none 0 0, .slice none 0 0] 104)).heap.size = (w1).heap.size + 1 := by simp
 rcases (show x1 % 4 = 0 ∨ x1 % 4 = 1 ∨ x1 % 4 = 2 ∨ x1 % 4 = 3 by omega) with hm | hm | hm | hm
 ·
  go_wp2_with fail; refine (nameX _ _ (by omega) (by omega)).mono ?_; rintro e w9 ⟨nm, rfl, hE9, hz9, hy9, rfl⟩; have Hnm := Lh (And.intro hz9 hy9); have HEnm := Lh hE9; clear hE9 hz9 hy9; have hbA := (Below.refl (w1).heap.size w1).alloc (Nat.le_refl _) (.cells #[.string nm, .slice none 0 0, .slice none 0 0] 104); have hb7 : w.heap.size ≤ (w1).heap.size := T1.out.size; have U7 := Lh (Und.lay (w := w1) (b0 := w.heap.size) (k := 104) (h := 8 * m + 12) (fs := [.s nm, .l false [], .l false []]) (cs := [.string nm, .slice none 0 0, .slice none 0 0]) (by omega) ⟨rfl, nil_fv, nil_fv, trivial⟩); have R7 := Lh (R1.out.keep hbA); have T7 := Lh (T1.out.alloc (.cells #[.string nm, .slice none 0 0, .slice none 0 0] 104)); clear hbA
  have hz7 : (w1.alloc (.cells #[.string nm, .slice none 0 0, .slice none 0 0] 104)).heap.size = (w1).heap.size + 1 := by simp
  go_wp2_with fail; go_ret; exact DOut.of U7.out (by omega) (by omega) R7.out (.pt _ _ _ _ _ (by decide) mW (by decide) mW) (by (try simp only [T.wt, wtF, F.wt, wtO, wtT, wtS, ByteArray.size_empty, sz0]); have := Hx1.out; have := Hnm.out;  omega) T7.out
 ·
  go_wp2_with fail; refine (byteX _ rb a len cap z i1 R6.out hl).mono ?_; rintro e w8 ⟨x2, i8, rfl, x2a, x2b, hi, hx, hr, ht⟩; have Hx2 := Lh (And.intro hi hx); clear hi hx; have U8 := Lh (U6.out.rd ht (by have := hlr; omega)); have R8 := Lh hr; have T8 := Lh (T6.out.trans' ht (fun _ _ x => x)); have hs8 := ht.size; simp only [World.size_alloc, World.size_setCell] at hs8; clear hr ht; obtain ⟨n, hnn⟩ : ∃ k : Nat, (k : Int) = 1 + x2 % 2 := ⟨(1 + x2 % 2).toNat, by omega⟩
  have hnn3 : n ≤ 3 := by omega
  go_wp2_with fail; go_loopw [8] (fun t wr => LI false w rb a len cap z (w.heap.size) w1.heap.size 104 1 43 (8 * m + 12) [.s ByteArray.empty, .any, .l false []] (fun v => [.string ByteArray.empty, v, .slice none 0 0]) .pt 200 i8 n t wr) (fun t _ => n - (intOf t).toNat)
  case atStart => exact LI.start U8.out rfl rfl (by simp) R8.out T8.out
  case round =>
   obtain ⟨j, v, us, ts, iL, hj, rfl, HL, HRL, HTL, HF, HQL⟩ := hrel; obtain ⟨AA, cc, rfl⟩ := own_form HL.out.own; have hbs := HTL.out.size
   by_cases hlt : j < n
   ·
    have y00 := HL.out.und.row.cell 1; have z00 := HL.out.und.row.free 1; have y0 := (show Row wr.drew w1.heap.size 104 _ from HL.out.und.row).cell 1; have z0 := (show Row wr.drew w1.heap.size 104 _ from HL.out.und.row).free 1; have hls := HL.out.und.row.lt; have hbb9 := HL.out.und.base; have HRW := Lh (HRL.out.touch ((Touch.refl (fun _ => False) wr).drew) (fun q => q) (fun _ _ _ q => q))
    have hwd : IntKind.i64.wrap ((d : Int) + 1) = ((d + 1 : Nat) : Int) := by rw [IntWalk.i64_in _ (by omega)]; rfl
    go_upto_region 14 with fail
    go_region_law (first
     | (refine step_app1 _ (by rfl) (.tmp 52) (.tmp 57) 34 (by rfl) (w.heap.size) 43 (.pointer none) 8 Tryz.underlying34 (by kernel_rfl) rfl (by decide) (.slice AA j cc) j us (by simp [Act.eval]) (HL4.out.own.alloc _) w4.heap.size (.pointer (some ⟨qt, 0, none⟩)) (by simp [Act.eval]) (Row.made _ _ _) (by simp [Value.oneCell']) (by omega) (by simp only [World.size_alloc]; omega) ?_; intro g6 c6 w6 ho ht ha hlg; have r6 := (HL4.out.und.row.alloc (.cells #[.pointer (some ⟨qt, 0, none⟩)] 43)).touch ht (own_ne HL4.out.own HL4.out.und.row (by decide)); have y6 := r6.cell 1; have z6 := r6.free 1; have l6 := r6.lt; have LI9 := Lh (LI.next (n := n) (e := 43) (k := 104) (h := 8 * m + 12) (v := .slice AA j cc) (cs := (fun v => [.string ByteArray.empty, v, .slice none 0 0])) (by decide) (by omega) hlt HL.out HR0.out HTL.out HF.out HQL.out HR4.out HA4.out (by omega) HW4.out HQ4.out HT4.out ho ht ha rfl); clear ho ht ha r6)
     | (go_simp; go_wp2_with (go_at_call 12; refine ((IHP _ (Nat.lt_succ_self _)) wr.drew rb a len cap z iL (d + 1) HRW.out hl (by omega) (by omega)).mono ?_; rintro e w4 ⟨qt, tt, i4, rfl, hr4, ha4, hW4, hq4, ht4⟩; have HR4 := Lh hr4; have HA4 := Lh (show At (fun k => wr.heap.size ≤ k) _ w4 qt tt from ha4); have HW4 := Lh hW4; have HQ4 := Lh hq4; have HT4 := Lh (((Touch.refl (fun k => k = rb) wr).drew).trans ht4); have HL4 := Lh (HL.out.rd HT4.out (by omega)); have y4 := HL4.out.und.row.cell 1; have z4 := HL4.out.und.row.free 1; have l4 := HL4.out.und.row.lt; have hs4 := HT4.out.size; clear hr4 ha4 hW4 hq4 ht4)))
    all_goals go_wp2_with fail
    all_goals exact ⟨LI9.out _ (by go_num), by simp [intOf]; omega⟩
   ·
    obtain rfl : n = j := by omega
    have U9 : Hid (Und (w.heap.size) (fun _ => False) wr w1.heap.size 104 (8 * m + 12) [.s ByteArray.empty, .l (false || decide (0 < n)) ts, .l false []] [.string ByteArray.empty, .slice AA n cc, .slice none 0 0]) := Lh (HL.out.fin (by decide) _ rfl); have hlen9 := HL.out.len; have hpl9 := U9.out.row.lt; go_wp2_with fail; go_ret; exact DOut.of U9.out (by omega) (by omega) HRL.out (.pt _ _ _ _ _ (by omega) HF.out (by decide) mW) (by (try simp only [T.wt, wtF, F.wt, wtO, wtT, wtS, ByteArray.size_empty, sz0]); have := Hx1.out; have := Hx2.out; have := HQL.out;  omega) HTL.out
 ·
  go_wp2_with fail; refine (byteX _ rb a len cap z i1 R6.out hl).mono ?_; rintro e w10 ⟨x2, i10, rfl, x2a, x2b, hi, hx, hr, ht⟩; have Hx2 := Lh (And.intro hi hx); clear hi hx; have U10 := Lh (U6.out.rd ht (by have := hlr; omega)); have R10 := Lh hr; have T10 := Lh (T6.out.trans' ht (fun _ _ x => x)); have hs10 := ht.size; simp only [World.size_alloc, World.size_setCell] at hs10; clear hr ht; obtain ⟨n, hnn⟩ : ∃ k : Nat, (k : Int) = 1 + x2 % 2 := ⟨(1 + x2 % 2).toNat, by omega⟩
  have hnn3 : n ≤ 3 := by omega
  go_wp2_with fail; go_loopw [10] (fun t wr => LI false w rb a len cap z (w.heap.size) w1.heap.size 104 2 105 (8 * m + 12) [.s ByteArray.empty, .l false [], .any] (fun v => [.string ByteArray.empty, .slice none 0 0, v]) .po 2200 i10 n t wr) (fun t _ => n - (intOf t).toNat)
  case atStart => exact LI.start U10.out rfl rfl (by simp) R10.out T10.out
  case round =>
   obtain ⟨j, v, us, ts, iL, hj, rfl, HL, HRL, HTL, HF, HQL⟩ := hrel; obtain ⟨AA, cc, rfl⟩ := own_form HL.out.own; have hbs := HTL.out.size
   by_cases hlt : j < n
   ·
    have y00 := HL.out.und.row.cell 2; have z00 := HL.out.und.row.free 2; have y0 := (show Row wr.drew w1.heap.size 104 _ from HL.out.und.row).cell 2; have z0 := (show Row wr.drew w1.heap.size 104 _ from HL.out.und.row).free 2; have hls := HL.out.und.row.lt; have hbb9 := HL.out.und.base; have HRW := Lh (HRL.out.touch ((Touch.refl (fun _ => False) wr).drew) (fun q => q) (fun _ _ _ q => q))
    have hwd : IntKind.i64.wrap ((d : Int) + 1) = ((d + 1 : Nat) : Int) := by rw [IntWalk.i64_in _ (by omega)]; rfl
    go_upto_region 20 with fail
    go_region_law (first
     | (refine step_app1 _ (by rfl) (.tmp 76) (.tmp 81) 102 (by rfl) (w.heap.size) 105 (.pointer none) 8 Tryz.underlying102 (by kernel_rfl) rfl (by decide) (.slice AA j cc) j us (by simp [Act.eval]) (HL4.out.own.alloc _) w4.heap.size (.pointer (some ⟨qt, 0, none⟩)) (by simp [Act.eval]) (Row.made _ _ _) (by simp [Value.oneCell']) (by omega) (by simp only [World.size_alloc]; omega) ?_; intro g6 c6 w6 ho ht ha hlg; have r6 := (HL4.out.und.row.alloc (.cells #[.pointer (some ⟨qt, 0, none⟩)] 105)).touch ht (own_ne HL4.out.own HL4.out.und.row (by decide)); have y6 := r6.cell 2; have z6 := r6.free 2; have l6 := r6.lt; have LI9 := Lh (LI.next (n := n) (e := 105) (k := 104) (h := 8 * m + 12) (v := .slice AA j cc) (cs := (fun v => [.string ByteArray.empty, .slice none 0 0, v])) (by decide) (by omega) hlt HL.out HR0.out HTL.out HF.out HQL.out HR4.out HA4.out (by omega) HW4.out HQ4.out HT4.out ho ht ha rfl); clear ho ht ha r6)
     | (go_simp; go_wp2_with (go_at_call 37; refine ((IHO _ (Nat.lt_succ_self _)) wr.drew rb a len cap z iL (d + 1) HRW.out hl (by omega) (by omega)).mono ?_; rintro e w4 ⟨qt, tt, i4, rfl, hr4, ha4, hW4, hq4, ht4⟩; have HR4 := Lh hr4; have HA4 := Lh (show At (fun k => wr.heap.size ≤ k) _ w4 qt tt from ha4); have HW4 := Lh hW4; have HQ4 := Lh hq4; have HT4 := Lh (((Touch.refl (fun k => k = rb) wr).drew).trans ht4); have HL4 := Lh (HL.out.rd HT4.out (by omega)); have y4 := HL4.out.und.row.cell 2; have z4 := HL4.out.und.row.free 2; have l4 := HL4.out.und.row.lt; have hs4 := HT4.out.size; clear hr4 ha4 hW4 hq4 ht4)))
    all_goals go_wp2_with fail
    all_goals exact ⟨LI9.out _ (by go_num), by simp [intOf]; omega⟩
   ·
    obtain rfl : n = j := by omega
    have U11 : Hid (Und (w.heap.size) (fun _ => False) wr w1.heap.size 104 (8 * m + 12) [.s ByteArray.empty, .l false [], .l (false || decide (0 < n)) ts] [.string ByteArray.empty, .slice none 0 0, .slice AA n cc]) := Lh (HL.out.fin (by decide) _ rfl); have hlen9 := HL.out.len; have hpl11 := U11.out.row.lt; go_wp2_with fail; go_ret; exact DOut.of U11.out (by omega) (by omega) HRL.out (.pt _ _ _ _ _ (by decide) mW (by omega) HF.out) (by (try simp only [T.wt, wtF, F.wt, wtO, wtT, wtS, ByteArray.size_empty, sz0]); have := Hx1.out; have := Hx2.out; have := HQL.out;  omega) HTL.out
 ·
  go_wp2_with fail; go_ret; exact DOut.of U6.out (by omega) (by omega) R6.out (.pt _ _ _ _ _ (by decide) mW (by decide) mW) (by (try simp only [T.wt, wtF, F.wt, wtO, wtT, wtS, ByteArray.size_empty, sz0]); have := Hx1.out;  omega) T6.out
end Go.Proofs.YtghcggagpagfoaaGreatDoor
