/-
  The law's walk (n001_1001 FnTop), given what the law's reader makes.
-/
import Derived.Test.YtghcggagpagfoaaGreatDoorDch
import Derived.Test.YtghcggagpagfoaaGreatDoorWrE
import Derived.Test.YtghcggagpagfoaaGreatDoorRfC
import Derived.Test.YtghcggagpagfoaaGreatDoorRows
import Derived.MakeChecks
import Derived.Lib.LaidU8
import Derived.Lib.LaidTab
import Derived.Stop.LaidErr
namespace Go.Proofs.YtghcggagpagfoaaGreatDoor
set_option linter.unusedVariables false
set_option linter.unusedSimpArgs false
open Go.ChangeShapes Go.WideShapes Go.ChangeAt Go.RowKit M
theorem vw_of {w : World} {a : Option Addr} {len : Nat} {z : List Int} (h : SliceOf 1 (IsInt .u8) w a len z) : Vw w a len (bytV z) ∧ ∀ (j : Nat) (x : Int), z[j]? = some x → 0 ≤ x ∧ x < 256 := by
 obtain ⟨h1, h2, h3⟩ := h; refine ⟨⟨by simpa [bytV] using h1, fun hl => ?_⟩, fun j x hx => ?_⟩
 ·
  obtain ⟨b, o, ha, hlt, hc⟩ := h3 hl; refine ⟨b, o, ha, hlt, fun i v hv => ?_⟩; unfold bytV at hv; rw [List.getElem?_map] at hv; obtain ⟨x, hx, rfl⟩ := Option.map_eq_some_iff.1 hv; obtain ⟨cs, c1, c2, c3⟩ := hc i x hx; obtain ⟨rfl, _⟩ := c3; have := c2 0 _ rfl; simpa using this
 ·
  have hl : 0 < len := by have := (List.getElem?_eq_some_iff.1 hx).1; omega
  obtain ⟨b, o, ha, hlt, hc⟩ := h3 hl; obtain ⟨cs, c1, c2, c3⟩ := hc j x hx; have := c3.2; simp [Lit.wf, IntKind.min, IntKind.max, IntKind.bits, IntKind.signed] at this; omega
theorem env_of_laid {w : World} (h : laidMetH Tryz.prog Rows.fnTopRow.laid w) : Env w.heap.size w := by
 rw [MakeChecks.laidMetH_plain _ _ _ (by kernel_rfl)] at h
 have e : Rows.fnTopRow.laid = [("unicode/utf8.acceptRanges", Lib.acceptData), ("unicode.White_Space", Rows.laid_unicode_White_Space), ("strings.asciiSpace", Lib.tabData .u8 Lib.asciiSpaceTab), ("unicode/utf8.first", Lib.firstData)] := by kernel_rfl
 rw [e] at h; have ht : Lib.Utf8Tabs 2 3 w := utf8Tabs_of_reads (ρ := lays260_ren) lays260 ⟨by kernel_rfl, by kernel_rfl, by kernel_rfl, by kernel_rfl, by kernel_rfl, by kernel_rfl, by kernel_rfl⟩ (Lib.laidMet.reads h (.tail _ (.tail _ (.tail _ (.head _))))) (Lib.laidMet.reads h (.head _)); exact ⟨tabs_size ht, Nat.le_refl _, ht, Lib.tabIs_of_head (g := 0) (t := 161) (e := 5) (n := 256) (by kernel_rfl) (by kernel_rfl) (by kernel_rfl) (by kernel_rfl) (by kernel_rfl) (by kernel_rfl) h.tail.tail⟩
/-- A node seen from a later world. -/
theorem At.later {n q : Nat} {t : T} {w w' : World} (h : At (fun k => k < w.heap.size) n w q t) (hb : Below w.heap.size w w') : At (fun k => k < w'.heap.size) n w' q t :=
 At.turn (Touch.of_below hb (fun _ => False)) (fun _ _ _ x => x) (fun k hk _ => Nat.lt_of_lt_of_le hk hb.size) n h
theorem q_term {n q : Nat} {t : T} {w : World} (hW : W .q t) (h : At (fun k => k < w.heap.size) (n + 1) w q t) : q < w.heap.size ∧ ∃ v0 v1 v2 v3 v4 v5 v6 v7, Row w q 37 #[v0, v1, v2, v3, v4, v5, v6, v7] ∧ (v3 = .pointer none ∨ ∃ p te, v3 = .pointer (some ⟨p, 0, none⟩) ∧ W .t te ∧ At (fun k => k < w.heap.size) n w p te ∧ te.wt ≤ t.wt) := by
 cases hW with
 | q1 me ims fds te a b c _ _ _ _ _ hte =>
  obtain ⟨h1, v0, v1, v2, v3, v4, v5, v6, hr, _, _, _, h3, _⟩ := inv_q h; refine ⟨h1, _, _, _, _, _, _, _, _, hr, ?_⟩
  cases te with
  | none => exact .inl h3
  | some t =>
   obtain ⟨p, x, y⟩ := h3; exact .inr ⟨p, t, x, hte t rfl, y, by simp only [T.wt, wtF, F.wt, wtO]; omega⟩
 | q2 le r ps op a b c =>
  obtain ⟨h1, v0, v1, v2, v3, v4, v5, v6, hr, _, _, _, h3, _⟩ := inv_q h; exact ⟨h1, _, _, _, _, _, _, _, _, hr, .inl h3⟩
set_option maxRecDepth 100000 in
set_option maxHeartbeats 8000000 in
theorem lawW (hD : DC 4 .q 300 328 40) (a : Option Addr) (len cap : Nat) (z : List Int) (w : World) (hE : Env w.heap.size w) (hz : SliceOf 1 (IsInt .u8) w a len z) :
    Calls Tryz.prog 3 #[.slice a len cap] w fun e w' => e = .returned (.bool true) ∧ Below w.heap.size w w' := by
 obtain ⟨hv, hwf⟩ := vw_of hz; have HE := Lh hE; clear hE
 by_cases hbig : 1048576 < len
 ·
  go_enter Tryz.func3, Tryz.ntmps3; go_wp2_with fail; go_ret; exact ⟨rfl, Below.refl _ _⟩
 ·
  have hl : len ≤ 1048576 := by omega
  have hb1 : Below w.heap.size w (w.alloc (.cells #[.slice a len cap, .int .i64 0] 25)) := (Below.refl _ _).alloc (Nat.le_refl _) _
  have HRD : Hid (RD (w.alloc (.cells #[.slice a len cap, .int .i64 0] 25)) w.heap.size a len cap z 0) := Lh ⟨Row.made w 25 _, hv.keep hb1, fun h0 x hx e => by
   obtain ⟨b, o, ha, hb, _⟩ := hv.2 h0; rw [hx] at ha
   cases ha
   have e' : b = w.heap.size := e
   omega, Nat.zero_le _, hwf⟩
  have HC := Lh (hD _ w.heap.size a len cap z 0 0 HRD.out hl (by omega) (by omega)); have HB1 := Lh hb1; clear hv hwf hb1 HRD hz hD; go_enter Tryz.func3, Tryz.ntmps3; go_wp2_with fail; refine HC.out.mono ?_; rintro e w2 ⟨q, t, i2, rfl, hr2, ha2, hW2, hq2, ht2⟩; have hi2 := hr2.le; have HT2 := Lh (HB1.out.trans (ht2.below (by simp) (fun k hk e => by have e' : k = w.heap.size := e; omega))); have hs2 := HT2.out.size; have HA2 := Lh (At.turn (ok' := fun k => k < w2.heap.size) (Touch.refl (fun _ => False) w2) (fun _ _ _ x => x) (fun k _ h => h) 328 ha2); have HE2 := Lh (HE.out.at HT2.out); have HW2 := Lh hW2; have HL2 : Hid (t.wt ≤ 1099511627776) := Lh (by omega)
  have hpl : ∀ (n : Nat) (t : T), t.wt ≤ 1099511627776 → (pr n t []).length ≤ 1099511627776 := fun n t h => by have := (prB n t []).2; simp at this; omega
  have HP2 := Lh (hpl 328 t HL2.out); clear hr2 ha2 hW2 hq2 ht2 HC; go_wp2_with fail; refine (strQC 328 (allW 328).q w2 w2 w2.heap.size q t HW2.out HA2.out (Below.refl _ _) HE2.out HP2.out).mono ?_; rintro e w3 ⟨rfl, hb3⟩; obtain ⟨X, hX⟩ : ∃ X, X = (⟨(pr 328 t []).toArray⟩ : ByteArray) := ⟨_, rfl⟩; rw [← hX]; have HX := Lh hX; have HB3 := Lh hb3; have hs3 := hb3.size; have HA3 := Lh (At.later HA2.out hb3); have HE3 := Lh (HE2.out.at hb3); clear hb3 hX; go_wp2_with fail; refine ((allR 328).q w3 w3 w3.heap.size q _ [] _ t HW2.out HA3.out BN.nil HE3.out rfl HP2.out).mono ?_; rintro e w4 ⟨v', rfl, A4, n4, c4, d4, rfl, HN4, HO4, HB4, hs4⟩; have hcv := HO4.out.conv; rw [← HX.out] at hcv; have HA4 := Lh (At.later HA3.out HB4.out); have HE4 := Lh (HE3.out.at HB4.out); have HT4 := Lh (HT2.out.trans ((below_low HB3.out hs2).trans (below_low HB4.out (by omega)))); go_wp2_with fail; obtain ⟨hq4, v0, v1, v2, v3, v4, v5, v6, v7, hr4, hc⟩ := q_term HW2.out HA4.out; have HR4 := Lh hr4; have y4 := hr4.cell 3; have yd := (show Row w4.drew q 37 _ from hr4).cell 3; clear hr4 hcv; rcases hc with rfl | ⟨p, te, rfl, hte, hap, hwt⟩
  ·
   go_quiet (fail); go_wp2_with fail; go_ret; exact ⟨rfl, HT4.out.trans ⟨rfl, rfl, rfl, Nat.le_refl _, fun _ _ => rfl⟩⟩
  ·
   have HTE := Lh hte; have HAP := Lh hap; have HPT := Lh (hpl 327 te (Nat.le_trans hwt HL2.out)); obtain ⟨Y, hY⟩ : ∃ Y, Y = (⟨(pr 327 te []).toArray⟩ : ByteArray) := ⟨_, rfl⟩; clear hte hap hwt; go_upto_region 7 with fail; go_region_with (first | (go_at_call 7; refine (strTC 327 (allW 327).t w4 w4.drew w4.heap.size p te HTE.out HAP.out (Below.refl _ _).drew HE4.out HPT.out).mono ?_; rintro e w5 ⟨rfl, hb5⟩; rw [← hY]; have HB5 := Lh ((Below.refl w4.heap.size w4).drew.trans hb5); have hs5 := HB5.out.size; have r5 := HR4.out.at hq4 HB5.out; have y5 := r5.cell 3; have HA5 := Lh (At.later HAP.out HB5.out); have HE5 := Lh (HE4.out.at HB5.out); clear hb5 r5) | (go_at_call 8; refine ((allR 327).t w5 w5 w5.heap.size p _ [] _ te HTE.out HA5.out BN.nil HE5.out rfl HPT.out).mono ?_; rintro e w6 ⟨v6, rfl, A6, n6, c6, d6, rfl, HN6, HO6, HB6, hs6⟩; have hcv6 := HO6.out.conv; rw [← hY] at hcv6))
   all_goals go_wp2_with fail
   all_goals go_ret
   all_goals exact ⟨rfl, HT4.out.trans ((below_low HB5.out HT4.out.size).trans (below_low HB6.out (by have := HT4.out.size; omega)))⟩
end Go.Proofs.YtghcggagpagfoaaGreatDoor
