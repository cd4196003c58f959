/-
  The law's reader of a text (n001_1001): zMatchObj. Printed by genMto.py.
-/
import Derived.Test.YtgbkjdndbjaeoaaDoorMta
namespace Go.Proofs.YtgbkjdndbjaeoaaDoor
set_option linter.unusedVariables false
set_option linter.unusedSimpArgs false
open Go.ChangeShapes Go.WideShapes Go.ChangeAt Go.RowKit M
theorem WK.forms {n : Nat} {t : T} (h : WK (n + 1) t) : (∃ m v, t = kvF (nameT m) E0 v ∧ WT n v) ∨ (∃ s v, t = kvF E0 s v ∧ s.size ≤ 255 ∧ WT n v) := by
  cases h with
  | key n' m v hv => exact .inl ⟨m, v, rfl, hv⟩
  | str n' s v hs hv => exact .inr ⟨s, v, rfl, hs, hv⟩
set_option maxRecDepth 100000 in
set_option maxHeartbeats 8000000 in
theorem mO_s (n : Nat) (IH : MT n) (nn : Bool) (ts : List T) (hl : ts.length ≤ 3) (hk : ∀ t ∈ ts, WK (n + 1) t) (w : World) (pb : Nat) (S : ByteArray) (L : List UInt8) (p : Nat) (ha : At (fun k => k < pb) (n + 2) w p (.nd 40 [.l nn ts])) (hz : ZP w pb S (txt (n + 2) (.nd 40 [.l nn ts]) ++ L)) (hs : S.size ≤ 1099511627776) : Calls Tryd.prog 7 #[.pointer (some ⟨pb, 0, none⟩), .pointer (some ⟨p, 0, none⟩)] w (MOut w pb S L) := by
  obtain ⟨A, c, us, hr, hv, hab, he, hp⟩ := ha.list
  have y0 := hr.cell 0
  have hpl := hr.lt
  have HR := Lib.hid hr
  have HV0 := Lib.hid hv
  have HAB0 := Lib.hid hab
  have HE := Lib.hid he
  clear ha hr hv hab he
  by_cases hN0 : ts.length = 0
  · have HZ := Lib.hid (show ZP w pb S ((⟨#[123, 125]⟩ : ByteArray).data.toList ++ L) by rw [txt_obj, if_pos hN0] at hz; exact hz)
    rw [hN0] at y0
    clear hz hN0
    go_enter Tryd.func7, Tryd.ntmps7
    go_wp2_with fail
    refine (litC _ pb S _ _ HZ.out hs).mono ?_
    rintro e w2 ⟨rfl, hz2, ht2⟩
    have HZ2 := Lib.hid hz2
    have HT2 := Lib.hid ht2
    clear hz2 ht2
    go_wp2_with fail
    go_ret
    exact ⟨rfl, HZ2.out, HT2.out⟩
  · have HZ := Lib.hid (show ZP w pb S ((⟨#[123, 32]⟩ : ByteArray).data.toList ++ (jr (txt (n + 1)) false ts ++ (32 :: 125 :: L))) by rw [txt_obj, if_neg hN0, List.append_assoc, List.append_assoc] at hz; exact hz)
    clear hz
    obtain ⟨N, hN⟩ : ∃ N, N = ts.length := ⟨_, rfl⟩
    have HV : Hid (Vw w A N us) := Lib.hid (by rw [hN]; exact HV0.out)
    have HAB : Hid (∀ x, A = some x → 0 < N → x.block < pb) := Lib.hid (by rw [hN]; exact HAB0.out)
    rw [← hN] at y0 hl hN0 HR
    have HN := Lib.hid hN
    clear hN HV0 HAB0
    go_enter Tryd.func7, Tryd.ntmps7
    go_wp2_with fail
    refine (litC _ pb S _ _ HZ.out hs).mono ?_
    rintro e w1 ⟨rfl, hz1, ht1⟩
    have HZ1 := Lib.hid hz1
    have HT1 := Lib.hid ht1
    have r1 := HR.out.touch ht1 (by omega)
    have z0 := r1.cell 0
    clear hz1 ht1 r1
    go_wp2_with fail
    go_loopw [23] (fun t wr => ∃ j : Nat, j ≤ N ∧ t = .int .i64 j ∧ ZP wr pb S (jr (txt (n + 1)) (decide (0 < j)) (ts.drop j) ++ (32 :: 125 :: L)) ∧ Touch (fun k => k = pb) w wr) (fun t _ => N - (intOf t).toNat)
    case atStart => exact ⟨0, Nat.zero_le _, rfl, HZ1.out, HT1.out⟩
    case round =>
      obtain ⟨j, hj, rfl, hzr, htr⟩ := hrel
      have HZR := Lib.hid hzr
      have HTR := Lib.hid htr
      clear hzr htr
      by_cases hlt : j < N
      · have HVR := Lib.hid (HV.out.touch HTR.out (fun h0 x hx _ e => by have := HAB.out x hx h0; omega))
        obtain ⟨ab, ao, q0, t0, hA, hab1, hcell, ht0, hmem, hat⟩ := kid HVR.out HN.out.symm (fun i t u hi hu => by obtain ⟨q, h1, h2⟩ := HE.out i t u hi hu; exact ⟨q, h1, At.turn HTR.out (fun k hk _ e => by omega) (fun k hk _ => hk) (n + 1) h2⟩) hlt
        subst hA
        have HAT := Lib.hid hat
        have HJR := Lib.hid (jr_drop (txt (n + 1)) ts j t0 ht0)
        have HWK := Lib.hid (hk t0 hmem).forms
        clear hat ht0 hmem
        obtain ⟨R, hR⟩ : ∃ R, R = jr (txt (n + 1)) true (ts.drop (j + 1)) ++ (32 :: 125 :: L) := ⟨_, rfl⟩
        have HRR := Lib.hid hR
        have HRH := Lib.hid (show ∀ c, R.head? = some c → stp.contains c = true by rw [hR]; exact jr_head _ _ _ _ (by decide))
        have HZJ := Lib.hid (show ZP wr pb S ((if 0 < j then [44, 32] else []) ++ (txt (n + 1) t0 ++ R)) by have := HZR.out; rw [HJR.out] at this; rw [hR]; simpa using this)
        clear hR
        by_cases hj0 : 0 < j
        · rcases HWK.out with hform | hform
          · have HZK := Lib.hid (show ZP wr pb S ((⟨#[44, 32]⟩ : ByteArray).data.toList ++ (txt (n + 1) t0 ++ R)) by have := HZJ.out; rw [if_pos hj0] at this; exact this)
            clear HZJ
            go_wp2_with fail
            refine (litC _ pb S _ _ HZK.out hs).mono ?_
            rintro e w2 ⟨rfl, hz2, ht2⟩
            have HZW := Lib.hid hz2
            have HT2 := Lib.hid (HTR.out.trans ht2)
            have HAW := Lib.hid (At.turn (ok' := fun k => k < pb) ht2 (fun k hk _ e => by omega) (fun k hk _ => hk) (n + 1) HAT.out)
            clear hz2 ht2 HAT
            obtain ⟨m, v, rfl, hwv⟩ := hform
            have hfr := nameT_free m
            have hx1 := (nameT_ne m).1
            have HZX := Lib.hid (show ZP w2 pb S ((nameT m).data.toList ++ ([58, 32] ++ (txt n v ++ R))) by have := HZW.out; rw [txt_kv, if_neg (nameT_ne m).2] at this; simpa using this)
            clear HZW
            obtain ⟨x, hx⟩ : ∃ x, x = nameT m := ⟨_, rfl⟩
            rw [← hx] at HAW HZX hfr hx1
            clear hx
            obtain ⟨qv, hrk, hav, hpk⟩ := HAW.out.kv
            have HRK := Lib.hid hrk
            have HAV := Lib.hid hav
            have HFR := Lib.hid hfr
            have k0 := hrk.cell 0
            have k0d := (show Row w2.drew q0 44 _ from hrk).cell 0
            have hkl := hrk.lt
            clear hrk hav hfr
            go_upto_region 11 with fail
            go_region_with (go_at_call 16; refine (wordC _ pb S x ⟨#[58]⟩ _ HZX.out.drew hs HFR.out (by intro c hc; simp at hc; subst hc; decide)).mono ?_; rintro e w4 ⟨rfl, hz4, ht4⟩; have ht5 := ((Touch.refl (fun k => k = pb) w2).drew).trans ht4; have r4 := HRK.out.touch ht5 (by omega); have c40 := r4.cell 0; have c42 := r4.cell 2; have R4 := Lib.hid r4; have HZ4 := Lib.hid (show ZP w4 pb S ((⟨#[58, 32]⟩ : ByteArray).data.toList ++ (txt n v ++ R)) from hz4); have HT4 := Lib.hid (HT2.out.trans ht5); have HAV4 := Lib.hid (At.turn (ok' := fun k => k < pb) ht5 (fun k hk _ e => by omega) (fun k hk _ => hk) n HAV.out); clear hz4 ht4 ht5 r4)
            all_goals (
              go_wp2_with fail
              refine (litC _ pb S _ _ HZ4.out hs).mono ?_
              rintro e w6 ⟨rfl, hz6, ht6⟩
              have r6 := R4.out.touch ht6 (by omega)
              have c62 := r6.cell 2
              have HZ6 := Lib.hid hz6
              have HT6 := Lib.hid (HT4.out.trans ht6)
              have HAV6 := Lib.hid (At.turn (ok' := fun k => k < pb) ht6 (fun k hk _ e => by omega) (fun k hk _ => hk) n HAV4.out)
              clear hz6 ht6 r6
              go_wp2_with fail
              refine (IH _ pb S _ qv v hwv HAV6.out HZ6.out hs HRH.out).mono ?_
              rintro e w7 ⟨rfl, hz7, ht7⟩
              have HZ7 := Lib.hid hz7
              have HT7 := Lib.hid (HT6.out.trans ht7)
              clear hz7 ht7
              go_wp2_with fail
              exact ⟨⟨j + 1, by omega, by go_num, by rw [HRR.out] at HZ7; simpa using HZ7.out, HT7.out⟩, by simp [intOf]; omega⟩)
          · have HZK := Lib.hid (show ZP wr pb S ((⟨#[44, 32]⟩ : ByteArray).data.toList ++ (txt (n + 1) t0 ++ R)) by have := HZJ.out; rw [if_pos hj0] at this; exact this)
            clear HZJ
            go_wp2_with fail
            refine (litC _ pb S _ _ HZK.out hs).mono ?_
            rintro e w2 ⟨rfl, hz2, ht2⟩
            have HZW := Lib.hid hz2
            have HT2 := Lib.hid (HTR.out.trans ht2)
            have HAW := Lib.hid (At.turn (ok' := fun k => k < pb) ht2 (fun k hk _ e => by omega) (fun k hk _ => hk) (n + 1) HAT.out)
            clear hz2 ht2 HAT
            obtain ⟨s, v, rfl, hss, hwv⟩ := hform
            have HZX := Lib.hid (show ZP w2 pb S (quoted s ++ ([58, 32] ++ (txt n v ++ R))) by have := HZW.out; rw [txt_kv] at this; simpa [E0, ByteArray.size_empty] using this)
            clear HZW
            rw [show E0 = (⟨#[]⟩ : ByteArray) from rfl] at HAW
            obtain ⟨qv, hrk, hav, hpk⟩ := HAW.out.kv
            have HRK := Lib.hid hrk
            have HAV := Lib.hid hav
            have k0 := hrk.cell 0
            have k1 := hrk.cell 1
            have hkl := hrk.lt
            clear hrk hav
            go_wp2_with fail
            refine (mtsC _ pb S s _ HZX.out hs (by omega)).mono ?_
            rintro e w4 ⟨rfl, hz4, ht4⟩
            have r4 := HRK.out.touch ht4 (by omega)
            have c42 := r4.cell 2
            have R4 := Lib.hid r4
            have HZ4 := Lib.hid (show ZP w4 pb S ((⟨#[58, 32]⟩ : ByteArray).data.toList ++ (txt n v ++ R)) from hz4)
            have HT4 := Lib.hid (HT2.out.trans ht4)
            have HAV4 := Lib.hid (At.turn (ok' := fun k => k < pb) ht4 (fun k hk _ e => by omega) (fun k hk _ => hk) n HAV.out)
            clear hz4 ht4 r4
            all_goals (
              go_wp2_with fail
              refine (litC _ pb S _ _ HZ4.out hs).mono ?_
              rintro e w6 ⟨rfl, hz6, ht6⟩
              have r6 := R4.out.touch ht6 (by omega)
              have c62 := r6.cell 2
              have HZ6 := Lib.hid hz6
              have HT6 := Lib.hid (HT4.out.trans ht6)
              have HAV6 := Lib.hid (At.turn (ok' := fun k => k < pb) ht6 (fun k hk _ e => by omega) (fun k hk _ => hk) n HAV4.out)
              clear hz6 ht6 r6
              go_wp2_with fail
              refine (IH _ pb S _ qv v hwv HAV6.out HZ6.out hs HRH.out).mono ?_
              rintro e w7 ⟨rfl, hz7, ht7⟩
              have HZ7 := Lib.hid hz7
              have HT7 := Lib.hid (HT6.out.trans ht7)
              clear hz7 ht7
              go_wp2_with fail
              exact ⟨⟨j + 1, by omega, by go_num, by rw [HRR.out] at HZ7; simpa using HZ7.out, HT7.out⟩, by simp [intOf]; omega⟩)
        · obtain rfl : j = 0 := by omega
          have hcell0 : wr.cell? ⟨ab, ao, none⟩ = some (.pointer (some ⟨q0, 0, none⟩)) := by simpa using hcell
          clear hcell
          rcases HWK.out with hform | hform
          · have HZW := Lib.hid (show ZP wr pb S (txt (n + 1) t0 ++ R) by have := HZJ.out; rw [if_neg hj0] at this; exact this)
            have HAW := HAT
            clear HZJ HAT
            obtain ⟨m, v, rfl, hwv⟩ := hform
            have hfr := nameT_free m
            have hx1 := (nameT_ne m).1
            have HZX := Lib.hid (show ZP wr pb S ((nameT m).data.toList ++ ([58, 32] ++ (txt n v ++ R))) by have := HZW.out; rw [txt_kv, if_neg (nameT_ne m).2] at this; simpa using this)
            clear HZW
            obtain ⟨x, hx⟩ : ∃ x, x = nameT m := ⟨_, rfl⟩
            rw [← hx] at HAW HZX hfr hx1
            clear hx
            obtain ⟨qv, hrk, hav, hpk⟩ := HAW.out.kv
            have HRK := Lib.hid hrk
            have HAV := Lib.hid hav
            have HFR := Lib.hid hfr
            have k0 := hrk.cell 0
            have k0d := (show Row wr.drew q0 44 _ from hrk).cell 0
            have hkl := hrk.lt
            clear hrk hav hfr
            go_upto_region 11 with fail
            go_region_with (go_at_call 16; refine (wordC _ pb S x ⟨#[58]⟩ _ HZX.out.drew hs HFR.out (by intro c hc; simp at hc; subst hc; decide)).mono ?_; rintro e w4 ⟨rfl, hz4, ht4⟩; have ht5 := ((Touch.refl (fun k => k = pb) wr).drew).trans ht4; have r4 := HRK.out.touch ht5 (by omega); have c40 := r4.cell 0; have c42 := r4.cell 2; have R4 := Lib.hid r4; have HZ4 := Lib.hid (show ZP w4 pb S ((⟨#[58, 32]⟩ : ByteArray).data.toList ++ (txt n v ++ R)) from hz4); have HT4 := Lib.hid (HTR.out.trans ht5); have HAV4 := Lib.hid (At.turn (ok' := fun k => k < pb) ht5 (fun k hk _ e => by omega) (fun k hk _ => hk) n HAV.out); clear hz4 ht4 ht5 r4)
            all_goals (
              go_wp2_with fail
              refine (litC _ pb S _ _ HZ4.out hs).mono ?_
              rintro e w6 ⟨rfl, hz6, ht6⟩
              have r6 := R4.out.touch ht6 (by omega)
              have c62 := r6.cell 2
              have HZ6 := Lib.hid hz6
              have HT6 := Lib.hid (HT4.out.trans ht6)
              have HAV6 := Lib.hid (At.turn (ok' := fun k => k < pb) ht6 (fun k hk _ e => by omega) (fun k hk _ => hk) n HAV4.out)
              clear hz6 ht6 r6
              go_wp2_with fail
              refine (IH _ pb S _ qv v hwv HAV6.out HZ6.out hs HRH.out).mono ?_
              rintro e w7 ⟨rfl, hz7, ht7⟩
              have HZ7 := Lib.hid hz7
              have HT7 := Lib.hid (HT6.out.trans ht7)
              clear hz7 ht7
              go_wp2_with fail
              exact ⟨⟨1, by omega, by go_num, by rw [HRR.out] at HZ7; simpa using HZ7.out, HT7.out⟩, by simp [intOf]; omega⟩)
          · have HZW := Lib.hid (show ZP wr pb S (txt (n + 1) t0 ++ R) by have := HZJ.out; rw [if_neg hj0] at this; exact this)
            have HAW := HAT
            clear HZJ HAT
            obtain ⟨s, v, rfl, hss, hwv⟩ := hform
            have HZX := Lib.hid (show ZP wr pb S (quoted s ++ ([58, 32] ++ (txt n v ++ R))) by have := HZW.out; rw [txt_kv] at this; simpa [E0, ByteArray.size_empty] using this)
            clear HZW
            rw [show E0 = (⟨#[]⟩ : ByteArray) from rfl] at HAW
            obtain ⟨qv, hrk, hav, hpk⟩ := HAW.out.kv
            have HRK := Lib.hid hrk
            have HAV := Lib.hid hav
            have k0 := hrk.cell 0
            have k1 := hrk.cell 1
            have hkl := hrk.lt
            clear hrk hav
            go_wp2_with fail
            refine (mtsC _ pb S s _ HZX.out hs (by omega)).mono ?_
            rintro e w4 ⟨rfl, hz4, ht4⟩
            have r4 := HRK.out.touch ht4 (by omega)
            have c42 := r4.cell 2
            have R4 := Lib.hid r4
            have HZ4 := Lib.hid (show ZP w4 pb S ((⟨#[58, 32]⟩ : ByteArray).data.toList ++ (txt n v ++ R)) from hz4)
            have HT4 := Lib.hid (HTR.out.trans ht4)
            have HAV4 := Lib.hid (At.turn (ok' := fun k => k < pb) ht4 (fun k hk _ e => by omega) (fun k hk _ => hk) n HAV.out)
            clear hz4 ht4 r4
            all_goals (
              go_wp2_with fail
              refine (litC _ pb S _ _ HZ4.out hs).mono ?_
              rintro e w6 ⟨rfl, hz6, ht6⟩
              have r6 := R4.out.touch ht6 (by omega)
              have c62 := r6.cell 2
              have HZ6 := Lib.hid hz6
              have HT6 := Lib.hid (HT4.out.trans ht6)
              have HAV6 := Lib.hid (At.turn (ok' := fun k => k < pb) ht6 (fun k hk _ e => by omega) (fun k hk _ => hk) n HAV4.out)
              clear hz6 ht6 r6
              go_wp2_with fail
              refine (IH _ pb S _ qv v hwv HAV6.out HZ6.out hs HRH.out).mono ?_
              rintro e w7 ⟨rfl, hz7, ht7⟩
              have HZ7 := Lib.hid hz7
              have HT7 := Lib.hid (HT6.out.trans ht7)
              clear hz7 ht7
              go_wp2_with fail
              exact ⟨⟨1, by omega, by go_num, by rw [HRR.out] at HZ7; simpa using HZ7.out, HT7.out⟩, by simp [intOf]; omega⟩)
      · obtain rfl : N = j := by omega
        have HZK := Lib.hid (show ZP wr pb S ((⟨#[32, 125]⟩ : ByteArray).data.toList ++ L) by have := HZR.out; rw [List.drop_eq_nil_of_le (by rw [HN.out]; exact Nat.le_refl _)] at this; simpa [jr] using this)
        go_wp2_with fail
        refine (litC _ pb S _ _ HZK.out hs).mono ?_
        rintro e w2 ⟨rfl, hz2, ht2⟩
        have HZ2 := Lib.hid hz2
        have HT2 := Lib.hid (HTR.out.trans ht2)
        clear hz2 ht2
        go_wp2_with fail
        go_ret
        exact ⟨rfl, HZ2.out, HT2.out⟩
end Go.Proofs.YtgbkjdndbjaeoaaDoor
