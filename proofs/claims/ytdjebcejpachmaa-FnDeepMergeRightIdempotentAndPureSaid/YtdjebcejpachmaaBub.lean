/-
  The contract of buildObject (n001_79): the walk.
-/
import Derived.Test.YtdjebcejpachmaaBuo
namespace Go.Proofs.Ytdjebcejpachmaa
set_option linter.unusedVariables false
set_option linter.unusedSimpArgs false
open Go.ChangeShapes Go.WideShapes Go.ChangeAt Go.RowKit M
theorem int_ne_map {w : World} {a : Option Addr} {n b : Nat} {zs : List Int} {es : ES} (h : Vw w a n (intsV zs)) (hm : MMap w b es) : 0 < n → ∀ x, a = some x → x.block < w.heap.size → ¬ x.block = b := by
  intro hn x hx _ e
  obtain ⟨b', o, s, ha, _, _, hc⟩ := h.int hn
  rw [hx] at ha
  injection ha with ha
  subst ha
  subst e
  obtain ⟨_, ents, clock, h1, _⟩ := hm
  simp [World.cell?, h1] at hc
theorem below_cell0 {w w' : World} {B b o : Nat} {v : Value} (hb : Below B w w') (h : b < B) (hc : w.cell? ⟨b, o, none⟩ = some v) : w'.cell? ⟨b, o, none⟩ = some v := (hb.cell (p := ⟨b, o, none⟩) h).trans hc
def BuildOut (w : World) (om : OML) (e : Ending) (w' : World) : Prop := (∃ m es, e = .returned (.map (some m)) ∧ OObjX w' m es om) ∧ Below w.heap.size w w'
theorem newC2 (w : World) : Calls Try.prog 19 #[] w fun e w' => e = .returned (.map (some w.heap.size)) ∧ MMap w' w.heap.size [] ∧ Below w.heap.size w w' ∧ w.heap.size < w'.heap.size := (newC w).mono fun _ _ ⟨a, b, c, d⟩ => ⟨a, b, c, by omega⟩
set_option maxRecDepth 100000 in
set_option maxHeartbeats 8000000 in
theorem buildC (w : World) (a0 : Option Addr) (len0 cap0 : Nat) (ks : List ByteArray) (a1 : Option Addr) (len1 cap1 : Nat) (vs : List Int) (a2 : Option Addr) (len2 cap2 : Nat) (us2 : List Value) (nks : NK) (a3 : Option Addr) (len3 cap3 : Nat) (us3 : List Value) (nvs : NI)
    (h0 : Vw w a0 len0 (strV ks)) (h1 : Vw w a1 len1 (intsV vs)) (h2 : Vw w a2 len2 us2) (hn2 : NV w us2 (nkV nks)) (h3 : Vw w a3 len3 us3) (hn3 : NV w us3 (niV nvs)) (hl0 : len0 ≤ 4096) (hln : ∀ j, (nkAt nks j).2.length ≤ 4096) :
    Calls Try.prog 17 #[.slice a0 len0 cap0, .slice a1 len1 cap1, .slice a2 len2 cap2, .slice a3 len3 cap3] w (BuildOut w (modF ks vs nks nvs len0)) := by
  have H0 := Lib.hid h0
  have H1 := Lib.hid h1
  have H2 := Lib.hid h2
  have HN2 := Lib.hid hn2
  have H3 := Lib.hid h3
  have HN3 := Lib.hid hn3
  have HLN := Lib.hid hln
  clear h0 h1 h2 hn2 h3 hn3 hln
  go_enter Try.func17, Try.ntmps17
  go_wp2_with fail
  refine (newC2 _).mono ?_
  rintro e w1 ⟨rfl, hm1, hb1, hs1⟩
  have HM1 := Lib.hid hm1
  have HB1 := Lib.hid hb1
  clear hm1 hb1
  go_wp2_with fail
  go_loopw [10] (fun i wr => ∃ (j : Nat) (es : ES), j ≤ len0 ∧ i = .int .i64 j ∧ OObjX wr w.heap.size es (modF ks vs nks nvs j) ∧ Below w.heap.size w wr ∧ w.heap.size < wr.heap.size) (fun i _ => len0 - (intOf i).toNat)
  case atStart => exact ⟨0, [], Nat.zero_le _, rfl, ⟨HM1.out, fun s => trivial⟩, HB1.out, hs1⟩
  case round =>
    obtain ⟨j, es, hj, rfl, hox, hb, hsz⟩ := hrel
    have HOX := Lib.hid hox
    have HB := Lib.hid hb
    have tn : Touch (fun _ => False) w wr := Touch.of_below hb _
    clear hox hb HM1 HB1
    by_cases hlt : j < len0
    · obtain ⟨b, o, s, rfl, hbl, hs, hc⟩ := (H0.out.touch tn (fun _ _ _ _ q => q)).str hlt
      have HS := Lib.hid hs
      have H2' := Lib.hid (H2.out.touch tn (fun _ _ _ _ q => q))
      have HN2' := Lib.hid (show NV wr us2 (nkV nks) from HN2.out.keep HB.out)
      have H3' := Lib.hid (H3.out.touch tn (fun _ _ _ _ q => q))
      have HN3' := Lib.hid (show NV wr us3 (niV nvs) from HN3.out.keep HB.out)
      have H1' := Lib.hid (H1.out.touch tn (fun _ _ _ _ q => q))
      clear hs tn
      go_wp2_with fail
      refine (strsAtC _ a2 len2 cap2 us2 (nkV nks) j H2'.out HN2'.out (by omega)).mono ?_
      rintro e w' ⟨a, c, rfl, hsome, hvw, rfl⟩
      rw [nAt_nk] at hsome hvw ⊢
      obtain ⟨L, hL⟩ : ∃ L, L = (strV (nkAt nks j).2).length := ⟨_, rfl⟩
      simp only [← hL] at hvw ⊢
      have HVW := Lib.hid hvw
      have HSM := Lib.hid hsome
      have hL2 : (nkAt nks j).2.length = L := by rw [hL]; simp [strV]
      have HL2 := Lib.hid hL2
      have hL4 : L ≤ 4096 := by have := HLN.out j; omega
      have hnil := fun W => Lib.run_eql_slice_nil (P := Try.prog) W 24 9 a L c 0 0 Try.underlying24
      clear hvw hsome hL hL2
      cases a with
      | none =>
        have HE := Lib.hid (show entAt vs nks nvs j = .inl (intAtL vs j) by have h : false = (nkAt nks j).1 := HSM.out; unfold entAt; rw [← h]; rfl)
        have HID := Lib.hid (H1'.out.keep (w' := wr.drew) (Below.refl _ _).drew)
        have HOD := Lib.hid (HOX.out.keep (w' := wr.drew) (Below.refl _ _).drew)
        go_wp2_with fail
        go_region_with (first
          | (go_at_call 31; refine (intAtC _ a1 len1 cap1 vs j HID.out (by omega)).mono ?_; rintro e w' ⟨rfl, rfl⟩)
          | (go_at_call 34; refine (setIntC _ w.heap.size es s (intAtL vs j) HOD.out.1).mono ?_; rintro e w3 ⟨rfl, hm3, ht3, hs3⟩; have HM3 := Lib.hid hm3; have HT3 := Lib.hid ht3; have hs3' : wr.heap.size ≤ w3.heap.size := ht3.size; clear hm3 ht3 hs3))
        all_goals go_wp2_with fail
        all_goals exact ⟨⟨j + 1, _, by omega, by go_num, by rw [modF_step HS.out, HE.out]; exact HOD.out.set HM3.out HT3.out rfl, HB.out.drew.trans (HT3.out.below (by show _ ≤ wr.heap.size; omega) (fun k hk e => by omega)), by omega⟩, by simp [intOf]; omega⟩
      | some ad =>
        have HE := Lib.hid (show entAt vs nks nvs j = .inr (flatAt nks nvs j) by have h : true = (nkAt nks j).1 := HSM.out; unfold entAt; rw [← h]; rfl)
        go_wp2_with fail
        refine (newC2 _).mono ?_
        rintro e w2 ⟨rfl, hm2, hb2, hs2⟩
        have HM2 := Lib.hid hm2
        have HB2 := Lib.hid hb2
        have H3w := Lib.hid (H3'.out.keep hb2)
        have HN3w := Lib.hid (HN3'.out.keep hb2)
        clear hm2 hb2
        go_wp2_with fail
        refine (intsAtC _ a3 len3 cap3 us3 (niV nvs) j H3w.out HN3w.out (by omega)).mono ?_
        rintro e w' ⟨a', c', rfl, _, hvi, rfl⟩
        rw [nAt_ni] at hvi ⊢
        obtain ⟨L2, hL2⟩ : ∃ L2, L2 = (intsV (niAt nvs j).2).length := ⟨_, rfl⟩
        simp only [← hL2] at hvi ⊢
        have HVI := Lib.hid hvi
        clear hvi hL2
        go_wp2_with fail
        obtain ⟨wo, rfl⟩ : ∃ wo, wo = wr := ⟨wr, rfl⟩
        have HC := Lib.hid hc
        clear hc
        go_loopw [14] (fun i ws => ∃ (q : Nat) (fs : ES), q ≤ L ∧ i = .int .i64 q ∧ FObjX ws wo.heap.size fs (flatF (nkAt nks j).2 (niAt nvs j).2 q) ∧ Touch (fun k => k = wo.heap.size) w2 ws) (fun i _ => L - (intOf i).toNat)
        case atStart => exact ⟨0, [], Nat.zero_le _, rfl, ⟨HM2.out, fun s => rfl⟩, Touch.refl _ _⟩
        case round =>
          obtain ⟨q, fs, hq, rfl, hfx, htx⟩ := hrel
          have HFX := Lib.hid hfx
          have HTX := Lib.hid htx
          have hst := htx.size
          have hbx : Below wo.heap.size wo wr := HB2.out.trans (htx.below (by omega) (fun k hk e => by omega))
          have HBX := Lib.hid hbx
          clear hfx htx hbx
          by_cases hlq : q < L
          · obtain ⟨_, _, sk, e1, hbk, hsk, hck⟩ := (HVW.out.keep HBX.out).str hlq
            cases e1
            have HSK := Lib.hid hsk
            have HID := Lib.hid ((HVI.out.touch HTX.out (int_ne_map HVI.out HM2.out)).keep (w' := wr.drew) (Below.refl _ _).drew)
            have HOD := Lib.hid (show MMap wr.drew wo.heap.size fs from HFX.out.1.keep (Below.refl _ _).drew)
            clear hsk
            go_wp2_with fail
            go_region_with (first
              | (go_at_call 31; refine (intAtC _ a' L2 c' (niAt nvs j).2 q HID.out (by omega)).mono ?_; rintro e w' ⟨rfl, rfl⟩)
              | (go_at_call 34; refine (setIntC _ wo.heap.size fs sk (intAtL (niAt nvs j).2 q) HOD.out).mono ?_; rintro e w3 ⟨rfl, hm3, ht3, hs3⟩; have HM3 := Lib.hid hm3; have HT3 := Lib.hid ht3; clear hm3 ht3 hs3))
            all_goals go_wp2_with fail
            all_goals exact ⟨⟨q + 1, _, by omega, by go_num, by rw [flatF_step HSK.out]; exact HFX.out.put HM3.out, HTX.out.drew.trans HT3.out⟩, by simp [intOf]; omega⟩
          · obtain rfl : q = L := by omega
            have hc := below_cell0 HBX.out hbl HC.out
            have HOK := Lib.hid (HOX.out.keep HBX.out)
            go_wp2_with fail
            refine (setObjC _ w.heap.size wo.heap.size es s HOK.out.1).mono ?_
            rintro e w4 ⟨rfl, hm4, ht4, _⟩
            have HM4 := Lib.hid hm4
            have HT4 := Lib.hid ht4
            have hs4 := ht4.size
            clear hm4 ht4
            go_wp2_with fail
            have hv : VX w4 w.heap.size (some (.iface 42 (.map (some wo.heap.size)))) (some (.inr (flatAt nks nvs j))) := by
              refine ⟨flatF_nd _ _ _, Nat.le_trans (flatF_len _ _ _) (HLN.out j), wo.heap.size, fs, rfl, by omega, ?_⟩
              unfold flatAt
              rw [HL2.out]
              exact ⟨HFX.out.1.touch HT4.out (by omega), HFX.out.2⟩
            exact ⟨⟨j + 1, _, by omega, by go_num, by rw [modF_step HS.out, HE.out]; exact HOK.out.set HM4.out HT4.out hv, HB.out.trans ((HBX.out.mono (by omega)).trans (HT4.out.below (by omega) (fun k hk e => by omega))), by omega⟩, by simp [intOf]; omega⟩
    · obtain rfl : j = len0 := by omega
      go_wp2_with fail
      go_ret
      exact ⟨⟨_, _, rfl, HOX.out⟩, HB.out⟩
end Go.Proofs.Ytdjebcejpachmaa
