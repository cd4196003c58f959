/-
  The printers' contracts (n001_1001): ConstObject, ConstArray writeTo. Printed by genWrl.py.
-/
import Derived.Test.YtgbkjdndbjaeoaaDoorWri
namespace Go.Proofs.YtgbkjdndbjaeoaaDoor
set_option linter.unusedVariables false
set_option linter.unusedSimpArgs false
open Go.ChangeShapes Go.WideShapes Go.ChangeAt Go.RowKit M
theorem Vw.bout {w w' : World} {B b len : Nat} {d : Option Nat} {l l' : List UInt8} {A : Option Addr} {us : List Value} (h : Vw w A len us) (hab : ∀ x, A = some x → 0 < len → x.block < B) (h0 : Bld w B b d l) (ho : BOut w B b d l' w') : Vw w' A len us := by
  obtain ⟨d', _, _, ht⟩ := ho
  exact h.touch ht (fun hl x hx _ q => by
    have hb := h0.lt
    have hx' := hab x hx hl
    rcases q with q | q
    · omega
    · have := (hb.2.2 _ q).1; omega)
theorem kid {w : World} {A : Option Addr} {L n j : Nat} {ok : Nat → Prop} {us : List Value} {ts : List T} (hv : Vw w A L us) (hL : ts.length = L) (he : ∀ (i : Nat) (t : T) (u : Value), ts[i]? = some t → us[i]? = some u → ∃ q, u = .pointer (some ⟨q, 0, none⟩) ∧ At ok n w q t) (hj : j < L) :
    ∃ b o q t, A = some ⟨b, o, none⟩ ∧ b < w.heap.size ∧ w.cell? ⟨b, o + j, none⟩ = some (.pointer (some ⟨q, 0, none⟩)) ∧ ts[j]? = some t ∧ t ∈ ts ∧ At ok n w q t := by
  obtain ⟨b, o, v, h1, h2, h3, h4⟩ := hv.get hj
  have ht : ts[j]? = some ts[j] := List.getElem?_eq_getElem (by omega)
  obtain ⟨q, h5, h6⟩ := he j _ _ ht h3
  subst h5
  exact ⟨b, o, q, _, h1, h2, h4, ht, List.getElem_mem _, h6⟩
theorem lbx {l wl s X Y : List UInt8} (h : l.length + X.length ≤ 1099511627776) (he : X = wl ++ (s ++ Y)) : (l ++ wl).length + s.length ≤ 1099511627776 := by
  rw [he] at h
  simp only [List.length_append] at h ⊢
  omega
theorem lby {l wl s X Y : List UInt8} {x : ByteArray} (hx : x.data.toList = s) (h : l.length + X.length ≤ 1099511627776) (he : X = wl ++ (s ++ Y)) : (l ++ wl).length + x.size ≤ 140737488355328 := by
  have h1 := lbx h he
  have : x.size = s.length := by rw [← hx]; rfl
  omega
set_option maxRecDepth 100000 in
set_option maxHeartbeats 4000000 in
theorem wriO (n : Nat) (IH : WC 21 n (WK n)) : WC 12 (n + 1) (WO (n + 1)) := by
  intro w B b d l p t hw ha h0 hB hT h3 hlen
  have H0 := Lib.hid h0
  have HT := Lib.hid hT
  have HL := Lib.hid hlen
  clear h0 hT hlen
  cases hw with
  | mk n' nn ts hl hk =>
    obtain ⟨A, c, us, hr, hv, hab, he, hp⟩ := ha.list
    have HR := Lib.hid hr
    have HV := Lib.hid hv
    have HE := Lib.hid he
    have HAB := Lib.hid hab
    have y0 := hr.cell 0
    clear ha hr hv he hab
    by_cases hL : ts.length = 0
    · have HTX := Lib.hid (show txt (n + 1) (.nd 40 [.l nn ts]) = [123, 125] by rw [txt_obj, if_pos hL])
      rw [HTX.out] at HL ⊢
      rw [hL] at y0
      clear hL
      go_enter Tryd.func12, Tryd.ntmps12
      go_wp2_with fail
      refine (bstr _ B b d l _ H0.out (lb0 rfl HL.out) hB).mono ?_
      rintro e w1 ⟨rfl, ho1⟩
      have HO1 := Lib.hid ho1
      clear ho1
      go_wp2_with fail
      (try simp only [Exit.inBlock, Exit.then])
      first | refine bodyPost_ret (results_none rfl _ _ _) rfl ?_ | refine bodyPost_end (results_none rfl _ _ _) rfl ?_
      exact ⟨rfl, HO1.out⟩
    · have HTX := Lib.hid (show txt (n + 1) (.nd 40 [.l nn ts]) = ([123, 32] ++ (jr (txt n) false ts ++ [32, 125])) from by rw [txt_obj, if_neg hL])
      rw [HTX.out] at HL ⊢
      obtain ⟨X, hX⟩ : ∃ X, X = ([123, 32] ++ (jr (txt n) false ts ++ [32, 125])) := ⟨_, rfl⟩
      rw [← hX] at HL ⊢
      have HX := Lib.hid hX
      clear hX
      obtain ⟨L, hLn⟩ : ∃ L, L = ts.length := ⟨_, rfl⟩
      rw [← hLn] at y0 HV hl HAB HR hL
      have HLN := Lib.hid hLn
      clear hLn
      go_enter Tryd.func12, Tryd.ntmps12
      go_wp2_with fail
      refine (bstr _ B b d l _ H0.out (lby (wl := []) rfl HL.out HX.out |> fun q => by simpa using q) hB).mono ?_
      rintro e w1 ⟨rfl, ho1⟩
      have HO1 := Lib.hid ho1
      have r1 := ho1.row H0.out HR.out (by decide) (by decide)
      have z0 := r1.cell 0
      clear ho1
      go_wp2_with fail
      go_loopw [21] (fun t wr => ∃ (j : Nat) (wl : List UInt8), j ≤ L ∧ t = .int .i64 j ∧ BOut w B b d (l ++ wl) wr ∧ X = wl ++ (jr (txt n) (decide (0 < j)) (ts.drop j) ++ [32, 125])) (fun t _ => L - (intOf t).toNat)
      case atStart =>
        exact ⟨0, [123, 32], Nat.zero_le _, rfl, HO1.out, HX.out⟩
      case round =>
        obtain ⟨j, wl, hj, rfl, hbo, hxe⟩ := hrel
        have HBO := Lib.hid hbo
        have HXE := Lib.hid hxe
        have hszr := hbo.size
        clear hbo hxe
        by_cases hlt : j < L
        · have HVR := Lib.hid (HV.out.bout HAB.out H0.out HBO.out)
          obtain ⟨ab, ao, q, t0, hA, hab1, hcell, ht0, hmem, hat⟩ := kid HVR.out HLN.out.symm (fun i t u hi hu => by obtain ⟨q, h1, h2⟩ := HE.out i t u hi hu; exact ⟨q, h1, h2.bout H0.out HBO.out⟩) hlt
          subst hA
          have HAT := Lib.hid hat
          have HJD := Lib.hid (jr_drop (txt n) ts j t0 ht0)
          have HWK := Lib.hid (hk t0 hmem)
          have HK0 := Lib.hid (show ∀ w2, BOut w B b d (l ++ wl ++ [44, 32]) w2 → At (fun k => k < B) n w2 q t0 from fun w2 h2 => by obtain ⟨b9, o9, q9, t9, e1, _, e2, e3, _, e4⟩ := kid HV.out HLN.out.symm HE.out hlt; cases e1; rw [ht0] at e3; cases e3; have h9 := (HV.out.bout HAB.out H0.out HBO.out); obtain ⟨u9, hu9⟩ : ∃ u9, us[j]? = some u9 := ⟨us[j]'(by rw [HV.out.1]; exact hlt), List.getElem?_eq_getElem _⟩; obtain ⟨b8, o8, e8, _, e7⟩ := h9.2 (by omega); cases e8; have := e7 j u9 hu9; rw [this] at hcell; cases hcell; obtain ⟨q7, e6, e5⟩ := HE.out j _ _ ht0 hu9; cases e6; exact e5.bout H0.out h2)
          clear hat ht0 hmem
          obtain ⟨R, hR⟩ : ∃ R, R = jr (txt n) (decide (0 < j + 1)) (ts.drop (j + 1)) := ⟨_, rfl⟩
          have HRR := Lib.hid hR
          by_cases hj0 : 0 < j
          · have HE2 := Lib.hid (show X = wl ++ ([44, 32] ++ (txt n t0 ++ (R ++ [32, 125]))) by rw [HXE.out, HJD.out, if_pos hj0, hR]; simp only [List.append_assoc])
            clear hR
            go_wp2_with fail
            refine (HBO.out.wstr _ (lby rfl HL.out HE2.out) (by omega)).mono ?_
            rintro e w2 ⟨rfl, ho2⟩
            have HB2 := Lib.hid ho2
            have hs2 := ho2.size
            clear ho2
            have HT2 := Lib.hid (tabs_low HT.out (HB2.out.below H0.out h3))
            obtain ⟨db, dbb, dbc, dbd⟩ := HBO.out
            have HAT2 := Lib.hid (HK0.out w2 HB2.out)
            go_wp2_with fail
            refine (HB2.out.chain fun d3 h3' => IH _ B b d3 _ q t0 HWK.out HAT2.out h3' (by omega) HT2.out h3 (lbx (wl := wl ++ [44, 32]) (Y := R ++ [32, 125]) HL.out (by rw [HE2.out]; simp) |> fun q => by simpa using q)).mono ?_
            rintro e w3 ⟨rfl, ho3⟩
            have HO3 := Lib.hid ho3
            clear ho3
            go_wp2_with fail
            refine ⟨⟨j + 1, wl ++ [44, 32] ++ txt n t0, by omega, by go_num, by simpa using HO3.out, by rw [HE2.out, HRR.out]; simp⟩, by simp [intOf]; omega⟩
          · obtain rfl : j = 0 := by omega
            have hcell0 : wr.cell? ⟨ab, ao, none⟩ = some (.pointer (some ⟨q, 0, none⟩)) := by simpa using hcell
            clear hcell
            have HE2 := Lib.hid (show X = wl ++ (txt n t0 ++ (R ++ [32, 125])) by rw [HXE.out, HJD.out, if_neg hj0, hR]; simp only [List.append_assoc, List.nil_append])
            clear hR
            have HT2 := Lib.hid (tabs_low HT.out (HBO.out.below H0.out h3))
            go_wp2_with fail
            refine (HBO.out.chain fun d3 h3' => IH _ B b d3 _ q t0 HWK.out HAT.out h3' (by omega) HT2.out h3 (lbx HL.out HE2.out)).mono ?_
            rintro e w3 ⟨rfl, ho3⟩
            have HO3 := Lib.hid ho3
            clear ho3
            go_wp2_with fail
            refine ⟨⟨1, wl ++ txt n t0, by omega, by go_num, by simpa using HO3.out, by rw [HE2.out, HRR.out]; simp⟩, by simp [intOf]; omega⟩
        · obtain rfl : L = j := by omega
          have HE2 := Lib.hid (show X = wl ++ ([32, 125] ++ []) by rw [HXE.out, List.drop_eq_nil_of_le (by rw [HLN.out]; exact Nat.le_refl _)]; simp [jr])
          go_wp2_with fail
          refine (HBO.out.wstr _ (lby rfl HL.out HE2.out) (by omega)).mono ?_
          rintro e w4 ⟨rfl, ho4⟩
          have HO4 := Lib.hid ho4
          clear ho4
          go_wp2_with fail
          (try simp only [Exit.inBlock, Exit.then])
          first | refine bodyPost_ret (results_none rfl _ _ _) rfl ?_ | refine bodyPost_end (results_none rfl _ _ _) rfl ?_
          refine ⟨rfl, ?_⟩
          have := HO4.out
          rw [HE2.out]
          simpa using this
set_option maxRecDepth 100000 in
set_option maxHeartbeats 4000000 in
theorem wriA (n : Nat) (IH : WC 14 n (WT n)) : WC 22 (n + 1) (WA (n + 1)) := by
  intro w B b d l p t hw ha h0 hB hT h3 hlen
  have H0 := Lib.hid h0
  have HT := Lib.hid hT
  have HL := Lib.hid hlen
  clear h0 hT hlen
  cases hw with
  | mk n' nn ts hl hk =>
    obtain ⟨A, c, us, hr, hv, hab, he, hp⟩ := ha.list
    have HR := Lib.hid hr
    have HV := Lib.hid hv
    have HE := Lib.hid he
    have HAB := Lib.hid hab
    have y0 := hr.cell 0
    clear ha hr hv he hab
    have HTX := Lib.hid (show txt (n + 1) (.nd 59 [.l nn ts]) = ([91] ++ (jr (txt n) false ts ++ [93])) from txt_arr n nn ts)
    rw [HTX.out] at HL ⊢
    obtain ⟨X, hX⟩ : ∃ X, X = ([91] ++ (jr (txt n) false ts ++ [93])) := ⟨_, rfl⟩
    rw [← hX] at HL ⊢
    have HX := Lib.hid hX
    clear hX
    obtain ⟨L, hLn⟩ : ∃ L, L = ts.length := ⟨_, rfl⟩
    rw [← hLn] at y0 HV hl HAB HR
    have HLN := Lib.hid hLn
    clear hLn
    go_enter Tryd.func22, Tryd.ntmps22
    go_wp2_with fail
    refine (bbyte _ B b d l 91 91 rfl H0.out (by have := HL.out; rw [HX.out] at this; simp at this; omega) hB).mono ?_
    rintro e w1 ⟨rfl, ho1⟩
    have HO1 := Lib.hid ho1
    have r1 := ho1.row H0.out HR.out (by decide) (by decide)
    have z0 := r1.cell 0
    clear ho1
    go_wp2_with fail
    go_loopw [13] (fun t wr => ∃ (j : Nat) (wl : List UInt8), j ≤ L ∧ t = .int .i64 j ∧ BOut w B b d (l ++ wl) wr ∧ X = wl ++ (jr (txt n) (decide (0 < j)) (ts.drop j) ++ [93])) (fun t _ => L - (intOf t).toNat)
    case atStart =>
      exact ⟨0, [91], Nat.zero_le _, rfl, HO1.out, HX.out⟩
    case round =>
      obtain ⟨j, wl, hj, rfl, hbo, hxe⟩ := hrel
      have HBO := Lib.hid hbo
      have HXE := Lib.hid hxe
      have hszr := hbo.size
      clear hbo hxe
      by_cases hlt : j < L
      · have HVR := Lib.hid (HV.out.bout HAB.out H0.out HBO.out)
        obtain ⟨ab, ao, q, t0, hA, hab1, hcell, ht0, hmem, hat⟩ := kid HVR.out HLN.out.symm (fun i t u hi hu => by obtain ⟨q, h1, h2⟩ := HE.out i t u hi hu; exact ⟨q, h1, h2.bout H0.out HBO.out⟩) hlt
        subst hA
        have HAT := Lib.hid hat
        have HJD := Lib.hid (jr_drop (txt n) ts j t0 ht0)
        have HWK := Lib.hid (hk t0 hmem)
        have HK0 := Lib.hid (show ∀ w2, BOut w B b d (l ++ wl ++ [44, 32]) w2 → At (fun k => k < B) n w2 q t0 from fun w2 h2 => by obtain ⟨b9, o9, q9, t9, e1, _, e2, e3, _, e4⟩ := kid HV.out HLN.out.symm HE.out hlt; cases e1; rw [ht0] at e3; cases e3; have h9 := (HV.out.bout HAB.out H0.out HBO.out); obtain ⟨u9, hu9⟩ : ∃ u9, us[j]? = some u9 := ⟨us[j]'(by rw [HV.out.1]; exact hlt), List.getElem?_eq_getElem _⟩; obtain ⟨b8, o8, e8, _, e7⟩ := h9.2 (by omega); cases e8; have := e7 j u9 hu9; rw [this] at hcell; cases hcell; obtain ⟨q7, e6, e5⟩ := HE.out j _ _ ht0 hu9; cases e6; exact e5.bout H0.out h2)
        clear hat ht0 hmem
        obtain ⟨R, hR⟩ : ∃ R, R = jr (txt n) (decide (0 < j + 1)) (ts.drop (j + 1)) := ⟨_, rfl⟩
        have HRR := Lib.hid hR
        by_cases hj0 : 0 < j
        · have HE2 := Lib.hid (show X = wl ++ ([44, 32] ++ (txt n t0 ++ (R ++ [93]))) by rw [HXE.out, HJD.out, if_pos hj0, hR]; simp only [List.append_assoc])
          clear hR
          go_wp2_with fail
          refine (HBO.out.wstr _ (lby rfl HL.out HE2.out) (by omega)).mono ?_
          rintro e w2 ⟨rfl, ho2⟩
          have HB2 := Lib.hid ho2
          have hs2 := ho2.size
          clear ho2
          have HT2 := Lib.hid (tabs_low HT.out (HB2.out.below H0.out h3))
          obtain ⟨db, dbb, dbc, dbd⟩ := HBO.out
          have HAT2 := Lib.hid (HK0.out w2 HB2.out)
          go_wp2_with fail
          refine (HB2.out.chain fun d3 h3' => IH _ B b d3 _ q t0 HWK.out HAT2.out h3' (by omega) HT2.out h3 (lbx (wl := wl ++ [44, 32]) (Y := R ++ [93]) HL.out (by rw [HE2.out]; simp) |> fun q => by simpa using q)).mono ?_
          rintro e w3 ⟨rfl, ho3⟩
          have HO3 := Lib.hid ho3
          clear ho3
          go_wp2_with fail
          refine ⟨⟨j + 1, wl ++ [44, 32] ++ txt n t0, by omega, by go_num, by simpa using HO3.out, by rw [HE2.out, HRR.out]; simp⟩, by simp [intOf]; omega⟩
        · obtain rfl : j = 0 := by omega
          have hcell0 : wr.cell? ⟨ab, ao, none⟩ = some (.pointer (some ⟨q, 0, none⟩)) := by simpa using hcell
          clear hcell
          have HE2 := Lib.hid (show X = wl ++ (txt n t0 ++ (R ++ [93])) by rw [HXE.out, HJD.out, if_neg hj0, hR]; simp only [List.append_assoc, List.nil_append])
          clear hR
          have HT2 := Lib.hid (tabs_low HT.out (HBO.out.below H0.out h3))
          go_wp2_with fail
          refine (HBO.out.chain fun d3 h3' => IH _ B b d3 _ q t0 HWK.out HAT.out h3' (by omega) HT2.out h3 (lbx HL.out HE2.out)).mono ?_
          rintro e w3 ⟨rfl, ho3⟩
          have HO3 := Lib.hid ho3
          clear ho3
          go_wp2_with fail
          refine ⟨⟨1, wl ++ txt n t0, by omega, by go_num, by simpa using HO3.out, by rw [HE2.out, HRR.out]; simp⟩, by simp [intOf]; omega⟩
      · obtain rfl : L = j := by omega
        have HE2 := Lib.hid (show X = wl ++ ([93] ++ []) by rw [HXE.out, List.drop_eq_nil_of_le (by rw [HLN.out]; exact Nat.le_refl _)]; simp [jr])
        go_wp2_with fail
        refine (HBO.out.wbyte 93 93 rfl (by have := lbx HL.out HE2.out; simp at this ⊢; omega) (by omega)).mono ?_
        rintro e w4 ⟨rfl, ho4⟩
        have HO4 := Lib.hid ho4
        clear ho4
        go_wp2_with fail
        (try simp only [Exit.inBlock, Exit.then])
        first | refine bodyPost_ret (results_none rfl _ _ _) rfl ?_ | refine bodyPost_end (results_none rfl _ _ _) rfl ?_
        refine ⟨rfl, ?_⟩
        have := HO4.out
        rw [HE2.out]
        simpa using this
end Go.Proofs.YtgbkjdndbjaeoaaDoor
