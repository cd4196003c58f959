/-
  The contract of mergeModels (n001_79): the walk.
-/
import Derived.Test.YtdjebcejpachmaaMrg
namespace Go.Proofs.Ytdjebcejpachmaa
set_option linter.unusedVariables false
set_option linter.unusedSimpArgs false
open Go.ChangeShapes Go.WideShapes Go.ChangeAt Go.RowKit M
theorem fk_one (f : Flat) : ∀ u ∈ fk f, u.oneCell' = true := by
  intro u hu
  unfold fk strV at hu
  obtain ⟨s, _, rfl⟩ := List.mem_map.1 hu
  rfl
theorem fv_one (f : Flat) : ∀ u ∈ fv f, u.oneCell' = true := by
  intro u hu
  unfold fv intsV at hu
  obtain ⟨s, _, rfl⟩ := List.mem_map.1 hu
  rfl
theorem below_cellS {w w' : World} {B b o : Nat} {v : Value} (hb : Below B w w') (h : b < B) (hc : w.cell? ⟨b, o, none⟩ = some v) : w'.cell? ⟨b, o, none⟩ = some v := (hb.cell (p := ⟨b, o, none⟩) h).trans hc
theorem flat_get {f : Flat} {l : Nat} {s : ByteArray} {v : Int} (h1 : (f.map Prod.fst)[l]? = some s) (h2 : (f.map Prod.snd)[l]? = some v) : f[l]? = some (s, v) := by
  rw [List.getElem?_map] at h1 h2
  obtain ⟨e, he, rfl⟩ := Option.map_eq_some_iff.1 h1
  rw [he] at h2
  injection h2 with h2
  rw [he, ← h2]
set_option maxRecDepth 100000 in
set_option maxHeartbeats 8000000 in
theorem mergeModelsC (w : World) (n0 n1 : Nat) (v0 v1 v2 v3 v4 u0 u1 u2 u3 u4 : Value) (a b : OML) (hA : MdlV w n0 v0 v1 v2 v3 v4 a) (hB : MdlV w n1 u0 u1 u2 u3 u4 b) (hn0 : n0 ≤ 4096) (hn1 : n1 ≤ 4096) (hna : Nd a) (hnb : Nd b) (sa : Small a 4096) (sb : Small b 4096) :
    Calls Try.prog 16 #[.agg #[v0, v1, v2, v3, v4], .agg #[u0, u1, u2, u3, u4]] w (MrgOut w (mrgF a b n1)) := by
  have HA := Lib.hid hA
  have HB := Lib.hid hB
  have HNA := Lib.hid hna
  have HNB := Lib.hid hnb
  have HSA := Lib.hid sa
  have HSB := Lib.hid sb
  obtain ⟨hlA, A0, ka0, A1, ka1, A2, ka2, A3, ka3, A4, ka4, _, _, rfl, rfl, rfl, rfl, rfl, _⟩ := hA
  obtain ⟨hlB, B0, kb0, B1, kb1, B2, kb2, B3, kb3, B4, kb4, _, _, rfl, rfl, rfl, rfl, rfl, _⟩ := hB
  have HLA := Lib.hid hlA
  have HLB := Lib.hid hlB
  clear hlA hlB hna hnb sa sb
  go_enter Try.func16, Try.ntmps16
  go_wp2_with fail
  go_loopw [6] (fun i wr => ∃ (j n : Nat), j ≤ n0 ∧ i = .int .i64 j ∧ MM w wr (.slice A0 n0 ka0) (.slice A1 n0 ka1) (.slice A2 n0 ka2) (.slice A3 n0 ka3) (.slice A4 n0 ka4) (.slice B0 n1 kb0) (.slice B1 n1 kb1) (.slice B2 n1 kb2) (.slice B3 n1 kb3) (.slice B4 n1 kb4) n (a.take j)) (fun i _ => n0 - (intOf i).toNat)
  case atStart =>
    refine ⟨0, 0, Nat.zero_le _, rfl, Mdl.start (Row.made' 39 nil5 (by simp)) (Nat.le_refl _) (by simp), ?_, ?_, ?_, ?_, by simp⟩
    · exact (Row.made' 39 nil5 (by simp)).alloc _
    · exact (((Row.made w 39 _).alloc _).alloc _).alloc _
    · exact ((Row.made' 39 _ (by simp)).alloc _).alloc _
    · exact ((((Below.refl _ _).alloc (Nat.le_refl _) _).alloc (by simp) _).alloc (by simp; omega) _).alloc (by simp; omega) _
  case round =>
    obtain ⟨j, n, hj, rfl, hmm⟩ := hrel
    have HMM := Lib.hid hmm
    have z0 := hmm.ba.cell 0
    have hlw := hmm.ba.lt
    clear hmm
    by_cases hlt : j < n0
    · obtain ⟨b0, o0, k0, b1, o1, k1, b2, o2, k2, b3, o3, k3, b4, o4, k4, s, e, u, x, q0, q1, q2, q3, q4, hoe, c0', c1', c2', c3', c4', hen, l0', l1', l2', l3', l4'⟩ := HA.out.get hlt
      cases q0
      cases q1
      cases q2
      cases q3
      cases q4
      have hbw := HMM.out.bel
      have hszw := hbw.size
      have c0 : wr.cell? ⟨b0, o0 + j, none⟩ = _ := (hbw.cell (p := ⟨b0, o0 + j, none⟩) l0').trans c0'
      have c1 : wr.cell? ⟨b1, o1 + j, none⟩ = _ := (hbw.cell (p := ⟨b1, o1 + j, none⟩) l1').trans c1'
      have c2 : wr.cell? ⟨b2, o2 + j, none⟩ = _ := (hbw.cell (p := ⟨b2, o2 + j, none⟩) l2').trans c2'
      have c3 : wr.cell? ⟨b3, o3 + j, none⟩ = _ := (hbw.cell (p := ⟨b3, o3 + j, none⟩) l3').trans c3'
      have c4 : wr.cell? ⟨b4, o4 + j, none⟩ = _ := (hbw.cell (p := ⟨b4, o4 + j, none⟩) l4').trans c4'
      have z1 := HMM.out.ba.cell 1
      have z2 := HMM.out.ba.cell 2
      have z3 := HMM.out.ba.cell 3
      have z4 := HMM.out.ba.cell 4
      obtain ⟨⟨au, nu, cu, rfl⟩, ax, nx, cx, rfl⟩ := hen.form
      have HOE := Lib.hid hoe
      have HMD := Lib.hid (HMM.out.keep (w' := wr.drew) (Below.refl _ _).drew)
      have HEN := Lib.hid (hen.old (B := w.heap.size + 3) (H := wr.drew.heap.size) HMD.out.bel (by omega))
      have hnn : n ≤ 100000 := by have := HMM.out.mdl.1; rw [List.length_take] at this; omega
      have hbg := HMM.out.big
      clear hoe hen c0' c1' c2' c3' c4' hbw
      go_wp2_with fail
      go_still_tail 25, (by kernel_rfl)
      go_wp2_with fail
      refine (putC _ (w.heap.size + 3) _ (w.heap.size + 3) n _ s e (entI e) (entB e) au nu cu ax nx cx HMD.out.mdl hnn (by show _ ≤ wr.heap.size; omega) (Nat.le_refl _) rfl rfl HEN.out).mono ?_
      rintro e' w3 hp
      obtain rfl := hp.1
      obtain ⟨n3, h3⟩ := HMD.out.put hp
      rw [take_aset HNA.out HOE.out] at h3
      have HP := Lib.hid h3
      clear hp h3
      go_wp2_with fail
      exact ⟨⟨j + 1, n3, by omega, by go_num, HP.out⟩, by simp [intOf]; omega⟩
    · obtain rfl : j = n0 := by omega
      have HM0 : Hid (MM w wr (.slice A0 j ka0) (.slice A1 j ka1) (.slice A2 j ka2) (.slice A3 j ka3) (.slice A4 j ka4) (.slice B0 n1 kb0) (.slice B1 n1 kb1) (.slice B2 n1 kb2) (.slice B3 n1 kb3) (.slice B4 n1 kb4) n (mrgF a b 0)) := Lib.hid (by have := HMM.out; rwa [List.take_of_length_le (by rw [HLA.out]; exact Nat.le_refl _)] at this)
      clear HMM
      go_wp2_with fail
      clear z0
      go_loopw [7] (fun i wr => ∃ (l m : Nat), l ≤ n1 ∧ i = .int .i64 l ∧ MM w wr (.slice A0 j ka0) (.slice A1 j ka1) (.slice A2 j ka2) (.slice A3 j ka3) (.slice A4 j ka4) (.slice B0 n1 kb0) (.slice B1 n1 kb1) (.slice B2 n1 kb2) (.slice B3 n1 kb3) (.slice B4 n1 kb4) m (mrgF a b l)) (fun i _ => n1 - (intOf i).toNat)
      case atStart => exact ⟨0, n, Nat.zero_le _, rfl, HM0.out⟩
      case round =>
        obtain ⟨l, m, hl, rfl, hmm⟩ := hrel
        have HMM := Lib.hid hmm
        have z0 := hmm.bb.cell 0
        have hbg := hmm.big
        clear hmm HM0
        by_cases hlt : l < n1
        · obtain ⟨b0, o0, k0, b1, o1, k1, b2, o2, k2, b3, o3, k3, b4, o4, k4, s, e, u, x, q0, q1, q2, q3, q4, hoe, c0', c1', c2', c3', c4', hen, l0', l1', l2', l3', l4'⟩ := HB.out.get hlt
          cases q0
          cases q1
          cases q2
          cases q3
          cases q4
          have hbw := HMM.out.bel
          have hszw := hbw.size
          have c0 : wr.cell? ⟨b0, o0 + l, none⟩ = _ := (hbw.cell (p := ⟨b0, o0 + l, none⟩) l0').trans c0'
          have c1 : wr.cell? ⟨b1, o1 + l, none⟩ = _ := (hbw.cell (p := ⟨b1, o1 + l, none⟩) l1').trans c1'
          have c2 : wr.cell? ⟨b2, o2 + l, none⟩ = _ := (hbw.cell (p := ⟨b2, o2 + l, none⟩) l2').trans c2'
          have c3 : wr.cell? ⟨b3, o3 + l, none⟩ = _ := (hbw.cell (p := ⟨b3, o3 + l, none⟩) l3').trans c3'
          have c4 : wr.cell? ⟨b4, o4 + l, none⟩ = _ := (hbw.cell (p := ⟨b4, o4 + l, none⟩) l4').trans c4'
          have z1 := HMM.out.bb.cell 1
          have z2 := HMM.out.bb.cell 2
          have z3 := HMM.out.bb.cell 3
          have z4 := HMM.out.bb.cell 4
          have HOE := Lib.hid hoe
          have HEN := Lib.hid (hen.old (B := w.heap.size + 3) (H := wr.heap.size) hbw (by omega))
          obtain ⟨hml, m0, m1, m2, m3, m4, us, ws, hst, hents, hH⟩ := HMM.out.mdl
          have hmn : m ≤ 100000 := by have := mrgF_len a b l; rw [hml, HLA.out] at this; omega
          have HMN := Lib.hid hml
          obtain ⟨C0, d0, rfl⟩ := own_form hst.o0
          obtain ⟨C1, d1, rfl⟩ := own_form hst.o1
          obtain ⟨C2, d2, rfl⟩ := own_form hst.o2
          obtain ⟨C3, d3, rfl⟩ := own_form hst.o3
          obtain ⟨C4, d4, rfl⟩ := own_form hst.o4
          have y0 := hst.row.cell 0
          have y2 := hst.row.cell 2
          have y3 := hst.row.cell 3
          have y4 := hst.row.cell 4
          have HVW := Lib.hid (show Vw wr C0 m (strV ((mrgF a b l).map Prod.fst)) by obtain ⟨aa, c, h1, h2, _⟩ := own_vw hst.o0; cases h1; exact h2)
          have HMV := Lib.hid (hst.mdlV hml hents)
          have HAG := Lib.hid (show aget (mrgF a b l) s = aget a s by rw [aget_mrgF a b HNB.out, show aget (b.take l) s = none from aget_take_none HNB.out hoe])
          clear hoe hen c0' c1' c2' c3' c4' hbw hml hst hents hH
          by_cases hcond : ∃ f g, aget (mrgF a b l) s = some (.inr f) ∧ e = .inr g
          · obtain ⟨f, g, hag, rfl⟩ := hcond
            cases hp : pos ((mrgF a b l).map Prod.fst) s with
            | none => rw [pos_none_get hp] at hag; cases hag
            | some i =>
              obtain ⟨xe, hx, hag', _⟩ := pos_some hp
              rw [hag] at hag'
              cases hag'
              have him : i < m := by have := (List.getElem?_eq_some_iff.1 hx).1; rw [HMN.out] at this; exact this
              have HP := Lib.hid (show posI ((mrgF a b l).map Prod.fst) s = (i : Int) by unfold posI; rw [hp])
              obtain ⟨p0, r0, t0, p1, r1, t1, p2, r2, t2, p3, r3, t3, p4, r4, t4, s', e', u', x', q0, q1, q2, q3, q4, hoe', c0', c1', c2', c3', c4', hen', r0', r1', r2', r3', r4'⟩ := HMV.out.get him
              cases q0
              cases q1
              cases q2
              cases q3
              cases q4
              rw [hx] at hoe'
              cases hoe'
              have HME := Lib.hid (show mrgEnt (aget (mrgF a b l) s) (.inr g) = .inr (mfl f g g.length) by rw [hag]; rfl)
              have hfl : f.length ≤ 4096 := HSA.out s f (by rw [← HAG.out]; exact hag)
              have hgl : g.length ≤ 4096 := HSB.out s g (aget_of_mem HNB.out (List.mem_of_getElem? HOE.out))
              obtain ⟨nf, gf, cf, gf', cf', hlf, rfl, rfl, vfk, vfi, ⟨_, lgf⟩, _, lgf'⟩ := hen'
              obtain ⟨ng, gg, cg, gg', cg', hlg, rfl, rfl, vgk, vgi, ⟨_, lgg⟩, _, lgg'⟩ := HEN.out
              have hnf : nf ≤ 4096 := by omega
              have hng : ng ≤ 4096 := by omega
              have HLF := Lib.hid hlf
              have HLG := Lib.hid hlg
              have VFK := Lib.hid vfk
              have VFI := Lib.hid vfi
              have VGK := Lib.hid vgk
              have VGI := Lib.hid vgi
              simp only [entB] at c2' c2
              clear hp hx hag hfl hgl hlf hlg vfk vfi vgk vgi
              go_wp2_with fail
              refine (indexC _ (some ⟨p0, r0, none⟩) m d0 ((mrgF a b l).map Prod.fst) s HVW.out (by omega)).mono ?_
              rintro e w' ⟨rfl, rfl⟩
              rw [HP.out]
              go_upto_region 13 with (at_builtin; refine wpList_appN _ rfl (.tmp 78) (.tmp 83) 24 rfl wr.heap.size 9 (.string ByteArray.empty) 16 Try.underlying24 info9 rfl (by decide) wr.heap.size (Row.made wr 9 #[]) (Nat.le_refl _) rfl gf nf cf (fk f) rfl (VFK.out.keep ((Below.refl _ _).alloc (Nat.le_refl _) _)) (fk_one f) (by omega) (by simp) ?_; intro g1 k1 w1 ho1 ht1 hg1; have HO1 := Lib.hid ho1; have HT1 := Lib.hid ht1; clear ho1 ht1 hg1)
              have HB1 := Lib.hid (show Below wr.heap.size wr w1 from ((Below.refl _ _).alloc (Nat.le_refl _) (.cells #[] 9)).trans (HT1.out.below (by simp) (fun k hk e => by omega)))
              have hs1 := HB1.out.size
              have hs1' := HT1.out.size
              simp only [World.size_alloc] at hs1'
              have y4' := below_cellS (b := w.heap.size + 3) (o := 4) HB1.out (by omega) (show wr.cell? _ = some _ by simpa using y4)
              have d4' := below_cellS HB1.out r4' c4'
              have hq1 : w.heap.size + 3 < w1.heap.size := by omega
              have hq2 : p4 < w1.heap.size := by omega
              go_upto_region 14 with (at_builtin; refine wpList_appN _ rfl (.tmp 85) (.tmp 90) 29 rfl wr.heap.size 3 (.int .i64 0) 8 Try.underlying29 info3 rfl (by decide) w1.heap.size (Row.made w1 3 #[]) hs1 rfl gf' nf cf' (fv f) rfl ((VFI.out.keep HB1.out).keep ((Below.refl _ _).alloc (Nat.le_refl _) _)) (fv_one f) (by omega) (by simp; omega) ?_; intro g2 k2 w2 ho2 ht2 hg2; have HO2 := Lib.hid ho2; have HT2 := Lib.hid ht2; clear ho2 ht2 hg2)
              have HB2 := Lib.hid (show Below wr.heap.size wr w2 from HB1.out.trans (((Below.refl _ _).alloc hs1 (.cells #[] 3)).trans (HT2.out.below (by simp; omega) (fun k hk e => by omega))))
              have HOW := Lib.hid (show Own2 w2 wr.heap.size nf g1 k1 g2 k2 f from ⟨HLF.out, own_touch (HO1.out.alloc (.cells #[] 3)) HT2.out (fun k q e => by have h1 := (HO1.out.lt k q).2; omega), HO2.out⟩)
              clear y0 y2 y3 y4 c0' c1' c2' c3' c4' y4' d4'
              have z3' := below_cellS (b := w.heap.size + 1) (o := 3) HB2.out (by omega) (show wr.cell? _ = some _ by simpa using z3)
              have Z3w := Lib.hid (show wr.cell? ⟨w.heap.size + 1, 3, none⟩ = some (.slice (some ⟨b3, o3, none⟩) n1 kb3) from HMM.out.bb.cell 3)
              have C3w := Lib.hid c3
              have C4w := c4
              have c3w := below_cellS HB2.out (show b3 < wr.heap.size by omega) c3
              clear z0 z1 z2 z3 z4 c0 c1 c2 c3 c4
              have Z3 := Lib.hid z3'
              have Z4 := Lib.hid (show wr.cell? ⟨w.heap.size + 1, 4, none⟩ = some (.slice (some ⟨b4, o4, none⟩) n1 kb4) from HMM.out.bb.cell 4)
              have C3 := Lib.hid c3w
              have C4 := Lib.hid C4w
              clear z3' c3w C4w
              go_wp2_with fail
              obtain ⟨wo, rfl⟩ : ∃ wo, wo = wr := ⟨wr, rfl⟩
              go_loopw [10, 11, 12] (fun k v i ws => ∃ (q n' g1 c1 g2 c2 : Nat), q ≤ ng ∧ i = .int .i64 q ∧ k = .slice (some ⟨g1, 0, none⟩) n' c1 ∧ v = .slice (some ⟨g2, 0, none⟩) n' c2 ∧ Own2 ws wo.heap.size n' g1 c1 g2 c2 (mfl f g q) ∧ Below wo.heap.size wo ws) (fun _ _ i _ => ng - (intOf i).toNat)
              case atStart => exact ⟨0, nf, g1, k1, g2, k2, Nat.zero_le _, rfl, rfl, rfl, HOW.out, HB2.out⟩
              case round =>
                obtain ⟨q, n', g3, c3, g4, c4, hq, rfl, rfl, rfl, ho, hb⟩ := hrel
                have HO := Lib.hid ho
                have HB5 := Lib.hid hb
                have hn' : n' ≤ 8192 := by have := mfl_len f g q; rw [ho.len, HLF.out] at this; omega
                have hs5 := hb.size
                have x3 := below_cellS (b := w.heap.size + 1) (o := 3) hb (by omega) Z3w.out
                have x4 := below_cellS (b := w.heap.size + 1) (o := 4) hb (by omega) Z4.out
                have x5 := below_cellS (b := b3) (o := o3 + l) hb (by omega) C3w.out
                have x6 := below_cellS (b := b4) (o := o4 + l) hb (by omega) C4.out
                clear ho hb
                by_cases hlq : q < ng
                · obtain ⟨_, _, sk, e1, hbk, hsk, hck⟩ := (VGK.out.touch (Touch.of_below HB5.out (fun _ => False)) (fun _ _ _ _ q => q)).str hlq
                  obtain ⟨_, _, si, e2, hbi, hsi, hci⟩ := (VGI.out.touch (Touch.of_below HB5.out (fun _ => False)) (fun _ _ _ _ q => q)).int hlq
                  cases e1
                  cases e2
                  simp only [Nat.zero_add] at hck hci
                  have HSK := Lib.hid (flat_get hsk hsi)
                  clear hsk hsi
                  go_wp2_with fail
                  go_region_with (go_at_call 33; refine (setFlatC _ wo.heap.size n' g3 c3 g4 c4 (mfl f g q) sk si (HO.out.keep (Below.refl _ _).drew) (by omega) (by simp only [World.size_drew]; omega)).mono ?_; rintro e w6 ⟨n6, g5, c5, g6, c6, rfl, ho6, hb6⟩; have HO6 := Lib.hid ho6; have HB6 := Lib.hid hb6; clear ho6 hb6)
                  all_goals go_wp2_with fail
                  all_goals exact ⟨⟨q + 1, n6, g5, c5, g6, c6, by omega, by go_num, rfl, rfl, by rw [mfl_step HSK.out]; exact HO6.out, HB5.out.drew.trans HB6.out⟩, by simp [intOf]; omega⟩
                · obtain rfl : q = ng := by omega
                  have HFF := Lib.hid (show Own2 wr wo.heap.size n' g3 c3 g4 c4 (mfl f g g.length) by rw [HLG.out]; exact HO.out)
                  have HMK := Lib.hid (HMM.out.keep HB5.out)
                  have HMDK := Lib.hid (HMM.out.mdl.keep HB5.out)
                  go_wp2_with fail
                  refine (putC _ (w.heap.size + 3) wo.heap.size (w.heap.size + 3) m _ s (.inr (mfl f g g.length)) 0 true (some ⟨g3, 0, none⟩) n' c3 (some ⟨g4, 0, none⟩) n' c4 HMDK.out hmn (by omega) (by omega) rfl rfl (ent_fresh HFF.out)).mono ?_
                  rintro e' w7 hp
                  obtain rfl := hp.1
                  obtain ⟨n7, h7⟩ := HMK.out.put hp
                  rw [← HME.out, ← mrgF_step HOE.out] at h7
                  have HPP := Lib.hid h7
                  clear hp h7
                  go_wp2_with fail
                  exact ⟨⟨l + 1, n7, by omega, by go_num, HPP.out⟩, by simp [intOf]; omega⟩
          · obtain ⟨⟨au, nu, cu, rfl⟩, ax, nx, cx, rfl⟩ := HEN.out.form
            have HME := Lib.hid (show mrgEnt (aget (mrgF a b l) s) e = e by
              unfold mrgEnt
              split
              · rename_i f g h1
                exact (hcond ⟨f, _, h1, rfl⟩).elim
              · rfl)
            have HMD := Lib.hid (HMM.out.keep (w' := wr.drew) (Below.refl _ _).drew)
            have HEND := Lib.hid (show EntIn wr.drew (fun k => w.heap.size + 3 ≤ k ∧ k < wr.drew.heap.size) e (.slice au nu cu) (.slice ax nx cx) from HEN.out.turn (Touch.refl (fun _ => False) wr).drew (fun _ q => q.elim) (fun _ q => .inl q))
            cases hp : pos ((mrgF a b l).map Prod.fst) s with
            | none =>
              have HP := Lib.hid (show posI ((mrgF a b l).map Prod.fst) s = -1 by unfold posI; rw [hp])
              clear hp hcond
              go_wp2_with fail
              refine (indexC _ C0 m d0 ((mrgF a b l).map Prod.fst) s HVW.out (by omega)).mono ?_
              rintro e w' ⟨rfl, rfl⟩
              rw [HP.out]
              go_wp2_with fail
              go_still_tail 21, (by kernel_rfl)
              go_wp2_with fail
              refine (putC _ (w.heap.size + 3) _ (w.heap.size + 3) m _ s _ (entI _) (entB _) au nu cu ax nx cx HMD.out.mdl hmn (by show _ ≤ wr.heap.size; omega) (Nat.le_refl _) rfl rfl HEND.out).mono ?_
              rintro e' w3 hp
              obtain rfl := hp.1
              obtain ⟨n3, h3⟩ := HMD.out.put hp
              rw [← HME.out, ← mrgF_step HOE.out] at h3
              have HPP := Lib.hid h3
              clear hp h3
              go_wp2_with fail
              exact ⟨⟨l + 1, n3, by omega, by go_num, HPP.out⟩, by simp [intOf]; omega⟩
            | some i =>
              obtain ⟨xe, hx, hag, _⟩ := pos_some hp
              have him : i < m := by have := (List.getElem?_eq_some_iff.1 hx).1; rw [HMN.out] at this; exact this
              have HP := Lib.hid (show posI ((mrgF a b l).map Prod.fst) s = (i : Int) by unfold posI; rw [hp])
              obtain ⟨p0, r0, t0, p1, r1, t1, p2, r2, t2, p3, r3, t3, p4, r4, t4, s', e', u', x', q0, q1, q2, q3, q4, hoe', c0', c1', c2', c3', c4', hen', l0', l1', l2', l3', l4'⟩ := HMV.out.get him
              cases q0
              cases q1
              cases q2
              cases q3
              cases q4
              rw [hx] at hoe'
              cases hoe'
              have hfalse : entB xe = false ∨ (entB xe = true ∧ entB e = false) := by
                cases xe with
                | inl _ => exact .inl rfl
                | inr f =>
                  cases e with
                  | inl _ => exact .inr ⟨rfl, rfl⟩
                  | inr g => exact (hcond ⟨f, g, hag, rfl⟩).elim
              clear hp hcond hx hag c0' c1' c3' c4' hen'
              rcases hfalse with hf | ⟨hf, hf2⟩
              · rw [hf] at c2'
                clear hf
                go_wp2_with fail
                refine (indexC _ (some ⟨p0, r0, none⟩) m d0 ((mrgF a b l).map Prod.fst) s HVW.out (by omega)).mono ?_
                rintro e w' ⟨rfl, rfl⟩
                rw [HP.out]
                go_wp2_with fail
                go_still_tail 21, (by kernel_rfl)
                go_wp2_with fail
                refine (putC _ (w.heap.size + 3) _ (w.heap.size + 3) m _ s _ (entI _) (entB _) au nu cu ax nx cx HMD.out.mdl hmn (by show _ ≤ wr.heap.size; omega) (Nat.le_refl _) rfl rfl HEND.out).mono ?_
                rintro e' w3 hp
                obtain rfl := hp.1
                obtain ⟨n3, h3⟩ := HMD.out.put hp
                rw [← HME.out, ← mrgF_step HOE.out] at h3
                have HPP := Lib.hid h3
                clear hp h3
                go_wp2_with fail
                exact ⟨⟨l + 1, n3, by omega, by go_num, HPP.out⟩, by simp [intOf]; omega⟩
              · rw [hf] at c2'
                rw [hf2] at c2
                have HF2 := Lib.hid hf2
                clear hf hf2
                go_wp2_with fail
                refine (indexC _ (some ⟨p0, r0, none⟩) m d0 ((mrgF a b l).map Prod.fst) s HVW.out (by omega)).mono ?_
                rintro e w' ⟨rfl, rfl⟩
                rw [HP.out]
                go_wp2_with fail
                go_still_tail 21, (by kernel_rfl)
                go_wp2_with fail
                refine (putC _ (w.heap.size + 3) _ (w.heap.size + 3) m _ s _ (entI _) false au nu cu ax nx cx HMD.out.mdl hmn (by show _ ≤ wr.heap.size; omega) (Nat.le_refl _) rfl HF2.out.symm HEND.out).mono ?_
                rintro e' w3 hp
                obtain rfl := hp.1
                obtain ⟨n3, h3⟩ := HMD.out.put hp
                rw [← HME.out, ← mrgF_step HOE.out] at h3
                have HPP := Lib.hid h3
                clear hp h3
                go_wp2_with fail
                exact ⟨⟨l + 1, n3, by omega, by go_num, HPP.out⟩, by simp [intOf]; omega⟩
        · obtain rfl : l = n1 := by omega
          obtain ⟨hml, m0, m1, m2, m3, m4, us, ws, hst, hents, hH⟩ := HMM.out.mdl
          obtain ⟨C0, d0, rfl⟩ := own_form hst.o0
          obtain ⟨C1, d1, rfl⟩ := own_form hst.o1
          obtain ⟨C2, d2, rfl⟩ := own_form hst.o2
          obtain ⟨C3, d3, rfl⟩ := own_form hst.o3
          obtain ⟨C4, d4, rfl⟩ := own_form hst.o4
          have y0 := hst.row.cell 0
          have y1 := hst.row.cell 1
          have y2 := hst.row.cell 2
          have y3 := hst.row.cell 3
          have y4 := hst.row.cell 4
          have x0 : wr.cell? ⟨w.heap.size + 2, 0, none⟩ = some (.slice none 0 0) := HMM.out.res.cell 0
          have x1 : wr.cell? ⟨w.heap.size + 2, 1, none⟩ = some (.slice none 0 0) := HMM.out.res.cell 1
          have x2 : wr.cell? ⟨w.heap.size + 2, 2, none⟩ = some (.slice none 0 0) := HMM.out.res.cell 2
          have x3 : wr.cell? ⟨w.heap.size + 2, 3, none⟩ = some (.slice none 0 0) := HMM.out.res.cell 3
          have x4 : wr.cell? ⟨w.heap.size + 2, 4, none⟩ = some (.slice none 0 0) := HMM.out.res.cell 4
          have f0 := HMM.out.res.free 0
          have f1 := HMM.out.res.free 1
          have f2 := HMM.out.res.free 2
          have f3 := HMM.out.res.free 3
          have f4 := HMM.out.res.free 4
          have HST := Lib.hid hst
          have HEN := Lib.hid hents
          have HLL := Lib.hid hml
          clear hst hents hH hml
          go_wp2_with fail
          have ht := touch5 wr (w.heap.size + 2) (.slice C0 m d0) (.slice C1 m d1) (.slice C2 m d2) (.slice C3 m d3) (.slice C4 m d4)
          refine bodyPost_ret (v := .agg #[.slice C0 m d0, .slice C1 m d1, .slice C2 m d2, .slice C3 m d3, .slice C4 m d4]) ?_ rfl ⟨⟨m, _, _, _, _, _, rfl, ?_⟩, ?_⟩
          · exact results_cell_row rfl _ _ (w.heap.size + 2) 39 _ (0, 0) _ rfl (row5 HMM.out.res _ _ _ _ _) Try.underlying39 rfl (by kernel_rfl)
          · exact (HST.out.touch ht (fun k q e => by have := (HST.out.lowD k q).1; omega)).mdlV' HLL.out (HEN.out.store HMM.out.res nil5_slice ht)
          · exact HMM.out.bel.trans (ht.below HMM.out.bel.size (fun k hk e => by omega))
end Go.Proofs.Ytdjebcejpachmaa
