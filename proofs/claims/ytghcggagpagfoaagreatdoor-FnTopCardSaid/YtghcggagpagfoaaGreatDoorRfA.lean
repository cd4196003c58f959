/-
  The law's own printer: objects, patterns, constants, imports (n001_1001). Printed by genRf.py.
-/
import Derived.Test.YtghcggagpagfoaaGreatDoorRfh
namespace Go.Proofs.YtghcggagpagfoaaGreatDoor
set_option linter.unusedVariables false
set_option linter.unusedSimpArgs false
open Go.ChangeShapes Go.WideShapes Go.ChangeAt Go.RowKit M
set_option maxRecDepth 100000 in
set_option maxHeartbeats 8000000 in
theorem rCO (n : Nat) (IHct' : ∀ m, n = m + 1 → RC 48 .ct m) : RC 18 .co (n + 1) := by
 intro w0 w B p v l l' t hw ha hb he hl hlen; obtain ⟨A0, n0, c0, rfl, -⟩ := hb.form; have HB := Lh hb; have HE := Lh he; clear hb he
 cases hw with
 | co xa xts g1 h1 =>
  obtain ⟨hp, v0, hr, f0⟩ := inv_co ha; clear ha; obtain ⟨X0, M0, N0, rfl, hnn0, ls0⟩ := FV.ls .ckv h1 f0; have LS0 := Lh ls0; have len0 := ls0.len
  have bnd0 : N0 ≤ 3 := by have := g1; omega
  clear ls0 f0
  by_cases hz : N0 = 0
  ·
   have hz2 : xts = [] := List.length_eq_zero_iff.1 (len0.trans hz); subst hz hz2; have HR := Lh hr; clear hr len0 hnn0; obtain ⟨l1, hl1⟩ : ∃ x, x = l ++ [123, 125] := ⟨_, rfl⟩
   have ql1 : l.length + 2 ≤ l1.length := by rw [hl1, List.length_append]; exact Nat.le_refl _
   have hX : l' = l1 := by rw [hl]; rw [hl1]; rfl
   rw [hX] at hlen; have HQ := Lh (And.intro hlen ql1); have HLl1 := Lh hl1; rw [hX]; clear hX hlen hl ql1 hl1; have zHR_0 := (HR.out.at hp HB.out.below).cell 0; go_enter Tryz.func18, Tryz.ntmps18; go_wp2_with (at_builtin; refine HB.out.str rfl _ _ rfl (by rfl) (⟨#[123, 125]⟩ : ByteArray) (by rfl) l1 HLl1.out (by have := HQ.out; omega) ?_); intro VA1 vn1 vc1 w1 hb; have HB1 := Lh hb; clear hb; clear zHR_0; have zHR_0 := (HR.out.at hp HB1.out.below).cell 0; go_wp2_with fail; go_ret; exact ⟨_, rfl, HB1.out⟩
  ·
   have HR := Lh hr; clear hr hnn0; have HZ := Lh (show ¬ xts.length = 0 by omega); obtain ⟨l1, hl1⟩ : ∃ x, x = l ++ [123, 32] := ⟨_, rfl⟩
   have ql1 : l.length + 2 ≤ l1.length := by rw [hl1, List.length_append]; exact Nat.le_refl _
   obtain ⟨l2, hl2⟩ : ∃ x, x = itr (fun j t l => pr n t (if j = 0 then l else l ++ [44, 32])) xts 0 l1 := ⟨_, rfl⟩
   have ql2 : l1.length ≤ l2.length := by rw [hl2]; exact itrLe (fun j t l => by have h1 := prLe n t l; have h2 := prLe n t (l ++ [44, 32]); rw [List.length_append] at h2; split <;> omega) _ _ _
   obtain ⟨l3, hl3⟩ : ∃ x, x = l2 ++ [32, 125] := ⟨_, rfl⟩
   have ql3 : l2.length + 2 ≤ l3.length := by rw [hl3, List.length_append]; exact Nat.le_refl _
   have hX : l' = l3 := by rw [hl]; rw [hl3, hl2, hl1]; show (if xts.length = 0 then _ else _) = _; rw [if_neg HZ.out]; (try rfl)
   rw [hX] at hlen; have HQ := Lh (And.intro hlen (And.intro ql1 (And.intro ql2 ql3))); have HLl1 := Lh hl1; have HLl2 := Lh hl2; have HLl3 := Lh hl3; rw [hX]; clear hX hlen hl ql1 ql2 ql3 hl1 hl2 hl3; have zHR_0 := (HR.out.at hp HB.out.below).cell 0; go_enter Tryz.func18, Tryz.ntmps18; go_wp2_with (at_builtin; refine HB.out.str rfl _ _ rfl (by rfl) (⟨#[123, 32]⟩ : ByteArray) (by rfl) l1 HLl1.out (by have := HQ.out; omega) ?_); intro VA1 vn1 vc1 w1 hb; have HB1 := Lh hb; clear hb; clear zHR_0; have zHR_0 := (HR.out.at hp HB1.out.below).cell 0; go_wp2_with fail; go_loopw [0, 22] (fun v t wr => ∃ (j : Nat) (c : L8), j ≤ N0 ∧ t = .int .i64 j ∧ BN B w0 c v wr ∧ l2 = itr (fun j t l => pr n t (if j = 0 then l else l ++ [44, 32])) (xts.drop j) j c) (fun _ t _ => N0 - (intOf t).toNat)
   case atStart =>
    exact ⟨0, l1, Nat.zero_le _, rfl, HB1.out, HLl2.out⟩
   case round =>
    obtain ⟨j, c, hj, rfl, hb, hx⟩ := hrel; obtain ⟨Ac, nc, cc, rfl, -⟩ := hb.form; have HB100 := Lh hb; have HXC := Lh hx; clear hb hx
    by_cases hlt : j < N0
    ·
     obtain ⟨ab, ao, q, t, hA, hcl, hst, hat, hW⟩ := LS0.out.kid HB100.out.below hlt (fun j t l => pr n t (if j = 0 then l else l ++ [44, 32])) c; obtain ⟨y9, hy9⟩ : ∃ y, y = t := ⟨_, rfl⟩; rw [← hy9] at hst; subst hA; have hc := hcl _ HB100.out.below; have HST := Lh hst; have HAT := Lh hat; clear hcl hst hat
     obtain ⟨m, hnm⟩ : ∃ m, n = m + 1 := by cases n with | zero => exact HAT.out.elim | succ m => exact ⟨m, rfl⟩
     have ham := HAT.out; rw [hnm] at ham
     cases hW with
     | ckv xk xks xv e1 e2 =>
      obtain ⟨hpy, u2, hry, p2⟩ := inv_ckv ham; obtain ⟨r22, rfl, a22⟩ := p2; have HRY := Lh hry; have HA22 := Lh a22; clear ham hry a22
      by_cases hj0 : 0 < j
      ·
       by_cases hk : xk.size = 0
       ·
        obtain rfl := isE hk; clear hk; obtain ⟨zHRY_0, zHRY_1, zHRY_2⟩ := (HRY.out.at hpy HB100.out.below).cs3 0 1 2; obtain ⟨c1, hc1⟩ : ∃ x, x = c ++ [44, 32] := ⟨_, rfl⟩
        have qc1 : c.length + 2 ≤ c1.length := by rw [hc1, List.length_append]; exact Nat.le_refl _
        obtain ⟨c2, hc2⟩ : ∃ x, x = c1 ++ quoted xks := ⟨_, rfl⟩
        have qc2 : c1.length ≤ c2.length := by rw [hc2, List.length_append]; omega
        obtain ⟨c3, hc3⟩ : ∃ x, x = c2 ++ [58, 32] := ⟨_, rfl⟩
        have qc3 : c2.length + 2 ≤ c3.length := by rw [hc3, List.length_append]; exact Nat.le_refl _
        obtain ⟨c4, hc4⟩ : ∃ x, x = pr m xv c3 := ⟨_, rfl⟩
        have qc4 : c3.length ≤ c4.length := by rw [hc4]; exact prLe _ _ _
        have hf9 : (fun j t l => pr n t (if j = 0 then l else l ++ [44, 32])) j y9 c = c4 := by rw [hc4, hc3, hc2, hc1]; show pr n y9 (if j = 0 then c else c ++ [44, 32]) = _; rw [if_neg (by omega), hy9, hnm]; (try rfl)
        have hx8 : l2 = itr (fun j t l => pr n t (if j = 0 then l else l ++ [44, 32])) (xts.drop (j + 1)) (j + 1) c4 := by rw [← hf9]; exact HXC.out.trans HST.out
        have q9 : c4.length ≤ l2.length := by rw [hx8]; exact itrLe (fun j t l => by have h1 := prLe n t l; have h2 := prLe n t (l ++ [44, 32]); rw [List.length_append] at h2; split <;> omega) _ _ _
        have HXD := Lh hx8; have HQC := Lh ((And.intro qc1 (And.intro qc2 (And.intro qc3 (And.intro qc4 q9))))); have HLc1 := Lh hc1; have HLc2 := Lh hc2; have HLc3 := Lh hc3; have HLc4 := Lh hc4; clear hf9 hx8 q9 qc1 qc2 qc3 qc4 hc1 hc2 hc3 hc4; go_wp2_with (at_builtin; refine HB100.out.str rfl _ _ rfl (by rfl) (⟨#[44, 32]⟩ : ByteArray) (by rfl) c1 HLc1.out (by have := HQ.out; have := HQC.out; omega) ?_); intro VA101 vn101 vc101 w101 hb; have HB101 := Lh hb; clear hb; clear zHRY_0 zHRY_1 zHRY_2; obtain ⟨zHRY_0, zHRY_1, zHRY_2⟩ := (HRY.out.at hpy HB101.out.below).cs3 0 1 2; go_wp2_with fail; refine (refC w0 _ B _ c1 xks HB101.out HE.out.four HE.out.size HE.out.tabs (by have := e1; omega) (by have := HQ.out; (try have := HQC.out); omega)).mono ?_; rintro e w102 ⟨v9, rfl, hb⟩; rw [← HLc2.out] at hb; obtain ⟨VA102, vn102, vc102, rfl, -⟩ := hb.form; have HB102 := Lh hb; clear hb; clear zHRY_0 zHRY_1 zHRY_2; obtain ⟨zHRY_0, zHRY_1, zHRY_2⟩ := (HRY.out.at hpy HB102.out.below).cs3 0 1 2; go_wp2_with (at_builtin; refine HB102.out.str rfl _ _ rfl (by rfl) (⟨#[58, 32]⟩ : ByteArray) (by rfl) c3 HLc3.out (by have := HQ.out; have := HQC.out; omega) ?_); intro VA103 vn103 vc103 w103 hb; have HB103 := Lh hb; clear hb; clear zHRY_0 zHRY_1 zHRY_2; obtain ⟨zHRY_0, zHRY_1, zHRY_2⟩ := (HRY.out.at hpy HB103.out.below).cs3 0 1 2; go_wp2_with fail; refine ((IHct' m hnm) w0 _ B r22 _ c3 c4 xv e2 HA22.out HB103.out HE.out HLc4.out (by have := HQ.out; have := HQC.out; omega)).mono ?_; rintro e w104 ⟨v9, rfl, hb⟩; obtain ⟨VA104, vn104, vc104, rfl, -⟩ := hb.form; have HB104 := Lh hb; clear hb; clear zHRY_0 zHRY_1 zHRY_2; obtain ⟨zHRY_0, zHRY_1, zHRY_2⟩ := (HRY.out.at hpy HB104.out.below).cs3 0 1 2; go_wp2_with fail; exact ⟨⟨j + 1, c4, by omega, by go_num, HB104.out, HXD.out⟩, by simp [intOf]; omega⟩
       ·
        have hE := isE1 hk; have HK := Lh hk; clear hk; obtain ⟨zHRY_0, zHRY_1, zHRY_2⟩ := (HRY.out.at hpy HB100.out.below).cs3 0 1 2; obtain ⟨c1, hc1⟩ : ∃ x, x = c ++ [44, 32] := ⟨_, rfl⟩
        have qc1 : c.length + 2 ≤ c1.length := by rw [hc1, List.length_append]; exact Nat.le_refl _
        obtain ⟨c2, hc2⟩ : ∃ x, x = c1 ++ xk.data.toList := ⟨_, rfl⟩
        have qc2 : c1.length ≤ c2.length := by rw [hc2, List.length_append]; omega
        obtain ⟨c3, hc3⟩ : ∃ x, x = c2 ++ [58, 32] := ⟨_, rfl⟩
        have qc3 : c2.length + 2 ≤ c3.length := by rw [hc3, List.length_append]; exact Nat.le_refl _
        obtain ⟨c4, hc4⟩ : ∃ x, x = pr m xv c3 := ⟨_, rfl⟩
        have qc4 : c3.length ≤ c4.length := by rw [hc4]; exact prLe _ _ _
        have hf9 : (fun j t l => pr n t (if j = 0 then l else l ++ [44, 32])) j y9 c = c4 := by rw [hc4, hc3, hc2, hc1]; show pr n y9 (if j = 0 then c else c ++ [44, 32]) = _; rw [if_neg (by omega), hy9, hnm]; show pr m xv ((if xk.size = 0 then _ else _) ++ _) = _; rw [if_neg HK.out]
        have hx8 : l2 = itr (fun j t l => pr n t (if j = 0 then l else l ++ [44, 32])) (xts.drop (j + 1)) (j + 1) c4 := by rw [← hf9]; exact HXC.out.trans HST.out
        have q9 : c4.length ≤ l2.length := by rw [hx8]; exact itrLe (fun j t l => by have h1 := prLe n t l; have h2 := prLe n t (l ++ [44, 32]); rw [List.length_append] at h2; split <;> omega) _ _ _
        have HXD := Lh hx8; have HQC := Lh ((And.intro qc1 (And.intro qc2 (And.intro qc3 (And.intro qc4 q9))))); have HLc1 := Lh hc1; have HLc2 := Lh hc2; have HLc3 := Lh hc3; have HLc4 := Lh hc4; clear hf9 hx8 q9 qc1 qc2 qc3 qc4 hc1 hc2 hc3 hc4; go_wp2_with (at_builtin; refine HB100.out.str rfl _ _ rfl (by rfl) (⟨#[44, 32]⟩ : ByteArray) (by rfl) c1 HLc1.out (by have := HQ.out; have := HQC.out; omega) ?_); intro VA101 vn101 vc101 w101 hb; have HB101 := Lh hb; clear hb; clear zHRY_0 zHRY_1 zHRY_2; obtain ⟨zHRY_0, zHRY_1, zHRY_2⟩ := (HRY.out.at hpy HB101.out.below).cs3 0 1 2; go_wp2_with (at_builtin; refine HB101.out.str rfl _ _ rfl (by rfl) xk (by rfl) c2 HLc2.out (by have := HQ.out; have := HQC.out; omega) ?_); intro VA102 vn102 vc102 w102 hb; have HB102 := Lh hb; clear hb; clear zHRY_0 zHRY_1 zHRY_2; obtain ⟨zHRY_0, zHRY_1, zHRY_2⟩ := (HRY.out.at hpy HB102.out.below).cs3 0 1 2; go_wp2_with (at_builtin; refine HB102.out.str rfl _ _ rfl (by rfl) (⟨#[58, 32]⟩ : ByteArray) (by rfl) c3 HLc3.out (by have := HQ.out; have := HQC.out; omega) ?_); intro VA103 vn103 vc103 w103 hb; have HB103 := Lh hb; clear hb; clear zHRY_0 zHRY_1 zHRY_2; obtain ⟨zHRY_0, zHRY_1, zHRY_2⟩ := (HRY.out.at hpy HB103.out.below).cs3 0 1 2; go_wp2_with fail; refine ((IHct' m hnm) w0 _ B r22 _ c3 c4 xv e2 HA22.out HB103.out HE.out HLc4.out (by have := HQ.out; have := HQC.out; omega)).mono ?_
        rintro e w104 ⟨v9, rfl, hb⟩; obtain ⟨VA104, vn104, vc104, rfl, -⟩ := hb.form; have HB104 := Lh hb; clear hb; clear zHRY_0 zHRY_1 zHRY_2; obtain ⟨zHRY_0, zHRY_1, zHRY_2⟩ := (HRY.out.at hpy HB104.out.below).cs3 0 1 2; go_wp2_with fail; exact ⟨⟨j + 1, c4, by omega, by go_num, HB104.out, HXD.out⟩, by simp [intOf]; omega⟩
      ·
       by_cases hk : xk.size = 0
       ·
        obtain rfl := isE hk; clear hk; obtain ⟨zHRY_0, zHRY_1, zHRY_2⟩ := (HRY.out.at hpy HB100.out.below).cs3 0 1 2; obtain ⟨c1, hc1⟩ : ∃ x, x = c ++ quoted xks := ⟨_, rfl⟩
        have qc1 : c.length ≤ c1.length := by rw [hc1, List.length_append]; omega
        obtain ⟨c2, hc2⟩ : ∃ x, x = c1 ++ [58, 32] := ⟨_, rfl⟩
        have qc2 : c1.length + 2 ≤ c2.length := by rw [hc2, List.length_append]; exact Nat.le_refl _
        obtain ⟨c3, hc3⟩ : ∃ x, x = pr m xv c2 := ⟨_, rfl⟩
        have qc3 : c2.length ≤ c3.length := by rw [hc3]; exact prLe _ _ _
        have hf9 : (fun j t l => pr n t (if j = 0 then l else l ++ [44, 32])) j y9 c = c3 := by rw [hc3, hc2, hc1]; show pr n y9 (if j = 0 then c else c ++ [44, 32]) = _; rw [if_pos (by omega), hy9, hnm]; (try rfl)
        have hx8 : l2 = itr (fun j t l => pr n t (if j = 0 then l else l ++ [44, 32])) (xts.drop (j + 1)) (j + 1) c3 := by rw [← hf9]; exact HXC.out.trans HST.out
        have q9 : c3.length ≤ l2.length := by rw [hx8]; exact itrLe (fun j t l => by have h1 := prLe n t l; have h2 := prLe n t (l ++ [44, 32]); rw [List.length_append] at h2; split <;> omega) _ _ _
        have HXD := Lh hx8; have HQC := Lh ((And.intro qc1 (And.intro qc2 (And.intro qc3 q9)))); have HLc1 := Lh hc1; have HLc2 := Lh hc2; have HLc3 := Lh hc3; clear hf9 hx8 q9 qc1 qc2 qc3 hc1 hc2 hc3; go_wp2_with fail; refine (refC w0 _ B _ c xks HB100.out HE.out.four HE.out.size HE.out.tabs (by have := e1; omega) (by have := HQ.out; (try have := HQC.out); omega)).mono ?_; rintro e w101 ⟨v9, rfl, hb⟩; rw [← HLc1.out] at hb; obtain ⟨VA101, vn101, vc101, rfl, -⟩ := hb.form; have HB101 := Lh hb; clear hb; clear zHRY_0 zHRY_1 zHRY_2; obtain ⟨zHRY_0, zHRY_1, zHRY_2⟩ := (HRY.out.at hpy HB101.out.below).cs3 0 1 2; go_wp2_with (at_builtin; refine HB101.out.str rfl _ _ rfl (by rfl) (⟨#[58, 32]⟩ : ByteArray) (by rfl) c2 HLc2.out (by have := HQ.out; have := HQC.out; omega) ?_); intro VA102 vn102 vc102 w102 hb; have HB102 := Lh hb; clear hb; clear zHRY_0 zHRY_1 zHRY_2; obtain ⟨zHRY_0, zHRY_1, zHRY_2⟩ := (HRY.out.at hpy HB102.out.below).cs3 0 1 2; go_wp2_with fail; refine ((IHct' m hnm) w0 _ B r22 _ c2 c3 xv e2 HA22.out HB102.out HE.out HLc3.out (by have := HQ.out; have := HQC.out; omega)).mono ?_; rintro e w103 ⟨v9, rfl, hb⟩; obtain ⟨VA103, vn103, vc103, rfl, -⟩ := hb.form; have HB103 := Lh hb; clear hb; clear zHRY_0 zHRY_1 zHRY_2; obtain ⟨zHRY_0, zHRY_1, zHRY_2⟩ := (HRY.out.at hpy HB103.out.below).cs3 0 1 2; go_wp2_with fail; exact ⟨⟨j + 1, c3, by omega, by go_num, HB103.out, HXD.out⟩, by simp [intOf]; omega⟩
       ·
        have hE := isE1 hk; have HK := Lh hk; clear hk; obtain ⟨zHRY_0, zHRY_1, zHRY_2⟩ := (HRY.out.at hpy HB100.out.below).cs3 0 1 2; obtain ⟨c1, hc1⟩ : ∃ x, x = c ++ xk.data.toList := ⟨_, rfl⟩
        have qc1 : c.length ≤ c1.length := by rw [hc1, List.length_append]; omega
        obtain ⟨c2, hc2⟩ : ∃ x, x = c1 ++ [58, 32] := ⟨_, rfl⟩
        have qc2 : c1.length + 2 ≤ c2.length := by rw [hc2, List.length_append]; exact Nat.le_refl _
        obtain ⟨c3, hc3⟩ : ∃ x, x = pr m xv c2 := ⟨_, rfl⟩
        have qc3 : c2.length ≤ c3.length := by rw [hc3]; exact prLe _ _ _
        have hf9 : (fun j t l => pr n t (if j = 0 then l else l ++ [44, 32])) j y9 c = c3 := by rw [hc3, hc2, hc1]; show pr n y9 (if j = 0 then c else c ++ [44, 32]) = _; rw [if_pos (by omega), hy9, hnm]; show pr m xv ((if xk.size = 0 then _ else _) ++ _) = _; rw [if_neg HK.out]
        have hx8 : l2 = itr (fun j t l => pr n t (if j = 0 then l else l ++ [44, 32])) (xts.drop (j + 1)) (j + 1) c3 := by rw [← hf9]; exact HXC.out.trans HST.out
        have q9 : c3.length ≤ l2.length := by rw [hx8]; exact itrLe (fun j t l => by have h1 := prLe n t l; have h2 := prLe n t (l ++ [44, 32]); rw [List.length_append] at h2; split <;> omega) _ _ _
        have HXD := Lh hx8; have HQC := Lh ((And.intro qc1 (And.intro qc2 (And.intro qc3 q9)))); have HLc1 := Lh hc1; have HLc2 := Lh hc2; have HLc3 := Lh hc3; clear hf9 hx8 q9 qc1 qc2 qc3 hc1 hc2 hc3; go_wp2_with (at_builtin; refine HB100.out.str rfl _ _ rfl (by rfl) xk (by rfl) c1 HLc1.out (by have := HQ.out; have := HQC.out; omega) ?_); intro VA101 vn101 vc101 w101 hb; have HB101 := Lh hb; clear hb; clear zHRY_0 zHRY_1 zHRY_2; obtain ⟨zHRY_0, zHRY_1, zHRY_2⟩ := (HRY.out.at hpy HB101.out.below).cs3 0 1 2; go_wp2_with (at_builtin; refine HB101.out.str rfl _ _ rfl (by rfl) (⟨#[58, 32]⟩ : ByteArray) (by rfl) c2 HLc2.out (by have := HQ.out; have := HQC.out; omega) ?_); intro VA102 vn102 vc102 w102 hb; have HB102 := Lh hb; clear hb; clear zHRY_0 zHRY_1 zHRY_2; obtain ⟨zHRY_0, zHRY_1, zHRY_2⟩ := (HRY.out.at hpy HB102.out.below).cs3 0 1 2; go_wp2_with fail; refine ((IHct' m hnm) w0 _ B r22 _ c2 c3 xv e2 HA22.out HB102.out HE.out HLc3.out (by have := HQ.out; have := HQC.out; omega)).mono ?_; rintro e w103 ⟨v9, rfl, hb⟩; obtain ⟨VA103, vn103, vc103, rfl, -⟩ := hb.form; have HB103 := Lh hb; clear hb; clear zHRY_0 zHRY_1 zHRY_2; obtain ⟨zHRY_0, zHRY_1, zHRY_2⟩ := (HRY.out.at hpy HB103.out.below).cs3 0 1 2; go_wp2_with fail; exact ⟨⟨j + 1, c3, by omega, by go_num, HB103.out, HXD.out⟩, by simp [intOf]; omega⟩
    ·
     obtain rfl : N0 = j := by omega
     have hx9 : l2 = c := HXC.out.trans (LS0.out.fin _ c); have HB2 := Lh (show BN B w0 l2 (.slice Ac nc cc) _ from by rw [hx9]; exact HB100.out); clear hx9; have zHR_0 := (HR.out.at hp HB2.out.below).cell 0; go_wp2_with (at_builtin; refine HB2.out.str rfl _ _ rfl (by rfl) (⟨#[32, 125]⟩ : ByteArray) (by rfl) l3 HLl3.out (by have := HQ.out; omega) ?_); intro VA3 vn3 vc3 w3 hb; have HB3 := Lh hb; clear hb; clear zHR_0; have zHR_0 := (HR.out.at hp HB3.out.below).cell 0; go_wp2_with fail; go_ret; exact ⟨_, rfl, HB3.out⟩
set_option maxRecDepth 100000 in
set_option maxHeartbeats 8000000 in
theorem rOB (n : Nat) (IHq' : ∀ m, n = m + 1 → RC 6 .q m) (IHst' : ∀ m, n = m + 1 → RC 26 .st m) : RC 25 .ob (n + 1) := by
 intro w0 w B p v l l' t hw ha hb he hl hlen; obtain ⟨A0, n0, c0, rfl, -⟩ := hb.form; have HB := Lh hb; have HE := Lh he; clear hb he
 cases hw with
 | ob xa xts g1 h1 =>
  obtain ⟨hp, v0, hr, f0⟩ := inv_ob ha; clear ha; obtain ⟨X0, M0, N0, rfl, hnn0, ls0⟩ := FV.ls .okv h1 f0; have LS0 := Lh ls0; have len0 := ls0.len
  have bnd0 : N0 ≤ 3 := by have := g1; omega
  clear ls0 f0
  by_cases hz : N0 = 0
  ·
   have hz2 : xts = [] := List.length_eq_zero_iff.1 (len0.trans hz); subst hz hz2; have HR := Lh hr; clear hr len0 hnn0; obtain ⟨l1, hl1⟩ : ∃ x, x = l ++ [123, 125] := ⟨_, rfl⟩
   have ql1 : l.length + 2 ≤ l1.length := by rw [hl1, List.length_append]; exact Nat.le_refl _
   have hX : l' = l1 := by rw [hl]; rw [hl1]; rfl
   rw [hX] at hlen; have HQ := Lh (And.intro hlen ql1); have HLl1 := Lh hl1; rw [hX]; clear hX hlen hl ql1 hl1; have zHR_0 := (HR.out.at hp HB.out.below).cell 0; go_enter Tryz.func25, Tryz.ntmps25; go_wp2_with (at_builtin; refine HB.out.str rfl _ _ rfl (by rfl) (⟨#[123, 125]⟩ : ByteArray) (by rfl) l1 HLl1.out (by have := HQ.out; omega) ?_); intro VA1 vn1 vc1 w1 hb; have HB1 := Lh hb; clear hb; clear zHR_0; have zHR_0 := (HR.out.at hp HB1.out.below).cell 0; go_wp2_with fail; go_ret; exact ⟨_, rfl, HB1.out⟩
  ·
   have HR := Lh hr; clear hr hnn0; have HZ := Lh (show ¬ xts.length = 0 by omega); obtain ⟨l1, hl1⟩ : ∃ x, x = l ++ [123, 32] := ⟨_, rfl⟩
   have ql1 : l.length + 2 ≤ l1.length := by rw [hl1, List.length_append]; exact Nat.le_refl _
   obtain ⟨l2, hl2⟩ : ∃ x, x = itr (fun j t l => pr n t (if j = 0 then l else l ++ [44, 32])) xts 0 l1 := ⟨_, rfl⟩
   have ql2 : l1.length ≤ l2.length := by rw [hl2]; exact itrLe (fun j t l => by have h1 := prLe n t l; have h2 := prLe n t (l ++ [44, 32]); rw [List.length_append] at h2; split <;> omega) _ _ _
   obtain ⟨l3, hl3⟩ : ∃ x, x = l2 ++ [32, 125] := ⟨_, rfl⟩
   have ql3 : l2.length + 2 ≤ l3.length := by rw [hl3, List.length_append]; exact Nat.le_refl _
   have hX : l' = l3 := by rw [hl]; rw [hl3, hl2, hl1]; show (if xts.length = 0 then _ else _) = _; rw [if_neg HZ.out]; (try rfl)
   rw [hX] at hlen; have HQ := Lh (And.intro hlen (And.intro ql1 (And.intro ql2 ql3))); have HLl1 := Lh hl1; have HLl2 := Lh hl2; have HLl3 := Lh hl3; rw [hX]; clear hX hlen hl ql1 ql2 ql3 hl1 hl2 hl3; have zHR_0 := (HR.out.at hp HB.out.below).cell 0; go_enter Tryz.func25, Tryz.ntmps25; go_wp2_with (at_builtin; refine HB.out.str rfl _ _ rfl (by rfl) (⟨#[123, 32]⟩ : ByteArray) (by rfl) l1 HLl1.out (by have := HQ.out; omega) ?_); intro VA1 vn1 vc1 w1 hb; have HB1 := Lh hb; clear hb; clear zHR_0; have zHR_0 := (HR.out.at hp HB1.out.below).cell 0; go_wp2_with fail; go_loopw [0, 22] (fun v t wr => ∃ (j : Nat) (c : L8), j ≤ N0 ∧ t = .int .i64 j ∧ BN B w0 c v wr ∧ l2 = itr (fun j t l => pr n t (if j = 0 then l else l ++ [44, 32])) (xts.drop j) j c) (fun _ t _ => N0 - (intOf t).toNat)
   case atStart =>
    exact ⟨0, l1, Nat.zero_le _, rfl, HB1.out, HLl2.out⟩
   case round =>
    obtain ⟨j, c, hj, rfl, hb, hx⟩ := hrel; obtain ⟨Ac, nc, cc, rfl, -⟩ := hb.form; have HB100 := Lh hb; have HXC := Lh hx; clear hb hx
    by_cases hlt : j < N0
    ·
     obtain ⟨ab, ao, q, t, hA, hcl, hst, hat, hW⟩ := LS0.out.kid HB100.out.below hlt (fun j t l => pr n t (if j = 0 then l else l ++ [44, 32])) c; obtain ⟨y9, hy9⟩ : ∃ y, y = t := ⟨_, rfl⟩; rw [← hy9] at hst; subst hA; have hc := hcl _ HB100.out.below; have HST := Lh hst; have HAT := Lh hat; clear hcl hst hat
     obtain ⟨m, hnm⟩ : ∃ m, n = m + 1 := by cases n with | zero => exact HAT.out.elim | succ m => exact ⟨m, rfl⟩
     have ham := HAT.out; rw [hnm] at ham
     cases hW with
     | okv xk xks xkq xv e1 e2 e3 =>
      obtain ⟨hpy, u1, u2, u3, hry, p1, p2, p3⟩ := inv_okv ham; have HRY := Lh hry; clear ham hry
      by_cases hj0 : 0 < j
      ·
       by_cases hk : xk.size = 0
       ·
        obtain rfl := isE hk; clear hk; rcases FV.pt p1 with ⟨rfl, rfl⟩ | ⟨y21, r21, rfl, rfl, a21⟩
        ·
         clear p1; rcases FV.pt p2 with ⟨rfl, rfl⟩ | ⟨y22, r22, rfl, rfl, a22⟩
         ·
          clear p2; rcases FV.pt p3 with ⟨rfl, rfl⟩ | ⟨y23, r23, rfl, rfl, a23⟩
          ·
           clear p3; obtain ⟨zHRY_0, zHRY_1, zHRY_2, zHRY_3⟩ := (HRY.out.at hpy HB100.out.below).cs4 0 1 2 3; obtain ⟨c1, hc1⟩ : ∃ x, x = c ++ [44, 32] := ⟨_, rfl⟩
           have qc1 : c.length + 2 ≤ c1.length := by rw [hc1, List.length_append]; exact Nat.le_refl _
           have hf9 : (fun j t l => pr n t (if j = 0 then l else l ++ [44, 32])) j y9 c = c1 := by rw [hc1]; show pr n y9 (if j = 0 then c else c ++ [44, 32]) = _; rw [if_neg (by omega), hy9, hnm]; (try rfl)
           have hx8 : l2 = itr (fun j t l => pr n t (if j = 0 then l else l ++ [44, 32])) (xts.drop (j + 1)) (j + 1) c1 := by rw [← hf9]; exact HXC.out.trans HST.out
           have q9 : c1.length ≤ l2.length := by rw [hx8]; exact itrLe (fun j t l => by have h1 := prLe n t l; have h2 := prLe n t (l ++ [44, 32]); rw [List.length_append] at h2; split <;> omega) _ _ _
           have HXD := Lh hx8; have HQC := Lh ((And.intro qc1 q9)); have HLc1 := Lh hc1; clear hf9 hx8 q9 qc1 hc1; go_wp2_with (at_builtin; refine HB100.out.str rfl _ _ rfl (by rfl) (⟨#[44, 32]⟩ : ByteArray) (by rfl) c1 HLc1.out (by have := HQ.out; have := HQC.out; omega) ?_); intro VA101 vn101 vc101 w101 hb; have HB101 := Lh hb; clear hb; clear zHRY_0 zHRY_1 zHRY_2 zHRY_3; obtain ⟨zHRY_0, zHRY_1, zHRY_2, zHRY_3⟩ := (HRY.out.at hpy HB101.out.below).cs4 0 1 2 3; go_wp2_with fail; exact ⟨⟨j + 1, c1, by omega, by go_num, HB101.out, HXD.out⟩, by simp [intOf]; omega⟩
          ·
           have HA23 := Lh a23; clear a23; clear p3; obtain ⟨zHRY_0, zHRY_1, zHRY_2, zHRY_3⟩ := (HRY.out.at hpy HB100.out.below).cs4 0 1 2 3; obtain ⟨c1, hc1⟩ : ∃ x, x = c ++ [44, 32] := ⟨_, rfl⟩
           have qc1 : c.length + 2 ≤ c1.length := by rw [hc1, List.length_append]; exact Nat.le_refl _
           obtain ⟨c2, hc2⟩ : ∃ x, x = c1 ++ [58, 32] := ⟨_, rfl⟩
           have qc2 : c1.length + 2 ≤ c2.length := by rw [hc2, List.length_append]; exact Nat.le_refl _
           obtain ⟨c3, hc3⟩ : ∃ x, x = pr m y23 c2 := ⟨_, rfl⟩
           have qc3 : c2.length ≤ c3.length := by rw [hc3]; exact prLe _ _ _
           have hf9 : (fun j t l => pr n t (if j = 0 then l else l ++ [44, 32])) j y9 c = c3 := by rw [hc3, hc2, hc1]; show pr n y9 (if j = 0 then c else c ++ [44, 32]) = _; rw [if_neg (by omega), hy9, hnm]; (try rfl)
           have hx8 : l2 = itr (fun j t l => pr n t (if j = 0 then l else l ++ [44, 32])) (xts.drop (j + 1)) (j + 1) c3 := by rw [← hf9]; exact HXC.out.trans HST.out
           have q9 : c3.length ≤ l2.length := by rw [hx8]; exact itrLe (fun j t l => by have h1 := prLe n t l; have h2 := prLe n t (l ++ [44, 32]); rw [List.length_append] at h2; split <;> omega) _ _ _
           have HXD := Lh hx8; have HQC := Lh ((And.intro qc1 (And.intro qc2 (And.intro qc3 q9)))); have HLc1 := Lh hc1; have HLc2 := Lh hc2; have HLc3 := Lh hc3; clear hf9 hx8 q9 qc1 qc2 qc3 hc1 hc2 hc3; go_wp2_with (at_builtin; refine HB100.out.str rfl _ _ rfl (by rfl) (⟨#[44, 32]⟩ : ByteArray) (by rfl) c1 HLc1.out (by have := HQ.out; have := HQC.out; omega) ?_); intro VA101 vn101 vc101 w101 hb; have HB101 := Lh hb; clear hb; clear zHRY_0 zHRY_1 zHRY_2 zHRY_3; obtain ⟨zHRY_0, zHRY_1, zHRY_2, zHRY_3⟩ := (HRY.out.at hpy HB101.out.below).cs4 0 1 2 3; go_wp2_with (at_builtin; refine HB101.out.str rfl _ _ rfl (by rfl) (⟨#[58, 32]⟩ : ByteArray) (by rfl) c2 HLc2.out (by have := HQ.out; have := HQC.out; omega) ?_); intro VA102 vn102 vc102 w102 hb; have HB102 := Lh hb; clear hb; clear zHRY_0 zHRY_1 zHRY_2 zHRY_3; obtain ⟨zHRY_0, zHRY_1, zHRY_2, zHRY_3⟩ := (HRY.out.at hpy HB102.out.below).cs4 0 1 2 3; go_wp2_with fail; refine ((IHq' m hnm) w0 _ B r23 _ c2 c3 y23 (e3 _ rfl) HA23.out HB102.out HE.out HLc3.out (by have := HQ.out; have := HQC.out; omega)).mono ?_; rintro e w103 ⟨v9, rfl, hb⟩; obtain ⟨VA103, vn103, vc103, rfl, -⟩ := hb.form; have HB103 := Lh hb; clear hb; clear zHRY_0 zHRY_1 zHRY_2 zHRY_3; obtain ⟨zHRY_0, zHRY_1, zHRY_2, zHRY_3⟩ := (HRY.out.at hpy HB103.out.below).cs4 0 1 2 3; go_wp2_with fail; exact ⟨⟨j + 1, c3, by omega, by go_num, HB103.out, HXD.out⟩, by simp [intOf]; omega⟩
         ·
          have HA22 := Lh a22; clear a22; clear p2; rcases FV.pt p3 with ⟨rfl, rfl⟩ | ⟨y23, r23, rfl, rfl, a23⟩
          ·
           clear p3; obtain ⟨zHRY_0, zHRY_1, zHRY_2, zHRY_3⟩ := (HRY.out.at hpy HB100.out.below).cs4 0 1 2 3; obtain ⟨c1, hc1⟩ : ∃ x, x = c ++ [44, 32] := ⟨_, rfl⟩
           have qc1 : c.length + 2 ≤ c1.length := by rw [hc1, List.length_append]; exact Nat.le_refl _
           obtain ⟨c2, hc2⟩ : ∃ x, x = c1 ++ [40] := ⟨_, rfl⟩
           have qc2 : c1.length + 1 ≤ c2.length := by rw [hc2, List.length_append]; exact Nat.le_refl _
           obtain ⟨c3, hc3⟩ : ∃ x, x = pr m y22 c2 := ⟨_, rfl⟩
           have qc3 : c2.length ≤ c3.length := by rw [hc3]; exact prLe _ _ _
           obtain ⟨c4, hc4⟩ : ∃ x, x = c3 ++ [41] := ⟨_, rfl⟩
           have qc4 : c3.length + 1 ≤ c4.length := by rw [hc4, List.length_append]; exact Nat.le_refl _
           have hf9 : (fun j t l => pr n t (if j = 0 then l else l ++ [44, 32])) j y9 c = c4 := by rw [hc4, hc3, hc2, hc1]; show pr n y9 (if j = 0 then c else c ++ [44, 32]) = _; rw [if_neg (by omega), hy9, hnm]; (try rfl)
           have hx8 : l2 = itr (fun j t l => pr n t (if j = 0 then l else l ++ [44, 32])) (xts.drop (j + 1)) (j + 1) c4 := by rw [← hf9]; exact HXC.out.trans HST.out
           have q9 : c4.length ≤ l2.length := by rw [hx8]; exact itrLe (fun j t l => by have h1 := prLe n t l; have h2 := prLe n t (l ++ [44, 32]); rw [List.length_append] at h2; split <;> omega) _ _ _
           have HXD := Lh hx8; have HQC := Lh ((And.intro qc1 (And.intro qc2 (And.intro qc3 (And.intro qc4 q9))))); have HLc1 := Lh hc1; have HLc2 := Lh hc2; have HLc3 := Lh hc3; have HLc4 := Lh hc4; clear hf9 hx8 q9 qc1 qc2 qc3 qc4 hc1 hc2 hc3 hc4; go_wp2_with (at_builtin; refine HB100.out.str rfl _ _ rfl (by rfl) (⟨#[44, 32]⟩ : ByteArray) (by rfl) c1 HLc1.out (by have := HQ.out; have := HQC.out; omega) ?_); intro VA101 vn101 vc101 w101 hb; have HB101 := Lh hb; clear hb; clear zHRY_0 zHRY_1 zHRY_2 zHRY_3; obtain ⟨zHRY_0, zHRY_1, zHRY_2, zHRY_3⟩ := (HRY.out.at hpy HB101.out.below).cs4 0 1 2 3; go_wp2_with (at_builtin; refine HB101.out.byt rfl _ _ rfl (by rfl) 40 _ rfl _ rfl rfl (by rfl) c2 HLc2.out (by have := HQ.out; have := HQC.out; omega) ?_); intro VA102 vn102 vc102 w102 hb; have HB102 := Lh hb; clear hb; clear zHRY_0 zHRY_1 zHRY_2 zHRY_3; obtain ⟨zHRY_0, zHRY_1, zHRY_2, zHRY_3⟩ := (HRY.out.at hpy HB102.out.below).cs4 0 1 2 3; go_wp2_with fail; refine ((IHq' m hnm) w0 _ B r22 _ c2 c3 y22 (e2 _ rfl) HA22.out HB102.out HE.out HLc3.out (by have := HQ.out; have := HQC.out; omega)).mono ?_; rintro e w103 ⟨v9, rfl, hb⟩; obtain ⟨VA103, vn103, vc103, rfl, -⟩ := hb.form; have HB103 := Lh hb; clear hb; clear zHRY_0 zHRY_1 zHRY_2 zHRY_3; obtain ⟨zHRY_0, zHRY_1, zHRY_2, zHRY_3⟩ := (HRY.out.at hpy HB103.out.below).cs4 0 1 2 3; go_wp2_with (at_builtin; refine HB103.out.byt rfl _ _ rfl (by rfl) 41 _ rfl _ rfl rfl (by rfl) c4 HLc4.out (by have := HQ.out; have := HQC.out; omega) ?_); intro VA104 vn104 vc104 w104 hb; have HB104 := Lh hb; clear hb; clear zHRY_0 zHRY_1 zHRY_2 zHRY_3; obtain ⟨zHRY_0, zHRY_1, zHRY_2, zHRY_3⟩ := (HRY.out.at hpy HB104.out.below).cs4 0 1 2 3; go_wp2_with fail; exact ⟨⟨j + 1, c4, by omega, by go_num, HB104.out, HXD.out⟩, by simp [intOf]; omega⟩
          ·
           have HA23 := Lh a23; clear a23; clear p3; obtain ⟨zHRY_0, zHRY_1, zHRY_2, zHRY_3⟩ := (HRY.out.at hpy HB100.out.below).cs4 0 1 2 3; obtain ⟨c1, hc1⟩ : ∃ x, x = c ++ [44, 32] := ⟨_, rfl⟩
           have qc1 : c.length + 2 ≤ c1.length := by rw [hc1, List.length_append]; exact Nat.le_refl _
           obtain ⟨c2, hc2⟩ : ∃ x, x = c1 ++ [40] := ⟨_, rfl⟩
           have qc2 : c1.length + 1 ≤ c2.length := by rw [hc2, List.length_append]; exact Nat.le_refl _
           obtain ⟨c3, hc3⟩ : ∃ x, x = pr m y22 c2 := ⟨_, rfl⟩
           have qc3 : c2.length ≤ c3.length := by rw [hc3]; exact prLe _ _ _
           obtain ⟨c4, hc4⟩ : ∃ x, x = c3 ++ [41] := ⟨_, rfl⟩
           have qc4 : c3.length + 1 ≤ c4.length := by rw [hc4, List.length_append]; exact Nat.le_refl _
           obtain ⟨c5, hc5⟩ : ∃ x, x = c4 ++ [58, 32] := ⟨_, rfl⟩
           have qc5 : c4.length + 2 ≤ c5.length := by rw [hc5, List.length_append]; exact Nat.le_refl _
           obtain ⟨c6, hc6⟩ : ∃ x, x = pr m y23 c5 := ⟨_, rfl⟩
           have qc6 : c5.length ≤ c6.length := by rw [hc6]; exact prLe _ _ _
           have hf9 : (fun j t l => pr n t (if j = 0 then l else l ++ [44, 32])) j y9 c = c6 := by rw [hc6, hc5, hc4, hc3, hc2, hc1]; show pr n y9 (if j = 0 then c else c ++ [44, 32]) = _; rw [if_neg (by omega), hy9, hnm]; (try rfl)
           have hx8 : l2 = itr (fun j t l => pr n t (if j = 0 then l else l ++ [44, 32])) (xts.drop (j + 1)) (j + 1) c6 := by rw [← hf9]; exact HXC.out.trans HST.out
           have q9 : c6.length ≤ l2.length := by rw [hx8]; exact itrLe (fun j t l => by have h1 := prLe n t l; have h2 := prLe n t (l ++ [44, 32]); rw [List.length_append] at h2; split <;> omega) _ _ _
           have HXD := Lh hx8; have HQC := Lh ((And.intro qc1 (And.intro qc2 (And.intro qc3 (And.intro qc4 (And.intro qc5 (And.intro qc6 q9))))))); have HLc1 := Lh hc1; have HLc2 := Lh hc2; have HLc3 := Lh hc3; have HLc4 := Lh hc4; have HLc5 := Lh hc5; have HLc6 := Lh hc6; clear hf9 hx8 q9 qc1 qc2 qc3 qc4 qc5 qc6 hc1 hc2 hc3 hc4 hc5 hc6; go_wp2_with (at_builtin; refine HB100.out.str rfl _ _ rfl (by rfl) (⟨#[44, 32]⟩ : ByteArray) (by rfl) c1 HLc1.out (by have := HQ.out; have := HQC.out; omega) ?_); intro VA101 vn101 vc101 w101 hb; have HB101 := Lh hb; clear hb; clear zHRY_0 zHRY_1 zHRY_2 zHRY_3; obtain ⟨zHRY_0, zHRY_1, zHRY_2, zHRY_3⟩ := (HRY.out.at hpy HB101.out.below).cs4 0 1 2 3; go_wp2_with (at_builtin; refine HB101.out.byt rfl _ _ rfl (by rfl) 40 _ rfl _ rfl rfl (by rfl) c2 HLc2.out (by have := HQ.out; have := HQC.out; omega) ?_); intro VA102 vn102 vc102 w102 hb; have HB102 := Lh hb; clear hb; clear zHRY_0 zHRY_1 zHRY_2 zHRY_3; obtain ⟨zHRY_0, zHRY_1, zHRY_2, zHRY_3⟩ := (HRY.out.at hpy HB102.out.below).cs4 0 1 2 3; go_wp2_with fail; refine ((IHq' m hnm) w0 _ B r22 _ c2 c3 y22 (e2 _ rfl) HA22.out HB102.out HE.out HLc3.out (by have := HQ.out; have := HQC.out; omega)).mono ?_; rintro e w103 ⟨v9, rfl, hb⟩; obtain ⟨VA103, vn103, vc103, rfl, -⟩ := hb.form; have HB103 := Lh hb; clear hb
           clear zHRY_0 zHRY_1 zHRY_2 zHRY_3; obtain ⟨zHRY_0, zHRY_1, zHRY_2, zHRY_3⟩ := (HRY.out.at hpy HB103.out.below).cs4 0 1 2 3; go_wp2_with (at_builtin; refine HB103.out.byt rfl _ _ rfl (by rfl) 41 _ rfl _ rfl rfl (by rfl) c4 HLc4.out (by have := HQ.out; have := HQC.out; omega) ?_); intro VA104 vn104 vc104 w104 hb; have HB104 := Lh hb; clear hb; clear zHRY_0 zHRY_1 zHRY_2 zHRY_3; obtain ⟨zHRY_0, zHRY_1, zHRY_2, zHRY_3⟩ := (HRY.out.at hpy HB104.out.below).cs4 0 1 2 3; go_wp2_with (at_builtin; refine HB104.out.str rfl _ _ rfl (by rfl) (⟨#[58, 32]⟩ : ByteArray) (by rfl) c5 HLc5.out (by have := HQ.out; have := HQC.out; omega) ?_); intro VA105 vn105 vc105 w105 hb; have HB105 := Lh hb; clear hb; clear zHRY_0 zHRY_1 zHRY_2 zHRY_3; obtain ⟨zHRY_0, zHRY_1, zHRY_2, zHRY_3⟩ := (HRY.out.at hpy HB105.out.below).cs4 0 1 2 3; go_wp2_with fail; refine ((IHq' m hnm) w0 _ B r23 _ c5 c6 y23 (e3 _ rfl) HA23.out HB105.out HE.out HLc6.out (by have := HQ.out; have := HQC.out; omega)).mono ?_; rintro e w106 ⟨v9, rfl, hb⟩; obtain ⟨VA106, vn106, vc106, rfl, -⟩ := hb.form; have HB106 := Lh hb; clear hb; clear zHRY_0 zHRY_1 zHRY_2 zHRY_3; obtain ⟨zHRY_0, zHRY_1, zHRY_2, zHRY_3⟩ := (HRY.out.at hpy HB106.out.below).cs4 0 1 2 3; go_wp2_with fail; exact ⟨⟨j + 1, c6, by omega, by go_num, HB106.out, HXD.out⟩, by simp [intOf]; omega⟩
        ·
         have HA21 := Lh a21; clear a21; clear p1; rcases FV.pt p3 with ⟨rfl, rfl⟩ | ⟨y23, r23, rfl, rfl, a23⟩
         ·
          clear p3; obtain ⟨zHRY_0, zHRY_1, zHRY_2, zHRY_3⟩ := (HRY.out.at hpy HB100.out.below).cs4 0 1 2 3; obtain ⟨c1, hc1⟩ : ∃ x, x = c ++ [44, 32] := ⟨_, rfl⟩
          have qc1 : c.length + 2 ≤ c1.length := by rw [hc1, List.length_append]; exact Nat.le_refl _
          obtain ⟨c2, hc2⟩ : ∃ x, x = pr m y21 c1 := ⟨_, rfl⟩
          have qc2 : c1.length ≤ c2.length := by rw [hc2]; exact prLe _ _ _
          have hf9 : (fun j t l => pr n t (if j = 0 then l else l ++ [44, 32])) j y9 c = c2 := by rw [hc2, hc1]; show pr n y9 (if j = 0 then c else c ++ [44, 32]) = _; rw [if_neg (by omega), hy9, hnm]; (try rfl)
          have hx8 : l2 = itr (fun j t l => pr n t (if j = 0 then l else l ++ [44, 32])) (xts.drop (j + 1)) (j + 1) c2 := by rw [← hf9]; exact HXC.out.trans HST.out
          have q9 : c2.length ≤ l2.length := by rw [hx8]; exact itrLe (fun j t l => by have h1 := prLe n t l; have h2 := prLe n t (l ++ [44, 32]); rw [List.length_append] at h2; split <;> omega) _ _ _
          have HXD := Lh hx8; have HQC := Lh ((And.intro qc1 (And.intro qc2 q9))); have HLc1 := Lh hc1; have HLc2 := Lh hc2; clear hf9 hx8 q9 qc1 qc2 hc1 hc2; go_wp2_with (at_builtin; refine HB100.out.str rfl _ _ rfl (by rfl) (⟨#[44, 32]⟩ : ByteArray) (by rfl) c1 HLc1.out (by have := HQ.out; have := HQC.out; omega) ?_); intro VA101 vn101 vc101 w101 hb; have HB101 := Lh hb; clear hb; clear zHRY_0 zHRY_1 zHRY_2 zHRY_3; obtain ⟨zHRY_0, zHRY_1, zHRY_2, zHRY_3⟩ := (HRY.out.at hpy HB101.out.below).cs4 0 1 2 3; go_wp2_with fail; refine ((IHst' m hnm) w0 _ B r21 _ c1 c2 y21 (e1 _ rfl) HA21.out HB101.out HE.out HLc2.out (by have := HQ.out; have := HQC.out; omega)).mono ?_; rintro e w102 ⟨v9, rfl, hb⟩; obtain ⟨VA102, vn102, vc102, rfl, -⟩ := hb.form; have HB102 := Lh hb; clear hb; clear zHRY_0 zHRY_1 zHRY_2 zHRY_3; obtain ⟨zHRY_0, zHRY_1, zHRY_2, zHRY_3⟩ := (HRY.out.at hpy HB102.out.below).cs4 0 1 2 3; go_wp2_with fail; exact ⟨⟨j + 1, c2, by omega, by go_num, HB102.out, HXD.out⟩, by simp [intOf]; omega⟩
         ·
          have HA23 := Lh a23; clear a23; clear p3; obtain ⟨zHRY_0, zHRY_1, zHRY_2, zHRY_3⟩ := (HRY.out.at hpy HB100.out.below).cs4 0 1 2 3; obtain ⟨c1, hc1⟩ : ∃ x, x = c ++ [44, 32] := ⟨_, rfl⟩
          have qc1 : c.length + 2 ≤ c1.length := by rw [hc1, List.length_append]; exact Nat.le_refl _
          obtain ⟨c2, hc2⟩ : ∃ x, x = pr m y21 c1 := ⟨_, rfl⟩
          have qc2 : c1.length ≤ c2.length := by rw [hc2]; exact prLe _ _ _
          obtain ⟨c3, hc3⟩ : ∃ x, x = c2 ++ [58, 32] := ⟨_, rfl⟩
          have qc3 : c2.length + 2 ≤ c3.length := by rw [hc3, List.length_append]; exact Nat.le_refl _
          obtain ⟨c4, hc4⟩ : ∃ x, x = pr m y23 c3 := ⟨_, rfl⟩
          have qc4 : c3.length ≤ c4.length := by rw [hc4]; exact prLe _ _ _
          have hf9 : (fun j t l => pr n t (if j = 0 then l else l ++ [44, 32])) j y9 c = c4 := by rw [hc4, hc3, hc2, hc1]; show pr n y9 (if j = 0 then c else c ++ [44, 32]) = _; rw [if_neg (by omega), hy9, hnm]; (try rfl)
          have hx8 : l2 = itr (fun j t l => pr n t (if j = 0 then l else l ++ [44, 32])) (xts.drop (j + 1)) (j + 1) c4 := by rw [← hf9]; exact HXC.out.trans HST.out
          have q9 : c4.length ≤ l2.length := by rw [hx8]; exact itrLe (fun j t l => by have h1 := prLe n t l; have h2 := prLe n t (l ++ [44, 32]); rw [List.length_append] at h2; split <;> omega) _ _ _
          have HXD := Lh hx8; have HQC := Lh ((And.intro qc1 (And.intro qc2 (And.intro qc3 (And.intro qc4 q9))))); have HLc1 := Lh hc1; have HLc2 := Lh hc2; have HLc3 := Lh hc3; have HLc4 := Lh hc4; clear hf9 hx8 q9 qc1 qc2 qc3 qc4 hc1 hc2 hc3 hc4; go_wp2_with (at_builtin; refine HB100.out.str rfl _ _ rfl (by rfl) (⟨#[44, 32]⟩ : ByteArray) (by rfl) c1 HLc1.out (by have := HQ.out; have := HQC.out; omega) ?_); intro VA101 vn101 vc101 w101 hb; have HB101 := Lh hb; clear hb; clear zHRY_0 zHRY_1 zHRY_2 zHRY_3; obtain ⟨zHRY_0, zHRY_1, zHRY_2, zHRY_3⟩ := (HRY.out.at hpy HB101.out.below).cs4 0 1 2 3; go_wp2_with fail; refine ((IHst' m hnm) w0 _ B r21 _ c1 c2 y21 (e1 _ rfl) HA21.out HB101.out HE.out HLc2.out (by have := HQ.out; have := HQC.out; omega)).mono ?_; rintro e w102 ⟨v9, rfl, hb⟩; obtain ⟨VA102, vn102, vc102, rfl, -⟩ := hb.form; have HB102 := Lh hb; clear hb; clear zHRY_0 zHRY_1 zHRY_2 zHRY_3; obtain ⟨zHRY_0, zHRY_1, zHRY_2, zHRY_3⟩ := (HRY.out.at hpy HB102.out.below).cs4 0 1 2 3; go_wp2_with (at_builtin; refine HB102.out.str rfl _ _ rfl (by rfl) (⟨#[58, 32]⟩ : ByteArray) (by rfl) c3 HLc3.out (by have := HQ.out; have := HQC.out; omega) ?_); intro VA103 vn103 vc103 w103 hb; have HB103 := Lh hb; clear hb; clear zHRY_0 zHRY_1 zHRY_2 zHRY_3; obtain ⟨zHRY_0, zHRY_1, zHRY_2, zHRY_3⟩ := (HRY.out.at hpy HB103.out.below).cs4 0 1 2 3; go_wp2_with fail; refine ((IHq' m hnm) w0 _ B r23 _ c3 c4 y23 (e3 _ rfl) HA23.out HB103.out HE.out HLc4.out (by have := HQ.out; have := HQC.out; omega)).mono ?_; rintro e w104 ⟨v9, rfl, hb⟩; obtain ⟨VA104, vn104, vc104, rfl, -⟩ := hb.form; have HB104 := Lh hb; clear hb; clear zHRY_0 zHRY_1 zHRY_2 zHRY_3; obtain ⟨zHRY_0, zHRY_1, zHRY_2, zHRY_3⟩ := (HRY.out.at hpy HB104.out.below).cs4 0 1 2 3; go_wp2_with fail; exact ⟨⟨j + 1, c4, by omega, by go_num, HB104.out, HXD.out⟩, by simp [intOf]; omega⟩
       ·
        have hE := isE1 hk; have HK := Lh hk; clear hk p1 p2; rcases FV.pt p3 with ⟨rfl, rfl⟩ | ⟨y23, r23, rfl, rfl, a23⟩
        ·
         clear p3; obtain ⟨zHRY_0, zHRY_1, zHRY_2, zHRY_3⟩ := (HRY.out.at hpy HB100.out.below).cs4 0 1 2 3; obtain ⟨c1, hc1⟩ : ∃ x, x = c ++ [44, 32] := ⟨_, rfl⟩
         have qc1 : c.length + 2 ≤ c1.length := by rw [hc1, List.length_append]; exact Nat.le_refl _
         obtain ⟨c2, hc2⟩ : ∃ x, x = c1 ++ xk.data.toList := ⟨_, rfl⟩
         have qc2 : c1.length ≤ c2.length := by rw [hc2, List.length_append]; omega
         have hf9 : (fun j t l => pr n t (if j = 0 then l else l ++ [44, 32])) j y9 c = c2 := by rw [hc2, hc1]; show pr n y9 (if j = 0 then c else c ++ [44, 32]) = _; rw [if_neg (by omega), hy9, hnm, pr_okv, kv_key HK.out]; (try rfl)
         have hx8 : l2 = itr (fun j t l => pr n t (if j = 0 then l else l ++ [44, 32])) (xts.drop (j + 1)) (j + 1) c2 := by rw [← hf9]; exact HXC.out.trans HST.out
         have q9 : c2.length ≤ l2.length := by rw [hx8]; exact itrLe (fun j t l => by have h1 := prLe n t l; have h2 := prLe n t (l ++ [44, 32]); rw [List.length_append] at h2; split <;> omega) _ _ _
         have HXD := Lh hx8; have HQC := Lh ((And.intro qc1 (And.intro qc2 q9))); have HLc1 := Lh hc1; have HLc2 := Lh hc2; clear hf9 hx8 q9 qc1 qc2 hc1 hc2; go_wp2_with (at_builtin; refine HB100.out.str rfl _ _ rfl (by rfl) (⟨#[44, 32]⟩ : ByteArray) (by rfl) c1 HLc1.out (by have := HQ.out; have := HQC.out; omega) ?_); intro VA101 vn101 vc101 w101 hb; have HB101 := Lh hb; clear hb; clear zHRY_0 zHRY_1 zHRY_2 zHRY_3; obtain ⟨zHRY_0, zHRY_1, zHRY_2, zHRY_3⟩ := (HRY.out.at hpy HB101.out.below).cs4 0 1 2 3; go_wp2_with (at_builtin; refine HB101.out.str rfl _ _ rfl (by rfl) xk (by rfl) c2 HLc2.out (by have := HQ.out; have := HQC.out; omega) ?_); intro VA102 vn102 vc102 w102 hb; have HB102 := Lh hb; clear hb; clear zHRY_0 zHRY_1 zHRY_2 zHRY_3; obtain ⟨zHRY_0, zHRY_1, zHRY_2, zHRY_3⟩ := (HRY.out.at hpy HB102.out.below).cs4 0 1 2 3; go_wp2_with fail; exact ⟨⟨j + 1, c2, by omega, by go_num, HB102.out, HXD.out⟩, by simp [intOf]; omega⟩
        ·
         have HA23 := Lh a23; clear a23; clear p3; obtain ⟨zHRY_0, zHRY_1, zHRY_2, zHRY_3⟩ := (HRY.out.at hpy HB100.out.below).cs4 0 1 2 3; obtain ⟨c1, hc1⟩ : ∃ x, x = c ++ [44, 32] := ⟨_, rfl⟩
         have qc1 : c.length + 2 ≤ c1.length := by rw [hc1, List.length_append]; exact Nat.le_refl _
         obtain ⟨c2, hc2⟩ : ∃ x, x = c1 ++ xk.data.toList := ⟨_, rfl⟩
         have qc2 : c1.length ≤ c2.length := by rw [hc2, List.length_append]; omega
         obtain ⟨c3, hc3⟩ : ∃ x, x = c2 ++ [58, 32] := ⟨_, rfl⟩
         have qc3 : c2.length + 2 ≤ c3.length := by rw [hc3, List.length_append]; exact Nat.le_refl _
         obtain ⟨c4, hc4⟩ : ∃ x, x = pr m y23 c3 := ⟨_, rfl⟩
         have qc4 : c3.length ≤ c4.length := by rw [hc4]; exact prLe _ _ _
         have hf9 : (fun j t l => pr n t (if j = 0 then l else l ++ [44, 32])) j y9 c = c4 := by rw [hc4, hc3, hc2, hc1]; show pr n y9 (if j = 0 then c else c ++ [44, 32]) = _; rw [if_neg (by omega), hy9, hnm, pr_okv, kv_key HK.out]; (try rfl)
         have hx8 : l2 = itr (fun j t l => pr n t (if j = 0 then l else l ++ [44, 32])) (xts.drop (j + 1)) (j + 1) c4 := by rw [← hf9]; exact HXC.out.trans HST.out
         have q9 : c4.length ≤ l2.length := by rw [hx8]; exact itrLe (fun j t l => by have h1 := prLe n t l; have h2 := prLe n t (l ++ [44, 32]); rw [List.length_append] at h2; split <;> omega) _ _ _
         have HXD := Lh hx8; have HQC := Lh ((And.intro qc1 (And.intro qc2 (And.intro qc3 (And.intro qc4 q9))))); have HLc1 := Lh hc1; have HLc2 := Lh hc2; have HLc3 := Lh hc3; have HLc4 := Lh hc4; clear hf9 hx8 q9 qc1 qc2 qc3 qc4 hc1 hc2 hc3 hc4; go_wp2_with (at_builtin; refine HB100.out.str rfl _ _ rfl (by rfl) (⟨#[44, 32]⟩ : ByteArray) (by rfl) c1 HLc1.out (by have := HQ.out; have := HQC.out; omega) ?_); intro VA101 vn101 vc101 w101 hb; have HB101 := Lh hb; clear hb; clear zHRY_0 zHRY_1 zHRY_2 zHRY_3; obtain ⟨zHRY_0, zHRY_1, zHRY_2, zHRY_3⟩ := (HRY.out.at hpy HB101.out.below).cs4 0 1 2 3; go_wp2_with (at_builtin; refine HB101.out.str rfl _ _ rfl (by rfl) xk (by rfl) c2 HLc2.out (by have := HQ.out; have := HQC.out; omega) ?_); intro VA102 vn102 vc102 w102 hb; have HB102 := Lh hb; clear hb; clear zHRY_0 zHRY_1 zHRY_2 zHRY_3; obtain ⟨zHRY_0, zHRY_1, zHRY_2, zHRY_3⟩ := (HRY.out.at hpy HB102.out.below).cs4 0 1 2 3; go_wp2_with (at_builtin; refine HB102.out.str rfl _ _ rfl (by rfl) (⟨#[58, 32]⟩ : ByteArray) (by rfl) c3 HLc3.out (by have := HQ.out; have := HQC.out; omega) ?_); intro VA103 vn103 vc103 w103 hb; have HB103 := Lh hb; clear hb; clear zHRY_0 zHRY_1 zHRY_2 zHRY_3; obtain ⟨zHRY_0, zHRY_1, zHRY_2, zHRY_3⟩ := (HRY.out.at hpy HB103.out.below).cs4 0 1 2 3; go_wp2_with fail; refine ((IHq' m hnm) w0 _ B r23 _ c3 c4 y23 (e3 _ rfl) HA23.out HB103.out HE.out HLc4.out (by have := HQ.out; have := HQC.out; omega)).mono ?_; rintro e w104 ⟨v9, rfl, hb⟩; obtain ⟨VA104, vn104, vc104, rfl, -⟩ := hb.form; have HB104 := Lh hb; clear hb; clear zHRY_0 zHRY_1 zHRY_2 zHRY_3; obtain ⟨zHRY_0, zHRY_1, zHRY_2, zHRY_3⟩ := (HRY.out.at hpy HB104.out.below).cs4 0 1 2 3; go_wp2_with fail; exact ⟨⟨j + 1, c4, by omega, by go_num, HB104.out, HXD.out⟩, by simp [intOf]; omega⟩
      ·
       by_cases hk : xk.size = 0
       ·
        obtain rfl := isE hk; clear hk; rcases FV.pt p1 with ⟨rfl, rfl⟩ | ⟨y21, r21, rfl, rfl, a21⟩
        ·
         clear p1; rcases FV.pt p2 with ⟨rfl, rfl⟩ | ⟨y22, r22, rfl, rfl, a22⟩
         ·
          clear p2; rcases FV.pt p3 with ⟨rfl, rfl⟩ | ⟨y23, r23, rfl, rfl, a23⟩
          ·
           clear p3; obtain ⟨zHRY_0, zHRY_1, zHRY_2, zHRY_3⟩ := (HRY.out.at hpy HB100.out.below).cs4 0 1 2 3
           have hf9 : (fun j t l => pr n t (if j = 0 then l else l ++ [44, 32])) j y9 c = c := by rw []; show pr n y9 (if j = 0 then c else c ++ [44, 32]) = _; rw [if_pos (by omega), hy9, hnm]; (try rfl)
           have hx8 : l2 = itr (fun j t l => pr n t (if j = 0 then l else l ++ [44, 32])) (xts.drop (j + 1)) (j + 1) c := by rw [← hf9]; exact HXC.out.trans HST.out
           have q9 : c.length ≤ l2.length := by rw [hx8]; exact itrLe (fun j t l => by have h1 := prLe n t l; have h2 := prLe n t (l ++ [44, 32]); rw [List.length_append] at h2; split <;> omega) _ _ _
           have HXD := Lh hx8; have HQC := Lh (q9); clear hf9 hx8 q9; go_wp2_with fail; exact ⟨⟨j + 1, c, by omega, by go_num, HB100.out, HXD.out⟩, by simp [intOf]; omega⟩
          ·
           have HA23 := Lh a23; clear a23; clear p3; obtain ⟨zHRY_0, zHRY_1, zHRY_2, zHRY_3⟩ := (HRY.out.at hpy HB100.out.below).cs4 0 1 2 3; obtain ⟨c1, hc1⟩ : ∃ x, x = c ++ [58, 32] := ⟨_, rfl⟩
           have qc1 : c.length + 2 ≤ c1.length := by rw [hc1, List.length_append]; exact Nat.le_refl _
           obtain ⟨c2, hc2⟩ : ∃ x, x = pr m y23 c1 := ⟨_, rfl⟩
           have qc2 : c1.length ≤ c2.length := by rw [hc2]; exact prLe _ _ _
           have hf9 : (fun j t l => pr n t (if j = 0 then l else l ++ [44, 32])) j y9 c = c2 := by rw [hc2, hc1]; show pr n y9 (if j = 0 then c else c ++ [44, 32]) = _; rw [if_pos (by omega), hy9, hnm]; (try rfl)
           have hx8 : l2 = itr (fun j t l => pr n t (if j = 0 then l else l ++ [44, 32])) (xts.drop (j + 1)) (j + 1) c2 := by rw [← hf9]; exact HXC.out.trans HST.out
           have q9 : c2.length ≤ l2.length := by rw [hx8]; exact itrLe (fun j t l => by have h1 := prLe n t l; have h2 := prLe n t (l ++ [44, 32]); rw [List.length_append] at h2; split <;> omega) _ _ _
           have HXD := Lh hx8; have HQC := Lh ((And.intro qc1 (And.intro qc2 q9))); have HLc1 := Lh hc1; have HLc2 := Lh hc2; clear hf9 hx8 q9 qc1 qc2 hc1 hc2; go_wp2_with (at_builtin; refine HB100.out.str rfl _ _ rfl (by rfl) (⟨#[58, 32]⟩ : ByteArray) (by rfl) c1 HLc1.out (by have := HQ.out; have := HQC.out; omega) ?_); intro VA101 vn101 vc101 w101 hb; have HB101 := Lh hb; clear hb; clear zHRY_0 zHRY_1 zHRY_2 zHRY_3; obtain ⟨zHRY_0, zHRY_1, zHRY_2, zHRY_3⟩ := (HRY.out.at hpy HB101.out.below).cs4 0 1 2 3; go_wp2_with fail; refine ((IHq' m hnm) w0 _ B r23 _ c1 c2 y23 (e3 _ rfl) HA23.out HB101.out HE.out HLc2.out (by have := HQ.out; have := HQC.out; omega)).mono ?_; rintro e w102 ⟨v9, rfl, hb⟩; obtain ⟨VA102, vn102, vc102, rfl, -⟩ := hb.form; have HB102 := Lh hb; clear hb; clear zHRY_0 zHRY_1 zHRY_2 zHRY_3; obtain ⟨zHRY_0, zHRY_1, zHRY_2, zHRY_3⟩ := (HRY.out.at hpy HB102.out.below).cs4 0 1 2 3; go_wp2_with fail; exact ⟨⟨j + 1, c2, by omega, by go_num, HB102.out, HXD.out⟩, by simp [intOf]; omega⟩
         ·
          have HA22 := Lh a22; clear a22; clear p2; rcases FV.pt p3 with ⟨rfl, rfl⟩ | ⟨y23, r23, rfl, rfl, a23⟩
          ·
           clear p3; obtain ⟨zHRY_0, zHRY_1, zHRY_2, zHRY_3⟩ := (HRY.out.at hpy HB100.out.below).cs4 0 1 2 3; obtain ⟨c1, hc1⟩ : ∃ x, x = c ++ [40] := ⟨_, rfl⟩
           have qc1 : c.length + 1 ≤ c1.length := by rw [hc1, List.length_append]; exact Nat.le_refl _
           obtain ⟨c2, hc2⟩ : ∃ x, x = pr m y22 c1 := ⟨_, rfl⟩
           have qc2 : c1.length ≤ c2.length := by rw [hc2]; exact prLe _ _ _
           obtain ⟨c3, hc3⟩ : ∃ x, x = c2 ++ [41] := ⟨_, rfl⟩
           have qc3 : c2.length + 1 ≤ c3.length := by rw [hc3, List.length_append]; exact Nat.le_refl _
           have hf9 : (fun j t l => pr n t (if j = 0 then l else l ++ [44, 32])) j y9 c = c3 := by rw [hc3, hc2, hc1]; show pr n y9 (if j = 0 then c else c ++ [44, 32]) = _; rw [if_pos (by omega), hy9, hnm]; (try rfl)
           have hx8 : l2 = itr (fun j t l => pr n t (if j = 0 then l else l ++ [44, 32])) (xts.drop (j + 1)) (j + 1) c3 := by rw [← hf9]; exact HXC.out.trans HST.out
           have q9 : c3.length ≤ l2.length := by rw [hx8]; exact itrLe (fun j t l => by have h1 := prLe n t l; have h2 := prLe n t (l ++ [44, 32]); rw [List.length_append] at h2; split <;> omega) _ _ _
           have HXD := Lh hx8; have HQC := Lh ((And.intro qc1 (And.intro qc2 (And.intro qc3 q9)))); have HLc1 := Lh hc1; have HLc2 := Lh hc2; have HLc3 := Lh hc3; clear hf9 hx8 q9 qc1 qc2 qc3 hc1 hc2 hc3; go_wp2_with (at_builtin; refine HB100.out.byt rfl _ _ rfl (by rfl) 40 _ rfl _ rfl rfl (by rfl) c1 HLc1.out (by have := HQ.out; have := HQC.out; omega) ?_); intro VA101 vn101 vc101 w101 hb; have HB101 := Lh hb; clear hb; clear zHRY_0 zHRY_1 zHRY_2 zHRY_3; obtain ⟨zHRY_0, zHRY_1, zHRY_2, zHRY_3⟩ := (HRY.out.at hpy HB101.out.below).cs4 0 1 2 3; go_wp2_with fail; refine ((IHq' m hnm) w0 _ B r22 _ c1 c2 y22 (e2 _ rfl) HA22.out HB101.out HE.out HLc2.out (by have := HQ.out; have := HQC.out; omega)).mono ?_; rintro e w102 ⟨v9, rfl, hb⟩; obtain ⟨VA102, vn102, vc102, rfl, -⟩ := hb.form; have HB102 := Lh hb; clear hb; clear zHRY_0 zHRY_1 zHRY_2 zHRY_3; obtain ⟨zHRY_0, zHRY_1, zHRY_2, zHRY_3⟩ := (HRY.out.at hpy HB102.out.below).cs4 0 1 2 3; go_wp2_with (at_builtin; refine HB102.out.byt rfl _ _ rfl (by rfl) 41 _ rfl _ rfl rfl (by rfl) c3 HLc3.out (by have := HQ.out; have := HQC.out; omega) ?_); intro VA103 vn103 vc103 w103 hb; have HB103 := Lh hb; clear hb; clear zHRY_0 zHRY_1 zHRY_2 zHRY_3; obtain ⟨zHRY_0, zHRY_1, zHRY_2, zHRY_3⟩ := (HRY.out.at hpy HB103.out.below).cs4 0 1 2 3; go_wp2_with fail; exact ⟨⟨j + 1, c3, by omega, by go_num, HB103.out, HXD.out⟩, by simp [intOf]; omega⟩
          ·
           have HA23 := Lh a23; clear a23; clear p3; obtain ⟨zHRY_0, zHRY_1, zHRY_2, zHRY_3⟩ := (HRY.out.at hpy HB100.out.below).cs4 0 1 2 3; obtain ⟨c1, hc1⟩ : ∃ x, x = c ++ [40] := ⟨_, rfl⟩
           have qc1 : c.length + 1 ≤ c1.length := by rw [hc1, List.length_append]; exact Nat.le_refl _
           obtain ⟨c2, hc2⟩ : ∃ x, x = pr m y22 c1 := ⟨_, rfl⟩
           have qc2 : c1.length ≤ c2.length := by rw [hc2]; exact prLe _ _ _
           obtain ⟨c3, hc3⟩ : ∃ x, x = c2 ++ [41] := ⟨_, rfl⟩
           have qc3 : c2.length + 1 ≤ c3.length := by rw [hc3, List.length_append]; exact Nat.le_refl _
           obtain ⟨c4, hc4⟩ : ∃ x, x = c3 ++ [58, 32] := ⟨_, rfl⟩
           have qc4 : c3.length + 2 ≤ c4.length := by rw [hc4, List.length_append]; exact Nat.le_refl _
           obtain ⟨c5, hc5⟩ : ∃ x, x = pr m y23 c4 := ⟨_, rfl⟩
           have qc5 : c4.length ≤ c5.length := by rw [hc5]; exact prLe _ _ _
           have hf9 : (fun j t l => pr n t (if j = 0 then l else l ++ [44, 32])) j y9 c = c5 := by rw [hc5, hc4, hc3, hc2, hc1]; show pr n y9 (if j = 0 then c else c ++ [44, 32]) = _; rw [if_pos (by omega), hy9, hnm]; (try rfl)
           have hx8 : l2 = itr (fun j t l => pr n t (if j = 0 then l else l ++ [44, 32])) (xts.drop (j + 1)) (j + 1) c5 := by rw [← hf9]; exact HXC.out.trans HST.out
           have q9 : c5.length ≤ l2.length := by rw [hx8]; exact itrLe (fun j t l => by have h1 := prLe n t l; have h2 := prLe n t (l ++ [44, 32]); rw [List.length_append] at h2; split <;> omega) _ _ _
           have HXD := Lh hx8; have HQC := Lh ((And.intro qc1 (And.intro qc2 (And.intro qc3 (And.intro qc4 (And.intro qc5 q9)))))); have HLc1 := Lh hc1; have HLc2 := Lh hc2; have HLc3 := Lh hc3; have HLc4 := Lh hc4; have HLc5 := Lh hc5; clear hf9 hx8 q9 qc1 qc2 qc3 qc4 qc5 hc1 hc2 hc3 hc4 hc5; go_wp2_with (at_builtin; refine HB100.out.byt rfl _ _ rfl (by rfl) 40 _ rfl _ rfl rfl (by rfl) c1 HLc1.out (by have := HQ.out; have := HQC.out; omega) ?_); intro VA101 vn101 vc101 w101 hb; have HB101 := Lh hb; clear hb; clear zHRY_0 zHRY_1 zHRY_2 zHRY_3; obtain ⟨zHRY_0, zHRY_1, zHRY_2, zHRY_3⟩ := (HRY.out.at hpy HB101.out.below).cs4 0 1 2 3; go_wp2_with fail; refine ((IHq' m hnm) w0 _ B r22 _ c1 c2 y22 (e2 _ rfl) HA22.out HB101.out HE.out HLc2.out (by have := HQ.out; have := HQC.out; omega)).mono ?_; rintro e w102 ⟨v9, rfl, hb⟩; obtain ⟨VA102, vn102, vc102, rfl, -⟩ := hb.form; have HB102 := Lh hb; clear hb; clear zHRY_0 zHRY_1 zHRY_2 zHRY_3; obtain ⟨zHRY_0, zHRY_1, zHRY_2, zHRY_3⟩ := (HRY.out.at hpy HB102.out.below).cs4 0 1 2 3; go_wp2_with (at_builtin; refine HB102.out.byt rfl _ _ rfl (by rfl) 41 _ rfl _ rfl rfl (by rfl) c3 HLc3.out (by have := HQ.out; have := HQC.out; omega) ?_); intro VA103 vn103 vc103 w103 hb; have HB103 := Lh hb; clear hb; clear zHRY_0 zHRY_1 zHRY_2 zHRY_3; obtain ⟨zHRY_0, zHRY_1, zHRY_2, zHRY_3⟩ := (HRY.out.at hpy HB103.out.below).cs4 0 1 2 3; go_wp2_with (at_builtin; refine HB103.out.str rfl _ _ rfl (by rfl) (⟨#[58, 32]⟩ : ByteArray) (by rfl) c4 HLc4.out (by have := HQ.out; have := HQC.out; omega) ?_); intro VA104 vn104 vc104 w104 hb; have HB104 := Lh hb; clear hb; clear zHRY_0 zHRY_1 zHRY_2 zHRY_3; obtain ⟨zHRY_0, zHRY_1, zHRY_2, zHRY_3⟩ := (HRY.out.at hpy HB104.out.below).cs4 0 1 2 3; go_wp2_with fail; refine ((IHq' m hnm) w0 _ B r23 _ c4 c5 y23 (e3 _ rfl) HA23.out HB104.out HE.out HLc5.out (by have := HQ.out; have := HQC.out; omega)).mono ?_; rintro e w105 ⟨v9, rfl, hb⟩; obtain ⟨VA105, vn105, vc105, rfl, -⟩ := hb.form; have HB105 := Lh hb; clear hb; clear zHRY_0 zHRY_1 zHRY_2 zHRY_3; obtain ⟨zHRY_0, zHRY_1, zHRY_2, zHRY_3⟩ := (HRY.out.at hpy HB105.out.below).cs4 0 1 2 3; go_wp2_with fail; exact ⟨⟨j + 1, c5, by omega, by go_num, HB105.out, HXD.out⟩, by simp [intOf]; omega⟩
        ·
         have HA21 := Lh a21; clear a21; clear p1; rcases FV.pt p3 with ⟨rfl, rfl⟩ | ⟨y23, r23, rfl, rfl, a23⟩
         ·
          clear p3; obtain ⟨zHRY_0, zHRY_1, zHRY_2, zHRY_3⟩ := (HRY.out.at hpy HB100.out.below).cs4 0 1 2 3; obtain ⟨c1, hc1⟩ : ∃ x, x = pr m y21 c := ⟨_, rfl⟩
          have qc1 : c.length ≤ c1.length := by rw [hc1]; exact prLe _ _ _
          have hf9 : (fun j t l => pr n t (if j = 0 then l else l ++ [44, 32])) j y9 c = c1 := by rw [hc1]; show pr n y9 (if j = 0 then c else c ++ [44, 32]) = _; rw [if_pos (by omega), hy9, hnm]; (try rfl)
          have hx8 : l2 = itr (fun j t l => pr n t (if j = 0 then l else l ++ [44, 32])) (xts.drop (j + 1)) (j + 1) c1 := by rw [← hf9]; exact HXC.out.trans HST.out
          have q9 : c1.length ≤ l2.length := by rw [hx8]; exact itrLe (fun j t l => by have h1 := prLe n t l; have h2 := prLe n t (l ++ [44, 32]); rw [List.length_append] at h2; split <;> omega) _ _ _
          have HXD := Lh hx8; have HQC := Lh ((And.intro qc1 q9)); have HLc1 := Lh hc1; clear hf9 hx8 q9 qc1 hc1; go_wp2_with fail; refine ((IHst' m hnm) w0 _ B r21 _ c c1 y21 (e1 _ rfl) HA21.out HB100.out HE.out HLc1.out (by have := HQ.out; have := HQC.out; omega)).mono ?_; rintro e w101 ⟨v9, rfl, hb⟩; obtain ⟨VA101, vn101, vc101, rfl, -⟩ := hb.form; have HB101 := Lh hb; clear hb; clear zHRY_0 zHRY_1 zHRY_2 zHRY_3; obtain ⟨zHRY_0, zHRY_1, zHRY_2, zHRY_3⟩ := (HRY.out.at hpy HB101.out.below).cs4 0 1 2 3; go_wp2_with fail; exact ⟨⟨j + 1, c1, by omega, by go_num, HB101.out, HXD.out⟩, by simp [intOf]; omega⟩
         ·
          have HA23 := Lh a23; clear a23; clear p3; obtain ⟨zHRY_0, zHRY_1, zHRY_2, zHRY_3⟩ := (HRY.out.at hpy HB100.out.below).cs4 0 1 2 3; obtain ⟨c1, hc1⟩ : ∃ x, x = pr m y21 c := ⟨_, rfl⟩
          have qc1 : c.length ≤ c1.length := by rw [hc1]; exact prLe _ _ _
          obtain ⟨c2, hc2⟩ : ∃ x, x = c1 ++ [58, 32] := ⟨_, rfl⟩
          have qc2 : c1.length + 2 ≤ c2.length := by rw [hc2, List.length_append]; exact Nat.le_refl _
          obtain ⟨c3, hc3⟩ : ∃ x, x = pr m y23 c2 := ⟨_, rfl⟩
          have qc3 : c2.length ≤ c3.length := by rw [hc3]; exact prLe _ _ _
          have hf9 : (fun j t l => pr n t (if j = 0 then l else l ++ [44, 32])) j y9 c = c3 := by rw [hc3, hc2, hc1]; show pr n y9 (if j = 0 then c else c ++ [44, 32]) = _; rw [if_pos (by omega), hy9, hnm]; (try rfl)
          have hx8 : l2 = itr (fun j t l => pr n t (if j = 0 then l else l ++ [44, 32])) (xts.drop (j + 1)) (j + 1) c3 := by rw [← hf9]; exact HXC.out.trans HST.out
          have q9 : c3.length ≤ l2.length := by rw [hx8]; exact itrLe (fun j t l => by have h1 := prLe n t l; have h2 := prLe n t (l ++ [44, 32]); rw [List.length_append] at h2; split <;> omega) _ _ _
          have HXD := Lh hx8; have HQC := Lh ((And.intro qc1 (And.intro qc2 (And.intro qc3 q9)))); have HLc1 := Lh hc1; have HLc2 := Lh hc2; have HLc3 := Lh hc3; clear hf9 hx8 q9 qc1 qc2 qc3 hc1 hc2 hc3; go_wp2_with fail; refine ((IHst' m hnm) w0 _ B r21 _ c c1 y21 (e1 _ rfl) HA21.out HB100.out HE.out HLc1.out (by have := HQ.out; have := HQC.out; omega)).mono ?_; rintro e w101 ⟨v9, rfl, hb⟩; obtain ⟨VA101, vn101, vc101, rfl, -⟩ := hb.form; have HB101 := Lh hb; clear hb; clear zHRY_0 zHRY_1 zHRY_2 zHRY_3; obtain ⟨zHRY_0, zHRY_1, zHRY_2, zHRY_3⟩ := (HRY.out.at hpy HB101.out.below).cs4 0 1 2 3; go_wp2_with (at_builtin; refine HB101.out.str rfl _ _ rfl (by rfl) (⟨#[58, 32]⟩ : ByteArray) (by rfl) c2 HLc2.out (by have := HQ.out; have := HQC.out; omega) ?_); intro VA102 vn102 vc102 w102 hb; have HB102 := Lh hb; clear hb; clear zHRY_0 zHRY_1 zHRY_2 zHRY_3; obtain ⟨zHRY_0, zHRY_1, zHRY_2, zHRY_3⟩ := (HRY.out.at hpy HB102.out.below).cs4 0 1 2 3; go_wp2_with fail; refine ((IHq' m hnm) w0 _ B r23 _ c2 c3 y23 (e3 _ rfl) HA23.out HB102.out HE.out HLc3.out (by have := HQ.out; have := HQC.out; omega)).mono ?_; rintro e w103 ⟨v9, rfl, hb⟩; obtain ⟨VA103, vn103, vc103, rfl, -⟩ := hb.form; have HB103 := Lh hb; clear hb; clear zHRY_0 zHRY_1 zHRY_2 zHRY_3; obtain ⟨zHRY_0, zHRY_1, zHRY_2, zHRY_3⟩ := (HRY.out.at hpy HB103.out.below).cs4 0 1 2 3; go_wp2_with fail; exact ⟨⟨j + 1, c3, by omega, by go_num, HB103.out, HXD.out⟩, by simp [intOf]; omega⟩
       ·
        have hE := isE1 hk; have HK := Lh hk; clear hk p1 p2; rcases FV.pt p3 with ⟨rfl, rfl⟩ | ⟨y23, r23, rfl, rfl, a23⟩
        ·
         clear p3; obtain ⟨zHRY_0, zHRY_1, zHRY_2, zHRY_3⟩ := (HRY.out.at hpy HB100.out.below).cs4 0 1 2 3; obtain ⟨c1, hc1⟩ : ∃ x, x = c ++ xk.data.toList := ⟨_, rfl⟩
         have qc1 : c.length ≤ c1.length := by rw [hc1, List.length_append]; omega
         have hf9 : (fun j t l => pr n t (if j = 0 then l else l ++ [44, 32])) j y9 c = c1 := by rw [hc1]; show pr n y9 (if j = 0 then c else c ++ [44, 32]) = _; rw [if_pos (by omega), hy9, hnm, pr_okv, kv_key HK.out]; (try rfl)
         have hx8 : l2 = itr (fun j t l => pr n t (if j = 0 then l else l ++ [44, 32])) (xts.drop (j + 1)) (j + 1) c1 := by rw [← hf9]; exact HXC.out.trans HST.out
         have q9 : c1.length ≤ l2.length := by rw [hx8]; exact itrLe (fun j t l => by have h1 := prLe n t l; have h2 := prLe n t (l ++ [44, 32]); rw [List.length_append] at h2; split <;> omega) _ _ _
         have HXD := Lh hx8; have HQC := Lh ((And.intro qc1 q9)); have HLc1 := Lh hc1; clear hf9 hx8 q9 qc1 hc1; go_wp2_with (at_builtin; refine HB100.out.str rfl _ _ rfl (by rfl) xk (by rfl) c1 HLc1.out (by have := HQ.out; have := HQC.out; omega) ?_); intro VA101 vn101 vc101 w101 hb; have HB101 := Lh hb; clear hb; clear zHRY_0 zHRY_1 zHRY_2 zHRY_3; obtain ⟨zHRY_0, zHRY_1, zHRY_2, zHRY_3⟩ := (HRY.out.at hpy HB101.out.below).cs4 0 1 2 3; go_wp2_with fail; exact ⟨⟨j + 1, c1, by omega, by go_num, HB101.out, HXD.out⟩, by simp [intOf]; omega⟩
        ·
         have HA23 := Lh a23; clear a23; clear p3; obtain ⟨zHRY_0, zHRY_1, zHRY_2, zHRY_3⟩ := (HRY.out.at hpy HB100.out.below).cs4 0 1 2 3; obtain ⟨c1, hc1⟩ : ∃ x, x = c ++ xk.data.toList := ⟨_, rfl⟩
         have qc1 : c.length ≤ c1.length := by rw [hc1, List.length_append]; omega
         obtain ⟨c2, hc2⟩ : ∃ x, x = c1 ++ [58, 32] := ⟨_, rfl⟩
         have qc2 : c1.length + 2 ≤ c2.length := by rw [hc2, List.length_append]; exact Nat.le_refl _
         obtain ⟨c3, hc3⟩ : ∃ x, x = pr m y23 c2 := ⟨_, rfl⟩
         have qc3 : c2.length ≤ c3.length := by rw [hc3]; exact prLe _ _ _
         have hf9 : (fun j t l => pr n t (if j = 0 then l else l ++ [44, 32])) j y9 c = c3 := by rw [hc3, hc2, hc1]; show pr n y9 (if j = 0 then c else c ++ [44, 32]) = _; rw [if_pos (by omega), hy9, hnm, pr_okv, kv_key HK.out]; (try rfl)
         have hx8 : l2 = itr (fun j t l => pr n t (if j = 0 then l else l ++ [44, 32])) (xts.drop (j + 1)) (j + 1) c3 := by rw [← hf9]; exact HXC.out.trans HST.out
         have q9 : c3.length ≤ l2.length := by rw [hx8]; exact itrLe (fun j t l => by have h1 := prLe n t l; have h2 := prLe n t (l ++ [44, 32]); rw [List.length_append] at h2; split <;> omega) _ _ _
         have HXD := Lh hx8; have HQC := Lh ((And.intro qc1 (And.intro qc2 (And.intro qc3 q9)))); have HLc1 := Lh hc1; have HLc2 := Lh hc2; have HLc3 := Lh hc3; clear hf9 hx8 q9 qc1 qc2 qc3 hc1 hc2 hc3; go_wp2_with (at_builtin; refine HB100.out.str rfl _ _ rfl (by rfl) xk (by rfl) c1 HLc1.out (by have := HQ.out; have := HQC.out; omega) ?_); intro VA101 vn101 vc101 w101 hb; have HB101 := Lh hb; clear hb; clear zHRY_0 zHRY_1 zHRY_2 zHRY_3; obtain ⟨zHRY_0, zHRY_1, zHRY_2, zHRY_3⟩ := (HRY.out.at hpy HB101.out.below).cs4 0 1 2 3; go_wp2_with (at_builtin; refine HB101.out.str rfl _ _ rfl (by rfl) (⟨#[58, 32]⟩ : ByteArray) (by rfl) c2 HLc2.out (by have := HQ.out; have := HQC.out; omega) ?_); intro VA102 vn102 vc102 w102 hb; have HB102 := Lh hb; clear hb; clear zHRY_0 zHRY_1 zHRY_2 zHRY_3; obtain ⟨zHRY_0, zHRY_1, zHRY_2, zHRY_3⟩ := (HRY.out.at hpy HB102.out.below).cs4 0 1 2 3; go_wp2_with fail; refine ((IHq' m hnm) w0 _ B r23 _ c2 c3 y23 (e3 _ rfl) HA23.out HB102.out HE.out HLc3.out (by have := HQ.out; have := HQC.out; omega)).mono ?_; rintro e w103 ⟨v9, rfl, hb⟩; obtain ⟨VA103, vn103, vc103, rfl, -⟩ := hb.form; have HB103 := Lh hb; clear hb; clear zHRY_0 zHRY_1 zHRY_2 zHRY_3; obtain ⟨zHRY_0, zHRY_1, zHRY_2, zHRY_3⟩ := (HRY.out.at hpy HB103.out.below).cs4 0 1 2 3; go_wp2_with fail; exact ⟨⟨j + 1, c3, by omega, by go_num, HB103.out, HXD.out⟩, by simp [intOf]; omega⟩
    ·
     obtain rfl : N0 = j := by omega
     have hx9 : l2 = c := HXC.out.trans (LS0.out.fin _ c); have HB2 := Lh (show BN B w0 l2 (.slice Ac nc cc) _ from by rw [hx9]; exact HB100.out); clear hx9; have zHR_0 := (HR.out.at hp HB2.out.below).cell 0; go_wp2_with (at_builtin; refine HB2.out.str rfl _ _ rfl (by rfl) (⟨#[32, 125]⟩ : ByteArray) (by rfl) l3 HLl3.out (by have := HQ.out; omega) ?_); intro VA3 vn3 vc3 w3 hb; have HB3 := Lh hb; clear hb; clear zHR_0; have zHR_0 := (HR.out.at hp HB3.out.below).cell 0; go_wp2_with fail; go_ret; exact ⟨_, rfl, HB3.out⟩
set_option maxRecDepth 100000 in
set_option maxHeartbeats 8000000 in
theorem rPT (n : Nat) (IHpt : RC 21 .pt n) (IHpt' : ∀ m, n = m + 1 → RC 21 .pt m) (IHq' : ∀ m, n = m + 1 → RC 6 .q m) (IHst' : ∀ m, n = m + 1 → RC 26 .st m) : RC 21 .pt (n + 1) := by
 intro w0 w B p v l l' t hw ha hb he hl hlen; obtain ⟨A0, n0, c0, rfl, -⟩ := hb.form; have HB := Lh hb; have HE := Lh he; clear hb he
 cases hw with
 | pt xn xa xb xar xob g1 h1 g2 h2 =>
  obtain ⟨hp, v1, v2, hr, f1, f2⟩ := inv_pt ha; clear ha; obtain ⟨X1, M1, N1, rfl, hnn1, ls1⟩ := FV.ls .pt h1 f1; have LS1 := Lh ls1; have len1 := ls1.len
  have bnd1 : N1 ≤ 3 := by have := g1; omega
  clear ls1 f1; obtain ⟨X2, M2, N2, rfl, hnn2, ls2⟩ := FV.ls .po h2 f2; have LS2 := Lh ls2; have len2 := ls2.len
  have bnd2 : N2 ≤ 3 := by have := g2; omega
  clear ls2 f2
  by_cases hk : xn.size = 0
  ·
   obtain rfl := isE hk; clear hk hnn1 hnn2
   by_cases hz : N1 = 0
   ·
    have hz2 : xar = [] := List.length_eq_zero_iff.1 (len1.trans hz); subst hz hz2
    by_cases hy : N2 = 0
    ·
     have hy2 : xob = [] := List.length_eq_zero_iff.1 (len2.trans hy); subst hy hy2; have HR := Lh hr; clear hr len1 len2
     have hX : l' = l := by rw [hl]; rfl
     rw [hX] at hlen; have HQ := Lh (And.intro hlen trivial); rw [hX]; clear hX hlen hl; obtain ⟨zHR_0, zHR_1, zHR_2⟩ := (HR.out.at hp HB.out.below).cs3 0 1 2; go_enter Tryz.func21, Tryz.ntmps21; go_wp2_with fail; go_ret; exact ⟨_, rfl, HB.out⟩
    ·
     have HR := Lh hr; clear hr; have HZ := Lh (show xob.length ≠ 0 by omega)
     have hy3 : 0 < N2 := by omega
     obtain ⟨l1, hl1⟩ : ∃ x, x = l ++ [123] := ⟨_, rfl⟩
     have ql1 : l.length + 1 ≤ l1.length := by rw [hl1, List.length_append]; exact Nat.le_refl _
     obtain ⟨l2, hl2⟩ : ∃ x, x = itr (fun j t l => pr n t (if j = 0 then l else l ++ [44, 32])) xob 0 l1 := ⟨_, rfl⟩
     have ql2 : l1.length ≤ l2.length := by rw [hl2]; exact itrLe (fun j t l => by have h1 := prLe n t l; have h2 := prLe n t (l ++ [44, 32]); rw [List.length_append] at h2; split <;> omega) _ _ _
     obtain ⟨l3, hl3⟩ : ∃ x, x = l2 ++ [125] := ⟨_, rfl⟩
     have ql3 : l2.length + 1 ≤ l3.length := by rw [hl3, List.length_append]; exact Nat.le_refl _
     have hX : l' = l3 := by rw [hl]; rw [hl3, hl2, hl1]; show (if xob.length ≠ 0 then _ else _) = _; rw [if_pos HZ.out]; (try rfl)
     rw [hX] at hlen; have HQ := Lh (And.intro hlen (And.intro ql1 (And.intro ql2 ql3))); have HLl1 := Lh hl1; have HLl2 := Lh hl2; have HLl3 := Lh hl3; rw [hX]; clear hX hlen hl ql1 ql2 ql3 hl1 hl2 hl3; obtain ⟨zHR_0, zHR_1, zHR_2⟩ := (HR.out.at hp HB.out.below).cs3 0 1 2; go_enter Tryz.func21, Tryz.ntmps21; go_wp2_with (at_builtin; refine HB.out.byt rfl _ _ rfl (by rfl) 123 _ rfl _ rfl rfl (by rfl) l1 HLl1.out (by have := HQ.out; omega) ?_); intro VA1 vn1 vc1 w1 hb; have HB1 := Lh hb; clear hb; clear zHR_0 zHR_1 zHR_2; obtain ⟨zHR_0, zHR_1, zHR_2⟩ := (HR.out.at hp HB1.out.below).cs3 0 1 2; go_wp2_with fail; go_loopw [0, 64] (fun v t wr => ∃ (j : Nat) (c : L8), j ≤ N2 ∧ t = .int .i64 j ∧ BN B w0 c v wr ∧ l2 = itr (fun j t l => pr n t (if j = 0 then l else l ++ [44, 32])) (xob.drop j) j c) (fun _ t _ => N2 - (intOf t).toNat)
     case atStart =>
      exact ⟨0, l1, Nat.zero_le _, rfl, HB1.out, HLl2.out⟩
     case round =>
      obtain ⟨j, c, hj, rfl, hb, hx⟩ := hrel; obtain ⟨Ac, nc, cc, rfl, -⟩ := hb.form; have HB100 := Lh hb; have HXC := Lh hx; clear hb hx
      by_cases hlt : j < N2
      ·
       obtain ⟨ab, ao, q, t, hA, hcl, hst, hat, hW⟩ := LS2.out.kid HB100.out.below hlt (fun j t l => pr n t (if j = 0 then l else l ++ [44, 32])) c; obtain ⟨y9, hy9⟩ : ∃ y, y = t := ⟨_, rfl⟩; rw [← hy9] at hst; subst hA; have hc := hcl _ HB100.out.below; have HST := Lh hst; have HAT := Lh hat; clear hcl hst hat
       obtain ⟨m, hnm⟩ : ∃ m, n = m + 1 := by cases n with | zero => exact HAT.out.elim | succ m => exact ⟨m, rfl⟩
       have ham := HAT.out; rw [hnm] at ham
       cases hW with
       | po xk xks xkq xv e1 e2 e3 =>
        obtain ⟨hpy, u1, u2, u3, hry, p1, p2, p3⟩ := inv_po ham; have HRY := Lh hry; clear ham hry
        by_cases hj0 : 0 < j
        ·
         by_cases hk : xk.size = 0
         ·
          obtain rfl := isE hk; clear hk; rcases FV.pt p1 with ⟨rfl, rfl⟩ | ⟨y21, r21, rfl, rfl, a21⟩
          ·
           clear p1; rcases FV.pt p2 with ⟨rfl, rfl⟩ | ⟨y22, r22, rfl, rfl, a22⟩
           ·
            clear p2; rcases FV.pt p3 with ⟨rfl, rfl⟩ | ⟨y23, r23, rfl, rfl, a23⟩
            ·
             clear p3; obtain ⟨zHRY_0, zHRY_1, zHRY_2, zHRY_3⟩ := (HRY.out.at hpy HB100.out.below).cs4 0 1 2 3; obtain ⟨c1, hc1⟩ : ∃ x, x = c ++ [44, 32] := ⟨_, rfl⟩
             have qc1 : c.length + 2 ≤ c1.length := by rw [hc1, List.length_append]; exact Nat.le_refl _
             have hf9 : (fun j t l => pr n t (if j = 0 then l else l ++ [44, 32])) j y9 c = c1 := by rw [hc1]; show pr n y9 (if j = 0 then c else c ++ [44, 32]) = _; rw [if_neg (by omega), hy9, hnm]; (try rfl)
             have hx8 : l2 = itr (fun j t l => pr n t (if j = 0 then l else l ++ [44, 32])) (xob.drop (j + 1)) (j + 1) c1 := by rw [← hf9]; exact HXC.out.trans HST.out
             have q9 : c1.length ≤ l2.length := by rw [hx8]; exact itrLe (fun j t l => by have h1 := prLe n t l; have h2 := prLe n t (l ++ [44, 32]); rw [List.length_append] at h2; split <;> omega) _ _ _
             have HXD := Lh hx8; have HQC := Lh ((And.intro qc1 q9)); have HLc1 := Lh hc1; clear hf9 hx8 q9 qc1 hc1; go_wp2_with (at_builtin; refine HB100.out.str rfl _ _ rfl (by rfl) (⟨#[44, 32]⟩ : ByteArray) (by rfl) c1 HLc1.out (by have := HQ.out; have := HQC.out; omega) ?_); intro VA101 vn101 vc101 w101 hb; have HB101 := Lh hb; clear hb; clear zHRY_0 zHRY_1 zHRY_2 zHRY_3; obtain ⟨zHRY_0, zHRY_1, zHRY_2, zHRY_3⟩ := (HRY.out.at hpy HB101.out.below).cs4 0 1 2 3; go_wp2_with fail; exact ⟨⟨j + 1, c1, by omega, by go_num, HB101.out, HXD.out⟩, by simp [intOf]; omega⟩
            ·
             have HA23 := Lh a23; clear a23; clear p3; obtain ⟨zHRY_0, zHRY_1, zHRY_2, zHRY_3⟩ := (HRY.out.at hpy HB100.out.below).cs4 0 1 2 3; obtain ⟨c1, hc1⟩ : ∃ x, x = c ++ [44, 32] := ⟨_, rfl⟩
             have qc1 : c.length + 2 ≤ c1.length := by rw [hc1, List.length_append]; exact Nat.le_refl _
             obtain ⟨c2, hc2⟩ : ∃ x, x = c1 ++ [58, 32] := ⟨_, rfl⟩
             have qc2 : c1.length + 2 ≤ c2.length := by rw [hc2, List.length_append]; exact Nat.le_refl _
             obtain ⟨c3, hc3⟩ : ∃ x, x = pr m y23 c2 := ⟨_, rfl⟩
             have qc3 : c2.length ≤ c3.length := by rw [hc3]; exact prLe _ _ _
             have hf9 : (fun j t l => pr n t (if j = 0 then l else l ++ [44, 32])) j y9 c = c3 := by rw [hc3, hc2, hc1]; show pr n y9 (if j = 0 then c else c ++ [44, 32]) = _; rw [if_neg (by omega), hy9, hnm]; (try rfl)
             have hx8 : l2 = itr (fun j t l => pr n t (if j = 0 then l else l ++ [44, 32])) (xob.drop (j + 1)) (j + 1) c3 := by rw [← hf9]; exact HXC.out.trans HST.out
             have q9 : c3.length ≤ l2.length := by rw [hx8]; exact itrLe (fun j t l => by have h1 := prLe n t l; have h2 := prLe n t (l ++ [44, 32]); rw [List.length_append] at h2; split <;> omega) _ _ _
             have HXD := Lh hx8; have HQC := Lh ((And.intro qc1 (And.intro qc2 (And.intro qc3 q9)))); have HLc1 := Lh hc1; have HLc2 := Lh hc2; have HLc3 := Lh hc3; clear hf9 hx8 q9 qc1 qc2 qc3 hc1 hc2 hc3; go_wp2_with (at_builtin; refine HB100.out.str rfl _ _ rfl (by rfl) (⟨#[44, 32]⟩ : ByteArray) (by rfl) c1 HLc1.out (by have := HQ.out; have := HQC.out; omega) ?_); intro VA101 vn101 vc101 w101 hb; have HB101 := Lh hb; clear hb; clear zHRY_0 zHRY_1 zHRY_2 zHRY_3; obtain ⟨zHRY_0, zHRY_1, zHRY_2, zHRY_3⟩ := (HRY.out.at hpy HB101.out.below).cs4 0 1 2 3; go_wp2_with (at_builtin; refine HB101.out.str rfl _ _ rfl (by rfl) (⟨#[58, 32]⟩ : ByteArray) (by rfl) c2 HLc2.out (by have := HQ.out; have := HQC.out; omega) ?_); intro VA102 vn102 vc102 w102 hb; have HB102 := Lh hb; clear hb; clear zHRY_0 zHRY_1 zHRY_2 zHRY_3; obtain ⟨zHRY_0, zHRY_1, zHRY_2, zHRY_3⟩ := (HRY.out.at hpy HB102.out.below).cs4 0 1 2 3; go_wp2_with fail; refine ((IHpt' m hnm) w0 _ B r23 _ c2 c3 y23 (e3 _ rfl) HA23.out HB102.out HE.out HLc3.out (by have := HQ.out; have := HQC.out; omega)).mono ?_; rintro e w103 ⟨v9, rfl, hb⟩; obtain ⟨VA103, vn103, vc103, rfl, -⟩ := hb.form; have HB103 := Lh hb; clear hb; clear zHRY_0 zHRY_1 zHRY_2 zHRY_3; obtain ⟨zHRY_0, zHRY_1, zHRY_2, zHRY_3⟩ := (HRY.out.at hpy HB103.out.below).cs4 0 1 2 3; go_wp2_with fail; exact ⟨⟨j + 1, c3, by omega, by go_num, HB103.out, HXD.out⟩, by simp [intOf]; omega⟩
           ·
            have HA22 := Lh a22; clear a22; clear p2; rcases FV.pt p3 with ⟨rfl, rfl⟩ | ⟨y23, r23, rfl, rfl, a23⟩
            ·
             clear p3; obtain ⟨zHRY_0, zHRY_1, zHRY_2, zHRY_3⟩ := (HRY.out.at hpy HB100.out.below).cs4 0 1 2 3; obtain ⟨c1, hc1⟩ : ∃ x, x = c ++ [44, 32] := ⟨_, rfl⟩
             have qc1 : c.length + 2 ≤ c1.length := by rw [hc1, List.length_append]; exact Nat.le_refl _
             obtain ⟨c2, hc2⟩ : ∃ x, x = c1 ++ [40] := ⟨_, rfl⟩
             have qc2 : c1.length + 1 ≤ c2.length := by rw [hc2, List.length_append]; exact Nat.le_refl _
             obtain ⟨c3, hc3⟩ : ∃ x, x = pr m y22 c2 := ⟨_, rfl⟩
             have qc3 : c2.length ≤ c3.length := by rw [hc3]; exact prLe _ _ _
             obtain ⟨c4, hc4⟩ : ∃ x, x = c3 ++ [41] := ⟨_, rfl⟩
             have qc4 : c3.length + 1 ≤ c4.length := by rw [hc4, List.length_append]; exact Nat.le_refl _
             have hf9 : (fun j t l => pr n t (if j = 0 then l else l ++ [44, 32])) j y9 c = c4 := by rw [hc4, hc3, hc2, hc1]; show pr n y9 (if j = 0 then c else c ++ [44, 32]) = _; rw [if_neg (by omega), hy9, hnm]; (try rfl)
             have hx8 : l2 = itr (fun j t l => pr n t (if j = 0 then l else l ++ [44, 32])) (xob.drop (j + 1)) (j + 1) c4 := by rw [← hf9]; exact HXC.out.trans HST.out
             have q9 : c4.length ≤ l2.length := by rw [hx8]; exact itrLe (fun j t l => by have h1 := prLe n t l; have h2 := prLe n t (l ++ [44, 32]); rw [List.length_append] at h2; split <;> omega) _ _ _
             have HXD := Lh hx8; have HQC := Lh ((And.intro qc1 (And.intro qc2 (And.intro qc3 (And.intro qc4 q9))))); have HLc1 := Lh hc1; have HLc2 := Lh hc2; have HLc3 := Lh hc3; have HLc4 := Lh hc4; clear hf9 hx8 q9 qc1 qc2 qc3 qc4 hc1 hc2 hc3 hc4; go_wp2_with (at_builtin; refine HB100.out.str rfl _ _ rfl (by rfl) (⟨#[44, 32]⟩ : ByteArray) (by rfl) c1 HLc1.out (by have := HQ.out; have := HQC.out; omega) ?_); intro VA101 vn101 vc101 w101 hb; have HB101 := Lh hb; clear hb; clear zHRY_0 zHRY_1 zHRY_2 zHRY_3; obtain ⟨zHRY_0, zHRY_1, zHRY_2, zHRY_3⟩ := (HRY.out.at hpy HB101.out.below).cs4 0 1 2 3; go_wp2_with (at_builtin; refine HB101.out.byt rfl _ _ rfl (by rfl) 40 _ rfl _ rfl rfl (by rfl) c2 HLc2.out (by have := HQ.out; have := HQC.out; omega) ?_); intro VA102 vn102 vc102 w102 hb; have HB102 := Lh hb; clear hb; clear zHRY_0 zHRY_1 zHRY_2 zHRY_3; obtain ⟨zHRY_0, zHRY_1, zHRY_2, zHRY_3⟩ := (HRY.out.at hpy HB102.out.below).cs4 0 1 2 3; go_wp2_with fail; refine ((IHq' m hnm) w0 _ B r22 _ c2 c3 y22 (e2 _ rfl) HA22.out HB102.out HE.out HLc3.out (by have := HQ.out; have := HQC.out; omega)).mono ?_; rintro e w103 ⟨v9, rfl, hb⟩; obtain ⟨VA103, vn103, vc103, rfl, -⟩ := hb.form; have HB103 := Lh hb; clear hb; clear zHRY_0 zHRY_1 zHRY_2 zHRY_3; obtain ⟨zHRY_0, zHRY_1, zHRY_2, zHRY_3⟩ := (HRY.out.at hpy HB103.out.below).cs4 0 1 2 3; go_wp2_with (at_builtin; refine HB103.out.byt rfl _ _ rfl (by rfl) 41 _ rfl _ rfl rfl (by rfl) c4 HLc4.out (by have := HQ.out; have := HQC.out; omega) ?_); intro VA104 vn104 vc104 w104 hb; have HB104 := Lh hb; clear hb; clear zHRY_0 zHRY_1 zHRY_2 zHRY_3; obtain ⟨zHRY_0, zHRY_1, zHRY_2, zHRY_3⟩ := (HRY.out.at hpy HB104.out.below).cs4 0 1 2 3; go_wp2_with fail; exact ⟨⟨j + 1, c4, by omega, by go_num, HB104.out, HXD.out⟩, by simp [intOf]; omega⟩
            ·
             have HA23 := Lh a23; clear a23; clear p3; obtain ⟨zHRY_0, zHRY_1, zHRY_2, zHRY_3⟩ := (HRY.out.at hpy HB100.out.below).cs4 0 1 2 3; obtain ⟨c1, hc1⟩ : ∃ x, x = c ++ [44, 32] := ⟨_, rfl⟩
             have qc1 : c.length + 2 ≤ c1.length := by rw [hc1, List.length_append]; exact Nat.le_refl _
             obtain ⟨c2, hc2⟩ : ∃ x, x = c1 ++ [40] := ⟨_, rfl⟩
             have qc2 : c1.length + 1 ≤ c2.length := by rw [hc2, List.length_append]; exact Nat.le_refl _
             obtain ⟨c3, hc3⟩ : ∃ x, x = pr m y22 c2 := ⟨_, rfl⟩
             have qc3 : c2.length ≤ c3.length := by rw [hc3]; exact prLe _ _ _
             obtain ⟨c4, hc4⟩ : ∃ x, x = c3 ++ [41] := ⟨_, rfl⟩
             have qc4 : c3.length + 1 ≤ c4.length := by rw [hc4, List.length_append]; exact Nat.le_refl _
             obtain ⟨c5, hc5⟩ : ∃ x, x = c4 ++ [58, 32] := ⟨_, rfl⟩
             have qc5 : c4.length + 2 ≤ c5.length := by rw [hc5, List.length_append]; exact Nat.le_refl _
             obtain ⟨c6, hc6⟩ : ∃ x, x = pr m y23 c5 := ⟨_, rfl⟩
             have qc6 : c5.length ≤ c6.length := by rw [hc6]; exact prLe _ _ _
             have hf9 : (fun j t l => pr n t (if j = 0 then l else l ++ [44, 32])) j y9 c = c6 := by rw [hc6, hc5, hc4, hc3, hc2, hc1]; show pr n y9 (if j = 0 then c else c ++ [44, 32]) = _; rw [if_neg (by omega), hy9, hnm]; (try rfl)
             have hx8 : l2 = itr (fun j t l => pr n t (if j = 0 then l else l ++ [44, 32])) (xob.drop (j + 1)) (j + 1) c6 := by rw [← hf9]; exact HXC.out.trans HST.out
             have q9 : c6.length ≤ l2.length := by rw [hx8]; exact itrLe (fun j t l => by have h1 := prLe n t l; have h2 := prLe n t (l ++ [44, 32]); rw [List.length_append] at h2; split <;> omega) _ _ _
             have HXD := Lh hx8; have HQC := Lh ((And.intro qc1 (And.intro qc2 (And.intro qc3 (And.intro qc4 (And.intro qc5 (And.intro qc6 q9))))))); have HLc1 := Lh hc1; have HLc2 := Lh hc2; have HLc3 := Lh hc3; have HLc4 := Lh hc4; have HLc5 := Lh hc5; have HLc6 := Lh hc6; clear hf9 hx8 q9 qc1 qc2 qc3 qc4 qc5 qc6 hc1 hc2 hc3 hc4 hc5 hc6; go_wp2_with (at_builtin; refine HB100.out.str rfl _ _ rfl (by rfl) (⟨#[44, 32]⟩ : ByteArray) (by rfl) c1 HLc1.out (by have := HQ.out; have := HQC.out; omega) ?_); intro VA101 vn101 vc101 w101 hb; have HB101 := Lh hb; clear hb; clear zHRY_0 zHRY_1 zHRY_2 zHRY_3; obtain ⟨zHRY_0, zHRY_1, zHRY_2, zHRY_3⟩ := (HRY.out.at hpy HB101.out.below).cs4 0 1 2 3; go_wp2_with (at_builtin; refine HB101.out.byt rfl _ _ rfl (by rfl) 40 _ rfl _ rfl rfl (by rfl) c2 HLc2.out (by have := HQ.out; have := HQC.out; omega) ?_); intro VA102 vn102 vc102 w102 hb; have HB102 := Lh hb; clear hb; clear zHRY_0 zHRY_1 zHRY_2 zHRY_3; obtain ⟨zHRY_0, zHRY_1, zHRY_2, zHRY_3⟩ := (HRY.out.at hpy HB102.out.below).cs4 0 1 2 3; go_wp2_with fail; refine ((IHq' m hnm) w0 _ B r22 _ c2 c3 y22 (e2 _ rfl) HA22.out HB102.out HE.out HLc3.out (by have := HQ.out; have := HQC.out; omega)).mono ?_; rintro e w103 ⟨v9, rfl, hb⟩; obtain ⟨VA103, vn103, vc103, rfl, -⟩ := hb.form; have HB103 := Lh hb; clear hb
             clear zHRY_0 zHRY_1 zHRY_2 zHRY_3; obtain ⟨zHRY_0, zHRY_1, zHRY_2, zHRY_3⟩ := (HRY.out.at hpy HB103.out.below).cs4 0 1 2 3; go_wp2_with (at_builtin; refine HB103.out.byt rfl _ _ rfl (by rfl) 41 _ rfl _ rfl rfl (by rfl) c4 HLc4.out (by have := HQ.out; have := HQC.out; omega) ?_); intro VA104 vn104 vc104 w104 hb; have HB104 := Lh hb; clear hb; clear zHRY_0 zHRY_1 zHRY_2 zHRY_3; obtain ⟨zHRY_0, zHRY_1, zHRY_2, zHRY_3⟩ := (HRY.out.at hpy HB104.out.below).cs4 0 1 2 3; go_wp2_with (at_builtin; refine HB104.out.str rfl _ _ rfl (by rfl) (⟨#[58, 32]⟩ : ByteArray) (by rfl) c5 HLc5.out (by have := HQ.out; have := HQC.out; omega) ?_); intro VA105 vn105 vc105 w105 hb; have HB105 := Lh hb; clear hb; clear zHRY_0 zHRY_1 zHRY_2 zHRY_3; obtain ⟨zHRY_0, zHRY_1, zHRY_2, zHRY_3⟩ := (HRY.out.at hpy HB105.out.below).cs4 0 1 2 3; go_wp2_with fail; refine ((IHpt' m hnm) w0 _ B r23 _ c5 c6 y23 (e3 _ rfl) HA23.out HB105.out HE.out HLc6.out (by have := HQ.out; have := HQC.out; omega)).mono ?_; rintro e w106 ⟨v9, rfl, hb⟩; obtain ⟨VA106, vn106, vc106, rfl, -⟩ := hb.form; have HB106 := Lh hb; clear hb; clear zHRY_0 zHRY_1 zHRY_2 zHRY_3; obtain ⟨zHRY_0, zHRY_1, zHRY_2, zHRY_3⟩ := (HRY.out.at hpy HB106.out.below).cs4 0 1 2 3; go_wp2_with fail; exact ⟨⟨j + 1, c6, by omega, by go_num, HB106.out, HXD.out⟩, by simp [intOf]; omega⟩
          ·
           have HA21 := Lh a21; clear a21; clear p1; rcases FV.pt p3 with ⟨rfl, rfl⟩ | ⟨y23, r23, rfl, rfl, a23⟩
           ·
            clear p3; obtain ⟨zHRY_0, zHRY_1, zHRY_2, zHRY_3⟩ := (HRY.out.at hpy HB100.out.below).cs4 0 1 2 3; obtain ⟨c1, hc1⟩ : ∃ x, x = c ++ [44, 32] := ⟨_, rfl⟩
            have qc1 : c.length + 2 ≤ c1.length := by rw [hc1, List.length_append]; exact Nat.le_refl _
            obtain ⟨c2, hc2⟩ : ∃ x, x = pr m y21 c1 := ⟨_, rfl⟩
            have qc2 : c1.length ≤ c2.length := by rw [hc2]; exact prLe _ _ _
            have hf9 : (fun j t l => pr n t (if j = 0 then l else l ++ [44, 32])) j y9 c = c2 := by rw [hc2, hc1]; show pr n y9 (if j = 0 then c else c ++ [44, 32]) = _; rw [if_neg (by omega), hy9, hnm]; (try rfl)
            have hx8 : l2 = itr (fun j t l => pr n t (if j = 0 then l else l ++ [44, 32])) (xob.drop (j + 1)) (j + 1) c2 := by rw [← hf9]; exact HXC.out.trans HST.out
            have q9 : c2.length ≤ l2.length := by rw [hx8]; exact itrLe (fun j t l => by have h1 := prLe n t l; have h2 := prLe n t (l ++ [44, 32]); rw [List.length_append] at h2; split <;> omega) _ _ _
            have HXD := Lh hx8; have HQC := Lh ((And.intro qc1 (And.intro qc2 q9))); have HLc1 := Lh hc1; have HLc2 := Lh hc2; clear hf9 hx8 q9 qc1 qc2 hc1 hc2; go_wp2_with (at_builtin; refine HB100.out.str rfl _ _ rfl (by rfl) (⟨#[44, 32]⟩ : ByteArray) (by rfl) c1 HLc1.out (by have := HQ.out; have := HQC.out; omega) ?_); intro VA101 vn101 vc101 w101 hb; have HB101 := Lh hb; clear hb; clear zHRY_0 zHRY_1 zHRY_2 zHRY_3; obtain ⟨zHRY_0, zHRY_1, zHRY_2, zHRY_3⟩ := (HRY.out.at hpy HB101.out.below).cs4 0 1 2 3; go_wp2_with fail; refine ((IHst' m hnm) w0 _ B r21 _ c1 c2 y21 (e1 _ rfl) HA21.out HB101.out HE.out HLc2.out (by have := HQ.out; have := HQC.out; omega)).mono ?_; rintro e w102 ⟨v9, rfl, hb⟩; obtain ⟨VA102, vn102, vc102, rfl, -⟩ := hb.form; have HB102 := Lh hb; clear hb; clear zHRY_0 zHRY_1 zHRY_2 zHRY_3; obtain ⟨zHRY_0, zHRY_1, zHRY_2, zHRY_3⟩ := (HRY.out.at hpy HB102.out.below).cs4 0 1 2 3; go_wp2_with fail; exact ⟨⟨j + 1, c2, by omega, by go_num, HB102.out, HXD.out⟩, by simp [intOf]; omega⟩
           ·
            have HA23 := Lh a23; clear a23; clear p3; obtain ⟨zHRY_0, zHRY_1, zHRY_2, zHRY_3⟩ := (HRY.out.at hpy HB100.out.below).cs4 0 1 2 3; obtain ⟨c1, hc1⟩ : ∃ x, x = c ++ [44, 32] := ⟨_, rfl⟩
            have qc1 : c.length + 2 ≤ c1.length := by rw [hc1, List.length_append]; exact Nat.le_refl _
            obtain ⟨c2, hc2⟩ : ∃ x, x = pr m y21 c1 := ⟨_, rfl⟩
            have qc2 : c1.length ≤ c2.length := by rw [hc2]; exact prLe _ _ _
            obtain ⟨c3, hc3⟩ : ∃ x, x = c2 ++ [58, 32] := ⟨_, rfl⟩
            have qc3 : c2.length + 2 ≤ c3.length := by rw [hc3, List.length_append]; exact Nat.le_refl _
            obtain ⟨c4, hc4⟩ : ∃ x, x = pr m y23 c3 := ⟨_, rfl⟩
            have qc4 : c3.length ≤ c4.length := by rw [hc4]; exact prLe _ _ _
            have hf9 : (fun j t l => pr n t (if j = 0 then l else l ++ [44, 32])) j y9 c = c4 := by rw [hc4, hc3, hc2, hc1]; show pr n y9 (if j = 0 then c else c ++ [44, 32]) = _; rw [if_neg (by omega), hy9, hnm]; (try rfl)
            have hx8 : l2 = itr (fun j t l => pr n t (if j = 0 then l else l ++ [44, 32])) (xob.drop (j + 1)) (j + 1) c4 := by rw [← hf9]; exact HXC.out.trans HST.out
            have q9 : c4.length ≤ l2.length := by rw [hx8]; exact itrLe (fun j t l => by have h1 := prLe n t l; have h2 := prLe n t (l ++ [44, 32]); rw [List.length_append] at h2; split <;> omega) _ _ _
            have HXD := Lh hx8; have HQC := Lh ((And.intro qc1 (And.intro qc2 (And.intro qc3 (And.intro qc4 q9))))); have HLc1 := Lh hc1; have HLc2 := Lh hc2; have HLc3 := Lh hc3; have HLc4 := Lh hc4; clear hf9 hx8 q9 qc1 qc2 qc3 qc4 hc1 hc2 hc3 hc4; go_wp2_with (at_builtin; refine HB100.out.str rfl _ _ rfl (by rfl) (⟨#[44, 32]⟩ : ByteArray) (by rfl) c1 HLc1.out (by have := HQ.out; have := HQC.out; omega) ?_); intro VA101 vn101 vc101 w101 hb; have HB101 := Lh hb; clear hb; clear zHRY_0 zHRY_1 zHRY_2 zHRY_3; obtain ⟨zHRY_0, zHRY_1, zHRY_2, zHRY_3⟩ := (HRY.out.at hpy HB101.out.below).cs4 0 1 2 3; go_wp2_with fail; refine ((IHst' m hnm) w0 _ B r21 _ c1 c2 y21 (e1 _ rfl) HA21.out HB101.out HE.out HLc2.out (by have := HQ.out; have := HQC.out; omega)).mono ?_; rintro e w102 ⟨v9, rfl, hb⟩; obtain ⟨VA102, vn102, vc102, rfl, -⟩ := hb.form; have HB102 := Lh hb; clear hb; clear zHRY_0 zHRY_1 zHRY_2 zHRY_3; obtain ⟨zHRY_0, zHRY_1, zHRY_2, zHRY_3⟩ := (HRY.out.at hpy HB102.out.below).cs4 0 1 2 3; go_wp2_with (at_builtin; refine HB102.out.str rfl _ _ rfl (by rfl) (⟨#[58, 32]⟩ : ByteArray) (by rfl) c3 HLc3.out (by have := HQ.out; have := HQC.out; omega) ?_); intro VA103 vn103 vc103 w103 hb; have HB103 := Lh hb; clear hb; clear zHRY_0 zHRY_1 zHRY_2 zHRY_3; obtain ⟨zHRY_0, zHRY_1, zHRY_2, zHRY_3⟩ := (HRY.out.at hpy HB103.out.below).cs4 0 1 2 3; go_wp2_with fail; refine ((IHpt' m hnm) w0 _ B r23 _ c3 c4 y23 (e3 _ rfl) HA23.out HB103.out HE.out HLc4.out (by have := HQ.out; have := HQC.out; omega)).mono ?_; rintro e w104 ⟨v9, rfl, hb⟩; obtain ⟨VA104, vn104, vc104, rfl, -⟩ := hb.form; have HB104 := Lh hb; clear hb; clear zHRY_0 zHRY_1 zHRY_2 zHRY_3; obtain ⟨zHRY_0, zHRY_1, zHRY_2, zHRY_3⟩ := (HRY.out.at hpy HB104.out.below).cs4 0 1 2 3; go_wp2_with fail; exact ⟨⟨j + 1, c4, by omega, by go_num, HB104.out, HXD.out⟩, by simp [intOf]; omega⟩
         ·
          have hE := isE1 hk; have HK := Lh hk; clear hk p1 p2; rcases FV.pt p3 with ⟨rfl, rfl⟩ | ⟨y23, r23, rfl, rfl, a23⟩
          ·
           clear p3; obtain ⟨zHRY_0, zHRY_1, zHRY_2, zHRY_3⟩ := (HRY.out.at hpy HB100.out.below).cs4 0 1 2 3; obtain ⟨c1, hc1⟩ : ∃ x, x = c ++ [44, 32] := ⟨_, rfl⟩
           have qc1 : c.length + 2 ≤ c1.length := by rw [hc1, List.length_append]; exact Nat.le_refl _
           obtain ⟨c2, hc2⟩ : ∃ x, x = c1 ++ xk.data.toList := ⟨_, rfl⟩
           have qc2 : c1.length ≤ c2.length := by rw [hc2, List.length_append]; omega
           have hf9 : (fun j t l => pr n t (if j = 0 then l else l ++ [44, 32])) j y9 c = c2 := by rw [hc2, hc1]; show pr n y9 (if j = 0 then c else c ++ [44, 32]) = _; rw [if_neg (by omega), hy9, hnm, pr_po, kv_key HK.out]; (try rfl)
           have hx8 : l2 = itr (fun j t l => pr n t (if j = 0 then l else l ++ [44, 32])) (xob.drop (j + 1)) (j + 1) c2 := by rw [← hf9]; exact HXC.out.trans HST.out
           have q9 : c2.length ≤ l2.length := by rw [hx8]; exact itrLe (fun j t l => by have h1 := prLe n t l; have h2 := prLe n t (l ++ [44, 32]); rw [List.length_append] at h2; split <;> omega) _ _ _
           have HXD := Lh hx8; have HQC := Lh ((And.intro qc1 (And.intro qc2 q9))); have HLc1 := Lh hc1; have HLc2 := Lh hc2; clear hf9 hx8 q9 qc1 qc2 hc1 hc2; go_wp2_with (at_builtin; refine HB100.out.str rfl _ _ rfl (by rfl) (⟨#[44, 32]⟩ : ByteArray) (by rfl) c1 HLc1.out (by have := HQ.out; have := HQC.out; omega) ?_); intro VA101 vn101 vc101 w101 hb; have HB101 := Lh hb; clear hb; clear zHRY_0 zHRY_1 zHRY_2 zHRY_3; obtain ⟨zHRY_0, zHRY_1, zHRY_2, zHRY_3⟩ := (HRY.out.at hpy HB101.out.below).cs4 0 1 2 3; go_wp2_with (at_builtin; refine HB101.out.str rfl _ _ rfl (by rfl) xk (by rfl) c2 HLc2.out (by have := HQ.out; have := HQC.out; omega) ?_); intro VA102 vn102 vc102 w102 hb; have HB102 := Lh hb; clear hb; clear zHRY_0 zHRY_1 zHRY_2 zHRY_3; obtain ⟨zHRY_0, zHRY_1, zHRY_2, zHRY_3⟩ := (HRY.out.at hpy HB102.out.below).cs4 0 1 2 3; go_wp2_with fail; exact ⟨⟨j + 1, c2, by omega, by go_num, HB102.out, HXD.out⟩, by simp [intOf]; omega⟩
          ·
           have HA23 := Lh a23; clear a23; clear p3; obtain ⟨zHRY_0, zHRY_1, zHRY_2, zHRY_3⟩ := (HRY.out.at hpy HB100.out.below).cs4 0 1 2 3; obtain ⟨c1, hc1⟩ : ∃ x, x = c ++ [44, 32] := ⟨_, rfl⟩
           have qc1 : c.length + 2 ≤ c1.length := by rw [hc1, List.length_append]; exact Nat.le_refl _
           obtain ⟨c2, hc2⟩ : ∃ x, x = c1 ++ xk.data.toList := ⟨_, rfl⟩
           have qc2 : c1.length ≤ c2.length := by rw [hc2, List.length_append]; omega
           obtain ⟨c3, hc3⟩ : ∃ x, x = c2 ++ [58, 32] := ⟨_, rfl⟩
           have qc3 : c2.length + 2 ≤ c3.length := by rw [hc3, List.length_append]; exact Nat.le_refl _
           obtain ⟨c4, hc4⟩ : ∃ x, x = pr m y23 c3 := ⟨_, rfl⟩
           have qc4 : c3.length ≤ c4.length := by rw [hc4]; exact prLe _ _ _
           have hf9 : (fun j t l => pr n t (if j = 0 then l else l ++ [44, 32])) j y9 c = c4 := by rw [hc4, hc3, hc2, hc1]; show pr n y9 (if j = 0 then c else c ++ [44, 32]) = _; rw [if_neg (by omega), hy9, hnm, pr_po, kv_key HK.out]; (try rfl)
           have hx8 : l2 = itr (fun j t l => pr n t (if j = 0 then l else l ++ [44, 32])) (xob.drop (j + 1)) (j + 1) c4 := by rw [← hf9]; exact HXC.out.trans HST.out
           have q9 : c4.length ≤ l2.length := by rw [hx8]; exact itrLe (fun j t l => by have h1 := prLe n t l; have h2 := prLe n t (l ++ [44, 32]); rw [List.length_append] at h2; split <;> omega) _ _ _
           have HXD := Lh hx8; have HQC := Lh ((And.intro qc1 (And.intro qc2 (And.intro qc3 (And.intro qc4 q9))))); have HLc1 := Lh hc1; have HLc2 := Lh hc2; have HLc3 := Lh hc3; have HLc4 := Lh hc4; clear hf9 hx8 q9 qc1 qc2 qc3 qc4 hc1 hc2 hc3 hc4; go_wp2_with (at_builtin; refine HB100.out.str rfl _ _ rfl (by rfl) (⟨#[44, 32]⟩ : ByteArray) (by rfl) c1 HLc1.out (by have := HQ.out; have := HQC.out; omega) ?_); intro VA101 vn101 vc101 w101 hb; have HB101 := Lh hb; clear hb; clear zHRY_0 zHRY_1 zHRY_2 zHRY_3; obtain ⟨zHRY_0, zHRY_1, zHRY_2, zHRY_3⟩ := (HRY.out.at hpy HB101.out.below).cs4 0 1 2 3; go_wp2_with (at_builtin; refine HB101.out.str rfl _ _ rfl (by rfl) xk (by rfl) c2 HLc2.out (by have := HQ.out; have := HQC.out; omega) ?_); intro VA102 vn102 vc102 w102 hb; have HB102 := Lh hb; clear hb; clear zHRY_0 zHRY_1 zHRY_2 zHRY_3; obtain ⟨zHRY_0, zHRY_1, zHRY_2, zHRY_3⟩ := (HRY.out.at hpy HB102.out.below).cs4 0 1 2 3; go_wp2_with (at_builtin; refine HB102.out.str rfl _ _ rfl (by rfl) (⟨#[58, 32]⟩ : ByteArray) (by rfl) c3 HLc3.out (by have := HQ.out; have := HQC.out; omega) ?_); intro VA103 vn103 vc103 w103 hb; have HB103 := Lh hb; clear hb; clear zHRY_0 zHRY_1 zHRY_2 zHRY_3; obtain ⟨zHRY_0, zHRY_1, zHRY_2, zHRY_3⟩ := (HRY.out.at hpy HB103.out.below).cs4 0 1 2 3; go_wp2_with fail; refine ((IHpt' m hnm) w0 _ B r23 _ c3 c4 y23 (e3 _ rfl) HA23.out HB103.out HE.out HLc4.out (by have := HQ.out; have := HQC.out; omega)).mono ?_; rintro e w104 ⟨v9, rfl, hb⟩; obtain ⟨VA104, vn104, vc104, rfl, -⟩ := hb.form; have HB104 := Lh hb; clear hb; clear zHRY_0 zHRY_1 zHRY_2 zHRY_3; obtain ⟨zHRY_0, zHRY_1, zHRY_2, zHRY_3⟩ := (HRY.out.at hpy HB104.out.below).cs4 0 1 2 3; go_wp2_with fail; exact ⟨⟨j + 1, c4, by omega, by go_num, HB104.out, HXD.out⟩, by simp [intOf]; omega⟩
        ·
         by_cases hk : xk.size = 0
         ·
          obtain rfl := isE hk; clear hk; rcases FV.pt p1 with ⟨rfl, rfl⟩ | ⟨y21, r21, rfl, rfl, a21⟩
          ·
           clear p1; rcases FV.pt p2 with ⟨rfl, rfl⟩ | ⟨y22, r22, rfl, rfl, a22⟩
           ·
            clear p2; rcases FV.pt p3 with ⟨rfl, rfl⟩ | ⟨y23, r23, rfl, rfl, a23⟩
            ·
             clear p3; obtain ⟨zHRY_0, zHRY_1, zHRY_2, zHRY_3⟩ := (HRY.out.at hpy HB100.out.below).cs4 0 1 2 3
             have hf9 : (fun j t l => pr n t (if j = 0 then l else l ++ [44, 32])) j y9 c = c := by rw []; show pr n y9 (if j = 0 then c else c ++ [44, 32]) = _; rw [if_pos (by omega), hy9, hnm]; (try rfl)
             have hx8 : l2 = itr (fun j t l => pr n t (if j = 0 then l else l ++ [44, 32])) (xob.drop (j + 1)) (j + 1) c := by rw [← hf9]; exact HXC.out.trans HST.out
             have q9 : c.length ≤ l2.length := by rw [hx8]; exact itrLe (fun j t l => by have h1 := prLe n t l; have h2 := prLe n t (l ++ [44, 32]); rw [List.length_append] at h2; split <;> omega) _ _ _
             have HXD := Lh hx8; have HQC := Lh (q9); clear hf9 hx8 q9; go_wp2_with fail; exact ⟨⟨j + 1, c, by omega, by go_num, HB100.out, HXD.out⟩, by simp [intOf]; omega⟩
            ·
             have HA23 := Lh a23; clear a23; clear p3; obtain ⟨zHRY_0, zHRY_1, zHRY_2, zHRY_3⟩ := (HRY.out.at hpy HB100.out.below).cs4 0 1 2 3; obtain ⟨c1, hc1⟩ : ∃ x, x = c ++ [58, 32] := ⟨_, rfl⟩
             have qc1 : c.length + 2 ≤ c1.length := by rw [hc1, List.length_append]; exact Nat.le_refl _
             obtain ⟨c2, hc2⟩ : ∃ x, x = pr m y23 c1 := ⟨_, rfl⟩
             have qc2 : c1.length ≤ c2.length := by rw [hc2]; exact prLe _ _ _
             have hf9 : (fun j t l => pr n t (if j = 0 then l else l ++ [44, 32])) j y9 c = c2 := by rw [hc2, hc1]; show pr n y9 (if j = 0 then c else c ++ [44, 32]) = _; rw [if_pos (by omega), hy9, hnm]; (try rfl)
             have hx8 : l2 = itr (fun j t l => pr n t (if j = 0 then l else l ++ [44, 32])) (xob.drop (j + 1)) (j + 1) c2 := by rw [← hf9]; exact HXC.out.trans HST.out
             have q9 : c2.length ≤ l2.length := by rw [hx8]; exact itrLe (fun j t l => by have h1 := prLe n t l; have h2 := prLe n t (l ++ [44, 32]); rw [List.length_append] at h2; split <;> omega) _ _ _
             have HXD := Lh hx8; have HQC := Lh ((And.intro qc1 (And.intro qc2 q9))); have HLc1 := Lh hc1; have HLc2 := Lh hc2; clear hf9 hx8 q9 qc1 qc2 hc1 hc2; go_wp2_with (at_builtin; refine HB100.out.str rfl _ _ rfl (by rfl) (⟨#[58, 32]⟩ : ByteArray) (by rfl) c1 HLc1.out (by have := HQ.out; have := HQC.out; omega) ?_); intro VA101 vn101 vc101 w101 hb; have HB101 := Lh hb; clear hb; clear zHRY_0 zHRY_1 zHRY_2 zHRY_3; obtain ⟨zHRY_0, zHRY_1, zHRY_2, zHRY_3⟩ := (HRY.out.at hpy HB101.out.below).cs4 0 1 2 3; go_wp2_with fail; refine ((IHpt' m hnm) w0 _ B r23 _ c1 c2 y23 (e3 _ rfl) HA23.out HB101.out HE.out HLc2.out (by have := HQ.out; have := HQC.out; omega)).mono ?_; rintro e w102 ⟨v9, rfl, hb⟩; obtain ⟨VA102, vn102, vc102, rfl, -⟩ := hb.form; have HB102 := Lh hb; clear hb; clear zHRY_0 zHRY_1 zHRY_2 zHRY_3; obtain ⟨zHRY_0, zHRY_1, zHRY_2, zHRY_3⟩ := (HRY.out.at hpy HB102.out.below).cs4 0 1 2 3; go_wp2_with fail; exact ⟨⟨j + 1, c2, by omega, by go_num, HB102.out, HXD.out⟩, by simp [intOf]; omega⟩
           ·
            have HA22 := Lh a22; clear a22; clear p2; rcases FV.pt p3 with ⟨rfl, rfl⟩ | ⟨y23, r23, rfl, rfl, a23⟩
            ·
             clear p3; obtain ⟨zHRY_0, zHRY_1, zHRY_2, zHRY_3⟩ := (HRY.out.at hpy HB100.out.below).cs4 0 1 2 3; obtain ⟨c1, hc1⟩ : ∃ x, x = c ++ [40] := ⟨_, rfl⟩
             have qc1 : c.length + 1 ≤ c1.length := by rw [hc1, List.length_append]; exact Nat.le_refl _
             obtain ⟨c2, hc2⟩ : ∃ x, x = pr m y22 c1 := ⟨_, rfl⟩
             have qc2 : c1.length ≤ c2.length := by rw [hc2]; exact prLe _ _ _
             obtain ⟨c3, hc3⟩ : ∃ x, x = c2 ++ [41] := ⟨_, rfl⟩
             have qc3 : c2.length + 1 ≤ c3.length := by rw [hc3, List.length_append]; exact Nat.le_refl _
             have hf9 : (fun j t l => pr n t (if j = 0 then l else l ++ [44, 32])) j y9 c = c3 := by rw [hc3, hc2, hc1]; show pr n y9 (if j = 0 then c else c ++ [44, 32]) = _; rw [if_pos (by omega), hy9, hnm]; (try rfl)
             have hx8 : l2 = itr (fun j t l => pr n t (if j = 0 then l else l ++ [44, 32])) (xob.drop (j + 1)) (j + 1) c3 := by rw [← hf9]; exact HXC.out.trans HST.out
             have q9 : c3.length ≤ l2.length := by rw [hx8]; exact itrLe (fun j t l => by have h1 := prLe n t l; have h2 := prLe n t (l ++ [44, 32]); rw [List.length_append] at h2; split <;> omega) _ _ _
             have HXD := Lh hx8; have HQC := Lh ((And.intro qc1 (And.intro qc2 (And.intro qc3 q9)))); have HLc1 := Lh hc1; have HLc2 := Lh hc2; have HLc3 := Lh hc3; clear hf9 hx8 q9 qc1 qc2 qc3 hc1 hc2 hc3; go_wp2_with (at_builtin; refine HB100.out.byt rfl _ _ rfl (by rfl) 40 _ rfl _ rfl rfl (by rfl) c1 HLc1.out (by have := HQ.out; have := HQC.out; omega) ?_); intro VA101 vn101 vc101 w101 hb; have HB101 := Lh hb; clear hb; clear zHRY_0 zHRY_1 zHRY_2 zHRY_3; obtain ⟨zHRY_0, zHRY_1, zHRY_2, zHRY_3⟩ := (HRY.out.at hpy HB101.out.below).cs4 0 1 2 3; go_wp2_with fail; refine ((IHq' m hnm) w0 _ B r22 _ c1 c2 y22 (e2 _ rfl) HA22.out HB101.out HE.out HLc2.out (by have := HQ.out; have := HQC.out; omega)).mono ?_; rintro e w102 ⟨v9, rfl, hb⟩; obtain ⟨VA102, vn102, vc102, rfl, -⟩ := hb.form; have HB102 := Lh hb; clear hb; clear zHRY_0 zHRY_1 zHRY_2 zHRY_3; obtain ⟨zHRY_0, zHRY_1, zHRY_2, zHRY_3⟩ := (HRY.out.at hpy HB102.out.below).cs4 0 1 2 3; go_wp2_with (at_builtin; refine HB102.out.byt rfl _ _ rfl (by rfl) 41 _ rfl _ rfl rfl (by rfl) c3 HLc3.out (by have := HQ.out; have := HQC.out; omega) ?_); intro VA103 vn103 vc103 w103 hb; have HB103 := Lh hb; clear hb; clear zHRY_0 zHRY_1 zHRY_2 zHRY_3; obtain ⟨zHRY_0, zHRY_1, zHRY_2, zHRY_3⟩ := (HRY.out.at hpy HB103.out.below).cs4 0 1 2 3; go_wp2_with fail; exact ⟨⟨j + 1, c3, by omega, by go_num, HB103.out, HXD.out⟩, by simp [intOf]; omega⟩
            ·
             have HA23 := Lh a23; clear a23; clear p3; obtain ⟨zHRY_0, zHRY_1, zHRY_2, zHRY_3⟩ := (HRY.out.at hpy HB100.out.below).cs4 0 1 2 3; obtain ⟨c1, hc1⟩ : ∃ x, x = c ++ [40] := ⟨_, rfl⟩
             have qc1 : c.length + 1 ≤ c1.length := by rw [hc1, List.length_append]; exact Nat.le_refl _
             obtain ⟨c2, hc2⟩ : ∃ x, x = pr m y22 c1 := ⟨_, rfl⟩
             have qc2 : c1.length ≤ c2.length := by rw [hc2]; exact prLe _ _ _
             obtain ⟨c3, hc3⟩ : ∃ x, x = c2 ++ [41] := ⟨_, rfl⟩
             have qc3 : c2.length + 1 ≤ c3.length := by rw [hc3, List.length_append]; exact Nat.le_refl _
             obtain ⟨c4, hc4⟩ : ∃ x, x = c3 ++ [58, 32] := ⟨_, rfl⟩
             have qc4 : c3.length + 2 ≤ c4.length := by rw [hc4, List.length_append]; exact Nat.le_refl _
             obtain ⟨c5, hc5⟩ : ∃ x, x = pr m y23 c4 := ⟨_, rfl⟩
             have qc5 : c4.length ≤ c5.length := by rw [hc5]; exact prLe _ _ _
             have hf9 : (fun j t l => pr n t (if j = 0 then l else l ++ [44, 32])) j y9 c = c5 := by rw [hc5, hc4, hc3, hc2, hc1]; show pr n y9 (if j = 0 then c else c ++ [44, 32]) = _; rw [if_pos (by omega), hy9, hnm]; (try rfl)
             have hx8 : l2 = itr (fun j t l => pr n t (if j = 0 then l else l ++ [44, 32])) (xob.drop (j + 1)) (j + 1) c5 := by rw [← hf9]; exact HXC.out.trans HST.out
             have q9 : c5.length ≤ l2.length := by rw [hx8]; exact itrLe (fun j t l => by have h1 := prLe n t l; have h2 := prLe n t (l ++ [44, 32]); rw [List.length_append] at h2; split <;> omega) _ _ _
             have HXD := Lh hx8; have HQC := Lh ((And.intro qc1 (And.intro qc2 (And.intro qc3 (And.intro qc4 (And.intro qc5 q9)))))); have HLc1 := Lh hc1; have HLc2 := Lh hc2; have HLc3 := Lh hc3; have HLc4 := Lh hc4; have HLc5 := Lh hc5; clear hf9 hx8 q9 qc1 qc2 qc3 qc4 qc5 hc1 hc2 hc3 hc4 hc5; go_wp2_with (at_builtin; refine HB100.out.byt rfl _ _ rfl (by rfl) 40 _ rfl _ rfl rfl (by rfl) c1 HLc1.out (by have := HQ.out; have := HQC.out; omega) ?_); intro VA101 vn101 vc101 w101 hb; have HB101 := Lh hb; clear hb; clear zHRY_0 zHRY_1 zHRY_2 zHRY_3; obtain ⟨zHRY_0, zHRY_1, zHRY_2, zHRY_3⟩ := (HRY.out.at hpy HB101.out.below).cs4 0 1 2 3; go_wp2_with fail; refine ((IHq' m hnm) w0 _ B r22 _ c1 c2 y22 (e2 _ rfl) HA22.out HB101.out HE.out HLc2.out (by have := HQ.out; have := HQC.out; omega)).mono ?_; rintro e w102 ⟨v9, rfl, hb⟩; obtain ⟨VA102, vn102, vc102, rfl, -⟩ := hb.form; have HB102 := Lh hb; clear hb; clear zHRY_0 zHRY_1 zHRY_2 zHRY_3; obtain ⟨zHRY_0, zHRY_1, zHRY_2, zHRY_3⟩ := (HRY.out.at hpy HB102.out.below).cs4 0 1 2 3; go_wp2_with (at_builtin; refine HB102.out.byt rfl _ _ rfl (by rfl) 41 _ rfl _ rfl rfl (by rfl) c3 HLc3.out (by have := HQ.out; have := HQC.out; omega) ?_); intro VA103 vn103 vc103 w103 hb; have HB103 := Lh hb; clear hb; clear zHRY_0 zHRY_1 zHRY_2 zHRY_3; obtain ⟨zHRY_0, zHRY_1, zHRY_2, zHRY_3⟩ := (HRY.out.at hpy HB103.out.below).cs4 0 1 2 3; go_wp2_with (at_builtin; refine HB103.out.str rfl _ _ rfl (by rfl) (⟨#[58, 32]⟩ : ByteArray) (by rfl) c4 HLc4.out (by have := HQ.out; have := HQC.out; omega) ?_); intro VA104 vn104 vc104 w104 hb; have HB104 := Lh hb; clear hb; clear zHRY_0 zHRY_1 zHRY_2 zHRY_3; obtain ⟨zHRY_0, zHRY_1, zHRY_2, zHRY_3⟩ := (HRY.out.at hpy HB104.out.below).cs4 0 1 2 3; go_wp2_with fail; refine ((IHpt' m hnm) w0 _ B r23 _ c4 c5 y23 (e3 _ rfl) HA23.out HB104.out HE.out HLc5.out (by have := HQ.out; have := HQC.out; omega)).mono ?_; rintro e w105 ⟨v9, rfl, hb⟩; obtain ⟨VA105, vn105, vc105, rfl, -⟩ := hb.form; have HB105 := Lh hb; clear hb; clear zHRY_0 zHRY_1 zHRY_2 zHRY_3; obtain ⟨zHRY_0, zHRY_1, zHRY_2, zHRY_3⟩ := (HRY.out.at hpy HB105.out.below).cs4 0 1 2 3; go_wp2_with fail; exact ⟨⟨j + 1, c5, by omega, by go_num, HB105.out, HXD.out⟩, by simp [intOf]; omega⟩
          ·
           have HA21 := Lh a21; clear a21; clear p1; rcases FV.pt p3 with ⟨rfl, rfl⟩ | ⟨y23, r23, rfl, rfl, a23⟩
           ·
            clear p3; obtain ⟨zHRY_0, zHRY_1, zHRY_2, zHRY_3⟩ := (HRY.out.at hpy HB100.out.below).cs4 0 1 2 3; obtain ⟨c1, hc1⟩ : ∃ x, x = pr m y21 c := ⟨_, rfl⟩
            have qc1 : c.length ≤ c1.length := by rw [hc1]; exact prLe _ _ _
            have hf9 : (fun j t l => pr n t (if j = 0 then l else l ++ [44, 32])) j y9 c = c1 := by rw [hc1]; show pr n y9 (if j = 0 then c else c ++ [44, 32]) = _; rw [if_pos (by omega), hy9, hnm]; (try rfl)
            have hx8 : l2 = itr (fun j t l => pr n t (if j = 0 then l else l ++ [44, 32])) (xob.drop (j + 1)) (j + 1) c1 := by rw [← hf9]; exact HXC.out.trans HST.out
            have q9 : c1.length ≤ l2.length := by rw [hx8]; exact itrLe (fun j t l => by have h1 := prLe n t l; have h2 := prLe n t (l ++ [44, 32]); rw [List.length_append] at h2; split <;> omega) _ _ _
            have HXD := Lh hx8; have HQC := Lh ((And.intro qc1 q9)); have HLc1 := Lh hc1; clear hf9 hx8 q9 qc1 hc1; go_wp2_with fail; refine ((IHst' m hnm) w0 _ B r21 _ c c1 y21 (e1 _ rfl) HA21.out HB100.out HE.out HLc1.out (by have := HQ.out; have := HQC.out; omega)).mono ?_; rintro e w101 ⟨v9, rfl, hb⟩; obtain ⟨VA101, vn101, vc101, rfl, -⟩ := hb.form; have HB101 := Lh hb; clear hb; clear zHRY_0 zHRY_1 zHRY_2 zHRY_3; obtain ⟨zHRY_0, zHRY_1, zHRY_2, zHRY_3⟩ := (HRY.out.at hpy HB101.out.below).cs4 0 1 2 3; go_wp2_with fail; exact ⟨⟨j + 1, c1, by omega, by go_num, HB101.out, HXD.out⟩, by simp [intOf]; omega⟩
           ·
            have HA23 := Lh a23; clear a23; clear p3; obtain ⟨zHRY_0, zHRY_1, zHRY_2, zHRY_3⟩ := (HRY.out.at hpy HB100.out.below).cs4 0 1 2 3; obtain ⟨c1, hc1⟩ : ∃ x, x = pr m y21 c := ⟨_, rfl⟩
            have qc1 : c.length ≤ c1.length := by rw [hc1]; exact prLe _ _ _
            obtain ⟨c2, hc2⟩ : ∃ x, x = c1 ++ [58, 32] := ⟨_, rfl⟩
            have qc2 : c1.length + 2 ≤ c2.length := by rw [hc2, List.length_append]; exact Nat.le_refl _
            obtain ⟨c3, hc3⟩ : ∃ x, x = pr m y23 c2 := ⟨_, rfl⟩
            have qc3 : c2.length ≤ c3.length := by rw [hc3]; exact prLe _ _ _
            have hf9 : (fun j t l => pr n t (if j = 0 then l else l ++ [44, 32])) j y9 c = c3 := by rw [hc3, hc2, hc1]; show pr n y9 (if j = 0 then c else c ++ [44, 32]) = _; rw [if_pos (by omega), hy9, hnm]; (try rfl)
            have hx8 : l2 = itr (fun j t l => pr n t (if j = 0 then l else l ++ [44, 32])) (xob.drop (j + 1)) (j + 1) c3 := by rw [← hf9]; exact HXC.out.trans HST.out
            have q9 : c3.length ≤ l2.length := by rw [hx8]; exact itrLe (fun j t l => by have h1 := prLe n t l; have h2 := prLe n t (l ++ [44, 32]); rw [List.length_append] at h2; split <;> omega) _ _ _
            have HXD := Lh hx8; have HQC := Lh ((And.intro qc1 (And.intro qc2 (And.intro qc3 q9)))); have HLc1 := Lh hc1; have HLc2 := Lh hc2; have HLc3 := Lh hc3; clear hf9 hx8 q9 qc1 qc2 qc3 hc1 hc2 hc3; go_wp2_with fail; refine ((IHst' m hnm) w0 _ B r21 _ c c1 y21 (e1 _ rfl) HA21.out HB100.out HE.out HLc1.out (by have := HQ.out; have := HQC.out; omega)).mono ?_; rintro e w101 ⟨v9, rfl, hb⟩; obtain ⟨VA101, vn101, vc101, rfl, -⟩ := hb.form; have HB101 := Lh hb; clear hb; clear zHRY_0 zHRY_1 zHRY_2 zHRY_3; obtain ⟨zHRY_0, zHRY_1, zHRY_2, zHRY_3⟩ := (HRY.out.at hpy HB101.out.below).cs4 0 1 2 3; go_wp2_with (at_builtin; refine HB101.out.str rfl _ _ rfl (by rfl) (⟨#[58, 32]⟩ : ByteArray) (by rfl) c2 HLc2.out (by have := HQ.out; have := HQC.out; omega) ?_); intro VA102 vn102 vc102 w102 hb; have HB102 := Lh hb; clear hb; clear zHRY_0 zHRY_1 zHRY_2 zHRY_3; obtain ⟨zHRY_0, zHRY_1, zHRY_2, zHRY_3⟩ := (HRY.out.at hpy HB102.out.below).cs4 0 1 2 3; go_wp2_with fail; refine ((IHpt' m hnm) w0 _ B r23 _ c2 c3 y23 (e3 _ rfl) HA23.out HB102.out HE.out HLc3.out (by have := HQ.out; have := HQC.out; omega)).mono ?_; rintro e w103 ⟨v9, rfl, hb⟩; obtain ⟨VA103, vn103, vc103, rfl, -⟩ := hb.form; have HB103 := Lh hb; clear hb; clear zHRY_0 zHRY_1 zHRY_2 zHRY_3; obtain ⟨zHRY_0, zHRY_1, zHRY_2, zHRY_3⟩ := (HRY.out.at hpy HB103.out.below).cs4 0 1 2 3; go_wp2_with fail; exact ⟨⟨j + 1, c3, by omega, by go_num, HB103.out, HXD.out⟩, by simp [intOf]; omega⟩
         ·
          have hE := isE1 hk; have HK := Lh hk; clear hk p1 p2; rcases FV.pt p3 with ⟨rfl, rfl⟩ | ⟨y23, r23, rfl, rfl, a23⟩
          ·
           clear p3; obtain ⟨zHRY_0, zHRY_1, zHRY_2, zHRY_3⟩ := (HRY.out.at hpy HB100.out.below).cs4 0 1 2 3; obtain ⟨c1, hc1⟩ : ∃ x, x = c ++ xk.data.toList := ⟨_, rfl⟩
           have qc1 : c.length ≤ c1.length := by rw [hc1, List.length_append]; omega
           have hf9 : (fun j t l => pr n t (if j = 0 then l else l ++ [44, 32])) j y9 c = c1 := by rw [hc1]; show pr n y9 (if j = 0 then c else c ++ [44, 32]) = _; rw [if_pos (by omega), hy9, hnm, pr_po, kv_key HK.out]; (try rfl)
           have hx8 : l2 = itr (fun j t l => pr n t (if j = 0 then l else l ++ [44, 32])) (xob.drop (j + 1)) (j + 1) c1 := by rw [← hf9]; exact HXC.out.trans HST.out
           have q9 : c1.length ≤ l2.length := by rw [hx8]; exact itrLe (fun j t l => by have h1 := prLe n t l; have h2 := prLe n t (l ++ [44, 32]); rw [List.length_append] at h2; split <;> omega) _ _ _
           have HXD := Lh hx8; have HQC := Lh ((And.intro qc1 q9)); have HLc1 := Lh hc1; clear hf9 hx8 q9 qc1 hc1; go_wp2_with (at_builtin; refine HB100.out.str rfl _ _ rfl (by rfl) xk (by rfl) c1 HLc1.out (by have := HQ.out; have := HQC.out; omega) ?_); intro VA101 vn101 vc101 w101 hb; have HB101 := Lh hb; clear hb; clear zHRY_0 zHRY_1 zHRY_2 zHRY_3; obtain ⟨zHRY_0, zHRY_1, zHRY_2, zHRY_3⟩ := (HRY.out.at hpy HB101.out.below).cs4 0 1 2 3; go_wp2_with fail; exact ⟨⟨j + 1, c1, by omega, by go_num, HB101.out, HXD.out⟩, by simp [intOf]; omega⟩
          ·
           have HA23 := Lh a23; clear a23; clear p3; obtain ⟨zHRY_0, zHRY_1, zHRY_2, zHRY_3⟩ := (HRY.out.at hpy HB100.out.below).cs4 0 1 2 3; obtain ⟨c1, hc1⟩ : ∃ x, x = c ++ xk.data.toList := ⟨_, rfl⟩
           have qc1 : c.length ≤ c1.length := by rw [hc1, List.length_append]; omega
           obtain ⟨c2, hc2⟩ : ∃ x, x = c1 ++ [58, 32] := ⟨_, rfl⟩
           have qc2 : c1.length + 2 ≤ c2.length := by rw [hc2, List.length_append]; exact Nat.le_refl _
           obtain ⟨c3, hc3⟩ : ∃ x, x = pr m y23 c2 := ⟨_, rfl⟩
           have qc3 : c2.length ≤ c3.length := by rw [hc3]; exact prLe _ _ _
           have hf9 : (fun j t l => pr n t (if j = 0 then l else l ++ [44, 32])) j y9 c = c3 := by rw [hc3, hc2, hc1]; show pr n y9 (if j = 0 then c else c ++ [44, 32]) = _; rw [if_pos (by omega), hy9, hnm, pr_po, kv_key HK.out]; (try rfl)
           have hx8 : l2 = itr (fun j t l => pr n t (if j = 0 then l else l ++ [44, 32])) (xob.drop (j + 1)) (j + 1) c3 := by rw [← hf9]; exact HXC.out.trans HST.out
           have q9 : c3.length ≤ l2.length := by rw [hx8]; exact itrLe (fun j t l => by have h1 := prLe n t l; have h2 := prLe n t (l ++ [44, 32]); rw [List.length_append] at h2; split <;> omega) _ _ _
           have HXD := Lh hx8; have HQC := Lh ((And.intro qc1 (And.intro qc2 (And.intro qc3 q9)))); have HLc1 := Lh hc1; have HLc2 := Lh hc2; have HLc3 := Lh hc3; clear hf9 hx8 q9 qc1 qc2 qc3 hc1 hc2 hc3; go_wp2_with (at_builtin; refine HB100.out.str rfl _ _ rfl (by rfl) xk (by rfl) c1 HLc1.out (by have := HQ.out; have := HQC.out; omega) ?_); intro VA101 vn101 vc101 w101 hb; have HB101 := Lh hb; clear hb; clear zHRY_0 zHRY_1 zHRY_2 zHRY_3; obtain ⟨zHRY_0, zHRY_1, zHRY_2, zHRY_3⟩ := (HRY.out.at hpy HB101.out.below).cs4 0 1 2 3; go_wp2_with (at_builtin; refine HB101.out.str rfl _ _ rfl (by rfl) (⟨#[58, 32]⟩ : ByteArray) (by rfl) c2 HLc2.out (by have := HQ.out; have := HQC.out; omega) ?_); intro VA102 vn102 vc102 w102 hb; have HB102 := Lh hb; clear hb; clear zHRY_0 zHRY_1 zHRY_2 zHRY_3; obtain ⟨zHRY_0, zHRY_1, zHRY_2, zHRY_3⟩ := (HRY.out.at hpy HB102.out.below).cs4 0 1 2 3; go_wp2_with fail; refine ((IHpt' m hnm) w0 _ B r23 _ c2 c3 y23 (e3 _ rfl) HA23.out HB102.out HE.out HLc3.out (by have := HQ.out; have := HQC.out; omega)).mono ?_; rintro e w103 ⟨v9, rfl, hb⟩; obtain ⟨VA103, vn103, vc103, rfl, -⟩ := hb.form; have HB103 := Lh hb; clear hb; clear zHRY_0 zHRY_1 zHRY_2 zHRY_3; obtain ⟨zHRY_0, zHRY_1, zHRY_2, zHRY_3⟩ := (HRY.out.at hpy HB103.out.below).cs4 0 1 2 3; go_wp2_with fail; exact ⟨⟨j + 1, c3, by omega, by go_num, HB103.out, HXD.out⟩, by simp [intOf]; omega⟩
      ·
       obtain rfl : N2 = j := by omega
       have hx9 : l2 = c := HXC.out.trans (LS2.out.fin _ c); have HB2 := Lh (show BN B w0 l2 (.slice Ac nc cc) _ from by rw [hx9]; exact HB100.out); clear hx9; obtain ⟨zHR_0, zHR_1, zHR_2⟩ := (HR.out.at hp HB2.out.below).cs3 0 1 2; go_wp2_with (at_builtin; refine HB2.out.byt rfl _ _ rfl (by rfl) 125 _ rfl _ rfl rfl (by rfl) l3 HLl3.out (by have := HQ.out; omega) ?_); intro VA3 vn3 vc3 w3 hb; have HB3 := Lh hb; clear hb; clear zHR_0 zHR_1 zHR_2; obtain ⟨zHR_0, zHR_1, zHR_2⟩ := (HR.out.at hp HB3.out.below).cs3 0 1 2; go_wp2_with fail; go_ret; exact ⟨_, rfl, HB3.out⟩
   ·
    have HR := Lh hr; clear hr; have HZ := Lh (show xar.length ≠ 0 by omega)
    have hz3 : 0 < N1 := by omega
    obtain ⟨l1, hl1⟩ : ∃ x, x = l ++ [91] := ⟨_, rfl⟩
    have ql1 : l.length + 1 ≤ l1.length := by rw [hl1, List.length_append]; exact Nat.le_refl _
    obtain ⟨l2, hl2⟩ : ∃ x, x = itr (fun j t l => pr n t (if j = 0 then l else l ++ [44, 32])) xar 0 l1 := ⟨_, rfl⟩
    have ql2 : l1.length ≤ l2.length := by rw [hl2]; exact itrLe (fun j t l => by have h1 := prLe n t l; have h2 := prLe n t (l ++ [44, 32]); rw [List.length_append] at h2; split <;> omega) _ _ _
    obtain ⟨l3, hl3⟩ : ∃ x, x = l2 ++ [93] := ⟨_, rfl⟩
    have ql3 : l2.length + 1 ≤ l3.length := by rw [hl3, List.length_append]; exact Nat.le_refl _
    have hX : l' = l3 := by rw [hl]; rw [hl3, hl2, hl1]; show (if xar.length ≠ 0 then _ else _) = _; rw [if_pos HZ.out]; (try rfl)
    rw [hX] at hlen; have HQ := Lh (And.intro hlen (And.intro ql1 (And.intro ql2 ql3))); have HLl1 := Lh hl1; have HLl2 := Lh hl2; have HLl3 := Lh hl3; rw [hX]; clear hX hlen hl ql1 ql2 ql3 hl1 hl2 hl3; obtain ⟨zHR_0, zHR_1, zHR_2⟩ := (HR.out.at hp HB.out.below).cs3 0 1 2; go_enter Tryz.func21, Tryz.ntmps21; go_wp2_with (at_builtin; refine HB.out.byt rfl _ _ rfl (by rfl) 91 _ rfl _ rfl rfl (by rfl) l1 HLl1.out (by have := HQ.out; omega) ?_); intro VA1 vn1 vc1 w1 hb; have HB1 := Lh hb; clear hb; clear zHR_0 zHR_1 zHR_2; obtain ⟨zHR_0, zHR_1, zHR_2⟩ := (HR.out.at hp HB1.out.below).cs3 0 1 2; go_wp2_with fail; go_loopw [0, 34] (fun v t wr => ∃ (j : Nat) (c : L8), j ≤ N1 ∧ t = .int .i64 j ∧ BN B w0 c v wr ∧ l2 = itr (fun j t l => pr n t (if j = 0 then l else l ++ [44, 32])) (xar.drop j) j c) (fun _ t _ => N1 - (intOf t).toNat)
    case atStart =>
     exact ⟨0, l1, Nat.zero_le _, rfl, HB1.out, HLl2.out⟩
    case round =>
     obtain ⟨j, c, hj, rfl, hb, hx⟩ := hrel; obtain ⟨Ac, nc, cc, rfl, -⟩ := hb.form; have HB100 := Lh hb; have HXC := Lh hx; clear hb hx
     by_cases hlt : j < N1
     ·
      obtain ⟨ab, ao, q, t, hA, hcl, hst, hat, hW⟩ := LS1.out.kid HB100.out.below hlt (fun j t l => pr n t (if j = 0 then l else l ++ [44, 32])) c; subst hA; have hc := hcl _ HB100.out.below; have HST := Lh hst; have HAT := Lh hat; clear hcl hst hat
      by_cases hj0 : 0 < j
      ·
       obtain ⟨c1, hc1⟩ : ∃ x, x = c ++ [44, 32] := ⟨_, rfl⟩
       have qc1 : c.length + 2 ≤ c1.length := by rw [hc1, List.length_append]; exact Nat.le_refl _
       obtain ⟨c2, hc2⟩ : ∃ x, x = pr n t c1 := ⟨_, rfl⟩
       have qc2 : c1.length ≤ c2.length := by rw [hc2]; exact prLe _ _ _
       have hf9 : (fun j t l => pr n t (if j = 0 then l else l ++ [44, 32])) j t c = c2 := by rw [hc2, hc1]; show pr n t (if j = 0 then c else c ++ [44, 32]) = _; rw [if_neg (by omega)]
       have hx8 : l2 = itr (fun j t l => pr n t (if j = 0 then l else l ++ [44, 32])) (xar.drop (j + 1)) (j + 1) c2 := by rw [← hf9]; exact HXC.out.trans HST.out
       have q9 : c2.length ≤ l2.length := by rw [hx8]; exact itrLe (fun j t l => by have h1 := prLe n t l; have h2 := prLe n t (l ++ [44, 32]); rw [List.length_append] at h2; split <;> omega) _ _ _
       have HXD := Lh hx8; have HQC := Lh ((And.intro qc1 (And.intro qc2 q9))); have HLc1 := Lh hc1; have HLc2 := Lh hc2; clear hf9 hx8 q9 qc1 qc2 hc1 hc2; go_wp2_with (at_builtin; refine HB100.out.str rfl _ _ rfl (by rfl) (⟨#[44, 32]⟩ : ByteArray) (by rfl) c1 HLc1.out (by have := HQ.out; have := HQC.out; omega) ?_); intro VA101 vn101 vc101 w101 hb; have HB101 := Lh hb; clear hb; go_wp2_with fail; refine (IHpt w0 _ B q _ c1 c2 t hW HAT.out HB101.out HE.out HLc2.out (by have := HQ.out; have := HQC.out; omega)).mono ?_; rintro e w102 ⟨v9, rfl, hb⟩; obtain ⟨VA102, vn102, vc102, rfl, -⟩ := hb.form; have HB102 := Lh hb; clear hb; go_wp2_with fail; exact ⟨⟨j + 1, c2, by omega, by go_num, HB102.out, HXD.out⟩, by simp [intOf]; omega⟩
      ·
       obtain ⟨c1, hc1⟩ : ∃ x, x = pr n t c := ⟨_, rfl⟩
       have qc1 : c.length ≤ c1.length := by rw [hc1]; exact prLe _ _ _
       have hf9 : (fun j t l => pr n t (if j = 0 then l else l ++ [44, 32])) j t c = c1 := by rw [hc1]; show pr n t (if j = 0 then c else c ++ [44, 32]) = _; rw [if_pos (by omega)]
       have hx8 : l2 = itr (fun j t l => pr n t (if j = 0 then l else l ++ [44, 32])) (xar.drop (j + 1)) (j + 1) c1 := by rw [← hf9]; exact HXC.out.trans HST.out
       have q9 : c1.length ≤ l2.length := by rw [hx8]; exact itrLe (fun j t l => by have h1 := prLe n t l; have h2 := prLe n t (l ++ [44, 32]); rw [List.length_append] at h2; split <;> omega) _ _ _
       have HXD := Lh hx8; have HQC := Lh ((And.intro qc1 q9)); have HLc1 := Lh hc1; clear hf9 hx8 q9 qc1 hc1; go_wp2_with fail; refine (IHpt w0 _ B q _ c c1 t hW HAT.out HB100.out HE.out HLc1.out (by have := HQ.out; have := HQC.out; omega)).mono ?_; rintro e w101 ⟨v9, rfl, hb⟩; obtain ⟨VA101, vn101, vc101, rfl, -⟩ := hb.form; have HB101 := Lh hb; clear hb; go_wp2_with fail; exact ⟨⟨j + 1, c1, by omega, by go_num, HB101.out, HXD.out⟩, by simp [intOf]; omega⟩
     ·
      obtain rfl : N1 = j := by omega
      have hx9 : l2 = c := HXC.out.trans (LS1.out.fin _ c); have HB2 := Lh (show BN B w0 l2 (.slice Ac nc cc) _ from by rw [hx9]; exact HB100.out); clear hx9; obtain ⟨zHR_0, zHR_1, zHR_2⟩ := (HR.out.at hp HB2.out.below).cs3 0 1 2; go_wp2_with (at_builtin; refine HB2.out.byt rfl _ _ rfl (by rfl) 93 _ rfl _ rfl rfl (by rfl) l3 HLl3.out (by have := HQ.out; omega) ?_); intro VA3 vn3 vc3 w3 hb; have HB3 := Lh hb; clear hb; clear zHR_0 zHR_1 zHR_2; obtain ⟨zHR_0, zHR_1, zHR_2⟩ := (HR.out.at hp HB3.out.below).cs3 0 1 2; go_wp2_with fail; go_ret; exact ⟨_, rfl, HB3.out⟩
  ·
   have hE := isE1 hk; have HK := Lh hk; clear hk; have HR := Lh hr; clear hr; obtain ⟨l1, hl1⟩ : ∃ x, x = l ++ xn.data.toList := ⟨_, rfl⟩
   have ql1 : l.length ≤ l1.length := by rw [hl1, List.length_append]; omega
   have hX : l' = l1 := by rw [hl]; rw [hl1]; show (if xn.size ≠ 0 then _ else _) = _; rw [if_pos HK.out]
   rw [hX] at hlen; have HQ := Lh (And.intro hlen ql1); have HLl1 := Lh hl1; rw [hX]; clear hX hlen hl ql1 hl1; obtain ⟨zHR_0, zHR_1, zHR_2⟩ := (HR.out.at hp HB.out.below).cs3 0 1 2; go_enter Tryz.func21, Tryz.ntmps21; go_wp2_with (at_builtin; refine HB.out.str rfl _ _ rfl (by rfl) xn (by rfl) l1 HLl1.out (by have := HQ.out; omega) ?_); intro VA1 vn1 vc1 w1 hb; have HB1 := Lh hb; clear hb; clear zHR_0 zHR_1 zHR_2; obtain ⟨zHR_0, zHR_1, zHR_2⟩ := (HR.out.at hp HB1.out.below).cs3 0 1 2; go_wp2_with fail; go_ret; exact ⟨_, rfl, HB1.out⟩
set_option maxRecDepth 100000 in
set_option maxHeartbeats 8000000 in
theorem rCT (n : Nat) (IHco : RC 18 .co n) (IHct' : ∀ m, n = m + 1 → RC 48 .ct m) : RC 48 .ct (n + 1) := by
 intro w0 w B p v l l' t hw ha hb he hl hlen; obtain ⟨A0, n0, c0, rfl, -⟩ := hb.form; have HB := Lh hb; have HE := Lh he; clear hb he
 cases hw with
 | ct xo xa xn xs xnu xtr xfa h1 h2 h3 =>
  obtain ⟨hp, v0, v1, hr, f0, f1⟩ := inv_ct ha; clear ha; rcases FV.pt f0 with ⟨rfl, rfl⟩ | ⟨y0, r0, rfl, rfl, a0⟩
  ·
   clear f0; rcases FV.pt f1 with ⟨rfl, rfl⟩ | ⟨y1, r1, rfl, rfl, a1⟩
   ·
    clear f1
    by_cases hk : xn.size = 0
    ·
     obtain rfl := isE hk; clear hk
     cases xnu
     case true =>
      have HR := Lh hr; clear hr; obtain ⟨l1, hl1⟩ : ∃ x, x = l ++ [110, 117, 108, 108] := ⟨_, rfl⟩
      have ql1 : l.length + 4 ≤ l1.length := by rw [hl1, List.length_append]; exact Nat.le_refl _
      have hX : l' = l1 := by rw [hl]; rw [hl1]; rfl
      rw [hX] at hlen; have HQ := Lh (And.intro hlen ql1); have HLl1 := Lh hl1; rw [hX]; clear hX hlen hl ql1 hl1; obtain ⟨zHR_0, zHR_1, zHR_2, zHR_3, zHR_4, zHR_5, zHR_6⟩ := (HR.out.at hp HB.out.below).cs7 0 1 2 3 4 5 6; go_enter Tryz.func48, Tryz.ntmps48; go_wp2_with (at_builtin; refine HB.out.str rfl _ _ rfl (by rfl) (⟨#[110, 117, 108, 108]⟩ : ByteArray) (by rfl) l1 HLl1.out (by have := HQ.out; omega) ?_); intro VA1 vn1 vc1 w1 hb; have HB1 := Lh hb; clear hb; clear zHR_0 zHR_1 zHR_2 zHR_3 zHR_4 zHR_5 zHR_6; obtain ⟨zHR_0, zHR_1, zHR_2, zHR_3, zHR_4, zHR_5, zHR_6⟩ := (HR.out.at hp HB1.out.below).cs7 0 1 2 3 4 5 6; go_wp2_with fail; go_ret; exact ⟨_, rfl, HB1.out⟩
     case false =>
      cases xtr
      case true =>
       have HR := Lh hr; clear hr; obtain ⟨l1, hl1⟩ : ∃ x, x = l ++ [116, 114, 117, 101] := ⟨_, rfl⟩
       have ql1 : l.length + 4 ≤ l1.length := by rw [hl1, List.length_append]; exact Nat.le_refl _
       have hX : l' = l1 := by rw [hl]; rw [hl1]; rfl
       rw [hX] at hlen; have HQ := Lh (And.intro hlen ql1); have HLl1 := Lh hl1; rw [hX]; clear hX hlen hl ql1 hl1; obtain ⟨zHR_0, zHR_1, zHR_2, zHR_3, zHR_4, zHR_5, zHR_6⟩ := (HR.out.at hp HB.out.below).cs7 0 1 2 3 4 5 6; go_enter Tryz.func48, Tryz.ntmps48; go_wp2_with (at_builtin; refine HB.out.str rfl _ _ rfl (by rfl) (⟨#[116, 114, 117, 101]⟩ : ByteArray) (by rfl) l1 HLl1.out (by have := HQ.out; omega) ?_); intro VA1 vn1 vc1 w1 hb; have HB1 := Lh hb; clear hb; clear zHR_0 zHR_1 zHR_2 zHR_3 zHR_4 zHR_5 zHR_6; obtain ⟨zHR_0, zHR_1, zHR_2, zHR_3, zHR_4, zHR_5, zHR_6⟩ := (HR.out.at hp HB1.out.below).cs7 0 1 2 3 4 5 6; go_wp2_with fail; go_ret; exact ⟨_, rfl, HB1.out⟩
      case false =>
       cases xfa
       case true =>
        have HR := Lh hr; clear hr; obtain ⟨l1, hl1⟩ : ∃ x, x = l ++ [102, 97, 108, 115, 101] := ⟨_, rfl⟩
        have ql1 : l.length + 5 ≤ l1.length := by rw [hl1, List.length_append]; exact Nat.le_refl _
        have hX : l' = l1 := by rw [hl]; rw [hl1]; rfl
        rw [hX] at hlen; have HQ := Lh (And.intro hlen ql1); have HLl1 := Lh hl1; rw [hX]; clear hX hlen hl ql1 hl1; obtain ⟨zHR_0, zHR_1, zHR_2, zHR_3, zHR_4, zHR_5, zHR_6⟩ := (HR.out.at hp HB.out.below).cs7 0 1 2 3 4 5 6; go_enter Tryz.func48, Tryz.ntmps48; go_wp2_with (at_builtin; refine HB.out.str rfl _ _ rfl (by rfl) (⟨#[102, 97, 108, 115, 101]⟩ : ByteArray) (by rfl) l1 HLl1.out (by have := HQ.out; omega) ?_); intro VA1 vn1 vc1 w1 hb; have HB1 := Lh hb; clear hb; clear zHR_0 zHR_1 zHR_2 zHR_3 zHR_4 zHR_5 zHR_6; obtain ⟨zHR_0, zHR_1, zHR_2, zHR_3, zHR_4, zHR_5, zHR_6⟩ := (HR.out.at hp HB1.out.below).cs7 0 1 2 3 4 5 6; go_wp2_with fail; go_ret; exact ⟨_, rfl, HB1.out⟩
       case false =>
        have HR := Lh hr; clear hr; obtain ⟨l1, hl1⟩ : ∃ x, x = l ++ quoted xs := ⟨_, rfl⟩
        have ql1 : l.length ≤ l1.length := by rw [hl1, List.length_append]; omega
        have hX : l' = l1 := by rw [hl]; rw [hl1]; rfl
        rw [hX] at hlen; have HQ := Lh (And.intro hlen ql1); have HLl1 := Lh hl1; rw [hX]; clear hX hlen hl ql1 hl1; obtain ⟨zHR_0, zHR_1, zHR_2, zHR_3, zHR_4, zHR_5, zHR_6⟩ := (HR.out.at hp HB.out.below).cs7 0 1 2 3 4 5 6; go_enter Tryz.func48, Tryz.ntmps48; go_wp2_with fail; refine (refC w0 _ B _ l xs HB.out HE.out.four HE.out.size HE.out.tabs (by have := h3; omega) (by have := HQ.out; (try have := HQC.out); omega)).mono ?_; rintro e w1 ⟨v9, rfl, hb⟩; rw [← HLl1.out] at hb; obtain ⟨VA1, vn1, vc1, rfl, -⟩ := hb.form; have HB1 := Lh hb; clear hb; clear zHR_0 zHR_1 zHR_2 zHR_3 zHR_4 zHR_5 zHR_6; obtain ⟨zHR_0, zHR_1, zHR_2, zHR_3, zHR_4, zHR_5, zHR_6⟩ := (HR.out.at hp HB1.out.below).cs7 0 1 2 3 4 5 6; go_wp2_with fail; go_ret; exact ⟨_, rfl, HB1.out⟩
    ·
     have hE := isE1 hk; have HK := Lh hk; clear hk; have HR := Lh hr; clear hr; obtain ⟨l1, hl1⟩ : ∃ x, x = l ++ xn.data.toList := ⟨_, rfl⟩
     have ql1 : l.length ≤ l1.length := by rw [hl1, List.length_append]; omega
     have hX : l' = l1 := by rw [hl]; rw [hl1]; show (if xn.size ≠ 0 then _ else _) = _; rw [if_pos HK.out]
     rw [hX] at hlen; have HQ := Lh (And.intro hlen ql1); have HLl1 := Lh hl1; rw [hX]; clear hX hlen hl ql1 hl1; obtain ⟨zHR_0, zHR_1, zHR_2, zHR_3, zHR_4, zHR_5, zHR_6⟩ := (HR.out.at hp HB.out.below).cs7 0 1 2 3 4 5 6; go_enter Tryz.func48, Tryz.ntmps48; go_wp2_with (at_builtin; refine HB.out.str rfl _ _ rfl (by rfl) xn (by rfl) l1 HLl1.out (by have := HQ.out; omega) ?_); intro VA1 vn1 vc1 w1 hb; have HB1 := Lh hb; clear hb; clear zHR_0 zHR_1 zHR_2 zHR_3 zHR_4 zHR_5 zHR_6; obtain ⟨zHR_0, zHR_1, zHR_2, zHR_3, zHR_4, zHR_5, zHR_6⟩ := (HR.out.at hp HB1.out.below).cs7 0 1 2 3 4 5 6; go_wp2_with fail; go_ret; exact ⟨_, rfl, HB1.out⟩
   ·
    have HA1 := Lh a1; clear a1; clear f1; have HR := Lh hr; clear hr; have HAT := HA1
    obtain ⟨m, hnm⟩ : ∃ m, n = m + 1 := by cases n with | zero => exact HAT.out.elim | succ m => exact ⟨m, rfl⟩
    have ham := HA1.out; rw [hnm] at ham; have hwy := h2 _ rfl
    cases hwy with
    | ca xaa xts gA hA =>
     obtain ⟨hpy, u0, hry, f20⟩ := inv_ca ham; clear ham; obtain ⟨X20, M20, N20, rfl, hnn20, ls20⟩ := FV.ls .ct hA f20; have LS20 := Lh ls20; have len20 := ls20.len
     have bnd20 : N20 ≤ 3 := by have := gA; omega
     clear ls20 f20; have HRY := Lh hry; clear hry hnn20; obtain ⟨l1, hl1⟩ : ∃ x, x = l ++ [91] := ⟨_, rfl⟩
     have ql1 : l.length + 1 ≤ l1.length := by rw [hl1, List.length_append]; exact Nat.le_refl _
     obtain ⟨l2, hl2⟩ : ∃ x, x = itr (fun j t l => pr m t (if j = 0 then l else l ++ [44, 32])) xts 0 l1 := ⟨_, rfl⟩
     have ql2 : l1.length ≤ l2.length := by rw [hl2]; exact itrLe (fun j t l => by have h1 := prLe m t l; have h2 := prLe m t (l ++ [44, 32]); rw [List.length_append] at h2; split <;> omega) _ _ _
     obtain ⟨l3, hl3⟩ : ∃ x, x = l2 ++ [93] := ⟨_, rfl⟩
     have ql3 : l2.length + 1 ≤ l3.length := by rw [hl3, List.length_append]; exact Nat.le_refl _
     have hX : l' = l3 := by rw [hl]; rw [hl3, hl2, hl1]; show pr n _ l = _; rw [hnm]; rfl
     rw [hX] at hlen; have HQ := Lh (And.intro hlen (And.intro ql1 (And.intro ql2 ql3))); have HLl1 := Lh hl1; have HLl2 := Lh hl2; have HLl3 := Lh hl3; rw [hX]; clear hX hlen hl ql1 ql2 ql3 hl1 hl2 hl3; obtain ⟨zHR_0, zHR_1, zHR_2, zHR_3, zHR_4, zHR_5, zHR_6⟩ := (HR.out.at hp HB.out.below).cs7 0 1 2 3 4 5 6; have zHRY_0 := (HRY.out.at hpy HB.out.below).cell 0; go_enter Tryz.func48, Tryz.ntmps48; go_wp2_with (at_builtin; refine HB.out.byt rfl _ _ rfl (by rfl) 91 _ rfl _ rfl rfl (by rfl) l1 HLl1.out (by have := HQ.out; omega) ?_); intro VA1 vn1 vc1 w1 hb; have HB1 := Lh hb; clear hb; clear zHR_0 zHR_1 zHR_2 zHR_3 zHR_4 zHR_5 zHR_6 zHRY_0; obtain ⟨zHR_0, zHR_1, zHR_2, zHR_3, zHR_4, zHR_5, zHR_6⟩ := (HR.out.at hp HB1.out.below).cs7 0 1 2 3 4 5 6; have zHRY_0 := (HRY.out.at hpy HB1.out.below).cell 0; go_wp2_with fail; go_loopw [0, 36] (fun v t wr => ∃ (j : Nat) (c : L8), j ≤ N20 ∧ t = .int .i64 j ∧ BN B w0 c v wr ∧ l2 = itr (fun j t l => pr m t (if j = 0 then l else l ++ [44, 32])) (xts.drop j) j c) (fun _ t _ => N20 - (intOf t).toNat)
     case atStart =>
      exact ⟨0, l1, Nat.zero_le _, rfl, HB1.out, HLl2.out⟩
     case round =>
      obtain ⟨j, c, hj, rfl, hb, hx⟩ := hrel; obtain ⟨Ac, nc, cc, rfl, -⟩ := hb.form; have HB100 := Lh hb; have HXC := Lh hx; clear hb hx
      by_cases hlt : j < N20
      ·
       obtain ⟨ab, ao, q, t, hA, hcl, hst, hat, hW⟩ := LS20.out.kid HB100.out.below hlt (fun j t l => pr m t (if j = 0 then l else l ++ [44, 32])) c; subst hA; have hc := hcl _ HB100.out.below; have HST := Lh hst; have HAT := Lh hat; clear hcl hst hat
       by_cases hj0 : 0 < j
       ·
        obtain ⟨c1, hc1⟩ : ∃ x, x = c ++ [44, 32] := ⟨_, rfl⟩
        have qc1 : c.length + 2 ≤ c1.length := by rw [hc1, List.length_append]; exact Nat.le_refl _
        obtain ⟨c2, hc2⟩ : ∃ x, x = pr m t c1 := ⟨_, rfl⟩
        have qc2 : c1.length ≤ c2.length := by rw [hc2]; exact prLe _ _ _
        have hf9 : (fun j t l => pr m t (if j = 0 then l else l ++ [44, 32])) j t c = c2 := by rw [hc2, hc1]; show pr m t (if j = 0 then c else c ++ [44, 32]) = _; rw [if_neg (by omega)]
        have hx8 : l2 = itr (fun j t l => pr m t (if j = 0 then l else l ++ [44, 32])) (xts.drop (j + 1)) (j + 1) c2 := by rw [← hf9]; exact HXC.out.trans HST.out
        have q9 : c2.length ≤ l2.length := by rw [hx8]; exact itrLe (fun j t l => by have h1 := prLe m t l; have h2 := prLe m t (l ++ [44, 32]); rw [List.length_append] at h2; split <;> omega) _ _ _
        have HXD := Lh hx8; have HQC := Lh ((And.intro qc1 (And.intro qc2 q9))); have HLc1 := Lh hc1; have HLc2 := Lh hc2; clear hf9 hx8 q9 qc1 qc2 hc1 hc2; go_wp2_with (at_builtin; refine HB100.out.str rfl _ _ rfl (by rfl) (⟨#[44, 32]⟩ : ByteArray) (by rfl) c1 HLc1.out (by have := HQ.out; have := HQC.out; omega) ?_); intro VA101 vn101 vc101 w101 hb; have HB101 := Lh hb; clear hb; go_wp2_with fail; refine ((IHct' m hnm) w0 _ B q _ c1 c2 t hW HAT.out HB101.out HE.out HLc2.out (by have := HQ.out; have := HQC.out; omega)).mono ?_; rintro e w102 ⟨v9, rfl, hb⟩; obtain ⟨VA102, vn102, vc102, rfl, -⟩ := hb.form; have HB102 := Lh hb; clear hb; go_wp2_with fail; exact ⟨⟨j + 1, c2, by omega, by go_num, HB102.out, HXD.out⟩, by simp [intOf]; omega⟩
       ·
        obtain ⟨c1, hc1⟩ : ∃ x, x = pr m t c := ⟨_, rfl⟩
        have qc1 : c.length ≤ c1.length := by rw [hc1]; exact prLe _ _ _
        have hf9 : (fun j t l => pr m t (if j = 0 then l else l ++ [44, 32])) j t c = c1 := by rw [hc1]; show pr m t (if j = 0 then c else c ++ [44, 32]) = _; rw [if_pos (by omega)]
        have hx8 : l2 = itr (fun j t l => pr m t (if j = 0 then l else l ++ [44, 32])) (xts.drop (j + 1)) (j + 1) c1 := by rw [← hf9]; exact HXC.out.trans HST.out
        have q9 : c1.length ≤ l2.length := by rw [hx8]; exact itrLe (fun j t l => by have h1 := prLe m t l; have h2 := prLe m t (l ++ [44, 32]); rw [List.length_append] at h2; split <;> omega) _ _ _
        have HXD := Lh hx8; have HQC := Lh ((And.intro qc1 q9)); have HLc1 := Lh hc1; clear hf9 hx8 q9 qc1 hc1; go_wp2_with fail; refine ((IHct' m hnm) w0 _ B q _ c c1 t hW HAT.out HB100.out HE.out HLc1.out (by have := HQ.out; have := HQC.out; omega)).mono ?_; rintro e w101 ⟨v9, rfl, hb⟩; obtain ⟨VA101, vn101, vc101, rfl, -⟩ := hb.form; have HB101 := Lh hb; clear hb; go_wp2_with fail; exact ⟨⟨j + 1, c1, by omega, by go_num, HB101.out, HXD.out⟩, by simp [intOf]; omega⟩
      ·
       obtain rfl : N20 = j := by omega
       have hx9 : l2 = c := HXC.out.trans (LS20.out.fin _ c); have HB2 := Lh (show BN B w0 l2 (.slice Ac nc cc) _ from by rw [hx9]; exact HB100.out); clear hx9; obtain ⟨zHR_0, zHR_1, zHR_2, zHR_3, zHR_4, zHR_5, zHR_6⟩ := (HR.out.at hp HB2.out.below).cs7 0 1 2 3 4 5 6; have zHRY_0 := (HRY.out.at hpy HB2.out.below).cell 0; go_wp2_with (at_builtin; refine HB2.out.byt rfl _ _ rfl (by rfl) 93 _ rfl _ rfl rfl (by rfl) l3 HLl3.out (by have := HQ.out; omega) ?_); intro VA3 vn3 vc3 w3 hb; have HB3 := Lh hb; clear hb; clear zHR_0 zHR_1 zHR_2 zHR_3 zHR_4 zHR_5 zHR_6 zHRY_0; obtain ⟨zHR_0, zHR_1, zHR_2, zHR_3, zHR_4, zHR_5, zHR_6⟩ := (HR.out.at hp HB3.out.below).cs7 0 1 2 3 4 5 6; have zHRY_0 := (HRY.out.at hpy HB3.out.below).cell 0; go_wp2_with fail; go_ret; exact ⟨_, rfl, HB3.out⟩
  ·
   have HA0 := Lh a0; clear a0; clear f0; have HR := Lh hr; clear hr; obtain ⟨l1, hl1⟩ : ∃ x, x = pr n y0 l := ⟨_, rfl⟩
   have ql1 : l.length ≤ l1.length := by rw [hl1]; exact prLe _ _ _
   have hX : l' = l1 := by rw [hl]; rw [hl1]; rfl
   rw [hX] at hlen; have HQ := Lh (And.intro hlen ql1); have HLl1 := Lh hl1; rw [hX]; clear hX hlen hl ql1 hl1; obtain ⟨zHR_0, zHR_1, zHR_2, zHR_3, zHR_4, zHR_5, zHR_6⟩ := (HR.out.at hp HB.out.below).cs7 0 1 2 3 4 5 6; go_enter Tryz.func48, Tryz.ntmps48; go_wp2_with fail; refine (IHco w0 _ B r0 _ l l1 y0 (h1 _ rfl) HA0.out HB.out HE.out HLl1.out (by have := HQ.out; omega)).mono ?_; rintro e w1 ⟨v9, rfl, hb⟩; obtain ⟨VA1, vn1, vc1, rfl, -⟩ := hb.form; have HB1 := Lh hb; clear hb; clear zHR_0 zHR_1 zHR_2 zHR_3 zHR_4 zHR_5 zHR_6; obtain ⟨zHR_0, zHR_1, zHR_2, zHR_3, zHR_4, zHR_5, zHR_6⟩ := (HR.out.at hp HB1.out.below).cs7 0 1 2 3 4 5 6; go_wp2_with fail; go_ret; exact ⟨_, rfl, HB1.out⟩
set_option maxRecDepth 100000 in
set_option maxHeartbeats 8000000 in
theorem rIM (n : Nat) (IHO : RC 18 .co n) : RC 19 .im (n + 1) := by
 intro w0 w B p v l l' t hw ha hb he hl hlen; obtain ⟨A0, n0, c0, rfl, -⟩ := hb.form; have HB := Lh hb; have HE := Lh he; clear hb he
 cases hw with
 | im xp xal xi xm h1 h2 h3 =>
  obtain ⟨hp, v3, hr, f3⟩ := inv_im ha; clear ha
  by_cases hk : xp.size = 0
  ·
   obtain rfl := isE hk; clear hk; rcases FV.pt f3 with ⟨rfl, rfl⟩ | ⟨y3, r3, rfl, rfl, a3⟩
   ·
    have HR := Lh hr; clear hr f3; obtain ⟨l1, hl1⟩ : ∃ x, x = l ++ [105, 110, 99, 108, 117, 100, 101, 32] := ⟨_, rfl⟩
    have ql1 : l.length + 8 ≤ l1.length := by rw [hl1, List.length_append]; exact Nat.le_refl _
    obtain ⟨l2, hl2⟩ : ∃ x, x = l1 ++ quoted xi := ⟨_, rfl⟩
    have ql2 : l1.length ≤ l2.length := by rw [hl2, List.length_append]; omega
    obtain ⟨l3, hl3⟩ : ∃ x, x = l2 ++ [59, 10] := ⟨_, rfl⟩
    have ql3 : l2.length + 2 ≤ l3.length := by rw [hl3, List.length_append]; exact Nat.le_refl _
    have hX : l' = l3 := by rw [hl]; rw [hl3, hl2, hl1]; rfl
    rw [hX] at hlen; have HQ := Lh (And.intro hlen (And.intro ql1 (And.intro ql2 ql3))); have HLl1 := Lh hl1; have HLl2 := Lh hl2; have HLl3 := Lh hl3; rw [hX]; clear hX hlen hl ql1 ql2 ql3 hl1 hl2 hl3; obtain ⟨zHR_0, zHR_1, zHR_2, zHR_3⟩ := (HR.out.at hp HB.out.below).cs4 0 1 2 3; go_enter Tryz.func19, Tryz.ntmps19; go_wp2_with (at_builtin; refine HB.out.str rfl _ _ rfl (by rfl) (⟨#[105, 110, 99, 108, 117, 100, 101, 32]⟩ : ByteArray) (by rfl) l1 HLl1.out (by have := HQ.out; omega) ?_); intro VA1 vn1 vc1 w1 hb; have HB1 := Lh hb; clear hb; clear zHR_0 zHR_1 zHR_2 zHR_3; obtain ⟨zHR_0, zHR_1, zHR_2, zHR_3⟩ := (HR.out.at hp HB1.out.below).cs4 0 1 2 3; go_wp2_with fail; refine (refC w0 _ B _ l1 xi HB1.out HE.out.four HE.out.size HE.out.tabs (by have := h2; omega) (by have := HQ.out; (try have := HQC.out); omega)).mono ?_; rintro e w2 ⟨v9, rfl, hb⟩; rw [← HLl2.out] at hb; obtain ⟨VA2, vn2, vc2, rfl, -⟩ := hb.form; have HB2 := Lh hb; clear hb; clear zHR_0 zHR_1 zHR_2 zHR_3; obtain ⟨zHR_0, zHR_1, zHR_2, zHR_3⟩ := (HR.out.at hp HB2.out.below).cs4 0 1 2 3; go_wp2_with (at_builtin; refine HB2.out.str rfl _ _ rfl (by rfl) (⟨#[59, 10]⟩ : ByteArray) (by rfl) l3 HLl3.out (by have := HQ.out; omega) ?_); intro VA3 vn3 vc3 w3 hb; have HB3 := Lh hb
    clear hb; clear zHR_0 zHR_1 zHR_2 zHR_3; obtain ⟨zHR_0, zHR_1, zHR_2, zHR_3⟩ := (HR.out.at hp HB3.out.below).cs4 0 1 2 3; go_wp2_with fail; go_ret; exact ⟨_, rfl, HB3.out⟩
   ·
    have HA3 := Lh a3; clear a3; have HR := Lh hr; clear hr f3; obtain ⟨l1, hl1⟩ : ∃ x, x = l ++ [105, 110, 99, 108, 117, 100, 101, 32] := ⟨_, rfl⟩
    have ql1 : l.length + 8 ≤ l1.length := by rw [hl1, List.length_append]; exact Nat.le_refl _
    obtain ⟨l2, hl2⟩ : ∃ x, x = l1 ++ quoted xi := ⟨_, rfl⟩
    have ql2 : l1.length ≤ l2.length := by rw [hl2, List.length_append]; omega
    obtain ⟨l3, hl3⟩ : ∃ x, x = l2 ++ [32] := ⟨_, rfl⟩
    have ql3 : l2.length + 1 ≤ l3.length := by rw [hl3, List.length_append]; exact Nat.le_refl _
    obtain ⟨l4, hl4⟩ : ∃ x, x = pr n y3 l3 := ⟨_, rfl⟩
    have ql4 : l3.length ≤ l4.length := by rw [hl4]; exact prLe _ _ _
    obtain ⟨l5, hl5⟩ : ∃ x, x = l4 ++ [59, 10] := ⟨_, rfl⟩
    have ql5 : l4.length + 2 ≤ l5.length := by rw [hl5, List.length_append]; exact Nat.le_refl _
    have hX : l' = l5 := by rw [hl]; rw [hl5, hl4, hl3, hl2, hl1]; rfl
    rw [hX] at hlen; have HQ := Lh (And.intro hlen (And.intro ql1 (And.intro ql2 (And.intro ql3 (And.intro ql4 ql5))))); have HLl1 := Lh hl1; have HLl2 := Lh hl2; have HLl3 := Lh hl3; have HLl4 := Lh hl4; have HLl5 := Lh hl5; rw [hX]; clear hX hlen hl ql1 ql2 ql3 ql4 ql5 hl1 hl2 hl3 hl4 hl5; obtain ⟨zHR_0, zHR_1, zHR_2, zHR_3⟩ := (HR.out.at hp HB.out.below).cs4 0 1 2 3; go_enter Tryz.func19, Tryz.ntmps19; go_wp2_with (at_builtin; refine HB.out.str rfl _ _ rfl (by rfl) (⟨#[105, 110, 99, 108, 117, 100, 101, 32]⟩ : ByteArray) (by rfl) l1 HLl1.out (by have := HQ.out; omega) ?_); intro VA1 vn1 vc1 w1 hb; have HB1 := Lh hb; clear hb; clear zHR_0 zHR_1 zHR_2 zHR_3; obtain ⟨zHR_0, zHR_1, zHR_2, zHR_3⟩ := (HR.out.at hp HB1.out.below).cs4 0 1 2 3; go_wp2_with fail; refine (refC w0 _ B _ l1 xi HB1.out HE.out.four HE.out.size HE.out.tabs (by have := h2; omega) (by have := HQ.out; (try have := HQC.out); omega)).mono ?_; rintro e w2 ⟨v9, rfl, hb⟩; rw [← HLl2.out] at hb; obtain ⟨VA2, vn2, vc2, rfl, -⟩ := hb.form; have HB2 := Lh hb; clear hb; clear zHR_0 zHR_1 zHR_2 zHR_3; obtain ⟨zHR_0, zHR_1, zHR_2, zHR_3⟩ := (HR.out.at hp HB2.out.below).cs4 0 1 2 3; go_wp2_with (at_builtin; refine HB2.out.byt rfl _ _ rfl (by rfl) 32 _ rfl _ rfl rfl (by rfl) l3 HLl3.out (by have := HQ.out; omega) ?_)
    intro VA3 vn3 vc3 w3 hb; have HB3 := Lh hb; clear hb; clear zHR_0 zHR_1 zHR_2 zHR_3; obtain ⟨zHR_0, zHR_1, zHR_2, zHR_3⟩ := (HR.out.at hp HB3.out.below).cs4 0 1 2 3; go_wp2_with fail; refine (IHO w0 _ B r3 _ l3 l4 y3 (h3 _ rfl) HA3.out HB3.out HE.out HLl4.out (by have := HQ.out; omega)).mono ?_; rintro e w4 ⟨v9, rfl, hb⟩; obtain ⟨VA4, vn4, vc4, rfl, -⟩ := hb.form; have HB4 := Lh hb; clear hb; clear zHR_0 zHR_1 zHR_2 zHR_3; obtain ⟨zHR_0, zHR_1, zHR_2, zHR_3⟩ := (HR.out.at hp HB4.out.below).cs4 0 1 2 3; go_wp2_with (at_builtin; refine HB4.out.str rfl _ _ rfl (by rfl) (⟨#[59, 10]⟩ : ByteArray) (by rfl) l5 HLl5.out (by have := HQ.out; omega) ?_); intro VA5 vn5 vc5 w5 hb; have HB5 := Lh hb; clear hb; clear zHR_0 zHR_1 zHR_2 zHR_3; obtain ⟨zHR_0, zHR_1, zHR_2, zHR_3⟩ := (HR.out.at hp HB5.out.below).cs4 0 1 2 3; go_wp2_with fail; go_ret; exact ⟨_, rfl, HB5.out⟩
  ·
   have hE := isE1 hk; have HK := Lh hk; clear hk; rcases FV.pt f3 with ⟨rfl, rfl⟩ | ⟨y3, r3, rfl, rfl, a3⟩
   ·
    have HR := Lh hr; clear hr f3; obtain ⟨l1, hl1⟩ : ∃ x, x = l ++ [105, 109, 112, 111, 114, 116, 32] := ⟨_, rfl⟩
    have ql1 : l.length + 7 ≤ l1.length := by rw [hl1, List.length_append]; exact Nat.le_refl _
    obtain ⟨l2, hl2⟩ : ∃ x, x = l1 ++ quoted xp := ⟨_, rfl⟩
    have ql2 : l1.length ≤ l2.length := by rw [hl2, List.length_append]; omega
    obtain ⟨l3, hl3⟩ : ∃ x, x = l2 ++ [32, 97, 115, 32] := ⟨_, rfl⟩
    have ql3 : l2.length + 4 ≤ l3.length := by rw [hl3, List.length_append]; exact Nat.le_refl _
    obtain ⟨l4, hl4⟩ : ∃ x, x = l3 ++ xal.data.toList := ⟨_, rfl⟩
    have ql4 : l3.length ≤ l4.length := by rw [hl4, List.length_append]; omega
    obtain ⟨l5, hl5⟩ : ∃ x, x = l4 ++ [59, 10] := ⟨_, rfl⟩
    have ql5 : l4.length + 2 ≤ l5.length := by rw [hl5, List.length_append]; exact Nat.le_refl _
    have hX : l' = l5 := by rw [hl]; rw [hl5, hl4, hl3, hl2, hl1]; show opt _ _ (if xp.size ≠ 0 then _ else _) ++ _ = _; rw [if_pos HK.out]; rfl
    rw [hX] at hlen; have HQ := Lh (And.intro hlen (And.intro ql1 (And.intro ql2 (And.intro ql3 (And.intro ql4 ql5))))); have HLl1 := Lh hl1; have HLl2 := Lh hl2; have HLl3 := Lh hl3; have HLl4 := Lh hl4; have HLl5 := Lh hl5; rw [hX]; clear hX hlen hl ql1 ql2 ql3 ql4 ql5 hl1 hl2 hl3 hl4 hl5; obtain ⟨zHR_0, zHR_1, zHR_2, zHR_3⟩ := (HR.out.at hp HB.out.below).cs4 0 1 2 3; go_enter Tryz.func19, Tryz.ntmps19; go_wp2_with (at_builtin; refine HB.out.str rfl _ _ rfl (by rfl) (⟨#[105, 109, 112, 111, 114, 116, 32]⟩ : ByteArray) (by rfl) l1 HLl1.out (by have := HQ.out; omega) ?_); intro VA1 vn1 vc1 w1 hb; have HB1 := Lh hb; clear hb; clear zHR_0 zHR_1 zHR_2 zHR_3; obtain ⟨zHR_0, zHR_1, zHR_2, zHR_3⟩ := (HR.out.at hp HB1.out.below).cs4 0 1 2 3; go_wp2_with fail; refine (refC w0 _ B _ l1 xp HB1.out HE.out.four HE.out.size HE.out.tabs (by have := h1; omega) (by have := HQ.out; (try have := HQC.out); omega)).mono ?_; rintro e w2 ⟨v9, rfl, hb⟩; rw [← HLl2.out] at hb; obtain ⟨VA2, vn2, vc2, rfl, -⟩ := hb.form; have HB2 := Lh hb; clear hb; clear zHR_0 zHR_1 zHR_2 zHR_3; obtain ⟨zHR_0, zHR_1, zHR_2, zHR_3⟩ := (HR.out.at hp HB2.out.below).cs4 0 1 2 3; go_wp2_with (at_builtin; refine HB2.out.str rfl _ _ rfl (by rfl) (⟨#[32, 97, 115, 32]⟩ : ByteArray) (by rfl) l3 HLl3.out (by have := HQ.out; omega) ?_)
    intro VA3 vn3 vc3 w3 hb; have HB3 := Lh hb; clear hb; clear zHR_0 zHR_1 zHR_2 zHR_3; obtain ⟨zHR_0, zHR_1, zHR_2, zHR_3⟩ := (HR.out.at hp HB3.out.below).cs4 0 1 2 3; go_wp2_with (at_builtin; refine HB3.out.str rfl _ _ rfl (by rfl) xal (by rfl) l4 HLl4.out (by have := HQ.out; omega) ?_); intro VA4 vn4 vc4 w4 hb; have HB4 := Lh hb; clear hb; clear zHR_0 zHR_1 zHR_2 zHR_3; obtain ⟨zHR_0, zHR_1, zHR_2, zHR_3⟩ := (HR.out.at hp HB4.out.below).cs4 0 1 2 3; go_wp2_with (at_builtin; refine HB4.out.str rfl _ _ rfl (by rfl) (⟨#[59, 10]⟩ : ByteArray) (by rfl) l5 HLl5.out (by have := HQ.out; omega) ?_); intro VA5 vn5 vc5 w5 hb; have HB5 := Lh hb; clear hb; clear zHR_0 zHR_1 zHR_2 zHR_3; obtain ⟨zHR_0, zHR_1, zHR_2, zHR_3⟩ := (HR.out.at hp HB5.out.below).cs4 0 1 2 3; go_wp2_with fail; go_ret; exact ⟨_, rfl, HB5.out⟩
   ·
    have HA3 := Lh a3; clear a3; have HR := Lh hr; clear hr f3; obtain ⟨l1, hl1⟩ : ∃ x, x = l ++ [105, 109, 112, 111, 114, 116, 32] := ⟨_, rfl⟩
    have ql1 : l.length + 7 ≤ l1.length := by rw [hl1, List.length_append]; exact Nat.le_refl _
    obtain ⟨l2, hl2⟩ : ∃ x, x = l1 ++ quoted xp := ⟨_, rfl⟩
    have ql2 : l1.length ≤ l2.length := by rw [hl2, List.length_append]; omega
    obtain ⟨l3, hl3⟩ : ∃ x, x = l2 ++ [32, 97, 115, 32] := ⟨_, rfl⟩
    have ql3 : l2.length + 4 ≤ l3.length := by rw [hl3, List.length_append]; exact Nat.le_refl _
    obtain ⟨l4, hl4⟩ : ∃ x, x = l3 ++ xal.data.toList := ⟨_, rfl⟩
    have ql4 : l3.length ≤ l4.length := by rw [hl4, List.length_append]; omega
    obtain ⟨l5, hl5⟩ : ∃ x, x = l4 ++ [32] := ⟨_, rfl⟩
    have ql5 : l4.length + 1 ≤ l5.length := by rw [hl5, List.length_append]; exact Nat.le_refl _
    obtain ⟨l6, hl6⟩ : ∃ x, x = pr n y3 l5 := ⟨_, rfl⟩
    have ql6 : l5.length ≤ l6.length := by rw [hl6]; exact prLe _ _ _
    obtain ⟨l7, hl7⟩ : ∃ x, x = l6 ++ [59, 10] := ⟨_, rfl⟩
    have ql7 : l6.length + 2 ≤ l7.length := by rw [hl7, List.length_append]; exact Nat.le_refl _
    have hX : l' = l7 := by rw [hl]; rw [hl7, hl6, hl5, hl4, hl3, hl2, hl1]; show opt _ _ (if xp.size ≠ 0 then _ else _) ++ _ = _; rw [if_pos HK.out]; rfl
    rw [hX] at hlen; have HQ := Lh (And.intro hlen (And.intro ql1 (And.intro ql2 (And.intro ql3 (And.intro ql4 (And.intro ql5 (And.intro ql6 ql7))))))); have HLl1 := Lh hl1; have HLl2 := Lh hl2; have HLl3 := Lh hl3; have HLl4 := Lh hl4; have HLl5 := Lh hl5; have HLl6 := Lh hl6; have HLl7 := Lh hl7; rw [hX]; clear hX hlen hl ql1 ql2 ql3 ql4 ql5 ql6 ql7 hl1 hl2 hl3 hl4 hl5 hl6 hl7; obtain ⟨zHR_0, zHR_1, zHR_2, zHR_3⟩ := (HR.out.at hp HB.out.below).cs4 0 1 2 3; go_enter Tryz.func19, Tryz.ntmps19; go_wp2_with (at_builtin; refine HB.out.str rfl _ _ rfl (by rfl) (⟨#[105, 109, 112, 111, 114, 116, 32]⟩ : ByteArray) (by rfl) l1 HLl1.out (by have := HQ.out; omega) ?_); intro VA1 vn1 vc1 w1 hb; have HB1 := Lh hb; clear hb; clear zHR_0 zHR_1 zHR_2 zHR_3; obtain ⟨zHR_0, zHR_1, zHR_2, zHR_3⟩ := (HR.out.at hp HB1.out.below).cs4 0 1 2 3; go_wp2_with fail; refine (refC w0 _ B _ l1 xp HB1.out HE.out.four HE.out.size HE.out.tabs (by have := h1; omega) (by have := HQ.out; (try have := HQC.out); omega)).mono ?_; rintro e w2 ⟨v9, rfl, hb⟩; rw [← HLl2.out] at hb; obtain ⟨VA2, vn2, vc2, rfl, -⟩ := hb.form; have HB2 := Lh hb; clear hb; clear zHR_0 zHR_1 zHR_2 zHR_3; obtain ⟨zHR_0, zHR_1, zHR_2, zHR_3⟩ := (HR.out.at hp HB2.out.below).cs4 0 1 2 3
    go_wp2_with (at_builtin; refine HB2.out.str rfl _ _ rfl (by rfl) (⟨#[32, 97, 115, 32]⟩ : ByteArray) (by rfl) l3 HLl3.out (by have := HQ.out; omega) ?_); intro VA3 vn3 vc3 w3 hb; have HB3 := Lh hb; clear hb; clear zHR_0 zHR_1 zHR_2 zHR_3; obtain ⟨zHR_0, zHR_1, zHR_2, zHR_3⟩ := (HR.out.at hp HB3.out.below).cs4 0 1 2 3; go_wp2_with (at_builtin; refine HB3.out.str rfl _ _ rfl (by rfl) xal (by rfl) l4 HLl4.out (by have := HQ.out; omega) ?_); intro VA4 vn4 vc4 w4 hb; have HB4 := Lh hb; clear hb; clear zHR_0 zHR_1 zHR_2 zHR_3; obtain ⟨zHR_0, zHR_1, zHR_2, zHR_3⟩ := (HR.out.at hp HB4.out.below).cs4 0 1 2 3; go_wp2_with (at_builtin; refine HB4.out.byt rfl _ _ rfl (by rfl) 32 _ rfl _ rfl rfl (by rfl) l5 HLl5.out (by have := HQ.out; omega) ?_); intro VA5 vn5 vc5 w5 hb; have HB5 := Lh hb; clear hb; clear zHR_0 zHR_1 zHR_2 zHR_3; obtain ⟨zHR_0, zHR_1, zHR_2, zHR_3⟩ := (HR.out.at hp HB5.out.below).cs4 0 1 2 3; go_wp2_with fail; refine (IHO w0 _ B r3 _ l5 l6 y3 (h3 _ rfl) HA3.out HB5.out HE.out HLl6.out (by have := HQ.out; omega)).mono ?_; rintro e w6 ⟨v9, rfl, hb⟩; obtain ⟨VA6, vn6, vc6, rfl, -⟩ := hb.form; have HB6 := Lh hb; clear hb; clear zHR_0 zHR_1 zHR_2 zHR_3; obtain ⟨zHR_0, zHR_1, zHR_2, zHR_3⟩ := (HR.out.at hp HB6.out.below).cs4 0 1 2 3; go_wp2_with (at_builtin; refine HB6.out.str rfl _ _ rfl (by rfl) (⟨#[59, 10]⟩ : ByteArray) (by rfl) l7 HLl7.out (by have := HQ.out; omega) ?_); intro VA7 vn7 vc7 w7 hb; have HB7 := Lh hb; clear hb; clear zHR_0 zHR_1 zHR_2 zHR_3; obtain ⟨zHR_0, zHR_1, zHR_2, zHR_3⟩ := (HR.out.at hp HB7.out.below).cs4 0 1 2 3; go_wp2_with fail; go_ret; exact ⟨_, rfl, HB7.out⟩
end Go.Proofs.YtghcggagpagfoaaGreatDoor
