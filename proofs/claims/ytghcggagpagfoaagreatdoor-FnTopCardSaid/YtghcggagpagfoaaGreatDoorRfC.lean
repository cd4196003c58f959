/-
  The law's own printer: terms, strings; all heights (n001_1001). Printed by genRf.py.
-/
import Derived.Test.YtghcggagpagfoaaGreatDoorRfB
namespace Go.Proofs.YtghcggagpagfoaaGreatDoor
set_option linter.unusedVariables false
set_option linter.unusedSimpArgs false
open Go.ChangeShapes Go.WideShapes Go.ChangeAt Go.RowKit M
set_option maxRecDepth 100000 in
set_option maxHeartbeats 8000000 in
theorem rT (n : Nat) (IHix : RC 24 .ix n) (IHob : RC 25 .ob n) (IHst : RC 26 .st n) (IHie : RC 27 .ife n) (IHq : RC 6 .q n) (IHsf : RC 28 .sf n) (IHq' : ∀ m, n = m + 1 → RC 6 .q m) (IHt' : ∀ m, n = m + 1 → RC 8 .t m) (IHp' : ∀ m, n = m + 1 → RC 21 .pt m) : RC 8 .t (n + 1) := by
 intro w0 w B p v l l' t hw ha hb he hl hlen; obtain ⟨A0, n0, c0, rfl, -⟩ := hb.form; have HB := Lh hb; have HE := Lh he; clear hb he
 cases hw with
 | t xty xix xfn xob xar xnum xun xfmt xstr xie xtr xrd xfe xlb xbrk xq xa xsl e1 e2 htk hix hfn hob har hun hstr hie htr hrd hfe hlb hq gsl hsl =>
  obtain ⟨hp, v1, v2, v3, v4, v6, v8, v9, v10, v11, v12, v13, v15, v16, hr, f1, f2, f3, f4, f6, f8, f9, f10, f11, f12, f13, f15, f16⟩ := inv_t ha; clear ha; obtain ⟨k6, k7, k8, k9, k11, k13, k14, k15, k16, k17, k18, k20, kS⟩ := htk; obtain ⟨X16, M16, N16, rfl, hnn16, ls16⟩ := FV.ls .sf hsl f16; have LS16 := Lh ls16; have len16 := ls16.len
  have bnd16 : N16 ≤ 3 := by have := gsl; omega
  clear ls16 f16; clear hnn16; rcases (show xty = 1 ∨ xty = 2 ∨ xty = 3 ∨ xty = 4 ∨ xty = 5 ∨ xty = 6 ∨ xty = 7 ∨ xty = 8 ∨ xty = 9 ∨ xty = 10 ∨ xty = 11 ∨ xty = 12 ∨ xty = 13 ∨ xty = 14 ∨ xty = 15 ∨ xty = 16 ∨ xty = 17 ∨ xty = 18 ∨ xty = 19 ∨ xty = 20 by omega) with rfl | rfl | rfl | rfl | rfl | rfl | rfl | rfl | rfl | rfl | rfl | rfl | rfl | rfl | rfl | rfl | rfl | rfl | rfl | rfl
  ·
   clear k6 k7 k8 k9 k11 k13 k14 k15 k16 k17 k18 k20 kS e1 e2 f1 f2 f3 f4 f6 f8 f9 f10 f11 f12 f13 f15; have HR := Lh hr; clear hr; obtain ⟨l1, hl1⟩ : ∃ x, x = l ++ [46] := ⟨_, rfl⟩
   have ql1 : l.length + 1 ≤ l1.length := by rw [hl1, List.length_append]; exact Nat.le_refl _
   obtain ⟨l2, hl2⟩ : ∃ x, x = itr (fun _ t l => pr n t l) xsl 0 l1 := ⟨_, rfl⟩
   have ql2 : l1.length ≤ l2.length := by rw [hl2]; exact itrLe (fun _ _ _ => prLe _ _ _) _ _ _
   have hX : l' = l2 := by rw [hl]; rw [hl2, hl1]; rfl
   rw [hX] at hlen; have HQ := Lh (And.intro hlen (And.intro ql1 ql2)); have HLl1 := Lh hl1; have HLl2 := Lh hl2; rw [hX]; clear hX hlen hl ql1 ql2 hl1 hl2; obtain ⟨zHR_0, zHR_5, zHR_14, zHR_16⟩ := (HR.out.at hp HB.out.below).cs4 0 5 14 16; go_enter Tryz.func8, Tryz.ntmps8; go_wp2_with (at_builtin; refine HB.out.byt rfl _ _ rfl (by rfl) 46 _ rfl _ rfl rfl (by rfl) l1 HLl1.out (by have := HQ.out; omega) ?_); intro VA1 vn1 vc1 w1 hb; have HB1 := Lh hb; clear hb; clear zHR_0 zHR_5 zHR_14 zHR_16; obtain ⟨zHR_0, zHR_5, zHR_14, zHR_16⟩ := (HR.out.at hp HB1.out.below).cs4 0 5 14 16; go_wp2_with fail; go_loopw [0, 391] (fun v t wr => ∃ (j : Nat) (c : L8), j ≤ N16 ∧ t = .int .i64 j ∧ BN B w0 c v wr ∧ l2 = itr (fun _ t l => pr n t l) (xsl.drop j) j c) (fun _ t _ => N16 - (intOf t).toNat)
   case atStart =>
    exact ⟨0, l1, Nat.zero_le _, rfl, HB1.out, HLl2.out⟩
   case round =>
    obtain ⟨j, c, hj, rfl, hb, hx⟩ := hrel; obtain ⟨Ac, nc, cc, rfl, -⟩ := hb.form; have HB100 := Lh hb; have HXC := Lh hx; clear hb hx
    by_cases hlt : j < N16
    ·
     obtain ⟨ab, ao, q, t, hA, hcl, hst, hat, hW⟩ := LS16.out.kid HB100.out.below hlt (fun _ t l => pr n t l) c; subst hA; have hc := hcl _ HB100.out.below; have HST := Lh hst; have HAT := Lh hat; clear hcl hst hat; obtain ⟨c1, hc1⟩ : ∃ x, x = pr n t c := ⟨_, rfl⟩
     have qc1 : c.length ≤ c1.length := by rw [hc1]; exact prLe _ _ _
     have hf9 : (fun _ t l => pr n t l) j t c = c1 := by rw [hc1]
     have hx8 : l2 = itr (fun _ t l => pr n t l) (xsl.drop (j + 1)) (j + 1) c1 := by rw [← hf9]; exact HXC.out.trans HST.out
     have q9 : c1.length ≤ l2.length := by rw [hx8]; exact itrLe (fun _ _ _ => prLe _ _ _) _ _ _
     have HXD := Lh hx8; have HQC := Lh ((And.intro qc1 q9)); have HLc1 := Lh hc1; clear hf9 hx8 q9 qc1 hc1; go_wp2_with fail; refine (IHsf w0 _ B q _ c c1 t hW HAT.out HB100.out HE.out HLc1.out (by have := HQ.out; have := HQC.out; omega)).mono ?_; rintro e w101 ⟨v9, rfl, hb⟩; obtain ⟨VA101, vn101, vc101, rfl, -⟩ := hb.form; have HB101 := Lh hb; clear hb; go_wp2_with fail; exact ⟨⟨j + 1, c1, by omega, by go_num, HB101.out, HXD.out⟩, by simp [intOf]; omega⟩
    ·
     obtain rfl : N16 = j := by omega
     have hx9 : l2 = c := HXC.out.trans (LS16.out.fin _ c); have HB2 := Lh (show BN B w0 l2 (.slice Ac nc cc) _ from by rw [hx9]; exact HB100.out); clear hx9; obtain ⟨zHR_0, zHR_5, zHR_14, zHR_16⟩ := (HR.out.at hp HB2.out.below).cs4 0 5 14 16; go_wp2_with fail; go_ret; exact ⟨_, rfl, HB2.out⟩
  ·
   clear k6 k7 k8 k9 k11 k13 k14 k15 k16 k17 k18 k20 kS e1 e2 f1 f2 f3 f4 f6 f8 f9 f10 f11 f12 f13 f15; have HR := Lh hr; clear hr; obtain ⟨l1, hl1⟩ : ∃ x, x = l ++ [46, 46] := ⟨_, rfl⟩
   have ql1 : l.length + 2 ≤ l1.length := by rw [hl1, List.length_append]; exact Nat.le_refl _
   obtain ⟨l2, hl2⟩ : ∃ x, x = itr (fun _ t l => pr n t l) xsl 0 l1 := ⟨_, rfl⟩
   have ql2 : l1.length ≤ l2.length := by rw [hl2]; exact itrLe (fun _ _ _ => prLe _ _ _) _ _ _
   have hX : l' = l2 := by rw [hl]; rw [hl2, hl1]; rfl
   rw [hX] at hlen; have HQ := Lh (And.intro hlen (And.intro ql1 ql2)); have HLl1 := Lh hl1; have HLl2 := Lh hl2; rw [hX]; clear hX hlen hl ql1 ql2 hl1 hl2; obtain ⟨zHR_0, zHR_5, zHR_14, zHR_16⟩ := (HR.out.at hp HB.out.below).cs4 0 5 14 16; go_enter Tryz.func8, Tryz.ntmps8; go_wp2_with (at_builtin; refine HB.out.str rfl _ _ rfl (by rfl) (⟨#[46, 46]⟩ : ByteArray) (by rfl) l1 HLl1.out (by have := HQ.out; omega) ?_); intro VA1 vn1 vc1 w1 hb; have HB1 := Lh hb; clear hb; clear zHR_0 zHR_5 zHR_14 zHR_16; obtain ⟨zHR_0, zHR_5, zHR_14, zHR_16⟩ := (HR.out.at hp HB1.out.below).cs4 0 5 14 16; go_wp2_with fail; go_loopw [0, 391] (fun v t wr => ∃ (j : Nat) (c : L8), j ≤ N16 ∧ t = .int .i64 j ∧ BN B w0 c v wr ∧ l2 = itr (fun _ t l => pr n t l) (xsl.drop j) j c) (fun _ t _ => N16 - (intOf t).toNat)
   case atStart =>
    exact ⟨0, l1, Nat.zero_le _, rfl, HB1.out, HLl2.out⟩
   case round =>
    obtain ⟨j, c, hj, rfl, hb, hx⟩ := hrel; obtain ⟨Ac, nc, cc, rfl, -⟩ := hb.form; have HB100 := Lh hb; have HXC := Lh hx; clear hb hx
    by_cases hlt : j < N16
    ·
     obtain ⟨ab, ao, q, t, hA, hcl, hst, hat, hW⟩ := LS16.out.kid HB100.out.below hlt (fun _ t l => pr n t l) c; subst hA; have hc := hcl _ HB100.out.below; have HST := Lh hst; have HAT := Lh hat; clear hcl hst hat; obtain ⟨c1, hc1⟩ : ∃ x, x = pr n t c := ⟨_, rfl⟩
     have qc1 : c.length ≤ c1.length := by rw [hc1]; exact prLe _ _ _
     have hf9 : (fun _ t l => pr n t l) j t c = c1 := by rw [hc1]
     have hx8 : l2 = itr (fun _ t l => pr n t l) (xsl.drop (j + 1)) (j + 1) c1 := by rw [← hf9]; exact HXC.out.trans HST.out
     have q9 : c1.length ≤ l2.length := by rw [hx8]; exact itrLe (fun _ _ _ => prLe _ _ _) _ _ _
     have HXD := Lh hx8; have HQC := Lh ((And.intro qc1 q9)); have HLc1 := Lh hc1; clear hf9 hx8 q9 qc1 hc1; go_wp2_with fail; refine (IHsf w0 _ B q _ c c1 t hW HAT.out HB100.out HE.out HLc1.out (by have := HQ.out; have := HQC.out; omega)).mono ?_; rintro e w101 ⟨v9, rfl, hb⟩; obtain ⟨VA101, vn101, vc101, rfl, -⟩ := hb.form; have HB101 := Lh hb; clear hb; go_wp2_with fail; exact ⟨⟨j + 1, c1, by omega, by go_num, HB101.out, HXD.out⟩, by simp [intOf]; omega⟩
    ·
     obtain rfl : N16 = j := by omega
     have hx9 : l2 = c := HXC.out.trans (LS16.out.fin _ c); have HB2 := Lh (show BN B w0 l2 (.slice Ac nc cc) _ from by rw [hx9]; exact HB100.out); clear hx9; obtain ⟨zHR_0, zHR_5, zHR_14, zHR_16⟩ := (HR.out.at hp HB2.out.below).cs4 0 5 14 16; go_wp2_with fail; go_ret; exact ⟨_, rfl, HB2.out⟩
  ·
   clear k6 k7 k8 k9 k11 k13 k14 k15 k16 k17 k18 k20 kS e1 e2 f1 f2 f3 f4 f6 f8 f9 f10 f11 f12 f13 f15; have HR := Lh hr; clear hr; obtain ⟨l1, hl1⟩ : ∃ x, x = l ++ [110, 117, 108, 108] := ⟨_, rfl⟩
   have ql1 : l.length + 4 ≤ l1.length := by rw [hl1, List.length_append]; exact Nat.le_refl _
   obtain ⟨l2, hl2⟩ : ∃ x, x = itr (fun _ t l => pr n t l) xsl 0 l1 := ⟨_, rfl⟩
   have ql2 : l1.length ≤ l2.length := by rw [hl2]; exact itrLe (fun _ _ _ => prLe _ _ _) _ _ _
   have hX : l' = l2 := by rw [hl]; rw [hl2, hl1]; rfl
   rw [hX] at hlen; have HQ := Lh (And.intro hlen (And.intro ql1 ql2)); have HLl1 := Lh hl1; have HLl2 := Lh hl2; rw [hX]; clear hX hlen hl ql1 ql2 hl1 hl2; obtain ⟨zHR_0, zHR_5, zHR_14, zHR_16⟩ := (HR.out.at hp HB.out.below).cs4 0 5 14 16; go_enter Tryz.func8, Tryz.ntmps8; go_wp2_with (at_builtin; refine HB.out.str rfl _ _ rfl (by rfl) (⟨#[110, 117, 108, 108]⟩ : ByteArray) (by rfl) l1 HLl1.out (by have := HQ.out; omega) ?_); intro VA1 vn1 vc1 w1 hb; have HB1 := Lh hb; clear hb; clear zHR_0 zHR_5 zHR_14 zHR_16; obtain ⟨zHR_0, zHR_5, zHR_14, zHR_16⟩ := (HR.out.at hp HB1.out.below).cs4 0 5 14 16; go_wp2_with fail; go_loopw [0, 391] (fun v t wr => ∃ (j : Nat) (c : L8), j ≤ N16 ∧ t = .int .i64 j ∧ BN B w0 c v wr ∧ l2 = itr (fun _ t l => pr n t l) (xsl.drop j) j c) (fun _ t _ => N16 - (intOf t).toNat)
   case atStart =>
    exact ⟨0, l1, Nat.zero_le _, rfl, HB1.out, HLl2.out⟩
   case round =>
    obtain ⟨j, c, hj, rfl, hb, hx⟩ := hrel; obtain ⟨Ac, nc, cc, rfl, -⟩ := hb.form; have HB100 := Lh hb; have HXC := Lh hx; clear hb hx
    by_cases hlt : j < N16
    ·
     obtain ⟨ab, ao, q, t, hA, hcl, hst, hat, hW⟩ := LS16.out.kid HB100.out.below hlt (fun _ t l => pr n t l) c; subst hA; have hc := hcl _ HB100.out.below; have HST := Lh hst; have HAT := Lh hat; clear hcl hst hat; obtain ⟨c1, hc1⟩ : ∃ x, x = pr n t c := ⟨_, rfl⟩
     have qc1 : c.length ≤ c1.length := by rw [hc1]; exact prLe _ _ _
     have hf9 : (fun _ t l => pr n t l) j t c = c1 := by rw [hc1]
     have hx8 : l2 = itr (fun _ t l => pr n t l) (xsl.drop (j + 1)) (j + 1) c1 := by rw [← hf9]; exact HXC.out.trans HST.out
     have q9 : c1.length ≤ l2.length := by rw [hx8]; exact itrLe (fun _ _ _ => prLe _ _ _) _ _ _
     have HXD := Lh hx8; have HQC := Lh ((And.intro qc1 q9)); have HLc1 := Lh hc1; clear hf9 hx8 q9 qc1 hc1; go_wp2_with fail; refine (IHsf w0 _ B q _ c c1 t hW HAT.out HB100.out HE.out HLc1.out (by have := HQ.out; have := HQC.out; omega)).mono ?_; rintro e w101 ⟨v9, rfl, hb⟩; obtain ⟨VA101, vn101, vc101, rfl, -⟩ := hb.form; have HB101 := Lh hb; clear hb; go_wp2_with fail; exact ⟨⟨j + 1, c1, by omega, by go_num, HB101.out, HXD.out⟩, by simp [intOf]; omega⟩
    ·
     obtain rfl : N16 = j := by omega
     have hx9 : l2 = c := HXC.out.trans (LS16.out.fin _ c); have HB2 := Lh (show BN B w0 l2 (.slice Ac nc cc) _ from by rw [hx9]; exact HB100.out); clear hx9; obtain ⟨zHR_0, zHR_5, zHR_14, zHR_16⟩ := (HR.out.at hp HB2.out.below).cs4 0 5 14 16; go_wp2_with fail; go_ret; exact ⟨_, rfl, HB2.out⟩
  ·
   clear k6 k7 k8 k9 k11 k13 k14 k15 k16 k17 k18 k20 kS e1 e2 f1 f2 f3 f4 f6 f8 f9 f10 f11 f12 f13 f15; have HR := Lh hr; clear hr; obtain ⟨l1, hl1⟩ : ∃ x, x = l ++ [116, 114, 117, 101] := ⟨_, rfl⟩
   have ql1 : l.length + 4 ≤ l1.length := by rw [hl1, List.length_append]; exact Nat.le_refl _
   obtain ⟨l2, hl2⟩ : ∃ x, x = itr (fun _ t l => pr n t l) xsl 0 l1 := ⟨_, rfl⟩
   have ql2 : l1.length ≤ l2.length := by rw [hl2]; exact itrLe (fun _ _ _ => prLe _ _ _) _ _ _
   have hX : l' = l2 := by rw [hl]; rw [hl2, hl1]; rfl
   rw [hX] at hlen; have HQ := Lh (And.intro hlen (And.intro ql1 ql2)); have HLl1 := Lh hl1; have HLl2 := Lh hl2; rw [hX]; clear hX hlen hl ql1 ql2 hl1 hl2; obtain ⟨zHR_0, zHR_5, zHR_14, zHR_16⟩ := (HR.out.at hp HB.out.below).cs4 0 5 14 16; go_enter Tryz.func8, Tryz.ntmps8; go_wp2_with (at_builtin; refine HB.out.str rfl _ _ rfl (by rfl) (⟨#[116, 114, 117, 101]⟩ : ByteArray) (by rfl) l1 HLl1.out (by have := HQ.out; omega) ?_); intro VA1 vn1 vc1 w1 hb; have HB1 := Lh hb; clear hb; clear zHR_0 zHR_5 zHR_14 zHR_16; obtain ⟨zHR_0, zHR_5, zHR_14, zHR_16⟩ := (HR.out.at hp HB1.out.below).cs4 0 5 14 16; go_wp2_with fail; go_loopw [0, 391] (fun v t wr => ∃ (j : Nat) (c : L8), j ≤ N16 ∧ t = .int .i64 j ∧ BN B w0 c v wr ∧ l2 = itr (fun _ t l => pr n t l) (xsl.drop j) j c) (fun _ t _ => N16 - (intOf t).toNat)
   case atStart =>
    exact ⟨0, l1, Nat.zero_le _, rfl, HB1.out, HLl2.out⟩
   case round =>
    obtain ⟨j, c, hj, rfl, hb, hx⟩ := hrel; obtain ⟨Ac, nc, cc, rfl, -⟩ := hb.form; have HB100 := Lh hb; have HXC := Lh hx; clear hb hx
    by_cases hlt : j < N16
    ·
     obtain ⟨ab, ao, q, t, hA, hcl, hst, hat, hW⟩ := LS16.out.kid HB100.out.below hlt (fun _ t l => pr n t l) c; subst hA; have hc := hcl _ HB100.out.below; have HST := Lh hst; have HAT := Lh hat; clear hcl hst hat; obtain ⟨c1, hc1⟩ : ∃ x, x = pr n t c := ⟨_, rfl⟩
     have qc1 : c.length ≤ c1.length := by rw [hc1]; exact prLe _ _ _
     have hf9 : (fun _ t l => pr n t l) j t c = c1 := by rw [hc1]
     have hx8 : l2 = itr (fun _ t l => pr n t l) (xsl.drop (j + 1)) (j + 1) c1 := by rw [← hf9]; exact HXC.out.trans HST.out
     have q9 : c1.length ≤ l2.length := by rw [hx8]; exact itrLe (fun _ _ _ => prLe _ _ _) _ _ _
     have HXD := Lh hx8; have HQC := Lh ((And.intro qc1 q9)); have HLc1 := Lh hc1; clear hf9 hx8 q9 qc1 hc1; go_wp2_with fail; refine (IHsf w0 _ B q _ c c1 t hW HAT.out HB100.out HE.out HLc1.out (by have := HQ.out; have := HQC.out; omega)).mono ?_; rintro e w101 ⟨v9, rfl, hb⟩; obtain ⟨VA101, vn101, vc101, rfl, -⟩ := hb.form; have HB101 := Lh hb; clear hb; go_wp2_with fail; exact ⟨⟨j + 1, c1, by omega, by go_num, HB101.out, HXD.out⟩, by simp [intOf]; omega⟩
    ·
     obtain rfl : N16 = j := by omega
     have hx9 : l2 = c := HXC.out.trans (LS16.out.fin _ c); have HB2 := Lh (show BN B w0 l2 (.slice Ac nc cc) _ from by rw [hx9]; exact HB100.out); clear hx9; obtain ⟨zHR_0, zHR_5, zHR_14, zHR_16⟩ := (HR.out.at hp HB2.out.below).cs4 0 5 14 16; go_wp2_with fail; go_ret; exact ⟨_, rfl, HB2.out⟩
  ·
   clear k6 k7 k8 k9 k11 k13 k14 k15 k16 k17 k18 k20 kS e1 e2 f1 f2 f3 f4 f6 f8 f9 f10 f11 f12 f13 f15; have HR := Lh hr; clear hr; obtain ⟨l1, hl1⟩ : ∃ x, x = l ++ [102, 97, 108, 115, 101] := ⟨_, rfl⟩
   have ql1 : l.length + 5 ≤ l1.length := by rw [hl1, List.length_append]; exact Nat.le_refl _
   obtain ⟨l2, hl2⟩ : ∃ x, x = itr (fun _ t l => pr n t l) xsl 0 l1 := ⟨_, rfl⟩
   have ql2 : l1.length ≤ l2.length := by rw [hl2]; exact itrLe (fun _ _ _ => prLe _ _ _) _ _ _
   have hX : l' = l2 := by rw [hl]; rw [hl2, hl1]; rfl
   rw [hX] at hlen; have HQ := Lh (And.intro hlen (And.intro ql1 ql2)); have HLl1 := Lh hl1; have HLl2 := Lh hl2; rw [hX]; clear hX hlen hl ql1 ql2 hl1 hl2; obtain ⟨zHR_0, zHR_5, zHR_14, zHR_16⟩ := (HR.out.at hp HB.out.below).cs4 0 5 14 16; go_enter Tryz.func8, Tryz.ntmps8; go_wp2_with (at_builtin; refine HB.out.str rfl _ _ rfl (by rfl) (⟨#[102, 97, 108, 115, 101]⟩ : ByteArray) (by rfl) l1 HLl1.out (by have := HQ.out; omega) ?_); intro VA1 vn1 vc1 w1 hb; have HB1 := Lh hb; clear hb; clear zHR_0 zHR_5 zHR_14 zHR_16; obtain ⟨zHR_0, zHR_5, zHR_14, zHR_16⟩ := (HR.out.at hp HB1.out.below).cs4 0 5 14 16; go_wp2_with fail; go_loopw [0, 391] (fun v t wr => ∃ (j : Nat) (c : L8), j ≤ N16 ∧ t = .int .i64 j ∧ BN B w0 c v wr ∧ l2 = itr (fun _ t l => pr n t l) (xsl.drop j) j c) (fun _ t _ => N16 - (intOf t).toNat)
   case atStart =>
    exact ⟨0, l1, Nat.zero_le _, rfl, HB1.out, HLl2.out⟩
   case round =>
    obtain ⟨j, c, hj, rfl, hb, hx⟩ := hrel; obtain ⟨Ac, nc, cc, rfl, -⟩ := hb.form; have HB100 := Lh hb; have HXC := Lh hx; clear hb hx
    by_cases hlt : j < N16
    ·
     obtain ⟨ab, ao, q, t, hA, hcl, hst, hat, hW⟩ := LS16.out.kid HB100.out.below hlt (fun _ t l => pr n t l) c; subst hA; have hc := hcl _ HB100.out.below; have HST := Lh hst; have HAT := Lh hat; clear hcl hst hat; obtain ⟨c1, hc1⟩ : ∃ x, x = pr n t c := ⟨_, rfl⟩
     have qc1 : c.length ≤ c1.length := by rw [hc1]; exact prLe _ _ _
     have hf9 : (fun _ t l => pr n t l) j t c = c1 := by rw [hc1]
     have hx8 : l2 = itr (fun _ t l => pr n t l) (xsl.drop (j + 1)) (j + 1) c1 := by rw [← hf9]; exact HXC.out.trans HST.out
     have q9 : c1.length ≤ l2.length := by rw [hx8]; exact itrLe (fun _ _ _ => prLe _ _ _) _ _ _
     have HXD := Lh hx8; have HQC := Lh ((And.intro qc1 q9)); have HLc1 := Lh hc1; clear hf9 hx8 q9 qc1 hc1; go_wp2_with fail; refine (IHsf w0 _ B q _ c c1 t hW HAT.out HB100.out HE.out HLc1.out (by have := HQ.out; have := HQC.out; omega)).mono ?_; rintro e w101 ⟨v9, rfl, hb⟩; obtain ⟨VA101, vn101, vc101, rfl, -⟩ := hb.form; have HB101 := Lh hb; clear hb; go_wp2_with fail; exact ⟨⟨j + 1, c1, by omega, by go_num, HB101.out, HXD.out⟩, by simp [intOf]; omega⟩
    ·
     obtain rfl : N16 = j := by omega
     have hx9 : l2 = c := HXC.out.trans (LS16.out.fin _ c); have HB2 := Lh (show BN B w0 l2 (.slice Ac nc cc) _ from by rw [hx9]; exact HB100.out); clear hx9; obtain ⟨zHR_0, zHR_5, zHR_14, zHR_16⟩ := (HR.out.at hp HB2.out.below).cs4 0 5 14 16; go_wp2_with fail; go_ret; exact ⟨_, rfl, HB2.out⟩
  ·
   rcases FV.pt f1 with ⟨rfl, rfl⟩ | ⟨y, r, rfl, rfl, ay⟩
   ·
    exact absurd (k6 rfl) (by simp)
   ·
    have HA := Lh ay; clear k6 k7 k8 k9 k11 k13 k14 k15 k16 k17 k18 k20 kS e1 e2 ay f1 f2 f3 f4 f6 f8 f9 f10 f11 f12 f13 f15; have HR := Lh hr; clear hr; obtain ⟨l1, hl1⟩ : ∃ x, x = pr n y l := ⟨_, rfl⟩
    have ql1 : l.length ≤ l1.length := by rw [hl1]; exact prLe _ _ _
    obtain ⟨l2, hl2⟩ : ∃ x, x = itr (fun _ t l => pr n t l) xsl 0 l1 := ⟨_, rfl⟩
    have ql2 : l1.length ≤ l2.length := by rw [hl2]; exact itrLe (fun _ _ _ => prLe _ _ _) _ _ _
    have hX : l' = l2 := by rw [hl]; rw [hl2, hl1]; rfl
    rw [hX] at hlen; have HQ := Lh (And.intro hlen (And.intro ql1 ql2)); have HLl1 := Lh hl1; have HLl2 := Lh hl2; rw [hX]; clear hX hlen hl ql1 ql2 hl1 hl2; obtain ⟨zHR_0, zHR_1, zHR_16⟩ := (HR.out.at hp HB.out.below).cs3 0 1 16; go_enter Tryz.func8, Tryz.ntmps8; go_wp2_with fail; refine (IHix w0 _ B r _ l l1 y (hix _ rfl) HA.out HB.out HE.out HLl1.out (by have := HQ.out; omega)).mono ?_; rintro e w1 ⟨v9, rfl, hb⟩; obtain ⟨VA1, vn1, vc1, rfl, -⟩ := hb.form; have HB1 := Lh hb; clear hb; clear zHR_0 zHR_1 zHR_16; obtain ⟨zHR_0, zHR_1, zHR_16⟩ := (HR.out.at hp HB1.out.below).cs3 0 1 16; go_wp2_with fail; go_loopw [0, 391] (fun v t wr => ∃ (j : Nat) (c : L8), j ≤ N16 ∧ t = .int .i64 j ∧ BN B w0 c v wr ∧ l2 = itr (fun _ t l => pr n t l) (xsl.drop j) j c) (fun _ t _ => N16 - (intOf t).toNat)
    case atStart =>
     exact ⟨0, l1, Nat.zero_le _, rfl, HB1.out, HLl2.out⟩
    case round =>
     obtain ⟨j, c, hj, rfl, hb, hx⟩ := hrel; obtain ⟨Ac, nc, cc, rfl, -⟩ := hb.form; have HB100 := Lh hb; have HXC := Lh hx; clear hb hx
     by_cases hlt : j < N16
     ·
      obtain ⟨ab, ao, q, t, hA, hcl, hst, hat, hW⟩ := LS16.out.kid HB100.out.below hlt (fun _ t l => pr n t l) c; subst hA; have hc := hcl _ HB100.out.below; have HST := Lh hst; have HAT := Lh hat; clear hcl hst hat; obtain ⟨c1, hc1⟩ : ∃ x, x = pr n t c := ⟨_, rfl⟩
      have qc1 : c.length ≤ c1.length := by rw [hc1]; exact prLe _ _ _
      have hf9 : (fun _ t l => pr n t l) j t c = c1 := by rw [hc1]
      have hx8 : l2 = itr (fun _ t l => pr n t l) (xsl.drop (j + 1)) (j + 1) c1 := by rw [← hf9]; exact HXC.out.trans HST.out
      have q9 : c1.length ≤ l2.length := by rw [hx8]; exact itrLe (fun _ _ _ => prLe _ _ _) _ _ _
      have HXD := Lh hx8; have HQC := Lh ((And.intro qc1 q9)); have HLc1 := Lh hc1; clear hf9 hx8 q9 qc1 hc1; go_wp2_with fail; refine (IHsf w0 _ B q _ c c1 t hW HAT.out HB100.out HE.out HLc1.out (by have := HQ.out; have := HQC.out; omega)).mono ?_; rintro e w101 ⟨v9, rfl, hb⟩; obtain ⟨VA101, vn101, vc101, rfl, -⟩ := hb.form; have HB101 := Lh hb; clear hb; go_wp2_with fail; exact ⟨⟨j + 1, c1, by omega, by go_num, HB101.out, HXD.out⟩, by simp [intOf]; omega⟩
     ·
      obtain rfl : N16 = j := by omega
      have hx9 : l2 = c := HXC.out.trans (LS16.out.fin _ c); have HB2 := Lh (show BN B w0 l2 (.slice Ac nc cc) _ from by rw [hx9]; exact HB100.out); clear hx9; obtain ⟨zHR_0, zHR_1, zHR_16⟩ := (HR.out.at hp HB2.out.below).cs3 0 1 16; go_wp2_with fail; go_ret; exact ⟨_, rfl, HB2.out⟩
  ·
   rcases FV.pt f2 with ⟨rfl, rfl⟩ | ⟨y, r, rfl, rfl, ay⟩
   ·
    exact absurd (k7 rfl) (by simp)
   ·
    have HAT := Lh ay; clear k6 k7 k8 k9 k11 k13 k14 k15 k16 k17 k18 k20 kS e1 e2 ay f1 f2 f3 f4 f6 f8 f9 f10 f11 f12 f13 f15; have HR := Lh hr; clear hr
    obtain ⟨m, hnm⟩ : ∃ m, n = m + 1 := by cases n with | zero => exact HAT.out.elim | succ m => exact ⟨m, rfl⟩
    have ham := HAT.out; rw [hnm] at ham; have hwy := hfn _ rfl; clear hfn
    cases hwy with
    | fn xna xaa xags gA hA =>
     obtain ⟨hpy, u1, hry, f20⟩ := inv_fn ham; clear ham; obtain ⟨X20, M20, N20, rfl, hnn20, ls20⟩ := FV.ls .q hA f20; have LS20 := Lh ls20; have len20 := ls20.len
     have bnd20 : N20 ≤ 3 := by have := gA; omega
     clear ls20 f20; have HRY := Lh hry; clear hry hnn20
     by_cases hz : N20 = 0
     ·
      have hz2 : xags = [] := List.length_eq_zero_iff.1 (len20.trans hz); subst hz hz2; clear len20; obtain ⟨l1, hl1⟩ : ∃ x, x = l ++ xna.data.toList := ⟨_, rfl⟩
      have ql1 : l.length ≤ l1.length := by rw [hl1, List.length_append]; omega
      obtain ⟨l2, hl2⟩ : ∃ x, x = itr (fun _ t l => pr n t l) xsl 0 l1 := ⟨_, rfl⟩
      have ql2 : l1.length ≤ l2.length := by rw [hl2]; exact itrLe (fun _ _ _ => prLe _ _ _) _ _ _
      have hX : l' = l2 := by rw [hl]; rw [hl2, hl1, hnm]; rfl
      rw [hX] at hlen; have HQ := Lh (And.intro hlen (And.intro ql1 ql2)); have HLl1 := Lh hl1; have HLl2 := Lh hl2; rw [hX]; clear hX hlen hl ql1 ql2 hl1 hl2; obtain ⟨zHR_0, zHR_2, zHR_16⟩ := (HR.out.at hp HB.out.below).cs3 0 2 16; obtain ⟨zHRY_0, zHRY_1⟩ := (HRY.out.at hpy HB.out.below).cs2 0 1; go_enter Tryz.func8, Tryz.ntmps8; go_wp2_with (at_builtin; refine HB.out.str rfl _ _ rfl (by rfl) xna (by rfl) l1 HLl1.out (by have := HQ.out; omega) ?_); intro VA1 vn1 vc1 w1 hb; have HB1 := Lh hb; clear hb; clear zHR_0 zHR_2 zHR_16 zHRY_0 zHRY_1; obtain ⟨zHR_0, zHR_2, zHR_16⟩ := (HR.out.at hp HB1.out.below).cs3 0 2 16; obtain ⟨zHRY_0, zHRY_1⟩ := (HRY.out.at hpy HB1.out.below).cs2 0 1; go_wp2_with fail; go_loopw [0, 391] (fun v t wr => ∃ (j : Nat) (c : L8), j ≤ N16 ∧ t = .int .i64 j ∧ BN B w0 c v wr ∧ l2 = itr (fun _ t l => pr n t l) (xsl.drop j) j c) (fun _ t _ => N16 - (intOf t).toNat)
      case atStart =>
       exact ⟨0, l1, Nat.zero_le _, rfl, HB1.out, HLl2.out⟩
      case round =>
       obtain ⟨j, c, hj, rfl, hb, hx⟩ := hrel; obtain ⟨Ac, nc, cc, rfl, -⟩ := hb.form; have HB100 := Lh hb; have HXC := Lh hx; clear hb hx
       by_cases hlt : j < N16
       ·
        obtain ⟨ab, ao, q, t, hA, hcl, hst, hat, hW⟩ := LS16.out.kid HB100.out.below hlt (fun _ t l => pr n t l) c; subst hA; have hc := hcl _ HB100.out.below; have HST := Lh hst; have HAT := Lh hat; clear hcl hst hat; obtain ⟨c1, hc1⟩ : ∃ x, x = pr n t c := ⟨_, rfl⟩
        have qc1 : c.length ≤ c1.length := by rw [hc1]; exact prLe _ _ _
        have hf9 : (fun _ t l => pr n t l) j t c = c1 := by rw [hc1]
        have hx8 : l2 = itr (fun _ t l => pr n t l) (xsl.drop (j + 1)) (j + 1) c1 := by rw [← hf9]; exact HXC.out.trans HST.out
        have q9 : c1.length ≤ l2.length := by rw [hx8]; exact itrLe (fun _ _ _ => prLe _ _ _) _ _ _
        have HXD := Lh hx8; have HQC := Lh ((And.intro qc1 q9)); have HLc1 := Lh hc1; clear hf9 hx8 q9 qc1 hc1; go_wp2_with fail; refine (IHsf w0 _ B q _ c c1 t hW HAT.out HB100.out HE.out HLc1.out (by have := HQ.out; have := HQC.out; omega)).mono ?_; rintro e w101 ⟨v9, rfl, hb⟩; obtain ⟨VA101, vn101, vc101, rfl, -⟩ := hb.form; have HB101 := Lh hb; clear hb; go_wp2_with fail; exact ⟨⟨j + 1, c1, by omega, by go_num, HB101.out, HXD.out⟩, by simp [intOf]; omega⟩
       ·
        obtain rfl : N16 = j := by omega
        have hx9 : l2 = c := HXC.out.trans (LS16.out.fin _ c); have HB2 := Lh (show BN B w0 l2 (.slice Ac nc cc) _ from by rw [hx9]; exact HB100.out); clear hx9; obtain ⟨zHR_0, zHR_2, zHR_16⟩ := (HR.out.at hp HB2.out.below).cs3 0 2 16; obtain ⟨zHRY_0, zHRY_1⟩ := (HRY.out.at hpy HB2.out.below).cs2 0 1; go_wp2_with fail; go_ret; exact ⟨_, rfl, HB2.out⟩
     ·
      have HZ := Lh (show ¬ xags.length = 0 by omega)
      have hz3 : 0 < N20 := by omega
      obtain ⟨l1, hl1⟩ : ∃ x, x = l ++ xna.data.toList := ⟨_, rfl⟩
      have ql1 : l.length ≤ l1.length := by rw [hl1, List.length_append]; omega
      obtain ⟨l2, hl2⟩ : ∃ x, x = l1 ++ [40] := ⟨_, rfl⟩
      have ql2 : l1.length + 1 ≤ l2.length := by rw [hl2, List.length_append]; exact Nat.le_refl _
      obtain ⟨l3, hl3⟩ : ∃ x, x = itr (fun j t l => pr m t (if j = 0 then l else l ++ [59, 32])) xags 0 l2 := ⟨_, rfl⟩
      have ql3 : l2.length ≤ l3.length := by rw [hl3]; exact itrLe (fun j t l => by have h1 := prLe m t l; have h2 := prLe m t (l ++ [59, 32]); rw [List.length_append] at h2; split <;> omega) _ _ _
      obtain ⟨l4, hl4⟩ : ∃ x, x = l3 ++ [41] := ⟨_, rfl⟩
      have ql4 : l3.length + 1 ≤ l4.length := by rw [hl4, List.length_append]; exact Nat.le_refl _
      obtain ⟨l5, hl5⟩ : ∃ x, x = itr (fun _ t l => pr n t l) xsl 0 l4 := ⟨_, rfl⟩
      have ql5 : l4.length ≤ l5.length := by rw [hl5]; exact itrLe (fun _ _ _ => prLe _ _ _) _ _ _
      have hX : l' = l5 := by rw [hl]; rw [hl5, hl4, hl3, hl2, hl1, hnm]; show itr _ xsl 0 (if xags.length = 0 then _ else _) = _; rw [if_neg HZ.out]; (try rfl)
      rw [hX] at hlen; have HQ := Lh (And.intro hlen (And.intro ql1 (And.intro ql2 (And.intro ql3 (And.intro ql4 ql5))))); have HLl1 := Lh hl1; have HLl2 := Lh hl2; have HLl3 := Lh hl3; have HLl4 := Lh hl4; have HLl5 := Lh hl5; rw [hX]; clear hX hlen hl ql1 ql2 ql3 ql4 ql5 hl1 hl2 hl3 hl4 hl5; obtain ⟨zHR_0, zHR_2, zHR_16⟩ := (HR.out.at hp HB.out.below).cs3 0 2 16; obtain ⟨zHRY_0, zHRY_1⟩ := (HRY.out.at hpy HB.out.below).cs2 0 1; go_enter Tryz.func8, Tryz.ntmps8; go_wp2_with (at_builtin; refine HB.out.str rfl _ _ rfl (by rfl) xna (by rfl) l1 HLl1.out (by have := HQ.out; omega) ?_); intro VA1 vn1 vc1 w1 hb; have HB1 := Lh hb; clear hb; clear zHR_0 zHR_2 zHR_16 zHRY_0 zHRY_1; obtain ⟨zHR_0, zHR_2, zHR_16⟩ := (HR.out.at hp HB1.out.below).cs3 0 2 16; obtain ⟨zHRY_0, zHRY_1⟩ := (HRY.out.at hpy HB1.out.below).cs2 0 1; go_wp2_with (at_builtin; refine HB1.out.byt rfl _ _ rfl (by rfl) 40 _ rfl _ rfl rfl (by rfl) l2 HLl2.out (by have := HQ.out; omega) ?_); intro VA2 vn2 vc2 w2 hb; have HB2 := Lh hb; clear hb; clear zHR_0 zHR_2 zHR_16 zHRY_0 zHRY_1; obtain ⟨zHR_0, zHR_2, zHR_16⟩ := (HR.out.at hp HB2.out.below).cs3 0 2 16; obtain ⟨zHRY_0, zHRY_1⟩ := (HRY.out.at hpy HB2.out.below).cs2 0 1; go_wp2_with fail; go_loopw [0, 73] (fun v t wr => ∃ (j : Nat) (c : L8), j ≤ N20 ∧ t = .int .i64 j ∧ BN B w0 c v wr ∧ l3 = itr (fun j t l => pr m t (if j = 0 then l else l ++ [59, 32])) (xags.drop j) j c) (fun _ t _ => N20 - (intOf t).toNat)
      case atStart =>
       exact ⟨0, l2, Nat.zero_le _, rfl, HB2.out, HLl3.out⟩
      case round =>
       obtain ⟨j, c, hj, rfl, hb, hx⟩ := hrel; obtain ⟨Ac, nc, cc, rfl, -⟩ := hb.form; have HB100 := Lh hb; have HXC := Lh hx; clear hb hx
       by_cases hlt : j < N20
       ·
        obtain ⟨ab, ao, q, t, hA, hcl, hst, hat, hW⟩ := LS20.out.kid HB100.out.below hlt (fun j t l => pr m t (if j = 0 then l else l ++ [59, 32])) c; subst hA; have hc := hcl _ HB100.out.below; have HST := Lh hst; have HAT := Lh hat; clear hcl hst hat
        by_cases hj0 : 0 < j
        ·
         obtain ⟨c1, hc1⟩ : ∃ x, x = c ++ [59, 32] := ⟨_, rfl⟩
         have qc1 : c.length + 2 ≤ c1.length := by rw [hc1, List.length_append]; exact Nat.le_refl _
         obtain ⟨c2, hc2⟩ : ∃ x, x = pr m t c1 := ⟨_, rfl⟩
         have qc2 : c1.length ≤ c2.length := by rw [hc2]; exact prLe _ _ _
         have hf9 : (fun j t l => pr m t (if j = 0 then l else l ++ [59, 32])) j t c = c2 := by rw [hc2, hc1]; show pr m t (if j = 0 then c else c ++ [59, 32]) = _; rw [if_neg (by omega)]
         have hx8 : l3 = itr (fun j t l => pr m t (if j = 0 then l else l ++ [59, 32])) (xags.drop (j + 1)) (j + 1) c2 := by rw [← hf9]; exact HXC.out.trans HST.out
         have q9 : c2.length ≤ l3.length := by rw [hx8]; exact itrLe (fun j t l => by have h1 := prLe m t l; have h2 := prLe m t (l ++ [59, 32]); rw [List.length_append] at h2; split <;> omega) _ _ _
         have HXD := Lh hx8; have HQC := Lh ((And.intro qc1 (And.intro qc2 q9))); have HLc1 := Lh hc1; have HLc2 := Lh hc2; clear hf9 hx8 q9 qc1 qc2 hc1 hc2; go_wp2_with (at_builtin; refine HB100.out.str rfl _ _ rfl (by rfl) (⟨#[59, 32]⟩ : ByteArray) (by rfl) c1 HLc1.out (by have := HQ.out; have := HQC.out; omega) ?_); intro VA101 vn101 vc101 w101 hb; have HB101 := Lh hb; clear hb; go_wp2_with fail; refine ((IHq' m hnm) w0 _ B q _ c1 c2 t hW HAT.out HB101.out HE.out HLc2.out (by have := HQ.out; have := HQC.out; omega)).mono ?_; rintro e w102 ⟨v9, rfl, hb⟩; obtain ⟨VA102, vn102, vc102, rfl, -⟩ := hb.form; have HB102 := Lh hb; clear hb; go_wp2_with fail; exact ⟨⟨j + 1, c2, by omega, by go_num, HB102.out, HXD.out⟩, by simp [intOf]; omega⟩
        ·
         obtain ⟨c1, hc1⟩ : ∃ x, x = pr m t c := ⟨_, rfl⟩
         have qc1 : c.length ≤ c1.length := by rw [hc1]; exact prLe _ _ _
         have hf9 : (fun j t l => pr m t (if j = 0 then l else l ++ [59, 32])) j t c = c1 := by rw [hc1]; show pr m t (if j = 0 then c else c ++ [59, 32]) = _; rw [if_pos (by omega)]
         have hx8 : l3 = itr (fun j t l => pr m t (if j = 0 then l else l ++ [59, 32])) (xags.drop (j + 1)) (j + 1) c1 := by rw [← hf9]; exact HXC.out.trans HST.out
         have q9 : c1.length ≤ l3.length := by rw [hx8]; exact itrLe (fun j t l => by have h1 := prLe m t l; have h2 := prLe m t (l ++ [59, 32]); rw [List.length_append] at h2; split <;> omega) _ _ _
         have HXD := Lh hx8; have HQC := Lh ((And.intro qc1 q9)); have HLc1 := Lh hc1; clear hf9 hx8 q9 qc1 hc1; go_wp2_with fail; refine ((IHq' m hnm) w0 _ B q _ c c1 t hW HAT.out HB100.out HE.out HLc1.out (by have := HQ.out; have := HQC.out; omega)).mono ?_; rintro e w101 ⟨v9, rfl, hb⟩; obtain ⟨VA101, vn101, vc101, rfl, -⟩ := hb.form; have HB101 := Lh hb; clear hb; go_wp2_with fail; exact ⟨⟨j + 1, c1, by omega, by go_num, HB101.out, HXD.out⟩, by simp [intOf]; omega⟩
       ·
        obtain rfl : N20 = j := by omega
        have hx9 : l3 = c := HXC.out.trans (LS20.out.fin _ c); have HB3 := Lh (show BN B w0 l3 (.slice Ac nc cc) _ from by rw [hx9]; exact HB100.out); clear hx9; obtain ⟨zHR_0, zHR_2, zHR_16⟩ := (HR.out.at hp HB3.out.below).cs3 0 2 16; obtain ⟨zHRY_0, zHRY_1⟩ := (HRY.out.at hpy HB3.out.below).cs2 0 1; go_wp2_with (at_builtin; refine HB3.out.byt rfl _ _ rfl (by rfl) 41 _ rfl _ rfl rfl (by rfl) l4 HLl4.out (by have := HQ.out; omega) ?_); intro VA4 vn4 vc4 w4 hb; have HB4 := Lh hb; clear hb; clear zHR_0 zHR_2 zHR_16 zHRY_0 zHRY_1; obtain ⟨zHR_0, zHR_2, zHR_16⟩ := (HR.out.at hp HB4.out.below).cs3 0 2 16; obtain ⟨zHRY_0, zHRY_1⟩ := (HRY.out.at hpy HB4.out.below).cs2 0 1; go_wp2_with fail; go_loopw [0, 391] (fun v t wr => ∃ (j : Nat) (c : L8), j ≤ N16 ∧ t = .int .i64 j ∧ BN B w0 c v wr ∧ l5 = itr (fun _ t l => pr n t l) (xsl.drop j) j c) (fun _ t _ => N16 - (intOf t).toNat)
        case atStart =>
         exact ⟨0, l4, Nat.zero_le _, rfl, HB4.out, HLl5.out⟩
        case round =>
         obtain ⟨j, c, hj, rfl, hb, hx⟩ := hrel; obtain ⟨Ac, nc, cc, rfl, -⟩ := hb.form; have HB100 := Lh hb; have HXC := Lh hx; clear hb hx
         by_cases hlt : j < N16
         ·
          obtain ⟨ab, ao, q, t, hA, hcl, hst, hat, hW⟩ := LS16.out.kid HB100.out.below hlt (fun _ t l => pr n t l) c; subst hA; have hc := hcl _ HB100.out.below; have HST := Lh hst; have HAT := Lh hat; clear hcl hst hat; obtain ⟨c1, hc1⟩ : ∃ x, x = pr n t c := ⟨_, rfl⟩
          have qc1 : c.length ≤ c1.length := by rw [hc1]; exact prLe _ _ _
          have hf9 : (fun _ t l => pr n t l) j t c = c1 := by rw [hc1]
          have hx8 : l5 = itr (fun _ t l => pr n t l) (xsl.drop (j + 1)) (j + 1) c1 := by rw [← hf9]; exact HXC.out.trans HST.out
          have q9 : c1.length ≤ l5.length := by rw [hx8]; exact itrLe (fun _ _ _ => prLe _ _ _) _ _ _
          have HXD := Lh hx8; have HQC := Lh ((And.intro qc1 q9)); have HLc1 := Lh hc1; clear hf9 hx8 q9 qc1 hc1; go_wp2_with fail; refine (IHsf w0 _ B q _ c c1 t hW HAT.out HB100.out HE.out HLc1.out (by have := HQ.out; have := HQC.out; omega)).mono ?_; rintro e w101 ⟨v9, rfl, hb⟩; obtain ⟨VA101, vn101, vc101, rfl, -⟩ := hb.form; have HB101 := Lh hb; clear hb; go_wp2_with fail; exact ⟨⟨j + 1, c1, by omega, by go_num, HB101.out, HXD.out⟩, by simp [intOf]; omega⟩
         ·
          obtain rfl : N16 = j := by omega
          have hx9 : l5 = c := HXC.out.trans (LS16.out.fin _ c); have HB5 := Lh (show BN B w0 l5 (.slice Ac nc cc) _ from by rw [hx9]; exact HB100.out); clear hx9; obtain ⟨zHR_0, zHR_2, zHR_16⟩ := (HR.out.at hp HB5.out.below).cs3 0 2 16; obtain ⟨zHRY_0, zHRY_1⟩ := (HRY.out.at hpy HB5.out.below).cs2 0 1; go_wp2_with fail; go_ret; exact ⟨_, rfl, HB5.out⟩
  ·
   rcases FV.pt f3 with ⟨rfl, rfl⟩ | ⟨y, r, rfl, rfl, ay⟩
   ·
    exact absurd (k8 rfl) (by simp)
   ·
    have HA := Lh ay; clear k6 k7 k8 k9 k11 k13 k14 k15 k16 k17 k18 k20 kS e1 e2 ay f1 f2 f3 f4 f6 f8 f9 f10 f11 f12 f13 f15; have HR := Lh hr; clear hr; obtain ⟨l1, hl1⟩ : ∃ x, x = pr n y l := ⟨_, rfl⟩
    have ql1 : l.length ≤ l1.length := by rw [hl1]; exact prLe _ _ _
    obtain ⟨l2, hl2⟩ : ∃ x, x = itr (fun _ t l => pr n t l) xsl 0 l1 := ⟨_, rfl⟩
    have ql2 : l1.length ≤ l2.length := by rw [hl2]; exact itrLe (fun _ _ _ => prLe _ _ _) _ _ _
    have hX : l' = l2 := by rw [hl]; rw [hl2, hl1]; rfl
    rw [hX] at hlen; have HQ := Lh (And.intro hlen (And.intro ql1 ql2)); have HLl1 := Lh hl1; have HLl2 := Lh hl2; rw [hX]; clear hX hlen hl ql1 ql2 hl1 hl2; obtain ⟨zHR_0, zHR_3, zHR_16⟩ := (HR.out.at hp HB.out.below).cs3 0 3 16; go_enter Tryz.func8, Tryz.ntmps8; go_wp2_with fail; refine (IHob w0 _ B r _ l l1 y (hob _ rfl) HA.out HB.out HE.out HLl1.out (by have := HQ.out; omega)).mono ?_; rintro e w1 ⟨v9, rfl, hb⟩; obtain ⟨VA1, vn1, vc1, rfl, -⟩ := hb.form; have HB1 := Lh hb; clear hb; clear zHR_0 zHR_3 zHR_16; obtain ⟨zHR_0, zHR_3, zHR_16⟩ := (HR.out.at hp HB1.out.below).cs3 0 3 16; go_wp2_with fail; go_loopw [0, 391] (fun v t wr => ∃ (j : Nat) (c : L8), j ≤ N16 ∧ t = .int .i64 j ∧ BN B w0 c v wr ∧ l2 = itr (fun _ t l => pr n t l) (xsl.drop j) j c) (fun _ t _ => N16 - (intOf t).toNat)
    case atStart =>
     exact ⟨0, l1, Nat.zero_le _, rfl, HB1.out, HLl2.out⟩
    case round =>
     obtain ⟨j, c, hj, rfl, hb, hx⟩ := hrel; obtain ⟨Ac, nc, cc, rfl, -⟩ := hb.form; have HB100 := Lh hb; have HXC := Lh hx; clear hb hx
     by_cases hlt : j < N16
     ·
      obtain ⟨ab, ao, q, t, hA, hcl, hst, hat, hW⟩ := LS16.out.kid HB100.out.below hlt (fun _ t l => pr n t l) c; subst hA; have hc := hcl _ HB100.out.below; have HST := Lh hst; have HAT := Lh hat; clear hcl hst hat; obtain ⟨c1, hc1⟩ : ∃ x, x = pr n t c := ⟨_, rfl⟩
      have qc1 : c.length ≤ c1.length := by rw [hc1]; exact prLe _ _ _
      have hf9 : (fun _ t l => pr n t l) j t c = c1 := by rw [hc1]
      have hx8 : l2 = itr (fun _ t l => pr n t l) (xsl.drop (j + 1)) (j + 1) c1 := by rw [← hf9]; exact HXC.out.trans HST.out
      have q9 : c1.length ≤ l2.length := by rw [hx8]; exact itrLe (fun _ _ _ => prLe _ _ _) _ _ _
      have HXD := Lh hx8; have HQC := Lh ((And.intro qc1 q9)); have HLc1 := Lh hc1; clear hf9 hx8 q9 qc1 hc1; go_wp2_with fail; refine (IHsf w0 _ B q _ c c1 t hW HAT.out HB100.out HE.out HLc1.out (by have := HQ.out; have := HQC.out; omega)).mono ?_; rintro e w101 ⟨v9, rfl, hb⟩; obtain ⟨VA101, vn101, vc101, rfl, -⟩ := hb.form; have HB101 := Lh hb; clear hb; go_wp2_with fail; exact ⟨⟨j + 1, c1, by omega, by go_num, HB101.out, HXD.out⟩, by simp [intOf]; omega⟩
     ·
      obtain rfl : N16 = j := by omega
      have hx9 : l2 = c := HXC.out.trans (LS16.out.fin _ c); have HB2 := Lh (show BN B w0 l2 (.slice Ac nc cc) _ from by rw [hx9]; exact HB100.out); clear hx9; obtain ⟨zHR_0, zHR_3, zHR_16⟩ := (HR.out.at hp HB2.out.below).cs3 0 3 16; go_wp2_with fail; go_ret; exact ⟨_, rfl, HB2.out⟩
  ·
   rcases FV.pt f4 with ⟨rfl, rfl⟩ | ⟨y, r, rfl, rfl, ay⟩
   ·
    exact absurd (k9 rfl) (by simp)
   ·
    have HAT := Lh ay; clear k6 k7 k8 k9 k11 k13 k14 k15 k16 k17 k18 k20 kS e1 e2 ay f1 f2 f3 f4 f6 f8 f9 f10 f11 f12 f13 f15; have HR := Lh hr; clear hr
    obtain ⟨m, hnm⟩ : ∃ m, n = m + 1 := by cases n with | zero => exact HAT.out.elim | succ m => exact ⟨m, rfl⟩
    have ham := HAT.out; rw [hnm] at ham; have hwy := har _ rfl; clear har
    cases hwy with
    | ar xq2 hq2 =>
     obtain ⟨hpy, u0, hry, p0⟩ := inv_ar ham; clear ham; rcases FV.pt p0 with ⟨rfl, rfl⟩ | ⟨y20, r20, rfl, rfl, a20⟩
     ·
      have HRY := Lh hry; clear hry p0; obtain ⟨l1, hl1⟩ : ∃ x, x = l ++ [91] := ⟨_, rfl⟩
      have ql1 : l.length + 1 ≤ l1.length := by rw [hl1, List.length_append]; exact Nat.le_refl _
      obtain ⟨l2, hl2⟩ : ∃ x, x = l1 ++ [93] := ⟨_, rfl⟩
      have ql2 : l1.length + 1 ≤ l2.length := by rw [hl2, List.length_append]; exact Nat.le_refl _
      obtain ⟨l3, hl3⟩ : ∃ x, x = itr (fun _ t l => pr n t l) xsl 0 l2 := ⟨_, rfl⟩
      have ql3 : l2.length ≤ l3.length := by rw [hl3]; exact itrLe (fun _ _ _ => prLe _ _ _) _ _ _
      have hX : l' = l3 := by rw [hl]; rw [hl3, hl2, hl1, hnm]; rfl
      rw [hX] at hlen; have HQ := Lh (And.intro hlen (And.intro ql1 (And.intro ql2 ql3))); have HLl1 := Lh hl1; have HLl2 := Lh hl2; have HLl3 := Lh hl3; rw [hX]; clear hX hlen hl ql1 ql2 ql3 hl1 hl2 hl3; obtain ⟨zHR_0, zHR_4, zHR_16⟩ := (HR.out.at hp HB.out.below).cs3 0 4 16; have zHRY_0 := (HRY.out.at hpy HB.out.below).cell 0; go_enter Tryz.func8, Tryz.ntmps8; go_wp2_with (at_builtin; refine HB.out.byt rfl _ _ rfl (by rfl) 91 _ rfl _ rfl rfl (by rfl) l1 HLl1.out (by have := HQ.out; omega) ?_); intro VA1 vn1 vc1 w1 hb; have HB1 := Lh hb; clear hb; clear zHR_0 zHR_4 zHR_16 zHRY_0; obtain ⟨zHR_0, zHR_4, zHR_16⟩ := (HR.out.at hp HB1.out.below).cs3 0 4 16; have zHRY_0 := (HRY.out.at hpy HB1.out.below).cell 0; go_wp2_with (at_builtin; refine HB1.out.byt rfl _ _ rfl (by rfl) 93 _ rfl _ rfl rfl (by rfl) l2 HLl2.out (by have := HQ.out; omega) ?_); intro VA2 vn2 vc2 w2 hb; have HB2 := Lh hb; clear hb; clear zHR_0 zHR_4 zHR_16 zHRY_0; obtain ⟨zHR_0, zHR_4, zHR_16⟩ := (HR.out.at hp HB2.out.below).cs3 0 4 16; have zHRY_0 := (HRY.out.at hpy HB2.out.below).cell 0; go_wp2_with fail; go_loopw [0, 391] (fun v t wr => ∃ (j : Nat) (c : L8), j ≤ N16 ∧ t = .int .i64 j ∧ BN B w0 c v wr ∧ l3 = itr (fun _ t l => pr n t l) (xsl.drop j) j c) (fun _ t _ => N16 - (intOf t).toNat)
      case atStart =>
       exact ⟨0, l2, Nat.zero_le _, rfl, HB2.out, HLl3.out⟩
      case round =>
       obtain ⟨j, c, hj, rfl, hb, hx⟩ := hrel; obtain ⟨Ac, nc, cc, rfl, -⟩ := hb.form; have HB100 := Lh hb; have HXC := Lh hx; clear hb hx
       by_cases hlt : j < N16
       ·
        obtain ⟨ab, ao, q, t, hA, hcl, hst, hat, hW⟩ := LS16.out.kid HB100.out.below hlt (fun _ t l => pr n t l) c; subst hA; have hc := hcl _ HB100.out.below; have HST := Lh hst; have HAT := Lh hat; clear hcl hst hat; obtain ⟨c1, hc1⟩ : ∃ x, x = pr n t c := ⟨_, rfl⟩
        have qc1 : c.length ≤ c1.length := by rw [hc1]; exact prLe _ _ _
        have hf9 : (fun _ t l => pr n t l) j t c = c1 := by rw [hc1]
        have hx8 : l3 = itr (fun _ t l => pr n t l) (xsl.drop (j + 1)) (j + 1) c1 := by rw [← hf9]; exact HXC.out.trans HST.out
        have q9 : c1.length ≤ l3.length := by rw [hx8]; exact itrLe (fun _ _ _ => prLe _ _ _) _ _ _
        have HXD := Lh hx8; have HQC := Lh ((And.intro qc1 q9)); have HLc1 := Lh hc1; clear hf9 hx8 q9 qc1 hc1; go_wp2_with fail; refine (IHsf w0 _ B q _ c c1 t hW HAT.out HB100.out HE.out HLc1.out (by have := HQ.out; have := HQC.out; omega)).mono ?_; rintro e w101 ⟨v9, rfl, hb⟩; obtain ⟨VA101, vn101, vc101, rfl, -⟩ := hb.form; have HB101 := Lh hb; clear hb; go_wp2_with fail; exact ⟨⟨j + 1, c1, by omega, by go_num, HB101.out, HXD.out⟩, by simp [intOf]; omega⟩
       ·
        obtain rfl : N16 = j := by omega
        have hx9 : l3 = c := HXC.out.trans (LS16.out.fin _ c); have HB3 := Lh (show BN B w0 l3 (.slice Ac nc cc) _ from by rw [hx9]; exact HB100.out); clear hx9; obtain ⟨zHR_0, zHR_4, zHR_16⟩ := (HR.out.at hp HB3.out.below).cs3 0 4 16; have zHRY_0 := (HRY.out.at hpy HB3.out.below).cell 0; go_wp2_with fail; go_ret; exact ⟨_, rfl, HB3.out⟩
     ·
      have HA20 := Lh a20; clear a20; have HRY := Lh hry; clear hry p0; obtain ⟨l1, hl1⟩ : ∃ x, x = l ++ [91] := ⟨_, rfl⟩
      have ql1 : l.length + 1 ≤ l1.length := by rw [hl1, List.length_append]; exact Nat.le_refl _
      obtain ⟨l2, hl2⟩ : ∃ x, x = pr m y20 l1 := ⟨_, rfl⟩
      have ql2 : l1.length ≤ l2.length := by rw [hl2]; exact prLe _ _ _
      obtain ⟨l3, hl3⟩ : ∃ x, x = l2 ++ [93] := ⟨_, rfl⟩
      have ql3 : l2.length + 1 ≤ l3.length := by rw [hl3, List.length_append]; exact Nat.le_refl _
      obtain ⟨l4, hl4⟩ : ∃ x, x = itr (fun _ t l => pr n t l) xsl 0 l3 := ⟨_, rfl⟩
      have ql4 : l3.length ≤ l4.length := by rw [hl4]; exact itrLe (fun _ _ _ => prLe _ _ _) _ _ _
      have hX : l' = l4 := by rw [hl]; rw [hl4, hl3, hl2, hl1, hnm]; rfl
      rw [hX] at hlen; have HQ := Lh (And.intro hlen (And.intro ql1 (And.intro ql2 (And.intro ql3 ql4)))); have HLl1 := Lh hl1; have HLl2 := Lh hl2; have HLl3 := Lh hl3; have HLl4 := Lh hl4; rw [hX]; clear hX hlen hl ql1 ql2 ql3 ql4 hl1 hl2 hl3 hl4; obtain ⟨zHR_0, zHR_4, zHR_16⟩ := (HR.out.at hp HB.out.below).cs3 0 4 16; have zHRY_0 := (HRY.out.at hpy HB.out.below).cell 0; go_enter Tryz.func8, Tryz.ntmps8; go_wp2_with (at_builtin; refine HB.out.byt rfl _ _ rfl (by rfl) 91 _ rfl _ rfl rfl (by rfl) l1 HLl1.out (by have := HQ.out; omega) ?_); intro VA1 vn1 vc1 w1 hb; have HB1 := Lh hb; clear hb; clear zHR_0 zHR_4 zHR_16 zHRY_0; obtain ⟨zHR_0, zHR_4, zHR_16⟩ := (HR.out.at hp HB1.out.below).cs3 0 4 16; have zHRY_0 := (HRY.out.at hpy HB1.out.below).cell 0; go_wp2_with fail; refine ((IHq' m hnm) w0 _ B r20 _ l1 l2 y20 (hq2 _ rfl) HA20.out HB1.out HE.out HLl2.out (by have := HQ.out; omega)).mono ?_; rintro e w2 ⟨v9, rfl, hb⟩; obtain ⟨VA2, vn2, vc2, rfl, -⟩ := hb.form; have HB2 := Lh hb; clear hb; clear zHR_0 zHR_4 zHR_16 zHRY_0; obtain ⟨zHR_0, zHR_4, zHR_16⟩ := (HR.out.at hp HB2.out.below).cs3 0 4 16; have zHRY_0 := (HRY.out.at hpy HB2.out.below).cell 0; go_wp2_with (at_builtin; refine HB2.out.byt rfl _ _ rfl (by rfl) 93 _ rfl _ rfl rfl (by rfl) l3 HLl3.out (by have := HQ.out; omega) ?_)
      intro VA3 vn3 vc3 w3 hb; have HB3 := Lh hb; clear hb; clear zHR_0 zHR_4 zHR_16 zHRY_0; obtain ⟨zHR_0, zHR_4, zHR_16⟩ := (HR.out.at hp HB3.out.below).cs3 0 4 16; have zHRY_0 := (HRY.out.at hpy HB3.out.below).cell 0; go_wp2_with fail; go_loopw [0, 391] (fun v t wr => ∃ (j : Nat) (c : L8), j ≤ N16 ∧ t = .int .i64 j ∧ BN B w0 c v wr ∧ l4 = itr (fun _ t l => pr n t l) (xsl.drop j) j c) (fun _ t _ => N16 - (intOf t).toNat)
      case atStart =>
       exact ⟨0, l3, Nat.zero_le _, rfl, HB3.out, HLl4.out⟩
      case round =>
       obtain ⟨j, c, hj, rfl, hb, hx⟩ := hrel; obtain ⟨Ac, nc, cc, rfl, -⟩ := hb.form; have HB100 := Lh hb; have HXC := Lh hx; clear hb hx
       by_cases hlt : j < N16
       ·
        obtain ⟨ab, ao, q, t, hA, hcl, hst, hat, hW⟩ := LS16.out.kid HB100.out.below hlt (fun _ t l => pr n t l) c; subst hA; have hc := hcl _ HB100.out.below; have HST := Lh hst; have HAT := Lh hat; clear hcl hst hat; obtain ⟨c1, hc1⟩ : ∃ x, x = pr n t c := ⟨_, rfl⟩
        have qc1 : c.length ≤ c1.length := by rw [hc1]; exact prLe _ _ _
        have hf9 : (fun _ t l => pr n t l) j t c = c1 := by rw [hc1]
        have hx8 : l4 = itr (fun _ t l => pr n t l) (xsl.drop (j + 1)) (j + 1) c1 := by rw [← hf9]; exact HXC.out.trans HST.out
        have q9 : c1.length ≤ l4.length := by rw [hx8]; exact itrLe (fun _ _ _ => prLe _ _ _) _ _ _
        have HXD := Lh hx8; have HQC := Lh ((And.intro qc1 q9)); have HLc1 := Lh hc1; clear hf9 hx8 q9 qc1 hc1; go_wp2_with fail; refine (IHsf w0 _ B q _ c c1 t hW HAT.out HB100.out HE.out HLc1.out (by have := HQ.out; have := HQC.out; omega)).mono ?_; rintro e w101 ⟨v9, rfl, hb⟩; obtain ⟨VA101, vn101, vc101, rfl, -⟩ := hb.form; have HB101 := Lh hb; clear hb; go_wp2_with fail; exact ⟨⟨j + 1, c1, by omega, by go_num, HB101.out, HXD.out⟩, by simp [intOf]; omega⟩
       ·
        obtain rfl : N16 = j := by omega
        have hx9 : l4 = c := HXC.out.trans (LS16.out.fin _ c); have HB4 := Lh (show BN B w0 l4 (.slice Ac nc cc) _ from by rw [hx9]; exact HB100.out); clear hx9; obtain ⟨zHR_0, zHR_4, zHR_16⟩ := (HR.out.at hp HB4.out.below).cs3 0 4 16; have zHRY_0 := (HRY.out.at hpy HB4.out.below).cell 0; go_wp2_with fail; go_ret; exact ⟨_, rfl, HB4.out⟩
  ·
   clear k6 k7 k8 k9 k11 k13 k14 k15 k16 k17 k18 k20 kS e1 e2 f1 f2 f3 f4 f6 f8 f9 f10 f11 f12 f13 f15; have HR := Lh hr; clear hr; obtain ⟨l1, hl1⟩ : ∃ x, x = l ++ xnum.data.toList := ⟨_, rfl⟩
   have ql1 : l.length ≤ l1.length := by rw [hl1, List.length_append]; omega
   obtain ⟨l2, hl2⟩ : ∃ x, x = itr (fun _ t l => pr n t l) xsl 0 l1 := ⟨_, rfl⟩
   have ql2 : l1.length ≤ l2.length := by rw [hl2]; exact itrLe (fun _ _ _ => prLe _ _ _) _ _ _
   have hX : l' = l2 := by rw [hl]; rw [hl2, hl1]; rfl
   rw [hX] at hlen; have HQ := Lh (And.intro hlen (And.intro ql1 ql2)); have HLl1 := Lh hl1; have HLl2 := Lh hl2; rw [hX]; clear hX hlen hl ql1 ql2 hl1 hl2; obtain ⟨zHR_0, zHR_5, zHR_14, zHR_16⟩ := (HR.out.at hp HB.out.below).cs4 0 5 14 16; go_enter Tryz.func8, Tryz.ntmps8; go_wp2_with (at_builtin; refine HB.out.str rfl _ _ rfl (by rfl) xnum (by rfl) l1 HLl1.out (by have := HQ.out; omega) ?_); intro VA1 vn1 vc1 w1 hb; have HB1 := Lh hb; clear hb; clear zHR_0 zHR_5 zHR_14 zHR_16; obtain ⟨zHR_0, zHR_5, zHR_14, zHR_16⟩ := (HR.out.at hp HB1.out.below).cs4 0 5 14 16; go_wp2_with fail; go_loopw [0, 391] (fun v t wr => ∃ (j : Nat) (c : L8), j ≤ N16 ∧ t = .int .i64 j ∧ BN B w0 c v wr ∧ l2 = itr (fun _ t l => pr n t l) (xsl.drop j) j c) (fun _ t _ => N16 - (intOf t).toNat)
   case atStart =>
    exact ⟨0, l1, Nat.zero_le _, rfl, HB1.out, HLl2.out⟩
   case round =>
    obtain ⟨j, c, hj, rfl, hb, hx⟩ := hrel; obtain ⟨Ac, nc, cc, rfl, -⟩ := hb.form; have HB100 := Lh hb; have HXC := Lh hx; clear hb hx
    by_cases hlt : j < N16
    ·
     obtain ⟨ab, ao, q, t, hA, hcl, hst, hat, hW⟩ := LS16.out.kid HB100.out.below hlt (fun _ t l => pr n t l) c; subst hA; have hc := hcl _ HB100.out.below; have HST := Lh hst; have HAT := Lh hat; clear hcl hst hat; obtain ⟨c1, hc1⟩ : ∃ x, x = pr n t c := ⟨_, rfl⟩
     have qc1 : c.length ≤ c1.length := by rw [hc1]; exact prLe _ _ _
     have hf9 : (fun _ t l => pr n t l) j t c = c1 := by rw [hc1]
     have hx8 : l2 = itr (fun _ t l => pr n t l) (xsl.drop (j + 1)) (j + 1) c1 := by rw [← hf9]; exact HXC.out.trans HST.out
     have q9 : c1.length ≤ l2.length := by rw [hx8]; exact itrLe (fun _ _ _ => prLe _ _ _) _ _ _
     have HXD := Lh hx8; have HQC := Lh ((And.intro qc1 q9)); have HLc1 := Lh hc1; clear hf9 hx8 q9 qc1 hc1; go_wp2_with fail; refine (IHsf w0 _ B q _ c c1 t hW HAT.out HB100.out HE.out HLc1.out (by have := HQ.out; have := HQC.out; omega)).mono ?_; rintro e w101 ⟨v9, rfl, hb⟩; obtain ⟨VA101, vn101, vc101, rfl, -⟩ := hb.form; have HB101 := Lh hb; clear hb; go_wp2_with fail; exact ⟨⟨j + 1, c1, by omega, by go_num, HB101.out, HXD.out⟩, by simp [intOf]; omega⟩
    ·
     obtain rfl : N16 = j := by omega
     have hx9 : l2 = c := HXC.out.trans (LS16.out.fin _ c); have HB2 := Lh (show BN B w0 l2 (.slice Ac nc cc) _ from by rw [hx9]; exact HB100.out); clear hx9; obtain ⟨zHR_0, zHR_5, zHR_14, zHR_16⟩ := (HR.out.at hp HB2.out.below).cs4 0 5 14 16; go_wp2_with fail; go_ret; exact ⟨_, rfl, HB2.out⟩
  ·
   rcases FV.pt f6 with ⟨rfl, rfl⟩ | ⟨y, r, rfl, rfl, ay⟩
   ·
    exact absurd (k11 rfl) (by simp)
   ·
    have HAT := Lh ay; clear k6 k7 k8 k9 k11 k13 k14 k15 k16 k17 k18 k20 kS e1 e2 ay f1 f2 f3 f4 f6 f8 f9 f10 f11 f12 f13 f15; have HR := Lh hr; clear hr
    obtain ⟨m, hnm⟩ : ∃ m, n = m + 1 := by cases n with | zero => exact HAT.out.elim | succ m => exact ⟨m, rfl⟩
    have ham := HAT.out; rw [hnm] at ham; have hwy := hun _ rfl; clear hun
    cases hwy with
    | un xop xt q1 q2 q3 =>
     obtain ⟨hpy, u1, hry, p1⟩ := inv_un ham; obtain ⟨r21, rfl, a21⟩ := p1; have HA21 := Lh a21; clear ham a21; have HRY := Lh hry; clear hry; obtain ⟨l1, hl1⟩ : ∃ x, x = l ++ opT xop := ⟨_, rfl⟩
     have ql1 : l.length ≤ l1.length := by rw [hl1, List.length_append]; omega
     obtain ⟨l2, hl2⟩ : ∃ x, x = pr m xt l1 := ⟨_, rfl⟩
     have ql2 : l1.length ≤ l2.length := by rw [hl2]; exact prLe _ _ _
     obtain ⟨l3, hl3⟩ : ∃ x, x = itr (fun _ t l => pr n t l) xsl 0 l2 := ⟨_, rfl⟩
     have ql3 : l2.length ≤ l3.length := by rw [hl3]; exact itrLe (fun _ _ _ => prLe _ _ _) _ _ _
     have hX : l' = l3 := by rw [hl]; rw [hl3, hl2, hl1, hnm]; rfl
     rw [hX] at hlen; have HQ := Lh (And.intro hlen (And.intro ql1 (And.intro ql2 ql3))); have HLl1 := Lh hl1; have HLl2 := Lh hl2; have HLl3 := Lh hl3; rw [hX]; clear hX hlen hl ql1 ql2 ql3 hl1 hl2 hl3; obtain ⟨zHR_0, zHR_6, zHR_16⟩ := (HR.out.at hp HB.out.below).cs3 0 6 16; obtain ⟨zHRY_0, zHRY_1⟩ := (HRY.out.at hpy HB.out.below).cs2 0 1; go_enter Tryz.func8, Tryz.ntmps8; go_wp2_with fail; refine (rOpC xop _ q1 q2 (HE.out.at HB.out.below).spc).mono ?_; rintro e w9 ⟨rfl, hb9⟩; have HK := Lh (HB.out.keep hb9); clear hb9; go_wp2_with (at_builtin; refine HK.out.str rfl _ _ rfl (by rfl) ⟨(opT xop).toArray⟩ (by rfl) l1 HLl1.out (by have := HQ.out; omega) ?_); intro VA1 vn1 vc1 w1 hb; have HB1 := Lh hb; clear hb; clear zHR_0 zHR_6 zHR_16 zHRY_0 zHRY_1; obtain ⟨zHR_0, zHR_6, zHR_16⟩ := (HR.out.at hp HB1.out.below).cs3 0 6 16; obtain ⟨zHRY_0, zHRY_1⟩ := (HRY.out.at hpy HB1.out.below).cs2 0 1; go_wp2_with fail; refine ((IHt' m hnm) w0 _ B r21 _ l1 l2 xt q3 HA21.out HB1.out HE.out HLl2.out (by have := HQ.out; omega)).mono ?_; rintro e w2 ⟨v9, rfl, hb⟩; obtain ⟨VA2, vn2, vc2, rfl, -⟩ := hb.form; have HB2 := Lh hb; clear hb; clear zHR_0 zHR_6 zHR_16 zHRY_0 zHRY_1; obtain ⟨zHR_0, zHR_6, zHR_16⟩ := (HR.out.at hp HB2.out.below).cs3 0 6 16; obtain ⟨zHRY_0, zHRY_1⟩ := (HRY.out.at hpy HB2.out.below).cs2 0 1; go_wp2_with fail; go_loopw [0, 391] (fun v t wr => ∃ (j : Nat) (c : L8), j ≤ N16 ∧ t = .int .i64 j ∧ BN B w0 c v wr ∧ l3 = itr (fun _ t l => pr n t l) (xsl.drop j) j c) (fun _ t _ => N16 - (intOf t).toNat)
     case atStart =>
      exact ⟨0, l2, Nat.zero_le _, rfl, HB2.out, HLl3.out⟩
     case round =>
      obtain ⟨j, c, hj, rfl, hb, hx⟩ := hrel; obtain ⟨Ac, nc, cc, rfl, -⟩ := hb.form; have HB100 := Lh hb; have HXC := Lh hx; clear hb hx
      by_cases hlt : j < N16
      ·
       obtain ⟨ab, ao, q, t, hA, hcl, hst, hat, hW⟩ := LS16.out.kid HB100.out.below hlt (fun _ t l => pr n t l) c; subst hA; have hc := hcl _ HB100.out.below; have HST := Lh hst; have HAT := Lh hat; clear hcl hst hat; obtain ⟨c1, hc1⟩ : ∃ x, x = pr n t c := ⟨_, rfl⟩
       have qc1 : c.length ≤ c1.length := by rw [hc1]; exact prLe _ _ _
       have hf9 : (fun _ t l => pr n t l) j t c = c1 := by rw [hc1]
       have hx8 : l3 = itr (fun _ t l => pr n t l) (xsl.drop (j + 1)) (j + 1) c1 := by rw [← hf9]; exact HXC.out.trans HST.out
       have q9 : c1.length ≤ l3.length := by rw [hx8]; exact itrLe (fun _ _ _ => prLe _ _ _) _ _ _
       have HXD := Lh hx8; have HQC := Lh ((And.intro qc1 q9)); have HLc1 := Lh hc1; clear hf9 hx8 q9 qc1 hc1; go_wp2_with fail; refine (IHsf w0 _ B q _ c c1 t hW HAT.out HB100.out HE.out HLc1.out (by have := HQ.out; have := HQC.out; omega)).mono ?_; rintro e w101 ⟨v9, rfl, hb⟩; obtain ⟨VA101, vn101, vc101, rfl, -⟩ := hb.form; have HB101 := Lh hb; clear hb; go_wp2_with fail; exact ⟨⟨j + 1, c1, by omega, by go_num, HB101.out, HXD.out⟩, by simp [intOf]; omega⟩
      ·
       obtain rfl : N16 = j := by omega
       have hx9 : l3 = c := HXC.out.trans (LS16.out.fin _ c); have HB3 := Lh (show BN B w0 l3 (.slice Ac nc cc) _ from by rw [hx9]; exact HB100.out); clear hx9; obtain ⟨zHR_0, zHR_6, zHR_16⟩ := (HR.out.at hp HB3.out.below).cs3 0 6 16; obtain ⟨zHRY_0, zHRY_1⟩ := (HRY.out.at hpy HB3.out.below).cs2 0 1; go_wp2_with fail; go_ret; exact ⟨_, rfl, HB3.out⟩
  ·
   clear k6 k7 k8 k9 k11 k13 k14 k15 k16 k17 k18 k20 kS e1 e2 f1 f2 f3 f4 f6 f9 f10 f11 f12 f13 f15; rcases FV.pt f8 with ⟨rfl, rfl⟩ | ⟨y8, r8, rfl, rfl, a8⟩
   ·
    have HR := Lh hr; clear hr; obtain ⟨l1, hl1⟩ : ∃ x, x = l ++ xfmt.data.toList := ⟨_, rfl⟩
    have ql1 : l.length ≤ l1.length := by rw [hl1, List.length_append]; omega
    obtain ⟨l2, hl2⟩ : ∃ x, x = itr (fun _ t l => pr n t l) xsl 0 l1 := ⟨_, rfl⟩
    have ql2 : l1.length ≤ l2.length := by rw [hl2]; exact itrLe (fun _ _ _ => prLe _ _ _) _ _ _
    have hX : l' = l2 := by rw [hl]; rw [hl2, hl1]; rfl
    rw [hX] at hlen; have HQ := Lh (And.intro hlen (And.intro ql1 ql2)); have HLl1 := Lh hl1; have HLl2 := Lh hl2; rw [hX]; clear hX hlen hl ql1 ql2 hl1 hl2; obtain ⟨zHR_0, zHR_7, zHR_8, zHR_16⟩ := (HR.out.at hp HB.out.below).cs4 0 7 8 16; go_enter Tryz.func8, Tryz.ntmps8; go_wp2_with (at_builtin; refine HB.out.str rfl _ _ rfl (by rfl) xfmt (by rfl) l1 HLl1.out (by have := HQ.out; omega) ?_); intro VA1 vn1 vc1 w1 hb; have HB1 := Lh hb; clear hb; clear zHR_0 zHR_7 zHR_8 zHR_16; obtain ⟨zHR_0, zHR_7, zHR_8, zHR_16⟩ := (HR.out.at hp HB1.out.below).cs4 0 7 8 16; go_wp2_with fail; go_loopw [0, 391] (fun v t wr => ∃ (j : Nat) (c : L8), j ≤ N16 ∧ t = .int .i64 j ∧ BN B w0 c v wr ∧ l2 = itr (fun _ t l => pr n t l) (xsl.drop j) j c) (fun _ t _ => N16 - (intOf t).toNat)
    case atStart =>
     exact ⟨0, l1, Nat.zero_le _, rfl, HB1.out, HLl2.out⟩
    case round =>
     obtain ⟨j, c, hj, rfl, hb, hx⟩ := hrel; obtain ⟨Ac, nc, cc, rfl, -⟩ := hb.form; have HB100 := Lh hb; have HXC := Lh hx; clear hb hx
     by_cases hlt : j < N16
     ·
      obtain ⟨ab, ao, q, t, hA, hcl, hst, hat, hW⟩ := LS16.out.kid HB100.out.below hlt (fun _ t l => pr n t l) c; subst hA; have hc := hcl _ HB100.out.below; have HST := Lh hst; have HAT := Lh hat; clear hcl hst hat; obtain ⟨c1, hc1⟩ : ∃ x, x = pr n t c := ⟨_, rfl⟩
      have qc1 : c.length ≤ c1.length := by rw [hc1]; exact prLe _ _ _
      have hf9 : (fun _ t l => pr n t l) j t c = c1 := by rw [hc1]
      have hx8 : l2 = itr (fun _ t l => pr n t l) (xsl.drop (j + 1)) (j + 1) c1 := by rw [← hf9]; exact HXC.out.trans HST.out
      have q9 : c1.length ≤ l2.length := by rw [hx8]; exact itrLe (fun _ _ _ => prLe _ _ _) _ _ _
      have HXD := Lh hx8; have HQC := Lh ((And.intro qc1 q9)); have HLc1 := Lh hc1; clear hf9 hx8 q9 qc1 hc1; go_wp2_with fail; refine (IHsf w0 _ B q _ c c1 t hW HAT.out HB100.out HE.out HLc1.out (by have := HQ.out; have := HQC.out; omega)).mono ?_; rintro e w101 ⟨v9, rfl, hb⟩; obtain ⟨VA101, vn101, vc101, rfl, -⟩ := hb.form; have HB101 := Lh hb; clear hb; go_wp2_with fail; exact ⟨⟨j + 1, c1, by omega, by go_num, HB101.out, HXD.out⟩, by simp [intOf]; omega⟩
     ·
      obtain rfl : N16 = j := by omega
      have hx9 : l2 = c := HXC.out.trans (LS16.out.fin _ c); have HB2 := Lh (show BN B w0 l2 (.slice Ac nc cc) _ from by rw [hx9]; exact HB100.out); clear hx9; obtain ⟨zHR_0, zHR_7, zHR_8, zHR_16⟩ := (HR.out.at hp HB2.out.below).cs4 0 7 8 16; go_wp2_with fail; go_ret; exact ⟨_, rfl, HB2.out⟩
   ·
    have HA8 := Lh a8; clear a8; have HR := Lh hr; clear hr; obtain ⟨l1, hl1⟩ : ∃ x, x = l ++ xfmt.data.toList := ⟨_, rfl⟩
    have ql1 : l.length ≤ l1.length := by rw [hl1, List.length_append]; omega
    obtain ⟨l2, hl2⟩ : ∃ x, x = l1 ++ [32] := ⟨_, rfl⟩
    have ql2 : l1.length + 1 ≤ l2.length := by rw [hl2, List.length_append]; exact Nat.le_refl _
    obtain ⟨l3, hl3⟩ : ∃ x, x = pr n y8 l2 := ⟨_, rfl⟩
    have ql3 : l2.length ≤ l3.length := by rw [hl3]; exact prLe _ _ _
    obtain ⟨l4, hl4⟩ : ∃ x, x = itr (fun _ t l => pr n t l) xsl 0 l3 := ⟨_, rfl⟩
    have ql4 : l3.length ≤ l4.length := by rw [hl4]; exact itrLe (fun _ _ _ => prLe _ _ _) _ _ _
    have hX : l' = l4 := by rw [hl]; rw [hl4, hl3, hl2, hl1]; rfl
    rw [hX] at hlen; have HQ := Lh (And.intro hlen (And.intro ql1 (And.intro ql2 (And.intro ql3 ql4)))); have HLl1 := Lh hl1; have HLl2 := Lh hl2; have HLl3 := Lh hl3; have HLl4 := Lh hl4; rw [hX]; clear hX hlen hl ql1 ql2 ql3 ql4 hl1 hl2 hl3 hl4; obtain ⟨zHR_0, zHR_7, zHR_8, zHR_16⟩ := (HR.out.at hp HB.out.below).cs4 0 7 8 16; go_enter Tryz.func8, Tryz.ntmps8; go_wp2_with (at_builtin; refine HB.out.str rfl _ _ rfl (by rfl) xfmt (by rfl) l1 HLl1.out (by have := HQ.out; omega) ?_); intro VA1 vn1 vc1 w1 hb; have HB1 := Lh hb; clear hb; clear zHR_0 zHR_7 zHR_8 zHR_16; obtain ⟨zHR_0, zHR_7, zHR_8, zHR_16⟩ := (HR.out.at hp HB1.out.below).cs4 0 7 8 16; go_wp2_with (at_builtin; refine HB1.out.byt rfl _ _ rfl (by rfl) 32 _ rfl _ rfl rfl (by rfl) l2 HLl2.out (by have := HQ.out; omega) ?_); intro VA2 vn2 vc2 w2 hb; have HB2 := Lh hb; clear hb; clear zHR_0 zHR_7 zHR_8 zHR_16; obtain ⟨zHR_0, zHR_7, zHR_8, zHR_16⟩ := (HR.out.at hp HB2.out.below).cs4 0 7 8 16; go_wp2_with fail; refine (IHst w0 _ B r8 _ l2 l3 y8 (hstr _ rfl) HA8.out HB2.out HE.out HLl3.out (by have := HQ.out; omega)).mono ?_; rintro e w3 ⟨v9, rfl, hb⟩; obtain ⟨VA3, vn3, vc3, rfl, -⟩ := hb.form; have HB3 := Lh hb; clear hb; clear zHR_0 zHR_7 zHR_8 zHR_16; obtain ⟨zHR_0, zHR_7, zHR_8, zHR_16⟩ := (HR.out.at hp HB3.out.below).cs4 0 7 8 16; go_wp2_with fail; go_loopw [0, 391] (fun v t wr => ∃ (j : Nat) (c : L8), j ≤ N16 ∧ t = .int .i64 j ∧ BN B w0 c v wr ∧ l4 = itr (fun _ t l => pr n t l) (xsl.drop j) j c) (fun _ t _ => N16 - (intOf t).toNat)
    case atStart =>
     exact ⟨0, l3, Nat.zero_le _, rfl, HB3.out, HLl4.out⟩
    case round =>
     obtain ⟨j, c, hj, rfl, hb, hx⟩ := hrel; obtain ⟨Ac, nc, cc, rfl, -⟩ := hb.form; have HB100 := Lh hb; have HXC := Lh hx; clear hb hx
     by_cases hlt : j < N16
     ·
      obtain ⟨ab, ao, q, t, hA, hcl, hst, hat, hW⟩ := LS16.out.kid HB100.out.below hlt (fun _ t l => pr n t l) c; subst hA; have hc := hcl _ HB100.out.below; have HST := Lh hst; have HAT := Lh hat; clear hcl hst hat; obtain ⟨c1, hc1⟩ : ∃ x, x = pr n t c := ⟨_, rfl⟩
      have qc1 : c.length ≤ c1.length := by rw [hc1]; exact prLe _ _ _
      have hf9 : (fun _ t l => pr n t l) j t c = c1 := by rw [hc1]
      have hx8 : l4 = itr (fun _ t l => pr n t l) (xsl.drop (j + 1)) (j + 1) c1 := by rw [← hf9]; exact HXC.out.trans HST.out
      have q9 : c1.length ≤ l4.length := by rw [hx8]; exact itrLe (fun _ _ _ => prLe _ _ _) _ _ _
      have HXD := Lh hx8; have HQC := Lh ((And.intro qc1 q9)); have HLc1 := Lh hc1; clear hf9 hx8 q9 qc1 hc1; go_wp2_with fail; refine (IHsf w0 _ B q _ c c1 t hW HAT.out HB100.out HE.out HLc1.out (by have := HQ.out; have := HQC.out; omega)).mono ?_; rintro e w101 ⟨v9, rfl, hb⟩; obtain ⟨VA101, vn101, vc101, rfl, -⟩ := hb.form; have HB101 := Lh hb; clear hb; go_wp2_with fail; exact ⟨⟨j + 1, c1, by omega, by go_num, HB101.out, HXD.out⟩, by simp [intOf]; omega⟩
     ·
      obtain rfl : N16 = j := by omega
      have hx9 : l4 = c := HXC.out.trans (LS16.out.fin _ c); have HB4 := Lh (show BN B w0 l4 (.slice Ac nc cc) _ from by rw [hx9]; exact HB100.out); clear hx9; obtain ⟨zHR_0, zHR_7, zHR_8, zHR_16⟩ := (HR.out.at hp HB4.out.below).cs4 0 7 8 16; go_wp2_with fail; go_ret; exact ⟨_, rfl, HB4.out⟩
  ·
   rcases FV.pt f8 with ⟨rfl, rfl⟩ | ⟨y, r, rfl, rfl, ay⟩
   ·
    exact absurd (k13 rfl) (by simp)
   ·
    have HA := Lh ay; clear k6 k7 k8 k9 k11 k13 k14 k15 k16 k17 k18 k20 kS e1 e2 ay f1 f2 f3 f4 f6 f8 f9 f10 f11 f12 f13 f15; have HR := Lh hr; clear hr; obtain ⟨l1, hl1⟩ : ∃ x, x = pr n y l := ⟨_, rfl⟩
    have ql1 : l.length ≤ l1.length := by rw [hl1]; exact prLe _ _ _
    obtain ⟨l2, hl2⟩ : ∃ x, x = itr (fun _ t l => pr n t l) xsl 0 l1 := ⟨_, rfl⟩
    have ql2 : l1.length ≤ l2.length := by rw [hl2]; exact itrLe (fun _ _ _ => prLe _ _ _) _ _ _
    have hX : l' = l2 := by rw [hl]; rw [hl2, hl1]; rfl
    rw [hX] at hlen; have HQ := Lh (And.intro hlen (And.intro ql1 ql2)); have HLl1 := Lh hl1; have HLl2 := Lh hl2; rw [hX]; clear hX hlen hl ql1 ql2 hl1 hl2; obtain ⟨zHR_0, zHR_8, zHR_16⟩ := (HR.out.at hp HB.out.below).cs3 0 8 16; go_enter Tryz.func8, Tryz.ntmps8; go_wp2_with fail; refine (IHst w0 _ B r _ l l1 y (hstr _ rfl) HA.out HB.out HE.out HLl1.out (by have := HQ.out; omega)).mono ?_; rintro e w1 ⟨v9, rfl, hb⟩; obtain ⟨VA1, vn1, vc1, rfl, -⟩ := hb.form; have HB1 := Lh hb; clear hb; clear zHR_0 zHR_8 zHR_16; obtain ⟨zHR_0, zHR_8, zHR_16⟩ := (HR.out.at hp HB1.out.below).cs3 0 8 16; go_wp2_with fail; go_loopw [0, 391] (fun v t wr => ∃ (j : Nat) (c : L8), j ≤ N16 ∧ t = .int .i64 j ∧ BN B w0 c v wr ∧ l2 = itr (fun _ t l => pr n t l) (xsl.drop j) j c) (fun _ t _ => N16 - (intOf t).toNat)
    case atStart =>
     exact ⟨0, l1, Nat.zero_le _, rfl, HB1.out, HLl2.out⟩
    case round =>
     obtain ⟨j, c, hj, rfl, hb, hx⟩ := hrel; obtain ⟨Ac, nc, cc, rfl, -⟩ := hb.form; have HB100 := Lh hb; have HXC := Lh hx; clear hb hx
     by_cases hlt : j < N16
     ·
      obtain ⟨ab, ao, q, t, hA, hcl, hst, hat, hW⟩ := LS16.out.kid HB100.out.below hlt (fun _ t l => pr n t l) c; subst hA; have hc := hcl _ HB100.out.below; have HST := Lh hst; have HAT := Lh hat; clear hcl hst hat; obtain ⟨c1, hc1⟩ : ∃ x, x = pr n t c := ⟨_, rfl⟩
      have qc1 : c.length ≤ c1.length := by rw [hc1]; exact prLe _ _ _
      have hf9 : (fun _ t l => pr n t l) j t c = c1 := by rw [hc1]
      have hx8 : l2 = itr (fun _ t l => pr n t l) (xsl.drop (j + 1)) (j + 1) c1 := by rw [← hf9]; exact HXC.out.trans HST.out
      have q9 : c1.length ≤ l2.length := by rw [hx8]; exact itrLe (fun _ _ _ => prLe _ _ _) _ _ _
      have HXD := Lh hx8; have HQC := Lh ((And.intro qc1 q9)); have HLc1 := Lh hc1; clear hf9 hx8 q9 qc1 hc1; go_wp2_with fail; refine (IHsf w0 _ B q _ c c1 t hW HAT.out HB100.out HE.out HLc1.out (by have := HQ.out; have := HQC.out; omega)).mono ?_; rintro e w101 ⟨v9, rfl, hb⟩; obtain ⟨VA101, vn101, vc101, rfl, -⟩ := hb.form; have HB101 := Lh hb; clear hb; go_wp2_with fail; exact ⟨⟨j + 1, c1, by omega, by go_num, HB101.out, HXD.out⟩, by simp [intOf]; omega⟩
     ·
      obtain rfl : N16 = j := by omega
      have hx9 : l2 = c := HXC.out.trans (LS16.out.fin _ c); have HB2 := Lh (show BN B w0 l2 (.slice Ac nc cc) _ from by rw [hx9]; exact HB100.out); clear hx9; obtain ⟨zHR_0, zHR_8, zHR_16⟩ := (HR.out.at hp HB2.out.below).cs3 0 8 16; go_wp2_with fail; go_ret; exact ⟨_, rfl, HB2.out⟩
  ·
   rcases FV.pt f9 with ⟨rfl, rfl⟩ | ⟨y, r, rfl, rfl, ay⟩
   ·
    exact absurd (k14 rfl) (by simp)
   ·
    have HA := Lh ay; clear k6 k7 k8 k9 k11 k13 k14 k15 k16 k17 k18 k20 kS e1 e2 ay f1 f2 f3 f4 f6 f8 f9 f10 f11 f12 f13 f15; have HR := Lh hr; clear hr; obtain ⟨l1, hl1⟩ : ∃ x, x = pr n y l := ⟨_, rfl⟩
    have ql1 : l.length ≤ l1.length := by rw [hl1]; exact prLe _ _ _
    obtain ⟨l2, hl2⟩ : ∃ x, x = itr (fun _ t l => pr n t l) xsl 0 l1 := ⟨_, rfl⟩
    have ql2 : l1.length ≤ l2.length := by rw [hl2]; exact itrLe (fun _ _ _ => prLe _ _ _) _ _ _
    have hX : l' = l2 := by rw [hl]; rw [hl2, hl1]; rfl
    rw [hX] at hlen; have HQ := Lh (And.intro hlen (And.intro ql1 ql2)); have HLl1 := Lh hl1; have HLl2 := Lh hl2; rw [hX]; clear hX hlen hl ql1 ql2 hl1 hl2; obtain ⟨zHR_0, zHR_9, zHR_16⟩ := (HR.out.at hp HB.out.below).cs3 0 9 16; go_enter Tryz.func8, Tryz.ntmps8; go_wp2_with fail; refine (IHie w0 _ B r _ l l1 y (hie _ rfl) HA.out HB.out HE.out HLl1.out (by have := HQ.out; omega)).mono ?_; rintro e w1 ⟨v9, rfl, hb⟩; obtain ⟨VA1, vn1, vc1, rfl, -⟩ := hb.form; have HB1 := Lh hb; clear hb; clear zHR_0 zHR_9 zHR_16; obtain ⟨zHR_0, zHR_9, zHR_16⟩ := (HR.out.at hp HB1.out.below).cs3 0 9 16; go_wp2_with fail; go_loopw [0, 391] (fun v t wr => ∃ (j : Nat) (c : L8), j ≤ N16 ∧ t = .int .i64 j ∧ BN B w0 c v wr ∧ l2 = itr (fun _ t l => pr n t l) (xsl.drop j) j c) (fun _ t _ => N16 - (intOf t).toNat)
    case atStart =>
     exact ⟨0, l1, Nat.zero_le _, rfl, HB1.out, HLl2.out⟩
    case round =>
     obtain ⟨j, c, hj, rfl, hb, hx⟩ := hrel; obtain ⟨Ac, nc, cc, rfl, -⟩ := hb.form; have HB100 := Lh hb; have HXC := Lh hx; clear hb hx
     by_cases hlt : j < N16
     ·
      obtain ⟨ab, ao, q, t, hA, hcl, hst, hat, hW⟩ := LS16.out.kid HB100.out.below hlt (fun _ t l => pr n t l) c; subst hA; have hc := hcl _ HB100.out.below; have HST := Lh hst; have HAT := Lh hat; clear hcl hst hat; obtain ⟨c1, hc1⟩ : ∃ x, x = pr n t c := ⟨_, rfl⟩
      have qc1 : c.length ≤ c1.length := by rw [hc1]; exact prLe _ _ _
      have hf9 : (fun _ t l => pr n t l) j t c = c1 := by rw [hc1]
      have hx8 : l2 = itr (fun _ t l => pr n t l) (xsl.drop (j + 1)) (j + 1) c1 := by rw [← hf9]; exact HXC.out.trans HST.out
      have q9 : c1.length ≤ l2.length := by rw [hx8]; exact itrLe (fun _ _ _ => prLe _ _ _) _ _ _
      have HXD := Lh hx8; have HQC := Lh ((And.intro qc1 q9)); have HLc1 := Lh hc1; clear hf9 hx8 q9 qc1 hc1; go_wp2_with fail; refine (IHsf w0 _ B q _ c c1 t hW HAT.out HB100.out HE.out HLc1.out (by have := HQ.out; have := HQC.out; omega)).mono ?_; rintro e w101 ⟨v9, rfl, hb⟩; obtain ⟨VA101, vn101, vc101, rfl, -⟩ := hb.form; have HB101 := Lh hb; clear hb; go_wp2_with fail; exact ⟨⟨j + 1, c1, by omega, by go_num, HB101.out, HXD.out⟩, by simp [intOf]; omega⟩
     ·
      obtain rfl : N16 = j := by omega
      have hx9 : l2 = c := HXC.out.trans (LS16.out.fin _ c); have HB2 := Lh (show BN B w0 l2 (.slice Ac nc cc) _ from by rw [hx9]; exact HB100.out); clear hx9; obtain ⟨zHR_0, zHR_9, zHR_16⟩ := (HR.out.at hp HB2.out.below).cs3 0 9 16; go_wp2_with fail; go_ret; exact ⟨_, rfl, HB2.out⟩
  ·
   rcases FV.pt f10 with ⟨rfl, rfl⟩ | ⟨y, r, rfl, rfl, ay⟩
   ·
    exact absurd (k15 rfl) (by simp)
   ·
    have HAT := Lh ay; clear k6 k7 k8 k9 k11 k13 k14 k15 k16 k17 k18 k20 kS e1 e2 ay f1 f2 f3 f4 f6 f8 f9 f10 f11 f12 f13 f15; have HR := Lh hr; clear hr
    obtain ⟨m, hnm⟩ : ∃ m, n = m + 1 := by cases n with | zero => exact HAT.out.elim | succ m => exact ⟨m, rfl⟩
    have ham := HAT.out; rw [hnm] at ham; have hwy := htr _ rfl; clear htr
    cases hwy with
    | tr xb2 xc2 q1 q2 =>
     obtain ⟨hpy, u0, u1, hry, p0, p1⟩ := inv_tr ham; obtain ⟨r20, rfl, a20⟩ := p0; have HA20 := Lh a20; clear ham a20; rcases FV.pt p1 with ⟨rfl, rfl⟩ | ⟨y21, r21, rfl, rfl, a21⟩
     ·
      have HRY := Lh hry; clear hry p1; obtain ⟨l1, hl1⟩ : ∃ x, x = l ++ [116, 114, 121, 32] := ⟨_, rfl⟩
      have ql1 : l.length + 4 ≤ l1.length := by rw [hl1, List.length_append]; exact Nat.le_refl _
      obtain ⟨l2, hl2⟩ : ∃ x, x = pr m xb2 l1 := ⟨_, rfl⟩
      have ql2 : l1.length ≤ l2.length := by rw [hl2]; exact prLe _ _ _
      obtain ⟨l3, hl3⟩ : ∃ x, x = itr (fun _ t l => pr n t l) xsl 0 l2 := ⟨_, rfl⟩
      have ql3 : l2.length ≤ l3.length := by rw [hl3]; exact itrLe (fun _ _ _ => prLe _ _ _) _ _ _
      have hX : l' = l3 := by rw [hl]; rw [hl3, hl2, hl1, hnm]; rfl
      rw [hX] at hlen; have HQ := Lh (And.intro hlen (And.intro ql1 (And.intro ql2 ql3))); have HLl1 := Lh hl1; have HLl2 := Lh hl2; have HLl3 := Lh hl3; rw [hX]; clear hX hlen hl ql1 ql2 ql3 hl1 hl2 hl3; obtain ⟨zHR_0, zHR_10, zHR_16⟩ := (HR.out.at hp HB.out.below).cs3 0 10 16; obtain ⟨zHRY_0, zHRY_1⟩ := (HRY.out.at hpy HB.out.below).cs2 0 1; go_enter Tryz.func8, Tryz.ntmps8; go_wp2_with (at_builtin; refine HB.out.str rfl _ _ rfl (by rfl) (⟨#[116, 114, 121, 32]⟩ : ByteArray) (by rfl) l1 HLl1.out (by have := HQ.out; omega) ?_); intro VA1 vn1 vc1 w1 hb; have HB1 := Lh hb; clear hb; clear zHR_0 zHR_10 zHR_16 zHRY_0 zHRY_1; obtain ⟨zHR_0, zHR_10, zHR_16⟩ := (HR.out.at hp HB1.out.below).cs3 0 10 16; obtain ⟨zHRY_0, zHRY_1⟩ := (HRY.out.at hpy HB1.out.below).cs2 0 1; go_wp2_with fail; refine ((IHq' m hnm) w0 _ B r20 _ l1 l2 xb2 q1 HA20.out HB1.out HE.out HLl2.out (by have := HQ.out; omega)).mono ?_; rintro e w2 ⟨v9, rfl, hb⟩; obtain ⟨VA2, vn2, vc2, rfl, -⟩ := hb.form; have HB2 := Lh hb; clear hb; clear zHR_0 zHR_10 zHR_16 zHRY_0 zHRY_1; obtain ⟨zHR_0, zHR_10, zHR_16⟩ := (HR.out.at hp HB2.out.below).cs3 0 10 16; obtain ⟨zHRY_0, zHRY_1⟩ := (HRY.out.at hpy HB2.out.below).cs2 0 1
      go_wp2_with fail; go_loopw [0, 391] (fun v t wr => ∃ (j : Nat) (c : L8), j ≤ N16 ∧ t = .int .i64 j ∧ BN B w0 c v wr ∧ l3 = itr (fun _ t l => pr n t l) (xsl.drop j) j c) (fun _ t _ => N16 - (intOf t).toNat)
      case atStart =>
       exact ⟨0, l2, Nat.zero_le _, rfl, HB2.out, HLl3.out⟩
      case round =>
       obtain ⟨j, c, hj, rfl, hb, hx⟩ := hrel; obtain ⟨Ac, nc, cc, rfl, -⟩ := hb.form; have HB100 := Lh hb; have HXC := Lh hx; clear hb hx
       by_cases hlt : j < N16
       ·
        obtain ⟨ab, ao, q, t, hA, hcl, hst, hat, hW⟩ := LS16.out.kid HB100.out.below hlt (fun _ t l => pr n t l) c; subst hA; have hc := hcl _ HB100.out.below; have HST := Lh hst; have HAT := Lh hat; clear hcl hst hat; obtain ⟨c1, hc1⟩ : ∃ x, x = pr n t c := ⟨_, rfl⟩
        have qc1 : c.length ≤ c1.length := by rw [hc1]; exact prLe _ _ _
        have hf9 : (fun _ t l => pr n t l) j t c = c1 := by rw [hc1]
        have hx8 : l3 = itr (fun _ t l => pr n t l) (xsl.drop (j + 1)) (j + 1) c1 := by rw [← hf9]; exact HXC.out.trans HST.out
        have q9 : c1.length ≤ l3.length := by rw [hx8]; exact itrLe (fun _ _ _ => prLe _ _ _) _ _ _
        have HXD := Lh hx8; have HQC := Lh ((And.intro qc1 q9)); have HLc1 := Lh hc1; clear hf9 hx8 q9 qc1 hc1; go_wp2_with fail; refine (IHsf w0 _ B q _ c c1 t hW HAT.out HB100.out HE.out HLc1.out (by have := HQ.out; have := HQC.out; omega)).mono ?_; rintro e w101 ⟨v9, rfl, hb⟩; obtain ⟨VA101, vn101, vc101, rfl, -⟩ := hb.form; have HB101 := Lh hb; clear hb; go_wp2_with fail; exact ⟨⟨j + 1, c1, by omega, by go_num, HB101.out, HXD.out⟩, by simp [intOf]; omega⟩
       ·
        obtain rfl : N16 = j := by omega
        have hx9 : l3 = c := HXC.out.trans (LS16.out.fin _ c); have HB3 := Lh (show BN B w0 l3 (.slice Ac nc cc) _ from by rw [hx9]; exact HB100.out); clear hx9; obtain ⟨zHR_0, zHR_10, zHR_16⟩ := (HR.out.at hp HB3.out.below).cs3 0 10 16; obtain ⟨zHRY_0, zHRY_1⟩ := (HRY.out.at hpy HB3.out.below).cs2 0 1; go_wp2_with fail; go_ret; exact ⟨_, rfl, HB3.out⟩
     ·
      have HA21 := Lh a21; clear a21; have HRY := Lh hry; clear hry p1; obtain ⟨l1, hl1⟩ : ∃ x, x = l ++ [116, 114, 121, 32] := ⟨_, rfl⟩
      have ql1 : l.length + 4 ≤ l1.length := by rw [hl1, List.length_append]; exact Nat.le_refl _
      obtain ⟨l2, hl2⟩ : ∃ x, x = pr m xb2 l1 := ⟨_, rfl⟩
      have ql2 : l1.length ≤ l2.length := by rw [hl2]; exact prLe _ _ _
      obtain ⟨l3, hl3⟩ : ∃ x, x = l2 ++ [32, 99, 97, 116, 99, 104, 32] := ⟨_, rfl⟩
      have ql3 : l2.length + 7 ≤ l3.length := by rw [hl3, List.length_append]; exact Nat.le_refl _
      obtain ⟨l4, hl4⟩ : ∃ x, x = pr m y21 l3 := ⟨_, rfl⟩
      have ql4 : l3.length ≤ l4.length := by rw [hl4]; exact prLe _ _ _
      obtain ⟨l5, hl5⟩ : ∃ x, x = itr (fun _ t l => pr n t l) xsl 0 l4 := ⟨_, rfl⟩
      have ql5 : l4.length ≤ l5.length := by rw [hl5]; exact itrLe (fun _ _ _ => prLe _ _ _) _ _ _
      have hX : l' = l5 := by rw [hl]; rw [hl5, hl4, hl3, hl2, hl1, hnm]; rfl
      rw [hX] at hlen; have HQ := Lh (And.intro hlen (And.intro ql1 (And.intro ql2 (And.intro ql3 (And.intro ql4 ql5))))); have HLl1 := Lh hl1; have HLl2 := Lh hl2; have HLl3 := Lh hl3; have HLl4 := Lh hl4; have HLl5 := Lh hl5; rw [hX]; clear hX hlen hl ql1 ql2 ql3 ql4 ql5 hl1 hl2 hl3 hl4 hl5; obtain ⟨zHR_0, zHR_10, zHR_16⟩ := (HR.out.at hp HB.out.below).cs3 0 10 16; obtain ⟨zHRY_0, zHRY_1⟩ := (HRY.out.at hpy HB.out.below).cs2 0 1; go_enter Tryz.func8, Tryz.ntmps8; go_wp2_with (at_builtin; refine HB.out.str rfl _ _ rfl (by rfl) (⟨#[116, 114, 121, 32]⟩ : ByteArray) (by rfl) l1 HLl1.out (by have := HQ.out; omega) ?_); intro VA1 vn1 vc1 w1 hb; have HB1 := Lh hb; clear hb; clear zHR_0 zHR_10 zHR_16 zHRY_0 zHRY_1; obtain ⟨zHR_0, zHR_10, zHR_16⟩ := (HR.out.at hp HB1.out.below).cs3 0 10 16; obtain ⟨zHRY_0, zHRY_1⟩ := (HRY.out.at hpy HB1.out.below).cs2 0 1; go_wp2_with fail; refine ((IHq' m hnm) w0 _ B r20 _ l1 l2 xb2 q1 HA20.out HB1.out HE.out HLl2.out (by have := HQ.out; omega)).mono ?_; rintro e w2 ⟨v9, rfl, hb⟩; obtain ⟨VA2, vn2, vc2, rfl, -⟩ := hb.form; have HB2 := Lh hb; clear hb; clear zHR_0 zHR_10 zHR_16 zHRY_0 zHRY_1; obtain ⟨zHR_0, zHR_10, zHR_16⟩ := (HR.out.at hp HB2.out.below).cs3 0 10 16
      obtain ⟨zHRY_0, zHRY_1⟩ := (HRY.out.at hpy HB2.out.below).cs2 0 1; go_wp2_with (at_builtin; refine HB2.out.str rfl _ _ rfl (by rfl) (⟨#[32, 99, 97, 116, 99, 104, 32]⟩ : ByteArray) (by rfl) l3 HLl3.out (by have := HQ.out; omega) ?_); intro VA3 vn3 vc3 w3 hb; have HB3 := Lh hb; clear hb; clear zHR_0 zHR_10 zHR_16 zHRY_0 zHRY_1; obtain ⟨zHR_0, zHR_10, zHR_16⟩ := (HR.out.at hp HB3.out.below).cs3 0 10 16; obtain ⟨zHRY_0, zHRY_1⟩ := (HRY.out.at hpy HB3.out.below).cs2 0 1; go_wp2_with fail; refine ((IHq' m hnm) w0 _ B r21 _ l3 l4 y21 (q2 _ rfl) HA21.out HB3.out HE.out HLl4.out (by have := HQ.out; omega)).mono ?_; rintro e w4 ⟨v9, rfl, hb⟩; obtain ⟨VA4, vn4, vc4, rfl, -⟩ := hb.form; have HB4 := Lh hb; clear hb; clear zHR_0 zHR_10 zHR_16 zHRY_0 zHRY_1; obtain ⟨zHR_0, zHR_10, zHR_16⟩ := (HR.out.at hp HB4.out.below).cs3 0 10 16; obtain ⟨zHRY_0, zHRY_1⟩ := (HRY.out.at hpy HB4.out.below).cs2 0 1; go_wp2_with fail; go_loopw [0, 391] (fun v t wr => ∃ (j : Nat) (c : L8), j ≤ N16 ∧ t = .int .i64 j ∧ BN B w0 c v wr ∧ l5 = itr (fun _ t l => pr n t l) (xsl.drop j) j c) (fun _ t _ => N16 - (intOf t).toNat)
      case atStart =>
       exact ⟨0, l4, Nat.zero_le _, rfl, HB4.out, HLl5.out⟩
      case round =>
       obtain ⟨j, c, hj, rfl, hb, hx⟩ := hrel; obtain ⟨Ac, nc, cc, rfl, -⟩ := hb.form; have HB100 := Lh hb; have HXC := Lh hx; clear hb hx
       by_cases hlt : j < N16
       ·
        obtain ⟨ab, ao, q, t, hA, hcl, hst, hat, hW⟩ := LS16.out.kid HB100.out.below hlt (fun _ t l => pr n t l) c; subst hA; have hc := hcl _ HB100.out.below; have HST := Lh hst; have HAT := Lh hat; clear hcl hst hat; obtain ⟨c1, hc1⟩ : ∃ x, x = pr n t c := ⟨_, rfl⟩
        have qc1 : c.length ≤ c1.length := by rw [hc1]; exact prLe _ _ _
        have hf9 : (fun _ t l => pr n t l) j t c = c1 := by rw [hc1]
        have hx8 : l5 = itr (fun _ t l => pr n t l) (xsl.drop (j + 1)) (j + 1) c1 := by rw [← hf9]; exact HXC.out.trans HST.out
        have q9 : c1.length ≤ l5.length := by rw [hx8]; exact itrLe (fun _ _ _ => prLe _ _ _) _ _ _
        have HXD := Lh hx8; have HQC := Lh ((And.intro qc1 q9)); have HLc1 := Lh hc1; clear hf9 hx8 q9 qc1 hc1; go_wp2_with fail; refine (IHsf w0 _ B q _ c c1 t hW HAT.out HB100.out HE.out HLc1.out (by have := HQ.out; have := HQC.out; omega)).mono ?_; rintro e w101 ⟨v9, rfl, hb⟩; obtain ⟨VA101, vn101, vc101, rfl, -⟩ := hb.form; have HB101 := Lh hb; clear hb; go_wp2_with fail; exact ⟨⟨j + 1, c1, by omega, by go_num, HB101.out, HXD.out⟩, by simp [intOf]; omega⟩
       ·
        obtain rfl : N16 = j := by omega
        have hx9 : l5 = c := HXC.out.trans (LS16.out.fin _ c); have HB5 := Lh (show BN B w0 l5 (.slice Ac nc cc) _ from by rw [hx9]; exact HB100.out); clear hx9; obtain ⟨zHR_0, zHR_10, zHR_16⟩ := (HR.out.at hp HB5.out.below).cs3 0 10 16; obtain ⟨zHRY_0, zHRY_1⟩ := (HRY.out.at hpy HB5.out.below).cs2 0 1; go_wp2_with fail; go_ret; exact ⟨_, rfl, HB5.out⟩
  ·
   rcases FV.pt f11 with ⟨rfl, rfl⟩ | ⟨y, r, rfl, rfl, ay⟩
   ·
    exact absurd (k16 rfl) (by simp)
   ·
    have HAT := Lh ay; clear k6 k7 k8 k9 k11 k13 k14 k15 k16 k17 k18 k20 kS e1 e2 ay f1 f2 f3 f4 f6 f8 f9 f10 f11 f12 f13 f15; have HR := Lh hr; clear hr
    obtain ⟨m, hnm⟩ : ∃ m, n = m + 1 := by cases n with | zero => exact HAT.out.elim | succ m => exact ⟨m, rfl⟩
    have ham := HAT.out; rw [hnm] at ham; have hwy := hrd _ rfl; clear hrd
    cases hwy with
    | rd xq2 xp2 xs2 xu2 q1 q2 q3 q4 =>
     obtain ⟨hpy, u0, u1, u2, u3, hry, p0, p1, p2, p3⟩ := inv_rd ham; obtain ⟨r20, rfl, a20⟩ := p0; have HA20 := Lh a20; obtain ⟨r21, rfl, a21⟩ := p1; have HA21 := Lh a21; obtain ⟨r22, rfl, a22⟩ := p2; have HA22 := Lh a22; obtain ⟨r23, rfl, a23⟩ := p3; have HA23 := Lh a23; clear ham a20 a21 a22 a23; have HRY := Lh hry; clear hry; obtain ⟨l1, hl1⟩ : ∃ x, x = l ++ [114, 101, 100, 117, 99, 101, 32] := ⟨_, rfl⟩
     have ql1 : l.length + 7 ≤ l1.length := by rw [hl1, List.length_append]; exact Nat.le_refl _
     obtain ⟨l2, hl2⟩ : ∃ x, x = pr m xq2 l1 := ⟨_, rfl⟩
     have ql2 : l1.length ≤ l2.length := by rw [hl2]; exact prLe _ _ _
     obtain ⟨l3, hl3⟩ : ∃ x, x = l2 ++ [32, 97, 115, 32] := ⟨_, rfl⟩
     have ql3 : l2.length + 4 ≤ l3.length := by rw [hl3, List.length_append]; exact Nat.le_refl _
     obtain ⟨l4, hl4⟩ : ∃ x, x = pr m xp2 l3 := ⟨_, rfl⟩
     have ql4 : l3.length ≤ l4.length := by rw [hl4]; exact prLe _ _ _
     obtain ⟨l5, hl5⟩ : ∃ x, x = l4 ++ [32, 40] := ⟨_, rfl⟩
     have ql5 : l4.length + 2 ≤ l5.length := by rw [hl5, List.length_append]; exact Nat.le_refl _
     obtain ⟨l6, hl6⟩ : ∃ x, x = pr m xs2 l5 := ⟨_, rfl⟩
     have ql6 : l5.length ≤ l6.length := by rw [hl6]; exact prLe _ _ _
     obtain ⟨l7, hl7⟩ : ∃ x, x = l6 ++ [59, 32] := ⟨_, rfl⟩
     have ql7 : l6.length + 2 ≤ l7.length := by rw [hl7, List.length_append]; exact Nat.le_refl _
     obtain ⟨l8, hl8⟩ : ∃ x, x = pr m xu2 l7 := ⟨_, rfl⟩
     have ql8 : l7.length ≤ l8.length := by rw [hl8]; exact prLe _ _ _
     obtain ⟨l9, hl9⟩ : ∃ x, x = l8 ++ [41] := ⟨_, rfl⟩
     have ql9 : l8.length + 1 ≤ l9.length := by rw [hl9, List.length_append]; exact Nat.le_refl _
     obtain ⟨l10, hl10⟩ : ∃ x, x = itr (fun _ t l => pr n t l) xsl 0 l9 := ⟨_, rfl⟩
     have ql10 : l9.length ≤ l10.length := by rw [hl10]; exact itrLe (fun _ _ _ => prLe _ _ _) _ _ _
     have hX : l' = l10 := by rw [hl]; rw [hl10, hl9, hl8, hl7, hl6, hl5, hl4, hl3, hl2, hl1, hnm]; rfl
     rw [hX] at hlen; have HQ := Lh (And.intro hlen (And.intro ql1 (And.intro ql2 (And.intro ql3 (And.intro ql4 (And.intro ql5 (And.intro ql6 (And.intro ql7 (And.intro ql8 (And.intro ql9 ql10)))))))))); have HLl1 := Lh hl1; have HLl2 := Lh hl2; have HLl3 := Lh hl3; have HLl4 := Lh hl4; have HLl5 := Lh hl5; have HLl6 := Lh hl6; have HLl7 := Lh hl7; have HLl8 := Lh hl8; have HLl9 := Lh hl9; have HLl10 := Lh hl10; rw [hX]; clear hX hlen hl ql1 ql2 ql3 ql4 ql5 ql6 ql7 ql8 ql9 ql10 hl1 hl2 hl3 hl4 hl5 hl6 hl7 hl8 hl9 hl10; obtain ⟨zHR_0, zHR_11, zHR_16⟩ := (HR.out.at hp HB.out.below).cs3 0 11 16; obtain ⟨zHRY_0, zHRY_1, zHRY_2, zHRY_3⟩ := (HRY.out.at hpy HB.out.below).cs4 0 1 2 3; go_enter Tryz.func8, Tryz.ntmps8; go_wp2_with (at_builtin; refine HB.out.str rfl _ _ rfl (by rfl) (⟨#[114, 101, 100, 117, 99, 101, 32]⟩ : ByteArray) (by rfl) l1 HLl1.out (by have := HQ.out; omega) ?_); intro VA1 vn1 vc1 w1 hb; have HB1 := Lh hb; clear hb; clear zHR_0 zHR_11 zHR_16 zHRY_0 zHRY_1 zHRY_2 zHRY_3; obtain ⟨zHR_0, zHR_11, zHR_16⟩ := (HR.out.at hp HB1.out.below).cs3 0 11 16; obtain ⟨zHRY_0, zHRY_1, zHRY_2, zHRY_3⟩ := (HRY.out.at hpy HB1.out.below).cs4 0 1 2 3; go_wp2_with fail; refine ((IHq' m hnm) w0 _ B r20 _ l1 l2 xq2 q1 HA20.out HB1.out HE.out HLl2.out (by have := HQ.out; omega)).mono ?_
     rintro e w2 ⟨v9, rfl, hb⟩; obtain ⟨VA2, vn2, vc2, rfl, -⟩ := hb.form; have HB2 := Lh hb; clear hb; clear zHR_0 zHR_11 zHR_16 zHRY_0 zHRY_1 zHRY_2 zHRY_3; obtain ⟨zHR_0, zHR_11, zHR_16⟩ := (HR.out.at hp HB2.out.below).cs3 0 11 16; obtain ⟨zHRY_0, zHRY_1, zHRY_2, zHRY_3⟩ := (HRY.out.at hpy HB2.out.below).cs4 0 1 2 3; go_wp2_with (at_builtin; refine HB2.out.str rfl _ _ rfl (by rfl) (⟨#[32, 97, 115, 32]⟩ : ByteArray) (by rfl) l3 HLl3.out (by have := HQ.out; omega) ?_); intro VA3 vn3 vc3 w3 hb; have HB3 := Lh hb; clear hb; clear zHR_0 zHR_11 zHR_16 zHRY_0 zHRY_1 zHRY_2 zHRY_3; obtain ⟨zHR_0, zHR_11, zHR_16⟩ := (HR.out.at hp HB3.out.below).cs3 0 11 16; obtain ⟨zHRY_0, zHRY_1, zHRY_2, zHRY_3⟩ := (HRY.out.at hpy HB3.out.below).cs4 0 1 2 3; go_wp2_with fail; refine ((IHp' m hnm) w0 _ B r21 _ l3 l4 xp2 q2 HA21.out HB3.out HE.out HLl4.out (by have := HQ.out; omega)).mono ?_; rintro e w4 ⟨v9, rfl, hb⟩; obtain ⟨VA4, vn4, vc4, rfl, -⟩ := hb.form; have HB4 := Lh hb; clear hb; clear zHR_0 zHR_11 zHR_16 zHRY_0 zHRY_1 zHRY_2 zHRY_3; obtain ⟨zHR_0, zHR_11, zHR_16⟩ := (HR.out.at hp HB4.out.below).cs3 0 11 16; obtain ⟨zHRY_0, zHRY_1, zHRY_2, zHRY_3⟩ := (HRY.out.at hpy HB4.out.below).cs4 0 1 2 3; go_wp2_with (at_builtin; refine HB4.out.str rfl _ _ rfl (by rfl) (⟨#[32, 40]⟩ : ByteArray) (by rfl) l5 HLl5.out (by have := HQ.out; omega) ?_); intro VA5 vn5 vc5 w5 hb; have HB5 := Lh hb; clear hb; clear zHR_0 zHR_11 zHR_16 zHRY_0 zHRY_1 zHRY_2 zHRY_3; obtain ⟨zHR_0, zHR_11, zHR_16⟩ := (HR.out.at hp HB5.out.below).cs3 0 11 16; obtain ⟨zHRY_0, zHRY_1, zHRY_2, zHRY_3⟩ := (HRY.out.at hpy HB5.out.below).cs4 0 1 2 3; go_wp2_with fail; refine ((IHq' m hnm) w0 _ B r22 _ l5 l6 xs2 q3 HA22.out HB5.out HE.out HLl6.out (by have := HQ.out; omega)).mono ?_; rintro e w6 ⟨v9, rfl, hb⟩; obtain ⟨VA6, vn6, vc6, rfl, -⟩ := hb.form; have HB6 := Lh hb; clear hb; clear zHR_0 zHR_11 zHR_16 zHRY_0 zHRY_1 zHRY_2 zHRY_3; obtain ⟨zHR_0, zHR_11, zHR_16⟩ := (HR.out.at hp HB6.out.below).cs3 0 11 16; obtain ⟨zHRY_0, zHRY_1, zHRY_2, zHRY_3⟩ := (HRY.out.at hpy HB6.out.below).cs4 0 1 2 3; go_wp2_with (at_builtin; refine HB6.out.str rfl _ _ rfl (by rfl) (⟨#[59, 32]⟩ : ByteArray) (by rfl) l7 HLl7.out (by have := HQ.out; omega) ?_); intro VA7 vn7 vc7 w7 hb; have HB7 := Lh hb; clear hb; clear zHR_0 zHR_11 zHR_16 zHRY_0 zHRY_1 zHRY_2 zHRY_3; obtain ⟨zHR_0, zHR_11, zHR_16⟩ := (HR.out.at hp HB7.out.below).cs3 0 11 16; obtain ⟨zHRY_0, zHRY_1, zHRY_2, zHRY_3⟩ := (HRY.out.at hpy HB7.out.below).cs4 0 1 2 3; go_wp2_with fail; refine ((IHq' m hnm) w0 _ B r23 _ l7 l8 xu2 q4 HA23.out HB7.out HE.out HLl8.out (by have := HQ.out; omega)).mono ?_; rintro e w8 ⟨v9, rfl, hb⟩; obtain ⟨VA8, vn8, vc8, rfl, -⟩ := hb.form; have HB8 := Lh hb; clear hb; clear zHR_0 zHR_11 zHR_16 zHRY_0 zHRY_1 zHRY_2 zHRY_3; obtain ⟨zHR_0, zHR_11, zHR_16⟩ := (HR.out.at hp HB8.out.below).cs3 0 11 16; obtain ⟨zHRY_0, zHRY_1, zHRY_2, zHRY_3⟩ := (HRY.out.at hpy HB8.out.below).cs4 0 1 2 3; go_wp2_with (at_builtin; refine HB8.out.byt rfl _ _ rfl (by rfl) 41 _ rfl _ rfl rfl (by rfl) l9 HLl9.out (by have := HQ.out; omega) ?_); intro VA9 vn9 vc9 w9 hb; have HB9 := Lh hb; clear hb; clear zHR_0 zHR_11 zHR_16 zHRY_0 zHRY_1 zHRY_2 zHRY_3; obtain ⟨zHR_0, zHR_11, zHR_16⟩ := (HR.out.at hp HB9.out.below).cs3 0 11 16; obtain ⟨zHRY_0, zHRY_1, zHRY_2, zHRY_3⟩ := (HRY.out.at hpy HB9.out.below).cs4 0 1 2 3; go_wp2_with fail; go_loopw [0, 391] (fun v t wr => ∃ (j : Nat) (c : L8), j ≤ N16 ∧ t = .int .i64 j ∧ BN B w0 c v wr ∧ l10 = itr (fun _ t l => pr n t l) (xsl.drop j) j c) (fun _ t _ => N16 - (intOf t).toNat)
     case atStart =>
      exact ⟨0, l9, Nat.zero_le _, rfl, HB9.out, HLl10.out⟩
     case round =>
      obtain ⟨j, c, hj, rfl, hb, hx⟩ := hrel; obtain ⟨Ac, nc, cc, rfl, -⟩ := hb.form; have HB100 := Lh hb; have HXC := Lh hx; clear hb hx
      by_cases hlt : j < N16
      ·
       obtain ⟨ab, ao, q, t, hA, hcl, hst, hat, hW⟩ := LS16.out.kid HB100.out.below hlt (fun _ t l => pr n t l) c; subst hA; have hc := hcl _ HB100.out.below; have HST := Lh hst; have HAT := Lh hat; clear hcl hst hat; obtain ⟨c1, hc1⟩ : ∃ x, x = pr n t c := ⟨_, rfl⟩
       have qc1 : c.length ≤ c1.length := by rw [hc1]; exact prLe _ _ _
       have hf9 : (fun _ t l => pr n t l) j t c = c1 := by rw [hc1]
       have hx8 : l10 = itr (fun _ t l => pr n t l) (xsl.drop (j + 1)) (j + 1) c1 := by rw [← hf9]; exact HXC.out.trans HST.out
       have q9 : c1.length ≤ l10.length := by rw [hx8]; exact itrLe (fun _ _ _ => prLe _ _ _) _ _ _
       have HXD := Lh hx8; have HQC := Lh ((And.intro qc1 q9)); have HLc1 := Lh hc1; clear hf9 hx8 q9 qc1 hc1; go_wp2_with fail; refine (IHsf w0 _ B q _ c c1 t hW HAT.out HB100.out HE.out HLc1.out (by have := HQ.out; have := HQC.out; omega)).mono ?_; rintro e w101 ⟨v9, rfl, hb⟩; obtain ⟨VA101, vn101, vc101, rfl, -⟩ := hb.form; have HB101 := Lh hb; clear hb; go_wp2_with fail; exact ⟨⟨j + 1, c1, by omega, by go_num, HB101.out, HXD.out⟩, by simp [intOf]; omega⟩
      ·
       obtain rfl : N16 = j := by omega
       have hx9 : l10 = c := HXC.out.trans (LS16.out.fin _ c); have HB10 := Lh (show BN B w0 l10 (.slice Ac nc cc) _ from by rw [hx9]; exact HB100.out); clear hx9; obtain ⟨zHR_0, zHR_11, zHR_16⟩ := (HR.out.at hp HB10.out.below).cs3 0 11 16; obtain ⟨zHRY_0, zHRY_1, zHRY_2, zHRY_3⟩ := (HRY.out.at hpy HB10.out.below).cs4 0 1 2 3; go_wp2_with fail; go_ret; exact ⟨_, rfl, HB10.out⟩
  ·
   rcases FV.pt f12 with ⟨rfl, rfl⟩ | ⟨y, r, rfl, rfl, ay⟩
   ·
    exact absurd (k17 rfl) (by simp)
   ·
    have HAT := Lh ay; clear k6 k7 k8 k9 k11 k13 k14 k15 k16 k17 k18 k20 kS e1 e2 ay f1 f2 f3 f4 f6 f8 f9 f10 f11 f12 f13 f15; have HR := Lh hr; clear hr
    obtain ⟨m, hnm⟩ : ∃ m, n = m + 1 := by cases n with | zero => exact HAT.out.elim | succ m => exact ⟨m, rfl⟩
    have ham := HAT.out; rw [hnm] at ham; have hwy := hfe _ rfl; clear hfe
    cases hwy with
    | fe xq2 xp2 xs2 xu2 xe2 q1 q2 q3 q4 q5 =>
     obtain ⟨hpy, u0, u1, u2, u3, u4, hry, p0, p1, p2, p3, p4⟩ := inv_fe ham; obtain ⟨r20, rfl, a20⟩ := p0; have HA20 := Lh a20; obtain ⟨r21, rfl, a21⟩ := p1; have HA21 := Lh a21; obtain ⟨r22, rfl, a22⟩ := p2; have HA22 := Lh a22; obtain ⟨r23, rfl, a23⟩ := p3; have HA23 := Lh a23; clear ham a20 a21 a22 a23; rcases FV.pt p4 with ⟨rfl, rfl⟩ | ⟨y24, r24, rfl, rfl, a24⟩
     ·
      have HRY := Lh hry; clear hry p4; obtain ⟨l1, hl1⟩ : ∃ x, x = l ++ [102, 111, 114, 101, 97, 99, 104, 32] := ⟨_, rfl⟩
      have ql1 : l.length + 8 ≤ l1.length := by rw [hl1, List.length_append]; exact Nat.le_refl _
      obtain ⟨l2, hl2⟩ : ∃ x, x = pr m xq2 l1 := ⟨_, rfl⟩
      have ql2 : l1.length ≤ l2.length := by rw [hl2]; exact prLe _ _ _
      obtain ⟨l3, hl3⟩ : ∃ x, x = l2 ++ [32, 97, 115, 32] := ⟨_, rfl⟩
      have ql3 : l2.length + 4 ≤ l3.length := by rw [hl3, List.length_append]; exact Nat.le_refl _
      obtain ⟨l4, hl4⟩ : ∃ x, x = pr m xp2 l3 := ⟨_, rfl⟩
      have ql4 : l3.length ≤ l4.length := by rw [hl4]; exact prLe _ _ _
      obtain ⟨l5, hl5⟩ : ∃ x, x = l4 ++ [32, 40] := ⟨_, rfl⟩
      have ql5 : l4.length + 2 ≤ l5.length := by rw [hl5, List.length_append]; exact Nat.le_refl _
      obtain ⟨l6, hl6⟩ : ∃ x, x = pr m xs2 l5 := ⟨_, rfl⟩
      have ql6 : l5.length ≤ l6.length := by rw [hl6]; exact prLe _ _ _
      obtain ⟨l7, hl7⟩ : ∃ x, x = l6 ++ [59, 32] := ⟨_, rfl⟩
      have ql7 : l6.length + 2 ≤ l7.length := by rw [hl7, List.length_append]; exact Nat.le_refl _
      obtain ⟨l8, hl8⟩ : ∃ x, x = pr m xu2 l7 := ⟨_, rfl⟩
      have ql8 : l7.length ≤ l8.length := by rw [hl8]; exact prLe _ _ _
      obtain ⟨l9, hl9⟩ : ∃ x, x = l8 ++ [41] := ⟨_, rfl⟩
      have ql9 : l8.length + 1 ≤ l9.length := by rw [hl9, List.length_append]; exact Nat.le_refl _
      obtain ⟨l10, hl10⟩ : ∃ x, x = itr (fun _ t l => pr n t l) xsl 0 l9 := ⟨_, rfl⟩
      have ql10 : l9.length ≤ l10.length := by rw [hl10]; exact itrLe (fun _ _ _ => prLe _ _ _) _ _ _
      have hX : l' = l10 := by rw [hl]; rw [hl10, hl9, hl8, hl7, hl6, hl5, hl4, hl3, hl2, hl1, hnm]; rfl
      rw [hX] at hlen; have HQ := Lh (And.intro hlen (And.intro ql1 (And.intro ql2 (And.intro ql3 (And.intro ql4 (And.intro ql5 (And.intro ql6 (And.intro ql7 (And.intro ql8 (And.intro ql9 ql10)))))))))); have HLl1 := Lh hl1; have HLl2 := Lh hl2; have HLl3 := Lh hl3; have HLl4 := Lh hl4; have HLl5 := Lh hl5; have HLl6 := Lh hl6; have HLl7 := Lh hl7; have HLl8 := Lh hl8; have HLl9 := Lh hl9; have HLl10 := Lh hl10; rw [hX]; clear hX hlen hl ql1 ql2 ql3 ql4 ql5 ql6 ql7 ql8 ql9 ql10 hl1 hl2 hl3 hl4 hl5 hl6 hl7 hl8 hl9 hl10; obtain ⟨zHR_0, zHR_12, zHR_16⟩ := (HR.out.at hp HB.out.below).cs3 0 12 16; obtain ⟨zHRY_0, zHRY_1, zHRY_2, zHRY_3, zHRY_4⟩ := (HRY.out.at hpy HB.out.below).cs5 0 1 2 3 4; go_enter Tryz.func8, Tryz.ntmps8; go_wp2_with (at_builtin; refine HB.out.str rfl _ _ rfl (by rfl) (⟨#[102, 111, 114, 101, 97, 99, 104, 32]⟩ : ByteArray) (by rfl) l1 HLl1.out (by have := HQ.out; omega) ?_); intro VA1 vn1 vc1 w1 hb; have HB1 := Lh hb; clear hb; clear zHR_0 zHR_12 zHR_16 zHRY_0 zHRY_1 zHRY_2 zHRY_3 zHRY_4; obtain ⟨zHR_0, zHR_12, zHR_16⟩ := (HR.out.at hp HB1.out.below).cs3 0 12 16; obtain ⟨zHRY_0, zHRY_1, zHRY_2, zHRY_3, zHRY_4⟩ := (HRY.out.at hpy HB1.out.below).cs5 0 1 2 3 4; go_wp2_with fail; refine ((IHq' m hnm) w0 _ B r20 _ l1 l2 xq2 q1 HA20.out HB1.out HE.out HLl2.out (by have := HQ.out; omega)).mono ?_; rintro e w2 ⟨v9, rfl, hb⟩; obtain ⟨VA2, vn2, vc2, rfl, -⟩ := hb.form; have HB2 := Lh hb; clear hb; clear zHR_0 zHR_12 zHR_16 zHRY_0 zHRY_1 zHRY_2 zHRY_3 zHRY_4; obtain ⟨zHR_0, zHR_12, zHR_16⟩ := (HR.out.at hp HB2.out.below).cs3 0 12 16; obtain ⟨zHRY_0, zHRY_1, zHRY_2, zHRY_3, zHRY_4⟩ := (HRY.out.at hpy HB2.out.below).cs5 0 1 2 3 4; go_wp2_with (at_builtin; refine HB2.out.str rfl _ _ rfl (by rfl) (⟨#[32, 97, 115, 32]⟩ : ByteArray) (by rfl) l3 HLl3.out (by have := HQ.out; omega) ?_); intro VA3 vn3 vc3 w3 hb; have HB3 := Lh hb; clear hb; clear zHR_0 zHR_12 zHR_16 zHRY_0 zHRY_1 zHRY_2 zHRY_3 zHRY_4; obtain ⟨zHR_0, zHR_12, zHR_16⟩ := (HR.out.at hp HB3.out.below).cs3 0 12 16; obtain ⟨zHRY_0, zHRY_1, zHRY_2, zHRY_3, zHRY_4⟩ := (HRY.out.at hpy HB3.out.below).cs5 0 1 2 3 4; go_wp2_with fail; refine ((IHp' m hnm) w0 _ B r21 _ l3 l4 xp2 q2 HA21.out HB3.out HE.out HLl4.out (by have := HQ.out; omega)).mono ?_; rintro e w4 ⟨v9, rfl, hb⟩; obtain ⟨VA4, vn4, vc4, rfl, -⟩ := hb.form; have HB4 := Lh hb; clear hb; clear zHR_0 zHR_12 zHR_16 zHRY_0 zHRY_1 zHRY_2 zHRY_3 zHRY_4
      obtain ⟨zHR_0, zHR_12, zHR_16⟩ := (HR.out.at hp HB4.out.below).cs3 0 12 16; obtain ⟨zHRY_0, zHRY_1, zHRY_2, zHRY_3, zHRY_4⟩ := (HRY.out.at hpy HB4.out.below).cs5 0 1 2 3 4; go_wp2_with (at_builtin; refine HB4.out.str rfl _ _ rfl (by rfl) (⟨#[32, 40]⟩ : ByteArray) (by rfl) l5 HLl5.out (by have := HQ.out; omega) ?_); intro VA5 vn5 vc5 w5 hb; have HB5 := Lh hb; clear hb; clear zHR_0 zHR_12 zHR_16 zHRY_0 zHRY_1 zHRY_2 zHRY_3 zHRY_4; obtain ⟨zHR_0, zHR_12, zHR_16⟩ := (HR.out.at hp HB5.out.below).cs3 0 12 16; obtain ⟨zHRY_0, zHRY_1, zHRY_2, zHRY_3, zHRY_4⟩ := (HRY.out.at hpy HB5.out.below).cs5 0 1 2 3 4; go_wp2_with fail; refine ((IHq' m hnm) w0 _ B r22 _ l5 l6 xs2 q3 HA22.out HB5.out HE.out HLl6.out (by have := HQ.out; omega)).mono ?_; rintro e w6 ⟨v9, rfl, hb⟩; obtain ⟨VA6, vn6, vc6, rfl, -⟩ := hb.form; have HB6 := Lh hb; clear hb; clear zHR_0 zHR_12 zHR_16 zHRY_0 zHRY_1 zHRY_2 zHRY_3 zHRY_4; obtain ⟨zHR_0, zHR_12, zHR_16⟩ := (HR.out.at hp HB6.out.below).cs3 0 12 16; obtain ⟨zHRY_0, zHRY_1, zHRY_2, zHRY_3, zHRY_4⟩ := (HRY.out.at hpy HB6.out.below).cs5 0 1 2 3 4; go_wp2_with (at_builtin; refine HB6.out.str rfl _ _ rfl (by rfl) (⟨#[59, 32]⟩ : ByteArray) (by rfl) l7 HLl7.out (by have := HQ.out; omega) ?_); intro VA7 vn7 vc7 w7 hb; have HB7 := Lh hb; clear hb; clear zHR_0 zHR_12 zHR_16 zHRY_0 zHRY_1 zHRY_2 zHRY_3 zHRY_4; obtain ⟨zHR_0, zHR_12, zHR_16⟩ := (HR.out.at hp HB7.out.below).cs3 0 12 16; obtain ⟨zHRY_0, zHRY_1, zHRY_2, zHRY_3, zHRY_4⟩ := (HRY.out.at hpy HB7.out.below).cs5 0 1 2 3 4; go_wp2_with fail; refine ((IHq' m hnm) w0 _ B r23 _ l7 l8 xu2 q4 HA23.out HB7.out HE.out HLl8.out (by have := HQ.out; omega)).mono ?_; rintro e w8 ⟨v9, rfl, hb⟩; obtain ⟨VA8, vn8, vc8, rfl, -⟩ := hb.form; have HB8 := Lh hb; clear hb; clear zHR_0 zHR_12 zHR_16 zHRY_0 zHRY_1 zHRY_2 zHRY_3 zHRY_4; obtain ⟨zHR_0, zHR_12, zHR_16⟩ := (HR.out.at hp HB8.out.below).cs3 0 12 16; obtain ⟨zHRY_0, zHRY_1, zHRY_2, zHRY_3, zHRY_4⟩ := (HRY.out.at hpy HB8.out.below).cs5 0 1 2 3 4; go_wp2_with (at_builtin; refine HB8.out.byt rfl _ _ rfl (by rfl) 41 _ rfl _ rfl rfl (by rfl) l9 HLl9.out (by have := HQ.out; omega) ?_); intro VA9 vn9 vc9 w9 hb; have HB9 := Lh hb; clear hb; clear zHR_0 zHR_12 zHR_16 zHRY_0 zHRY_1 zHRY_2 zHRY_3 zHRY_4; obtain ⟨zHR_0, zHR_12, zHR_16⟩ := (HR.out.at hp HB9.out.below).cs3 0 12 16; obtain ⟨zHRY_0, zHRY_1, zHRY_2, zHRY_3, zHRY_4⟩ := (HRY.out.at hpy HB9.out.below).cs5 0 1 2 3 4; go_wp2_with fail; go_loopw [0, 391] (fun v t wr => ∃ (j : Nat) (c : L8), j ≤ N16 ∧ t = .int .i64 j ∧ BN B w0 c v wr ∧ l10 = itr (fun _ t l => pr n t l) (xsl.drop j) j c) (fun _ t _ => N16 - (intOf t).toNat)
      case atStart =>
       exact ⟨0, l9, Nat.zero_le _, rfl, HB9.out, HLl10.out⟩
      case round =>
       obtain ⟨j, c, hj, rfl, hb, hx⟩ := hrel; obtain ⟨Ac, nc, cc, rfl, -⟩ := hb.form; have HB100 := Lh hb; have HXC := Lh hx; clear hb hx
       by_cases hlt : j < N16
       ·
        obtain ⟨ab, ao, q, t, hA, hcl, hst, hat, hW⟩ := LS16.out.kid HB100.out.below hlt (fun _ t l => pr n t l) c; subst hA; have hc := hcl _ HB100.out.below; have HST := Lh hst; have HAT := Lh hat; clear hcl hst hat; obtain ⟨c1, hc1⟩ : ∃ x, x = pr n t c := ⟨_, rfl⟩
        have qc1 : c.length ≤ c1.length := by rw [hc1]; exact prLe _ _ _
        have hf9 : (fun _ t l => pr n t l) j t c = c1 := by rw [hc1]
        have hx8 : l10 = itr (fun _ t l => pr n t l) (xsl.drop (j + 1)) (j + 1) c1 := by rw [← hf9]; exact HXC.out.trans HST.out
        have q9 : c1.length ≤ l10.length := by rw [hx8]; exact itrLe (fun _ _ _ => prLe _ _ _) _ _ _
        have HXD := Lh hx8; have HQC := Lh ((And.intro qc1 q9)); have HLc1 := Lh hc1; clear hf9 hx8 q9 qc1 hc1; go_wp2_with fail; refine (IHsf w0 _ B q _ c c1 t hW HAT.out HB100.out HE.out HLc1.out (by have := HQ.out; have := HQC.out; omega)).mono ?_; rintro e w101 ⟨v9, rfl, hb⟩; obtain ⟨VA101, vn101, vc101, rfl, -⟩ := hb.form; have HB101 := Lh hb; clear hb; go_wp2_with fail; exact ⟨⟨j + 1, c1, by omega, by go_num, HB101.out, HXD.out⟩, by simp [intOf]; omega⟩
       ·
        obtain rfl : N16 = j := by omega
        have hx9 : l10 = c := HXC.out.trans (LS16.out.fin _ c); have HB10 := Lh (show BN B w0 l10 (.slice Ac nc cc) _ from by rw [hx9]; exact HB100.out); clear hx9; obtain ⟨zHR_0, zHR_12, zHR_16⟩ := (HR.out.at hp HB10.out.below).cs3 0 12 16; obtain ⟨zHRY_0, zHRY_1, zHRY_2, zHRY_3, zHRY_4⟩ := (HRY.out.at hpy HB10.out.below).cs5 0 1 2 3 4; go_wp2_with fail; go_ret; exact ⟨_, rfl, HB10.out⟩
     ·
      have HA24 := Lh a24; clear a24; have HRY := Lh hry; clear hry p4; obtain ⟨l1, hl1⟩ : ∃ x, x = l ++ [102, 111, 114, 101, 97, 99, 104, 32] := ⟨_, rfl⟩
      have ql1 : l.length + 8 ≤ l1.length := by rw [hl1, List.length_append]; exact Nat.le_refl _
      obtain ⟨l2, hl2⟩ : ∃ x, x = pr m xq2 l1 := ⟨_, rfl⟩
      have ql2 : l1.length ≤ l2.length := by rw [hl2]; exact prLe _ _ _
      obtain ⟨l3, hl3⟩ : ∃ x, x = l2 ++ [32, 97, 115, 32] := ⟨_, rfl⟩
      have ql3 : l2.length + 4 ≤ l3.length := by rw [hl3, List.length_append]; exact Nat.le_refl _
      obtain ⟨l4, hl4⟩ : ∃ x, x = pr m xp2 l3 := ⟨_, rfl⟩
      have ql4 : l3.length ≤ l4.length := by rw [hl4]; exact prLe _ _ _
      obtain ⟨l5, hl5⟩ : ∃ x, x = l4 ++ [32, 40] := ⟨_, rfl⟩
      have ql5 : l4.length + 2 ≤ l5.length := by rw [hl5, List.length_append]; exact Nat.le_refl _
      obtain ⟨l6, hl6⟩ : ∃ x, x = pr m xs2 l5 := ⟨_, rfl⟩
      have ql6 : l5.length ≤ l6.length := by rw [hl6]; exact prLe _ _ _
      obtain ⟨l7, hl7⟩ : ∃ x, x = l6 ++ [59, 32] := ⟨_, rfl⟩
      have ql7 : l6.length + 2 ≤ l7.length := by rw [hl7, List.length_append]; exact Nat.le_refl _
      obtain ⟨l8, hl8⟩ : ∃ x, x = pr m xu2 l7 := ⟨_, rfl⟩
      have ql8 : l7.length ≤ l8.length := by rw [hl8]; exact prLe _ _ _
      obtain ⟨l9, hl9⟩ : ∃ x, x = l8 ++ [59, 32] := ⟨_, rfl⟩
      have ql9 : l8.length + 2 ≤ l9.length := by rw [hl9, List.length_append]; exact Nat.le_refl _
      obtain ⟨l10, hl10⟩ : ∃ x, x = pr m y24 l9 := ⟨_, rfl⟩
      have ql10 : l9.length ≤ l10.length := by rw [hl10]; exact prLe _ _ _
      obtain ⟨l11, hl11⟩ : ∃ x, x = l10 ++ [41] := ⟨_, rfl⟩
      have ql11 : l10.length + 1 ≤ l11.length := by rw [hl11, List.length_append]; exact Nat.le_refl _
      obtain ⟨l12, hl12⟩ : ∃ x, x = itr (fun _ t l => pr n t l) xsl 0 l11 := ⟨_, rfl⟩
      have ql12 : l11.length ≤ l12.length := by rw [hl12]; exact itrLe (fun _ _ _ => prLe _ _ _) _ _ _
      have hX : l' = l12 := by rw [hl]; rw [hl12, hl11, hl10, hl9, hl8, hl7, hl6, hl5, hl4, hl3, hl2, hl1, hnm]; rfl
      rw [hX] at hlen; have HQ := Lh (And.intro hlen (And.intro ql1 (And.intro ql2 (And.intro ql3 (And.intro ql4 (And.intro ql5 (And.intro ql6 (And.intro ql7 (And.intro ql8 (And.intro ql9 (And.intro ql10 (And.intro ql11 ql12)))))))))))); have HLl1 := Lh hl1; have HLl2 := Lh hl2; have HLl3 := Lh hl3; have HLl4 := Lh hl4; have HLl5 := Lh hl5; have HLl6 := Lh hl6; have HLl7 := Lh hl7; have HLl8 := Lh hl8; have HLl9 := Lh hl9; have HLl10 := Lh hl10; have HLl11 := Lh hl11; have HLl12 := Lh hl12; rw [hX]; clear hX hlen hl ql1 ql2 ql3 ql4 ql5 ql6 ql7 ql8 ql9 ql10 ql11 ql12 hl1 hl2 hl3 hl4 hl5 hl6 hl7 hl8 hl9 hl10 hl11 hl12; obtain ⟨zHR_0, zHR_12, zHR_16⟩ := (HR.out.at hp HB.out.below).cs3 0 12 16; obtain ⟨zHRY_0, zHRY_1, zHRY_2, zHRY_3, zHRY_4⟩ := (HRY.out.at hpy HB.out.below).cs5 0 1 2 3 4; go_enter Tryz.func8, Tryz.ntmps8; go_wp2_with (at_builtin; refine HB.out.str rfl _ _ rfl (by rfl) (⟨#[102, 111, 114, 101, 97, 99, 104, 32]⟩ : ByteArray) (by rfl) l1 HLl1.out (by have := HQ.out; omega) ?_); intro VA1 vn1 vc1 w1 hb; have HB1 := Lh hb; clear hb; clear zHR_0 zHR_12 zHR_16 zHRY_0 zHRY_1 zHRY_2 zHRY_3 zHRY_4; obtain ⟨zHR_0, zHR_12, zHR_16⟩ := (HR.out.at hp HB1.out.below).cs3 0 12 16; obtain ⟨zHRY_0, zHRY_1, zHRY_2, zHRY_3, zHRY_4⟩ := (HRY.out.at hpy HB1.out.below).cs5 0 1 2 3 4; go_wp2_with fail; refine ((IHq' m hnm) w0 _ B r20 _ l1 l2 xq2 q1 HA20.out HB1.out HE.out HLl2.out (by have := HQ.out; omega)).mono ?_; rintro e w2 ⟨v9, rfl, hb⟩; obtain ⟨VA2, vn2, vc2, rfl, -⟩ := hb.form; have HB2 := Lh hb; clear hb; clear zHR_0 zHR_12 zHR_16 zHRY_0 zHRY_1 zHRY_2 zHRY_3 zHRY_4; obtain ⟨zHR_0, zHR_12, zHR_16⟩ := (HR.out.at hp HB2.out.below).cs3 0 12 16; obtain ⟨zHRY_0, zHRY_1, zHRY_2, zHRY_3, zHRY_4⟩ := (HRY.out.at hpy HB2.out.below).cs5 0 1 2 3 4; go_wp2_with (at_builtin; refine HB2.out.str rfl _ _ rfl (by rfl) (⟨#[32, 97, 115, 32]⟩ : ByteArray) (by rfl) l3 HLl3.out (by have := HQ.out; omega) ?_); intro VA3 vn3 vc3 w3 hb; have HB3 := Lh hb; clear hb; clear zHR_0 zHR_12 zHR_16 zHRY_0 zHRY_1 zHRY_2 zHRY_3 zHRY_4; obtain ⟨zHR_0, zHR_12, zHR_16⟩ := (HR.out.at hp HB3.out.below).cs3 0 12 16; obtain ⟨zHRY_0, zHRY_1, zHRY_2, zHRY_3, zHRY_4⟩ := (HRY.out.at hpy HB3.out.below).cs5 0 1 2 3 4; go_wp2_with fail; refine ((IHp' m hnm) w0 _ B r21 _ l3 l4 xp2 q2 HA21.out HB3.out HE.out HLl4.out (by have := HQ.out; omega)).mono ?_
      rintro e w4 ⟨v9, rfl, hb⟩; obtain ⟨VA4, vn4, vc4, rfl, -⟩ := hb.form; have HB4 := Lh hb; clear hb; clear zHR_0 zHR_12 zHR_16 zHRY_0 zHRY_1 zHRY_2 zHRY_3 zHRY_4; obtain ⟨zHR_0, zHR_12, zHR_16⟩ := (HR.out.at hp HB4.out.below).cs3 0 12 16; obtain ⟨zHRY_0, zHRY_1, zHRY_2, zHRY_3, zHRY_4⟩ := (HRY.out.at hpy HB4.out.below).cs5 0 1 2 3 4; go_wp2_with (at_builtin; refine HB4.out.str rfl _ _ rfl (by rfl) (⟨#[32, 40]⟩ : ByteArray) (by rfl) l5 HLl5.out (by have := HQ.out; omega) ?_); intro VA5 vn5 vc5 w5 hb; have HB5 := Lh hb; clear hb; clear zHR_0 zHR_12 zHR_16 zHRY_0 zHRY_1 zHRY_2 zHRY_3 zHRY_4; obtain ⟨zHR_0, zHR_12, zHR_16⟩ := (HR.out.at hp HB5.out.below).cs3 0 12 16; obtain ⟨zHRY_0, zHRY_1, zHRY_2, zHRY_3, zHRY_4⟩ := (HRY.out.at hpy HB5.out.below).cs5 0 1 2 3 4; go_wp2_with fail; refine ((IHq' m hnm) w0 _ B r22 _ l5 l6 xs2 q3 HA22.out HB5.out HE.out HLl6.out (by have := HQ.out; omega)).mono ?_; rintro e w6 ⟨v9, rfl, hb⟩; obtain ⟨VA6, vn6, vc6, rfl, -⟩ := hb.form; have HB6 := Lh hb; clear hb; clear zHR_0 zHR_12 zHR_16 zHRY_0 zHRY_1 zHRY_2 zHRY_3 zHRY_4; obtain ⟨zHR_0, zHR_12, zHR_16⟩ := (HR.out.at hp HB6.out.below).cs3 0 12 16
      obtain ⟨zHRY_0, zHRY_1, zHRY_2, zHRY_3, zHRY_4⟩ := (HRY.out.at hpy HB6.out.below).cs5 0 1 2 3 4; go_wp2_with (at_builtin; refine HB6.out.str rfl _ _ rfl (by rfl) (⟨#[59, 32]⟩ : ByteArray) (by rfl) l7 HLl7.out (by have := HQ.out; omega) ?_); intro VA7 vn7 vc7 w7 hb; have HB7 := Lh hb; clear hb; clear zHR_0 zHR_12 zHR_16 zHRY_0 zHRY_1 zHRY_2 zHRY_3 zHRY_4; obtain ⟨zHR_0, zHR_12, zHR_16⟩ := (HR.out.at hp HB7.out.below).cs3 0 12 16; obtain ⟨zHRY_0, zHRY_1, zHRY_2, zHRY_3, zHRY_4⟩ := (HRY.out.at hpy HB7.out.below).cs5 0 1 2 3 4; go_wp2_with fail; refine ((IHq' m hnm) w0 _ B r23 _ l7 l8 xu2 q4 HA23.out HB7.out HE.out HLl8.out (by have := HQ.out; omega)).mono ?_; rintro e w8 ⟨v9, rfl, hb⟩; obtain ⟨VA8, vn8, vc8, rfl, -⟩ := hb.form; have HB8 := Lh hb; clear hb; clear zHR_0 zHR_12 zHR_16 zHRY_0 zHRY_1 zHRY_2 zHRY_3 zHRY_4; obtain ⟨zHR_0, zHR_12, zHR_16⟩ := (HR.out.at hp HB8.out.below).cs3 0 12 16; obtain ⟨zHRY_0, zHRY_1, zHRY_2, zHRY_3, zHRY_4⟩ := (HRY.out.at hpy HB8.out.below).cs5 0 1 2 3 4; go_wp2_with (at_builtin; refine HB8.out.str rfl _ _ rfl (by rfl) (⟨#[59, 32]⟩ : ByteArray) (by rfl) l9 HLl9.out (by have := HQ.out; omega) ?_)
      intro VA9 vn9 vc9 w9 hb; have HB9 := Lh hb; clear hb; clear zHR_0 zHR_12 zHR_16 zHRY_0 zHRY_1 zHRY_2 zHRY_3 zHRY_4; obtain ⟨zHR_0, zHR_12, zHR_16⟩ := (HR.out.at hp HB9.out.below).cs3 0 12 16; obtain ⟨zHRY_0, zHRY_1, zHRY_2, zHRY_3, zHRY_4⟩ := (HRY.out.at hpy HB9.out.below).cs5 0 1 2 3 4; go_wp2_with fail; refine ((IHq' m hnm) w0 _ B r24 _ l9 l10 y24 (q5 _ rfl) HA24.out HB9.out HE.out HLl10.out (by have := HQ.out; omega)).mono ?_; rintro e w10 ⟨v9, rfl, hb⟩; obtain ⟨VA10, vn10, vc10, rfl, -⟩ := hb.form; have HB10 := Lh hb; clear hb; clear zHR_0 zHR_12 zHR_16 zHRY_0 zHRY_1 zHRY_2 zHRY_3 zHRY_4; obtain ⟨zHR_0, zHR_12, zHR_16⟩ := (HR.out.at hp HB10.out.below).cs3 0 12 16; obtain ⟨zHRY_0, zHRY_1, zHRY_2, zHRY_3, zHRY_4⟩ := (HRY.out.at hpy HB10.out.below).cs5 0 1 2 3 4; go_wp2_with (at_builtin; refine HB10.out.byt rfl _ _ rfl (by rfl) 41 _ rfl _ rfl rfl (by rfl) l11 HLl11.out (by have := HQ.out; omega) ?_); intro VA11 vn11 vc11 w11 hb; have HB11 := Lh hb; clear hb; clear zHR_0 zHR_12 zHR_16 zHRY_0 zHRY_1 zHRY_2 zHRY_3 zHRY_4; obtain ⟨zHR_0, zHR_12, zHR_16⟩ := (HR.out.at hp HB11.out.below).cs3 0 12 16; obtain ⟨zHRY_0, zHRY_1, zHRY_2, zHRY_3, zHRY_4⟩ := (HRY.out.at hpy HB11.out.below).cs5 0 1 2 3 4; go_wp2_with fail; go_loopw [0, 391] (fun v t wr => ∃ (j : Nat) (c : L8), j ≤ N16 ∧ t = .int .i64 j ∧ BN B w0 c v wr ∧ l12 = itr (fun _ t l => pr n t l) (xsl.drop j) j c) (fun _ t _ => N16 - (intOf t).toNat)
      case atStart =>
       exact ⟨0, l11, Nat.zero_le _, rfl, HB11.out, HLl12.out⟩
      case round =>
       obtain ⟨j, c, hj, rfl, hb, hx⟩ := hrel; obtain ⟨Ac, nc, cc, rfl, -⟩ := hb.form; have HB100 := Lh hb; have HXC := Lh hx; clear hb hx
       by_cases hlt : j < N16
       ·
        obtain ⟨ab, ao, q, t, hA, hcl, hst, hat, hW⟩ := LS16.out.kid HB100.out.below hlt (fun _ t l => pr n t l) c; subst hA; have hc := hcl _ HB100.out.below; have HST := Lh hst; have HAT := Lh hat; clear hcl hst hat; obtain ⟨c1, hc1⟩ : ∃ x, x = pr n t c := ⟨_, rfl⟩
        have qc1 : c.length ≤ c1.length := by rw [hc1]; exact prLe _ _ _
        have hf9 : (fun _ t l => pr n t l) j t c = c1 := by rw [hc1]
        have hx8 : l12 = itr (fun _ t l => pr n t l) (xsl.drop (j + 1)) (j + 1) c1 := by rw [← hf9]; exact HXC.out.trans HST.out
        have q9 : c1.length ≤ l12.length := by rw [hx8]; exact itrLe (fun _ _ _ => prLe _ _ _) _ _ _
        have HXD := Lh hx8; have HQC := Lh ((And.intro qc1 q9)); have HLc1 := Lh hc1; clear hf9 hx8 q9 qc1 hc1; go_wp2_with fail; refine (IHsf w0 _ B q _ c c1 t hW HAT.out HB100.out HE.out HLc1.out (by have := HQ.out; have := HQC.out; omega)).mono ?_; rintro e w101 ⟨v9, rfl, hb⟩; obtain ⟨VA101, vn101, vc101, rfl, -⟩ := hb.form; have HB101 := Lh hb; clear hb; go_wp2_with fail; exact ⟨⟨j + 1, c1, by omega, by go_num, HB101.out, HXD.out⟩, by simp [intOf]; omega⟩
       ·
        obtain rfl : N16 = j := by omega
        have hx9 : l12 = c := HXC.out.trans (LS16.out.fin _ c); have HB12 := Lh (show BN B w0 l12 (.slice Ac nc cc) _ from by rw [hx9]; exact HB100.out); clear hx9; obtain ⟨zHR_0, zHR_12, zHR_16⟩ := (HR.out.at hp HB12.out.below).cs3 0 12 16; obtain ⟨zHRY_0, zHRY_1, zHRY_2, zHRY_3, zHRY_4⟩ := (HRY.out.at hpy HB12.out.below).cs5 0 1 2 3 4; go_wp2_with fail; go_ret; exact ⟨_, rfl, HB12.out⟩
  ·
   rcases FV.pt f13 with ⟨rfl, rfl⟩ | ⟨y, r, rfl, rfl, ay⟩
   ·
    exact absurd (k18 rfl) (by simp)
   ·
    have HAT := Lh ay; clear k6 k7 k8 k9 k11 k13 k14 k15 k16 k17 k18 k20 kS e1 e2 ay f1 f2 f3 f4 f6 f8 f9 f10 f11 f12 f13 f15; have HR := Lh hr; clear hr
    obtain ⟨m, hnm⟩ : ∃ m, n = m + 1 := by cases n with | zero => exact HAT.out.elim | succ m => exact ⟨m, rfl⟩
    have ham := HAT.out; rw [hnm] at ham; have hwy := hlb _ rfl; clear hlb
    cases hwy with
    | lb xid xb2 q1 =>
     obtain ⟨hpy, u1, hry, p1⟩ := inv_lb ham; obtain ⟨r21, rfl, a21⟩ := p1; have HA21 := Lh a21; clear ham a21; have HRY := Lh hry; clear hry; obtain ⟨l1, hl1⟩ : ∃ x, x = l ++ [108, 97, 98, 101, 108, 32] := ⟨_, rfl⟩
     have ql1 : l.length + 6 ≤ l1.length := by rw [hl1, List.length_append]; exact Nat.le_refl _
     obtain ⟨l2, hl2⟩ : ∃ x, x = l1 ++ xid.data.toList := ⟨_, rfl⟩
     have ql2 : l1.length ≤ l2.length := by rw [hl2, List.length_append]; omega
     obtain ⟨l3, hl3⟩ : ∃ x, x = l2 ++ [32, 124, 32] := ⟨_, rfl⟩
     have ql3 : l2.length + 3 ≤ l3.length := by rw [hl3, List.length_append]; exact Nat.le_refl _
     obtain ⟨l4, hl4⟩ : ∃ x, x = pr m xb2 l3 := ⟨_, rfl⟩
     have ql4 : l3.length ≤ l4.length := by rw [hl4]; exact prLe _ _ _
     obtain ⟨l5, hl5⟩ : ∃ x, x = itr (fun _ t l => pr n t l) xsl 0 l4 := ⟨_, rfl⟩
     have ql5 : l4.length ≤ l5.length := by rw [hl5]; exact itrLe (fun _ _ _ => prLe _ _ _) _ _ _
     have hX : l' = l5 := by rw [hl]; rw [hl5, hl4, hl3, hl2, hl1, hnm]; rfl
     rw [hX] at hlen; have HQ := Lh (And.intro hlen (And.intro ql1 (And.intro ql2 (And.intro ql3 (And.intro ql4 ql5))))); have HLl1 := Lh hl1; have HLl2 := Lh hl2; have HLl3 := Lh hl3; have HLl4 := Lh hl4; have HLl5 := Lh hl5; rw [hX]; clear hX hlen hl ql1 ql2 ql3 ql4 ql5 hl1 hl2 hl3 hl4 hl5; obtain ⟨zHR_0, zHR_13, zHR_16⟩ := (HR.out.at hp HB.out.below).cs3 0 13 16; obtain ⟨zHRY_0, zHRY_1⟩ := (HRY.out.at hpy HB.out.below).cs2 0 1; go_enter Tryz.func8, Tryz.ntmps8; go_wp2_with (at_builtin; refine HB.out.str rfl _ _ rfl (by rfl) (⟨#[108, 97, 98, 101, 108, 32]⟩ : ByteArray) (by rfl) l1 HLl1.out (by have := HQ.out; omega) ?_); intro VA1 vn1 vc1 w1 hb; have HB1 := Lh hb; clear hb; clear zHR_0 zHR_13 zHR_16 zHRY_0 zHRY_1; obtain ⟨zHR_0, zHR_13, zHR_16⟩ := (HR.out.at hp HB1.out.below).cs3 0 13 16; obtain ⟨zHRY_0, zHRY_1⟩ := (HRY.out.at hpy HB1.out.below).cs2 0 1; go_wp2_with (at_builtin; refine HB1.out.str rfl _ _ rfl (by rfl) xid (by rfl) l2 HLl2.out (by have := HQ.out; omega) ?_); intro VA2 vn2 vc2 w2 hb; have HB2 := Lh hb; clear hb; clear zHR_0 zHR_13 zHR_16 zHRY_0 zHRY_1; obtain ⟨zHR_0, zHR_13, zHR_16⟩ := (HR.out.at hp HB2.out.below).cs3 0 13 16; obtain ⟨zHRY_0, zHRY_1⟩ := (HRY.out.at hpy HB2.out.below).cs2 0 1; go_wp2_with (at_builtin; refine HB2.out.str rfl _ _ rfl (by rfl) (⟨#[32, 124, 32]⟩ : ByteArray) (by rfl) l3 HLl3.out (by have := HQ.out; omega) ?_); intro VA3 vn3 vc3 w3 hb; have HB3 := Lh hb; clear hb; clear zHR_0 zHR_13 zHR_16 zHRY_0 zHRY_1; obtain ⟨zHR_0, zHR_13, zHR_16⟩ := (HR.out.at hp HB3.out.below).cs3 0 13 16; obtain ⟨zHRY_0, zHRY_1⟩ := (HRY.out.at hpy HB3.out.below).cs2 0 1; go_wp2_with fail; refine ((IHq' m hnm) w0 _ B r21 _ l3 l4 xb2 q1 HA21.out HB3.out HE.out HLl4.out (by have := HQ.out; omega)).mono ?_; rintro e w4 ⟨v9, rfl, hb⟩; obtain ⟨VA4, vn4, vc4, rfl, -⟩ := hb.form; have HB4 := Lh hb; clear hb; clear zHR_0 zHR_13 zHR_16 zHRY_0 zHRY_1; obtain ⟨zHR_0, zHR_13, zHR_16⟩ := (HR.out.at hp HB4.out.below).cs3 0 13 16; obtain ⟨zHRY_0, zHRY_1⟩ := (HRY.out.at hpy HB4.out.below).cs2 0 1; go_wp2_with fail; go_loopw [0, 391] (fun v t wr => ∃ (j : Nat) (c : L8), j ≤ N16 ∧ t = .int .i64 j ∧ BN B w0 c v wr ∧ l5 = itr (fun _ t l => pr n t l) (xsl.drop j) j c) (fun _ t _ => N16 - (intOf t).toNat)
     case atStart =>
      exact ⟨0, l4, Nat.zero_le _, rfl, HB4.out, HLl5.out⟩
     case round =>
      obtain ⟨j, c, hj, rfl, hb, hx⟩ := hrel; obtain ⟨Ac, nc, cc, rfl, -⟩ := hb.form; have HB100 := Lh hb; have HXC := Lh hx; clear hb hx
      by_cases hlt : j < N16
      ·
       obtain ⟨ab, ao, q, t, hA, hcl, hst, hat, hW⟩ := LS16.out.kid HB100.out.below hlt (fun _ t l => pr n t l) c; subst hA; have hc := hcl _ HB100.out.below; have HST := Lh hst; have HAT := Lh hat; clear hcl hst hat; obtain ⟨c1, hc1⟩ : ∃ x, x = pr n t c := ⟨_, rfl⟩
       have qc1 : c.length ≤ c1.length := by rw [hc1]; exact prLe _ _ _
       have hf9 : (fun _ t l => pr n t l) j t c = c1 := by rw [hc1]
       have hx8 : l5 = itr (fun _ t l => pr n t l) (xsl.drop (j + 1)) (j + 1) c1 := by rw [← hf9]; exact HXC.out.trans HST.out
       have q9 : c1.length ≤ l5.length := by rw [hx8]; exact itrLe (fun _ _ _ => prLe _ _ _) _ _ _
       have HXD := Lh hx8; have HQC := Lh ((And.intro qc1 q9)); have HLc1 := Lh hc1; clear hf9 hx8 q9 qc1 hc1; go_wp2_with fail; refine (IHsf w0 _ B q _ c c1 t hW HAT.out HB100.out HE.out HLc1.out (by have := HQ.out; have := HQC.out; omega)).mono ?_; rintro e w101 ⟨v9, rfl, hb⟩; obtain ⟨VA101, vn101, vc101, rfl, -⟩ := hb.form; have HB101 := Lh hb; clear hb; go_wp2_with fail; exact ⟨⟨j + 1, c1, by omega, by go_num, HB101.out, HXD.out⟩, by simp [intOf]; omega⟩
      ·
       obtain rfl : N16 = j := by omega
       have hx9 : l5 = c := HXC.out.trans (LS16.out.fin _ c); have HB5 := Lh (show BN B w0 l5 (.slice Ac nc cc) _ from by rw [hx9]; exact HB100.out); clear hx9; obtain ⟨zHR_0, zHR_13, zHR_16⟩ := (HR.out.at hp HB5.out.below).cs3 0 13 16; obtain ⟨zHRY_0, zHRY_1⟩ := (HRY.out.at hpy HB5.out.below).cs2 0 1; go_wp2_with fail; go_ret; exact ⟨_, rfl, HB5.out⟩
  ·
   clear k6 k7 k8 k9 k11 k13 k14 k15 k16 k17 k18 k20 kS e1 e2 f1 f2 f3 f4 f6 f8 f9 f10 f11 f12 f13 f15; have HR := Lh hr; clear hr; obtain ⟨l1, hl1⟩ : ∃ x, x = l ++ [98, 114, 101, 97, 107, 32] := ⟨_, rfl⟩
   have ql1 : l.length + 6 ≤ l1.length := by rw [hl1, List.length_append]; exact Nat.le_refl _
   obtain ⟨l2, hl2⟩ : ∃ x, x = l1 ++ xbrk.data.toList := ⟨_, rfl⟩
   have ql2 : l1.length ≤ l2.length := by rw [hl2, List.length_append]; omega
   obtain ⟨l3, hl3⟩ : ∃ x, x = itr (fun _ t l => pr n t l) xsl 0 l2 := ⟨_, rfl⟩
   have ql3 : l2.length ≤ l3.length := by rw [hl3]; exact itrLe (fun _ _ _ => prLe _ _ _) _ _ _
   have hX : l' = l3 := by rw [hl]; rw [hl3, hl2, hl1]; rfl
   rw [hX] at hlen; have HQ := Lh (And.intro hlen (And.intro ql1 (And.intro ql2 ql3))); have HLl1 := Lh hl1; have HLl2 := Lh hl2; have HLl3 := Lh hl3; rw [hX]; clear hX hlen hl ql1 ql2 ql3 hl1 hl2 hl3; obtain ⟨zHR_0, zHR_5, zHR_14, zHR_16⟩ := (HR.out.at hp HB.out.below).cs4 0 5 14 16; go_enter Tryz.func8, Tryz.ntmps8; go_wp2_with (at_builtin; refine HB.out.str rfl _ _ rfl (by rfl) (⟨#[98, 114, 101, 97, 107, 32]⟩ : ByteArray) (by rfl) l1 HLl1.out (by have := HQ.out; omega) ?_); intro VA1 vn1 vc1 w1 hb; have HB1 := Lh hb; clear hb; clear zHR_0 zHR_5 zHR_14 zHR_16; obtain ⟨zHR_0, zHR_5, zHR_14, zHR_16⟩ := (HR.out.at hp HB1.out.below).cs4 0 5 14 16; go_wp2_with (at_builtin; refine HB1.out.str rfl _ _ rfl (by rfl) xbrk (by rfl) l2 HLl2.out (by have := HQ.out; omega) ?_); intro VA2 vn2 vc2 w2 hb; have HB2 := Lh hb; clear hb; clear zHR_0 zHR_5 zHR_14 zHR_16; obtain ⟨zHR_0, zHR_5, zHR_14, zHR_16⟩ := (HR.out.at hp HB2.out.below).cs4 0 5 14 16; go_wp2_with fail; go_loopw [0, 391] (fun v t wr => ∃ (j : Nat) (c : L8), j ≤ N16 ∧ t = .int .i64 j ∧ BN B w0 c v wr ∧ l3 = itr (fun _ t l => pr n t l) (xsl.drop j) j c) (fun _ t _ => N16 - (intOf t).toNat)
   case atStart =>
    exact ⟨0, l2, Nat.zero_le _, rfl, HB2.out, HLl3.out⟩
   case round =>
    obtain ⟨j, c, hj, rfl, hb, hx⟩ := hrel; obtain ⟨Ac, nc, cc, rfl, -⟩ := hb.form; have HB100 := Lh hb; have HXC := Lh hx; clear hb hx
    by_cases hlt : j < N16
    ·
     obtain ⟨ab, ao, q, t, hA, hcl, hst, hat, hW⟩ := LS16.out.kid HB100.out.below hlt (fun _ t l => pr n t l) c; subst hA; have hc := hcl _ HB100.out.below; have HST := Lh hst; have HAT := Lh hat; clear hcl hst hat; obtain ⟨c1, hc1⟩ : ∃ x, x = pr n t c := ⟨_, rfl⟩
     have qc1 : c.length ≤ c1.length := by rw [hc1]; exact prLe _ _ _
     have hf9 : (fun _ t l => pr n t l) j t c = c1 := by rw [hc1]
     have hx8 : l3 = itr (fun _ t l => pr n t l) (xsl.drop (j + 1)) (j + 1) c1 := by rw [← hf9]; exact HXC.out.trans HST.out
     have q9 : c1.length ≤ l3.length := by rw [hx8]; exact itrLe (fun _ _ _ => prLe _ _ _) _ _ _
     have HXD := Lh hx8; have HQC := Lh ((And.intro qc1 q9)); have HLc1 := Lh hc1; clear hf9 hx8 q9 qc1 hc1; go_wp2_with fail; refine (IHsf w0 _ B q _ c c1 t hW HAT.out HB100.out HE.out HLc1.out (by have := HQ.out; have := HQC.out; omega)).mono ?_; rintro e w101 ⟨v9, rfl, hb⟩; obtain ⟨VA101, vn101, vc101, rfl, -⟩ := hb.form; have HB101 := Lh hb; clear hb; go_wp2_with fail; exact ⟨⟨j + 1, c1, by omega, by go_num, HB101.out, HXD.out⟩, by simp [intOf]; omega⟩
    ·
     obtain rfl : N16 = j := by omega
     have hx9 : l3 = c := HXC.out.trans (LS16.out.fin _ c); have HB3 := Lh (show BN B w0 l3 (.slice Ac nc cc) _ from by rw [hx9]; exact HB100.out); clear hx9; obtain ⟨zHR_0, zHR_5, zHR_14, zHR_16⟩ := (HR.out.at hp HB3.out.below).cs4 0 5 14 16; go_wp2_with fail; go_ret; exact ⟨_, rfl, HB3.out⟩
  ·
   rcases FV.pt f15 with ⟨rfl, rfl⟩ | ⟨y, r, rfl, rfl, ay⟩
   ·
    exact absurd (k20 rfl) (by simp)
   ·
    have HA := Lh ay; clear k6 k7 k8 k9 k11 k13 k14 k15 k16 k17 k18 k20 kS e1 e2 ay f1 f2 f3 f4 f6 f8 f9 f10 f11 f12 f13 f15; have HR := Lh hr; clear hr; obtain ⟨l1, hl1⟩ : ∃ x, x = l ++ [40] := ⟨_, rfl⟩
    have ql1 : l.length + 1 ≤ l1.length := by rw [hl1, List.length_append]; exact Nat.le_refl _
    obtain ⟨l2, hl2⟩ : ∃ x, x = pr n y l1 := ⟨_, rfl⟩
    have ql2 : l1.length ≤ l2.length := by rw [hl2]; exact prLe _ _ _
    obtain ⟨l3, hl3⟩ : ∃ x, x = l2 ++ [41] := ⟨_, rfl⟩
    have ql3 : l2.length + 1 ≤ l3.length := by rw [hl3, List.length_append]; exact Nat.le_refl _
    obtain ⟨l4, hl4⟩ : ∃ x, x = itr (fun _ t l => pr n t l) xsl 0 l3 := ⟨_, rfl⟩
    have ql4 : l3.length ≤ l4.length := by rw [hl4]; exact itrLe (fun _ _ _ => prLe _ _ _) _ _ _
    have hX : l' = l4 := by rw [hl]; rw [hl4, hl3, hl2, hl1]; rfl
    rw [hX] at hlen; have HQ := Lh (And.intro hlen (And.intro ql1 (And.intro ql2 (And.intro ql3 ql4)))); have HLl1 := Lh hl1; have HLl2 := Lh hl2; have HLl3 := Lh hl3; have HLl4 := Lh hl4; rw [hX]; clear hX hlen hl ql1 ql2 ql3 ql4 hl1 hl2 hl3 hl4; obtain ⟨zHR_0, zHR_15, zHR_16⟩ := (HR.out.at hp HB.out.below).cs3 0 15 16; go_enter Tryz.func8, Tryz.ntmps8; go_wp2_with (at_builtin; refine HB.out.byt rfl _ _ rfl (by rfl) 40 _ rfl _ rfl rfl (by rfl) l1 HLl1.out (by have := HQ.out; omega) ?_); intro VA1 vn1 vc1 w1 hb; have HB1 := Lh hb; clear hb; clear zHR_0 zHR_15 zHR_16; obtain ⟨zHR_0, zHR_15, zHR_16⟩ := (HR.out.at hp HB1.out.below).cs3 0 15 16; go_wp2_with fail; refine (IHq w0 _ B r _ l1 l2 y (hq _ rfl) HA.out HB1.out HE.out HLl2.out (by have := HQ.out; omega)).mono ?_; rintro e w2 ⟨v9, rfl, hb⟩; obtain ⟨VA2, vn2, vc2, rfl, -⟩ := hb.form; have HB2 := Lh hb; clear hb; clear zHR_0 zHR_15 zHR_16; obtain ⟨zHR_0, zHR_15, zHR_16⟩ := (HR.out.at hp HB2.out.below).cs3 0 15 16; go_wp2_with (at_builtin; refine HB2.out.byt rfl _ _ rfl (by rfl) 41 _ rfl _ rfl rfl (by rfl) l3 HLl3.out (by have := HQ.out; omega) ?_); intro VA3 vn3 vc3 w3 hb; have HB3 := Lh hb; clear hb; clear zHR_0 zHR_15 zHR_16; obtain ⟨zHR_0, zHR_15, zHR_16⟩ := (HR.out.at hp HB3.out.below).cs3 0 15 16; go_wp2_with fail; go_loopw [0, 391] (fun v t wr => ∃ (j : Nat) (c : L8), j ≤ N16 ∧ t = .int .i64 j ∧ BN B w0 c v wr ∧ l4 = itr (fun _ t l => pr n t l) (xsl.drop j) j c) (fun _ t _ => N16 - (intOf t).toNat)
    case atStart =>
     exact ⟨0, l3, Nat.zero_le _, rfl, HB3.out, HLl4.out⟩
    case round =>
     obtain ⟨j, c, hj, rfl, hb, hx⟩ := hrel; obtain ⟨Ac, nc, cc, rfl, -⟩ := hb.form; have HB100 := Lh hb; have HXC := Lh hx; clear hb hx
     by_cases hlt : j < N16
     ·
      obtain ⟨ab, ao, q, t, hA, hcl, hst, hat, hW⟩ := LS16.out.kid HB100.out.below hlt (fun _ t l => pr n t l) c; subst hA; have hc := hcl _ HB100.out.below; have HST := Lh hst; have HAT := Lh hat; clear hcl hst hat; obtain ⟨c1, hc1⟩ : ∃ x, x = pr n t c := ⟨_, rfl⟩
      have qc1 : c.length ≤ c1.length := by rw [hc1]; exact prLe _ _ _
      have hf9 : (fun _ t l => pr n t l) j t c = c1 := by rw [hc1]
      have hx8 : l4 = itr (fun _ t l => pr n t l) (xsl.drop (j + 1)) (j + 1) c1 := by rw [← hf9]; exact HXC.out.trans HST.out
      have q9 : c1.length ≤ l4.length := by rw [hx8]; exact itrLe (fun _ _ _ => prLe _ _ _) _ _ _
      have HXD := Lh hx8; have HQC := Lh ((And.intro qc1 q9)); have HLc1 := Lh hc1; clear hf9 hx8 q9 qc1 hc1; go_wp2_with fail; refine (IHsf w0 _ B q _ c c1 t hW HAT.out HB100.out HE.out HLc1.out (by have := HQ.out; have := HQC.out; omega)).mono ?_; rintro e w101 ⟨v9, rfl, hb⟩; obtain ⟨VA101, vn101, vc101, rfl, -⟩ := hb.form; have HB101 := Lh hb; clear hb; go_wp2_with fail; exact ⟨⟨j + 1, c1, by omega, by go_num, HB101.out, HXD.out⟩, by simp [intOf]; omega⟩
     ·
      obtain rfl : N16 = j := by omega
      have hx9 : l4 = c := HXC.out.trans (LS16.out.fin _ c); have HB4 := Lh (show BN B w0 l4 (.slice Ac nc cc) _ from by rw [hx9]; exact HB100.out); clear hx9; obtain ⟨zHR_0, zHR_15, zHR_16⟩ := (HR.out.at hp HB4.out.below).cs3 0 15 16; go_wp2_with fail; go_ret; exact ⟨_, rfl, HB4.out⟩
set_option maxRecDepth 100000 in
set_option maxHeartbeats 8000000 in
theorem rST (n : Nat) (IHQ : RC 6 .q n) : RC 26 .st (n + 1) := by
 intro w0 w B p v l l' t hw ha hb he hl hlen; obtain ⟨A0, n0, c0, rfl, -⟩ := hb.form; have HB := Lh hb; have HE := Lh he; clear hb he
 cases hw with
 | st xs xnn xqs h1 h2 g3 h3 =>
  obtain ⟨hp, v1, hr, f1⟩ := inv_st ha; clear ha; obtain ⟨X1, M1, N1, rfl, hnn1, ls1⟩ := FV.ls .iq h3 f1; have LS1 := Lh ls1; have len1 := ls1.len
  have bnd1 : N1 ≤ 3 := by have := g3; omega
  clear ls1 f1
  have hnil := fun W => Lib.run_eql_slice_nil (P := Tryz.prog) W 76 26 X1 N1 M1 0 0 Tryz.underlying76
  cases xnn
  case false =>
   obtain rfl := h2 rfl; have hz : N1 = 0 := len1.symm; subst hz
   obtain rfl : X1 = none := by cases X1; rfl; cases hnn1
   have HR := Lh hr; clear hr hnn1; obtain ⟨l1, hl1⟩ : ∃ x, x = l ++ quoted xs := ⟨_, rfl⟩
   have ql1 : l.length ≤ l1.length := by rw [hl1, List.length_append]; omega
   have hX : l' = l1 := by rw [hl]; rw [hl1]; rfl
   rw [hX] at hlen; have HQ := Lh (And.intro hlen ql1); have HLl1 := Lh hl1; rw [hX]; clear hX hlen hl ql1 hl1; obtain ⟨zHR_0, zHR_1⟩ := (HR.out.at hp HB.out.below).cs2 0 1; go_enter Tryz.func26, Tryz.ntmps26; go_wp2_with fail; refine (refC w0 _ B _ l xs HB.out HE.out.four HE.out.size HE.out.tabs (by have := h1; omega) (by have := HQ.out; (try have := HQC.out); omega)).mono ?_; rintro e w1 ⟨v9, rfl, hb⟩; rw [← HLl1.out] at hb; obtain ⟨VA1, vn1, vc1, rfl, -⟩ := hb.form; have HB1 := Lh hb; clear hb; clear zHR_0 zHR_1; obtain ⟨zHR_0, zHR_1⟩ := (HR.out.at hp HB1.out.below).cs2 0 1; go_wp2_with fail; go_ret; exact ⟨_, rfl, HB1.out⟩
  case true =>
   have hxn : X1.isNone = false := by cases X1; cases hnn1; rfl
   simp only [hxn] at hnil; have HR := Lh hr; clear hr hnn1 h2; obtain ⟨l1, hl1⟩ : ∃ x, x = l ++ [34] := ⟨_, rfl⟩
   have ql1 : l.length + 1 ≤ l1.length := by rw [hl1, List.length_append]; exact Nat.le_refl _
   obtain ⟨l2, hl2⟩ : ∃ x, x = itr (fun _ t l => if strQ t = true then l ++ inn (pr n t []) else pr n t (l ++ [92])) xqs 0 l1 := ⟨_, rfl⟩
   have ql2 : l1.length ≤ l2.length := by rw [hl2]; exact itrLe (fun j t l => by have h1 := prLe n t (l ++ [92]); rw [List.length_append] at h1; split <;> (try rw [List.length_append]) <;> omega) _ _ _
   obtain ⟨l3, hl3⟩ : ∃ x, x = l2 ++ [34] := ⟨_, rfl⟩
   have ql3 : l2.length + 1 ≤ l3.length := by rw [hl3, List.length_append]; exact Nat.le_refl _
   have hX : l' = l3 := by rw [hl]; rw [hl3, hl2, hl1]; rfl
   rw [hX] at hlen; have HQ := Lh (And.intro hlen (And.intro ql1 (And.intro ql2 ql3))); have HLl1 := Lh hl1; have HLl2 := Lh hl2; have HLl3 := Lh hl3; rw [hX]; clear hX hlen hl ql1 ql2 ql3 hl1 hl2 hl3; obtain ⟨zHR_0, zHR_1⟩ := (HR.out.at hp HB.out.below).cs2 0 1; go_enter Tryz.func26, Tryz.ntmps26; go_wp2_with (at_builtin; refine HB.out.byt rfl _ _ rfl (by rfl) 34 _ rfl _ rfl rfl (by rfl) l1 HLl1.out (by have := HQ.out; omega) ?_); intro VA1 vn1 vc1 w1 hb; have HB1 := Lh hb; clear hb; clear zHR_0 zHR_1; obtain ⟨zHR_0, zHR_1⟩ := (HR.out.at hp HB1.out.below).cs2 0 1; go_wp2_with fail; go_loopw [0, 27] (fun v t wr => ∃ (j : Nat) (c : L8), j ≤ N1 ∧ t = .int .i64 j ∧ BN B w0 c v wr ∧ l2 = itr (fun _ t l => if strQ t = true then l ++ inn (pr n t []) else pr n t (l ++ [92])) (xqs.drop j) j c ∧ l1.length ≤ c.length) (fun _ t _ => N1 - (intOf t).toNat)
   case atStart =>
    exact ⟨0, l1, Nat.zero_le _, rfl, HB1.out, HLl2.out, Nat.le_refl _⟩
   case round =>
    obtain ⟨j, c, hj, rfl, hb, hx, hinv⟩ := hrel; obtain ⟨Ac, nc, cc, rfl, -⟩ := hb.form; have HB100 := Lh hb; have HXC := Lh hx; clear hb hx
    by_cases hlt : j < N1
    ·
     obtain ⟨ab, ao, q, t, hA, hcl, hst, hat, hW⟩ := LS1.out.kid HB100.out.below hlt (fun _ t l => if strQ t = true then l ++ inn (pr n t []) else pr n t (l ++ [92])) c; subst hA; have hc := hcl _ HB100.out.below; have HST := Lh hst; have HAT := Lh hat; clear hcl hst hat; obtain ⟨rq, u0, u1, u2, u4, u5, u6, ty, d1, d2, d3, d4, d5, d6, d7, d8, d9, d10, d11, d12, d13, d14, d15, d16, hrq, hrt, hq, hrq2, hss⟩ := iq_rows hW HAT.out; have y1 := (hrq.at hq HB100.out.below).cell 3; have y2 := (hrt.at hrq2 HB100.out.below).cell 8; clear hrq hrt; rcases hss with ⟨hs, sb, rfl⟩ | ⟨hs, rfl⟩
     ·
      have HS := Lh hs; clear hs; obtain ⟨c1, hc1⟩ : ∃ x, x = c ++ inn (pr n t []) := ⟨_, rfl⟩
      have qc1 : c.length ≤ c1.length := by rw [hc1, List.length_append]; omega
      have hf9 : (fun _ t l => if strQ t = true then l ++ inn (pr n t []) else pr n t (l ++ [92])) j t c = c1 := by rw [hc1]; show (if strQ t = true then _ else _) = _; rw [if_pos HS.out]
      have hx8 : l2 = itr (fun _ t l => if strQ t = true then l ++ inn (pr n t []) else pr n t (l ++ [92])) (xqs.drop (j + 1)) (j + 1) c1 := by rw [← hf9]; exact HXC.out.trans HST.out
      have q9 : c1.length ≤ l2.length := by rw [hx8]; exact itrLe (fun j t l => by have h1 := prLe n t (l ++ [92]); rw [List.length_append] at h1; split <;> (try rw [List.length_append]) <;> omega) _ _ _
      have HXD := Lh hx8; have HQC := Lh ((And.intro qc1 (And.intro q9 hinv))); have HLc1 := Lh hc1; clear hf9 hx8 q9 qc1 hc1; go_wp2_with fail; have hx2 := iq_two hW HAT.out HS.out; obtain ⟨X, hX⟩ : ∃ X, X = pr n t [] := ⟨_, rfl⟩
      have hXi : c1 = c ++ inn X := by rw [hX]; exact HLc1.out
      have hXl : (inn X).length = X.length - 2 := by unfold inn; rw [List.length_take, List.length_drop]; omega
      have hXb : X.length ≤ 1099511627776 := by have h7 := HQ.out; have h8 := HQC.out; have h9 := congrArg List.length hXi; rw [List.length_append, hXl] at h9; rw [← hX] at hx2; omega
      have hc0 : 0 < c.length := by have h7 := HQ.out; have h8 := HQC.out; omega
      have HA9 := Lh (At.turn (ok' := fun k => k < _) (touch_above HB100.out.below) (fun k hk hl x => by have hk' : k < B := hk; have x' : B ≤ k := x; omega) (fun k hk hl => Nat.lt_of_lt_of_le hk HB100.out.size) n HAT.out); refine (IHQ _ _ _ q _ [] X t hW.ofIq HA9.out BN.nil (HE.out.at HB100.out.below) hX hXb).mono ?_; rintro e w9 ⟨v9, rfl, hb9⟩; obtain ⟨A9, n9, c9, rfl, -⟩ := hb9.form; rw [← hX] at hx2; obtain ⟨ab9, ao9, m9, rfl, rfl, hm9, hmc9, hin9, hcl9⟩ := hb9.inner hx2; have HK := Lh (HB100.out.keep hb9.below); have HXI := Lh hXi; have HCL := Lh hcl9; have HIN := Lh hin9
      have hmb : m9 + 2 ≤ 1099511627776 := by omega
      clear hb9 hX hx2 hXb hXl hXi hcl9 hin9 hm9; go_wp2_with (at_builtin; refine HK.out.sub rfl _ _ rfl (by rfl) hc0 ⟨ab9, ao9 + 1, none⟩ m9 (c9 - 1) (inn X) HIN.out (by simp [Act.eval]) HCL.out c1 HXI.out (by have := HQ.out; have := HQC.out; omega) ?_); intro VA101 vn101 vc101 w101 hb; have HB101 := Lh hb; clear hb; go_wp2_with fail; exact ⟨⟨j + 1, c1, by omega, by go_num, HB101.out, HXD.out, by have := HQC.out; omega⟩, by simp [intOf]; omega⟩
     ·
      have HS := Lh hs; clear hs; obtain ⟨c1, hc1⟩ : ∃ x, x = c ++ [92] := ⟨_, rfl⟩
      have qc1 : c.length + 1 ≤ c1.length := by rw [hc1, List.length_append]; exact Nat.le_refl _
      obtain ⟨c2, hc2⟩ : ∃ x, x = pr n t c1 := ⟨_, rfl⟩
      have qc2 : c1.length ≤ c2.length := by rw [hc2]; exact prLe _ _ _
      have hf9 : (fun _ t l => if strQ t = true then l ++ inn (pr n t []) else pr n t (l ++ [92])) j t c = c2 := by rw [hc2, hc1]; show (if strQ t = true then _ else _) = _; rw [if_neg (by rw [HS.out]; decide)]
      have hx8 : l2 = itr (fun _ t l => if strQ t = true then l ++ inn (pr n t []) else pr n t (l ++ [92])) (xqs.drop (j + 1)) (j + 1) c2 := by rw [← hf9]; exact HXC.out.trans HST.out
      have q9 : c2.length ≤ l2.length := by rw [hx8]; exact itrLe (fun j t l => by have h1 := prLe n t (l ++ [92]); rw [List.length_append] at h1; split <;> (try rw [List.length_append]) <;> omega) _ _ _
      have HXD := Lh hx8; have HQC := Lh ((And.intro qc1 (And.intro qc2 (And.intro q9 hinv)))); have HLc1 := Lh hc1; have HLc2 := Lh hc2; clear hf9 hx8 q9 qc1 qc2 hc1 hc2; go_wp2_with (at_builtin; refine HB100.out.byt rfl _ _ rfl (by rfl) 92 _ rfl _ rfl rfl (by rfl) c1 HLc1.out (by have := HQ.out; have := HQC.out; omega) ?_); intro VA101 vn101 vc101 w101 hb; have HB101 := Lh hb; clear hb; go_wp2_with fail; refine (IHQ w0 _ B q _ c1 c2 t hW.ofIq HAT.out HB101.out HE.out HLc2.out (by have := HQ.out; have := HQC.out; omega)).mono ?_; rintro e w102 ⟨v9, rfl, hb⟩; obtain ⟨VA102, vn102, vc102, rfl, -⟩ := hb.form; have HB102 := Lh hb; clear hb; go_wp2_with fail; exact ⟨⟨j + 1, c2, by omega, by go_num, HB102.out, HXD.out, by have := HQC.out; omega⟩, by simp [intOf]; omega⟩
    ·
     obtain rfl : N1 = j := by omega
     have hx9 : l2 = c := HXC.out.trans (LS1.out.fin _ c); have HB2 := Lh (show BN B w0 l2 (.slice Ac nc cc) _ from by rw [hx9]; exact HB100.out); clear hx9; obtain ⟨zHR_0, zHR_1⟩ := (HR.out.at hp HB2.out.below).cs2 0 1; go_wp2_with (at_builtin; refine HB2.out.byt rfl _ _ rfl (by rfl) 34 _ rfl _ rfl rfl (by rfl) l3 HLl3.out (by have := HQ.out; omega) ?_); intro VA3 vn3 vc3 w3 hb; have HB3 := Lh hb; clear hb; clear zHR_0 zHR_1; obtain ⟨zHR_0, zHR_1⟩ := (HR.out.at hp HB3.out.below).cs2 0 1; go_wp2_with fail; go_ret; exact ⟨_, rfl, HB3.out⟩
structure AllR (n : Nat) : Prop where
 q : RC 6 .q n
 t : RC 8 .t n
 co : RC 18 .co n
 im : RC 19 .im n
 fd : RC 20 .fd n
 pt : RC 21 .pt n
 ix : RC 24 .ix n
 ob : RC 25 .ob n
 st : RC 26 .st n
 ife : RC 27 .ife n
 sf : RC 28 .sf n
 ct : RC 48 .ct n
 sx : ∀ m, n = m + 1 → RSC 63 m
theorem allR : ∀ n, AllR n
 | 0 => by
  constructor
  all_goals first | (intro w0 w B p v l l' t hw ha; exact ha.elim) | (intro m hm; omega)
 | n + 1 => by
  have I := allR n; have hs := rSX n I.st I.q
  have Jq : ∀ m, n = m + 1 → RC 6 .q m := fun m hm => (allR m).q
  have Jt : ∀ m, n = m + 1 → RC 8 .t m := fun m hm => (allR m).t
  have Jpt : ∀ m, n = m + 1 → RC 21 .pt m := fun m hm => (allR m).pt
  have Jst : ∀ m, n = m + 1 → RC 26 .st m := fun m hm => (allR m).st
  have Jct : ∀ m, n = m + 1 → RC 48 .ct m := fun m hm => (allR m).ct
  exact ⟨rQ n I.co I.im I.fd I.t I.q I.pt, rT n I.ix I.ob I.st I.ife I.q I.sf Jq Jt Jpt, rCO n Jct, rIM n I.co, rFD n I.q, rPT n I.pt Jpt Jq Jst, rIX n hs, rOB n Jq Jst, rST n I.q, rIFE n I.q Jq, rSF n I.ix I.sx, rCT n I.co Jct, fun m hm => by cases Nat.succ.inj hm; exact hs⟩
termination_by n => n
decreasing_by all_goals omega
end Go.Proofs.YtghcggagpagfoaaGreatDoor
