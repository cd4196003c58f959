/-
  The law's own printer: queries, indices, suffixes, function definitions (n001_1001). Printed by genRf.py.
-/
import Derived.Test.YtghcggagpagfoaaGreatDoorRfA
namespace Go.Proofs.YtghcggagpagfoaaGreatDoor
set_option linter.unusedVariables false
set_option linter.unusedSimpArgs false
open Go.ChangeShapes Go.WideShapes Go.ChangeAt Go.RowKit M
theorem BN.n {B : Nat} {w0 w : World} {l : L8} {A : Option Addr} {n c : Nat} (h : BN B w0 l (.slice A n c) w) : n = l.length := by
 obtain ⟨A', n', c', d, hv, h1, _⟩ := h; injection hv with e1 e2 e3; rw [e2]; exact h1.out
set_option maxRecDepth 100000 in
set_option maxHeartbeats 8000000 in
theorem rQ (n : Nat) (IHO : RC 18 .co n) (IHM : RC 19 .im n) (IHD : RC 20 .fd n) (IHT : RC 8 .t n) (IHQ : RC 6 .q n) (IHP : RC 21 .pt n) : RC 6 .q (n + 1) := by
 intro w0 w B p v l l' t hw ha hb he hl hlen; obtain ⟨A0, n0, c0, rfl, -⟩ := hb.form; have HB := Lh hb; have HE := Lh he; clear hb he
 cases hw with
 | q1 xme xims xfds xte xa xb xc h1 g2 h2 g3 h3 h4 =>
  obtain ⟨hp, v0, v1, v2, v3, v4, v5, v6, hr, f0, f1, f2, f3, f4, f5, f6⟩ := inv_q ha; have e5 : v5 = .pointer none := f5; subst e5; clear ha f4 f5 f6; obtain ⟨X1, M1, N1, rfl, hnn1, ls1⟩ := FV.ls .im h2 f1; have LS1 := Lh ls1; have len1 := ls1.len
  have bnd1 : N1 ≤ 3 := by have := g2; omega
  clear ls1 f1; obtain ⟨X2, M2, N2, rfl, hnn2, ls2⟩ := FV.ls .fd h3 f2; have LS2 := Lh ls2; have len2 := ls2.len
  have bnd2 : N2 ≤ 3 := by have := g3; omega
  clear ls2 f2; clear hnn1 hnn2; rcases FV.pt f0 with ⟨rfl, rfl⟩ | ⟨y0, r0, rfl, rfl, a0⟩
  ·
   clear f0; rcases FV.pt f3 with ⟨rfl, rfl⟩ | ⟨y3, r3, rfl, rfl, a3⟩
   ·
    have HR := Lh hr; clear hr f3; obtain ⟨l1, hl1⟩ : ∃ x, x = itr (fun _ t l => pr n t l) xims 0 l := ⟨_, rfl⟩
    have ql1 : l.length ≤ l1.length := by rw [hl1]; exact itrLe (fun _ _ _ => prLe _ _ _) _ _ _
    obtain ⟨l2, hl2⟩ : ∃ x, x = itr (fun _ t l => pr n t l ++ [32]) xfds 0 l1 := ⟨_, rfl⟩
    have ql2 : l1.length ≤ l2.length := by rw [hl2]; exact itrLe (fun _ t l => by have := prLe n t l; rw [List.length_append]; omega) _ _ _
    have hX : l' = l2 := by rw [hl]; rw [hl2, hl1]; rfl
    rw [hX] at hlen; have HQ := Lh (And.intro hlen (And.intro ql1 ql2)); have HLl1 := Lh hl1; have HLl2 := Lh hl2; rw [hX]; clear hX hlen hl ql1 ql2 hl1 hl2; obtain ⟨zHR_0, zHR_1, zHR_2, zHR_3, zHR_5⟩ := (HR.out.at hp HB.out.below).cs5 0 1 2 3 5; go_enter Tryz.func6, Tryz.ntmps6; go_wp2_with fail; go_loopw [0, 31] (fun v t wr => ∃ (j : Nat) (c : L8), j ≤ N1 ∧ t = .int .i64 j ∧ BN B w0 c v wr ∧ l1 = itr (fun _ t l => pr n t l) (xims.drop j) j c) (fun _ t _ => N1 - (intOf t).toNat)
    case atStart =>
     exact ⟨0, l, Nat.zero_le _, rfl, HB.out, HLl1.out⟩
    case round =>
     obtain ⟨j, c, hj, rfl, hb, hx⟩ := hrel; obtain ⟨Ac, nc, cc, rfl, -⟩ := hb.form; have HB100 := Lh hb; have HXC := Lh hx; clear hb hx
     by_cases hlt : j < N1
     ·
      obtain ⟨ab, ao, q, t, hA, hcl, hst, hat, hW⟩ := LS1.out.kid HB100.out.below hlt (fun _ t l => pr n t l) c; subst hA; have hc := hcl _ HB100.out.below; have HST := Lh hst; have HAT := Lh hat; clear hcl hst hat; obtain ⟨c1, hc1⟩ : ∃ x, x = pr n t c := ⟨_, rfl⟩
      have qc1 : c.length ≤ c1.length := by rw [hc1]; exact prLe _ _ _
      have hf9 : (fun _ t l => pr n t l) j t c = c1 := by rw [hc1]
      have hx8 : l1 = itr (fun _ t l => pr n t l) (xims.drop (j + 1)) (j + 1) c1 := by rw [← hf9]; exact HXC.out.trans HST.out
      have q9 : c1.length ≤ l1.length := by rw [hx8]; exact itrLe (fun _ _ _ => prLe _ _ _) _ _ _
      have HXD := Lh hx8; have HQC := Lh ((And.intro qc1 q9)); have HLc1 := Lh hc1; clear hf9 hx8 q9 qc1 hc1; go_wp2_with fail; refine (IHM w0 _ B q _ c c1 t hW HAT.out HB100.out HE.out HLc1.out (by have := HQ.out; have := HQC.out; omega)).mono ?_; rintro e w101 ⟨v9, rfl, hb⟩; obtain ⟨VA101, vn101, vc101, rfl, -⟩ := hb.form; have HB101 := Lh hb; clear hb; go_wp2_with fail; exact ⟨⟨j + 1, c1, by omega, by go_num, HB101.out, HXD.out⟩, by simp [intOf]; omega⟩
     ·
      obtain rfl : N1 = j := by omega
      have hx9 : l1 = c := HXC.out.trans (LS1.out.fin _ c); have HB1 := Lh (show BN B w0 l1 (.slice Ac nc cc) _ from by rw [hx9]; exact HB100.out); clear hx9; obtain ⟨zHR_0, zHR_1, zHR_2, zHR_3, zHR_5⟩ := (HR.out.at hp HB1.out.below).cs5 0 1 2 3 5; go_wp2_with fail; go_loopw [0, 44] (fun v t wr => ∃ (j : Nat) (c : L8), j ≤ N2 ∧ t = .int .i64 j ∧ BN B w0 c v wr ∧ l2 = itr (fun _ t l => pr n t l ++ [32]) (xfds.drop j) j c) (fun _ t _ => N2 - (intOf t).toNat)
      case atStart =>
       exact ⟨0, l1, Nat.zero_le _, rfl, HB1.out, HLl2.out⟩
      case round =>
       obtain ⟨j, c, hj, rfl, hb, hx⟩ := hrel; obtain ⟨Ac, nc, cc, rfl, -⟩ := hb.form; have HB100 := Lh hb; have HXC := Lh hx; clear hb hx
       by_cases hlt : j < N2
       ·
        obtain ⟨ab, ao, q, t, hA, hcl, hst, hat, hW⟩ := LS2.out.kid HB100.out.below hlt (fun _ t l => pr n t l ++ [32]) c; subst hA; have hc := hcl _ HB100.out.below; have HST := Lh hst; have HAT := Lh hat; clear hcl hst hat; obtain ⟨c1, hc1⟩ : ∃ x, x = pr n t c := ⟨_, rfl⟩
        have qc1 : c.length ≤ c1.length := by rw [hc1]; exact prLe _ _ _
        obtain ⟨c2, hc2⟩ : ∃ x, x = c1 ++ [32] := ⟨_, rfl⟩
        have qc2 : c1.length + 1 ≤ c2.length := by rw [hc2, List.length_append]; exact Nat.le_refl _
        have hf9 : (fun _ t l => pr n t l ++ [32]) j t c = c2 := by rw [hc2, hc1]
        have hx8 : l2 = itr (fun _ t l => pr n t l ++ [32]) (xfds.drop (j + 1)) (j + 1) c2 := by rw [← hf9]; exact HXC.out.trans HST.out
        have q9 : c2.length ≤ l2.length := by rw [hx8]; exact itrLe (fun _ t l => by have := prLe n t l; rw [List.length_append]; omega) _ _ _
        have HXD := Lh hx8; have HQC := Lh ((And.intro qc1 (And.intro qc2 q9))); have HLc1 := Lh hc1; have HLc2 := Lh hc2; clear hf9 hx8 q9 qc1 qc2 hc1 hc2; go_wp2_with fail; refine (IHD w0 _ B q _ c c1 t hW HAT.out HB100.out HE.out HLc1.out (by have := HQ.out; have := HQC.out; omega)).mono ?_; rintro e w101 ⟨v9, rfl, hb⟩; obtain ⟨VA101, vn101, vc101, rfl, -⟩ := hb.form; have HB101 := Lh hb; clear hb; go_wp2_with (at_builtin; refine HB101.out.byt rfl _ _ rfl (by rfl) 32 _ rfl _ rfl rfl (by rfl) c2 HLc2.out (by have := HQ.out; have := HQC.out; omega) ?_); intro VA102 vn102 vc102 w102 hb; have HB102 := Lh hb; clear hb; go_wp2_with fail; exact ⟨⟨j + 1, c2, by omega, by go_num, HB102.out, HXD.out⟩, by simp [intOf]; omega⟩
       ·
        obtain rfl : N2 = j := by omega
        have hx9 : l2 = c := HXC.out.trans (LS2.out.fin _ c); have HB2 := Lh (show BN B w0 l2 (.slice Ac nc cc) _ from by rw [hx9]; exact HB100.out); clear hx9; obtain ⟨zHR_0, zHR_1, zHR_2, zHR_3, zHR_5⟩ := (HR.out.at hp HB2.out.below).cs5 0 1 2 3 5; go_wp2_with fail; go_ret; exact ⟨_, rfl, HB2.out⟩
   ·
    have HA3 := Lh a3; clear a3; have HR := Lh hr; clear hr f3; obtain ⟨l1, hl1⟩ : ∃ x, x = itr (fun _ t l => pr n t l) xims 0 l := ⟨_, rfl⟩
    have ql1 : l.length ≤ l1.length := by rw [hl1]; exact itrLe (fun _ _ _ => prLe _ _ _) _ _ _
    obtain ⟨l2, hl2⟩ : ∃ x, x = itr (fun _ t l => pr n t l ++ [32]) xfds 0 l1 := ⟨_, rfl⟩
    have ql2 : l1.length ≤ l2.length := by rw [hl2]; exact itrLe (fun _ t l => by have := prLe n t l; rw [List.length_append]; omega) _ _ _
    obtain ⟨l3, hl3⟩ : ∃ x, x = pr n y3 l2 := ⟨_, rfl⟩
    have ql3 : l2.length ≤ l3.length := by rw [hl3]; exact prLe _ _ _
    have hX : l' = l3 := by rw [hl]; rw [hl3, hl2, hl1]; rfl
    rw [hX] at hlen; have HQ := Lh (And.intro hlen (And.intro ql1 (And.intro ql2 ql3))); have HLl1 := Lh hl1; have HLl2 := Lh hl2; have HLl3 := Lh hl3; rw [hX]; clear hX hlen hl ql1 ql2 ql3 hl1 hl2 hl3; obtain ⟨zHR_0, zHR_1, zHR_2, zHR_3, zHR_5⟩ := (HR.out.at hp HB.out.below).cs5 0 1 2 3 5; go_enter Tryz.func6, Tryz.ntmps6; go_wp2_with fail; go_loopw [0, 31] (fun v t wr => ∃ (j : Nat) (c : L8), j ≤ N1 ∧ t = .int .i64 j ∧ BN B w0 c v wr ∧ l1 = itr (fun _ t l => pr n t l) (xims.drop j) j c) (fun _ t _ => N1 - (intOf t).toNat)
    case atStart =>
     exact ⟨0, l, Nat.zero_le _, rfl, HB.out, HLl1.out⟩
    case round =>
     obtain ⟨j, c, hj, rfl, hb, hx⟩ := hrel; obtain ⟨Ac, nc, cc, rfl, -⟩ := hb.form; have HB100 := Lh hb; have HXC := Lh hx; clear hb hx
     by_cases hlt : j < N1
     ·
      obtain ⟨ab, ao, q, t, hA, hcl, hst, hat, hW⟩ := LS1.out.kid HB100.out.below hlt (fun _ t l => pr n t l) c; subst hA; have hc := hcl _ HB100.out.below; have HST := Lh hst; have HAT := Lh hat; clear hcl hst hat; obtain ⟨c1, hc1⟩ : ∃ x, x = pr n t c := ⟨_, rfl⟩
      have qc1 : c.length ≤ c1.length := by rw [hc1]; exact prLe _ _ _
      have hf9 : (fun _ t l => pr n t l) j t c = c1 := by rw [hc1]
      have hx8 : l1 = itr (fun _ t l => pr n t l) (xims.drop (j + 1)) (j + 1) c1 := by rw [← hf9]; exact HXC.out.trans HST.out
      have q9 : c1.length ≤ l1.length := by rw [hx8]; exact itrLe (fun _ _ _ => prLe _ _ _) _ _ _
      have HXD := Lh hx8; have HQC := Lh ((And.intro qc1 q9)); have HLc1 := Lh hc1; clear hf9 hx8 q9 qc1 hc1; go_wp2_with fail; refine (IHM w0 _ B q _ c c1 t hW HAT.out HB100.out HE.out HLc1.out (by have := HQ.out; have := HQC.out; omega)).mono ?_; rintro e w101 ⟨v9, rfl, hb⟩; obtain ⟨VA101, vn101, vc101, rfl, -⟩ := hb.form; have HB101 := Lh hb; clear hb; go_wp2_with fail; exact ⟨⟨j + 1, c1, by omega, by go_num, HB101.out, HXD.out⟩, by simp [intOf]; omega⟩
     ·
      obtain rfl : N1 = j := by omega
      have hx9 : l1 = c := HXC.out.trans (LS1.out.fin _ c); have HB1 := Lh (show BN B w0 l1 (.slice Ac nc cc) _ from by rw [hx9]; exact HB100.out); clear hx9; obtain ⟨zHR_0, zHR_1, zHR_2, zHR_3, zHR_5⟩ := (HR.out.at hp HB1.out.below).cs5 0 1 2 3 5; go_wp2_with fail; go_loopw [0, 44] (fun v t wr => ∃ (j : Nat) (c : L8), j ≤ N2 ∧ t = .int .i64 j ∧ BN B w0 c v wr ∧ l2 = itr (fun _ t l => pr n t l ++ [32]) (xfds.drop j) j c) (fun _ t _ => N2 - (intOf t).toNat)
      case atStart =>
       exact ⟨0, l1, Nat.zero_le _, rfl, HB1.out, HLl2.out⟩
      case round =>
       obtain ⟨j, c, hj, rfl, hb, hx⟩ := hrel; obtain ⟨Ac, nc, cc, rfl, -⟩ := hb.form; have HB100 := Lh hb; have HXC := Lh hx; clear hb hx
       by_cases hlt : j < N2
       ·
        obtain ⟨ab, ao, q, t, hA, hcl, hst, hat, hW⟩ := LS2.out.kid HB100.out.below hlt (fun _ t l => pr n t l ++ [32]) c; subst hA; have hc := hcl _ HB100.out.below; have HST := Lh hst; have HAT := Lh hat; clear hcl hst hat; obtain ⟨c1, hc1⟩ : ∃ x, x = pr n t c := ⟨_, rfl⟩
        have qc1 : c.length ≤ c1.length := by rw [hc1]; exact prLe _ _ _
        obtain ⟨c2, hc2⟩ : ∃ x, x = c1 ++ [32] := ⟨_, rfl⟩
        have qc2 : c1.length + 1 ≤ c2.length := by rw [hc2, List.length_append]; exact Nat.le_refl _
        have hf9 : (fun _ t l => pr n t l ++ [32]) j t c = c2 := by rw [hc2, hc1]
        have hx8 : l2 = itr (fun _ t l => pr n t l ++ [32]) (xfds.drop (j + 1)) (j + 1) c2 := by rw [← hf9]; exact HXC.out.trans HST.out
        have q9 : c2.length ≤ l2.length := by rw [hx8]; exact itrLe (fun _ t l => by have := prLe n t l; rw [List.length_append]; omega) _ _ _
        have HXD := Lh hx8; have HQC := Lh ((And.intro qc1 (And.intro qc2 q9))); have HLc1 := Lh hc1; have HLc2 := Lh hc2; clear hf9 hx8 q9 qc1 qc2 hc1 hc2; go_wp2_with fail; refine (IHD w0 _ B q _ c c1 t hW HAT.out HB100.out HE.out HLc1.out (by have := HQ.out; have := HQC.out; omega)).mono ?_; rintro e w101 ⟨v9, rfl, hb⟩; obtain ⟨VA101, vn101, vc101, rfl, -⟩ := hb.form; have HB101 := Lh hb; clear hb; go_wp2_with (at_builtin; refine HB101.out.byt rfl _ _ rfl (by rfl) 32 _ rfl _ rfl rfl (by rfl) c2 HLc2.out (by have := HQ.out; have := HQC.out; omega) ?_); intro VA102 vn102 vc102 w102 hb; have HB102 := Lh hb; clear hb; go_wp2_with fail; exact ⟨⟨j + 1, c2, by omega, by go_num, HB102.out, HXD.out⟩, by simp [intOf]; omega⟩
       ·
        obtain rfl : N2 = j := by omega
        have hx9 : l2 = c := HXC.out.trans (LS2.out.fin _ c); have HB2 := Lh (show BN B w0 l2 (.slice Ac nc cc) _ from by rw [hx9]; exact HB100.out); clear hx9; obtain ⟨zHR_0, zHR_1, zHR_2, zHR_3, zHR_5⟩ := (HR.out.at hp HB2.out.below).cs5 0 1 2 3 5; go_wp2_with fail; refine (IHT w0 _ B r3 _ l2 l3 y3 (h4 _ rfl) HA3.out HB2.out HE.out HLl3.out (by have := HQ.out; omega)).mono ?_; rintro e w3 ⟨v9, rfl, hb⟩; obtain ⟨VA3, vn3, vc3, rfl, -⟩ := hb.form; have HB3 := Lh hb; clear hb; clear zHR_0 zHR_1 zHR_2 zHR_3 zHR_5; obtain ⟨zHR_0, zHR_1, zHR_2, zHR_3, zHR_5⟩ := (HR.out.at hp HB3.out.below).cs5 0 1 2 3 5; go_wp2_with fail; go_ret; exact ⟨_, rfl, HB3.out⟩
  ·
   have HA0 := Lh a0; clear a0; clear f0; rcases FV.pt f3 with ⟨rfl, rfl⟩ | ⟨y3, r3, rfl, rfl, a3⟩
   ·
    have HR := Lh hr; clear hr f3; obtain ⟨l1, hl1⟩ : ∃ x, x = l ++ [109, 111, 100, 117, 108, 101, 32] := ⟨_, rfl⟩
    have ql1 : l.length + 7 ≤ l1.length := by rw [hl1, List.length_append]; exact Nat.le_refl _
    obtain ⟨l2, hl2⟩ : ∃ x, x = pr n y0 l1 := ⟨_, rfl⟩
    have ql2 : l1.length ≤ l2.length := by rw [hl2]; exact prLe _ _ _
    obtain ⟨l3, hl3⟩ : ∃ x, x = l2 ++ [59, 10] := ⟨_, rfl⟩
    have ql3 : l2.length + 2 ≤ l3.length := by rw [hl3, List.length_append]; exact Nat.le_refl _
    obtain ⟨l4, hl4⟩ : ∃ x, x = itr (fun _ t l => pr n t l) xims 0 l3 := ⟨_, rfl⟩
    have ql4 : l3.length ≤ l4.length := by rw [hl4]; exact itrLe (fun _ _ _ => prLe _ _ _) _ _ _
    obtain ⟨l5, hl5⟩ : ∃ x, x = itr (fun _ t l => pr n t l ++ [32]) xfds 0 l4 := ⟨_, rfl⟩
    have ql5 : l4.length ≤ l5.length := by rw [hl5]; exact itrLe (fun _ t l => by have := prLe n t l; rw [List.length_append]; omega) _ _ _
    have hX : l' = l5 := by rw [hl]; rw [hl5, hl4, hl3, hl2, hl1]; rfl
    rw [hX] at hlen; have HQ := Lh (And.intro hlen (And.intro ql1 (And.intro ql2 (And.intro ql3 (And.intro ql4 ql5))))); have HLl1 := Lh hl1; have HLl2 := Lh hl2; have HLl3 := Lh hl3; have HLl4 := Lh hl4; have HLl5 := Lh hl5; rw [hX]; clear hX hlen hl ql1 ql2 ql3 ql4 ql5 hl1 hl2 hl3 hl4 hl5; obtain ⟨zHR_0, zHR_1, zHR_2, zHR_3, zHR_5⟩ := (HR.out.at hp HB.out.below).cs5 0 1 2 3 5; go_enter Tryz.func6, Tryz.ntmps6; go_wp2_with (at_builtin; refine HB.out.str rfl _ _ rfl (by rfl) (⟨#[109, 111, 100, 117, 108, 101, 32]⟩ : ByteArray) (by rfl) l1 HLl1.out (by have := HQ.out; omega) ?_); intro VA1 vn1 vc1 w1 hb; have HB1 := Lh hb; clear hb; clear zHR_0 zHR_1 zHR_2 zHR_3 zHR_5; obtain ⟨zHR_0, zHR_1, zHR_2, zHR_3, zHR_5⟩ := (HR.out.at hp HB1.out.below).cs5 0 1 2 3 5; go_wp2_with fail; refine (IHO w0 _ B r0 _ l1 l2 y0 (h1 _ rfl) HA0.out HB1.out HE.out HLl2.out (by have := HQ.out; omega)).mono ?_; rintro e w2 ⟨v9, rfl, hb⟩; obtain ⟨VA2, vn2, vc2, rfl, -⟩ := hb.form; have HB2 := Lh hb; clear hb; clear zHR_0 zHR_1 zHR_2 zHR_3 zHR_5; obtain ⟨zHR_0, zHR_1, zHR_2, zHR_3, zHR_5⟩ := (HR.out.at hp HB2.out.below).cs5 0 1 2 3 5; go_wp2_with (at_builtin; refine HB2.out.str rfl _ _ rfl (by rfl) (⟨#[59, 10]⟩ : ByteArray) (by rfl) l3 HLl3.out (by have := HQ.out; omega) ?_)
    intro VA3 vn3 vc3 w3 hb; have HB3 := Lh hb; clear hb; clear zHR_0 zHR_1 zHR_2 zHR_3 zHR_5; obtain ⟨zHR_0, zHR_1, zHR_2, zHR_3, zHR_5⟩ := (HR.out.at hp HB3.out.below).cs5 0 1 2 3 5; go_wp2_with fail; go_loopw [0, 31] (fun v t wr => ∃ (j : Nat) (c : L8), j ≤ N1 ∧ t = .int .i64 j ∧ BN B w0 c v wr ∧ l4 = itr (fun _ t l => pr n t l) (xims.drop j) j c) (fun _ t _ => N1 - (intOf t).toNat)
    case atStart =>
     exact ⟨0, l3, Nat.zero_le _, rfl, HB3.out, HLl4.out⟩
    case round =>
     obtain ⟨j, c, hj, rfl, hb, hx⟩ := hrel; obtain ⟨Ac, nc, cc, rfl, -⟩ := hb.form; have HB100 := Lh hb; have HXC := Lh hx; clear hb hx
     by_cases hlt : j < N1
     ·
      obtain ⟨ab, ao, q, t, hA, hcl, hst, hat, hW⟩ := LS1.out.kid HB100.out.below hlt (fun _ t l => pr n t l) c; subst hA; have hc := hcl _ HB100.out.below; have HST := Lh hst; have HAT := Lh hat; clear hcl hst hat; obtain ⟨c1, hc1⟩ : ∃ x, x = pr n t c := ⟨_, rfl⟩
      have qc1 : c.length ≤ c1.length := by rw [hc1]; exact prLe _ _ _
      have hf9 : (fun _ t l => pr n t l) j t c = c1 := by rw [hc1]
      have hx8 : l4 = itr (fun _ t l => pr n t l) (xims.drop (j + 1)) (j + 1) c1 := by rw [← hf9]; exact HXC.out.trans HST.out
      have q9 : c1.length ≤ l4.length := by rw [hx8]; exact itrLe (fun _ _ _ => prLe _ _ _) _ _ _
      have HXD := Lh hx8; have HQC := Lh ((And.intro qc1 q9)); have HLc1 := Lh hc1; clear hf9 hx8 q9 qc1 hc1; go_wp2_with fail; refine (IHM w0 _ B q _ c c1 t hW HAT.out HB100.out HE.out HLc1.out (by have := HQ.out; have := HQC.out; omega)).mono ?_; rintro e w101 ⟨v9, rfl, hb⟩; obtain ⟨VA101, vn101, vc101, rfl, -⟩ := hb.form; have HB101 := Lh hb; clear hb; go_wp2_with fail; exact ⟨⟨j + 1, c1, by omega, by go_num, HB101.out, HXD.out⟩, by simp [intOf]; omega⟩
     ·
      obtain rfl : N1 = j := by omega
      have hx9 : l4 = c := HXC.out.trans (LS1.out.fin _ c); have HB4 := Lh (show BN B w0 l4 (.slice Ac nc cc) _ from by rw [hx9]; exact HB100.out); clear hx9; obtain ⟨zHR_0, zHR_1, zHR_2, zHR_3, zHR_5⟩ := (HR.out.at hp HB4.out.below).cs5 0 1 2 3 5; go_wp2_with fail; go_loopw [0, 44] (fun v t wr => ∃ (j : Nat) (c : L8), j ≤ N2 ∧ t = .int .i64 j ∧ BN B w0 c v wr ∧ l5 = itr (fun _ t l => pr n t l ++ [32]) (xfds.drop j) j c) (fun _ t _ => N2 - (intOf t).toNat)
      case atStart =>
       exact ⟨0, l4, Nat.zero_le _, rfl, HB4.out, HLl5.out⟩
      case round =>
       obtain ⟨j, c, hj, rfl, hb, hx⟩ := hrel; obtain ⟨Ac, nc, cc, rfl, -⟩ := hb.form; have HB100 := Lh hb; have HXC := Lh hx; clear hb hx
       by_cases hlt : j < N2
       ·
        obtain ⟨ab, ao, q, t, hA, hcl, hst, hat, hW⟩ := LS2.out.kid HB100.out.below hlt (fun _ t l => pr n t l ++ [32]) c; subst hA; have hc := hcl _ HB100.out.below; have HST := Lh hst; have HAT := Lh hat; clear hcl hst hat; obtain ⟨c1, hc1⟩ : ∃ x, x = pr n t c := ⟨_, rfl⟩
        have qc1 : c.length ≤ c1.length := by rw [hc1]; exact prLe _ _ _
        obtain ⟨c2, hc2⟩ : ∃ x, x = c1 ++ [32] := ⟨_, rfl⟩
        have qc2 : c1.length + 1 ≤ c2.length := by rw [hc2, List.length_append]; exact Nat.le_refl _
        have hf9 : (fun _ t l => pr n t l ++ [32]) j t c = c2 := by rw [hc2, hc1]
        have hx8 : l5 = itr (fun _ t l => pr n t l ++ [32]) (xfds.drop (j + 1)) (j + 1) c2 := by rw [← hf9]; exact HXC.out.trans HST.out
        have q9 : c2.length ≤ l5.length := by rw [hx8]; exact itrLe (fun _ t l => by have := prLe n t l; rw [List.length_append]; omega) _ _ _
        have HXD := Lh hx8; have HQC := Lh ((And.intro qc1 (And.intro qc2 q9))); have HLc1 := Lh hc1; have HLc2 := Lh hc2; clear hf9 hx8 q9 qc1 qc2 hc1 hc2; go_wp2_with fail; refine (IHD w0 _ B q _ c c1 t hW HAT.out HB100.out HE.out HLc1.out (by have := HQ.out; have := HQC.out; omega)).mono ?_; rintro e w101 ⟨v9, rfl, hb⟩; obtain ⟨VA101, vn101, vc101, rfl, -⟩ := hb.form; have HB101 := Lh hb; clear hb; go_wp2_with (at_builtin; refine HB101.out.byt rfl _ _ rfl (by rfl) 32 _ rfl _ rfl rfl (by rfl) c2 HLc2.out (by have := HQ.out; have := HQC.out; omega) ?_); intro VA102 vn102 vc102 w102 hb; have HB102 := Lh hb; clear hb; go_wp2_with fail; exact ⟨⟨j + 1, c2, by omega, by go_num, HB102.out, HXD.out⟩, by simp [intOf]; omega⟩
       ·
        obtain rfl : N2 = j := by omega
        have hx9 : l5 = c := HXC.out.trans (LS2.out.fin _ c); have HB5 := Lh (show BN B w0 l5 (.slice Ac nc cc) _ from by rw [hx9]; exact HB100.out); clear hx9; obtain ⟨zHR_0, zHR_1, zHR_2, zHR_3, zHR_5⟩ := (HR.out.at hp HB5.out.below).cs5 0 1 2 3 5; go_wp2_with fail; go_ret; exact ⟨_, rfl, HB5.out⟩
   ·
    have HA3 := Lh a3; clear a3; have HR := Lh hr; clear hr f3; obtain ⟨l1, hl1⟩ : ∃ x, x = l ++ [109, 111, 100, 117, 108, 101, 32] := ⟨_, rfl⟩
    have ql1 : l.length + 7 ≤ l1.length := by rw [hl1, List.length_append]; exact Nat.le_refl _
    obtain ⟨l2, hl2⟩ : ∃ x, x = pr n y0 l1 := ⟨_, rfl⟩
    have ql2 : l1.length ≤ l2.length := by rw [hl2]; exact prLe _ _ _
    obtain ⟨l3, hl3⟩ : ∃ x, x = l2 ++ [59, 10] := ⟨_, rfl⟩
    have ql3 : l2.length + 2 ≤ l3.length := by rw [hl3, List.length_append]; exact Nat.le_refl _
    obtain ⟨l4, hl4⟩ : ∃ x, x = itr (fun _ t l => pr n t l) xims 0 l3 := ⟨_, rfl⟩
    have ql4 : l3.length ≤ l4.length := by rw [hl4]; exact itrLe (fun _ _ _ => prLe _ _ _) _ _ _
    obtain ⟨l5, hl5⟩ : ∃ x, x = itr (fun _ t l => pr n t l ++ [32]) xfds 0 l4 := ⟨_, rfl⟩
    have ql5 : l4.length ≤ l5.length := by rw [hl5]; exact itrLe (fun _ t l => by have := prLe n t l; rw [List.length_append]; omega) _ _ _
    obtain ⟨l6, hl6⟩ : ∃ x, x = pr n y3 l5 := ⟨_, rfl⟩
    have ql6 : l5.length ≤ l6.length := by rw [hl6]; exact prLe _ _ _
    have hX : l' = l6 := by rw [hl]; rw [hl6, hl5, hl4, hl3, hl2, hl1]; rfl
    rw [hX] at hlen; have HQ := Lh (And.intro hlen (And.intro ql1 (And.intro ql2 (And.intro ql3 (And.intro ql4 (And.intro ql5 ql6)))))); have HLl1 := Lh hl1; have HLl2 := Lh hl2; have HLl3 := Lh hl3; have HLl4 := Lh hl4; have HLl5 := Lh hl5; have HLl6 := Lh hl6; rw [hX]; clear hX hlen hl ql1 ql2 ql3 ql4 ql5 ql6 hl1 hl2 hl3 hl4 hl5 hl6; obtain ⟨zHR_0, zHR_1, zHR_2, zHR_3, zHR_5⟩ := (HR.out.at hp HB.out.below).cs5 0 1 2 3 5; go_enter Tryz.func6, Tryz.ntmps6; go_wp2_with (at_builtin; refine HB.out.str rfl _ _ rfl (by rfl) (⟨#[109, 111, 100, 117, 108, 101, 32]⟩ : ByteArray) (by rfl) l1 HLl1.out (by have := HQ.out; omega) ?_); intro VA1 vn1 vc1 w1 hb; have HB1 := Lh hb; clear hb; clear zHR_0 zHR_1 zHR_2 zHR_3 zHR_5; obtain ⟨zHR_0, zHR_1, zHR_2, zHR_3, zHR_5⟩ := (HR.out.at hp HB1.out.below).cs5 0 1 2 3 5; go_wp2_with fail; refine (IHO w0 _ B r0 _ l1 l2 y0 (h1 _ rfl) HA0.out HB1.out HE.out HLl2.out (by have := HQ.out; omega)).mono ?_; rintro e w2 ⟨v9, rfl, hb⟩; obtain ⟨VA2, vn2, vc2, rfl, -⟩ := hb.form; have HB2 := Lh hb; clear hb; clear zHR_0 zHR_1 zHR_2 zHR_3 zHR_5; obtain ⟨zHR_0, zHR_1, zHR_2, zHR_3, zHR_5⟩ := (HR.out.at hp HB2.out.below).cs5 0 1 2 3 5; go_wp2_with (at_builtin; refine HB2.out.str rfl _ _ rfl (by rfl) (⟨#[59, 10]⟩ : ByteArray) (by rfl) l3 HLl3.out (by have := HQ.out; omega) ?_)
    intro VA3 vn3 vc3 w3 hb; have HB3 := Lh hb; clear hb; clear zHR_0 zHR_1 zHR_2 zHR_3 zHR_5; obtain ⟨zHR_0, zHR_1, zHR_2, zHR_3, zHR_5⟩ := (HR.out.at hp HB3.out.below).cs5 0 1 2 3 5; go_wp2_with fail; go_loopw [0, 31] (fun v t wr => ∃ (j : Nat) (c : L8), j ≤ N1 ∧ t = .int .i64 j ∧ BN B w0 c v wr ∧ l4 = itr (fun _ t l => pr n t l) (xims.drop j) j c) (fun _ t _ => N1 - (intOf t).toNat)
    case atStart =>
     exact ⟨0, l3, Nat.zero_le _, rfl, HB3.out, HLl4.out⟩
    case round =>
     obtain ⟨j, c, hj, rfl, hb, hx⟩ := hrel; obtain ⟨Ac, nc, cc, rfl, -⟩ := hb.form; have HB100 := Lh hb; have HXC := Lh hx; clear hb hx
     by_cases hlt : j < N1
     ·
      obtain ⟨ab, ao, q, t, hA, hcl, hst, hat, hW⟩ := LS1.out.kid HB100.out.below hlt (fun _ t l => pr n t l) c; subst hA; have hc := hcl _ HB100.out.below; have HST := Lh hst; have HAT := Lh hat; clear hcl hst hat; obtain ⟨c1, hc1⟩ : ∃ x, x = pr n t c := ⟨_, rfl⟩
      have qc1 : c.length ≤ c1.length := by rw [hc1]; exact prLe _ _ _
      have hf9 : (fun _ t l => pr n t l) j t c = c1 := by rw [hc1]
      have hx8 : l4 = itr (fun _ t l => pr n t l) (xims.drop (j + 1)) (j + 1) c1 := by rw [← hf9]; exact HXC.out.trans HST.out
      have q9 : c1.length ≤ l4.length := by rw [hx8]; exact itrLe (fun _ _ _ => prLe _ _ _) _ _ _
      have HXD := Lh hx8; have HQC := Lh ((And.intro qc1 q9)); have HLc1 := Lh hc1; clear hf9 hx8 q9 qc1 hc1; go_wp2_with fail; refine (IHM w0 _ B q _ c c1 t hW HAT.out HB100.out HE.out HLc1.out (by have := HQ.out; have := HQC.out; omega)).mono ?_; rintro e w101 ⟨v9, rfl, hb⟩; obtain ⟨VA101, vn101, vc101, rfl, -⟩ := hb.form; have HB101 := Lh hb; clear hb; go_wp2_with fail; exact ⟨⟨j + 1, c1, by omega, by go_num, HB101.out, HXD.out⟩, by simp [intOf]; omega⟩
     ·
      obtain rfl : N1 = j := by omega
      have hx9 : l4 = c := HXC.out.trans (LS1.out.fin _ c); have HB4 := Lh (show BN B w0 l4 (.slice Ac nc cc) _ from by rw [hx9]; exact HB100.out); clear hx9; obtain ⟨zHR_0, zHR_1, zHR_2, zHR_3, zHR_5⟩ := (HR.out.at hp HB4.out.below).cs5 0 1 2 3 5; go_wp2_with fail; go_loopw [0, 44] (fun v t wr => ∃ (j : Nat) (c : L8), j ≤ N2 ∧ t = .int .i64 j ∧ BN B w0 c v wr ∧ l5 = itr (fun _ t l => pr n t l ++ [32]) (xfds.drop j) j c) (fun _ t _ => N2 - (intOf t).toNat)
      case atStart =>
       exact ⟨0, l4, Nat.zero_le _, rfl, HB4.out, HLl5.out⟩
      case round =>
       obtain ⟨j, c, hj, rfl, hb, hx⟩ := hrel; obtain ⟨Ac, nc, cc, rfl, -⟩ := hb.form; have HB100 := Lh hb; have HXC := Lh hx; clear hb hx
       by_cases hlt : j < N2
       ·
        obtain ⟨ab, ao, q, t, hA, hcl, hst, hat, hW⟩ := LS2.out.kid HB100.out.below hlt (fun _ t l => pr n t l ++ [32]) c; subst hA; have hc := hcl _ HB100.out.below; have HST := Lh hst; have HAT := Lh hat; clear hcl hst hat; obtain ⟨c1, hc1⟩ : ∃ x, x = pr n t c := ⟨_, rfl⟩
        have qc1 : c.length ≤ c1.length := by rw [hc1]; exact prLe _ _ _
        obtain ⟨c2, hc2⟩ : ∃ x, x = c1 ++ [32] := ⟨_, rfl⟩
        have qc2 : c1.length + 1 ≤ c2.length := by rw [hc2, List.length_append]; exact Nat.le_refl _
        have hf9 : (fun _ t l => pr n t l ++ [32]) j t c = c2 := by rw [hc2, hc1]
        have hx8 : l5 = itr (fun _ t l => pr n t l ++ [32]) (xfds.drop (j + 1)) (j + 1) c2 := by rw [← hf9]; exact HXC.out.trans HST.out
        have q9 : c2.length ≤ l5.length := by rw [hx8]; exact itrLe (fun _ t l => by have := prLe n t l; rw [List.length_append]; omega) _ _ _
        have HXD := Lh hx8; have HQC := Lh ((And.intro qc1 (And.intro qc2 q9))); have HLc1 := Lh hc1; have HLc2 := Lh hc2; clear hf9 hx8 q9 qc1 qc2 hc1 hc2; go_wp2_with fail; refine (IHD w0 _ B q _ c c1 t hW HAT.out HB100.out HE.out HLc1.out (by have := HQ.out; have := HQC.out; omega)).mono ?_; rintro e w101 ⟨v9, rfl, hb⟩; obtain ⟨VA101, vn101, vc101, rfl, -⟩ := hb.form; have HB101 := Lh hb; clear hb; go_wp2_with (at_builtin; refine HB101.out.byt rfl _ _ rfl (by rfl) 32 _ rfl _ rfl rfl (by rfl) c2 HLc2.out (by have := HQ.out; have := HQC.out; omega) ?_); intro VA102 vn102 vc102 w102 hb; have HB102 := Lh hb; clear hb; go_wp2_with fail; exact ⟨⟨j + 1, c2, by omega, by go_num, HB102.out, HXD.out⟩, by simp [intOf]; omega⟩
       ·
        obtain rfl : N2 = j := by omega
        have hx9 : l5 = c := HXC.out.trans (LS2.out.fin _ c); have HB5 := Lh (show BN B w0 l5 (.slice Ac nc cc) _ from by rw [hx9]; exact HB100.out); clear hx9; obtain ⟨zHR_0, zHR_1, zHR_2, zHR_3, zHR_5⟩ := (HR.out.at hp HB5.out.below).cs5 0 1 2 3 5; go_wp2_with fail; refine (IHT w0 _ B r3 _ l5 l6 y3 (h4 _ rfl) HA3.out HB5.out HE.out HLl6.out (by have := HQ.out; omega)).mono ?_; rintro e w6 ⟨v9, rfl, hb⟩; obtain ⟨VA6, vn6, vc6, rfl, -⟩ := hb.form; have HB6 := Lh hb; clear hb; clear zHR_0 zHR_1 zHR_2 zHR_3 zHR_5; obtain ⟨zHR_0, zHR_1, zHR_2, zHR_3, zHR_5⟩ := (HR.out.at hp HB6.out.below).cs5 0 1 2 3 5; go_wp2_with fail; go_ret; exact ⟨_, rfl, HB6.out⟩
 | q2 xl xr xps xop xa xb xc h1 h2 g3 h3 h4 h5 =>
  obtain ⟨hp, v0, v1, v2, v3, v4, v5, v6, hr, f0, f1, f2, f3, f4, f5, f6⟩ := inv_q ha; have e0 : v0 = .pointer none := f0; have e3 : v3 = .pointer none := f3; obtain ⟨r4, rfl, a4⟩ := f4; obtain ⟨r5, rfl, a5⟩ := f5; subst e0 e3; clear ha f0 f3; have A4 := Lh a4; have A5 := Lh a5; clear a4 a5
  have g1 : ([] : List T).length ≤ 3 := by decide
  have h1' : ∀ t ∈ ([] : List T), W .im t := fun t x => by cases x
  have h2' : ∀ t ∈ ([] : List T), W .fd t := fun t x => by cases x
  have g1' := g1; have g2' := g1; obtain ⟨X1, M1, N1, rfl, hnn1, ls1⟩ := FV.ls .im h1' f1; have LS1 := Lh ls1; have len1 := ls1.len
  have bnd1 : N1 ≤ 3 := by have := g1'; omega
  clear ls1 f1; obtain ⟨X2, M2, N2, rfl, hnn2, ls2⟩ := FV.ls .fd h2' f2; have LS2 := Lh ls2; have len2 := ls2.len
  have bnd2 : N2 ≤ 3 := by have := g2'; omega
  clear ls2 f2; obtain ⟨X6, M6, N6, rfl, hnn6, ls6⟩ := FV.ls .pt h3 f6; have LS6 := Lh ls6; have len6 := ls6.len
  have bnd6 : N6 ≤ 3 := by have := g3; omega
  clear ls6 f6; clear hnn1 hnn2 hnn6; have HR := Lh hr; clear hr
  by_cases hop : xop = 2
  ·
   subst hop; obtain ⟨l1, hl1⟩ : ∃ x, x = itr (fun _ t l => pr n t l) ([] : List T) 0 l := ⟨_, rfl⟩
   have ql1 : l.length ≤ l1.length := by rw [hl1]; exact itrLe (fun _ _ _ => prLe _ _ _) _ _ _
   obtain ⟨l2, hl2⟩ : ∃ x, x = itr (fun _ t l => pr n t l ++ [32]) ([] : List T) 0 l1 := ⟨_, rfl⟩
   have ql2 : l1.length ≤ l2.length := by rw [hl2]; exact itrLe (fun _ t l => by have := prLe n t l; rw [List.length_append]; omega) _ _ _
   obtain ⟨l3, hl3⟩ : ∃ x, x = pr n xl l2 := ⟨_, rfl⟩
   have ql3 : l2.length ≤ l3.length := by rw [hl3]; exact prLe _ _ _
   obtain ⟨l4, hl4⟩ : ∃ x, x = itr (fun j t l => pr n t (if j = 0 then l ++ [97, 115, 32] else l ++ [63, 47, 47, 32]) ++ [32]) xps 0 l3 := ⟨_, rfl⟩
   have ql4 : l3.length ≤ l4.length := by rw [hl4]; exact itrLe (fun j t l => by have h1 := prLe n t (l ++ [97, 115, 32]); have h2 := prLe n t (l ++ [63, 47, 47, 32]); rw [List.length_append] at h1 h2; split <;> (rw [List.length_append]; omega)) _ _ _
   obtain ⟨l5, hl5⟩ : ∃ x, x = l4 ++ opT 2 := ⟨_, rfl⟩
   have ql5 : l4.length ≤ l5.length := by rw [hl5, List.length_append]; omega
   obtain ⟨l6, hl6⟩ : ∃ x, x = l5 ++ [32] := ⟨_, rfl⟩
   have ql6 : l5.length + 1 ≤ l6.length := by rw [hl6, List.length_append]; exact Nat.le_refl _
   obtain ⟨l7, hl7⟩ : ∃ x, x = pr n xr l6 := ⟨_, rfl⟩
   have ql7 : l6.length ≤ l7.length := by rw [hl7]; exact prLe _ _ _
   have hX : l' = l7 := by rw [hl]; rw [hl7, hl6, hl5, hl4, hl3, hl2, hl1]; rfl
   rw [hX] at hlen; have HQ := Lh (And.intro hlen (And.intro ql1 (And.intro ql2 (And.intro ql3 (And.intro ql4 (And.intro ql5 (And.intro ql6 ql7))))))); have HLl1 := Lh hl1; have HLl2 := Lh hl2; have HLl3 := Lh hl3; have HLl4 := Lh hl4; have HLl5 := Lh hl5; have HLl6 := Lh hl6; have HLl7 := Lh hl7; rw [hX]; clear hX hlen hl ql1 ql2 ql3 ql4 ql5 ql6 ql7 hl1 hl2 hl3 hl4 hl5 hl6 hl7; obtain ⟨zHR_0, zHR_1, zHR_2, zHR_3, zHR_4, zHR_5, zHR_6, zHR_7⟩ := (HR.out.at hp HB.out.below).cs8 0 1 2 3 4 5 6 7; go_enter Tryz.func6, Tryz.ntmps6; go_wp2_with fail; go_loopw [0, 31] (fun v t wr => ∃ (j : Nat) (c : L8), j ≤ N1 ∧ t = .int .i64 j ∧ BN B w0 c v wr ∧ l1 = itr (fun _ t l => pr n t l) (([] : List T).drop j) j c) (fun _ t _ => N1 - (intOf t).toNat)
   case atStart =>
    exact ⟨0, l, Nat.zero_le _, rfl, HB.out, HLl1.out⟩
   case round =>
    obtain ⟨j, c, hj, rfl, hb, hx⟩ := hrel; obtain ⟨Ac, nc, cc, rfl, -⟩ := hb.form; have HB100 := Lh hb; have HXC := Lh hx; clear hb hx
    by_cases hlt : j < N1
    ·
     obtain ⟨ab, ao, q, t, hA, hcl, hst, hat, hW⟩ := LS1.out.kid HB100.out.below hlt (fun _ t l => pr n t l) c; subst hA; have hc := hcl _ HB100.out.below; have HST := Lh hst; have HAT := Lh hat; clear hcl hst hat; obtain ⟨c1, hc1⟩ : ∃ x, x = pr n t c := ⟨_, rfl⟩
     have qc1 : c.length ≤ c1.length := by rw [hc1]; exact prLe _ _ _
     have hf9 : (fun _ t l => pr n t l) j t c = c1 := by rw [hc1]
     have hx8 : l1 = itr (fun _ t l => pr n t l) (([] : List T).drop (j + 1)) (j + 1) c1 := by rw [← hf9]; exact HXC.out.trans HST.out
     have q9 : c1.length ≤ l1.length := by rw [hx8]; exact itrLe (fun _ _ _ => prLe _ _ _) _ _ _
     have HXD := Lh hx8; have HQC := Lh ((And.intro qc1 q9)); have HLc1 := Lh hc1; clear hf9 hx8 q9 qc1 hc1; go_wp2_with fail; refine (IHM w0 _ B q _ c c1 t hW HAT.out HB100.out HE.out HLc1.out (by have := HQ.out; have := HQC.out; omega)).mono ?_; rintro e w101 ⟨v9, rfl, hb⟩; obtain ⟨VA101, vn101, vc101, rfl, -⟩ := hb.form; have HB101 := Lh hb; clear hb; go_wp2_with fail; exact ⟨⟨j + 1, c1, by omega, by go_num, HB101.out, HXD.out⟩, by simp [intOf]; omega⟩
    ·
     obtain rfl : N1 = j := by omega
     have hx9 : l1 = c := HXC.out.trans (LS1.out.fin _ c); have HB1 := Lh (show BN B w0 l1 (.slice Ac nc cc) _ from by rw [hx9]; exact HB100.out); clear hx9; obtain ⟨zHR_0, zHR_1, zHR_2, zHR_3, zHR_4, zHR_5, zHR_6, zHR_7⟩ := (HR.out.at hp HB1.out.below).cs8 0 1 2 3 4 5 6 7; go_wp2_with fail; go_loopw [0, 44] (fun v t wr => ∃ (j : Nat) (c : L8), j ≤ N2 ∧ t = .int .i64 j ∧ BN B w0 c v wr ∧ l2 = itr (fun _ t l => pr n t l ++ [32]) (([] : List T).drop j) j c) (fun _ t _ => N2 - (intOf t).toNat)
     case atStart =>
      exact ⟨0, l1, Nat.zero_le _, rfl, HB1.out, HLl2.out⟩
     case round =>
      obtain ⟨j, c, hj, rfl, hb, hx⟩ := hrel; obtain ⟨Ac, nc, cc, rfl, -⟩ := hb.form; have HB100 := Lh hb; have HXC := Lh hx; clear hb hx
      by_cases hlt : j < N2
      ·
       obtain ⟨ab, ao, q, t, hA, hcl, hst, hat, hW⟩ := LS2.out.kid HB100.out.below hlt (fun _ t l => pr n t l ++ [32]) c; subst hA; have hc := hcl _ HB100.out.below; have HST := Lh hst; have HAT := Lh hat; clear hcl hst hat; obtain ⟨c1, hc1⟩ : ∃ x, x = pr n t c := ⟨_, rfl⟩
       have qc1 : c.length ≤ c1.length := by rw [hc1]; exact prLe _ _ _
       obtain ⟨c2, hc2⟩ : ∃ x, x = c1 ++ [32] := ⟨_, rfl⟩
       have qc2 : c1.length + 1 ≤ c2.length := by rw [hc2, List.length_append]; exact Nat.le_refl _
       have hf9 : (fun _ t l => pr n t l ++ [32]) j t c = c2 := by rw [hc2, hc1]
       have hx8 : l2 = itr (fun _ t l => pr n t l ++ [32]) (([] : List T).drop (j + 1)) (j + 1) c2 := by rw [← hf9]; exact HXC.out.trans HST.out
       have q9 : c2.length ≤ l2.length := by rw [hx8]; exact itrLe (fun _ t l => by have := prLe n t l; rw [List.length_append]; omega) _ _ _
       have HXD := Lh hx8; have HQC := Lh ((And.intro qc1 (And.intro qc2 q9))); have HLc1 := Lh hc1; have HLc2 := Lh hc2; clear hf9 hx8 q9 qc1 qc2 hc1 hc2; go_wp2_with fail; refine (IHD w0 _ B q _ c c1 t hW HAT.out HB100.out HE.out HLc1.out (by have := HQ.out; have := HQC.out; omega)).mono ?_; rintro e w101 ⟨v9, rfl, hb⟩; obtain ⟨VA101, vn101, vc101, rfl, -⟩ := hb.form; have HB101 := Lh hb; clear hb; go_wp2_with (at_builtin; refine HB101.out.byt rfl _ _ rfl (by rfl) 32 _ rfl _ rfl rfl (by rfl) c2 HLc2.out (by have := HQ.out; have := HQC.out; omega) ?_); intro VA102 vn102 vc102 w102 hb; have HB102 := Lh hb; clear hb; go_wp2_with fail; exact ⟨⟨j + 1, c2, by omega, by go_num, HB102.out, HXD.out⟩, by simp [intOf]; omega⟩
      ·
       obtain rfl : N2 = j := by omega
       have hx9 : l2 = c := HXC.out.trans (LS2.out.fin _ c); have HB2 := Lh (show BN B w0 l2 (.slice Ac nc cc) _ from by rw [hx9]; exact HB100.out); clear hx9; obtain ⟨zHR_0, zHR_1, zHR_2, zHR_3, zHR_4, zHR_5, zHR_6, zHR_7⟩ := (HR.out.at hp HB2.out.below).cs8 0 1 2 3 4 5 6 7; go_wp2_with fail; refine (IHQ w0 _ B r4 _ l2 l3 xl h1 A4.out HB2.out HE.out HLl3.out (by have := HQ.out; omega)).mono ?_; rintro e w3 ⟨v9, rfl, hb⟩; obtain ⟨VA3, vn3, vc3, rfl, -⟩ := hb.form; have HB3 := Lh hb; clear hb; clear zHR_0 zHR_1 zHR_2 zHR_3 zHR_4 zHR_5 zHR_6 zHR_7; obtain ⟨zHR_0, zHR_1, zHR_2, zHR_3, zHR_4, zHR_5, zHR_6, zHR_7⟩ := (HR.out.at hp HB3.out.below).cs8 0 1 2 3 4 5 6 7; go_wp2_with fail; go_loopw [0, 91] (fun v t wr => ∃ (j : Nat) (c : L8), j ≤ N6 ∧ t = .int .i64 j ∧ BN B w0 c v wr ∧ l4 = itr (fun j t l => pr n t (if j = 0 then l ++ [97, 115, 32] else l ++ [63, 47, 47, 32]) ++ [32]) (xps.drop j) j c) (fun _ t _ => N6 - (intOf t).toNat)
       case atStart =>
        exact ⟨0, l3, Nat.zero_le _, rfl, HB3.out, HLl4.out⟩
       case round =>
        obtain ⟨j, c, hj, rfl, hb, hx⟩ := hrel; obtain ⟨Ac, nc, cc, rfl, -⟩ := hb.form; have HB100 := Lh hb; have HXC := Lh hx; clear hb hx
        by_cases hlt : j < N6
        ·
         obtain ⟨ab, ao, q, t, hA, hcl, hst, hat, hW⟩ := LS6.out.kid HB100.out.below hlt (fun j t l => pr n t (if j = 0 then l ++ [97, 115, 32] else l ++ [63, 47, 47, 32]) ++ [32]) c; subst hA; have hc := hcl _ HB100.out.below; have HST := Lh hst; have HAT := Lh hat; clear hcl hst hat
         by_cases hj0 : j = 0
         ·
          have hjb : ((j : Int) == 0) = true := by simp [hj0]
          have HJ := Lh hj0; clear hj0; obtain ⟨c1, hc1⟩ : ∃ x, x = c ++ [97, 115, 32] := ⟨_, rfl⟩
          have qc1 : c.length + 3 ≤ c1.length := by rw [hc1, List.length_append]; exact Nat.le_refl _
          obtain ⟨c2, hc2⟩ : ∃ x, x = pr n t c1 := ⟨_, rfl⟩
          have qc2 : c1.length ≤ c2.length := by rw [hc2]; exact prLe _ _ _
          obtain ⟨c3, hc3⟩ : ∃ x, x = c2 ++ [32] := ⟨_, rfl⟩
          have qc3 : c2.length + 1 ≤ c3.length := by rw [hc3, List.length_append]; exact Nat.le_refl _
          have hf9 : (fun j t l => pr n t (if j = 0 then l ++ [97, 115, 32] else l ++ [63, 47, 47, 32]) ++ [32]) j t c = c3 := by rw [hc3, hc2, hc1]; show pr n t (if j = 0 then c ++ [97, 115, 32] else c ++ [63, 47, 47, 32]) ++ [32] = _; rw [if_pos HJ.out]
          have hx8 : l4 = itr (fun j t l => pr n t (if j = 0 then l ++ [97, 115, 32] else l ++ [63, 47, 47, 32]) ++ [32]) (xps.drop (j + 1)) (j + 1) c3 := by rw [← hf9]; exact HXC.out.trans HST.out
          have q9 : c3.length ≤ l4.length := by rw [hx8]; exact itrLe (fun j t l => by have h1 := prLe n t (l ++ [97, 115, 32]); have h2 := prLe n t (l ++ [63, 47, 47, 32]); rw [List.length_append] at h1 h2; split <;> (rw [List.length_append]; omega)) _ _ _
          have HXD := Lh hx8; have HQC := Lh ((And.intro qc1 (And.intro qc2 (And.intro qc3 q9)))); have HLc1 := Lh hc1; have HLc2 := Lh hc2; have HLc3 := Lh hc3; clear hf9 hx8 q9 qc1 qc2 qc3 hc1 hc2 hc3; go_wp2_with (at_builtin; refine HB100.out.str rfl _ _ rfl (by rfl) (⟨#[97, 115, 32]⟩ : ByteArray) (by rfl) c1 HLc1.out (by have := HQ.out; have := HQC.out; omega) ?_); intro VA101 vn101 vc101 w101 hb; have HB101 := Lh hb; clear hb; go_wp2_with fail; refine (IHP w0 _ B q _ c1 c2 t hW HAT.out HB101.out HE.out HLc2.out (by have := HQ.out; have := HQC.out; omega)).mono ?_; rintro e w102 ⟨v9, rfl, hb⟩; obtain ⟨VA102, vn102, vc102, rfl, -⟩ := hb.form; have HB102 := Lh hb; clear hb; go_wp2_with (at_builtin; refine HB102.out.byt rfl _ _ rfl (by rfl) 32 _ rfl _ rfl rfl (by rfl) c3 HLc3.out (by have := HQ.out; have := HQC.out; omega) ?_); intro VA103 vn103 vc103 w103 hb; have HB103 := Lh hb; clear hb; go_wp2_with fail; exact ⟨⟨j + 1, c3, by omega, by go_num, HB103.out, HXD.out⟩, by simp [intOf]; omega⟩
         ·
          have hjb : ((j : Int) == 0) = false := by simp; omega
          have HJ := Lh hj0; clear hj0; obtain ⟨c1, hc1⟩ : ∃ x, x = c ++ [63, 47, 47, 32] := ⟨_, rfl⟩
          have qc1 : c.length + 4 ≤ c1.length := by rw [hc1, List.length_append]; exact Nat.le_refl _
          obtain ⟨c2, hc2⟩ : ∃ x, x = pr n t c1 := ⟨_, rfl⟩
          have qc2 : c1.length ≤ c2.length := by rw [hc2]; exact prLe _ _ _
          obtain ⟨c3, hc3⟩ : ∃ x, x = c2 ++ [32] := ⟨_, rfl⟩
          have qc3 : c2.length + 1 ≤ c3.length := by rw [hc3, List.length_append]; exact Nat.le_refl _
          have hf9 : (fun j t l => pr n t (if j = 0 then l ++ [97, 115, 32] else l ++ [63, 47, 47, 32]) ++ [32]) j t c = c3 := by rw [hc3, hc2, hc1]; show pr n t (if j = 0 then c ++ [97, 115, 32] else c ++ [63, 47, 47, 32]) ++ [32] = _; rw [if_neg HJ.out]
          have hx8 : l4 = itr (fun j t l => pr n t (if j = 0 then l ++ [97, 115, 32] else l ++ [63, 47, 47, 32]) ++ [32]) (xps.drop (j + 1)) (j + 1) c3 := by rw [← hf9]; exact HXC.out.trans HST.out
          have q9 : c3.length ≤ l4.length := by rw [hx8]; exact itrLe (fun j t l => by have h1 := prLe n t (l ++ [97, 115, 32]); have h2 := prLe n t (l ++ [63, 47, 47, 32]); rw [List.length_append] at h1 h2; split <;> (rw [List.length_append]; omega)) _ _ _
          have HXD := Lh hx8; have HQC := Lh ((And.intro qc1 (And.intro qc2 (And.intro qc3 q9)))); have HLc1 := Lh hc1; have HLc2 := Lh hc2; have HLc3 := Lh hc3; clear hf9 hx8 q9 qc1 qc2 qc3 hc1 hc2 hc3; go_wp2_with (at_builtin; refine HB100.out.str rfl _ _ rfl (by rfl) (⟨#[63, 47, 47, 32]⟩ : ByteArray) (by rfl) c1 HLc1.out (by have := HQ.out; have := HQC.out; omega) ?_); intro VA101 vn101 vc101 w101 hb; have HB101 := Lh hb; clear hb; go_wp2_with fail; refine (IHP w0 _ B q _ c1 c2 t hW HAT.out HB101.out HE.out HLc2.out (by have := HQ.out; have := HQC.out; omega)).mono ?_; rintro e w102 ⟨v9, rfl, hb⟩; obtain ⟨VA102, vn102, vc102, rfl, -⟩ := hb.form; have HB102 := Lh hb; clear hb; go_wp2_with (at_builtin; refine HB102.out.byt rfl _ _ rfl (by rfl) 32 _ rfl _ rfl rfl (by rfl) c3 HLc3.out (by have := HQ.out; have := HQC.out; omega) ?_); intro VA103 vn103 vc103 w103 hb; have HB103 := Lh hb; clear hb; go_wp2_with fail; exact ⟨⟨j + 1, c3, by omega, by go_num, HB103.out, HXD.out⟩, by simp [intOf]; omega⟩
        ·
         obtain rfl : N6 = j := by omega
         have hx9 : l4 = c := HXC.out.trans (LS6.out.fin _ c); have HB4 := Lh (show BN B w0 l4 (.slice Ac nc cc) _ from by rw [hx9]; exact HB100.out); clear hx9; obtain ⟨zHR_0, zHR_1, zHR_2, zHR_3, zHR_4, zHR_5, zHR_6, zHR_7⟩ := (HR.out.at hp HB4.out.below).cs8 0 1 2 3 4 5 6 7; go_wp2_with fail; refine (rOpC 2 _ (by decide) (by decide) (HE.out.at HB4.out.below).spc).mono ?_; rintro e w9 ⟨rfl, hb9⟩; have HK := Lh (HB4.out.keep hb9); clear hb9; go_wp2_with (at_builtin; refine HK.out.str rfl _ _ rfl (by rfl) ⟨(opT 2).toArray⟩ (by rfl) l5 HLl5.out (by have := HQ.out; omega) ?_); intro VA5 vn5 vc5 w5 hb; have HB5 := Lh hb; clear hb; clear zHR_0 zHR_1 zHR_2 zHR_3 zHR_4 zHR_5 zHR_6 zHR_7; obtain ⟨zHR_0, zHR_1, zHR_2, zHR_3, zHR_4, zHR_5, zHR_6, zHR_7⟩ := (HR.out.at hp HB5.out.below).cs8 0 1 2 3 4 5 6 7; go_wp2_with (at_builtin; refine HB5.out.byt rfl _ _ rfl (by rfl) 32 _ rfl _ rfl rfl (by rfl) l6 HLl6.out (by have := HQ.out; omega) ?_); intro VA6 vn6 vc6 w6 hb; have HB6 := Lh hb; clear hb; clear zHR_0 zHR_1 zHR_2 zHR_3 zHR_4 zHR_5 zHR_6 zHR_7; obtain ⟨zHR_0, zHR_1, zHR_2, zHR_3, zHR_4, zHR_5, zHR_6, zHR_7⟩ := (HR.out.at hp HB6.out.below).cs8 0 1 2 3 4 5 6 7; go_wp2_with fail; refine (IHQ w0 _ B r5 _ l6 l7 xr h2 A5.out HB6.out HE.out HLl7.out (by have := HQ.out; omega)).mono ?_; rintro e w7 ⟨v9, rfl, hb⟩; obtain ⟨VA7, vn7, vc7, rfl, -⟩ := hb.form; have HB7 := Lh hb; clear hb; clear zHR_0 zHR_1 zHR_2 zHR_3 zHR_4 zHR_5 zHR_6 zHR_7; obtain ⟨zHR_0, zHR_1, zHR_2, zHR_3, zHR_4, zHR_5, zHR_6, zHR_7⟩ := (HR.out.at hp HB7.out.below).cs8 0 1 2 3 4 5 6 7; go_wp2_with fail; go_ret; exact ⟨_, rfl, HB7.out⟩
  ·
   have hob : (xop == 2) = false := by simp [hop]
   have HOP := Lh hop; obtain ⟨l1, hl1⟩ : ∃ x, x = itr (fun _ t l => pr n t l) ([] : List T) 0 l := ⟨_, rfl⟩
   have ql1 : l.length ≤ l1.length := by rw [hl1]; exact itrLe (fun _ _ _ => prLe _ _ _) _ _ _
   obtain ⟨l2, hl2⟩ : ∃ x, x = itr (fun _ t l => pr n t l ++ [32]) ([] : List T) 0 l1 := ⟨_, rfl⟩
   have ql2 : l1.length ≤ l2.length := by rw [hl2]; exact itrLe (fun _ t l => by have := prLe n t l; rw [List.length_append]; omega) _ _ _
   obtain ⟨l3, hl3⟩ : ∃ x, x = pr n xl l2 := ⟨_, rfl⟩
   have ql3 : l2.length ≤ l3.length := by rw [hl3]; exact prLe _ _ _
   obtain ⟨l4, hl4⟩ : ∃ x, x = l3 ++ [32] := ⟨_, rfl⟩
   have ql4 : l3.length + 1 ≤ l4.length := by rw [hl4, List.length_append]; exact Nat.le_refl _
   obtain ⟨l5, hl5⟩ : ∃ x, x = itr (fun j t l => pr n t (if j = 0 then l ++ [97, 115, 32] else l ++ [63, 47, 47, 32]) ++ [32]) xps 0 l4 := ⟨_, rfl⟩
   have ql5 : l4.length ≤ l5.length := by rw [hl5]; exact itrLe (fun j t l => by have h1 := prLe n t (l ++ [97, 115, 32]); have h2 := prLe n t (l ++ [63, 47, 47, 32]); rw [List.length_append] at h1 h2; split <;> (rw [List.length_append]; omega)) _ _ _
   obtain ⟨l6, hl6⟩ : ∃ x, x = l5 ++ opT xop := ⟨_, rfl⟩
   have ql6 : l5.length ≤ l6.length := by rw [hl6, List.length_append]; omega
   obtain ⟨l7, hl7⟩ : ∃ x, x = l6 ++ [32] := ⟨_, rfl⟩
   have ql7 : l6.length + 1 ≤ l7.length := by rw [hl7, List.length_append]; exact Nat.le_refl _
   obtain ⟨l8, hl8⟩ : ∃ x, x = pr n xr l7 := ⟨_, rfl⟩
   have ql8 : l7.length ≤ l8.length := by rw [hl8]; exact prLe _ _ _
   have hX : l' = l8 := by rw [hl]; rw [hl8, hl7, hl6, hl5, hl4, hl3, hl2, hl1, pr_q, prQ2 HOP.out]; rfl
   rw [hX] at hlen; have HQ := Lh (And.intro hlen (And.intro ql1 (And.intro ql2 (And.intro ql3 (And.intro ql4 (And.intro ql5 (And.intro ql6 (And.intro ql7 ql8)))))))); have HLl1 := Lh hl1; have HLl2 := Lh hl2; have HLl3 := Lh hl3; have HLl4 := Lh hl4; have HLl5 := Lh hl5; have HLl6 := Lh hl6; have HLl7 := Lh hl7; have HLl8 := Lh hl8; rw [hX]; clear hX hlen hl ql1 ql2 ql3 ql4 ql5 ql6 ql7 ql8 hl1 hl2 hl3 hl4 hl5 hl6 hl7 hl8; obtain ⟨zHR_0, zHR_1, zHR_2, zHR_3, zHR_4, zHR_5, zHR_6, zHR_7⟩ := (HR.out.at hp HB.out.below).cs8 0 1 2 3 4 5 6 7; go_enter Tryz.func6, Tryz.ntmps6; go_wp2_with fail; go_loopw [0, 31] (fun v t wr => ∃ (j : Nat) (c : L8), j ≤ N1 ∧ t = .int .i64 j ∧ BN B w0 c v wr ∧ l1 = itr (fun _ t l => pr n t l) (([] : List T).drop j) j c) (fun _ t _ => N1 - (intOf t).toNat)
   case atStart =>
    exact ⟨0, l, Nat.zero_le _, rfl, HB.out, HLl1.out⟩
   case round =>
    obtain ⟨j, c, hj, rfl, hb, hx⟩ := hrel; obtain ⟨Ac, nc, cc, rfl, -⟩ := hb.form; have HB100 := Lh hb; have HXC := Lh hx; clear hb hx
    by_cases hlt : j < N1
    ·
     obtain ⟨ab, ao, q, t, hA, hcl, hst, hat, hW⟩ := LS1.out.kid HB100.out.below hlt (fun _ t l => pr n t l) c; subst hA; have hc := hcl _ HB100.out.below; have HST := Lh hst; have HAT := Lh hat; clear hcl hst hat; obtain ⟨c1, hc1⟩ : ∃ x, x = pr n t c := ⟨_, rfl⟩
     have qc1 : c.length ≤ c1.length := by rw [hc1]; exact prLe _ _ _
     have hf9 : (fun _ t l => pr n t l) j t c = c1 := by rw [hc1]
     have hx8 : l1 = itr (fun _ t l => pr n t l) (([] : List T).drop (j + 1)) (j + 1) c1 := by rw [← hf9]; exact HXC.out.trans HST.out
     have q9 : c1.length ≤ l1.length := by rw [hx8]; exact itrLe (fun _ _ _ => prLe _ _ _) _ _ _
     have HXD := Lh hx8; have HQC := Lh ((And.intro qc1 q9)); have HLc1 := Lh hc1; clear hf9 hx8 q9 qc1 hc1; go_wp2_with fail; refine (IHM w0 _ B q _ c c1 t hW HAT.out HB100.out HE.out HLc1.out (by have := HQ.out; have := HQC.out; omega)).mono ?_; rintro e w101 ⟨v9, rfl, hb⟩; obtain ⟨VA101, vn101, vc101, rfl, -⟩ := hb.form; have HB101 := Lh hb; clear hb; go_wp2_with fail; exact ⟨⟨j + 1, c1, by omega, by go_num, HB101.out, HXD.out⟩, by simp [intOf]; omega⟩
    ·
     obtain rfl : N1 = j := by omega
     have hx9 : l1 = c := HXC.out.trans (LS1.out.fin _ c); have HB1 := Lh (show BN B w0 l1 (.slice Ac nc cc) _ from by rw [hx9]; exact HB100.out); clear hx9; obtain ⟨zHR_0, zHR_1, zHR_2, zHR_3, zHR_4, zHR_5, zHR_6, zHR_7⟩ := (HR.out.at hp HB1.out.below).cs8 0 1 2 3 4 5 6 7; go_wp2_with fail; go_loopw [0, 44] (fun v t wr => ∃ (j : Nat) (c : L8), j ≤ N2 ∧ t = .int .i64 j ∧ BN B w0 c v wr ∧ l2 = itr (fun _ t l => pr n t l ++ [32]) (([] : List T).drop j) j c) (fun _ t _ => N2 - (intOf t).toNat)
     case atStart =>
      exact ⟨0, l1, Nat.zero_le _, rfl, HB1.out, HLl2.out⟩
     case round =>
      obtain ⟨j, c, hj, rfl, hb, hx⟩ := hrel; obtain ⟨Ac, nc, cc, rfl, -⟩ := hb.form; have HB100 := Lh hb; have HXC := Lh hx; clear hb hx
      by_cases hlt : j < N2
      ·
       obtain ⟨ab, ao, q, t, hA, hcl, hst, hat, hW⟩ := LS2.out.kid HB100.out.below hlt (fun _ t l => pr n t l ++ [32]) c; subst hA; have hc := hcl _ HB100.out.below; have HST := Lh hst; have HAT := Lh hat; clear hcl hst hat; obtain ⟨c1, hc1⟩ : ∃ x, x = pr n t c := ⟨_, rfl⟩
       have qc1 : c.length ≤ c1.length := by rw [hc1]; exact prLe _ _ _
       obtain ⟨c2, hc2⟩ : ∃ x, x = c1 ++ [32] := ⟨_, rfl⟩
       have qc2 : c1.length + 1 ≤ c2.length := by rw [hc2, List.length_append]; exact Nat.le_refl _
       have hf9 : (fun _ t l => pr n t l ++ [32]) j t c = c2 := by rw [hc2, hc1]
       have hx8 : l2 = itr (fun _ t l => pr n t l ++ [32]) (([] : List T).drop (j + 1)) (j + 1) c2 := by rw [← hf9]; exact HXC.out.trans HST.out
       have q9 : c2.length ≤ l2.length := by rw [hx8]; exact itrLe (fun _ t l => by have := prLe n t l; rw [List.length_append]; omega) _ _ _
       have HXD := Lh hx8; have HQC := Lh ((And.intro qc1 (And.intro qc2 q9))); have HLc1 := Lh hc1; have HLc2 := Lh hc2; clear hf9 hx8 q9 qc1 qc2 hc1 hc2; go_wp2_with fail; refine (IHD w0 _ B q _ c c1 t hW HAT.out HB100.out HE.out HLc1.out (by have := HQ.out; have := HQC.out; omega)).mono ?_; rintro e w101 ⟨v9, rfl, hb⟩; obtain ⟨VA101, vn101, vc101, rfl, -⟩ := hb.form; have HB101 := Lh hb; clear hb; go_wp2_with (at_builtin; refine HB101.out.byt rfl _ _ rfl (by rfl) 32 _ rfl _ rfl rfl (by rfl) c2 HLc2.out (by have := HQ.out; have := HQC.out; omega) ?_); intro VA102 vn102 vc102 w102 hb; have HB102 := Lh hb; clear hb; go_wp2_with fail; exact ⟨⟨j + 1, c2, by omega, by go_num, HB102.out, HXD.out⟩, by simp [intOf]; omega⟩
      ·
       obtain rfl : N2 = j := by omega
       have hx9 : l2 = c := HXC.out.trans (LS2.out.fin _ c); have HB2 := Lh (show BN B w0 l2 (.slice Ac nc cc) _ from by rw [hx9]; exact HB100.out); clear hx9; obtain ⟨zHR_0, zHR_1, zHR_2, zHR_3, zHR_4, zHR_5, zHR_6, zHR_7⟩ := (HR.out.at hp HB2.out.below).cs8 0 1 2 3 4 5 6 7; go_wp2_with fail; refine (IHQ w0 _ B r4 _ l2 l3 xl h1 A4.out HB2.out HE.out HLl3.out (by have := HQ.out; omega)).mono ?_; rintro e w3 ⟨v9, rfl, hb⟩; obtain ⟨VA3, vn3, vc3, rfl, -⟩ := hb.form; have HB3 := Lh hb; clear hb; clear zHR_0 zHR_1 zHR_2 zHR_3 zHR_4 zHR_5 zHR_6 zHR_7; obtain ⟨zHR_0, zHR_1, zHR_2, zHR_3, zHR_4, zHR_5, zHR_6, zHR_7⟩ := (HR.out.at hp HB3.out.below).cs8 0 1 2 3 4 5 6 7; go_wp2_with (at_builtin; refine HB3.out.byt rfl _ _ rfl (by rfl) 32 _ rfl _ rfl rfl (by rfl) l4 HLl4.out (by have := HQ.out; omega) ?_); intro VA4 vn4 vc4 w4 hb; have HB4 := Lh hb; clear hb; clear zHR_0 zHR_1 zHR_2 zHR_3 zHR_4 zHR_5 zHR_6 zHR_7; obtain ⟨zHR_0, zHR_1, zHR_2, zHR_3, zHR_4, zHR_5, zHR_6, zHR_7⟩ := (HR.out.at hp HB4.out.below).cs8 0 1 2 3 4 5 6 7; go_wp2_with fail; go_loopw [0, 91] (fun v t wr => ∃ (j : Nat) (c : L8), j ≤ N6 ∧ t = .int .i64 j ∧ BN B w0 c v wr ∧ l5 = itr (fun j t l => pr n t (if j = 0 then l ++ [97, 115, 32] else l ++ [63, 47, 47, 32]) ++ [32]) (xps.drop j) j c) (fun _ t _ => N6 - (intOf t).toNat)
       case atStart =>
        exact ⟨0, l4, Nat.zero_le _, rfl, HB4.out, HLl5.out⟩
       case round =>
        obtain ⟨j, c, hj, rfl, hb, hx⟩ := hrel; obtain ⟨Ac, nc, cc, rfl, -⟩ := hb.form; have HB100 := Lh hb; have HXC := Lh hx; clear hb hx
        by_cases hlt : j < N6
        ·
         obtain ⟨ab, ao, q, t, hA, hcl, hst, hat, hW⟩ := LS6.out.kid HB100.out.below hlt (fun j t l => pr n t (if j = 0 then l ++ [97, 115, 32] else l ++ [63, 47, 47, 32]) ++ [32]) c; subst hA; have hc := hcl _ HB100.out.below; have HST := Lh hst; have HAT := Lh hat; clear hcl hst hat
         by_cases hj0 : j = 0
         ·
          have hjb : ((j : Int) == 0) = true := by simp [hj0]
          have HJ := Lh hj0; clear hj0; obtain ⟨c1, hc1⟩ : ∃ x, x = c ++ [97, 115, 32] := ⟨_, rfl⟩
          have qc1 : c.length + 3 ≤ c1.length := by rw [hc1, List.length_append]; exact Nat.le_refl _
          obtain ⟨c2, hc2⟩ : ∃ x, x = pr n t c1 := ⟨_, rfl⟩
          have qc2 : c1.length ≤ c2.length := by rw [hc2]; exact prLe _ _ _
          obtain ⟨c3, hc3⟩ : ∃ x, x = c2 ++ [32] := ⟨_, rfl⟩
          have qc3 : c2.length + 1 ≤ c3.length := by rw [hc3, List.length_append]; exact Nat.le_refl _
          have hf9 : (fun j t l => pr n t (if j = 0 then l ++ [97, 115, 32] else l ++ [63, 47, 47, 32]) ++ [32]) j t c = c3 := by rw [hc3, hc2, hc1]; show pr n t (if j = 0 then c ++ [97, 115, 32] else c ++ [63, 47, 47, 32]) ++ [32] = _; rw [if_pos HJ.out]
          have hx8 : l5 = itr (fun j t l => pr n t (if j = 0 then l ++ [97, 115, 32] else l ++ [63, 47, 47, 32]) ++ [32]) (xps.drop (j + 1)) (j + 1) c3 := by rw [← hf9]; exact HXC.out.trans HST.out
          have q9 : c3.length ≤ l5.length := by rw [hx8]; exact itrLe (fun j t l => by have h1 := prLe n t (l ++ [97, 115, 32]); have h2 := prLe n t (l ++ [63, 47, 47, 32]); rw [List.length_append] at h1 h2; split <;> (rw [List.length_append]; omega)) _ _ _
          have HXD := Lh hx8; have HQC := Lh ((And.intro qc1 (And.intro qc2 (And.intro qc3 q9)))); have HLc1 := Lh hc1; have HLc2 := Lh hc2; have HLc3 := Lh hc3; clear hf9 hx8 q9 qc1 qc2 qc3 hc1 hc2 hc3; go_wp2_with (at_builtin; refine HB100.out.str rfl _ _ rfl (by rfl) (⟨#[97, 115, 32]⟩ : ByteArray) (by rfl) c1 HLc1.out (by have := HQ.out; have := HQC.out; omega) ?_); intro VA101 vn101 vc101 w101 hb; have HB101 := Lh hb; clear hb; go_wp2_with fail; refine (IHP w0 _ B q _ c1 c2 t hW HAT.out HB101.out HE.out HLc2.out (by have := HQ.out; have := HQC.out; omega)).mono ?_; rintro e w102 ⟨v9, rfl, hb⟩; obtain ⟨VA102, vn102, vc102, rfl, -⟩ := hb.form; have HB102 := Lh hb; clear hb; go_wp2_with (at_builtin; refine HB102.out.byt rfl _ _ rfl (by rfl) 32 _ rfl _ rfl rfl (by rfl) c3 HLc3.out (by have := HQ.out; have := HQC.out; omega) ?_); intro VA103 vn103 vc103 w103 hb; have HB103 := Lh hb; clear hb; go_wp2_with fail; exact ⟨⟨j + 1, c3, by omega, by go_num, HB103.out, HXD.out⟩, by simp [intOf]; omega⟩
         ·
          have hjb : ((j : Int) == 0) = false := by simp; omega
          have HJ := Lh hj0; clear hj0; obtain ⟨c1, hc1⟩ : ∃ x, x = c ++ [63, 47, 47, 32] := ⟨_, rfl⟩
          have qc1 : c.length + 4 ≤ c1.length := by rw [hc1, List.length_append]; exact Nat.le_refl _
          obtain ⟨c2, hc2⟩ : ∃ x, x = pr n t c1 := ⟨_, rfl⟩
          have qc2 : c1.length ≤ c2.length := by rw [hc2]; exact prLe _ _ _
          obtain ⟨c3, hc3⟩ : ∃ x, x = c2 ++ [32] := ⟨_, rfl⟩
          have qc3 : c2.length + 1 ≤ c3.length := by rw [hc3, List.length_append]; exact Nat.le_refl _
          have hf9 : (fun j t l => pr n t (if j = 0 then l ++ [97, 115, 32] else l ++ [63, 47, 47, 32]) ++ [32]) j t c = c3 := by rw [hc3, hc2, hc1]; show pr n t (if j = 0 then c ++ [97, 115, 32] else c ++ [63, 47, 47, 32]) ++ [32] = _; rw [if_neg HJ.out]
          have hx8 : l5 = itr (fun j t l => pr n t (if j = 0 then l ++ [97, 115, 32] else l ++ [63, 47, 47, 32]) ++ [32]) (xps.drop (j + 1)) (j + 1) c3 := by rw [← hf9]; exact HXC.out.trans HST.out
          have q9 : c3.length ≤ l5.length := by rw [hx8]; exact itrLe (fun j t l => by have h1 := prLe n t (l ++ [97, 115, 32]); have h2 := prLe n t (l ++ [63, 47, 47, 32]); rw [List.length_append] at h1 h2; split <;> (rw [List.length_append]; omega)) _ _ _
          have HXD := Lh hx8; have HQC := Lh ((And.intro qc1 (And.intro qc2 (And.intro qc3 q9)))); have HLc1 := Lh hc1; have HLc2 := Lh hc2; have HLc3 := Lh hc3; clear hf9 hx8 q9 qc1 qc2 qc3 hc1 hc2 hc3; go_wp2_with (at_builtin; refine HB100.out.str rfl _ _ rfl (by rfl) (⟨#[63, 47, 47, 32]⟩ : ByteArray) (by rfl) c1 HLc1.out (by have := HQ.out; have := HQC.out; omega) ?_); intro VA101 vn101 vc101 w101 hb; have HB101 := Lh hb; clear hb; go_wp2_with fail; refine (IHP w0 _ B q _ c1 c2 t hW HAT.out HB101.out HE.out HLc2.out (by have := HQ.out; have := HQC.out; omega)).mono ?_; rintro e w102 ⟨v9, rfl, hb⟩; obtain ⟨VA102, vn102, vc102, rfl, -⟩ := hb.form; have HB102 := Lh hb; clear hb; go_wp2_with (at_builtin; refine HB102.out.byt rfl _ _ rfl (by rfl) 32 _ rfl _ rfl rfl (by rfl) c3 HLc3.out (by have := HQ.out; have := HQC.out; omega) ?_); intro VA103 vn103 vc103 w103 hb; have HB103 := Lh hb; clear hb; go_wp2_with fail; exact ⟨⟨j + 1, c3, by omega, by go_num, HB103.out, HXD.out⟩, by simp [intOf]; omega⟩
        ·
         obtain rfl : N6 = j := by omega
         have hx9 : l5 = c := HXC.out.trans (LS6.out.fin _ c); have HB5 := Lh (show BN B w0 l5 (.slice Ac nc cc) _ from by rw [hx9]; exact HB100.out); clear hx9; obtain ⟨zHR_0, zHR_1, zHR_2, zHR_3, zHR_4, zHR_5, zHR_6, zHR_7⟩ := (HR.out.at hp HB5.out.below).cs8 0 1 2 3 4 5 6 7; go_wp2_with fail; refine (rOpC xop _ h4 h5 (HE.out.at HB5.out.below).spc).mono ?_; rintro e w9 ⟨rfl, hb9⟩; have HK := Lh (HB5.out.keep hb9); clear hb9; go_wp2_with (at_builtin; refine HK.out.str rfl _ _ rfl (by rfl) ⟨(opT xop).toArray⟩ (by rfl) l6 HLl6.out (by have := HQ.out; omega) ?_); intro VA6 vn6 vc6 w6 hb; have HB6 := Lh hb; clear hb; clear zHR_0 zHR_1 zHR_2 zHR_3 zHR_4 zHR_5 zHR_6 zHR_7; obtain ⟨zHR_0, zHR_1, zHR_2, zHR_3, zHR_4, zHR_5, zHR_6, zHR_7⟩ := (HR.out.at hp HB6.out.below).cs8 0 1 2 3 4 5 6 7; go_wp2_with (at_builtin; refine HB6.out.byt rfl _ _ rfl (by rfl) 32 _ rfl _ rfl rfl (by rfl) l7 HLl7.out (by have := HQ.out; omega) ?_); intro VA7 vn7 vc7 w7 hb; have HB7 := Lh hb; clear hb; clear zHR_0 zHR_1 zHR_2 zHR_3 zHR_4 zHR_5 zHR_6 zHR_7; obtain ⟨zHR_0, zHR_1, zHR_2, zHR_3, zHR_4, zHR_5, zHR_6, zHR_7⟩ := (HR.out.at hp HB7.out.below).cs8 0 1 2 3 4 5 6 7; go_wp2_with fail; refine (IHQ w0 _ B r5 _ l7 l8 xr h2 A5.out HB7.out HE.out HLl8.out (by have := HQ.out; omega)).mono ?_; rintro e w8 ⟨v9, rfl, hb⟩; obtain ⟨VA8, vn8, vc8, rfl, -⟩ := hb.form; have HB8 := Lh hb; clear hb; clear zHR_0 zHR_1 zHR_2 zHR_3 zHR_4 zHR_5 zHR_6 zHR_7; obtain ⟨zHR_0, zHR_1, zHR_2, zHR_3, zHR_4, zHR_5, zHR_6, zHR_7⟩ := (HR.out.at hp HB8.out.below).cs8 0 1 2 3 4 5 6 7; go_wp2_with fail; go_ret; exact ⟨_, rfl, HB8.out⟩
set_option maxRecDepth 100000 in
set_option maxHeartbeats 8000000 in
theorem rSX (n : Nat) (IHS : RC 26 .st n) (IHQ : RC 6 .q n) : RSC 63 n := by
 intro w0 w B p v l l' t hw ha hb he hl hlen; obtain ⟨A0, n0, c0, rfl, -⟩ := hb.form; have HB := Lh hb; have HE := Lh he; clear hb he
 cases hw with
 | ix xna xstr xst xen xsl h0 h1 h2 h3 =>
  obtain ⟨hp, v1, v2, v3, hr, f1, f2, f3⟩ := inv_ix ha; clear ha
  by_cases hk : xna.size = 0
  ·
   obtain rfl := isE hk; clear hk; rcases FV.pt f1 with ⟨rfl, rfl⟩ | ⟨y1, r1, rfl, rfl, a1⟩
   ·
    clear f1
    cases xsl
    case false =>
     rcases FV.pt f2 with ⟨rfl, rfl⟩ | ⟨y2, r2, rfl, rfl, a2⟩
     ·
      exact absurd (h0 rfl rfl rfl) (by simp)
     ·
      have HA2 := Lh a2; clear a2 f3 f2; have HR := Lh hr; clear hr; obtain ⟨l1, hl1⟩ : ∃ x, x = l ++ [91] := ⟨_, rfl⟩
      have ql1 : l.length + 1 ≤ l1.length := by rw [hl1, List.length_append]; exact Nat.le_refl _
      obtain ⟨l2, hl2⟩ : ∃ x, x = pr n y2 l1 := ⟨_, rfl⟩
      have ql2 : l1.length ≤ l2.length := by rw [hl2]; exact prLe _ _ _
      obtain ⟨l3, hl3⟩ : ∃ x, x = l2 ++ [93] := ⟨_, rfl⟩
      have ql3 : l2.length + 1 ≤ l3.length := by rw [hl3, List.length_append]; exact Nat.le_refl _
      have hX : l' = l3 := by rw [hl]; rw [hl3, hl2, hl1]; rfl
      rw [hX] at hlen; have HQ := Lh (And.intro hlen (And.intro ql1 (And.intro ql2 ql3))); have HLl1 := Lh hl1; have HLl2 := Lh hl2; have HLl3 := Lh hl3; rw [hX]; clear hX hlen hl ql1 ql2 ql3 hl1 hl2 hl3; obtain ⟨zHR_0, zHR_1, zHR_2, zHR_3, zHR_4⟩ := (HR.out.at hp HB.out.below).cs5 0 1 2 3 4; go_enter Tryz.func63, Tryz.ntmps63; go_wp2_with (at_builtin; refine HB.out.byt rfl _ _ rfl (by rfl) 91 _ rfl _ rfl rfl (by rfl) l1 HLl1.out (by have := HQ.out; omega) ?_); intro VA1 vn1 vc1 w1 hb; have HB1 := Lh hb; clear hb; clear zHR_0 zHR_1 zHR_2 zHR_3 zHR_4; obtain ⟨zHR_0, zHR_1, zHR_2, zHR_3, zHR_4⟩ := (HR.out.at hp HB1.out.below).cs5 0 1 2 3 4; go_wp2_with fail; refine (IHQ w0 _ B r2 _ l1 l2 y2 (h2 _ rfl) HA2.out HB1.out HE.out HLl2.out (by have := HQ.out; omega)).mono ?_; rintro e w2 ⟨v9, rfl, hb⟩; obtain ⟨VA2, vn2, vc2, rfl, -⟩ := hb.form; have HB2 := Lh hb; clear hb; clear zHR_0 zHR_1 zHR_2 zHR_3 zHR_4; obtain ⟨zHR_0, zHR_1, zHR_2, zHR_3, zHR_4⟩ := (HR.out.at hp HB2.out.below).cs5 0 1 2 3 4; go_wp2_with (at_builtin; refine HB2.out.byt rfl _ _ rfl (by rfl) 93 _ rfl _ rfl rfl (by rfl) l3 HLl3.out (by have := HQ.out; omega) ?_); intro VA3 vn3 vc3 w3 hb; have HB3 := Lh hb; clear hb
      clear zHR_0 zHR_1 zHR_2 zHR_3 zHR_4; obtain ⟨zHR_0, zHR_1, zHR_2, zHR_3, zHR_4⟩ := (HR.out.at hp HB3.out.below).cs5 0 1 2 3 4; go_wp2_with fail; go_ret; exact ⟨_, rfl, HB3.out⟩
    case true =>
     rcases FV.pt f2 with ⟨rfl, rfl⟩ | ⟨y2, r2, rfl, rfl, a2⟩
     ·
      rcases FV.pt f3 with ⟨rfl, rfl⟩ | ⟨y3, r3, rfl, rfl, a3⟩
      ·
       have HR := Lh hr; clear hr f2 f3; obtain ⟨l1, hl1⟩ : ∃ x, x = l ++ [91] := ⟨_, rfl⟩
       have ql1 : l.length + 1 ≤ l1.length := by rw [hl1, List.length_append]; exact Nat.le_refl _
       obtain ⟨l2, hl2⟩ : ∃ x, x = l1 ++ [58] := ⟨_, rfl⟩
       have ql2 : l1.length + 1 ≤ l2.length := by rw [hl2, List.length_append]; exact Nat.le_refl _
       obtain ⟨l3, hl3⟩ : ∃ x, x = l2 ++ [93] := ⟨_, rfl⟩
       have ql3 : l2.length + 1 ≤ l3.length := by rw [hl3, List.length_append]; exact Nat.le_refl _
       have hX : l' = l3 := by rw [hl]; rw [hl3, hl2, hl1]; rfl
       rw [hX] at hlen; have HQ := Lh (And.intro hlen (And.intro ql1 (And.intro ql2 ql3))); have HLl1 := Lh hl1; have HLl2 := Lh hl2; have HLl3 := Lh hl3; rw [hX]; clear hX hlen hl ql1 ql2 ql3 hl1 hl2 hl3; obtain ⟨zHR_0, zHR_1, zHR_2, zHR_3, zHR_4⟩ := (HR.out.at hp HB.out.below).cs5 0 1 2 3 4; go_enter Tryz.func63, Tryz.ntmps63; go_wp2_with (at_builtin; refine HB.out.byt rfl _ _ rfl (by rfl) 91 _ rfl _ rfl rfl (by rfl) l1 HLl1.out (by have := HQ.out; omega) ?_); intro VA1 vn1 vc1 w1 hb; have HB1 := Lh hb; clear hb; clear zHR_0 zHR_1 zHR_2 zHR_3 zHR_4; obtain ⟨zHR_0, zHR_1, zHR_2, zHR_3, zHR_4⟩ := (HR.out.at hp HB1.out.below).cs5 0 1 2 3 4; go_wp2_with (at_builtin; refine HB1.out.byt rfl _ _ rfl (by rfl) 58 _ rfl _ rfl rfl (by rfl) l2 HLl2.out (by have := HQ.out; omega) ?_); intro VA2 vn2 vc2 w2 hb; have HB2 := Lh hb; clear hb; clear zHR_0 zHR_1 zHR_2 zHR_3 zHR_4; obtain ⟨zHR_0, zHR_1, zHR_2, zHR_3, zHR_4⟩ := (HR.out.at hp HB2.out.below).cs5 0 1 2 3 4; go_wp2_with (at_builtin; refine HB2.out.byt rfl _ _ rfl (by rfl) 93 _ rfl _ rfl rfl (by rfl) l3 HLl3.out (by have := HQ.out; omega) ?_); intro VA3 vn3 vc3 w3 hb; have HB3 := Lh hb; clear hb; clear zHR_0 zHR_1 zHR_2 zHR_3 zHR_4; obtain ⟨zHR_0, zHR_1, zHR_2, zHR_3, zHR_4⟩ := (HR.out.at hp HB3.out.below).cs5 0 1 2 3 4; go_wp2_with fail; go_ret; exact ⟨_, rfl, HB3.out⟩
      ·
       have HA3 := Lh a3; clear a3; have HR := Lh hr; clear hr f2 f3; obtain ⟨l1, hl1⟩ : ∃ x, x = l ++ [91] := ⟨_, rfl⟩
       have ql1 : l.length + 1 ≤ l1.length := by rw [hl1, List.length_append]; exact Nat.le_refl _
       obtain ⟨l2, hl2⟩ : ∃ x, x = l1 ++ [58] := ⟨_, rfl⟩
       have ql2 : l1.length + 1 ≤ l2.length := by rw [hl2, List.length_append]; exact Nat.le_refl _
       obtain ⟨l3, hl3⟩ : ∃ x, x = pr n y3 l2 := ⟨_, rfl⟩
       have ql3 : l2.length ≤ l3.length := by rw [hl3]; exact prLe _ _ _
       obtain ⟨l4, hl4⟩ : ∃ x, x = l3 ++ [93] := ⟨_, rfl⟩
       have ql4 : l3.length + 1 ≤ l4.length := by rw [hl4, List.length_append]; exact Nat.le_refl _
       have hX : l' = l4 := by rw [hl]; rw [hl4, hl3, hl2, hl1]; rfl
       rw [hX] at hlen; have HQ := Lh (And.intro hlen (And.intro ql1 (And.intro ql2 (And.intro ql3 ql4)))); have HLl1 := Lh hl1; have HLl2 := Lh hl2; have HLl3 := Lh hl3; have HLl4 := Lh hl4; rw [hX]; clear hX hlen hl ql1 ql2 ql3 ql4 hl1 hl2 hl3 hl4; obtain ⟨zHR_0, zHR_1, zHR_2, zHR_3, zHR_4⟩ := (HR.out.at hp HB.out.below).cs5 0 1 2 3 4; go_enter Tryz.func63, Tryz.ntmps63; go_wp2_with (at_builtin; refine HB.out.byt rfl _ _ rfl (by rfl) 91 _ rfl _ rfl rfl (by rfl) l1 HLl1.out (by have := HQ.out; omega) ?_); intro VA1 vn1 vc1 w1 hb; have HB1 := Lh hb; clear hb; clear zHR_0 zHR_1 zHR_2 zHR_3 zHR_4; obtain ⟨zHR_0, zHR_1, zHR_2, zHR_3, zHR_4⟩ := (HR.out.at hp HB1.out.below).cs5 0 1 2 3 4; go_wp2_with (at_builtin; refine HB1.out.byt rfl _ _ rfl (by rfl) 58 _ rfl _ rfl rfl (by rfl) l2 HLl2.out (by have := HQ.out; omega) ?_); intro VA2 vn2 vc2 w2 hb; have HB2 := Lh hb; clear hb; clear zHR_0 zHR_1 zHR_2 zHR_3 zHR_4; obtain ⟨zHR_0, zHR_1, zHR_2, zHR_3, zHR_4⟩ := (HR.out.at hp HB2.out.below).cs5 0 1 2 3 4; go_wp2_with fail; refine (IHQ w0 _ B r3 _ l2 l3 y3 (h3 _ rfl) HA3.out HB2.out HE.out HLl3.out (by have := HQ.out; omega)).mono ?_; rintro e w3 ⟨v9, rfl, hb⟩; obtain ⟨VA3, vn3, vc3, rfl, -⟩ := hb.form
       have HB3 := Lh hb; clear hb; clear zHR_0 zHR_1 zHR_2 zHR_3 zHR_4; obtain ⟨zHR_0, zHR_1, zHR_2, zHR_3, zHR_4⟩ := (HR.out.at hp HB3.out.below).cs5 0 1 2 3 4; go_wp2_with (at_builtin; refine HB3.out.byt rfl _ _ rfl (by rfl) 93 _ rfl _ rfl rfl (by rfl) l4 HLl4.out (by have := HQ.out; omega) ?_); intro VA4 vn4 vc4 w4 hb; have HB4 := Lh hb; clear hb; clear zHR_0 zHR_1 zHR_2 zHR_3 zHR_4; obtain ⟨zHR_0, zHR_1, zHR_2, zHR_3, zHR_4⟩ := (HR.out.at hp HB4.out.below).cs5 0 1 2 3 4; go_wp2_with fail; go_ret; exact ⟨_, rfl, HB4.out⟩
     ·
      have HA2 := Lh a2; clear a2; rcases FV.pt f3 with ⟨rfl, rfl⟩ | ⟨y3, r3, rfl, rfl, a3⟩
      ·
       have HR := Lh hr; clear hr f2 f3; obtain ⟨l1, hl1⟩ : ∃ x, x = l ++ [91] := ⟨_, rfl⟩
       have ql1 : l.length + 1 ≤ l1.length := by rw [hl1, List.length_append]; exact Nat.le_refl _
       obtain ⟨l2, hl2⟩ : ∃ x, x = pr n y2 l1 := ⟨_, rfl⟩
       have ql2 : l1.length ≤ l2.length := by rw [hl2]; exact prLe _ _ _
       obtain ⟨l3, hl3⟩ : ∃ x, x = l2 ++ [58] := ⟨_, rfl⟩
       have ql3 : l2.length + 1 ≤ l3.length := by rw [hl3, List.length_append]; exact Nat.le_refl _
       obtain ⟨l4, hl4⟩ : ∃ x, x = l3 ++ [93] := ⟨_, rfl⟩
       have ql4 : l3.length + 1 ≤ l4.length := by rw [hl4, List.length_append]; exact Nat.le_refl _
       have hX : l' = l4 := by rw [hl]; rw [hl4, hl3, hl2, hl1]; rfl
       rw [hX] at hlen; have HQ := Lh (And.intro hlen (And.intro ql1 (And.intro ql2 (And.intro ql3 ql4)))); have HLl1 := Lh hl1; have HLl2 := Lh hl2; have HLl3 := Lh hl3; have HLl4 := Lh hl4; rw [hX]; clear hX hlen hl ql1 ql2 ql3 ql4 hl1 hl2 hl3 hl4; obtain ⟨zHR_0, zHR_1, zHR_2, zHR_3, zHR_4⟩ := (HR.out.at hp HB.out.below).cs5 0 1 2 3 4; go_enter Tryz.func63, Tryz.ntmps63; go_wp2_with (at_builtin; refine HB.out.byt rfl _ _ rfl (by rfl) 91 _ rfl _ rfl rfl (by rfl) l1 HLl1.out (by have := HQ.out; omega) ?_); intro VA1 vn1 vc1 w1 hb; have HB1 := Lh hb; clear hb; clear zHR_0 zHR_1 zHR_2 zHR_3 zHR_4; obtain ⟨zHR_0, zHR_1, zHR_2, zHR_3, zHR_4⟩ := (HR.out.at hp HB1.out.below).cs5 0 1 2 3 4; go_wp2_with fail; refine (IHQ w0 _ B r2 _ l1 l2 y2 (h2 _ rfl) HA2.out HB1.out HE.out HLl2.out (by have := HQ.out; omega)).mono ?_; rintro e w2 ⟨v9, rfl, hb⟩; obtain ⟨VA2, vn2, vc2, rfl, -⟩ := hb.form; have HB2 := Lh hb; clear hb; clear zHR_0 zHR_1 zHR_2 zHR_3 zHR_4; obtain ⟨zHR_0, zHR_1, zHR_2, zHR_3, zHR_4⟩ := (HR.out.at hp HB2.out.below).cs5 0 1 2 3 4; go_wp2_with (at_builtin; refine HB2.out.byt rfl _ _ rfl (by rfl) 58 _ rfl _ rfl rfl (by rfl) l3 HLl3.out (by have := HQ.out; omega) ?_); intro VA3 vn3 vc3 w3 hb
       have HB3 := Lh hb; clear hb; clear zHR_0 zHR_1 zHR_2 zHR_3 zHR_4; obtain ⟨zHR_0, zHR_1, zHR_2, zHR_3, zHR_4⟩ := (HR.out.at hp HB3.out.below).cs5 0 1 2 3 4; go_wp2_with (at_builtin; refine HB3.out.byt rfl _ _ rfl (by rfl) 93 _ rfl _ rfl rfl (by rfl) l4 HLl4.out (by have := HQ.out; omega) ?_); intro VA4 vn4 vc4 w4 hb; have HB4 := Lh hb; clear hb; clear zHR_0 zHR_1 zHR_2 zHR_3 zHR_4; obtain ⟨zHR_0, zHR_1, zHR_2, zHR_3, zHR_4⟩ := (HR.out.at hp HB4.out.below).cs5 0 1 2 3 4; go_wp2_with fail; go_ret; exact ⟨_, rfl, HB4.out⟩
      ·
       have HA3 := Lh a3; clear a3; have HR := Lh hr; clear hr f2 f3; obtain ⟨l1, hl1⟩ : ∃ x, x = l ++ [91] := ⟨_, rfl⟩
       have ql1 : l.length + 1 ≤ l1.length := by rw [hl1, List.length_append]; exact Nat.le_refl _
       obtain ⟨l2, hl2⟩ : ∃ x, x = pr n y2 l1 := ⟨_, rfl⟩
       have ql2 : l1.length ≤ l2.length := by rw [hl2]; exact prLe _ _ _
       obtain ⟨l3, hl3⟩ : ∃ x, x = l2 ++ [58] := ⟨_, rfl⟩
       have ql3 : l2.length + 1 ≤ l3.length := by rw [hl3, List.length_append]; exact Nat.le_refl _
       obtain ⟨l4, hl4⟩ : ∃ x, x = pr n y3 l3 := ⟨_, rfl⟩
       have ql4 : l3.length ≤ l4.length := by rw [hl4]; exact prLe _ _ _
       obtain ⟨l5, hl5⟩ : ∃ x, x = l4 ++ [93] := ⟨_, rfl⟩
       have ql5 : l4.length + 1 ≤ l5.length := by rw [hl5, List.length_append]; exact Nat.le_refl _
       have hX : l' = l5 := by rw [hl]; rw [hl5, hl4, hl3, hl2, hl1]; rfl
       rw [hX] at hlen; have HQ := Lh (And.intro hlen (And.intro ql1 (And.intro ql2 (And.intro ql3 (And.intro ql4 ql5))))); have HLl1 := Lh hl1; have HLl2 := Lh hl2; have HLl3 := Lh hl3; have HLl4 := Lh hl4; have HLl5 := Lh hl5; rw [hX]; clear hX hlen hl ql1 ql2 ql3 ql4 ql5 hl1 hl2 hl3 hl4 hl5; obtain ⟨zHR_0, zHR_1, zHR_2, zHR_3, zHR_4⟩ := (HR.out.at hp HB.out.below).cs5 0 1 2 3 4; go_enter Tryz.func63, Tryz.ntmps63; go_wp2_with (at_builtin; refine HB.out.byt rfl _ _ rfl (by rfl) 91 _ rfl _ rfl rfl (by rfl) l1 HLl1.out (by have := HQ.out; omega) ?_); intro VA1 vn1 vc1 w1 hb; have HB1 := Lh hb; clear hb; clear zHR_0 zHR_1 zHR_2 zHR_3 zHR_4; obtain ⟨zHR_0, zHR_1, zHR_2, zHR_3, zHR_4⟩ := (HR.out.at hp HB1.out.below).cs5 0 1 2 3 4; go_wp2_with fail; refine (IHQ w0 _ B r2 _ l1 l2 y2 (h2 _ rfl) HA2.out HB1.out HE.out HLl2.out (by have := HQ.out; omega)).mono ?_; rintro e w2 ⟨v9, rfl, hb⟩; obtain ⟨VA2, vn2, vc2, rfl, -⟩ := hb.form; have HB2 := Lh hb; clear hb; clear zHR_0 zHR_1 zHR_2 zHR_3 zHR_4; obtain ⟨zHR_0, zHR_1, zHR_2, zHR_3, zHR_4⟩ := (HR.out.at hp HB2.out.below).cs5 0 1 2 3 4; go_wp2_with (at_builtin; refine HB2.out.byt rfl _ _ rfl (by rfl) 58 _ rfl _ rfl rfl (by rfl) l3 HLl3.out (by have := HQ.out; omega) ?_)
       intro VA3 vn3 vc3 w3 hb; have HB3 := Lh hb; clear hb; clear zHR_0 zHR_1 zHR_2 zHR_3 zHR_4; obtain ⟨zHR_0, zHR_1, zHR_2, zHR_3, zHR_4⟩ := (HR.out.at hp HB3.out.below).cs5 0 1 2 3 4; go_wp2_with fail; refine (IHQ w0 _ B r3 _ l3 l4 y3 (h3 _ rfl) HA3.out HB3.out HE.out HLl4.out (by have := HQ.out; omega)).mono ?_; rintro e w4 ⟨v9, rfl, hb⟩; obtain ⟨VA4, vn4, vc4, rfl, -⟩ := hb.form; have HB4 := Lh hb; clear hb; clear zHR_0 zHR_1 zHR_2 zHR_3 zHR_4; obtain ⟨zHR_0, zHR_1, zHR_2, zHR_3, zHR_4⟩ := (HR.out.at hp HB4.out.below).cs5 0 1 2 3 4; go_wp2_with (at_builtin; refine HB4.out.byt rfl _ _ rfl (by rfl) 93 _ rfl _ rfl rfl (by rfl) l5 HLl5.out (by have := HQ.out; omega) ?_); intro VA5 vn5 vc5 w5 hb; have HB5 := Lh hb; clear hb; clear zHR_0 zHR_1 zHR_2 zHR_3 zHR_4; obtain ⟨zHR_0, zHR_1, zHR_2, zHR_3, zHR_4⟩ := (HR.out.at hp HB5.out.below).cs5 0 1 2 3 4; go_wp2_with fail; go_ret; exact ⟨_, rfl, HB5.out⟩
   ·
    have HA1 := Lh a1; clear a1; have HR := Lh hr; clear hr f1 f2 f3; obtain ⟨l1, hl1⟩ : ∃ x, x = pr n y1 l := ⟨_, rfl⟩
    have ql1 : l.length ≤ l1.length := by rw [hl1]; exact prLe _ _ _
    have hX : l' = l1 := by rw [hl]; rw [hl1]; rfl
    rw [hX] at hlen; have HQ := Lh (And.intro hlen ql1); have HLl1 := Lh hl1; rw [hX]; clear hX hlen hl ql1 hl1; obtain ⟨zHR_0, zHR_1, zHR_2, zHR_3, zHR_4⟩ := (HR.out.at hp HB.out.below).cs5 0 1 2 3 4; go_enter Tryz.func63, Tryz.ntmps63; go_wp2_with fail; refine (IHS w0 _ B r1 _ l l1 y1 (h1 _ rfl) HA1.out HB.out HE.out HLl1.out (by have := HQ.out; omega)).mono ?_; rintro e w1 ⟨v9, rfl, hb⟩; obtain ⟨VA1, vn1, vc1, rfl, -⟩ := hb.form; have HB1 := Lh hb; clear hb; clear zHR_0 zHR_1 zHR_2 zHR_3 zHR_4; obtain ⟨zHR_0, zHR_1, zHR_2, zHR_3, zHR_4⟩ := (HR.out.at hp HB1.out.below).cs5 0 1 2 3 4; go_wp2_with fail; go_ret; exact ⟨_, rfl, HB1.out⟩
  ·
   have hE := isE1 hk; have HK := Lh hk; clear hk f1 f2 f3; have HR := Lh hr; clear hr; obtain ⟨l1, hl1⟩ : ∃ x, x = l ++ xna.data.toList := ⟨_, rfl⟩
   have ql1 : l.length ≤ l1.length := by rw [hl1, List.length_append]; omega
   have hX : l' = l1 := by rw [hl]; rw [hl1]; exact sfx_na HK.out
   rw [hX] at hlen; have HQ := Lh (And.intro hlen ql1); have HLl1 := Lh hl1; rw [hX]; clear hX hlen hl ql1 hl1; obtain ⟨zHR_0, zHR_1, zHR_2, zHR_3, zHR_4⟩ := (HR.out.at hp HB.out.below).cs5 0 1 2 3 4; go_enter Tryz.func63, Tryz.ntmps63; go_wp2_with (at_builtin; refine HB.out.str rfl _ _ rfl (by rfl) xna (by rfl) l1 HLl1.out (by have := HQ.out; omega) ?_); intro VA1 vn1 vc1 w1 hb; have HB1 := Lh hb; clear hb; clear zHR_0 zHR_1 zHR_2 zHR_3 zHR_4; obtain ⟨zHR_0, zHR_1, zHR_2, zHR_3, zHR_4⟩ := (HR.out.at hp HB1.out.below).cs5 0 1 2 3 4; go_wp2_with fail; go_ret; exact ⟨_, rfl, HB1.out⟩
set_option maxRecDepth 100000 in
set_option maxHeartbeats 8000000 in
theorem rIX (n : Nat) (IHS : RSC 63 n) : RC 24 .ix (n + 1) := by
 intro w0 w B p v l l' t hw ha hb he hl hlen; obtain ⟨A0, n0, c0, rfl, -⟩ := hb.form; have HB := Lh hb; have HE := Lh he; clear hb he
 have hlx : l' = sx n t (dotted l) := by cases hw with | ix a b c d e f => exact hl
 clear hl; have HA := Lh ha; clear ha
 by_cases h0 : l = []
 ·
  have hn0 : n0 = 0 := by rw [HB.out.n, h0]; rfl
  have HD := Lh (show tailC l = false from by rw [h0]; rfl); subst hn0; clear h0; obtain ⟨l1, hl1⟩ : ∃ x, x = l ++ [46] := ⟨_, rfl⟩
  have ql1 : l.length + 1 ≤ l1.length := by rw [hl1, List.length_append]; exact Nat.le_refl _
  obtain ⟨l2, hl2⟩ : ∃ x, x = sx n t (l1) := ⟨_, rfl⟩
  have ql2 : l1.length ≤ l2.length := by rw [hl2]; exact sx_le _ _ _
  have hX : l' = l2 := by rw [hlx, hl2, hl1]; rw [show dotted l = l ++ [46] from by unfold dotted; rw [HD.out]; rfl]
  rw [hX] at hlen; have HQ := Lh (And.intro hlen (And.intro ql1 ql2)); have HLl1 := Lh hl1; have HLl2 := Lh hl2; rw [hX]; clear hX hlen hlx ql1 ql2 hl1 hl2; go_enter Tryz.func24, Tryz.ntmps24; go_wp2_with (at_builtin; refine HB.out.byt rfl _ _ rfl (by rfl) 46 _ rfl _ rfl rfl (by rfl) l1 HLl1.out (by have := HQ.out; omega) ?_); intro VA1 vn1 vc1 w1 hb; have HB1 := Lh hb; clear hb; go_wp2_with fail; refine (IHS w0 _ B p _ l1 l2 t hw HA.out HB1.out HE.out HLl2.out (by have := HQ.out; omega)).mono ?_; rintro e w7 ⟨v9, rfl, hb⟩; obtain ⟨A7, n7, c7, rfl, -⟩ := hb.form; have HB7 := Lh hb; clear hb; go_wp2_with fail; go_ret; exact ⟨_, rfl, HB7.out⟩
 ·
  have hpos : 0 < l.length := List.length_pos_iff.2 h0; obtain ⟨c, hc, hlast⟩ := last_byte hpos; obtain ⟨ab, ao, k, rfl, hnk, hlk, hcell⟩ := HB.out.last hlast; subst hnk
  have hkb : k ≤ 1099511627776 := by have h7 := sx_le n t (dotted l); rw [← hlx] at h7; have h8 : l.length ≤ (dotted l).length := by unfold dotted; split <;> simp <;> omega
                                     omega
  clear hpos hc hlk; rcases tail_cases hlast with ⟨hsp, hcase⟩ | ⟨hsp, hcase⟩
  ·
   have HD := Lh hsp; clear hlast hsp; rcases hcase with rfl | ⟨z1, z2, z3⟩
   ·
    obtain ⟨l1, hl1⟩ : ∃ x, x = l ++ [32] := ⟨_, rfl⟩
    have ql1 : l.length + 1 ≤ l1.length := by rw [hl1, List.length_append]; exact Nat.le_refl _
    obtain ⟨l2, hl2⟩ : ∃ x, x = l1 ++ [46] := ⟨_, rfl⟩
    have ql2 : l1.length + 1 ≤ l2.length := by rw [hl2, List.length_append]; exact Nat.le_refl _
    obtain ⟨l3, hl3⟩ : ∃ x, x = sx n t (l2) := ⟨_, rfl⟩
    have ql3 : l2.length ≤ l3.length := by rw [hl3]; exact sx_le _ _ _
    have hX : l' = l3 := by rw [hlx, hl3, hl2, hl1]; rw [show dotted l = l ++ [32] ++ [46] from by unfold dotted; rw [HD.out]; rfl]
    rw [hX] at hlen; have HQ := Lh (And.intro hlen (And.intro ql1 (And.intro ql2 ql3))); have HLl1 := Lh hl1; have HLl2 := Lh hl2; have HLl3 := Lh hl3; rw [hX]; clear hX hlen hlx ql1 ql2 ql3 hl1 hl2 hl3; go_enter Tryz.func24, Tryz.ntmps24; go_wp2_with (at_builtin; refine HB.out.byt rfl _ _ rfl (by rfl) 32 _ rfl _ rfl rfl (by rfl) l1 HLl1.out (by have := HQ.out; omega) ?_); intro VA1 vn1 vc1 w1 hb; have HB1 := Lh hb; clear hb; go_wp2_with (at_builtin; refine HB1.out.byt rfl _ _ rfl (by rfl) 46 _ rfl _ rfl rfl (by rfl) l2 HLl2.out (by have := HQ.out; omega) ?_); intro VA2 vn2 vc2 w2 hb; have HB2 := Lh hb; clear hb; go_wp2_with fail; refine (IHS w0 _ B p _ l2 l3 t hw HA.out HB2.out HE.out HLl3.out (by have := HQ.out; omega)).mono ?_; rintro e w7 ⟨v9, rfl, hb⟩; obtain ⟨A7, n7, c7, rfl, -⟩ := hb.form; have HB7 := Lh hb; clear hb; go_wp2_with fail; go_ret; exact ⟨_, rfl, HB7.out⟩
   ·
    obtain ⟨l1, hl1⟩ : ∃ x, x = l ++ [32] := ⟨_, rfl⟩
    have ql1 : l.length + 1 ≤ l1.length := by rw [hl1, List.length_append]; exact Nat.le_refl _
    obtain ⟨l2, hl2⟩ : ∃ x, x = l1 ++ [46] := ⟨_, rfl⟩
    have ql2 : l1.length + 1 ≤ l2.length := by rw [hl2, List.length_append]; exact Nat.le_refl _
    obtain ⟨l3, hl3⟩ : ∃ x, x = sx n t (l2) := ⟨_, rfl⟩
    have ql3 : l2.length ≤ l3.length := by rw [hl3]; exact sx_le _ _ _
    have hX : l' = l3 := by rw [hlx, hl3, hl2, hl1]; rw [show dotted l = l ++ [32] ++ [46] from by unfold dotted; rw [HD.out]; rfl]
    rw [hX] at hlen; have HQ := Lh (And.intro hlen (And.intro ql1 (And.intro ql2 ql3))); have HLl1 := Lh hl1; have HLl2 := Lh hl2; have HLl3 := Lh hl3; rw [hX]; clear hX hlen hlx ql1 ql2 ql3 hl1 hl2 hl3; go_enter Tryz.func24, Tryz.ntmps24; go_wp2_with (at_builtin; refine HB.out.byt rfl _ _ rfl (by rfl) 32 _ rfl _ rfl rfl (by rfl) l1 HLl1.out (by have := HQ.out; omega) ?_); intro VA1 vn1 vc1 w1 hb; have HB1 := Lh hb; clear hb; go_wp2_with (at_builtin; refine HB1.out.byt rfl _ _ rfl (by rfl) 46 _ rfl _ rfl rfl (by rfl) l2 HLl2.out (by have := HQ.out; omega) ?_); intro VA2 vn2 vc2 w2 hb; have HB2 := Lh hb; clear hb; go_wp2_with fail; refine (IHS w0 _ B p _ l2 l3 t hw HA.out HB2.out HE.out HLl3.out (by have := HQ.out; omega)).mono ?_; rintro e w7 ⟨v9, rfl, hb⟩; obtain ⟨A7, n7, c7, rfl, -⟩ := hb.form; have HB7 := Lh hb; clear hb; go_wp2_with fail; go_ret; exact ⟨_, rfl, HB7.out⟩
  ·
   have HD := Lh hsp; clear hlast hsp; rcases hcase with ⟨z1, z2⟩ | ⟨z1, z2, z3⟩
   ·
    obtain ⟨l1, hl1⟩ : ∃ x, x = l ++ [46] := ⟨_, rfl⟩
    have ql1 : l.length + 1 ≤ l1.length := by rw [hl1, List.length_append]; exact Nat.le_refl _
    obtain ⟨l2, hl2⟩ : ∃ x, x = sx n t (l1) := ⟨_, rfl⟩
    have ql2 : l1.length ≤ l2.length := by rw [hl2]; exact sx_le _ _ _
    have hX : l' = l2 := by rw [hlx, hl2, hl1]; rw [show dotted l = l ++ [46] from by unfold dotted; rw [HD.out]; rfl]
    rw [hX] at hlen; have HQ := Lh (And.intro hlen (And.intro ql1 ql2)); have HLl1 := Lh hl1; have HLl2 := Lh hl2; rw [hX]; clear hX hlen hlx ql1 ql2 hl1 hl2; go_enter Tryz.func24, Tryz.ntmps24; go_wp2_with (at_builtin; refine HB.out.byt rfl _ _ rfl (by rfl) 46 _ rfl _ rfl rfl (by rfl) l1 HLl1.out (by have := HQ.out; omega) ?_); intro VA1 vn1 vc1 w1 hb; have HB1 := Lh hb; clear hb; go_wp2_with fail; refine (IHS w0 _ B p _ l1 l2 t hw HA.out HB1.out HE.out HLl2.out (by have := HQ.out; omega)).mono ?_; rintro e w7 ⟨v9, rfl, hb⟩; obtain ⟨A7, n7, c7, rfl, -⟩ := hb.form; have HB7 := Lh hb; clear hb; go_wp2_with fail; go_ret; exact ⟨_, rfl, HB7.out⟩
   ·
    obtain ⟨l1, hl1⟩ : ∃ x, x = l ++ [46] := ⟨_, rfl⟩
    have ql1 : l.length + 1 ≤ l1.length := by rw [hl1, List.length_append]; exact Nat.le_refl _
    obtain ⟨l2, hl2⟩ : ∃ x, x = sx n t (l1) := ⟨_, rfl⟩
    have ql2 : l1.length ≤ l2.length := by rw [hl2]; exact sx_le _ _ _
    have hX : l' = l2 := by rw [hlx, hl2, hl1]; rw [show dotted l = l ++ [46] from by unfold dotted; rw [HD.out]; rfl]
    rw [hX] at hlen; have HQ := Lh (And.intro hlen (And.intro ql1 ql2)); have HLl1 := Lh hl1; have HLl2 := Lh hl2; rw [hX]; clear hX hlen hlx ql1 ql2 hl1 hl2; go_enter Tryz.func24, Tryz.ntmps24; go_wp2_with (at_builtin; refine HB.out.byt rfl _ _ rfl (by rfl) 46 _ rfl _ rfl rfl (by rfl) l1 HLl1.out (by have := HQ.out; omega) ?_); intro VA1 vn1 vc1 w1 hb; have HB1 := Lh hb; clear hb; go_wp2_with fail; refine (IHS w0 _ B p _ l1 l2 t hw HA.out HB1.out HE.out HLl2.out (by have := HQ.out; omega)).mono ?_; rintro e w7 ⟨v9, rfl, hb⟩; obtain ⟨A7, n7, c7, rfl, -⟩ := hb.form; have HB7 := Lh hb; clear hb; go_wp2_with fail; go_ret; exact ⟨_, rfl, HB7.out⟩
set_option maxRecDepth 100000 in
set_option maxHeartbeats 8000000 in
theorem rSF (n : Nat) (IHX : RC 24 .ix n) (IHS : ∀ m, n = m + 1 → RSC 63 m) : RC 28 .sf (n + 1) := by
 intro w0 w B p v l l' t hw ha hb he hl hlen; obtain ⟨A0, n0, c0, rfl, -⟩ := hb.form; have HB := Lh hb; have HE := Lh he; clear hb he
 cases hw with
 | sf xix xit xop h1 =>
  obtain ⟨hp, v0, hr, f0⟩ := inv_sf ha; clear ha; rcases FV.pt f0 with ⟨rfl, rfl⟩ | ⟨y0, r0, rfl, rfl, a0⟩
  ·
   clear f0
   cases xit
   case true =>
    have HR := Lh hr; clear hr; obtain ⟨l1, hl1⟩ : ∃ x, x = l ++ [91, 93] := ⟨_, rfl⟩
    have ql1 : l.length + 2 ≤ l1.length := by rw [hl1, List.length_append]; exact Nat.le_refl _
    have hX : l' = l1 := by rw [hl]; rw [hl1]; rfl
    rw [hX] at hlen; have HQ := Lh (And.intro hlen ql1); have HLl1 := Lh hl1; rw [hX]; clear hX hlen hl ql1 hl1; obtain ⟨zHR_0, zHR_1, zHR_2⟩ := (HR.out.at hp HB.out.below).cs3 0 1 2; go_enter Tryz.func28, Tryz.ntmps28; go_wp2_with (at_builtin; refine HB.out.str rfl _ _ rfl (by rfl) (⟨#[91, 93]⟩ : ByteArray) (by rfl) l1 HLl1.out (by have := HQ.out; omega) ?_); intro VA1 vn1 vc1 w1 hb; have HB1 := Lh hb; clear hb; clear zHR_0 zHR_1 zHR_2; obtain ⟨zHR_0, zHR_1, zHR_2⟩ := (HR.out.at hp HB1.out.below).cs3 0 1 2; go_wp2_with fail; go_ret; exact ⟨_, rfl, HB1.out⟩
   case false =>
    cases xop
    case true =>
     have HR := Lh hr; clear hr; obtain ⟨l1, hl1⟩ : ∃ x, x = l ++ [63] := ⟨_, rfl⟩
     have ql1 : l.length + 1 ≤ l1.length := by rw [hl1, List.length_append]; exact Nat.le_refl _
     have hX : l' = l1 := by rw [hl]; rw [hl1]; rfl
     rw [hX] at hlen; have HQ := Lh (And.intro hlen ql1); have HLl1 := Lh hl1; rw [hX]; clear hX hlen hl ql1 hl1; obtain ⟨zHR_0, zHR_1, zHR_2⟩ := (HR.out.at hp HB.out.below).cs3 0 1 2; go_enter Tryz.func28, Tryz.ntmps28; go_wp2_with (at_builtin; refine HB.out.byt rfl _ _ rfl (by rfl) 63 _ rfl _ rfl rfl (by rfl) l1 HLl1.out (by have := HQ.out; omega) ?_); intro VA1 vn1 vc1 w1 hb; have HB1 := Lh hb; clear hb; clear zHR_0 zHR_1 zHR_2; obtain ⟨zHR_0, zHR_1, zHR_2⟩ := (HR.out.at hp HB1.out.below).cs3 0 1 2; go_wp2_with fail; go_ret; exact ⟨_, rfl, HB1.out⟩
    case false =>
     have HR := Lh hr; clear hr
     have hX : l' = l := by rw [hl]; rfl
     rw [hX] at hlen; have HQ := Lh (And.intro hlen trivial); rw [hX]; clear hX hlen hl; obtain ⟨zHR_0, zHR_1, zHR_2⟩ := (HR.out.at hp HB.out.below).cs3 0 1 2; go_enter Tryz.func28, Tryz.ntmps28; go_wp2_with fail; go_ret; exact ⟨_, rfl, HB.out⟩
  ·
   have HA0 := Lh a0; clear a0; rcases n with _ | n
   ·
    exact HA0.out.elim
   clear f0; have HR := Lh hr; clear hr; have hwx := h1 _ rfl; have HW := Lh hwx
   cases hwx with
   | ix xna xstr xst xen xsl e0 e1 e2 e3 =>
    obtain ⟨hpx, u1, u2, u3, hrx, p1, p2, p3⟩ := inv_ix HA0.out; have HRX := Lh hrx; clear hrx p2 p3
    by_cases hk : xna.size = 0
    ·
     have hna := isE hk; rcases FV.pt p1 with ⟨rfl, rfl⟩ | ⟨y9, r9, rfl, rfl, a9⟩
     ·
      subst hna; clear hk p1; obtain ⟨l1, hl1⟩ : ∃ x, x = sx n (.nd 150 [.s ⟨#[]⟩, .p none, .p xst, .p xen, .b xsl]) l := ⟨_, rfl⟩
      have hX : l' = l1 := by rw [hl, hl1]; rfl
      rw [hX] at hlen; have HQ := Lh hlen; have HLl1 := Lh hl1; rw [hX]; clear hX hlen hl hl1; obtain ⟨zHR_0, zHR_1, zHR_2⟩ := (HR.out.at hp HB.out.below).cs3 0 1 2; obtain ⟨zHRX_0, zHRX_1⟩ := (HRX.out.at hpx HB.out.below).cs2 0 1; go_enter Tryz.func28, Tryz.ntmps28; go_wp2_with fail; refine (IHS n rfl w0 _ B r0 _ l l1 _ HW.out HA0.out HB.out HE.out HLl1.out HQ.out).mono ?_; rintro e w1 ⟨v9, rfl, hb⟩; obtain ⟨A1, n1, c1, rfl, -⟩ := hb.form; have HB1 := Lh hb; clear hb; go_wp2_with fail; go_ret; exact ⟨_, rfl, HB1.out⟩
     ·
      have HA9 := Lh a9; clear a9; subst hna; clear hk p1; obtain ⟨l1, hl1⟩ : ∃ x, x = pr (n + 1) (.nd 150 [.s ⟨#[]⟩, .p (some y9), .p xst, .p xen, .b xsl]) l := ⟨_, rfl⟩
      have ql1 : l.length ≤ l1.length := by rw [hl1]; exact prLe _ _ _
      have hX : l' = l1 := by rw [hl]; rw [hl1]; rfl
      rw [hX] at hlen; have HQ := Lh (And.intro hlen ql1); have HLl1 := Lh hl1; rw [hX]; clear hX hlen hl ql1 hl1; obtain ⟨zHR_0, zHR_1, zHR_2⟩ := (HR.out.at hp HB.out.below).cs3 0 1 2; obtain ⟨zHRX_0, zHRX_1⟩ := (HRX.out.at hpx HB.out.below).cs2 0 1; go_enter Tryz.func28, Tryz.ntmps28; go_wp2_with fail; refine (IHX w0 _ B r0 _ l l1 (.nd 150 [.s ⟨#[]⟩, .p (some y9), .p xst, .p xen, .b xsl]) HW.out HA0.out HB.out HE.out HLl1.out (by have := HQ.out; omega)).mono ?_; rintro e w1 ⟨v9, rfl, hb⟩; obtain ⟨VA1, vn1, vc1, rfl, -⟩ := hb.form; have HB1 := Lh hb; clear hb; clear zHR_0 zHR_1 zHR_2 zHRX_0 zHRX_1; obtain ⟨zHR_0, zHR_1, zHR_2⟩ := (HR.out.at hp HB1.out.below).cs3 0 1 2; obtain ⟨zHRX_0, zHRX_1⟩ := (HRX.out.at hpx HB1.out.below).cs2 0 1; go_wp2_with fail; go_ret; exact ⟨_, rfl, HB1.out⟩
    ·
     have hE := isE1 hk; have HK := Lh hk; clear hk p1; obtain ⟨l1, hl1⟩ : ∃ x, x = pr (n + 1) (.nd 150 [.s xna, .p xstr, .p xst, .p xen, .b xsl]) l := ⟨_, rfl⟩
     have ql1 : l.length ≤ l1.length := by rw [hl1]; exact prLe _ _ _
     have hX : l' = l1 := by rw [hl]; rw [hl1]; show (if xna.size ≠ 0 ∨ xstr.isSome = true then _ else _) = _; rw [if_pos (.inl HK.out)]
     rw [hX] at hlen; have HQ := Lh (And.intro hlen ql1); have HLl1 := Lh hl1; rw [hX]; clear hX hlen hl ql1 hl1; obtain ⟨zHR_0, zHR_1, zHR_2⟩ := (HR.out.at hp HB.out.below).cs3 0 1 2; obtain ⟨zHRX_0, zHRX_1⟩ := (HRX.out.at hpx HB.out.below).cs2 0 1; go_enter Tryz.func28, Tryz.ntmps28; go_wp2_with fail; refine (IHX w0 _ B r0 _ l l1 (.nd 150 [.s xna, .p xstr, .p xst, .p xen, .b xsl]) HW.out HA0.out HB.out HE.out HLl1.out (by have := HQ.out; omega)).mono ?_; rintro e w1 ⟨v9, rfl, hb⟩; obtain ⟨VA1, vn1, vc1, rfl, -⟩ := hb.form; have HB1 := Lh hb; clear hb; clear zHR_0 zHR_1 zHR_2 zHRX_0 zHRX_1; obtain ⟨zHR_0, zHR_1, zHR_2⟩ := (HR.out.at hp HB1.out.below).cs3 0 1 2; obtain ⟨zHRX_0, zHRX_1⟩ := (HRX.out.at hpx HB1.out.below).cs2 0 1; go_wp2_with fail; go_ret; exact ⟨_, rfl, HB1.out⟩
set_option maxRecDepth 100000 in
set_option maxHeartbeats 8000000 in
theorem rFD (n : Nat) (IHQ : RC 6 .q n) : RC 20 .fd (n + 1) := by
 intro w0 w B p v l l' t hw ha hb he hl hlen; obtain ⟨A0, n0, c0, rfl, -⟩ := hb.form; have HB := Lh hb; have HE := Lh he; clear hb he
 cases hw with
 | fd xna xags xb g1 h1 h2 =>
  obtain ⟨hp, v1, v2, hr, f1, f2⟩ := inv_fd ha; obtain ⟨r2, rfl, a2⟩ := f2; clear ha; obtain ⟨X1, M1, N1, rfl, hcap, ls1⟩ := FV.lss f1; have LS1 := Lh ls1; have len1 := ls1.len
  have bnd1 : N1 ≤ 3 := by omega
  clear ls1 f1; have A2 := Lh a2; have HR := Lh hr; clear a2 hr
  by_cases hz : N1 = 0
  ·
   have hz2 : xags = [] := List.length_eq_zero_iff.1 (len1.trans hz); subst hz hz2; clear len1; obtain ⟨l1, hl1⟩ : ∃ x, x = l ++ [100, 101, 102, 32] := ⟨_, rfl⟩
   have ql1 : l.length + 4 ≤ l1.length := by rw [hl1, List.length_append]; exact Nat.le_refl _
   obtain ⟨l2, hl2⟩ : ∃ x, x = l1 ++ xna.data.toList := ⟨_, rfl⟩
   have ql2 : l1.length ≤ l2.length := by rw [hl2, List.length_append]; omega
   obtain ⟨l3, hl3⟩ : ∃ x, x = l2 ++ [58, 32] := ⟨_, rfl⟩
   have ql3 : l2.length + 2 ≤ l3.length := by rw [hl3, List.length_append]; exact Nat.le_refl _
   obtain ⟨l4, hl4⟩ : ∃ x, x = pr n xb l3 := ⟨_, rfl⟩
   have ql4 : l3.length ≤ l4.length := by rw [hl4]; exact prLe _ _ _
   obtain ⟨l5, hl5⟩ : ∃ x, x = l4 ++ [59] := ⟨_, rfl⟩
   have ql5 : l4.length + 1 ≤ l5.length := by rw [hl5, List.length_append]; exact Nat.le_refl _
   have hX : l' = l5 := by rw [hl]; rw [hl5, hl4, hl3, hl2, hl1]; rfl
   rw [hX] at hlen; have HQ := Lh (And.intro hlen (And.intro ql1 (And.intro ql2 (And.intro ql3 (And.intro ql4 ql5))))); have HLl1 := Lh hl1; have HLl2 := Lh hl2; have HLl3 := Lh hl3; have HLl4 := Lh hl4; have HLl5 := Lh hl5; rw [hX]; clear hX hlen hl ql1 ql2 ql3 ql4 ql5 hl1 hl2 hl3 hl4 hl5; obtain ⟨zHR_0, zHR_1, zHR_2⟩ := (HR.out.at hp HB.out.below).cs3 0 1 2; go_enter Tryz.func20, Tryz.ntmps20; go_wp2_with (at_builtin; refine HB.out.str rfl _ _ rfl (by rfl) (⟨#[100, 101, 102, 32]⟩ : ByteArray) (by rfl) l1 HLl1.out (by have := HQ.out; omega) ?_); intro VA1 vn1 vc1 w1 hb; have HB1 := Lh hb; clear hb; clear zHR_0 zHR_1 zHR_2; obtain ⟨zHR_0, zHR_1, zHR_2⟩ := (HR.out.at hp HB1.out.below).cs3 0 1 2; go_wp2_with (at_builtin; refine HB1.out.str rfl _ _ rfl (by rfl) xna (by rfl) l2 HLl2.out (by have := HQ.out; omega) ?_); intro VA2 vn2 vc2 w2 hb; have HB2 := Lh hb; clear hb; clear zHR_0 zHR_1 zHR_2; obtain ⟨zHR_0, zHR_1, zHR_2⟩ := (HR.out.at hp HB2.out.below).cs3 0 1 2; go_wp2_with (at_builtin; refine HB2.out.str rfl _ _ rfl (by rfl) (⟨#[58, 32]⟩ : ByteArray) (by rfl) l3 HLl3.out (by have := HQ.out; omega) ?_); intro VA3 vn3 vc3 w3 hb; have HB3 := Lh hb; clear hb; clear zHR_0 zHR_1 zHR_2; obtain ⟨zHR_0, zHR_1, zHR_2⟩ := (HR.out.at hp HB3.out.below).cs3 0 1 2; go_wp2_with fail; refine (IHQ w0 _ B r2 _ l3 l4 xb h2 A2.out HB3.out HE.out HLl4.out (by have := HQ.out; omega)).mono ?_; rintro e w4 ⟨v9, rfl, hb⟩; obtain ⟨VA4, vn4, vc4, rfl, -⟩ := hb.form; have HB4 := Lh hb; clear hb; clear zHR_0 zHR_1 zHR_2; obtain ⟨zHR_0, zHR_1, zHR_2⟩ := (HR.out.at hp HB4.out.below).cs3 0 1 2; go_wp2_with (at_builtin; refine HB4.out.byt rfl _ _ rfl (by rfl) 59 _ rfl _ rfl rfl (by rfl) l5 HLl5.out (by have := HQ.out; omega) ?_); intro VA5 vn5 vc5 w5 hb; have HB5 := Lh hb; clear hb; clear zHR_0 zHR_1 zHR_2; obtain ⟨zHR_0, zHR_1, zHR_2⟩ := (HR.out.at hp HB5.out.below).cs3 0 1 2; go_wp2_with fail; go_ret; exact ⟨_, rfl, HB5.out⟩
  ·
   have HZ := Lh (show ¬ xags.length = 0 by omega)
   have hz3 : 0 < N1 := by omega
   obtain ⟨l1, hl1⟩ : ∃ x, x = l ++ [100, 101, 102, 32] := ⟨_, rfl⟩
   have ql1 : l.length + 4 ≤ l1.length := by rw [hl1, List.length_append]; exact Nat.le_refl _
   obtain ⟨l2, hl2⟩ : ∃ x, x = l1 ++ xna.data.toList := ⟨_, rfl⟩
   have ql2 : l1.length ≤ l2.length := by rw [hl2, List.length_append]; omega
   obtain ⟨l3, hl3⟩ : ∃ x, x = l2 ++ [40] := ⟨_, rfl⟩
   have ql3 : l2.length + 1 ≤ l3.length := by rw [hl3, List.length_append]; exact Nat.le_refl _
   obtain ⟨l4, hl4⟩ : ∃ x, x = l3 ++ Lib.join (xags.map (·.data.toList)) [59, 32] := ⟨_, rfl⟩
   have ql4 : l3.length ≤ l4.length := by rw [hl4, List.length_append]; omega
   obtain ⟨l5, hl5⟩ : ∃ x, x = l4 ++ [41] := ⟨_, rfl⟩
   have ql5 : l4.length + 1 ≤ l5.length := by rw [hl5, List.length_append]; exact Nat.le_refl _
   obtain ⟨l6, hl6⟩ : ∃ x, x = l5 ++ [58, 32] := ⟨_, rfl⟩
   have ql6 : l5.length + 2 ≤ l6.length := by rw [hl6, List.length_append]; exact Nat.le_refl _
   obtain ⟨l7, hl7⟩ : ∃ x, x = pr n xb l6 := ⟨_, rfl⟩
   have ql7 : l6.length ≤ l7.length := by rw [hl7]; exact prLe _ _ _
   obtain ⟨l8, hl8⟩ : ∃ x, x = l7 ++ [59] := ⟨_, rfl⟩
   have ql8 : l7.length + 1 ≤ l8.length := by rw [hl8, List.length_append]; exact Nat.le_refl _
   have hX : l' = l8 := by rw [hl]; rw [hl8, hl7, hl6, hl5, hl4, hl3, hl2, hl1]; show pr n xb ((if xags.length = 0 then _ else _) ++ _) ++ _ = _; rw [if_neg HZ.out, join_itr _ g1]; (try rfl)
   rw [hX] at hlen; have HQ := Lh (And.intro hlen (And.intro ql1 (And.intro ql2 (And.intro ql3 (And.intro ql4 (And.intro ql5 (And.intro ql6 (And.intro ql7 ql8)))))))); have HLl1 := Lh hl1; have HLl2 := Lh hl2; have HLl3 := Lh hl3; have HLl4 := Lh hl4; have HLl5 := Lh hl5; have HLl6 := Lh hl6; have HLl7 := Lh hl7; have HLl8 := Lh hl8; rw [hX]; clear hX hlen hl ql1 ql2 ql3 ql4 ql5 ql6 ql7 ql8 hl1 hl2 hl3 hl4 hl5 hl6 hl7 hl8; obtain ⟨zHR_0, zHR_1, zHR_2⟩ := (HR.out.at hp HB.out.below).cs3 0 1 2; go_enter Tryz.func20, Tryz.ntmps20; go_wp2_with (at_builtin; refine HB.out.str rfl _ _ rfl (by rfl) (⟨#[100, 101, 102, 32]⟩ : ByteArray) (by rfl) l1 HLl1.out (by have := HQ.out; omega) ?_); intro VA1 vn1 vc1 w1 hb; have HB1 := Lh hb; clear hb; clear zHR_0 zHR_1 zHR_2; obtain ⟨zHR_0, zHR_1, zHR_2⟩ := (HR.out.at hp HB1.out.below).cs3 0 1 2; go_wp2_with (at_builtin; refine HB1.out.str rfl _ _ rfl (by rfl) xna (by rfl) l2 HLl2.out (by have := HQ.out; omega) ?_); intro VA2 vn2 vc2 w2 hb; have HB2 := Lh hb; clear hb; clear zHR_0 zHR_1 zHR_2; obtain ⟨zHR_0, zHR_1, zHR_2⟩ := (HR.out.at hp HB2.out.below).cs3 0 1 2; go_wp2_with (at_builtin; refine HB2.out.byt rfl _ _ rfl (by rfl) 40 _ rfl _ rfl rfl (by rfl) l3 HLl3.out (by have := HQ.out; omega) ?_); intro VA3 vn3 vc3 w3 hb; have HB3 := Lh hb
   clear hb; clear zHR_0 zHR_1 zHR_2; obtain ⟨zHR_0, zHR_1, zHR_2⟩ := (HR.out.at hp HB3.out.below).cs3 0 1 2; go_wp2_with fail; obtain ⟨ab9, ao9, hA9, hab9, hcl9⟩ := LS1.out.at HB3.out.below hz3 HB3.out.size; subst hA9; have hj9 := strings_Join ab9 ao9 M1 xags ⟨#[59, 32]⟩ _ hcl9 hab9 (by omega) (by omega) (by have h8 := HQ.out; have h9 := congrArg List.length HLl4.out; rw [List.length_append] at h9; show (Lib.join (xags.map (·.data.toList)) [59, 32]).length ≤ _; omega); rw [len1] at hj9; refine hj9.mono ?_; rintro e w9 ⟨rfl, hb9⟩; clear hj9 hcl9 hab9; have HK := Lh (HB3.out.keep hb9); clear hb9; go_wp2_with (at_builtin; refine HK.out.str rfl _ _ rfl (by rfl) ⟨(Lib.join (xags.map (·.data.toList)) [59, 32]).toArray⟩ (by rfl) l4 HLl4.out (by have := HQ.out; omega) ?_); intro VA4 vn4 vc4 w4 hb; have HB4 := Lh hb; clear hb; clear zHR_0 zHR_1 zHR_2; obtain ⟨zHR_0, zHR_1, zHR_2⟩ := (HR.out.at hp HB4.out.below).cs3 0 1 2; go_wp2_with (at_builtin; refine HB4.out.byt rfl _ _ rfl (by rfl) 41 _ rfl _ rfl rfl (by rfl) l5 HLl5.out (by have := HQ.out; omega) ?_); intro VA5 vn5 vc5 w5 hb; have HB5 := Lh hb; clear hb; clear zHR_0 zHR_1 zHR_2; obtain ⟨zHR_0, zHR_1, zHR_2⟩ := (HR.out.at hp HB5.out.below).cs3 0 1 2; go_wp2_with (at_builtin; refine HB5.out.str rfl _ _ rfl (by rfl) (⟨#[58, 32]⟩ : ByteArray) (by rfl) l6 HLl6.out (by have := HQ.out; omega) ?_)
   intro VA6 vn6 vc6 w6 hb; have HB6 := Lh hb; clear hb; clear zHR_0 zHR_1 zHR_2; obtain ⟨zHR_0, zHR_1, zHR_2⟩ := (HR.out.at hp HB6.out.below).cs3 0 1 2; go_wp2_with fail; refine (IHQ w0 _ B r2 _ l6 l7 xb h2 A2.out HB6.out HE.out HLl7.out (by have := HQ.out; omega)).mono ?_; rintro e w7 ⟨v9, rfl, hb⟩; obtain ⟨VA7, vn7, vc7, rfl, -⟩ := hb.form; have HB7 := Lh hb; clear hb; clear zHR_0 zHR_1 zHR_2; obtain ⟨zHR_0, zHR_1, zHR_2⟩ := (HR.out.at hp HB7.out.below).cs3 0 1 2; go_wp2_with (at_builtin; refine HB7.out.byt rfl _ _ rfl (by rfl) 59 _ rfl _ rfl rfl (by rfl) l8 HLl8.out (by have := HQ.out; omega) ?_); intro VA8 vn8 vc8 w8 hb; have HB8 := Lh hb; clear hb; clear zHR_0 zHR_1 zHR_2; obtain ⟨zHR_0, zHR_1, zHR_2⟩ := (HR.out.at hp HB8.out.below).cs3 0 1 2; go_wp2_with fail; go_ret; exact ⟨_, rfl, HB8.out⟩
set_option maxRecDepth 100000 in
set_option maxHeartbeats 8000000 in
theorem rIFE (n : Nat) (IHQ : RC 6 .q n) (IHq' : ∀ m, n = m + 1 → RC 6 .q m) : RC 27 .ife (n + 1) := by
 intro w0 w B p v l l' t hw ha hb he hl hlen; obtain ⟨A0, n0, c0, rfl, -⟩ := hb.form; have HB := Lh hb; have HE := Lh he; clear hb he
 cases hw with
 | ife xc xt xa xels xe h1 h2 g3 h3 h4 =>
  obtain ⟨hp, v0, v1, v2, v3, hr, f0, f1, f2, f3⟩ := inv_ife ha; obtain ⟨r0, rfl, a0⟩ := f0; obtain ⟨r1, rfl, a1⟩ := f1; clear ha; have A0 := Lh a0; have A1 := Lh a1; clear a0 a1; obtain ⟨X2, M2, N2, rfl, hnn2, ls2⟩ := FV.ls .el h3 f2; have LS2 := Lh ls2; have len2 := ls2.len
  have bnd2 : N2 ≤ 3 := by have := g3; omega
  clear ls2 f2; rcases FV.pt f3 with ⟨rfl, rfl⟩ | ⟨y3, r3, rfl, rfl, a3⟩
  ·
   have HR := Lh hr; clear hr f3 hnn2; obtain ⟨l1, hl1⟩ : ∃ x, x = l ++ [105, 102, 32] := ⟨_, rfl⟩
   have ql1 : l.length + 3 ≤ l1.length := by rw [hl1, List.length_append]; exact Nat.le_refl _
   obtain ⟨l2, hl2⟩ : ∃ x, x = pr n xc l1 := ⟨_, rfl⟩
   have ql2 : l1.length ≤ l2.length := by rw [hl2]; exact prLe _ _ _
   obtain ⟨l3, hl3⟩ : ∃ x, x = l2 ++ [32, 116, 104, 101, 110, 32] := ⟨_, rfl⟩
   have ql3 : l2.length + 6 ≤ l3.length := by rw [hl3, List.length_append]; exact Nat.le_refl _
   obtain ⟨l4, hl4⟩ : ∃ x, x = pr n xt l3 := ⟨_, rfl⟩
   have ql4 : l3.length ≤ l4.length := by rw [hl4]; exact prLe _ _ _
   obtain ⟨l5, hl5⟩ : ∃ x, x = itr (fun _ t l => pr n t (l ++ [32])) xels 0 l4 := ⟨_, rfl⟩
   have ql5 : l4.length ≤ l5.length := by rw [hl5]; exact itrLe (fun _ t l => by have := prLe n t (l ++ [32]); rw [List.length_append] at this; omega) _ _ _
   obtain ⟨l6, hl6⟩ : ∃ x, x = l5 ++ [32, 101, 110, 100] := ⟨_, rfl⟩
   have ql6 : l5.length + 4 ≤ l6.length := by rw [hl6, List.length_append]; exact Nat.le_refl _
   have hX : l' = l6 := by rw [hl]; rw [hl6, hl5, hl4, hl3, hl2, hl1]; rfl
   rw [hX] at hlen; have HQ := Lh (And.intro hlen (And.intro ql1 (And.intro ql2 (And.intro ql3 (And.intro ql4 (And.intro ql5 ql6)))))); have HLl1 := Lh hl1; have HLl2 := Lh hl2; have HLl3 := Lh hl3; have HLl4 := Lh hl4; have HLl5 := Lh hl5; have HLl6 := Lh hl6; rw [hX]; clear hX hlen hl ql1 ql2 ql3 ql4 ql5 ql6 hl1 hl2 hl3 hl4 hl5 hl6; obtain ⟨zHR_0, zHR_1, zHR_2, zHR_3⟩ := (HR.out.at hp HB.out.below).cs4 0 1 2 3; go_enter Tryz.func27, Tryz.ntmps27; go_wp2_with (at_builtin; refine HB.out.str rfl _ _ rfl (by rfl) (⟨#[105, 102, 32]⟩ : ByteArray) (by rfl) l1 HLl1.out (by have := HQ.out; omega) ?_); intro VA1 vn1 vc1 w1 hb; have HB1 := Lh hb; clear hb; clear zHR_0 zHR_1 zHR_2 zHR_3; obtain ⟨zHR_0, zHR_1, zHR_2, zHR_3⟩ := (HR.out.at hp HB1.out.below).cs4 0 1 2 3; go_wp2_with fail; refine (IHQ w0 _ B r0 _ l1 l2 xc h1 A0.out HB1.out HE.out HLl2.out (by have := HQ.out; omega)).mono ?_; rintro e w2 ⟨v9, rfl, hb⟩; obtain ⟨VA2, vn2, vc2, rfl, -⟩ := hb.form; have HB2 := Lh hb; clear hb; clear zHR_0 zHR_1 zHR_2 zHR_3; obtain ⟨zHR_0, zHR_1, zHR_2, zHR_3⟩ := (HR.out.at hp HB2.out.below).cs4 0 1 2 3; go_wp2_with (at_builtin; refine HB2.out.str rfl _ _ rfl (by rfl) (⟨#[32, 116, 104, 101, 110, 32]⟩ : ByteArray) (by rfl) l3 HLl3.out (by have := HQ.out; omega) ?_)
   intro VA3 vn3 vc3 w3 hb; have HB3 := Lh hb; clear hb; clear zHR_0 zHR_1 zHR_2 zHR_3; obtain ⟨zHR_0, zHR_1, zHR_2, zHR_3⟩ := (HR.out.at hp HB3.out.below).cs4 0 1 2 3; go_wp2_with fail; refine (IHQ w0 _ B r1 _ l3 l4 xt h2 A1.out HB3.out HE.out HLl4.out (by have := HQ.out; omega)).mono ?_; rintro e w4 ⟨v9, rfl, hb⟩; obtain ⟨VA4, vn4, vc4, rfl, -⟩ := hb.form; have HB4 := Lh hb; clear hb; clear zHR_0 zHR_1 zHR_2 zHR_3; obtain ⟨zHR_0, zHR_1, zHR_2, zHR_3⟩ := (HR.out.at hp HB4.out.below).cs4 0 1 2 3; go_wp2_with fail; go_loopw [0, 28] (fun v t wr => ∃ (j : Nat) (c : L8), j ≤ N2 ∧ t = .int .i64 j ∧ BN B w0 c v wr ∧ l5 = itr (fun _ t l => pr n t (l ++ [32])) (xels.drop j) j c) (fun _ t _ => N2 - (intOf t).toNat)
   case atStart =>
    exact ⟨0, l4, Nat.zero_le _, rfl, HB4.out, HLl5.out⟩
   case round =>
    obtain ⟨j, c, hj, rfl, hb, hx⟩ := hrel; obtain ⟨Ac, nc, cc, rfl, -⟩ := hb.form; have HB100 := Lh hb; have HXC := Lh hx; clear hb hx
    by_cases hlt : j < N2
    ·
     obtain ⟨ab, ao, q, t, hA, hcl, hst, hat, hW⟩ := LS2.out.kid HB100.out.below hlt (fun _ t l => pr n t (l ++ [32])) c; obtain ⟨y9, hy9⟩ : ∃ y, y = t := ⟨_, rfl⟩; rw [← hy9] at hst; subst hA; have hc := hcl _ HB100.out.below; have HST := Lh hst; have HAT := Lh hat; clear hcl hst hat
     obtain ⟨m, hnm⟩ : ∃ m, n = m + 1 := by cases n with | zero => exact HAT.out.elim | succ m => exact ⟨m, rfl⟩
     have ham := HAT.out; rw [hnm] at ham
     cases hW with
     | el xc2 xt2 e1 e2 =>
      obtain ⟨hpy, u0, u1, hry, p0, p1⟩ := inv_el ham; obtain ⟨r20, rfl, a20⟩ := p0; obtain ⟨r21, rfl, a21⟩ := p1; have HRY := Lh hry; have HA20 := Lh a20; have HA21 := Lh a21; clear ham hry a20 a21; obtain ⟨zHRY_0, zHRY_1⟩ := (HRY.out.at hpy HB100.out.below).cs2 0 1; obtain ⟨c1, hc1⟩ : ∃ x, x = c ++ [32, 101, 108, 105, 102, 32] := ⟨_, rfl⟩
      have qc1 : c.length + 6 ≤ c1.length := by rw [hc1, List.length_append]; exact Nat.le_refl _
      obtain ⟨c2, hc2⟩ : ∃ x, x = pr m xc2 c1 := ⟨_, rfl⟩
      have qc2 : c1.length ≤ c2.length := by rw [hc2]; exact prLe _ _ _
      obtain ⟨c3, hc3⟩ : ∃ x, x = c2 ++ [32, 116, 104, 101, 110, 32] := ⟨_, rfl⟩
      have qc3 : c2.length + 6 ≤ c3.length := by rw [hc3, List.length_append]; exact Nat.le_refl _
      obtain ⟨c4, hc4⟩ : ∃ x, x = pr m xt2 c3 := ⟨_, rfl⟩
      have qc4 : c3.length ≤ c4.length := by rw [hc4]; exact prLe _ _ _
      have hf9 : (fun _ t l => pr n t (l ++ [32])) j y9 c = c4 := by rw [hc4, hc3, hc2, hc1]; show pr n y9 (c ++ [32]) = _; rw [hy9, hnm]; show pr m xt2 (pr m xc2 ((c ++ [32]) ++ [101, 108, 105, 102, 32]) ++ [32, 116, 104, 101, 110, 32]) = _; rw [List.append_assoc c]; (try rfl)
      have hx8 : l5 = itr (fun _ t l => pr n t (l ++ [32])) (xels.drop (j + 1)) (j + 1) c4 := by rw [← hf9]; exact HXC.out.trans HST.out
      have q9 : c4.length ≤ l5.length := by rw [hx8]; exact itrLe (fun _ t l => by have := prLe n t (l ++ [32]); rw [List.length_append] at this; omega) _ _ _
      have HXD := Lh hx8; have HQC := Lh ((And.intro qc1 (And.intro qc2 (And.intro qc3 (And.intro qc4 q9))))); have HLc1 := Lh hc1; have HLc2 := Lh hc2; have HLc3 := Lh hc3; have HLc4 := Lh hc4; clear hf9 hx8 q9 qc1 qc2 qc3 qc4 hc1 hc2 hc3 hc4; go_wp2_with (at_builtin; refine HB100.out.str rfl _ _ rfl (by rfl) (⟨#[32, 101, 108, 105, 102, 32]⟩ : ByteArray) (by rfl) c1 HLc1.out (by have := HQ.out; have := HQC.out; omega) ?_); intro VA101 vn101 vc101 w101 hb; have HB101 := Lh hb; clear hb; clear zHRY_0 zHRY_1; obtain ⟨zHRY_0, zHRY_1⟩ := (HRY.out.at hpy HB101.out.below).cs2 0 1; go_wp2_with fail; refine ((IHq' m hnm) w0 _ B r20 _ c1 c2 xc2 e1 HA20.out HB101.out HE.out HLc2.out (by have := HQ.out; have := HQC.out; omega)).mono ?_; rintro e w102 ⟨v9, rfl, hb⟩; obtain ⟨VA102, vn102, vc102, rfl, -⟩ := hb.form; have HB102 := Lh hb; clear hb; clear zHRY_0 zHRY_1; obtain ⟨zHRY_0, zHRY_1⟩ := (HRY.out.at hpy HB102.out.below).cs2 0 1; go_wp2_with (at_builtin; refine HB102.out.str rfl _ _ rfl (by rfl) (⟨#[32, 116, 104, 101, 110, 32]⟩ : ByteArray) (by rfl) c3 HLc3.out (by have := HQ.out; have := HQC.out; omega) ?_); intro VA103 vn103 vc103 w103 hb; have HB103 := Lh hb; clear hb; clear zHRY_0 zHRY_1; obtain ⟨zHRY_0, zHRY_1⟩ := (HRY.out.at hpy HB103.out.below).cs2 0 1; go_wp2_with fail; refine ((IHq' m hnm) w0 _ B r21 _ c3 c4 xt2 e2 HA21.out HB103.out HE.out HLc4.out (by have := HQ.out; have := HQC.out; omega)).mono ?_
      rintro e w104 ⟨v9, rfl, hb⟩; obtain ⟨VA104, vn104, vc104, rfl, -⟩ := hb.form; have HB104 := Lh hb; clear hb; clear zHRY_0 zHRY_1; obtain ⟨zHRY_0, zHRY_1⟩ := (HRY.out.at hpy HB104.out.below).cs2 0 1; go_wp2_with fail; exact ⟨⟨j + 1, c4, by omega, by go_num, HB104.out, HXD.out⟩, by simp [intOf]; omega⟩
    ·
     obtain rfl : N2 = j := by omega
     have hx9 : l5 = c := HXC.out.trans (LS2.out.fin _ c); have HB5 := Lh (show BN B w0 l5 (.slice Ac nc cc) _ from by rw [hx9]; exact HB100.out); clear hx9; obtain ⟨zHR_0, zHR_1, zHR_2, zHR_3⟩ := (HR.out.at hp HB5.out.below).cs4 0 1 2 3; go_wp2_with (at_builtin; refine HB5.out.str rfl _ _ rfl (by rfl) (⟨#[32, 101, 110, 100]⟩ : ByteArray) (by rfl) l6 HLl6.out (by have := HQ.out; omega) ?_); intro VA6 vn6 vc6 w6 hb; have HB6 := Lh hb; clear hb; clear zHR_0 zHR_1 zHR_2 zHR_3; obtain ⟨zHR_0, zHR_1, zHR_2, zHR_3⟩ := (HR.out.at hp HB6.out.below).cs4 0 1 2 3; go_wp2_with fail; go_ret; exact ⟨_, rfl, HB6.out⟩
  ·
   have HA3 := Lh a3; clear a3; have HR := Lh hr; clear hr f3 hnn2; obtain ⟨l1, hl1⟩ : ∃ x, x = l ++ [105, 102, 32] := ⟨_, rfl⟩
   have ql1 : l.length + 3 ≤ l1.length := by rw [hl1, List.length_append]; exact Nat.le_refl _
   obtain ⟨l2, hl2⟩ : ∃ x, x = pr n xc l1 := ⟨_, rfl⟩
   have ql2 : l1.length ≤ l2.length := by rw [hl2]; exact prLe _ _ _
   obtain ⟨l3, hl3⟩ : ∃ x, x = l2 ++ [32, 116, 104, 101, 110, 32] := ⟨_, rfl⟩
   have ql3 : l2.length + 6 ≤ l3.length := by rw [hl3, List.length_append]; exact Nat.le_refl _
   obtain ⟨l4, hl4⟩ : ∃ x, x = pr n xt l3 := ⟨_, rfl⟩
   have ql4 : l3.length ≤ l4.length := by rw [hl4]; exact prLe _ _ _
   obtain ⟨l5, hl5⟩ : ∃ x, x = itr (fun _ t l => pr n t (l ++ [32])) xels 0 l4 := ⟨_, rfl⟩
   have ql5 : l4.length ≤ l5.length := by rw [hl5]; exact itrLe (fun _ t l => by have := prLe n t (l ++ [32]); rw [List.length_append] at this; omega) _ _ _
   obtain ⟨l6, hl6⟩ : ∃ x, x = l5 ++ [32, 101, 108, 115, 101, 32] := ⟨_, rfl⟩
   have ql6 : l5.length + 6 ≤ l6.length := by rw [hl6, List.length_append]; exact Nat.le_refl _
   obtain ⟨l7, hl7⟩ : ∃ x, x = pr n y3 l6 := ⟨_, rfl⟩
   have ql7 : l6.length ≤ l7.length := by rw [hl7]; exact prLe _ _ _
   obtain ⟨l8, hl8⟩ : ∃ x, x = l7 ++ [32, 101, 110, 100] := ⟨_, rfl⟩
   have ql8 : l7.length + 4 ≤ l8.length := by rw [hl8, List.length_append]; exact Nat.le_refl _
   have hX : l' = l8 := by rw [hl]; rw [hl8, hl7, hl6, hl5, hl4, hl3, hl2, hl1]; rfl
   rw [hX] at hlen; have HQ := Lh (And.intro hlen (And.intro ql1 (And.intro ql2 (And.intro ql3 (And.intro ql4 (And.intro ql5 (And.intro ql6 (And.intro ql7 ql8)))))))); have HLl1 := Lh hl1; have HLl2 := Lh hl2; have HLl3 := Lh hl3; have HLl4 := Lh hl4; have HLl5 := Lh hl5; have HLl6 := Lh hl6; have HLl7 := Lh hl7; have HLl8 := Lh hl8; rw [hX]; clear hX hlen hl ql1 ql2 ql3 ql4 ql5 ql6 ql7 ql8 hl1 hl2 hl3 hl4 hl5 hl6 hl7 hl8; obtain ⟨zHR_0, zHR_1, zHR_2, zHR_3⟩ := (HR.out.at hp HB.out.below).cs4 0 1 2 3; go_enter Tryz.func27, Tryz.ntmps27; go_wp2_with (at_builtin; refine HB.out.str rfl _ _ rfl (by rfl) (⟨#[105, 102, 32]⟩ : ByteArray) (by rfl) l1 HLl1.out (by have := HQ.out; omega) ?_); intro VA1 vn1 vc1 w1 hb; have HB1 := Lh hb; clear hb; clear zHR_0 zHR_1 zHR_2 zHR_3; obtain ⟨zHR_0, zHR_1, zHR_2, zHR_3⟩ := (HR.out.at hp HB1.out.below).cs4 0 1 2 3; go_wp2_with fail; refine (IHQ w0 _ B r0 _ l1 l2 xc h1 A0.out HB1.out HE.out HLl2.out (by have := HQ.out; omega)).mono ?_; rintro e w2 ⟨v9, rfl, hb⟩; obtain ⟨VA2, vn2, vc2, rfl, -⟩ := hb.form; have HB2 := Lh hb; clear hb; clear zHR_0 zHR_1 zHR_2 zHR_3; obtain ⟨zHR_0, zHR_1, zHR_2, zHR_3⟩ := (HR.out.at hp HB2.out.below).cs4 0 1 2 3; go_wp2_with (at_builtin; refine HB2.out.str rfl _ _ rfl (by rfl) (⟨#[32, 116, 104, 101, 110, 32]⟩ : ByteArray) (by rfl) l3 HLl3.out (by have := HQ.out; omega) ?_)
   intro VA3 vn3 vc3 w3 hb; have HB3 := Lh hb; clear hb; clear zHR_0 zHR_1 zHR_2 zHR_3; obtain ⟨zHR_0, zHR_1, zHR_2, zHR_3⟩ := (HR.out.at hp HB3.out.below).cs4 0 1 2 3; go_wp2_with fail; refine (IHQ w0 _ B r1 _ l3 l4 xt h2 A1.out HB3.out HE.out HLl4.out (by have := HQ.out; omega)).mono ?_; rintro e w4 ⟨v9, rfl, hb⟩; obtain ⟨VA4, vn4, vc4, rfl, -⟩ := hb.form; have HB4 := Lh hb; clear hb; clear zHR_0 zHR_1 zHR_2 zHR_3; obtain ⟨zHR_0, zHR_1, zHR_2, zHR_3⟩ := (HR.out.at hp HB4.out.below).cs4 0 1 2 3; go_wp2_with fail; go_loopw [0, 28] (fun v t wr => ∃ (j : Nat) (c : L8), j ≤ N2 ∧ t = .int .i64 j ∧ BN B w0 c v wr ∧ l5 = itr (fun _ t l => pr n t (l ++ [32])) (xels.drop j) j c) (fun _ t _ => N2 - (intOf t).toNat)
   case atStart =>
    exact ⟨0, l4, Nat.zero_le _, rfl, HB4.out, HLl5.out⟩
   case round =>
    obtain ⟨j, c, hj, rfl, hb, hx⟩ := hrel; obtain ⟨Ac, nc, cc, rfl, -⟩ := hb.form; have HB100 := Lh hb; have HXC := Lh hx; clear hb hx
    by_cases hlt : j < N2
    ·
     obtain ⟨ab, ao, q, t, hA, hcl, hst, hat, hW⟩ := LS2.out.kid HB100.out.below hlt (fun _ t l => pr n t (l ++ [32])) c; obtain ⟨y9, hy9⟩ : ∃ y, y = t := ⟨_, rfl⟩; rw [← hy9] at hst; subst hA; have hc := hcl _ HB100.out.below; have HST := Lh hst; have HAT := Lh hat; clear hcl hst hat
     obtain ⟨m, hnm⟩ : ∃ m, n = m + 1 := by cases n with | zero => exact HAT.out.elim | succ m => exact ⟨m, rfl⟩
     have ham := HAT.out; rw [hnm] at ham
     cases hW with
     | el xc2 xt2 e1 e2 =>
      obtain ⟨hpy, u0, u1, hry, p0, p1⟩ := inv_el ham; obtain ⟨r20, rfl, a20⟩ := p0; obtain ⟨r21, rfl, a21⟩ := p1; have HRY := Lh hry; have HA20 := Lh a20; have HA21 := Lh a21; clear ham hry a20 a21; obtain ⟨zHRY_0, zHRY_1⟩ := (HRY.out.at hpy HB100.out.below).cs2 0 1; obtain ⟨c1, hc1⟩ : ∃ x, x = c ++ [32, 101, 108, 105, 102, 32] := ⟨_, rfl⟩
      have qc1 : c.length + 6 ≤ c1.length := by rw [hc1, List.length_append]; exact Nat.le_refl _
      obtain ⟨c2, hc2⟩ : ∃ x, x = pr m xc2 c1 := ⟨_, rfl⟩
      have qc2 : c1.length ≤ c2.length := by rw [hc2]; exact prLe _ _ _
      obtain ⟨c3, hc3⟩ : ∃ x, x = c2 ++ [32, 116, 104, 101, 110, 32] := ⟨_, rfl⟩
      have qc3 : c2.length + 6 ≤ c3.length := by rw [hc3, List.length_append]; exact Nat.le_refl _
      obtain ⟨c4, hc4⟩ : ∃ x, x = pr m xt2 c3 := ⟨_, rfl⟩
      have qc4 : c3.length ≤ c4.length := by rw [hc4]; exact prLe _ _ _
      have hf9 : (fun _ t l => pr n t (l ++ [32])) j y9 c = c4 := by rw [hc4, hc3, hc2, hc1]; show pr n y9 (c ++ [32]) = _; rw [hy9, hnm]; show pr m xt2 (pr m xc2 ((c ++ [32]) ++ [101, 108, 105, 102, 32]) ++ [32, 116, 104, 101, 110, 32]) = _; rw [List.append_assoc c]; (try rfl)
      have hx8 : l5 = itr (fun _ t l => pr n t (l ++ [32])) (xels.drop (j + 1)) (j + 1) c4 := by rw [← hf9]; exact HXC.out.trans HST.out
      have q9 : c4.length ≤ l5.length := by rw [hx8]; exact itrLe (fun _ t l => by have := prLe n t (l ++ [32]); rw [List.length_append] at this; omega) _ _ _
      have HXD := Lh hx8; have HQC := Lh ((And.intro qc1 (And.intro qc2 (And.intro qc3 (And.intro qc4 q9))))); have HLc1 := Lh hc1; have HLc2 := Lh hc2; have HLc3 := Lh hc3; have HLc4 := Lh hc4; clear hf9 hx8 q9 qc1 qc2 qc3 qc4 hc1 hc2 hc3 hc4; go_wp2_with (at_builtin; refine HB100.out.str rfl _ _ rfl (by rfl) (⟨#[32, 101, 108, 105, 102, 32]⟩ : ByteArray) (by rfl) c1 HLc1.out (by have := HQ.out; have := HQC.out; omega) ?_); intro VA101 vn101 vc101 w101 hb; have HB101 := Lh hb; clear hb; clear zHRY_0 zHRY_1; obtain ⟨zHRY_0, zHRY_1⟩ := (HRY.out.at hpy HB101.out.below).cs2 0 1; go_wp2_with fail; refine ((IHq' m hnm) w0 _ B r20 _ c1 c2 xc2 e1 HA20.out HB101.out HE.out HLc2.out (by have := HQ.out; have := HQC.out; omega)).mono ?_; rintro e w102 ⟨v9, rfl, hb⟩; obtain ⟨VA102, vn102, vc102, rfl, -⟩ := hb.form; have HB102 := Lh hb; clear hb; clear zHRY_0 zHRY_1; obtain ⟨zHRY_0, zHRY_1⟩ := (HRY.out.at hpy HB102.out.below).cs2 0 1; go_wp2_with (at_builtin; refine HB102.out.str rfl _ _ rfl (by rfl) (⟨#[32, 116, 104, 101, 110, 32]⟩ : ByteArray) (by rfl) c3 HLc3.out (by have := HQ.out; have := HQC.out; omega) ?_); intro VA103 vn103 vc103 w103 hb; have HB103 := Lh hb; clear hb; clear zHRY_0 zHRY_1; obtain ⟨zHRY_0, zHRY_1⟩ := (HRY.out.at hpy HB103.out.below).cs2 0 1; go_wp2_with fail; refine ((IHq' m hnm) w0 _ B r21 _ c3 c4 xt2 e2 HA21.out HB103.out HE.out HLc4.out (by have := HQ.out; have := HQC.out; omega)).mono ?_
      rintro e w104 ⟨v9, rfl, hb⟩; obtain ⟨VA104, vn104, vc104, rfl, -⟩ := hb.form; have HB104 := Lh hb; clear hb; clear zHRY_0 zHRY_1; obtain ⟨zHRY_0, zHRY_1⟩ := (HRY.out.at hpy HB104.out.below).cs2 0 1; go_wp2_with fail; exact ⟨⟨j + 1, c4, by omega, by go_num, HB104.out, HXD.out⟩, by simp [intOf]; omega⟩
    ·
     obtain rfl : N2 = j := by omega
     have hx9 : l5 = c := HXC.out.trans (LS2.out.fin _ c); have HB5 := Lh (show BN B w0 l5 (.slice Ac nc cc) _ from by rw [hx9]; exact HB100.out); clear hx9; obtain ⟨zHR_0, zHR_1, zHR_2, zHR_3⟩ := (HR.out.at hp HB5.out.below).cs4 0 1 2 3; go_wp2_with (at_builtin; refine HB5.out.str rfl _ _ rfl (by rfl) (⟨#[32, 101, 108, 115, 101, 32]⟩ : ByteArray) (by rfl) l6 HLl6.out (by have := HQ.out; omega) ?_); intro VA6 vn6 vc6 w6 hb; have HB6 := Lh hb; clear hb; clear zHR_0 zHR_1 zHR_2 zHR_3; obtain ⟨zHR_0, zHR_1, zHR_2, zHR_3⟩ := (HR.out.at hp HB6.out.below).cs4 0 1 2 3; go_wp2_with fail; refine (IHQ w0 _ B r3 _ l6 l7 y3 (h4 _ rfl) HA3.out HB6.out HE.out HLl7.out (by have := HQ.out; omega)).mono ?_; rintro e w7 ⟨v9, rfl, hb⟩; obtain ⟨VA7, vn7, vc7, rfl, -⟩ := hb.form; have HB7 := Lh hb; clear hb; clear zHR_0 zHR_1 zHR_2 zHR_3; obtain ⟨zHR_0, zHR_1, zHR_2, zHR_3⟩ := (HR.out.at hp HB7.out.below).cs4 0 1 2 3; go_wp2_with (at_builtin; refine HB7.out.str rfl _ _ rfl (by rfl) (⟨#[32, 101, 110, 100]⟩ : ByteArray) (by rfl) l8 HLl8.out (by have := HQ.out; omega) ?_); intro VA8 vn8 vc8 w8 hb; have HB8 := Lh hb; clear hb; clear zHR_0 zHR_1 zHR_2 zHR_3; obtain ⟨zHR_0, zHR_1, zHR_2, zHR_3⟩ := (HR.out.at hp HB8.out.below).cs4 0 1 2 3; go_wp2_with fail; go_ret; exact ⟨_, rfl, HB8.out⟩
end Go.Proofs.YtghcggagpagfoaaGreatDoor
