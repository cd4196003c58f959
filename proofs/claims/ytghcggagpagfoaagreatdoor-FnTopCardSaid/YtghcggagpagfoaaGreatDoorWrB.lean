/-
  The writers' contracts: nodes with loops (n001_1001). Printed by genW.py.
-/
import Derived.Test.YtghcggagpagfoaaGreatDoorWrA
namespace Go.Proofs.YtghcggagpagfoaaGreatDoor
set_option linter.unusedVariables false
set_option linter.unusedSimpArgs false
open Go.ChangeShapes Go.WideShapes Go.ChangeAt Go.RowKit M
set_option maxRecDepth 100000 in
set_option maxHeartbeats 8000000 in
theorem wCO (n : Nat) (IH : WC 66 .ckv n) : WC 41 .co (n + 1) := by
 intro w0 w B b p l l' t hw ha hb he hl hlen; have HB := Lh hb; have HE := Lh he; clear hb he
 cases hw with
 | co xa xts g1 h1 =>
  obtain ⟨hp, v0, hr, f0⟩ := inv_co ha; clear ha; obtain ⟨X0, M0, N0, rfl, hnn0, ls0⟩ := FV.ls .ckv h1 f0; have LS0 := Lh ls0; have len0 := ls0.len
  have bnd0 : N0 ≤ 3 := by have := g1; omega
  clear ls0 f0
  by_cases hz : N0 = 0
  ·
   have hz2 : xts = [] := List.length_eq_zero_iff.1 (len0.trans hz); subst hz hz2; have HR := Lh hr; clear hr len0 hnn0; obtain ⟨l1, hl1⟩ : ∃ x, x = l ++ [123, 125] := ⟨_, rfl⟩
   have ql1 : l.length + 2 ≤ l1.length := by rw [hl1, List.length_append]; exact Nat.le_refl _
   have hX : l' = l1 := by rw [hl]; rw [hl1]; rfl
   rw [hX] at hlen; have HQ := Lh (And.intro hlen ql1); have HLl1 := Lh hl1; rw [hX]; clear hX hlen hl ql1 hl1; have zHR_0 := (HR.out.at hp HB.out.below).cell 0; go_enter Tryz.func41, Tryz.ntmps41; go_wp2_with fail; refine (HB.out.wstr (⟨#[123, 125]⟩ : ByteArray) l1 HLl1.out (by have := HQ.out; omega)).mono ?_; rintro e w1 ⟨rfl, hb⟩; have HB1 := Lh hb; clear hb; clear zHR_0; have zHR_0 := (HR.out.at hp HB1.out.below).cell 0; go_wp2_with fail
   first | go_ret | go_end0 | ((try simp only [Exit.inBlock, Exit.then]); first | refine bodyPost_ret (results_none rfl _ _ _) rfl ?_ | refine bodyPost_end (results_none rfl _ _ _) rfl ?_)
   exact ⟨rfl, HB1.out⟩
  ·
   have HR := Lh hr; clear hr hnn0; have HZ := Lh (show ¬ xts.length = 0 by omega); obtain ⟨l1, hl1⟩ : ∃ x, x = l ++ [123, 32] := ⟨_, rfl⟩
   have ql1 : l.length + 2 ≤ l1.length := by rw [hl1, List.length_append]; exact Nat.le_refl _
   obtain ⟨l2, hl2⟩ : ∃ x, x = itr (fun j t l => pr n t (if j = 0 then l else l ++ [44, 32])) xts 0 l1 := ⟨_, rfl⟩
   have ql2 : l1.length ≤ l2.length := by rw [hl2]; exact itrLe (fun j t l => by have h1 := prLe n t l; have h2 := prLe n t (l ++ [44, 32]); rw [List.length_append] at h2; split <;> omega) _ _ _
   obtain ⟨l3, hl3⟩ : ∃ x, x = l2 ++ [32, 125] := ⟨_, rfl⟩
   have ql3 : l2.length + 2 ≤ l3.length := by rw [hl3, List.length_append]; exact Nat.le_refl _
   have hX : l' = l3 := by rw [hl]; rw [hl3, hl2, hl1]; show (if xts.length = 0 then _ else _) = _; rw [if_neg HZ.out]; (try rfl)
   rw [hX] at hlen; have HQ := Lh (And.intro hlen (And.intro ql1 (And.intro ql2 ql3))); have HLl1 := Lh hl1; have HLl2 := Lh hl2; have HLl3 := Lh hl3; rw [hX]; clear hX hlen hl ql1 ql2 ql3 hl1 hl2 hl3; have zHR_0 := (HR.out.at hp HB.out.below).cell 0; go_enter Tryz.func41, Tryz.ntmps41; go_wp2_with fail; refine (HB.out.wstr (⟨#[123, 32]⟩ : ByteArray) l1 HLl1.out (by have := HQ.out; omega)).mono ?_; rintro e w1 ⟨rfl, hb⟩; have HB1 := Lh hb; clear hb; clear zHR_0; have zHR_0 := (HR.out.at hp HB1.out.below).cell 0; go_wp2_with fail; go_loopw [21] (fun t wr => ∃ (j : Nat) (c : L8), j ≤ N0 ∧ t = .int .i64 j ∧ BS B w0 b c wr ∧ l2 = itr (fun j t l => pr n t (if j = 0 then l else l ++ [44, 32])) (xts.drop j) j c) (fun t _ => N0 - (intOf t).toNat)
   case atStart =>
    exact ⟨0, l1, Nat.zero_le _, rfl, HB1.out, HLl2.out⟩
   case round =>
    obtain ⟨j, c, hj, rfl, hb, hx⟩ := hrel; have HB100 := Lh hb; have HXC := Lh hx; clear hb hx
    by_cases hlt : j < N0
    ·
     obtain ⟨ab, ao, q, t, hA, hcl, hst, hat, hW⟩ := LS0.out.kid HB100.out.below hlt (fun j t l => pr n t (if j = 0 then l else l ++ [44, 32])) c; subst hA; have hc := hcl _ HB100.out.below; have HST := Lh hst; have HAT := Lh hat; clear hcl hst hat
     by_cases hj0 : 0 < j
     ·
      obtain ⟨c1, hc1⟩ : ∃ x, x = c ++ [44, 32] := ⟨_, rfl⟩
      have qc1 : c.length + 2 ≤ c1.length := by rw [hc1, List.length_append]; exact Nat.le_refl _
      obtain ⟨c2, hc2⟩ : ∃ x, x = pr n t c1 := ⟨_, rfl⟩
      have qc2 : c1.length ≤ c2.length := by rw [hc2]; exact prLe _ _ _
      have hf9 : (fun j t l => pr n t (if j = 0 then l else l ++ [44, 32])) j t c = c2 := by rw [hc2, hc1]; show pr n t (if j = 0 then c else c ++ [44, 32]) = _; rw [if_neg (by omega)]
      have hx8 : l2 = itr (fun j t l => pr n t (if j = 0 then l else l ++ [44, 32])) (xts.drop (j + 1)) (j + 1) c2 := by rw [← hf9]; exact HXC.out.trans HST.out
      have q9 : c2.length ≤ l2.length := by rw [hx8]; exact itrLe (fun j t l => by have h1 := prLe n t l; have h2 := prLe n t (l ++ [44, 32]); rw [List.length_append] at h2; split <;> omega) _ _ _
      have HXD := Lh hx8; have HQC := Lh ((And.intro qc1 (And.intro qc2 q9))); have HLc1 := Lh hc1; have HLc2 := Lh hc2; clear hf9 hx8 q9 qc1 qc2 hc1 hc2; go_wp2_with fail; refine (HB100.out.wstr (⟨#[44, 32]⟩ : ByteArray) c1 HLc1.out (by have := HQ.out; have := HQC.out; omega)).mono ?_; rintro e w101 ⟨rfl, hb⟩; have HB101 := Lh hb; clear hb; go_wp2_with fail; refine (IH w0 _ B b q c1 c2 t hW HAT.out HB101.out HE.out HLc2.out (by have := HQ.out; have := HQC.out; omega)).mono ?_; rintro e w102 ⟨rfl, hb⟩; have HB102 := Lh hb; clear hb; go_wp2_with fail; exact ⟨⟨j + 1, c2, by omega, by go_num, HB102.out, HXD.out⟩, by simp [intOf]; omega⟩
     ·
      obtain ⟨c1, hc1⟩ : ∃ x, x = pr n t c := ⟨_, rfl⟩
      have qc1 : c.length ≤ c1.length := by rw [hc1]; exact prLe _ _ _
      have hf9 : (fun j t l => pr n t (if j = 0 then l else l ++ [44, 32])) j t c = c1 := by rw [hc1]; show pr n t (if j = 0 then c else c ++ [44, 32]) = _; rw [if_pos (by omega)]
      have hx8 : l2 = itr (fun j t l => pr n t (if j = 0 then l else l ++ [44, 32])) (xts.drop (j + 1)) (j + 1) c1 := by rw [← hf9]; exact HXC.out.trans HST.out
      have q9 : c1.length ≤ l2.length := by rw [hx8]; exact itrLe (fun j t l => by have h1 := prLe n t l; have h2 := prLe n t (l ++ [44, 32]); rw [List.length_append] at h2; split <;> omega) _ _ _
      have HXD := Lh hx8; have HQC := Lh ((And.intro qc1 q9)); have HLc1 := Lh hc1; clear hf9 hx8 q9 qc1 hc1; go_wp2_with fail; refine (IH w0 _ B b q c c1 t hW HAT.out HB100.out HE.out HLc1.out (by have := HQ.out; have := HQC.out; omega)).mono ?_; rintro e w101 ⟨rfl, hb⟩; have HB101 := Lh hb; clear hb; go_wp2_with fail; exact ⟨⟨j + 1, c1, by omega, by go_num, HB101.out, HXD.out⟩, by simp [intOf]; omega⟩
    ·
     obtain rfl : N0 = j := by omega
     have hx9 : l2 = c := HXC.out.trans (LS0.out.fin _ c); have HB2 := Lh (show BS B w0 b l2 _ from by rw [hx9]; exact HB100.out); clear hx9; have zHR_0 := (HR.out.at hp HB2.out.below).cell 0; go_wp2_with fail; refine (HB2.out.wstr (⟨#[32, 125]⟩ : ByteArray) l3 HLl3.out (by have := HQ.out; omega)).mono ?_; rintro e w3 ⟨rfl, hb⟩; have HB3 := Lh hb; clear hb; clear zHR_0; have zHR_0 := (HR.out.at hp HB3.out.below).cell 0; go_wp2_with fail
     first | go_ret | go_end0 | ((try simp only [Exit.inBlock, Exit.then]); first | refine bodyPost_ret (results_none rfl _ _ _) rfl ?_ | refine bodyPost_end (results_none rfl _ _ _) rfl ?_)
     exact ⟨rfl, HB3.out⟩
set_option maxRecDepth 100000 in
set_option maxHeartbeats 8000000 in
theorem wOB (n : Nat) (IH : WC 75 .okv n) : WC 53 .ob (n + 1) := by
 intro w0 w B b p l l' t hw ha hb he hl hlen; have HB := Lh hb; have HE := Lh he; clear hb he
 cases hw with
 | ob xa xts g1 h1 =>
  obtain ⟨hp, v0, hr, f0⟩ := inv_ob ha; clear ha; obtain ⟨X0, M0, N0, rfl, hnn0, ls0⟩ := FV.ls .okv h1 f0; have LS0 := Lh ls0; have len0 := ls0.len
  have bnd0 : N0 ≤ 3 := by have := g1; omega
  clear ls0 f0
  by_cases hz : N0 = 0
  ·
   have hz2 : xts = [] := List.length_eq_zero_iff.1 (len0.trans hz); subst hz hz2; have HR := Lh hr; clear hr len0 hnn0; obtain ⟨l1, hl1⟩ : ∃ x, x = l ++ [123, 125] := ⟨_, rfl⟩
   have ql1 : l.length + 2 ≤ l1.length := by rw [hl1, List.length_append]; exact Nat.le_refl _
   have hX : l' = l1 := by rw [hl]; rw [hl1]; rfl
   rw [hX] at hlen; have HQ := Lh (And.intro hlen ql1); have HLl1 := Lh hl1; rw [hX]; clear hX hlen hl ql1 hl1; have zHR_0 := (HR.out.at hp HB.out.below).cell 0; go_enter Tryz.func53, Tryz.ntmps53; go_wp2_with fail; refine (HB.out.wstr (⟨#[123, 125]⟩ : ByteArray) l1 HLl1.out (by have := HQ.out; omega)).mono ?_; rintro e w1 ⟨rfl, hb⟩; have HB1 := Lh hb; clear hb; clear zHR_0; have zHR_0 := (HR.out.at hp HB1.out.below).cell 0; go_wp2_with fail
   first | go_ret | go_end0 | ((try simp only [Exit.inBlock, Exit.then]); first | refine bodyPost_ret (results_none rfl _ _ _) rfl ?_ | refine bodyPost_end (results_none rfl _ _ _) rfl ?_)
   exact ⟨rfl, HB1.out⟩
  ·
   have HR := Lh hr; clear hr hnn0; have HZ := Lh (show ¬ xts.length = 0 by omega); obtain ⟨l1, hl1⟩ : ∃ x, x = l ++ [123, 32] := ⟨_, rfl⟩
   have ql1 : l.length + 2 ≤ l1.length := by rw [hl1, List.length_append]; exact Nat.le_refl _
   obtain ⟨l2, hl2⟩ : ∃ x, x = itr (fun j t l => pr n t (if j = 0 then l else l ++ [44, 32])) xts 0 l1 := ⟨_, rfl⟩
   have ql2 : l1.length ≤ l2.length := by rw [hl2]; exact itrLe (fun j t l => by have h1 := prLe n t l; have h2 := prLe n t (l ++ [44, 32]); rw [List.length_append] at h2; split <;> omega) _ _ _
   obtain ⟨l3, hl3⟩ : ∃ x, x = l2 ++ [32, 125] := ⟨_, rfl⟩
   have ql3 : l2.length + 2 ≤ l3.length := by rw [hl3, List.length_append]; exact Nat.le_refl _
   have hX : l' = l3 := by rw [hl]; rw [hl3, hl2, hl1]; show (if xts.length = 0 then _ else _) = _; rw [if_neg HZ.out]; (try rfl)
   rw [hX] at hlen; have HQ := Lh (And.intro hlen (And.intro ql1 (And.intro ql2 ql3))); have HLl1 := Lh hl1; have HLl2 := Lh hl2; have HLl3 := Lh hl3; rw [hX]; clear hX hlen hl ql1 ql2 ql3 hl1 hl2 hl3; have zHR_0 := (HR.out.at hp HB.out.below).cell 0; go_enter Tryz.func53, Tryz.ntmps53; go_wp2_with fail; refine (HB.out.wstr (⟨#[123, 32]⟩ : ByteArray) l1 HLl1.out (by have := HQ.out; omega)).mono ?_; rintro e w1 ⟨rfl, hb⟩; have HB1 := Lh hb; clear hb; clear zHR_0; have zHR_0 := (HR.out.at hp HB1.out.below).cell 0; go_wp2_with fail; go_loopw [21] (fun t wr => ∃ (j : Nat) (c : L8), j ≤ N0 ∧ t = .int .i64 j ∧ BS B w0 b c wr ∧ l2 = itr (fun j t l => pr n t (if j = 0 then l else l ++ [44, 32])) (xts.drop j) j c) (fun t _ => N0 - (intOf t).toNat)
   case atStart =>
    exact ⟨0, l1, Nat.zero_le _, rfl, HB1.out, HLl2.out⟩
   case round =>
    obtain ⟨j, c, hj, rfl, hb, hx⟩ := hrel; have HB100 := Lh hb; have HXC := Lh hx; clear hb hx
    by_cases hlt : j < N0
    ·
     obtain ⟨ab, ao, q, t, hA, hcl, hst, hat, hW⟩ := LS0.out.kid HB100.out.below hlt (fun j t l => pr n t (if j = 0 then l else l ++ [44, 32])) c; subst hA; have hc := hcl _ HB100.out.below; have HST := Lh hst; have HAT := Lh hat; clear hcl hst hat
     by_cases hj0 : 0 < j
     ·
      obtain ⟨c1, hc1⟩ : ∃ x, x = c ++ [44, 32] := ⟨_, rfl⟩
      have qc1 : c.length + 2 ≤ c1.length := by rw [hc1, List.length_append]; exact Nat.le_refl _
      obtain ⟨c2, hc2⟩ : ∃ x, x = pr n t c1 := ⟨_, rfl⟩
      have qc2 : c1.length ≤ c2.length := by rw [hc2]; exact prLe _ _ _
      have hf9 : (fun j t l => pr n t (if j = 0 then l else l ++ [44, 32])) j t c = c2 := by rw [hc2, hc1]; show pr n t (if j = 0 then c else c ++ [44, 32]) = _; rw [if_neg (by omega)]
      have hx8 : l2 = itr (fun j t l => pr n t (if j = 0 then l else l ++ [44, 32])) (xts.drop (j + 1)) (j + 1) c2 := by rw [← hf9]; exact HXC.out.trans HST.out
      have q9 : c2.length ≤ l2.length := by rw [hx8]; exact itrLe (fun j t l => by have h1 := prLe n t l; have h2 := prLe n t (l ++ [44, 32]); rw [List.length_append] at h2; split <;> omega) _ _ _
      have HXD := Lh hx8; have HQC := Lh ((And.intro qc1 (And.intro qc2 q9))); have HLc1 := Lh hc1; have HLc2 := Lh hc2; clear hf9 hx8 q9 qc1 qc2 hc1 hc2; go_wp2_with fail; refine (HB100.out.wstr (⟨#[44, 32]⟩ : ByteArray) c1 HLc1.out (by have := HQ.out; have := HQC.out; omega)).mono ?_; rintro e w101 ⟨rfl, hb⟩; have HB101 := Lh hb; clear hb; go_wp2_with fail; refine (IH w0 _ B b q c1 c2 t hW HAT.out HB101.out HE.out HLc2.out (by have := HQ.out; have := HQC.out; omega)).mono ?_; rintro e w102 ⟨rfl, hb⟩; have HB102 := Lh hb; clear hb; go_wp2_with fail; exact ⟨⟨j + 1, c2, by omega, by go_num, HB102.out, HXD.out⟩, by simp [intOf]; omega⟩
     ·
      obtain ⟨c1, hc1⟩ : ∃ x, x = pr n t c := ⟨_, rfl⟩
      have qc1 : c.length ≤ c1.length := by rw [hc1]; exact prLe _ _ _
      have hf9 : (fun j t l => pr n t (if j = 0 then l else l ++ [44, 32])) j t c = c1 := by rw [hc1]; show pr n t (if j = 0 then c else c ++ [44, 32]) = _; rw [if_pos (by omega)]
      have hx8 : l2 = itr (fun j t l => pr n t (if j = 0 then l else l ++ [44, 32])) (xts.drop (j + 1)) (j + 1) c1 := by rw [← hf9]; exact HXC.out.trans HST.out
      have q9 : c1.length ≤ l2.length := by rw [hx8]; exact itrLe (fun j t l => by have h1 := prLe n t l; have h2 := prLe n t (l ++ [44, 32]); rw [List.length_append] at h2; split <;> omega) _ _ _
      have HXD := Lh hx8; have HQC := Lh ((And.intro qc1 q9)); have HLc1 := Lh hc1; clear hf9 hx8 q9 qc1 hc1; go_wp2_with fail; refine (IH w0 _ B b q c c1 t hW HAT.out HB100.out HE.out HLc1.out (by have := HQ.out; have := HQC.out; omega)).mono ?_; rintro e w101 ⟨rfl, hb⟩; have HB101 := Lh hb; clear hb; go_wp2_with fail; exact ⟨⟨j + 1, c1, by omega, by go_num, HB101.out, HXD.out⟩, by simp [intOf]; omega⟩
    ·
     obtain rfl : N0 = j := by omega
     have hx9 : l2 = c := HXC.out.trans (LS0.out.fin _ c); have HB2 := Lh (show BS B w0 b l2 _ from by rw [hx9]; exact HB100.out); clear hx9; have zHR_0 := (HR.out.at hp HB2.out.below).cell 0; go_wp2_with fail; refine (HB2.out.wstr (⟨#[32, 125]⟩ : ByteArray) l3 HLl3.out (by have := HQ.out; omega)).mono ?_; rintro e w3 ⟨rfl, hb⟩; have HB3 := Lh hb; clear hb; clear zHR_0; have zHR_0 := (HR.out.at hp HB3.out.below).cell 0; go_wp2_with fail
     first | go_ret | go_end0 | ((try simp only [Exit.inBlock, Exit.then]); first | refine bodyPost_ret (results_none rfl _ _ _) rfl ?_ | refine bodyPost_end (results_none rfl _ _ _) rfl ?_)
     exact ⟨rfl, HB3.out⟩
set_option maxRecDepth 100000 in
set_option maxHeartbeats 8000000 in
theorem wCA (n : Nat) (IH : WC 78 .ct n) : WC 83 .ca (n + 1) := by
 intro w0 w B b p l l' t hw ha hb he hl hlen; have HB := Lh hb; have HE := Lh he; clear hb he
 cases hw with
 | ca xa xts g1 h1 =>
  obtain ⟨hp, v0, hr, f0⟩ := inv_ca ha; clear ha; obtain ⟨X0, M0, N0, rfl, hnn0, ls0⟩ := FV.ls .ct h1 f0; have LS0 := Lh ls0; have len0 := ls0.len
  have bnd0 : N0 ≤ 3 := by have := g1; omega
  clear ls0 f0; have HR := Lh hr; clear hr hnn0; obtain ⟨l1, hl1⟩ : ∃ x, x = l ++ [91] := ⟨_, rfl⟩
  have ql1 : l.length + 1 ≤ l1.length := by rw [hl1, List.length_append]; exact Nat.le_refl _
  obtain ⟨l2, hl2⟩ : ∃ x, x = itr (fun j t l => pr n t (if j = 0 then l else l ++ [44, 32])) xts 0 l1 := ⟨_, rfl⟩
  have ql2 : l1.length ≤ l2.length := by rw [hl2]; exact itrLe (fun j t l => by have h1 := prLe n t l; have h2 := prLe n t (l ++ [44, 32]); rw [List.length_append] at h2; split <;> omega) _ _ _
  obtain ⟨l3, hl3⟩ : ∃ x, x = l2 ++ [93] := ⟨_, rfl⟩
  have ql3 : l2.length + 1 ≤ l3.length := by rw [hl3, List.length_append]; exact Nat.le_refl _
  have hX : l' = l3 := by rw [hl]; rw [hl3, hl2, hl1]; rfl
  rw [hX] at hlen; have HQ := Lh (And.intro hlen (And.intro ql1 (And.intro ql2 ql3))); have HLl1 := Lh hl1; have HLl2 := Lh hl2; have HLl3 := Lh hl3; rw [hX]; clear hX hlen hl ql1 ql2 ql3 hl1 hl2 hl3; have zHR_0 := (HR.out.at hp HB.out.below).cell 0; go_enter Tryz.func83, Tryz.ntmps83; go_wp2_with fail; refine (HB.out.wbyte 91 91 rfl l1 HLl1.out (by have := HQ.out; omega)).mono ?_; rintro e w1 ⟨rfl, hb⟩; have HB1 := Lh hb; clear hb; clear zHR_0; have zHR_0 := (HR.out.at hp HB1.out.below).cell 0; go_wp2_with fail; go_loopw [13] (fun t wr => ∃ (j : Nat) (c : L8), j ≤ N0 ∧ t = .int .i64 j ∧ BS B w0 b c wr ∧ l2 = itr (fun j t l => pr n t (if j = 0 then l else l ++ [44, 32])) (xts.drop j) j c) (fun t _ => N0 - (intOf t).toNat)
  case atStart =>
   exact ⟨0, l1, Nat.zero_le _, rfl, HB1.out, HLl2.out⟩
  case round =>
   obtain ⟨j, c, hj, rfl, hb, hx⟩ := hrel; have HB100 := Lh hb; have HXC := Lh hx; clear hb hx
   by_cases hlt : j < N0
   ·
    obtain ⟨ab, ao, q, t, hA, hcl, hst, hat, hW⟩ := LS0.out.kid HB100.out.below hlt (fun j t l => pr n t (if j = 0 then l else l ++ [44, 32])) c; subst hA; have hc := hcl _ HB100.out.below; have HST := Lh hst; have HAT := Lh hat; clear hcl hst hat
    by_cases hj0 : 0 < j
    ·
     obtain ⟨c1, hc1⟩ : ∃ x, x = c ++ [44, 32] := ⟨_, rfl⟩
     have qc1 : c.length + 2 ≤ c1.length := by rw [hc1, List.length_append]; exact Nat.le_refl _
     obtain ⟨c2, hc2⟩ : ∃ x, x = pr n t c1 := ⟨_, rfl⟩
     have qc2 : c1.length ≤ c2.length := by rw [hc2]; exact prLe _ _ _
     have hf9 : (fun j t l => pr n t (if j = 0 then l else l ++ [44, 32])) j t c = c2 := by rw [hc2, hc1]; show pr n t (if j = 0 then c else c ++ [44, 32]) = _; rw [if_neg (by omega)]
     have hx8 : l2 = itr (fun j t l => pr n t (if j = 0 then l else l ++ [44, 32])) (xts.drop (j + 1)) (j + 1) c2 := by rw [← hf9]; exact HXC.out.trans HST.out
     have q9 : c2.length ≤ l2.length := by rw [hx8]; exact itrLe (fun j t l => by have h1 := prLe n t l; have h2 := prLe n t (l ++ [44, 32]); rw [List.length_append] at h2; split <;> omega) _ _ _
     have HXD := Lh hx8; have HQC := Lh ((And.intro qc1 (And.intro qc2 q9))); have HLc1 := Lh hc1; have HLc2 := Lh hc2; clear hf9 hx8 q9 qc1 qc2 hc1 hc2; go_wp2_with fail; refine (HB100.out.wstr (⟨#[44, 32]⟩ : ByteArray) c1 HLc1.out (by have := HQ.out; have := HQC.out; omega)).mono ?_; rintro e w101 ⟨rfl, hb⟩; have HB101 := Lh hb; clear hb; go_wp2_with fail; refine (IH w0 _ B b q c1 c2 t hW HAT.out HB101.out HE.out HLc2.out (by have := HQ.out; have := HQC.out; omega)).mono ?_; rintro e w102 ⟨rfl, hb⟩; have HB102 := Lh hb; clear hb; go_wp2_with fail; exact ⟨⟨j + 1, c2, by omega, by go_num, HB102.out, HXD.out⟩, by simp [intOf]; omega⟩
    ·
     obtain ⟨c1, hc1⟩ : ∃ x, x = pr n t c := ⟨_, rfl⟩
     have qc1 : c.length ≤ c1.length := by rw [hc1]; exact prLe _ _ _
     have hf9 : (fun j t l => pr n t (if j = 0 then l else l ++ [44, 32])) j t c = c1 := by rw [hc1]; show pr n t (if j = 0 then c else c ++ [44, 32]) = _; rw [if_pos (by omega)]
     have hx8 : l2 = itr (fun j t l => pr n t (if j = 0 then l else l ++ [44, 32])) (xts.drop (j + 1)) (j + 1) c1 := by rw [← hf9]; exact HXC.out.trans HST.out
     have q9 : c1.length ≤ l2.length := by rw [hx8]; exact itrLe (fun j t l => by have h1 := prLe n t l; have h2 := prLe n t (l ++ [44, 32]); rw [List.length_append] at h2; split <;> omega) _ _ _
     have HXD := Lh hx8; have HQC := Lh ((And.intro qc1 q9)); have HLc1 := Lh hc1; clear hf9 hx8 q9 qc1 hc1; go_wp2_with fail; refine (IH w0 _ B b q c c1 t hW HAT.out HB100.out HE.out HLc1.out (by have := HQ.out; have := HQC.out; omega)).mono ?_; rintro e w101 ⟨rfl, hb⟩; have HB101 := Lh hb; clear hb; go_wp2_with fail; exact ⟨⟨j + 1, c1, by omega, by go_num, HB101.out, HXD.out⟩, by simp [intOf]; omega⟩
   ·
    obtain rfl : N0 = j := by omega
    have hx9 : l2 = c := HXC.out.trans (LS0.out.fin _ c); have HB2 := Lh (show BS B w0 b l2 _ from by rw [hx9]; exact HB100.out); clear hx9; have zHR_0 := (HR.out.at hp HB2.out.below).cell 0; go_wp2_with fail; refine (HB2.out.wbyte 93 93 rfl l3 HLl3.out (by have := HQ.out; omega)).mono ?_; rintro e w3 ⟨rfl, hb⟩; have HB3 := Lh hb; clear hb; clear zHR_0; have zHR_0 := (HR.out.at hp HB3.out.below).cell 0; go_wp2_with fail
    first | go_ret | go_end0 | ((try simp only [Exit.inBlock, Exit.then]); first | refine bodyPost_ret (results_none rfl _ _ _) rfl ?_ | refine bodyPost_end (results_none rfl _ _ _) rfl ?_)
    exact ⟨rfl, HB3.out⟩
set_option maxRecDepth 100000 in
set_option maxHeartbeats 8000000 in
theorem wPT (n : Nat) (IHP : WC 45 .pt n) (IHO : WC 68 .po n) : WC 45 .pt (n + 1) := by
 intro w0 w B b p l l' t hw ha hb he hl hlen; have HB := Lh hb; have HE := Lh he; clear hb he
 cases hw with
 | pt xn xa xb xar xob g1 h1 g2 h2 =>
  obtain ⟨hp, v1, v2, hr, f1, f2⟩ := inv_pt ha; clear ha; obtain ⟨X1, M1, N1, rfl, hnn1, ls1⟩ := FV.ls .pt h1 f1; have LS1 := Lh ls1; have len1 := ls1.len
  have bnd1 : N1 ≤ 3 := by have := g1; omega
  clear ls1 f1; obtain ⟨X2, M2, N2, rfl, hnn2, ls2⟩ := FV.ls .po h2 f2; have LS2 := Lh ls2; have len2 := ls2.len
  have bnd2 : N2 ≤ 3 := by have := g2; omega
  clear ls2 f2
  by_cases hk : xn.size = 0
  ·
   obtain rfl := isE hk; clear hk hnn1 hnn2
   by_cases hz : N1 = 0
   ·
    have hz2 : xar = [] := List.length_eq_zero_iff.1 (len1.trans hz); subst hz hz2
    by_cases hy : N2 = 0
    ·
     have hy2 : xob = [] := List.length_eq_zero_iff.1 (len2.trans hy); subst hy hy2; have HR := Lh hr; clear hr len1 len2
     have hX : l' = l := by rw [hl]; rfl
     rw [hX] at hlen; have HQ := Lh (And.intro hlen trivial); rw [hX]; clear hX hlen hl; obtain ⟨zHR_0, zHR_1, zHR_2⟩ := (HR.out.at hp HB.out.below).cs3 0 1 2; go_enter Tryz.func45, Tryz.ntmps45; go_wp2_with fail
     first | go_ret | go_end0 | ((try simp only [Exit.inBlock, Exit.then]); first | refine bodyPost_ret (results_none rfl _ _ _) rfl ?_ | refine bodyPost_end (results_none rfl _ _ _) rfl ?_)
     exact ⟨rfl, HB.out⟩
    ·
     have HR := Lh hr; clear hr; have HZ := Lh (show xob.length ≠ 0 by omega)
     have hy3 : 0 < N2 := by omega
     obtain ⟨l1, hl1⟩ : ∃ x, x = l ++ [123] := ⟨_, rfl⟩
     have ql1 : l.length + 1 ≤ l1.length := by rw [hl1, List.length_append]; exact Nat.le_refl _
     obtain ⟨l2, hl2⟩ : ∃ x, x = itr (fun j t l => pr n t (if j = 0 then l else l ++ [44, 32])) xob 0 l1 := ⟨_, rfl⟩
     have ql2 : l1.length ≤ l2.length := by rw [hl2]; exact itrLe (fun j t l => by have h1 := prLe n t l; have h2 := prLe n t (l ++ [44, 32]); rw [List.length_append] at h2; split <;> omega) _ _ _
     obtain ⟨l3, hl3⟩ : ∃ x, x = l2 ++ [125] := ⟨_, rfl⟩
     have ql3 : l2.length + 1 ≤ l3.length := by rw [hl3, List.length_append]; exact Nat.le_refl _
     have hX : l' = l3 := by rw [hl]; rw [hl3, hl2, hl1]; show (if xob.length ≠ 0 then _ else _) = _; rw [if_pos HZ.out]; (try rfl)
     rw [hX] at hlen; have HQ := Lh (And.intro hlen (And.intro ql1 (And.intro ql2 ql3))); have HLl1 := Lh hl1; have HLl2 := Lh hl2; have HLl3 := Lh hl3; rw [hX]; clear hX hlen hl ql1 ql2 ql3 hl1 hl2 hl3; obtain ⟨zHR_0, zHR_1, zHR_2⟩ := (HR.out.at hp HB.out.below).cs3 0 1 2; go_enter Tryz.func45, Tryz.ntmps45; go_wp2_with fail; refine (HB.out.wbyte 123 123 rfl l1 HLl1.out (by have := HQ.out; omega)).mono ?_; rintro e w1 ⟨rfl, hb⟩; have HB1 := Lh hb; clear hb; clear zHR_0 zHR_1 zHR_2; obtain ⟨zHR_0, zHR_1, zHR_2⟩ := (HR.out.at hp HB1.out.below).cs3 0 1 2; go_wp2_with fail; go_loopw [60] (fun t wr => ∃ (j : Nat) (c : L8), j ≤ N2 ∧ t = .int .i64 j ∧ BS B w0 b c wr ∧ l2 = itr (fun j t l => pr n t (if j = 0 then l else l ++ [44, 32])) (xob.drop j) j c) (fun t _ => N2 - (intOf t).toNat)
     case atStart =>
      exact ⟨0, l1, Nat.zero_le _, rfl, HB1.out, HLl2.out⟩
     case round =>
      obtain ⟨j, c, hj, rfl, hb, hx⟩ := hrel; have HB100 := Lh hb; have HXC := Lh hx; clear hb hx
      by_cases hlt : j < N2
      ·
       obtain ⟨ab, ao, q, t, hA, hcl, hst, hat, hW⟩ := LS2.out.kid HB100.out.below hlt (fun j t l => pr n t (if j = 0 then l else l ++ [44, 32])) c; subst hA; have hc := hcl _ HB100.out.below; have HST := Lh hst; have HAT := Lh hat; clear hcl hst hat
       by_cases hj0 : 0 < j
       ·
        obtain ⟨c1, hc1⟩ : ∃ x, x = c ++ [44, 32] := ⟨_, rfl⟩
        have qc1 : c.length + 2 ≤ c1.length := by rw [hc1, List.length_append]; exact Nat.le_refl _
        obtain ⟨c2, hc2⟩ : ∃ x, x = pr n t c1 := ⟨_, rfl⟩
        have qc2 : c1.length ≤ c2.length := by rw [hc2]; exact prLe _ _ _
        have hf9 : (fun j t l => pr n t (if j = 0 then l else l ++ [44, 32])) j t c = c2 := by rw [hc2, hc1]; show pr n t (if j = 0 then c else c ++ [44, 32]) = _; rw [if_neg (by omega)]
        have hx8 : l2 = itr (fun j t l => pr n t (if j = 0 then l else l ++ [44, 32])) (xob.drop (j + 1)) (j + 1) c2 := by rw [← hf9]; exact HXC.out.trans HST.out
        have q9 : c2.length ≤ l2.length := by rw [hx8]; exact itrLe (fun j t l => by have h1 := prLe n t l; have h2 := prLe n t (l ++ [44, 32]); rw [List.length_append] at h2; split <;> omega) _ _ _
        have HXD := Lh hx8; have HQC := Lh ((And.intro qc1 (And.intro qc2 q9))); have HLc1 := Lh hc1; have HLc2 := Lh hc2; clear hf9 hx8 q9 qc1 qc2 hc1 hc2; go_wp2_with fail; refine (HB100.out.wstr (⟨#[44, 32]⟩ : ByteArray) c1 HLc1.out (by have := HQ.out; have := HQC.out; omega)).mono ?_; rintro e w101 ⟨rfl, hb⟩; have HB101 := Lh hb; clear hb; go_wp2_with fail; refine (IHO w0 _ B b q c1 c2 t hW HAT.out HB101.out HE.out HLc2.out (by have := HQ.out; have := HQC.out; omega)).mono ?_; rintro e w102 ⟨rfl, hb⟩; have HB102 := Lh hb; clear hb; go_wp2_with fail; exact ⟨⟨j + 1, c2, by omega, by go_num, HB102.out, HXD.out⟩, by simp [intOf]; omega⟩
       ·
        obtain ⟨c1, hc1⟩ : ∃ x, x = pr n t c := ⟨_, rfl⟩
        have qc1 : c.length ≤ c1.length := by rw [hc1]; exact prLe _ _ _
        have hf9 : (fun j t l => pr n t (if j = 0 then l else l ++ [44, 32])) j t c = c1 := by rw [hc1]; show pr n t (if j = 0 then c else c ++ [44, 32]) = _; rw [if_pos (by omega)]
        have hx8 : l2 = itr (fun j t l => pr n t (if j = 0 then l else l ++ [44, 32])) (xob.drop (j + 1)) (j + 1) c1 := by rw [← hf9]; exact HXC.out.trans HST.out
        have q9 : c1.length ≤ l2.length := by rw [hx8]; exact itrLe (fun j t l => by have h1 := prLe n t l; have h2 := prLe n t (l ++ [44, 32]); rw [List.length_append] at h2; split <;> omega) _ _ _
        have HXD := Lh hx8; have HQC := Lh ((And.intro qc1 q9)); have HLc1 := Lh hc1; clear hf9 hx8 q9 qc1 hc1; go_wp2_with fail; refine (IHO w0 _ B b q c c1 t hW HAT.out HB100.out HE.out HLc1.out (by have := HQ.out; have := HQC.out; omega)).mono ?_; rintro e w101 ⟨rfl, hb⟩; have HB101 := Lh hb; clear hb; go_wp2_with fail; exact ⟨⟨j + 1, c1, by omega, by go_num, HB101.out, HXD.out⟩, by simp [intOf]; omega⟩
      ·
       obtain rfl : N2 = j := by omega
       have hx9 : l2 = c := HXC.out.trans (LS2.out.fin _ c); have HB2 := Lh (show BS B w0 b l2 _ from by rw [hx9]; exact HB100.out); clear hx9; obtain ⟨zHR_0, zHR_1, zHR_2⟩ := (HR.out.at hp HB2.out.below).cs3 0 1 2; go_wp2_with fail; refine (HB2.out.wbyte 125 125 rfl l3 HLl3.out (by have := HQ.out; omega)).mono ?_; rintro e w3 ⟨rfl, hb⟩; have HB3 := Lh hb; clear hb; clear zHR_0 zHR_1 zHR_2; obtain ⟨zHR_0, zHR_1, zHR_2⟩ := (HR.out.at hp HB3.out.below).cs3 0 1 2; go_wp2_with fail
       first | go_ret | go_end0 | ((try simp only [Exit.inBlock, Exit.then]); first | refine bodyPost_ret (results_none rfl _ _ _) rfl ?_ | refine bodyPost_end (results_none rfl _ _ _) rfl ?_)
       exact ⟨rfl, HB3.out⟩
   ·
    have HR := Lh hr; clear hr; have HZ := Lh (show xar.length ≠ 0 by omega)
    have hz3 : 0 < N1 := by omega
    obtain ⟨l1, hl1⟩ : ∃ x, x = l ++ [91] := ⟨_, rfl⟩
    have ql1 : l.length + 1 ≤ l1.length := by rw [hl1, List.length_append]; exact Nat.le_refl _
    obtain ⟨l2, hl2⟩ : ∃ x, x = itr (fun j t l => pr n t (if j = 0 then l else l ++ [44, 32])) xar 0 l1 := ⟨_, rfl⟩
    have ql2 : l1.length ≤ l2.length := by rw [hl2]; exact itrLe (fun j t l => by have h1 := prLe n t l; have h2 := prLe n t (l ++ [44, 32]); rw [List.length_append] at h2; split <;> omega) _ _ _
    obtain ⟨l3, hl3⟩ : ∃ x, x = l2 ++ [93] := ⟨_, rfl⟩
    have ql3 : l2.length + 1 ≤ l3.length := by rw [hl3, List.length_append]; exact Nat.le_refl _
    have hX : l' = l3 := by rw [hl]; rw [hl3, hl2, hl1]; show (if xar.length ≠ 0 then _ else _) = _; rw [if_pos HZ.out]; (try rfl)
    rw [hX] at hlen; have HQ := Lh (And.intro hlen (And.intro ql1 (And.intro ql2 ql3))); have HLl1 := Lh hl1; have HLl2 := Lh hl2; have HLl3 := Lh hl3; rw [hX]; clear hX hlen hl ql1 ql2 ql3 hl1 hl2 hl3; obtain ⟨zHR_0, zHR_1, zHR_2⟩ := (HR.out.at hp HB.out.below).cs3 0 1 2; go_enter Tryz.func45, Tryz.ntmps45; go_wp2_with fail; refine (HB.out.wbyte 91 91 rfl l1 HLl1.out (by have := HQ.out; omega)).mono ?_; rintro e w1 ⟨rfl, hb⟩; have HB1 := Lh hb; clear hb; clear zHR_0 zHR_1 zHR_2; obtain ⟨zHR_0, zHR_1, zHR_2⟩ := (HR.out.at hp HB1.out.below).cs3 0 1 2; go_wp2_with fail; go_loopw [32] (fun t wr => ∃ (j : Nat) (c : L8), j ≤ N1 ∧ t = .int .i64 j ∧ BS B w0 b c wr ∧ l2 = itr (fun j t l => pr n t (if j = 0 then l else l ++ [44, 32])) (xar.drop j) j c) (fun t _ => N1 - (intOf t).toNat)
    case atStart =>
     exact ⟨0, l1, Nat.zero_le _, rfl, HB1.out, HLl2.out⟩
    case round =>
     obtain ⟨j, c, hj, rfl, hb, hx⟩ := hrel; have HB100 := Lh hb; have HXC := Lh hx; clear hb hx
     by_cases hlt : j < N1
     ·
      obtain ⟨ab, ao, q, t, hA, hcl, hst, hat, hW⟩ := LS1.out.kid HB100.out.below hlt (fun j t l => pr n t (if j = 0 then l else l ++ [44, 32])) c; subst hA; have hc := hcl _ HB100.out.below; have HST := Lh hst; have HAT := Lh hat; clear hcl hst hat
      by_cases hj0 : 0 < j
      ·
       obtain ⟨c1, hc1⟩ : ∃ x, x = c ++ [44, 32] := ⟨_, rfl⟩
       have qc1 : c.length + 2 ≤ c1.length := by rw [hc1, List.length_append]; exact Nat.le_refl _
       obtain ⟨c2, hc2⟩ : ∃ x, x = pr n t c1 := ⟨_, rfl⟩
       have qc2 : c1.length ≤ c2.length := by rw [hc2]; exact prLe _ _ _
       have hf9 : (fun j t l => pr n t (if j = 0 then l else l ++ [44, 32])) j t c = c2 := by rw [hc2, hc1]; show pr n t (if j = 0 then c else c ++ [44, 32]) = _; rw [if_neg (by omega)]
       have hx8 : l2 = itr (fun j t l => pr n t (if j = 0 then l else l ++ [44, 32])) (xar.drop (j + 1)) (j + 1) c2 := by rw [← hf9]; exact HXC.out.trans HST.out
       have q9 : c2.length ≤ l2.length := by rw [hx8]; exact itrLe (fun j t l => by have h1 := prLe n t l; have h2 := prLe n t (l ++ [44, 32]); rw [List.length_append] at h2; split <;> omega) _ _ _
       have HXD := Lh hx8; have HQC := Lh ((And.intro qc1 (And.intro qc2 q9))); have HLc1 := Lh hc1; have HLc2 := Lh hc2; clear hf9 hx8 q9 qc1 qc2 hc1 hc2; go_wp2_with fail; refine (HB100.out.wstr (⟨#[44, 32]⟩ : ByteArray) c1 HLc1.out (by have := HQ.out; have := HQC.out; omega)).mono ?_; rintro e w101 ⟨rfl, hb⟩; have HB101 := Lh hb; clear hb; go_wp2_with fail; refine (IHP w0 _ B b q c1 c2 t hW HAT.out HB101.out HE.out HLc2.out (by have := HQ.out; have := HQC.out; omega)).mono ?_; rintro e w102 ⟨rfl, hb⟩; have HB102 := Lh hb; clear hb; go_wp2_with fail; exact ⟨⟨j + 1, c2, by omega, by go_num, HB102.out, HXD.out⟩, by simp [intOf]; omega⟩
      ·
       obtain ⟨c1, hc1⟩ : ∃ x, x = pr n t c := ⟨_, rfl⟩
       have qc1 : c.length ≤ c1.length := by rw [hc1]; exact prLe _ _ _
       have hf9 : (fun j t l => pr n t (if j = 0 then l else l ++ [44, 32])) j t c = c1 := by rw [hc1]; show pr n t (if j = 0 then c else c ++ [44, 32]) = _; rw [if_pos (by omega)]
       have hx8 : l2 = itr (fun j t l => pr n t (if j = 0 then l else l ++ [44, 32])) (xar.drop (j + 1)) (j + 1) c1 := by rw [← hf9]; exact HXC.out.trans HST.out
       have q9 : c1.length ≤ l2.length := by rw [hx8]; exact itrLe (fun j t l => by have h1 := prLe n t l; have h2 := prLe n t (l ++ [44, 32]); rw [List.length_append] at h2; split <;> omega) _ _ _
       have HXD := Lh hx8; have HQC := Lh ((And.intro qc1 q9)); have HLc1 := Lh hc1; clear hf9 hx8 q9 qc1 hc1; go_wp2_with fail; refine (IHP w0 _ B b q c c1 t hW HAT.out HB100.out HE.out HLc1.out (by have := HQ.out; have := HQC.out; omega)).mono ?_; rintro e w101 ⟨rfl, hb⟩; have HB101 := Lh hb; clear hb; go_wp2_with fail; exact ⟨⟨j + 1, c1, by omega, by go_num, HB101.out, HXD.out⟩, by simp [intOf]; omega⟩
     ·
      obtain rfl : N1 = j := by omega
      have hx9 : l2 = c := HXC.out.trans (LS1.out.fin _ c); have HB2 := Lh (show BS B w0 b l2 _ from by rw [hx9]; exact HB100.out); clear hx9; obtain ⟨zHR_0, zHR_1, zHR_2⟩ := (HR.out.at hp HB2.out.below).cs3 0 1 2; go_wp2_with fail; refine (HB2.out.wbyte 93 93 rfl l3 HLl3.out (by have := HQ.out; omega)).mono ?_; rintro e w3 ⟨rfl, hb⟩; have HB3 := Lh hb; clear hb; clear zHR_0 zHR_1 zHR_2; obtain ⟨zHR_0, zHR_1, zHR_2⟩ := (HR.out.at hp HB3.out.below).cs3 0 1 2; go_wp2_with fail
      first | go_ret | go_end0 | ((try simp only [Exit.inBlock, Exit.then]); first | refine bodyPost_ret (results_none rfl _ _ _) rfl ?_ | refine bodyPost_end (results_none rfl _ _ _) rfl ?_)
      exact ⟨rfl, HB3.out⟩
  ·
   have hE := isE1 hk; have HK := Lh hk; clear hk; have HR := Lh hr; clear hr; obtain ⟨l1, hl1⟩ : ∃ x, x = l ++ xn.data.toList := ⟨_, rfl⟩
   have ql1 : l.length ≤ l1.length := by rw [hl1, List.length_append]; omega
   have hX : l' = l1 := by rw [hl]; rw [hl1]; show (if xn.size ≠ 0 then _ else _) = _; rw [if_pos HK.out]
   rw [hX] at hlen; have HQ := Lh (And.intro hlen ql1); have HLl1 := Lh hl1; rw [hX]; clear hX hlen hl ql1 hl1; obtain ⟨zHR_0, zHR_1, zHR_2⟩ := (HR.out.at hp HB.out.below).cs3 0 1 2; go_enter Tryz.func45, Tryz.ntmps45; go_wp2_with fail; refine (HB.out.wstr xn l1 HLl1.out (by have := HQ.out; omega)).mono ?_; rintro e w1 ⟨rfl, hb⟩; have HB1 := Lh hb; clear hb; clear zHR_0 zHR_1 zHR_2; obtain ⟨zHR_0, zHR_1, zHR_2⟩ := (HR.out.at hp HB1.out.below).cs3 0 1 2; go_wp2_with fail
   first | go_ret | go_end0 | ((try simp only [Exit.inBlock, Exit.then]); first | refine bodyPost_ret (results_none rfl _ _ _) rfl ?_ | refine bodyPost_end (results_none rfl _ _ _) rfl ?_)
   exact ⟨rfl, HB1.out⟩
set_option maxRecDepth 100000 in
set_option maxHeartbeats 8000000 in
theorem wFN (n : Nat) (IHQ : WC 16 .q n) : WC 52 .fn (n + 1) := by
 intro w0 w B b p l l' t hw ha hb he hl hlen; have HB := Lh hb; have HE := Lh he; clear hb he
 cases hw with
 | fn xn xa xas g1 h1 =>
  obtain ⟨hp, v1, hr, f1⟩ := inv_fn ha; clear ha; obtain ⟨X1, M1, N1, rfl, hnn1, ls1⟩ := FV.ls .q h1 f1; have LS1 := Lh ls1; have len1 := ls1.len
  have bnd1 : N1 ≤ 3 := by have := g1; omega
  clear ls1 f1
  by_cases hz : N1 = 0
  ·
   have hz2 : xas = [] := List.length_eq_zero_iff.1 (len1.trans hz); subst hz hz2; have HR := Lh hr; clear hr len1 hnn1; obtain ⟨l1, hl1⟩ : ∃ x, x = l ++ xn.data.toList := ⟨_, rfl⟩
   have ql1 : l.length ≤ l1.length := by rw [hl1, List.length_append]; omega
   have hX : l' = l1 := by rw [hl]; rw [hl1]; rfl
   rw [hX] at hlen; have HQ := Lh (And.intro hlen ql1); have HLl1 := Lh hl1; rw [hX]; clear hX hlen hl ql1 hl1; obtain ⟨zHR_0, zHR_1⟩ := (HR.out.at hp HB.out.below).cs2 0 1; go_enter Tryz.func52, Tryz.ntmps52; go_wp2_with fail; refine (HB.out.wstr xn l1 HLl1.out (by have := HQ.out; omega)).mono ?_; rintro e w1 ⟨rfl, hb⟩; have HB1 := Lh hb; clear hb; clear zHR_0 zHR_1; obtain ⟨zHR_0, zHR_1⟩ := (HR.out.at hp HB1.out.below).cs2 0 1; go_wp2_with fail
   first | go_ret | go_end0 | ((try simp only [Exit.inBlock, Exit.then]); first | refine bodyPost_ret (results_none rfl _ _ _) rfl ?_ | refine bodyPost_end (results_none rfl _ _ _) rfl ?_)
   exact ⟨rfl, HB1.out⟩
  ·
   have HR := Lh hr; clear hr hnn1; have HZ := Lh (show ¬ xas.length = 0 by omega)
   have hz3 : 0 < N1 := by omega
   obtain ⟨l1, hl1⟩ : ∃ x, x = l ++ xn.data.toList := ⟨_, rfl⟩
   have ql1 : l.length ≤ l1.length := by rw [hl1, List.length_append]; omega
   obtain ⟨l2, hl2⟩ : ∃ x, x = l1 ++ [40] := ⟨_, rfl⟩
   have ql2 : l1.length + 1 ≤ l2.length := by rw [hl2, List.length_append]; exact Nat.le_refl _
   obtain ⟨l3, hl3⟩ : ∃ x, x = itr (fun j t l => pr n t (if j = 0 then l else l ++ [59, 32])) xas 0 l2 := ⟨_, rfl⟩
   have ql3 : l2.length ≤ l3.length := by rw [hl3]; exact itrLe (fun j t l => by have h1 := prLe n t l; have h2 := prLe n t (l ++ [59, 32]); rw [List.length_append] at h2; split <;> omega) _ _ _
   obtain ⟨l4, hl4⟩ : ∃ x, x = l3 ++ [41] := ⟨_, rfl⟩
   have ql4 : l3.length + 1 ≤ l4.length := by rw [hl4, List.length_append]; exact Nat.le_refl _
   have hX : l' = l4 := by rw [hl]; rw [hl4, hl3, hl2, hl1]; show (if xas.length = 0 then _ else _) = _; rw [if_neg HZ.out]; (try rfl)
   rw [hX] at hlen; have HQ := Lh (And.intro hlen (And.intro ql1 (And.intro ql2 (And.intro ql3 ql4)))); have HLl1 := Lh hl1; have HLl2 := Lh hl2; have HLl3 := Lh hl3; have HLl4 := Lh hl4; rw [hX]; clear hX hlen hl ql1 ql2 ql3 ql4 hl1 hl2 hl3 hl4; obtain ⟨zHR_0, zHR_1⟩ := (HR.out.at hp HB.out.below).cs2 0 1; go_enter Tryz.func52, Tryz.ntmps52; go_wp2_with fail; refine (HB.out.wstr xn l1 HLl1.out (by have := HQ.out; omega)).mono ?_; rintro e w1 ⟨rfl, hb⟩; have HB1 := Lh hb; clear hb; clear zHR_0 zHR_1; obtain ⟨zHR_0, zHR_1⟩ := (HR.out.at hp HB1.out.below).cs2 0 1; go_wp2_with fail; refine (HB1.out.wbyte 40 40 rfl l2 HLl2.out (by have := HQ.out; omega)).mono ?_; rintro e w2 ⟨rfl, hb⟩; have HB2 := Lh hb; clear hb; clear zHR_0 zHR_1; obtain ⟨zHR_0, zHR_1⟩ := (HR.out.at hp HB2.out.below).cs2 0 1; go_wp2_with fail; go_loopw [25] (fun t wr => ∃ (j : Nat) (c : L8), j ≤ N1 ∧ t = .int .i64 j ∧ BS B w0 b c wr ∧ l3 = itr (fun j t l => pr n t (if j = 0 then l else l ++ [59, 32])) (xas.drop j) j c) (fun t _ => N1 - (intOf t).toNat)
   case atStart =>
    exact ⟨0, l2, Nat.zero_le _, rfl, HB2.out, HLl3.out⟩
   case round =>
    obtain ⟨j, c, hj, rfl, hb, hx⟩ := hrel; have HB100 := Lh hb; have HXC := Lh hx; clear hb hx
    by_cases hlt : j < N1
    ·
     obtain ⟨ab, ao, q, t, hA, hcl, hst, hat, hW⟩ := LS1.out.kid HB100.out.below hlt (fun j t l => pr n t (if j = 0 then l else l ++ [59, 32])) c; subst hA; have hc := hcl _ HB100.out.below; have HST := Lh hst; have HAT := Lh hat; clear hcl hst hat
     by_cases hj0 : 0 < j
     ·
      obtain ⟨c1, hc1⟩ : ∃ x, x = c ++ [59, 32] := ⟨_, rfl⟩
      have qc1 : c.length + 2 ≤ c1.length := by rw [hc1, List.length_append]; exact Nat.le_refl _
      obtain ⟨c2, hc2⟩ : ∃ x, x = pr n t c1 := ⟨_, rfl⟩
      have qc2 : c1.length ≤ c2.length := by rw [hc2]; exact prLe _ _ _
      have hf9 : (fun j t l => pr n t (if j = 0 then l else l ++ [59, 32])) j t c = c2 := by rw [hc2, hc1]; show pr n t (if j = 0 then c else c ++ [59, 32]) = _; rw [if_neg (by omega)]
      have hx8 : l3 = itr (fun j t l => pr n t (if j = 0 then l else l ++ [59, 32])) (xas.drop (j + 1)) (j + 1) c2 := by rw [← hf9]; exact HXC.out.trans HST.out
      have q9 : c2.length ≤ l3.length := by rw [hx8]; exact itrLe (fun j t l => by have h1 := prLe n t l; have h2 := prLe n t (l ++ [59, 32]); rw [List.length_append] at h2; split <;> omega) _ _ _
      have HXD := Lh hx8; have HQC := Lh ((And.intro qc1 (And.intro qc2 q9))); have HLc1 := Lh hc1; have HLc2 := Lh hc2; clear hf9 hx8 q9 qc1 qc2 hc1 hc2; go_wp2_with fail; refine (HB100.out.wstr (⟨#[59, 32]⟩ : ByteArray) c1 HLc1.out (by have := HQ.out; have := HQC.out; omega)).mono ?_; rintro e w101 ⟨rfl, hb⟩; have HB101 := Lh hb; clear hb; go_wp2_with fail; refine (IHQ w0 _ B b q c1 c2 t hW HAT.out HB101.out HE.out HLc2.out (by have := HQ.out; have := HQC.out; omega)).mono ?_; rintro e w102 ⟨rfl, hb⟩; have HB102 := Lh hb; clear hb; go_wp2_with fail; exact ⟨⟨j + 1, c2, by omega, by go_num, HB102.out, HXD.out⟩, by simp [intOf]; omega⟩
     ·
      obtain ⟨c1, hc1⟩ : ∃ x, x = pr n t c := ⟨_, rfl⟩
      have qc1 : c.length ≤ c1.length := by rw [hc1]; exact prLe _ _ _
      have hf9 : (fun j t l => pr n t (if j = 0 then l else l ++ [59, 32])) j t c = c1 := by rw [hc1]; show pr n t (if j = 0 then c else c ++ [59, 32]) = _; rw [if_pos (by omega)]
      have hx8 : l3 = itr (fun j t l => pr n t (if j = 0 then l else l ++ [59, 32])) (xas.drop (j + 1)) (j + 1) c1 := by rw [← hf9]; exact HXC.out.trans HST.out
      have q9 : c1.length ≤ l3.length := by rw [hx8]; exact itrLe (fun j t l => by have h1 := prLe n t l; have h2 := prLe n t (l ++ [59, 32]); rw [List.length_append] at h2; split <;> omega) _ _ _
      have HXD := Lh hx8; have HQC := Lh ((And.intro qc1 q9)); have HLc1 := Lh hc1; clear hf9 hx8 q9 qc1 hc1; go_wp2_with fail; refine (IHQ w0 _ B b q c c1 t hW HAT.out HB100.out HE.out HLc1.out (by have := HQ.out; have := HQC.out; omega)).mono ?_; rintro e w101 ⟨rfl, hb⟩; have HB101 := Lh hb; clear hb; go_wp2_with fail; exact ⟨⟨j + 1, c1, by omega, by go_num, HB101.out, HXD.out⟩, by simp [intOf]; omega⟩
    ·
     obtain rfl : N1 = j := by omega
     have hx9 : l3 = c := HXC.out.trans (LS1.out.fin _ c); have HB3 := Lh (show BS B w0 b l3 _ from by rw [hx9]; exact HB100.out); clear hx9; obtain ⟨zHR_0, zHR_1⟩ := (HR.out.at hp HB3.out.below).cs2 0 1; go_wp2_with fail; refine (HB3.out.wbyte 41 41 rfl l4 HLl4.out (by have := HQ.out; omega)).mono ?_; rintro e w4 ⟨rfl, hb⟩; have HB4 := Lh hb; clear hb; clear zHR_0 zHR_1; obtain ⟨zHR_0, zHR_1⟩ := (HR.out.at hp HB4.out.below).cs2 0 1; go_wp2_with fail
     first | go_ret | go_end0 | ((try simp only [Exit.inBlock, Exit.then]); first | refine bodyPost_ret (results_none rfl _ _ _) rfl ?_ | refine bodyPost_end (results_none rfl _ _ _) rfl ?_)
     exact ⟨rfl, HB4.out⟩
set_option maxRecDepth 100000 in
set_option maxHeartbeats 8000000 in
theorem wIFE (n : Nat) (IHQ : WC 16 .q n) (IHE : WC 76 .el n) : WC 57 .ife (n + 1) := by
 intro w0 w B b p l l' t hw ha hb he hl hlen; have HB := Lh hb; have HE := Lh he; clear hb he
 cases hw with
 | ife xc xt xa xels xe h1 h2 g3 h3 h4 =>
  obtain ⟨hp, v0, v1, v2, v3, hr, f0, f1, f2, f3⟩ := inv_ife ha; obtain ⟨r0, rfl, a0⟩ := f0; obtain ⟨r1, rfl, a1⟩ := f1; clear ha; have A0 := Lh a0; have A1 := Lh a1; clear a0 a1; obtain ⟨X2, M2, N2, rfl, hnn2, ls2⟩ := FV.ls .el h3 f2; have LS2 := Lh ls2; have len2 := ls2.len
  have bnd2 : N2 ≤ 3 := by have := g3; omega
  clear ls2 f2; rcases FV.pt f3 with ⟨rfl, rfl⟩ | ⟨y3, r3, rfl, rfl, a3⟩
  ·
   have HR := Lh hr; clear hr f3 hnn2; obtain ⟨l1, hl1⟩ : ∃ x, x = l ++ [105, 102, 32] := ⟨_, rfl⟩
   have ql1 : l.length + 3 ≤ l1.length := by rw [hl1, List.length_append]; exact Nat.le_refl _
   obtain ⟨l2, hl2⟩ : ∃ x, x = pr n xc l1 := ⟨_, rfl⟩
   have ql2 : l1.length ≤ l2.length := by rw [hl2]; exact prLe _ _ _
   obtain ⟨l3, hl3⟩ : ∃ x, x = l2 ++ [32, 116, 104, 101, 110, 32] := ⟨_, rfl⟩
   have ql3 : l2.length + 6 ≤ l3.length := by rw [hl3, List.length_append]; exact Nat.le_refl _
   obtain ⟨l4, hl4⟩ : ∃ x, x = pr n xt l3 := ⟨_, rfl⟩
   have ql4 : l3.length ≤ l4.length := by rw [hl4]; exact prLe _ _ _
   obtain ⟨l5, hl5⟩ : ∃ x, x = itr (fun _ t l => pr n t (l ++ [32])) xels 0 l4 := ⟨_, rfl⟩
   have ql5 : l4.length ≤ l5.length := by rw [hl5]; exact itrLe (fun _ t l => by have := prLe n t (l ++ [32]); rw [List.length_append] at this; omega) _ _ _
   obtain ⟨l6, hl6⟩ : ∃ x, x = l5 ++ [32, 101, 110, 100] := ⟨_, rfl⟩
   have ql6 : l5.length + 4 ≤ l6.length := by rw [hl6, List.length_append]; exact Nat.le_refl _
   have hX : l' = l6 := by rw [hl]; rw [hl6, hl5, hl4, hl3, hl2, hl1]; rfl
   rw [hX] at hlen; have HQ := Lh (And.intro hlen (And.intro ql1 (And.intro ql2 (And.intro ql3 (And.intro ql4 (And.intro ql5 ql6)))))); have HLl1 := Lh hl1; have HLl2 := Lh hl2; have HLl3 := Lh hl3; have HLl4 := Lh hl4; have HLl5 := Lh hl5; have HLl6 := Lh hl6; rw [hX]; clear hX hlen hl ql1 ql2 ql3 ql4 ql5 ql6 hl1 hl2 hl3 hl4 hl5 hl6; obtain ⟨zHR_0, zHR_1, zHR_2, zHR_3⟩ := (HR.out.at hp HB.out.below).cs4 0 1 2 3; go_enter Tryz.func57, Tryz.ntmps57; go_wp2_with fail; refine (HB.out.wstr (⟨#[105, 102, 32]⟩ : ByteArray) l1 HLl1.out (by have := HQ.out; omega)).mono ?_; rintro e w1 ⟨rfl, hb⟩; have HB1 := Lh hb; clear hb; clear zHR_0 zHR_1 zHR_2 zHR_3; obtain ⟨zHR_0, zHR_1, zHR_2, zHR_3⟩ := (HR.out.at hp HB1.out.below).cs4 0 1 2 3; go_wp2_with fail; refine (IHQ w0 _ B b r0 l1 l2 xc h1 A0.out HB1.out HE.out HLl2.out (by have := HQ.out; omega)).mono ?_; rintro e w2 ⟨rfl, hb⟩; have HB2 := Lh hb; clear hb; clear zHR_0 zHR_1 zHR_2 zHR_3; obtain ⟨zHR_0, zHR_1, zHR_2, zHR_3⟩ := (HR.out.at hp HB2.out.below).cs4 0 1 2 3; go_wp2_with fail; refine (HB2.out.wstr (⟨#[32, 116, 104, 101, 110, 32]⟩ : ByteArray) l3 HLl3.out (by have := HQ.out; omega)).mono ?_; rintro e w3 ⟨rfl, hb⟩; have HB3 := Lh hb; clear hb; clear zHR_0 zHR_1 zHR_2 zHR_3
   obtain ⟨zHR_0, zHR_1, zHR_2, zHR_3⟩ := (HR.out.at hp HB3.out.below).cs4 0 1 2 3; go_wp2_with fail; refine (IHQ w0 _ B b r1 l3 l4 xt h2 A1.out HB3.out HE.out HLl4.out (by have := HQ.out; omega)).mono ?_; rintro e w4 ⟨rfl, hb⟩; have HB4 := Lh hb; clear hb; clear zHR_0 zHR_1 zHR_2 zHR_3; obtain ⟨zHR_0, zHR_1, zHR_2, zHR_3⟩ := (HR.out.at hp HB4.out.below).cs4 0 1 2 3; go_wp2_with fail; go_loopw [27] (fun t wr => ∃ (j : Nat) (c : L8), j ≤ N2 ∧ t = .int .i64 j ∧ BS B w0 b c wr ∧ l5 = itr (fun _ t l => pr n t (l ++ [32])) (xels.drop j) j c) (fun t _ => N2 - (intOf t).toNat)
   case atStart =>
    exact ⟨0, l4, Nat.zero_le _, rfl, HB4.out, HLl5.out⟩
   case round =>
    obtain ⟨j, c, hj, rfl, hb, hx⟩ := hrel; have HB100 := Lh hb; have HXC := Lh hx; clear hb hx
    by_cases hlt : j < N2
    ·
     obtain ⟨ab, ao, q, t, hA, hcl, hst, hat, hW⟩ := LS2.out.kid HB100.out.below hlt (fun _ t l => pr n t (l ++ [32])) c; subst hA; have hc := hcl _ HB100.out.below; have HST := Lh hst; have HAT := Lh hat; clear hcl hst hat; obtain ⟨c1, hc1⟩ : ∃ x, x = c ++ [32] := ⟨_, rfl⟩
     have qc1 : c.length + 1 ≤ c1.length := by rw [hc1, List.length_append]; exact Nat.le_refl _
     obtain ⟨c2, hc2⟩ : ∃ x, x = pr n t c1 := ⟨_, rfl⟩
     have qc2 : c1.length ≤ c2.length := by rw [hc2]; exact prLe _ _ _
     have hf9 : (fun _ t l => pr n t (l ++ [32])) j t c = c2 := by rw [hc2, hc1]
     have hx8 : l5 = itr (fun _ t l => pr n t (l ++ [32])) (xels.drop (j + 1)) (j + 1) c2 := by rw [← hf9]; exact HXC.out.trans HST.out
     have q9 : c2.length ≤ l5.length := by rw [hx8]; exact itrLe (fun _ t l => by have := prLe n t (l ++ [32]); rw [List.length_append] at this; omega) _ _ _
     have HXD := Lh hx8; have HQC := Lh ((And.intro qc1 (And.intro qc2 q9))); have HLc1 := Lh hc1; have HLc2 := Lh hc2; clear hf9 hx8 q9 qc1 qc2 hc1 hc2; go_wp2_with fail; refine (HB100.out.wbyte 32 32 rfl c1 HLc1.out (by have := HQ.out; have := HQC.out; omega)).mono ?_; rintro e w101 ⟨rfl, hb⟩; have HB101 := Lh hb; clear hb; go_wp2_with fail; refine (IHE w0 _ B b q c1 c2 t hW HAT.out HB101.out HE.out HLc2.out (by have := HQ.out; have := HQC.out; omega)).mono ?_; rintro e w102 ⟨rfl, hb⟩; have HB102 := Lh hb; clear hb; go_wp2_with fail; exact ⟨⟨j + 1, c2, by omega, by go_num, HB102.out, HXD.out⟩, by simp [intOf]; omega⟩
    ·
     obtain rfl : N2 = j := by omega
     have hx9 : l5 = c := HXC.out.trans (LS2.out.fin _ c); have HB5 := Lh (show BS B w0 b l5 _ from by rw [hx9]; exact HB100.out); clear hx9; obtain ⟨zHR_0, zHR_1, zHR_2, zHR_3⟩ := (HR.out.at hp HB5.out.below).cs4 0 1 2 3; go_wp2_with fail; refine (HB5.out.wstr (⟨#[32, 101, 110, 100]⟩ : ByteArray) l6 HLl6.out (by have := HQ.out; omega)).mono ?_; rintro e w6 ⟨rfl, hb⟩; have HB6 := Lh hb; clear hb; clear zHR_0 zHR_1 zHR_2 zHR_3; obtain ⟨zHR_0, zHR_1, zHR_2, zHR_3⟩ := (HR.out.at hp HB6.out.below).cs4 0 1 2 3; go_wp2_with fail
     first | go_ret | go_end0 | ((try simp only [Exit.inBlock, Exit.then]); first | refine bodyPost_ret (results_none rfl _ _ _) rfl ?_ | refine bodyPost_end (results_none rfl _ _ _) rfl ?_)
     exact ⟨rfl, HB6.out⟩
  ·
   have HA3 := Lh a3; clear a3; have HR := Lh hr; clear hr f3 hnn2; obtain ⟨l1, hl1⟩ : ∃ x, x = l ++ [105, 102, 32] := ⟨_, rfl⟩
   have ql1 : l.length + 3 ≤ l1.length := by rw [hl1, List.length_append]; exact Nat.le_refl _
   obtain ⟨l2, hl2⟩ : ∃ x, x = pr n xc l1 := ⟨_, rfl⟩
   have ql2 : l1.length ≤ l2.length := by rw [hl2]; exact prLe _ _ _
   obtain ⟨l3, hl3⟩ : ∃ x, x = l2 ++ [32, 116, 104, 101, 110, 32] := ⟨_, rfl⟩
   have ql3 : l2.length + 6 ≤ l3.length := by rw [hl3, List.length_append]; exact Nat.le_refl _
   obtain ⟨l4, hl4⟩ : ∃ x, x = pr n xt l3 := ⟨_, rfl⟩
   have ql4 : l3.length ≤ l4.length := by rw [hl4]; exact prLe _ _ _
   obtain ⟨l5, hl5⟩ : ∃ x, x = itr (fun _ t l => pr n t (l ++ [32])) xels 0 l4 := ⟨_, rfl⟩
   have ql5 : l4.length ≤ l5.length := by rw [hl5]; exact itrLe (fun _ t l => by have := prLe n t (l ++ [32]); rw [List.length_append] at this; omega) _ _ _
   obtain ⟨l6, hl6⟩ : ∃ x, x = l5 ++ [32, 101, 108, 115, 101, 32] := ⟨_, rfl⟩
   have ql6 : l5.length + 6 ≤ l6.length := by rw [hl6, List.length_append]; exact Nat.le_refl _
   obtain ⟨l7, hl7⟩ : ∃ x, x = pr n y3 l6 := ⟨_, rfl⟩
   have ql7 : l6.length ≤ l7.length := by rw [hl7]; exact prLe _ _ _
   obtain ⟨l8, hl8⟩ : ∃ x, x = l7 ++ [32, 101, 110, 100] := ⟨_, rfl⟩
   have ql8 : l7.length + 4 ≤ l8.length := by rw [hl8, List.length_append]; exact Nat.le_refl _
   have hX : l' = l8 := by rw [hl]; rw [hl8, hl7, hl6, hl5, hl4, hl3, hl2, hl1]; rfl
   rw [hX] at hlen; have HQ := Lh (And.intro hlen (And.intro ql1 (And.intro ql2 (And.intro ql3 (And.intro ql4 (And.intro ql5 (And.intro ql6 (And.intro ql7 ql8)))))))); have HLl1 := Lh hl1; have HLl2 := Lh hl2; have HLl3 := Lh hl3; have HLl4 := Lh hl4; have HLl5 := Lh hl5; have HLl6 := Lh hl6; have HLl7 := Lh hl7; have HLl8 := Lh hl8; rw [hX]; clear hX hlen hl ql1 ql2 ql3 ql4 ql5 ql6 ql7 ql8 hl1 hl2 hl3 hl4 hl5 hl6 hl7 hl8; obtain ⟨zHR_0, zHR_1, zHR_2, zHR_3⟩ := (HR.out.at hp HB.out.below).cs4 0 1 2 3; go_enter Tryz.func57, Tryz.ntmps57; go_wp2_with fail; refine (HB.out.wstr (⟨#[105, 102, 32]⟩ : ByteArray) l1 HLl1.out (by have := HQ.out; omega)).mono ?_; rintro e w1 ⟨rfl, hb⟩; have HB1 := Lh hb; clear hb; clear zHR_0 zHR_1 zHR_2 zHR_3; obtain ⟨zHR_0, zHR_1, zHR_2, zHR_3⟩ := (HR.out.at hp HB1.out.below).cs4 0 1 2 3; go_wp2_with fail; refine (IHQ w0 _ B b r0 l1 l2 xc h1 A0.out HB1.out HE.out HLl2.out (by have := HQ.out; omega)).mono ?_; rintro e w2 ⟨rfl, hb⟩; have HB2 := Lh hb; clear hb; clear zHR_0 zHR_1 zHR_2 zHR_3; obtain ⟨zHR_0, zHR_1, zHR_2, zHR_3⟩ := (HR.out.at hp HB2.out.below).cs4 0 1 2 3; go_wp2_with fail; refine (HB2.out.wstr (⟨#[32, 116, 104, 101, 110, 32]⟩ : ByteArray) l3 HLl3.out (by have := HQ.out; omega)).mono ?_
   rintro e w3 ⟨rfl, hb⟩; have HB3 := Lh hb; clear hb; clear zHR_0 zHR_1 zHR_2 zHR_3; obtain ⟨zHR_0, zHR_1, zHR_2, zHR_3⟩ := (HR.out.at hp HB3.out.below).cs4 0 1 2 3; go_wp2_with fail; refine (IHQ w0 _ B b r1 l3 l4 xt h2 A1.out HB3.out HE.out HLl4.out (by have := HQ.out; omega)).mono ?_; rintro e w4 ⟨rfl, hb⟩; have HB4 := Lh hb; clear hb; clear zHR_0 zHR_1 zHR_2 zHR_3; obtain ⟨zHR_0, zHR_1, zHR_2, zHR_3⟩ := (HR.out.at hp HB4.out.below).cs4 0 1 2 3; go_wp2_with fail; go_loopw [27] (fun t wr => ∃ (j : Nat) (c : L8), j ≤ N2 ∧ t = .int .i64 j ∧ BS B w0 b c wr ∧ l5 = itr (fun _ t l => pr n t (l ++ [32])) (xels.drop j) j c) (fun t _ => N2 - (intOf t).toNat)
   case atStart =>
    exact ⟨0, l4, Nat.zero_le _, rfl, HB4.out, HLl5.out⟩
   case round =>
    obtain ⟨j, c, hj, rfl, hb, hx⟩ := hrel; have HB100 := Lh hb; have HXC := Lh hx; clear hb hx
    by_cases hlt : j < N2
    ·
     obtain ⟨ab, ao, q, t, hA, hcl, hst, hat, hW⟩ := LS2.out.kid HB100.out.below hlt (fun _ t l => pr n t (l ++ [32])) c; subst hA; have hc := hcl _ HB100.out.below; have HST := Lh hst; have HAT := Lh hat; clear hcl hst hat; obtain ⟨c1, hc1⟩ : ∃ x, x = c ++ [32] := ⟨_, rfl⟩
     have qc1 : c.length + 1 ≤ c1.length := by rw [hc1, List.length_append]; exact Nat.le_refl _
     obtain ⟨c2, hc2⟩ : ∃ x, x = pr n t c1 := ⟨_, rfl⟩
     have qc2 : c1.length ≤ c2.length := by rw [hc2]; exact prLe _ _ _
     have hf9 : (fun _ t l => pr n t (l ++ [32])) j t c = c2 := by rw [hc2, hc1]
     have hx8 : l5 = itr (fun _ t l => pr n t (l ++ [32])) (xels.drop (j + 1)) (j + 1) c2 := by rw [← hf9]; exact HXC.out.trans HST.out
     have q9 : c2.length ≤ l5.length := by rw [hx8]; exact itrLe (fun _ t l => by have := prLe n t (l ++ [32]); rw [List.length_append] at this; omega) _ _ _
     have HXD := Lh hx8; have HQC := Lh ((And.intro qc1 (And.intro qc2 q9))); have HLc1 := Lh hc1; have HLc2 := Lh hc2; clear hf9 hx8 q9 qc1 qc2 hc1 hc2; go_wp2_with fail; refine (HB100.out.wbyte 32 32 rfl c1 HLc1.out (by have := HQ.out; have := HQC.out; omega)).mono ?_; rintro e w101 ⟨rfl, hb⟩; have HB101 := Lh hb; clear hb; go_wp2_with fail; refine (IHE w0 _ B b q c1 c2 t hW HAT.out HB101.out HE.out HLc2.out (by have := HQ.out; have := HQC.out; omega)).mono ?_; rintro e w102 ⟨rfl, hb⟩; have HB102 := Lh hb; clear hb; go_wp2_with fail; exact ⟨⟨j + 1, c2, by omega, by go_num, HB102.out, HXD.out⟩, by simp [intOf]; omega⟩
    ·
     obtain rfl : N2 = j := by omega
     have hx9 : l5 = c := HXC.out.trans (LS2.out.fin _ c); have HB5 := Lh (show BS B w0 b l5 _ from by rw [hx9]; exact HB100.out); clear hx9; obtain ⟨zHR_0, zHR_1, zHR_2, zHR_3⟩ := (HR.out.at hp HB5.out.below).cs4 0 1 2 3; go_wp2_with fail; refine (HB5.out.wstr (⟨#[32, 101, 108, 115, 101, 32]⟩ : ByteArray) l6 HLl6.out (by have := HQ.out; omega)).mono ?_; rintro e w6 ⟨rfl, hb⟩; have HB6 := Lh hb; clear hb; clear zHR_0 zHR_1 zHR_2 zHR_3; obtain ⟨zHR_0, zHR_1, zHR_2, zHR_3⟩ := (HR.out.at hp HB6.out.below).cs4 0 1 2 3; go_wp2_with fail; refine (IHQ w0 _ B b r3 l6 l7 y3 (h4 _ rfl) HA3.out HB6.out HE.out HLl7.out (by have := HQ.out; omega)).mono ?_; rintro e w7 ⟨rfl, hb⟩; have HB7 := Lh hb; clear hb; clear zHR_0 zHR_1 zHR_2 zHR_3; obtain ⟨zHR_0, zHR_1, zHR_2, zHR_3⟩ := (HR.out.at hp HB7.out.below).cs4 0 1 2 3; go_wp2_with fail; refine (HB7.out.wstr (⟨#[32, 101, 110, 100]⟩ : ByteArray) l8 HLl8.out (by have := HQ.out; omega)).mono ?_; rintro e w8 ⟨rfl, hb⟩; have HB8 := Lh hb; clear hb; clear zHR_0 zHR_1 zHR_2 zHR_3; obtain ⟨zHR_0, zHR_1, zHR_2, zHR_3⟩ := (HR.out.at hp HB8.out.below).cs4 0 1 2 3; go_wp2_with fail
     first | go_ret | go_end0 | ((try simp only [Exit.inBlock, Exit.then]); first | refine bodyPost_ret (results_none rfl _ _ _) rfl ?_ | refine bodyPost_end (results_none rfl _ _ _) rfl ?_)
     exact ⟨rfl, HB8.out⟩
end Go.Proofs.YtghcggagpagfoaaGreatDoor
