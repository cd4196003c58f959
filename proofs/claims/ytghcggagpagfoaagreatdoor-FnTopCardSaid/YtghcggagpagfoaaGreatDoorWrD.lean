/-
  The writers' contracts: suffixes, function definitions, terms, strings (n001_1001). Printed by genW.py.
-/
import Derived.Test.YtghcggagpagfoaaGreatDoorWrC
namespace Go.Proofs.YtghcggagpagfoaaGreatDoor
set_option linter.unusedVariables false
set_option linter.unusedSimpArgs false
open Go.ChangeShapes Go.WideShapes Go.ChangeAt Go.RowKit M
theorem FV.pt'' {ok : Nat → Prop} {n : Nat} {w0 : World} {o : Option T} {v : Value} (h : FV (At ok n w0) ok w0 (.p o) v) : (o = none ∧ v = .pointer none) ∨ ∃ t q, o = some t ∧ v = .pointer (some ⟨q, 0, none⟩) ∧ At ok n w0 q t := by
 cases o with
 | none => exact .inl ⟨rfl, h⟩
 | some t =>
  obtain ⟨q, h1, h2⟩ := h; exact .inr ⟨t, q, rfl, h1, h2⟩
theorem FV.pt' {ok : Nat → Prop} {n : Nat} {w0 : World} {o : Option T} {v : Value} (h : FV (At ok n w0) ok w0 (.p o) v) : (o = none ∧ v = .pointer none) ∨ ∃ t q, o = some t ∧ v = .pointer (some ⟨q, 0, none⟩) := by
 rcases FV.pt'' h with h | ⟨t, q, h1, h2, _⟩
 ·
  exact .inl h
 ·
  exact .inr ⟨t, q, h1, h2⟩
theorem iq_rows {ok : Nat → Prop} {n : Nat} {w : World} {q : Nat} {t : T} (hW : W .iq t) (h : At ok n w q t) : ∃ r v0 v1 v2 v4 v5 v6 ty c1 c2 c3 c4 c5 c6 c7 c8 c9 c10 c11 c12 c13 c14 c15 c16, Row w q 37 #[v0, v1, v2, .pointer (some ⟨r, 0, none⟩), v4, v5, v6, .int .i64 0] ∧ Row w r 74 #[.int .i64 ty, c1, c2, c3, c4, .string c5, c6, .string c7, c8, c9, c10, c11, c12, c13, .string c14, c15, c16] ∧ ok q ∧ ok r ∧ ((strQ t = true ∧ ∃ s, c8 = .pointer (some ⟨s, 0, none⟩)) ∨ (strQ t = false ∧ c8 = .pointer none)) := by
 cases hW with
 | iq te a b c hte =>
  rcases n with _ | n
  ·
   exact h.elim
  obtain ⟨hp, v0, v1, v2, v3, v4, v5, v6, hr, f0, f1, f2, f3, f4, f5, f6⟩ := inv_q h; obtain ⟨r, rfl, a3⟩ := f3; rcases n with _ | n
  ·
   exact a3.elim
  cases hte with
  | t ty ix fn ob ar num un fmt str ie tr rd fe lb brk q a sl =>
   obtain ⟨hp', c1, c2, c3, c4, c6, c8, c9, c10, c11, c12, c13, c15, c16, hr', g1, g2, g3, g4, g6, g8, g9, g10, g11, g12, g13, g15, g16⟩ := inv_t a3; refine ⟨r, v0, v1, v2, v4, v5, v6, ty, c1, c2, c3, c4, num, c6, fmt, c8, c9, c10, c11, c12, c13, brk, c15, c16, hr, hr', hp, hp', ?_⟩; rcases FV.pt' g8 with ⟨rfl, rfl⟩ | ⟨t, s, rfl, rfl⟩
   ·
    exact .inr ⟨rfl, rfl⟩
   ·
    exact .inl ⟨rfl, s, rfl⟩
theorem W.ofIq {t : T} (h : W .iq t) : W .q t := by
 cases h with
 | iq te a b c hte => exact .q1 none [] [] (some te) a b c (fun _ x => by cases x) (by decide) (fun _ x => by cases x) (by decide) (fun _ x => by cases x) (fun _ x => by cases x; exact hte)
theorem st_two {n : Nat} {ok : Nat → Prop} {w : World} {q : Nat} {s : T} (hW : W .st s) (h : At ok n w q s) (l : L8) : l.length + 2 ≤ (pr n s l).length := by
 rcases n with _ | n
 ·
  exact h.elim
 cases hW with
 | st xs nn qs _ _ _ _ =>
  rw [pr_st]; unfold prST
  dsimp only
  split
  ·
   have := (quoted_len xs).1; rw [List.length_append]; omega
  ·
   rw [List.length_append]
   have := itrLe (g := fun _ t l => if strQ t = true then l ++ inn (pr n t []) else pr n t (l ++ [92])) (fun j t l => by
    split
    ·
     rw [List.length_append]; omega
    ·
     have := prLe n t (l ++ [92]); rw [List.length_append] at this; omega) qs 0 (l ++ [34])
   rw [List.length_append] at this; simp only [List.length_cons, List.length_nil] at this ⊢; omega
theorem iq_two {n : Nat} {ok : Nat → Prop} {w : World} {q : Nat} {t : T} (hW : W .iq t) (h : At ok n w q t) (hs : strQ t = true) : 2 ≤ (pr n t []).length := by
 cases hW with
 | iq te a b c hte =>
  rcases n with _ | n
  ·
   exact h.elim
  obtain ⟨hp, v0, v1, v2, v3, v4, v5, v6, hr, f0, f1, f2, f3, f4, f5, f6⟩ := inv_q h; obtain ⟨r, rfl, a3⟩ := f3; rcases n with _ | n
  ·
   exact a3.elim
  cases hte with
  | t ty ix fn ob ar num un fmt str ie tr rd fe lb brk q a sl h1 h2 htk hix hfn hob har hun hstr =>
   obtain ⟨hp', c1, c2, c3, c4, c6, c8, c9, c10, c11, c12, c13, c15, c16, hr', g1, g2, g3, g4, g6, g8, g9, g10, g11, g12, g13, g15, g16⟩ := inv_t a3; have hs' : str.isSome = true := hs; rcases FV.pt'' g8 with ⟨rfl, _⟩ | ⟨s, b8, rfl, _, a8⟩
   ·
    cases hs'
   have hty := htk.2.2.2.2.2.2.2.2.2.2.2.2 hs'; have hst := hstr s rfl; have hle : ∀ X : L8, X.length ≤ (itr (fun _ t l => pr n t l) sl 0 X).length := itrLe (fun _ t l => prLe n t l) sl 0; show 2 ≤ (itr (fun _ t l => pr n t l) sl 0 (bodyT (pr n) ty ix fn ob ar num un fmt (some s) ie tr rd fe lb brk q [])).length; refine Nat.le_trans ?_ (hle _); rcases hty with rfl | rfl
   ·
    have := st_two hst a8 (([] : L8) ++ fmt.data.toList ++ [32]); show 2 ≤ (pr n s (([] : L8) ++ fmt.data.toList ++ [32])).length; omega
   ·
    have := st_two hst a8 ([] : L8); show 2 ≤ (pr n s ([] : L8)).length; omega
theorem inn_eq (X : L8) (h : 2 ≤ X.length) : ((⟨X.toArray⟩ : ByteArray).extract 1 (X.length - 1)).data.toList = inn X := by
 unfold inn; rw [ByteArray.data_extract]; simp; omega
set_option maxRecDepth 100000 in
set_option maxHeartbeats 8000000 in
theorem wSF (n : Nat) (IHX : WC 51 .ix n) (IHS : ∀ m, n = m + 1 → SC 74 m) : WC 62 .sf (n + 1) := by
 intro w0 w B b p l l' t hw ha hb he hl hlen; have HB := Lh hb; have HE := Lh he; clear hb he
 cases hw with
 | sf xix xit xop h1 =>
  obtain ⟨hp, v0, hr, f0⟩ := inv_sf ha; clear ha; rcases FV.pt f0 with ⟨rfl, rfl⟩ | ⟨y0, r0, rfl, rfl, a0⟩
  ·
   clear f0
   cases xit
   case true =>
    have HR := Lh hr; clear hr; obtain ⟨l1, hl1⟩ : ∃ x, x = l ++ [91, 93] := ⟨_, rfl⟩
    have ql1 : l.length + 2 ≤ l1.length := by rw [hl1, List.length_append]; exact Nat.le_refl _
    have hX : l' = l1 := by rw [hl]; rw [hl1]; rfl
    rw [hX] at hlen; have HQ := Lh (And.intro hlen ql1); have HLl1 := Lh hl1; rw [hX]; clear hX hlen hl ql1 hl1; obtain ⟨zHR_0, zHR_1, zHR_2⟩ := (HR.out.at hp HB.out.below).cs3 0 1 2; go_enter Tryz.func62, Tryz.ntmps62; go_wp2_with fail; refine (HB.out.wstr (⟨#[91, 93]⟩ : ByteArray) l1 HLl1.out (by have := HQ.out; omega)).mono ?_; rintro e w1 ⟨rfl, hb⟩; have HB1 := Lh hb; clear hb; clear zHR_0 zHR_1 zHR_2; obtain ⟨zHR_0, zHR_1, zHR_2⟩ := (HR.out.at hp HB1.out.below).cs3 0 1 2; go_wp2_with fail
    first | go_ret | go_end0 | ((try simp only [Exit.inBlock, Exit.then]); first | refine bodyPost_ret (results_none rfl _ _ _) rfl ?_ | refine bodyPost_end (results_none rfl _ _ _) rfl ?_)
    exact ⟨rfl, HB1.out⟩
   case false =>
    cases xop
    case true =>
     have HR := Lh hr; clear hr; obtain ⟨l1, hl1⟩ : ∃ x, x = l ++ [63] := ⟨_, rfl⟩
     have ql1 : l.length + 1 ≤ l1.length := by rw [hl1, List.length_append]; exact Nat.le_refl _
     have hX : l' = l1 := by rw [hl]; rw [hl1]; rfl
     rw [hX] at hlen; have HQ := Lh (And.intro hlen ql1); have HLl1 := Lh hl1; rw [hX]; clear hX hlen hl ql1 hl1; obtain ⟨zHR_0, zHR_1, zHR_2⟩ := (HR.out.at hp HB.out.below).cs3 0 1 2; go_enter Tryz.func62, Tryz.ntmps62; go_wp2_with fail; refine (HB.out.wbyte 63 63 rfl l1 HLl1.out (by have := HQ.out; omega)).mono ?_; rintro e w1 ⟨rfl, hb⟩; have HB1 := Lh hb; clear hb; clear zHR_0 zHR_1 zHR_2; obtain ⟨zHR_0, zHR_1, zHR_2⟩ := (HR.out.at hp HB1.out.below).cs3 0 1 2; go_wp2_with fail
     first | go_ret | go_end0 | ((try simp only [Exit.inBlock, Exit.then]); first | refine bodyPost_ret (results_none rfl _ _ _) rfl ?_ | refine bodyPost_end (results_none rfl _ _ _) rfl ?_)
     exact ⟨rfl, HB1.out⟩
    case false =>
     have HR := Lh hr; clear hr
     have hX : l' = l := by rw [hl]; rfl
     rw [hX] at hlen; have HQ := Lh (And.intro hlen trivial); rw [hX]; clear hX hlen hl; obtain ⟨zHR_0, zHR_1, zHR_2⟩ := (HR.out.at hp HB.out.below).cs3 0 1 2; go_enter Tryz.func62, Tryz.ntmps62; go_wp2_with fail
     first | go_ret | go_end0 | ((try simp only [Exit.inBlock, Exit.then]); first | refine bodyPost_ret (results_none rfl _ _ _) rfl ?_ | refine bodyPost_end (results_none rfl _ _ _) rfl ?_)
     exact ⟨rfl, HB.out⟩
  ·
   have HA0 := Lh a0; clear a0; rcases n with _ | n
   ·
    exact HA0.out.elim
   clear f0; have HR := Lh hr; clear hr; have hwx := h1 _ rfl; have HW := Lh hwx
   cases hwx with
   | ix xna xstr xst xen xsl e0 e1 e2 e3 =>
    obtain ⟨hpx, u1, u2, u3, hrx, p1, p2, p3⟩ := inv_ix HA0.out; have HRX := Lh hrx; clear hrx p2 p3
    by_cases hk : xna.size = 0
    ·
     have hna := isE hk; rcases FV.pt p1 with ⟨rfl, rfl⟩ | ⟨y9, r9, rfl, rfl, a9⟩
     ·
      subst hna; clear hk p1; obtain ⟨l1, hl1⟩ : ∃ x, x = sx n (.nd 150 [.s ⟨#[]⟩, .p none, .p xst, .p xen, .b xsl]) l := ⟨_, rfl⟩
      have hX : l' = l1 := by rw [hl, hl1]; rfl
      rw [hX] at hlen; have HQ := Lh hlen; have HLl1 := Lh hl1; rw [hX]; clear hX hlen hl hl1; obtain ⟨zHR_0, zHR_1, zHR_2⟩ := (HR.out.at hp HB.out.below).cs3 0 1 2; obtain ⟨zHRX_0, zHRX_1⟩ := (HRX.out.at hpx HB.out.below).cs2 0 1; go_enter Tryz.func62, Tryz.ntmps62; go_wp2_with fail; refine (IHS n rfl w0 _ B b r0 l l1 _ HW.out HA0.out HB.out HE.out HLl1.out HQ.out).mono ?_; rintro e w1 ⟨rfl, hb⟩; have HB1 := Lh hb; clear hb; go_wp2_with fail
      first | go_ret | go_end0 | ((try simp only [Exit.inBlock, Exit.then]); first | refine bodyPost_ret (results_none rfl _ _ _) rfl ?_ | refine bodyPost_end (results_none rfl _ _ _) rfl ?_)
      exact ⟨rfl, HB1.out⟩
     ·
      have HA9 := Lh a9; clear a9; subst hna; clear hk p1; obtain ⟨l1, hl1⟩ : ∃ x, x = pr (n + 1) (.nd 150 [.s ⟨#[]⟩, .p (some y9), .p xst, .p xen, .b xsl]) l := ⟨_, rfl⟩
      have ql1 : l.length ≤ l1.length := by rw [hl1]; exact prLe _ _ _
      have hX : l' = l1 := by rw [hl]; rw [hl1]; rfl
      rw [hX] at hlen; have HQ := Lh (And.intro hlen ql1); have HLl1 := Lh hl1; rw [hX]; clear hX hlen hl ql1 hl1; obtain ⟨zHR_0, zHR_1, zHR_2⟩ := (HR.out.at hp HB.out.below).cs3 0 1 2; obtain ⟨zHRX_0, zHRX_1⟩ := (HRX.out.at hpx HB.out.below).cs2 0 1; go_enter Tryz.func62, Tryz.ntmps62; go_wp2_with fail; refine (IHX w0 _ B b r0 l l1 (.nd 150 [.s ⟨#[]⟩, .p (some y9), .p xst, .p xen, .b xsl]) HW.out HA0.out HB.out HE.out HLl1.out (by have := HQ.out; omega)).mono ?_; rintro e w1 ⟨rfl, hb⟩; have HB1 := Lh hb; clear hb; clear zHR_0 zHR_1 zHR_2 zHRX_0 zHRX_1; obtain ⟨zHR_0, zHR_1, zHR_2⟩ := (HR.out.at hp HB1.out.below).cs3 0 1 2; obtain ⟨zHRX_0, zHRX_1⟩ := (HRX.out.at hpx HB1.out.below).cs2 0 1; go_wp2_with fail
      first | go_ret | go_end0 | ((try simp only [Exit.inBlock, Exit.then]); first | refine bodyPost_ret (results_none rfl _ _ _) rfl ?_ | refine bodyPost_end (results_none rfl _ _ _) rfl ?_)
      exact ⟨rfl, HB1.out⟩
    ·
     have hE := isE1 hk; have HK := Lh hk; clear hk p1; obtain ⟨l1, hl1⟩ : ∃ x, x = pr (n + 1) (.nd 150 [.s xna, .p xstr, .p xst, .p xen, .b xsl]) l := ⟨_, rfl⟩
     have ql1 : l.length ≤ l1.length := by rw [hl1]; exact prLe _ _ _
     have hX : l' = l1 := by rw [hl]; rw [hl1]; show (if xna.size ≠ 0 ∨ xstr.isSome = true then _ else _) = _; rw [if_pos (.inl HK.out)]
     rw [hX] at hlen; have HQ := Lh (And.intro hlen ql1); have HLl1 := Lh hl1; rw [hX]; clear hX hlen hl ql1 hl1; obtain ⟨zHR_0, zHR_1, zHR_2⟩ := (HR.out.at hp HB.out.below).cs3 0 1 2; obtain ⟨zHRX_0, zHRX_1⟩ := (HRX.out.at hpx HB.out.below).cs2 0 1; go_enter Tryz.func62, Tryz.ntmps62; go_wp2_with fail; refine (IHX w0 _ B b r0 l l1 (.nd 150 [.s xna, .p xstr, .p xst, .p xen, .b xsl]) HW.out HA0.out HB.out HE.out HLl1.out (by have := HQ.out; omega)).mono ?_; rintro e w1 ⟨rfl, hb⟩; have HB1 := Lh hb; clear hb; clear zHR_0 zHR_1 zHR_2 zHRX_0 zHRX_1; obtain ⟨zHR_0, zHR_1, zHR_2⟩ := (HR.out.at hp HB1.out.below).cs3 0 1 2; obtain ⟨zHRX_0, zHRX_1⟩ := (HRX.out.at hpx HB1.out.below).cs2 0 1; go_wp2_with fail
     first | go_ret | go_end0 | ((try simp only [Exit.inBlock, Exit.then]); first | refine bodyPost_ret (results_none rfl _ _ _) rfl ?_ | refine bodyPost_end (results_none rfl _ _ _) rfl ?_)
     exact ⟨rfl, HB1.out⟩
set_option maxRecDepth 100000 in
set_option maxHeartbeats 8000000 in
theorem wFD (n : Nat) (IHQ : WC 16 .q n) : WC 43 .fd (n + 1) := by
 intro w0 w B b p l l' t hw ha hb he hl hlen; have HB := Lh hb; have HE := Lh he; clear hb he
 cases hw with
 | fd xna xags xb g1 h1 h2 =>
  obtain ⟨hp, v1, v2, hr, f1, f2⟩ := inv_fd ha; obtain ⟨r2, rfl, a2⟩ := f2; clear ha; obtain ⟨X1, M1, N1, rfl, hcap, ls1⟩ := FV.lss f1; have LS1 := Lh ls1; have len1 := ls1.len
  have bnd1 : N1 ≤ 3 := by omega
  clear ls1 f1; have A2 := Lh a2; have HR := Lh hr; clear a2 hr
  by_cases hz : N1 = 0
  ·
   have hz2 : xags = [] := List.length_eq_zero_iff.1 (len1.trans hz); subst hz hz2; clear len1; obtain ⟨l1, hl1⟩ : ∃ x, x = l ++ [100, 101, 102, 32] := ⟨_, rfl⟩
   have ql1 : l.length + 4 ≤ l1.length := by rw [hl1, List.length_append]; exact Nat.le_refl _
   obtain ⟨l2, hl2⟩ : ∃ x, x = l1 ++ xna.data.toList := ⟨_, rfl⟩
   have ql2 : l1.length ≤ l2.length := by rw [hl2, List.length_append]; omega
   obtain ⟨l3, hl3⟩ : ∃ x, x = l2 ++ [58, 32] := ⟨_, rfl⟩
   have ql3 : l2.length + 2 ≤ l3.length := by rw [hl3, List.length_append]; exact Nat.le_refl _
   obtain ⟨l4, hl4⟩ : ∃ x, x = pr n xb l3 := ⟨_, rfl⟩
   have ql4 : l3.length ≤ l4.length := by rw [hl4]; exact prLe _ _ _
   obtain ⟨l5, hl5⟩ : ∃ x, x = l4 ++ [59] := ⟨_, rfl⟩
   have ql5 : l4.length + 1 ≤ l5.length := by rw [hl5, List.length_append]; exact Nat.le_refl _
   have hX : l' = l5 := by rw [hl]; rw [hl5, hl4, hl3, hl2, hl1]; rfl
   rw [hX] at hlen; have HQ := Lh (And.intro hlen (And.intro ql1 (And.intro ql2 (And.intro ql3 (And.intro ql4 ql5))))); have HLl1 := Lh hl1; have HLl2 := Lh hl2; have HLl3 := Lh hl3; have HLl4 := Lh hl4; have HLl5 := Lh hl5; rw [hX]; clear hX hlen hl ql1 ql2 ql3 ql4 ql5 hl1 hl2 hl3 hl4 hl5; obtain ⟨zHR_0, zHR_1, zHR_2⟩ := (HR.out.at hp HB.out.below).cs3 0 1 2; go_enter Tryz.func43, Tryz.ntmps43; go_wp2_with fail; refine (HB.out.wstr (⟨#[100, 101, 102, 32]⟩ : ByteArray) l1 HLl1.out (by have := HQ.out; omega)).mono ?_; rintro e w1 ⟨rfl, hb⟩; have HB1 := Lh hb; clear hb; clear zHR_0 zHR_1 zHR_2; obtain ⟨zHR_0, zHR_1, zHR_2⟩ := (HR.out.at hp HB1.out.below).cs3 0 1 2; go_wp2_with fail; refine (HB1.out.wstr xna l2 HLl2.out (by have := HQ.out; omega)).mono ?_; rintro e w2 ⟨rfl, hb⟩; have HB2 := Lh hb; clear hb; clear zHR_0 zHR_1 zHR_2; obtain ⟨zHR_0, zHR_1, zHR_2⟩ := (HR.out.at hp HB2.out.below).cs3 0 1 2; go_wp2_with fail; refine (HB2.out.wstr (⟨#[58, 32]⟩ : ByteArray) l3 HLl3.out (by have := HQ.out; omega)).mono ?_; rintro e w3 ⟨rfl, hb⟩; have HB3 := Lh hb; clear hb; clear zHR_0 zHR_1 zHR_2; obtain ⟨zHR_0, zHR_1, zHR_2⟩ := (HR.out.at hp HB3.out.below).cs3 0 1 2; go_wp2_with fail; refine (IHQ w0 _ B b r2 l3 l4 xb h2 A2.out HB3.out HE.out HLl4.out (by have := HQ.out; omega)).mono ?_
   rintro e w4 ⟨rfl, hb⟩; have HB4 := Lh hb; clear hb; clear zHR_0 zHR_1 zHR_2; obtain ⟨zHR_0, zHR_1, zHR_2⟩ := (HR.out.at hp HB4.out.below).cs3 0 1 2; go_wp2_with fail; refine (HB4.out.wbyte 59 59 rfl l5 HLl5.out (by have := HQ.out; omega)).mono ?_; rintro e w5 ⟨rfl, hb⟩; have HB5 := Lh hb; clear hb; clear zHR_0 zHR_1 zHR_2; obtain ⟨zHR_0, zHR_1, zHR_2⟩ := (HR.out.at hp HB5.out.below).cs3 0 1 2; go_wp2_with fail
   first | go_ret | go_end0 | ((try simp only [Exit.inBlock, Exit.then]); first | refine bodyPost_ret (results_none rfl _ _ _) rfl ?_ | refine bodyPost_end (results_none rfl _ _ _) rfl ?_)
   exact ⟨rfl, HB5.out⟩
  ·
   have HZ := Lh (show ¬ xags.length = 0 by omega)
   have hz3 : 0 < N1 := by omega
   obtain ⟨l1, hl1⟩ : ∃ x, x = l ++ [100, 101, 102, 32] := ⟨_, rfl⟩
   have ql1 : l.length + 4 ≤ l1.length := by rw [hl1, List.length_append]; exact Nat.le_refl _
   obtain ⟨l2, hl2⟩ : ∃ x, x = l1 ++ xna.data.toList := ⟨_, rfl⟩
   have ql2 : l1.length ≤ l2.length := by rw [hl2, List.length_append]; omega
   obtain ⟨l3, hl3⟩ : ∃ x, x = l2 ++ [40] := ⟨_, rfl⟩
   have ql3 : l2.length + 1 ≤ l3.length := by rw [hl3, List.length_append]; exact Nat.le_refl _
   obtain ⟨l4, hl4⟩ : ∃ x, x = itrS (fun j t l => (if j = 0 then l else l ++ [59, 32]) ++ t.data.toList) xags 0 l3 := ⟨_, rfl⟩
   have ql4 : l3.length ≤ l4.length := by rw [hl4]; exact itrSLe (fun j t l => by rw [List.length_append]; split <;> (try rw [List.length_append]) <;> omega) _ _ _
   obtain ⟨l5, hl5⟩ : ∃ x, x = l4 ++ [41] := ⟨_, rfl⟩
   have ql5 : l4.length + 1 ≤ l5.length := by rw [hl5, List.length_append]; exact Nat.le_refl _
   obtain ⟨l6, hl6⟩ : ∃ x, x = l5 ++ [58, 32] := ⟨_, rfl⟩
   have ql6 : l5.length + 2 ≤ l6.length := by rw [hl6, List.length_append]; exact Nat.le_refl _
   obtain ⟨l7, hl7⟩ : ∃ x, x = pr n xb l6 := ⟨_, rfl⟩
   have ql7 : l6.length ≤ l7.length := by rw [hl7]; exact prLe _ _ _
   obtain ⟨l8, hl8⟩ : ∃ x, x = l7 ++ [59] := ⟨_, rfl⟩
   have ql8 : l7.length + 1 ≤ l8.length := by rw [hl8, List.length_append]; exact Nat.le_refl _
   have hX : l' = l8 := by rw [hl]; rw [hl8, hl7, hl6, hl5, hl4, hl3, hl2, hl1]; show pr n xb ((if xags.length = 0 then _ else _) ++ _) ++ _ = _; rw [if_neg HZ.out]; (try rfl)
   rw [hX] at hlen; have HQ := Lh (And.intro hlen (And.intro ql1 (And.intro ql2 (And.intro ql3 (And.intro ql4 (And.intro ql5 (And.intro ql6 (And.intro ql7 ql8)))))))); have HLl1 := Lh hl1; have HLl2 := Lh hl2; have HLl3 := Lh hl3; have HLl4 := Lh hl4; have HLl5 := Lh hl5; have HLl6 := Lh hl6; have HLl7 := Lh hl7; have HLl8 := Lh hl8; rw [hX]; clear hX hlen hl ql1 ql2 ql3 ql4 ql5 ql6 ql7 ql8 hl1 hl2 hl3 hl4 hl5 hl6 hl7 hl8; obtain ⟨zHR_0, zHR_1, zHR_2⟩ := (HR.out.at hp HB.out.below).cs3 0 1 2; go_enter Tryz.func43, Tryz.ntmps43; go_wp2_with fail; refine (HB.out.wstr (⟨#[100, 101, 102, 32]⟩ : ByteArray) l1 HLl1.out (by have := HQ.out; omega)).mono ?_; rintro e w1 ⟨rfl, hb⟩; have HB1 := Lh hb; clear hb; clear zHR_0 zHR_1 zHR_2; obtain ⟨zHR_0, zHR_1, zHR_2⟩ := (HR.out.at hp HB1.out.below).cs3 0 1 2; go_wp2_with fail; refine (HB1.out.wstr xna l2 HLl2.out (by have := HQ.out; omega)).mono ?_; rintro e w2 ⟨rfl, hb⟩; have HB2 := Lh hb; clear hb; clear zHR_0 zHR_1 zHR_2; obtain ⟨zHR_0, zHR_1, zHR_2⟩ := (HR.out.at hp HB2.out.below).cs3 0 1 2; go_wp2_with fail; refine (HB2.out.wbyte 40 40 rfl l3 HLl3.out (by have := HQ.out; omega)).mono ?_; rintro e w3 ⟨rfl, hb⟩; have HB3 := Lh hb; clear hb; clear zHR_0 zHR_1 zHR_2; obtain ⟨zHR_0, zHR_1, zHR_2⟩ := (HR.out.at hp HB3.out.below).cs3 0 1 2; go_wp2_with fail; go_loopw [27] (fun t wr => ∃ (j : Nat) (c : L8), j ≤ N1 ∧ t = .int .i64 j ∧ BS B w0 b c wr ∧ l4 = itrS (fun j t l => (if j = 0 then l else l ++ [59, 32]) ++ t.data.toList) (xags.drop j) j c) (fun t _ => N1 - (intOf t).toNat)
   case atStart =>
    exact ⟨0, l3, Nat.zero_le _, rfl, HB3.out, HLl4.out⟩
   case round =>
    obtain ⟨j, c, hj, rfl, hb, hx⟩ := hrel; have HB100 := Lh hb; have HXC := Lh hx; clear hb hx
    by_cases hlt : j < N1
    ·
     obtain ⟨ab, ao, t, hA, hcl, hst⟩ := LS1.out.kid hlt (fun j t l => (if j = 0 then l else l ++ [59, 32]) ++ t.data.toList) c; subst hA; have hc := hcl _ HB100.out.below; have HST := Lh hst; clear hcl hst
     by_cases hj0 : 0 < j
     ·
      obtain ⟨c1, hc1⟩ : ∃ x, x = c ++ [59, 32] := ⟨_, rfl⟩
      have qc1 : c.length + 2 ≤ c1.length := by rw [hc1, List.length_append]; exact Nat.le_refl _
      obtain ⟨c2, hc2⟩ : ∃ x, x = c1 ++ t.data.toList := ⟨_, rfl⟩
      have qc2 : c1.length ≤ c2.length := by rw [hc2, List.length_append]; omega
      have hf9 : (fun j t l => (if j = 0 then l else l ++ [59, 32]) ++ t.data.toList) j t c = c2 := by rw [hc2, hc1]; show (if j = 0 then c else c ++ [59, 32]) ++ _ = _; rw [if_neg (by omega)]
      have hx8 : l4 = itrS (fun j t l => (if j = 0 then l else l ++ [59, 32]) ++ t.data.toList) (xags.drop (j + 1)) (j + 1) c2 := by rw [← hf9]; exact HXC.out.trans HST.out
      have q9 : c2.length ≤ l4.length := by rw [hx8]; exact itrSLe (fun j t l => by rw [List.length_append]; split <;> (try rw [List.length_append]) <;> omega) _ _ _
      have HXD := Lh hx8; have HQC := Lh ((And.intro qc1 (And.intro qc2 q9))); have HLc1 := Lh hc1; have HLc2 := Lh hc2; clear hf9 hx8 q9 qc1 qc2 hc1 hc2; go_wp2_with fail; refine (HB100.out.wstr (⟨#[59, 32]⟩ : ByteArray) c1 HLc1.out (by have := HQ.out; have := HQC.out; omega)).mono ?_; rintro e w101 ⟨rfl, hb⟩; have HB101 := Lh hb; clear hb; go_wp2_with fail; refine (HB101.out.wstr t c2 HLc2.out (by have := HQ.out; have := HQC.out; omega)).mono ?_; rintro e w102 ⟨rfl, hb⟩; have HB102 := Lh hb; clear hb; go_wp2_with fail; exact ⟨⟨j + 1, c2, by omega, by go_num, HB102.out, HXD.out⟩, by simp [intOf]; omega⟩
     ·
      obtain ⟨c1, hc1⟩ : ∃ x, x = c ++ t.data.toList := ⟨_, rfl⟩
      have qc1 : c.length ≤ c1.length := by rw [hc1, List.length_append]; omega
      have hf9 : (fun j t l => (if j = 0 then l else l ++ [59, 32]) ++ t.data.toList) j t c = c1 := by rw [hc1]; show (if j = 0 then c else c ++ [59, 32]) ++ _ = _; rw [if_pos (by omega)]
      have hx8 : l4 = itrS (fun j t l => (if j = 0 then l else l ++ [59, 32]) ++ t.data.toList) (xags.drop (j + 1)) (j + 1) c1 := by rw [← hf9]; exact HXC.out.trans HST.out
      have q9 : c1.length ≤ l4.length := by rw [hx8]; exact itrSLe (fun j t l => by rw [List.length_append]; split <;> (try rw [List.length_append]) <;> omega) _ _ _
      have HXD := Lh hx8; have HQC := Lh ((And.intro qc1 q9)); have HLc1 := Lh hc1; clear hf9 hx8 q9 qc1 hc1; go_wp2_with fail; refine (HB100.out.wstr t c1 HLc1.out (by have := HQ.out; have := HQC.out; omega)).mono ?_; rintro e w101 ⟨rfl, hb⟩; have HB101 := Lh hb; clear hb; go_wp2_with fail; exact ⟨⟨j + 1, c1, by omega, by go_num, HB101.out, HXD.out⟩, by simp [intOf]; omega⟩
    ·
     obtain rfl : N1 = j := by omega
     have hx9 : l4 = c := HXC.out.trans (LS1.out.fin _ c); have HB4 := Lh (show BS B w0 b l4 _ from by rw [hx9]; exact HB100.out); clear hx9; obtain ⟨zHR_0, zHR_1, zHR_2⟩ := (HR.out.at hp HB4.out.below).cs3 0 1 2; go_wp2_with fail; refine (HB4.out.wbyte 41 41 rfl l5 HLl5.out (by have := HQ.out; omega)).mono ?_; rintro e w5 ⟨rfl, hb⟩; have HB5 := Lh hb; clear hb; clear zHR_0 zHR_1 zHR_2; obtain ⟨zHR_0, zHR_1, zHR_2⟩ := (HR.out.at hp HB5.out.below).cs3 0 1 2; go_wp2_with fail; refine (HB5.out.wstr (⟨#[58, 32]⟩ : ByteArray) l6 HLl6.out (by have := HQ.out; omega)).mono ?_; rintro e w6 ⟨rfl, hb⟩; have HB6 := Lh hb; clear hb; clear zHR_0 zHR_1 zHR_2; obtain ⟨zHR_0, zHR_1, zHR_2⟩ := (HR.out.at hp HB6.out.below).cs3 0 1 2; go_wp2_with fail; refine (IHQ w0 _ B b r2 l6 l7 xb h2 A2.out HB6.out HE.out HLl7.out (by have := HQ.out; omega)).mono ?_; rintro e w7 ⟨rfl, hb⟩; have HB7 := Lh hb; clear hb; clear zHR_0 zHR_1 zHR_2; obtain ⟨zHR_0, zHR_1, zHR_2⟩ := (HR.out.at hp HB7.out.below).cs3 0 1 2; go_wp2_with fail; refine (HB7.out.wbyte 59 59 rfl l8 HLl8.out (by have := HQ.out; omega)).mono ?_; rintro e w8 ⟨rfl, hb⟩; have HB8 := Lh hb; clear hb; clear zHR_0 zHR_1 zHR_2; obtain ⟨zHR_0, zHR_1, zHR_2⟩ := (HR.out.at hp HB8.out.below).cs3 0 1 2; go_wp2_with fail
     first | go_ret | go_end0 | ((try simp only [Exit.inBlock, Exit.then]); first | refine bodyPost_ret (results_none rfl _ _ _) rfl ?_ | refine bodyPost_end (results_none rfl _ _ _) rfl ?_)
     exact ⟨rfl, HB8.out⟩
set_option maxRecDepth 100000 in
set_option maxHeartbeats 8000000 in
theorem wT (n : Nat) (IHix : WC 51 .ix n) (IHfn : WC 52 .fn n) (IHob : WC 53 .ob n) (IHar : WC 54 .ar n) (IHun : WC 55 .un n) (IHst : WC 56 .st n) (IHie : WC 57 .ife n) (IHtr : WC 58 .tr n) (IHrd : WC 59 .rd n) (IHfe : WC 60 .fe n) (IHlb : WC 61 .lb n) (IHq : WC 16 .q n) (IHsf : WC 62 .sf n) : WC 23 .t (n + 1) := by
 intro w0 w B b p l l' t hw ha hb he hl hlen; have HB := Lh hb; have HE := Lh he; clear hb he
 cases hw with
 | t xty xix xfn xob xar xnum xun xfmt xstr xie xtr xrd xfe xlb xbrk xq xa xsl e1 e2 htk hix hfn hob har hun hstr hie htr hrd hfe hlb hq gsl hsl =>
  obtain ⟨hp, v1, v2, v3, v4, v6, v8, v9, v10, v11, v12, v13, v15, v16, hr, f1, f2, f3, f4, f6, f8, f9, f10, f11, f12, f13, f15, f16⟩ := inv_t ha; clear ha; obtain ⟨k6, k7, k8, k9, k11, k13, k14, k15, k16, k17, k18, k20, kS⟩ := htk; obtain ⟨X16, M16, N16, rfl, hnn16, ls16⟩ := FV.ls .sf hsl f16; have LS16 := Lh ls16; have len16 := ls16.len
  have bnd16 : N16 ≤ 3 := by have := gsl; omega
  clear ls16 f16; clear hnn16; rcases (show xty = 1 ∨ xty = 2 ∨ xty = 3 ∨ xty = 4 ∨ xty = 5 ∨ xty = 6 ∨ xty = 7 ∨ xty = 8 ∨ xty = 9 ∨ xty = 10 ∨ xty = 11 ∨ xty = 12 ∨ xty = 13 ∨ xty = 14 ∨ xty = 15 ∨ xty = 16 ∨ xty = 17 ∨ xty = 18 ∨ xty = 19 ∨ xty = 20 by omega) with rfl | rfl | rfl | rfl | rfl | rfl | rfl | rfl | rfl | rfl | rfl | rfl | rfl | rfl | rfl | rfl | rfl | rfl | rfl | rfl
  ·
   clear k6 k7 k8 k9 k11 k13 k14 k15 k16 k17 k18 k20 kS e1 e2 f1 f2 f3 f4 f6 f8 f9 f10 f11 f12 f13 f15; have HR := Lh hr; clear hr; obtain ⟨l1, hl1⟩ : ∃ x, x = l ++ [46] := ⟨_, rfl⟩
   have ql1 : l.length + 1 ≤ l1.length := by rw [hl1, List.length_append]; exact Nat.le_refl _
   obtain ⟨l2, hl2⟩ : ∃ x, x = itr (fun _ t l => pr n t l) xsl 0 l1 := ⟨_, rfl⟩
   have ql2 : l1.length ≤ l2.length := by rw [hl2]; exact itrLe (fun _ _ _ => prLe _ _ _) _ _ _
   have hX : l' = l2 := by rw [hl]; rw [hl2, hl1]; rfl
   rw [hX] at hlen; have HQ := Lh (And.intro hlen (And.intro ql1 ql2)); have HLl1 := Lh hl1; have HLl2 := Lh hl2; rw [hX]; clear hX hlen hl ql1 ql2 hl1 hl2; obtain ⟨zHR_0, zHR_5, zHR_14, zHR_16⟩ := (HR.out.at hp HB.out.below).cs4 0 5 14 16; go_enter Tryz.func23, Tryz.ntmps23; go_wp2_with fail; refine (HB.out.wbyte 46 46 rfl l1 HLl1.out (by have := HQ.out; omega)).mono ?_; rintro e w1 ⟨rfl, hb⟩; have HB1 := Lh hb; clear hb; clear zHR_0 zHR_5 zHR_14 zHR_16; obtain ⟨zHR_0, zHR_5, zHR_14, zHR_16⟩ := (HR.out.at hp HB1.out.below).cs4 0 5 14 16; go_wp2_with fail; go_loopw [174] (fun t wr => ∃ (j : Nat) (c : L8), j ≤ N16 ∧ t = .int .i64 j ∧ BS B w0 b c wr ∧ l2 = itr (fun _ t l => pr n t l) (xsl.drop j) j c) (fun t _ => N16 - (intOf t).toNat)
   case atStart =>
    exact ⟨0, l1, Nat.zero_le _, rfl, HB1.out, HLl2.out⟩
   case round =>
    obtain ⟨j, c, hj, rfl, hb, hx⟩ := hrel; have HB100 := Lh hb; have HXC := Lh hx; clear hb hx
    by_cases hlt : j < N16
    ·
     obtain ⟨ab, ao, q, t, hA, hcl, hst, hat, hW⟩ := LS16.out.kid HB100.out.below hlt (fun _ t l => pr n t l) c; subst hA; have hc := hcl _ HB100.out.below; have HST := Lh hst; have HAT := Lh hat; clear hcl hst hat; obtain ⟨c1, hc1⟩ : ∃ x, x = pr n t c := ⟨_, rfl⟩
     have qc1 : c.length ≤ c1.length := by rw [hc1]; exact prLe _ _ _
     have hf9 : (fun _ t l => pr n t l) j t c = c1 := by rw [hc1]
     have hx8 : l2 = itr (fun _ t l => pr n t l) (xsl.drop (j + 1)) (j + 1) c1 := by rw [← hf9]; exact HXC.out.trans HST.out
     have q9 : c1.length ≤ l2.length := by rw [hx8]; exact itrLe (fun _ _ _ => prLe _ _ _) _ _ _
     have HXD := Lh hx8; have HQC := Lh ((And.intro qc1 q9)); have HLc1 := Lh hc1; clear hf9 hx8 q9 qc1 hc1; go_wp2_with fail; refine (IHsf w0 _ B b q c c1 t hW HAT.out HB100.out HE.out HLc1.out (by have := HQ.out; have := HQC.out; omega)).mono ?_; rintro e w101 ⟨rfl, hb⟩; have HB101 := Lh hb; clear hb; go_wp2_with fail; exact ⟨⟨j + 1, c1, by omega, by go_num, HB101.out, HXD.out⟩, by simp [intOf]; omega⟩
    ·
     obtain rfl : N16 = j := by omega
     have hx9 : l2 = c := HXC.out.trans (LS16.out.fin _ c); have HB2 := Lh (show BS B w0 b l2 _ from by rw [hx9]; exact HB100.out); clear hx9; obtain ⟨zHR_0, zHR_5, zHR_14, zHR_16⟩ := (HR.out.at hp HB2.out.below).cs4 0 5 14 16; go_wp2_with fail
     first | go_ret | go_end0 | ((try simp only [Exit.inBlock, Exit.then]); first | refine bodyPost_ret (results_none rfl _ _ _) rfl ?_ | refine bodyPost_end (results_none rfl _ _ _) rfl ?_)
     exact ⟨rfl, HB2.out⟩
  ·
   clear k6 k7 k8 k9 k11 k13 k14 k15 k16 k17 k18 k20 kS e1 e2 f1 f2 f3 f4 f6 f8 f9 f10 f11 f12 f13 f15; have HR := Lh hr; clear hr; obtain ⟨l1, hl1⟩ : ∃ x, x = l ++ [46, 46] := ⟨_, rfl⟩
   have ql1 : l.length + 2 ≤ l1.length := by rw [hl1, List.length_append]; exact Nat.le_refl _
   obtain ⟨l2, hl2⟩ : ∃ x, x = itr (fun _ t l => pr n t l) xsl 0 l1 := ⟨_, rfl⟩
   have ql2 : l1.length ≤ l2.length := by rw [hl2]; exact itrLe (fun _ _ _ => prLe _ _ _) _ _ _
   have hX : l' = l2 := by rw [hl]; rw [hl2, hl1]; rfl
   rw [hX] at hlen; have HQ := Lh (And.intro hlen (And.intro ql1 ql2)); have HLl1 := Lh hl1; have HLl2 := Lh hl2; rw [hX]; clear hX hlen hl ql1 ql2 hl1 hl2; obtain ⟨zHR_0, zHR_5, zHR_14, zHR_16⟩ := (HR.out.at hp HB.out.below).cs4 0 5 14 16; go_enter Tryz.func23, Tryz.ntmps23; go_wp2_with fail; refine (HB.out.wstr (⟨#[46, 46]⟩ : ByteArray) l1 HLl1.out (by have := HQ.out; omega)).mono ?_; rintro e w1 ⟨rfl, hb⟩; have HB1 := Lh hb; clear hb; clear zHR_0 zHR_5 zHR_14 zHR_16; obtain ⟨zHR_0, zHR_5, zHR_14, zHR_16⟩ := (HR.out.at hp HB1.out.below).cs4 0 5 14 16; go_wp2_with fail; go_loopw [174] (fun t wr => ∃ (j : Nat) (c : L8), j ≤ N16 ∧ t = .int .i64 j ∧ BS B w0 b c wr ∧ l2 = itr (fun _ t l => pr n t l) (xsl.drop j) j c) (fun t _ => N16 - (intOf t).toNat)
   case atStart =>
    exact ⟨0, l1, Nat.zero_le _, rfl, HB1.out, HLl2.out⟩
   case round =>
    obtain ⟨j, c, hj, rfl, hb, hx⟩ := hrel; have HB100 := Lh hb; have HXC := Lh hx; clear hb hx
    by_cases hlt : j < N16
    ·
     obtain ⟨ab, ao, q, t, hA, hcl, hst, hat, hW⟩ := LS16.out.kid HB100.out.below hlt (fun _ t l => pr n t l) c; subst hA; have hc := hcl _ HB100.out.below; have HST := Lh hst; have HAT := Lh hat; clear hcl hst hat; obtain ⟨c1, hc1⟩ : ∃ x, x = pr n t c := ⟨_, rfl⟩
     have qc1 : c.length ≤ c1.length := by rw [hc1]; exact prLe _ _ _
     have hf9 : (fun _ t l => pr n t l) j t c = c1 := by rw [hc1]
     have hx8 : l2 = itr (fun _ t l => pr n t l) (xsl.drop (j + 1)) (j + 1) c1 := by rw [← hf9]; exact HXC.out.trans HST.out
     have q9 : c1.length ≤ l2.length := by rw [hx8]; exact itrLe (fun _ _ _ => prLe _ _ _) _ _ _
     have HXD := Lh hx8; have HQC := Lh ((And.intro qc1 q9)); have HLc1 := Lh hc1; clear hf9 hx8 q9 qc1 hc1; go_wp2_with fail; refine (IHsf w0 _ B b q c c1 t hW HAT.out HB100.out HE.out HLc1.out (by have := HQ.out; have := HQC.out; omega)).mono ?_; rintro e w101 ⟨rfl, hb⟩; have HB101 := Lh hb; clear hb; go_wp2_with fail; exact ⟨⟨j + 1, c1, by omega, by go_num, HB101.out, HXD.out⟩, by simp [intOf]; omega⟩
    ·
     obtain rfl : N16 = j := by omega
     have hx9 : l2 = c := HXC.out.trans (LS16.out.fin _ c); have HB2 := Lh (show BS B w0 b l2 _ from by rw [hx9]; exact HB100.out); clear hx9; obtain ⟨zHR_0, zHR_5, zHR_14, zHR_16⟩ := (HR.out.at hp HB2.out.below).cs4 0 5 14 16; go_wp2_with fail
     first | go_ret | go_end0 | ((try simp only [Exit.inBlock, Exit.then]); first | refine bodyPost_ret (results_none rfl _ _ _) rfl ?_ | refine bodyPost_end (results_none rfl _ _ _) rfl ?_)
     exact ⟨rfl, HB2.out⟩
  ·
   clear k6 k7 k8 k9 k11 k13 k14 k15 k16 k17 k18 k20 kS e1 e2 f1 f2 f3 f4 f6 f8 f9 f10 f11 f12 f13 f15; have HR := Lh hr; clear hr; obtain ⟨l1, hl1⟩ : ∃ x, x = l ++ [110, 117, 108, 108] := ⟨_, rfl⟩
   have ql1 : l.length + 4 ≤ l1.length := by rw [hl1, List.length_append]; exact Nat.le_refl _
   obtain ⟨l2, hl2⟩ : ∃ x, x = itr (fun _ t l => pr n t l) xsl 0 l1 := ⟨_, rfl⟩
   have ql2 : l1.length ≤ l2.length := by rw [hl2]; exact itrLe (fun _ _ _ => prLe _ _ _) _ _ _
   have hX : l' = l2 := by rw [hl]; rw [hl2, hl1]; rfl
   rw [hX] at hlen; have HQ := Lh (And.intro hlen (And.intro ql1 ql2)); have HLl1 := Lh hl1; have HLl2 := Lh hl2; rw [hX]; clear hX hlen hl ql1 ql2 hl1 hl2; obtain ⟨zHR_0, zHR_5, zHR_14, zHR_16⟩ := (HR.out.at hp HB.out.below).cs4 0 5 14 16; go_enter Tryz.func23, Tryz.ntmps23; go_wp2_with fail; refine (HB.out.wstr (⟨#[110, 117, 108, 108]⟩ : ByteArray) l1 HLl1.out (by have := HQ.out; omega)).mono ?_; rintro e w1 ⟨rfl, hb⟩; have HB1 := Lh hb; clear hb; clear zHR_0 zHR_5 zHR_14 zHR_16; obtain ⟨zHR_0, zHR_5, zHR_14, zHR_16⟩ := (HR.out.at hp HB1.out.below).cs4 0 5 14 16; go_wp2_with fail; go_loopw [174] (fun t wr => ∃ (j : Nat) (c : L8), j ≤ N16 ∧ t = .int .i64 j ∧ BS B w0 b c wr ∧ l2 = itr (fun _ t l => pr n t l) (xsl.drop j) j c) (fun t _ => N16 - (intOf t).toNat)
   case atStart =>
    exact ⟨0, l1, Nat.zero_le _, rfl, HB1.out, HLl2.out⟩
   case round =>
    obtain ⟨j, c, hj, rfl, hb, hx⟩ := hrel; have HB100 := Lh hb; have HXC := Lh hx; clear hb hx
    by_cases hlt : j < N16
    ·
     obtain ⟨ab, ao, q, t, hA, hcl, hst, hat, hW⟩ := LS16.out.kid HB100.out.below hlt (fun _ t l => pr n t l) c; subst hA; have hc := hcl _ HB100.out.below; have HST := Lh hst; have HAT := Lh hat; clear hcl hst hat; obtain ⟨c1, hc1⟩ : ∃ x, x = pr n t c := ⟨_, rfl⟩
     have qc1 : c.length ≤ c1.length := by rw [hc1]; exact prLe _ _ _
     have hf9 : (fun _ t l => pr n t l) j t c = c1 := by rw [hc1]
     have hx8 : l2 = itr (fun _ t l => pr n t l) (xsl.drop (j + 1)) (j + 1) c1 := by rw [← hf9]; exact HXC.out.trans HST.out
     have q9 : c1.length ≤ l2.length := by rw [hx8]; exact itrLe (fun _ _ _ => prLe _ _ _) _ _ _
     have HXD := Lh hx8; have HQC := Lh ((And.intro qc1 q9)); have HLc1 := Lh hc1; clear hf9 hx8 q9 qc1 hc1; go_wp2_with fail; refine (IHsf w0 _ B b q c c1 t hW HAT.out HB100.out HE.out HLc1.out (by have := HQ.out; have := HQC.out; omega)).mono ?_; rintro e w101 ⟨rfl, hb⟩; have HB101 := Lh hb; clear hb; go_wp2_with fail; exact ⟨⟨j + 1, c1, by omega, by go_num, HB101.out, HXD.out⟩, by simp [intOf]; omega⟩
    ·
     obtain rfl : N16 = j := by omega
     have hx9 : l2 = c := HXC.out.trans (LS16.out.fin _ c); have HB2 := Lh (show BS B w0 b l2 _ from by rw [hx9]; exact HB100.out); clear hx9; obtain ⟨zHR_0, zHR_5, zHR_14, zHR_16⟩ := (HR.out.at hp HB2.out.below).cs4 0 5 14 16; go_wp2_with fail
     first | go_ret | go_end0 | ((try simp only [Exit.inBlock, Exit.then]); first | refine bodyPost_ret (results_none rfl _ _ _) rfl ?_ | refine bodyPost_end (results_none rfl _ _ _) rfl ?_)
     exact ⟨rfl, HB2.out⟩
  ·
   clear k6 k7 k8 k9 k11 k13 k14 k15 k16 k17 k18 k20 kS e1 e2 f1 f2 f3 f4 f6 f8 f9 f10 f11 f12 f13 f15; have HR := Lh hr; clear hr; obtain ⟨l1, hl1⟩ : ∃ x, x = l ++ [116, 114, 117, 101] := ⟨_, rfl⟩
   have ql1 : l.length + 4 ≤ l1.length := by rw [hl1, List.length_append]; exact Nat.le_refl _
   obtain ⟨l2, hl2⟩ : ∃ x, x = itr (fun _ t l => pr n t l) xsl 0 l1 := ⟨_, rfl⟩
   have ql2 : l1.length ≤ l2.length := by rw [hl2]; exact itrLe (fun _ _ _ => prLe _ _ _) _ _ _
   have hX : l' = l2 := by rw [hl]; rw [hl2, hl1]; rfl
   rw [hX] at hlen; have HQ := Lh (And.intro hlen (And.intro ql1 ql2)); have HLl1 := Lh hl1; have HLl2 := Lh hl2; rw [hX]; clear hX hlen hl ql1 ql2 hl1 hl2; obtain ⟨zHR_0, zHR_5, zHR_14, zHR_16⟩ := (HR.out.at hp HB.out.below).cs4 0 5 14 16; go_enter Tryz.func23, Tryz.ntmps23; go_wp2_with fail; refine (HB.out.wstr (⟨#[116, 114, 117, 101]⟩ : ByteArray) l1 HLl1.out (by have := HQ.out; omega)).mono ?_; rintro e w1 ⟨rfl, hb⟩; have HB1 := Lh hb; clear hb; clear zHR_0 zHR_5 zHR_14 zHR_16; obtain ⟨zHR_0, zHR_5, zHR_14, zHR_16⟩ := (HR.out.at hp HB1.out.below).cs4 0 5 14 16; go_wp2_with fail; go_loopw [174] (fun t wr => ∃ (j : Nat) (c : L8), j ≤ N16 ∧ t = .int .i64 j ∧ BS B w0 b c wr ∧ l2 = itr (fun _ t l => pr n t l) (xsl.drop j) j c) (fun t _ => N16 - (intOf t).toNat)
   case atStart =>
    exact ⟨0, l1, Nat.zero_le _, rfl, HB1.out, HLl2.out⟩
   case round =>
    obtain ⟨j, c, hj, rfl, hb, hx⟩ := hrel; have HB100 := Lh hb; have HXC := Lh hx; clear hb hx
    by_cases hlt : j < N16
    ·
     obtain ⟨ab, ao, q, t, hA, hcl, hst, hat, hW⟩ := LS16.out.kid HB100.out.below hlt (fun _ t l => pr n t l) c; subst hA; have hc := hcl _ HB100.out.below; have HST := Lh hst; have HAT := Lh hat; clear hcl hst hat; obtain ⟨c1, hc1⟩ : ∃ x, x = pr n t c := ⟨_, rfl⟩
     have qc1 : c.length ≤ c1.length := by rw [hc1]; exact prLe _ _ _
     have hf9 : (fun _ t l => pr n t l) j t c = c1 := by rw [hc1]
     have hx8 : l2 = itr (fun _ t l => pr n t l) (xsl.drop (j + 1)) (j + 1) c1 := by rw [← hf9]; exact HXC.out.trans HST.out
     have q9 : c1.length ≤ l2.length := by rw [hx8]; exact itrLe (fun _ _ _ => prLe _ _ _) _ _ _
     have HXD := Lh hx8; have HQC := Lh ((And.intro qc1 q9)); have HLc1 := Lh hc1; clear hf9 hx8 q9 qc1 hc1; go_wp2_with fail; refine (IHsf w0 _ B b q c c1 t hW HAT.out HB100.out HE.out HLc1.out (by have := HQ.out; have := HQC.out; omega)).mono ?_; rintro e w101 ⟨rfl, hb⟩; have HB101 := Lh hb; clear hb; go_wp2_with fail; exact ⟨⟨j + 1, c1, by omega, by go_num, HB101.out, HXD.out⟩, by simp [intOf]; omega⟩
    ·
     obtain rfl : N16 = j := by omega
     have hx9 : l2 = c := HXC.out.trans (LS16.out.fin _ c); have HB2 := Lh (show BS B w0 b l2 _ from by rw [hx9]; exact HB100.out); clear hx9; obtain ⟨zHR_0, zHR_5, zHR_14, zHR_16⟩ := (HR.out.at hp HB2.out.below).cs4 0 5 14 16; go_wp2_with fail
     first | go_ret | go_end0 | ((try simp only [Exit.inBlock, Exit.then]); first | refine bodyPost_ret (results_none rfl _ _ _) rfl ?_ | refine bodyPost_end (results_none rfl _ _ _) rfl ?_)
     exact ⟨rfl, HB2.out⟩
  ·
   clear k6 k7 k8 k9 k11 k13 k14 k15 k16 k17 k18 k20 kS e1 e2 f1 f2 f3 f4 f6 f8 f9 f10 f11 f12 f13 f15; have HR := Lh hr; clear hr; obtain ⟨l1, hl1⟩ : ∃ x, x = l ++ [102, 97, 108, 115, 101] := ⟨_, rfl⟩
   have ql1 : l.length + 5 ≤ l1.length := by rw [hl1, List.length_append]; exact Nat.le_refl _
   obtain ⟨l2, hl2⟩ : ∃ x, x = itr (fun _ t l => pr n t l) xsl 0 l1 := ⟨_, rfl⟩
   have ql2 : l1.length ≤ l2.length := by rw [hl2]; exact itrLe (fun _ _ _ => prLe _ _ _) _ _ _
   have hX : l' = l2 := by rw [hl]; rw [hl2, hl1]; rfl
   rw [hX] at hlen; have HQ := Lh (And.intro hlen (And.intro ql1 ql2)); have HLl1 := Lh hl1; have HLl2 := Lh hl2; rw [hX]; clear hX hlen hl ql1 ql2 hl1 hl2; obtain ⟨zHR_0, zHR_5, zHR_14, zHR_16⟩ := (HR.out.at hp HB.out.below).cs4 0 5 14 16; go_enter Tryz.func23, Tryz.ntmps23; go_wp2_with fail; refine (HB.out.wstr (⟨#[102, 97, 108, 115, 101]⟩ : ByteArray) l1 HLl1.out (by have := HQ.out; omega)).mono ?_; rintro e w1 ⟨rfl, hb⟩; have HB1 := Lh hb; clear hb; clear zHR_0 zHR_5 zHR_14 zHR_16; obtain ⟨zHR_0, zHR_5, zHR_14, zHR_16⟩ := (HR.out.at hp HB1.out.below).cs4 0 5 14 16; go_wp2_with fail; go_loopw [174] (fun t wr => ∃ (j : Nat) (c : L8), j ≤ N16 ∧ t = .int .i64 j ∧ BS B w0 b c wr ∧ l2 = itr (fun _ t l => pr n t l) (xsl.drop j) j c) (fun t _ => N16 - (intOf t).toNat)
   case atStart =>
    exact ⟨0, l1, Nat.zero_le _, rfl, HB1.out, HLl2.out⟩
   case round =>
    obtain ⟨j, c, hj, rfl, hb, hx⟩ := hrel; have HB100 := Lh hb; have HXC := Lh hx; clear hb hx
    by_cases hlt : j < N16
    ·
     obtain ⟨ab, ao, q, t, hA, hcl, hst, hat, hW⟩ := LS16.out.kid HB100.out.below hlt (fun _ t l => pr n t l) c; subst hA; have hc := hcl _ HB100.out.below; have HST := Lh hst; have HAT := Lh hat; clear hcl hst hat; obtain ⟨c1, hc1⟩ : ∃ x, x = pr n t c := ⟨_, rfl⟩
     have qc1 : c.length ≤ c1.length := by rw [hc1]; exact prLe _ _ _
     have hf9 : (fun _ t l => pr n t l) j t c = c1 := by rw [hc1]
     have hx8 : l2 = itr (fun _ t l => pr n t l) (xsl.drop (j + 1)) (j + 1) c1 := by rw [← hf9]; exact HXC.out.trans HST.out
     have q9 : c1.length ≤ l2.length := by rw [hx8]; exact itrLe (fun _ _ _ => prLe _ _ _) _ _ _
     have HXD := Lh hx8; have HQC := Lh ((And.intro qc1 q9)); have HLc1 := Lh hc1; clear hf9 hx8 q9 qc1 hc1; go_wp2_with fail; refine (IHsf w0 _ B b q c c1 t hW HAT.out HB100.out HE.out HLc1.out (by have := HQ.out; have := HQC.out; omega)).mono ?_; rintro e w101 ⟨rfl, hb⟩; have HB101 := Lh hb; clear hb; go_wp2_with fail; exact ⟨⟨j + 1, c1, by omega, by go_num, HB101.out, HXD.out⟩, by simp [intOf]; omega⟩
    ·
     obtain rfl : N16 = j := by omega
     have hx9 : l2 = c := HXC.out.trans (LS16.out.fin _ c); have HB2 := Lh (show BS B w0 b l2 _ from by rw [hx9]; exact HB100.out); clear hx9; obtain ⟨zHR_0, zHR_5, zHR_14, zHR_16⟩ := (HR.out.at hp HB2.out.below).cs4 0 5 14 16; go_wp2_with fail
     first | go_ret | go_end0 | ((try simp only [Exit.inBlock, Exit.then]); first | refine bodyPost_ret (results_none rfl _ _ _) rfl ?_ | refine bodyPost_end (results_none rfl _ _ _) rfl ?_)
     exact ⟨rfl, HB2.out⟩
  ·
   rcases FV.pt f1 with ⟨rfl, rfl⟩ | ⟨y, r, rfl, rfl, ay⟩
   ·
    exact absurd (k6 rfl) (by simp)
   ·
    have HA := Lh ay; clear k6 k7 k8 k9 k11 k13 k14 k15 k16 k17 k18 k20 kS e1 e2 ay f1 f2 f3 f4 f6 f8 f9 f10 f11 f12 f13 f15; have HR := Lh hr; clear hr; obtain ⟨l1, hl1⟩ : ∃ x, x = pr n y l := ⟨_, rfl⟩
    have ql1 : l.length ≤ l1.length := by rw [hl1]; exact prLe _ _ _
    obtain ⟨l2, hl2⟩ : ∃ x, x = itr (fun _ t l => pr n t l) xsl 0 l1 := ⟨_, rfl⟩
    have ql2 : l1.length ≤ l2.length := by rw [hl2]; exact itrLe (fun _ _ _ => prLe _ _ _) _ _ _
    have hX : l' = l2 := by rw [hl]; rw [hl2, hl1]; rfl
    rw [hX] at hlen; have HQ := Lh (And.intro hlen (And.intro ql1 ql2)); have HLl1 := Lh hl1; have HLl2 := Lh hl2; rw [hX]; clear hX hlen hl ql1 ql2 hl1 hl2; obtain ⟨zHR_0, zHR_1, zHR_16⟩ := (HR.out.at hp HB.out.below).cs3 0 1 16; go_enter Tryz.func23, Tryz.ntmps23; go_wp2_with fail; refine (IHix w0 _ B b r l l1 y (hix _ rfl) HA.out HB.out HE.out HLl1.out (by have := HQ.out; omega)).mono ?_; rintro e w1 ⟨rfl, hb⟩; have HB1 := Lh hb; clear hb; clear zHR_0 zHR_1 zHR_16; obtain ⟨zHR_0, zHR_1, zHR_16⟩ := (HR.out.at hp HB1.out.below).cs3 0 1 16; go_wp2_with fail; go_loopw [174] (fun t wr => ∃ (j : Nat) (c : L8), j ≤ N16 ∧ t = .int .i64 j ∧ BS B w0 b c wr ∧ l2 = itr (fun _ t l => pr n t l) (xsl.drop j) j c) (fun t _ => N16 - (intOf t).toNat)
    case atStart =>
     exact ⟨0, l1, Nat.zero_le _, rfl, HB1.out, HLl2.out⟩
    case round =>
     obtain ⟨j, c, hj, rfl, hb, hx⟩ := hrel; have HB100 := Lh hb; have HXC := Lh hx; clear hb hx
     by_cases hlt : j < N16
     ·
      obtain ⟨ab, ao, q, t, hA, hcl, hst, hat, hW⟩ := LS16.out.kid HB100.out.below hlt (fun _ t l => pr n t l) c; subst hA; have hc := hcl _ HB100.out.below; have HST := Lh hst; have HAT := Lh hat; clear hcl hst hat; obtain ⟨c1, hc1⟩ : ∃ x, x = pr n t c := ⟨_, rfl⟩
      have qc1 : c.length ≤ c1.length := by rw [hc1]; exact prLe _ _ _
      have hf9 : (fun _ t l => pr n t l) j t c = c1 := by rw [hc1]
      have hx8 : l2 = itr (fun _ t l => pr n t l) (xsl.drop (j + 1)) (j + 1) c1 := by rw [← hf9]; exact HXC.out.trans HST.out
      have q9 : c1.length ≤ l2.length := by rw [hx8]; exact itrLe (fun _ _ _ => prLe _ _ _) _ _ _
      have HXD := Lh hx8; have HQC := Lh ((And.intro qc1 q9)); have HLc1 := Lh hc1; clear hf9 hx8 q9 qc1 hc1; go_wp2_with fail; refine (IHsf w0 _ B b q c c1 t hW HAT.out HB100.out HE.out HLc1.out (by have := HQ.out; have := HQC.out; omega)).mono ?_; rintro e w101 ⟨rfl, hb⟩; have HB101 := Lh hb; clear hb; go_wp2_with fail; exact ⟨⟨j + 1, c1, by omega, by go_num, HB101.out, HXD.out⟩, by simp [intOf]; omega⟩
     ·
      obtain rfl : N16 = j := by omega
      have hx9 : l2 = c := HXC.out.trans (LS16.out.fin _ c); have HB2 := Lh (show BS B w0 b l2 _ from by rw [hx9]; exact HB100.out); clear hx9; obtain ⟨zHR_0, zHR_1, zHR_16⟩ := (HR.out.at hp HB2.out.below).cs3 0 1 16; go_wp2_with fail
      first | go_ret | go_end0 | ((try simp only [Exit.inBlock, Exit.then]); first | refine bodyPost_ret (results_none rfl _ _ _) rfl ?_ | refine bodyPost_end (results_none rfl _ _ _) rfl ?_)
      exact ⟨rfl, HB2.out⟩
  ·
   rcases FV.pt f2 with ⟨rfl, rfl⟩ | ⟨y, r, rfl, rfl, ay⟩
   ·
    exact absurd (k7 rfl) (by simp)
   ·
    have HA := Lh ay; clear k6 k7 k8 k9 k11 k13 k14 k15 k16 k17 k18 k20 kS e1 e2 ay f1 f2 f3 f4 f6 f8 f9 f10 f11 f12 f13 f15; have HR := Lh hr; clear hr; obtain ⟨l1, hl1⟩ : ∃ x, x = pr n y l := ⟨_, rfl⟩
    have ql1 : l.length ≤ l1.length := by rw [hl1]; exact prLe _ _ _
    obtain ⟨l2, hl2⟩ : ∃ x, x = itr (fun _ t l => pr n t l) xsl 0 l1 := ⟨_, rfl⟩
    have ql2 : l1.length ≤ l2.length := by rw [hl2]; exact itrLe (fun _ _ _ => prLe _ _ _) _ _ _
    have hX : l' = l2 := by rw [hl]; rw [hl2, hl1]; rfl
    rw [hX] at hlen; have HQ := Lh (And.intro hlen (And.intro ql1 ql2)); have HLl1 := Lh hl1; have HLl2 := Lh hl2; rw [hX]; clear hX hlen hl ql1 ql2 hl1 hl2; obtain ⟨zHR_0, zHR_2, zHR_16⟩ := (HR.out.at hp HB.out.below).cs3 0 2 16; go_enter Tryz.func23, Tryz.ntmps23; go_wp2_with fail; refine (IHfn w0 _ B b r l l1 y (hfn _ rfl) HA.out HB.out HE.out HLl1.out (by have := HQ.out; omega)).mono ?_; rintro e w1 ⟨rfl, hb⟩; have HB1 := Lh hb; clear hb; clear zHR_0 zHR_2 zHR_16; obtain ⟨zHR_0, zHR_2, zHR_16⟩ := (HR.out.at hp HB1.out.below).cs3 0 2 16; go_wp2_with fail; go_loopw [174] (fun t wr => ∃ (j : Nat) (c : L8), j ≤ N16 ∧ t = .int .i64 j ∧ BS B w0 b c wr ∧ l2 = itr (fun _ t l => pr n t l) (xsl.drop j) j c) (fun t _ => N16 - (intOf t).toNat)
    case atStart =>
     exact ⟨0, l1, Nat.zero_le _, rfl, HB1.out, HLl2.out⟩
    case round =>
     obtain ⟨j, c, hj, rfl, hb, hx⟩ := hrel; have HB100 := Lh hb; have HXC := Lh hx; clear hb hx
     by_cases hlt : j < N16
     ·
      obtain ⟨ab, ao, q, t, hA, hcl, hst, hat, hW⟩ := LS16.out.kid HB100.out.below hlt (fun _ t l => pr n t l) c; subst hA; have hc := hcl _ HB100.out.below; have HST := Lh hst; have HAT := Lh hat; clear hcl hst hat; obtain ⟨c1, hc1⟩ : ∃ x, x = pr n t c := ⟨_, rfl⟩
      have qc1 : c.length ≤ c1.length := by rw [hc1]; exact prLe _ _ _
      have hf9 : (fun _ t l => pr n t l) j t c = c1 := by rw [hc1]
      have hx8 : l2 = itr (fun _ t l => pr n t l) (xsl.drop (j + 1)) (j + 1) c1 := by rw [← hf9]; exact HXC.out.trans HST.out
      have q9 : c1.length ≤ l2.length := by rw [hx8]; exact itrLe (fun _ _ _ => prLe _ _ _) _ _ _
      have HXD := Lh hx8; have HQC := Lh ((And.intro qc1 q9)); have HLc1 := Lh hc1; clear hf9 hx8 q9 qc1 hc1; go_wp2_with fail; refine (IHsf w0 _ B b q c c1 t hW HAT.out HB100.out HE.out HLc1.out (by have := HQ.out; have := HQC.out; omega)).mono ?_; rintro e w101 ⟨rfl, hb⟩; have HB101 := Lh hb; clear hb; go_wp2_with fail; exact ⟨⟨j + 1, c1, by omega, by go_num, HB101.out, HXD.out⟩, by simp [intOf]; omega⟩
     ·
      obtain rfl : N16 = j := by omega
      have hx9 : l2 = c := HXC.out.trans (LS16.out.fin _ c); have HB2 := Lh (show BS B w0 b l2 _ from by rw [hx9]; exact HB100.out); clear hx9; obtain ⟨zHR_0, zHR_2, zHR_16⟩ := (HR.out.at hp HB2.out.below).cs3 0 2 16; go_wp2_with fail
      first | go_ret | go_end0 | ((try simp only [Exit.inBlock, Exit.then]); first | refine bodyPost_ret (results_none rfl _ _ _) rfl ?_ | refine bodyPost_end (results_none rfl _ _ _) rfl ?_)
      exact ⟨rfl, HB2.out⟩
  ·
   rcases FV.pt f3 with ⟨rfl, rfl⟩ | ⟨y, r, rfl, rfl, ay⟩
   ·
    exact absurd (k8 rfl) (by simp)
   ·
    have HA := Lh ay; clear k6 k7 k8 k9 k11 k13 k14 k15 k16 k17 k18 k20 kS e1 e2 ay f1 f2 f3 f4 f6 f8 f9 f10 f11 f12 f13 f15; have HR := Lh hr; clear hr; obtain ⟨l1, hl1⟩ : ∃ x, x = pr n y l := ⟨_, rfl⟩
    have ql1 : l.length ≤ l1.length := by rw [hl1]; exact prLe _ _ _
    obtain ⟨l2, hl2⟩ : ∃ x, x = itr (fun _ t l => pr n t l) xsl 0 l1 := ⟨_, rfl⟩
    have ql2 : l1.length ≤ l2.length := by rw [hl2]; exact itrLe (fun _ _ _ => prLe _ _ _) _ _ _
    have hX : l' = l2 := by rw [hl]; rw [hl2, hl1]; rfl
    rw [hX] at hlen; have HQ := Lh (And.intro hlen (And.intro ql1 ql2)); have HLl1 := Lh hl1; have HLl2 := Lh hl2; rw [hX]; clear hX hlen hl ql1 ql2 hl1 hl2; obtain ⟨zHR_0, zHR_3, zHR_16⟩ := (HR.out.at hp HB.out.below).cs3 0 3 16; go_enter Tryz.func23, Tryz.ntmps23; go_wp2_with fail; refine (IHob w0 _ B b r l l1 y (hob _ rfl) HA.out HB.out HE.out HLl1.out (by have := HQ.out; omega)).mono ?_; rintro e w1 ⟨rfl, hb⟩; have HB1 := Lh hb; clear hb; clear zHR_0 zHR_3 zHR_16; obtain ⟨zHR_0, zHR_3, zHR_16⟩ := (HR.out.at hp HB1.out.below).cs3 0 3 16; go_wp2_with fail; go_loopw [174] (fun t wr => ∃ (j : Nat) (c : L8), j ≤ N16 ∧ t = .int .i64 j ∧ BS B w0 b c wr ∧ l2 = itr (fun _ t l => pr n t l) (xsl.drop j) j c) (fun t _ => N16 - (intOf t).toNat)
    case atStart =>
     exact ⟨0, l1, Nat.zero_le _, rfl, HB1.out, HLl2.out⟩
    case round =>
     obtain ⟨j, c, hj, rfl, hb, hx⟩ := hrel; have HB100 := Lh hb; have HXC := Lh hx; clear hb hx
     by_cases hlt : j < N16
     ·
      obtain ⟨ab, ao, q, t, hA, hcl, hst, hat, hW⟩ := LS16.out.kid HB100.out.below hlt (fun _ t l => pr n t l) c; subst hA; have hc := hcl _ HB100.out.below; have HST := Lh hst; have HAT := Lh hat; clear hcl hst hat; obtain ⟨c1, hc1⟩ : ∃ x, x = pr n t c := ⟨_, rfl⟩
      have qc1 : c.length ≤ c1.length := by rw [hc1]; exact prLe _ _ _
      have hf9 : (fun _ t l => pr n t l) j t c = c1 := by rw [hc1]
      have hx8 : l2 = itr (fun _ t l => pr n t l) (xsl.drop (j + 1)) (j + 1) c1 := by rw [← hf9]; exact HXC.out.trans HST.out
      have q9 : c1.length ≤ l2.length := by rw [hx8]; exact itrLe (fun _ _ _ => prLe _ _ _) _ _ _
      have HXD := Lh hx8; have HQC := Lh ((And.intro qc1 q9)); have HLc1 := Lh hc1; clear hf9 hx8 q9 qc1 hc1; go_wp2_with fail; refine (IHsf w0 _ B b q c c1 t hW HAT.out HB100.out HE.out HLc1.out (by have := HQ.out; have := HQC.out; omega)).mono ?_; rintro e w101 ⟨rfl, hb⟩; have HB101 := Lh hb; clear hb; go_wp2_with fail; exact ⟨⟨j + 1, c1, by omega, by go_num, HB101.out, HXD.out⟩, by simp [intOf]; omega⟩
     ·
      obtain rfl : N16 = j := by omega
      have hx9 : l2 = c := HXC.out.trans (LS16.out.fin _ c); have HB2 := Lh (show BS B w0 b l2 _ from by rw [hx9]; exact HB100.out); clear hx9; obtain ⟨zHR_0, zHR_3, zHR_16⟩ := (HR.out.at hp HB2.out.below).cs3 0 3 16; go_wp2_with fail
      first | go_ret | go_end0 | ((try simp only [Exit.inBlock, Exit.then]); first | refine bodyPost_ret (results_none rfl _ _ _) rfl ?_ | refine bodyPost_end (results_none rfl _ _ _) rfl ?_)
      exact ⟨rfl, HB2.out⟩
  ·
   rcases FV.pt f4 with ⟨rfl, rfl⟩ | ⟨y, r, rfl, rfl, ay⟩
   ·
    exact absurd (k9 rfl) (by simp)
   ·
    have HA := Lh ay; clear k6 k7 k8 k9 k11 k13 k14 k15 k16 k17 k18 k20 kS e1 e2 ay f1 f2 f3 f4 f6 f8 f9 f10 f11 f12 f13 f15; have HR := Lh hr; clear hr; obtain ⟨l1, hl1⟩ : ∃ x, x = pr n y l := ⟨_, rfl⟩
    have ql1 : l.length ≤ l1.length := by rw [hl1]; exact prLe _ _ _
    obtain ⟨l2, hl2⟩ : ∃ x, x = itr (fun _ t l => pr n t l) xsl 0 l1 := ⟨_, rfl⟩
    have ql2 : l1.length ≤ l2.length := by rw [hl2]; exact itrLe (fun _ _ _ => prLe _ _ _) _ _ _
    have hX : l' = l2 := by rw [hl]; rw [hl2, hl1]; rfl
    rw [hX] at hlen; have HQ := Lh (And.intro hlen (And.intro ql1 ql2)); have HLl1 := Lh hl1; have HLl2 := Lh hl2; rw [hX]; clear hX hlen hl ql1 ql2 hl1 hl2; obtain ⟨zHR_0, zHR_4, zHR_16⟩ := (HR.out.at hp HB.out.below).cs3 0 4 16; go_enter Tryz.func23, Tryz.ntmps23; go_wp2_with fail; refine (IHar w0 _ B b r l l1 y (har _ rfl) HA.out HB.out HE.out HLl1.out (by have := HQ.out; omega)).mono ?_; rintro e w1 ⟨rfl, hb⟩; have HB1 := Lh hb; clear hb; clear zHR_0 zHR_4 zHR_16; obtain ⟨zHR_0, zHR_4, zHR_16⟩ := (HR.out.at hp HB1.out.below).cs3 0 4 16; go_wp2_with fail; go_loopw [174] (fun t wr => ∃ (j : Nat) (c : L8), j ≤ N16 ∧ t = .int .i64 j ∧ BS B w0 b c wr ∧ l2 = itr (fun _ t l => pr n t l) (xsl.drop j) j c) (fun t _ => N16 - (intOf t).toNat)
    case atStart =>
     exact ⟨0, l1, Nat.zero_le _, rfl, HB1.out, HLl2.out⟩
    case round =>
     obtain ⟨j, c, hj, rfl, hb, hx⟩ := hrel; have HB100 := Lh hb; have HXC := Lh hx; clear hb hx
     by_cases hlt : j < N16
     ·
      obtain ⟨ab, ao, q, t, hA, hcl, hst, hat, hW⟩ := LS16.out.kid HB100.out.below hlt (fun _ t l => pr n t l) c; subst hA; have hc := hcl _ HB100.out.below; have HST := Lh hst; have HAT := Lh hat; clear hcl hst hat; obtain ⟨c1, hc1⟩ : ∃ x, x = pr n t c := ⟨_, rfl⟩
      have qc1 : c.length ≤ c1.length := by rw [hc1]; exact prLe _ _ _
      have hf9 : (fun _ t l => pr n t l) j t c = c1 := by rw [hc1]
      have hx8 : l2 = itr (fun _ t l => pr n t l) (xsl.drop (j + 1)) (j + 1) c1 := by rw [← hf9]; exact HXC.out.trans HST.out
      have q9 : c1.length ≤ l2.length := by rw [hx8]; exact itrLe (fun _ _ _ => prLe _ _ _) _ _ _
      have HXD := Lh hx8; have HQC := Lh ((And.intro qc1 q9)); have HLc1 := Lh hc1; clear hf9 hx8 q9 qc1 hc1; go_wp2_with fail; refine (IHsf w0 _ B b q c c1 t hW HAT.out HB100.out HE.out HLc1.out (by have := HQ.out; have := HQC.out; omega)).mono ?_; rintro e w101 ⟨rfl, hb⟩; have HB101 := Lh hb; clear hb; go_wp2_with fail; exact ⟨⟨j + 1, c1, by omega, by go_num, HB101.out, HXD.out⟩, by simp [intOf]; omega⟩
     ·
      obtain rfl : N16 = j := by omega
      have hx9 : l2 = c := HXC.out.trans (LS16.out.fin _ c); have HB2 := Lh (show BS B w0 b l2 _ from by rw [hx9]; exact HB100.out); clear hx9; obtain ⟨zHR_0, zHR_4, zHR_16⟩ := (HR.out.at hp HB2.out.below).cs3 0 4 16; go_wp2_with fail
      first | go_ret | go_end0 | ((try simp only [Exit.inBlock, Exit.then]); first | refine bodyPost_ret (results_none rfl _ _ _) rfl ?_ | refine bodyPost_end (results_none rfl _ _ _) rfl ?_)
      exact ⟨rfl, HB2.out⟩
  ·
   clear k6 k7 k8 k9 k11 k13 k14 k15 k16 k17 k18 k20 kS e1 e2 f1 f2 f3 f4 f6 f8 f9 f10 f11 f12 f13 f15; have HR := Lh hr; clear hr; obtain ⟨l1, hl1⟩ : ∃ x, x = l ++ xnum.data.toList := ⟨_, rfl⟩
   have ql1 : l.length ≤ l1.length := by rw [hl1, List.length_append]; omega
   obtain ⟨l2, hl2⟩ : ∃ x, x = itr (fun _ t l => pr n t l) xsl 0 l1 := ⟨_, rfl⟩
   have ql2 : l1.length ≤ l2.length := by rw [hl2]; exact itrLe (fun _ _ _ => prLe _ _ _) _ _ _
   have hX : l' = l2 := by rw [hl]; rw [hl2, hl1]; rfl
   rw [hX] at hlen; have HQ := Lh (And.intro hlen (And.intro ql1 ql2)); have HLl1 := Lh hl1; have HLl2 := Lh hl2; rw [hX]; clear hX hlen hl ql1 ql2 hl1 hl2; obtain ⟨zHR_0, zHR_5, zHR_14, zHR_16⟩ := (HR.out.at hp HB.out.below).cs4 0 5 14 16; go_enter Tryz.func23, Tryz.ntmps23; go_wp2_with fail; refine (HB.out.wstr xnum l1 HLl1.out (by have := HQ.out; omega)).mono ?_; rintro e w1 ⟨rfl, hb⟩; have HB1 := Lh hb; clear hb; clear zHR_0 zHR_5 zHR_14 zHR_16; obtain ⟨zHR_0, zHR_5, zHR_14, zHR_16⟩ := (HR.out.at hp HB1.out.below).cs4 0 5 14 16; go_wp2_with fail; go_loopw [174] (fun t wr => ∃ (j : Nat) (c : L8), j ≤ N16 ∧ t = .int .i64 j ∧ BS B w0 b c wr ∧ l2 = itr (fun _ t l => pr n t l) (xsl.drop j) j c) (fun t _ => N16 - (intOf t).toNat)
   case atStart =>
    exact ⟨0, l1, Nat.zero_le _, rfl, HB1.out, HLl2.out⟩
   case round =>
    obtain ⟨j, c, hj, rfl, hb, hx⟩ := hrel; have HB100 := Lh hb; have HXC := Lh hx; clear hb hx
    by_cases hlt : j < N16
    ·
     obtain ⟨ab, ao, q, t, hA, hcl, hst, hat, hW⟩ := LS16.out.kid HB100.out.below hlt (fun _ t l => pr n t l) c; subst hA; have hc := hcl _ HB100.out.below; have HST := Lh hst; have HAT := Lh hat; clear hcl hst hat; obtain ⟨c1, hc1⟩ : ∃ x, x = pr n t c := ⟨_, rfl⟩
     have qc1 : c.length ≤ c1.length := by rw [hc1]; exact prLe _ _ _
     have hf9 : (fun _ t l => pr n t l) j t c = c1 := by rw [hc1]
     have hx8 : l2 = itr (fun _ t l => pr n t l) (xsl.drop (j + 1)) (j + 1) c1 := by rw [← hf9]; exact HXC.out.trans HST.out
     have q9 : c1.length ≤ l2.length := by rw [hx8]; exact itrLe (fun _ _ _ => prLe _ _ _) _ _ _
     have HXD := Lh hx8; have HQC := Lh ((And.intro qc1 q9)); have HLc1 := Lh hc1; clear hf9 hx8 q9 qc1 hc1; go_wp2_with fail; refine (IHsf w0 _ B b q c c1 t hW HAT.out HB100.out HE.out HLc1.out (by have := HQ.out; have := HQC.out; omega)).mono ?_; rintro e w101 ⟨rfl, hb⟩; have HB101 := Lh hb; clear hb; go_wp2_with fail; exact ⟨⟨j + 1, c1, by omega, by go_num, HB101.out, HXD.out⟩, by simp [intOf]; omega⟩
    ·
     obtain rfl : N16 = j := by omega
     have hx9 : l2 = c := HXC.out.trans (LS16.out.fin _ c); have HB2 := Lh (show BS B w0 b l2 _ from by rw [hx9]; exact HB100.out); clear hx9; obtain ⟨zHR_0, zHR_5, zHR_14, zHR_16⟩ := (HR.out.at hp HB2.out.below).cs4 0 5 14 16; go_wp2_with fail
     first | go_ret | go_end0 | ((try simp only [Exit.inBlock, Exit.then]); first | refine bodyPost_ret (results_none rfl _ _ _) rfl ?_ | refine bodyPost_end (results_none rfl _ _ _) rfl ?_)
     exact ⟨rfl, HB2.out⟩
  ·
   rcases FV.pt f6 with ⟨rfl, rfl⟩ | ⟨y, r, rfl, rfl, ay⟩
   ·
    exact absurd (k11 rfl) (by simp)
   ·
    have HA := Lh ay; clear k6 k7 k8 k9 k11 k13 k14 k15 k16 k17 k18 k20 kS e1 e2 ay f1 f2 f3 f4 f6 f8 f9 f10 f11 f12 f13 f15; have HR := Lh hr; clear hr; obtain ⟨l1, hl1⟩ : ∃ x, x = pr n y l := ⟨_, rfl⟩
    have ql1 : l.length ≤ l1.length := by rw [hl1]; exact prLe _ _ _
    obtain ⟨l2, hl2⟩ : ∃ x, x = itr (fun _ t l => pr n t l) xsl 0 l1 := ⟨_, rfl⟩
    have ql2 : l1.length ≤ l2.length := by rw [hl2]; exact itrLe (fun _ _ _ => prLe _ _ _) _ _ _
    have hX : l' = l2 := by rw [hl]; rw [hl2, hl1]; rfl
    rw [hX] at hlen; have HQ := Lh (And.intro hlen (And.intro ql1 ql2)); have HLl1 := Lh hl1; have HLl2 := Lh hl2; rw [hX]; clear hX hlen hl ql1 ql2 hl1 hl2; obtain ⟨zHR_0, zHR_6, zHR_16⟩ := (HR.out.at hp HB.out.below).cs3 0 6 16; go_enter Tryz.func23, Tryz.ntmps23; go_wp2_with fail; refine (IHun w0 _ B b r l l1 y (hun _ rfl) HA.out HB.out HE.out HLl1.out (by have := HQ.out; omega)).mono ?_; rintro e w1 ⟨rfl, hb⟩; have HB1 := Lh hb; clear hb; clear zHR_0 zHR_6 zHR_16; obtain ⟨zHR_0, zHR_6, zHR_16⟩ := (HR.out.at hp HB1.out.below).cs3 0 6 16; go_wp2_with fail; go_loopw [174] (fun t wr => ∃ (j : Nat) (c : L8), j ≤ N16 ∧ t = .int .i64 j ∧ BS B w0 b c wr ∧ l2 = itr (fun _ t l => pr n t l) (xsl.drop j) j c) (fun t _ => N16 - (intOf t).toNat)
    case atStart =>
     exact ⟨0, l1, Nat.zero_le _, rfl, HB1.out, HLl2.out⟩
    case round =>
     obtain ⟨j, c, hj, rfl, hb, hx⟩ := hrel; have HB100 := Lh hb; have HXC := Lh hx; clear hb hx
     by_cases hlt : j < N16
     ·
      obtain ⟨ab, ao, q, t, hA, hcl, hst, hat, hW⟩ := LS16.out.kid HB100.out.below hlt (fun _ t l => pr n t l) c; subst hA; have hc := hcl _ HB100.out.below; have HST := Lh hst; have HAT := Lh hat; clear hcl hst hat; obtain ⟨c1, hc1⟩ : ∃ x, x = pr n t c := ⟨_, rfl⟩
      have qc1 : c.length ≤ c1.length := by rw [hc1]; exact prLe _ _ _
      have hf9 : (fun _ t l => pr n t l) j t c = c1 := by rw [hc1]
      have hx8 : l2 = itr (fun _ t l => pr n t l) (xsl.drop (j + 1)) (j + 1) c1 := by rw [← hf9]; exact HXC.out.trans HST.out
      have q9 : c1.length ≤ l2.length := by rw [hx8]; exact itrLe (fun _ _ _ => prLe _ _ _) _ _ _
      have HXD := Lh hx8; have HQC := Lh ((And.intro qc1 q9)); have HLc1 := Lh hc1; clear hf9 hx8 q9 qc1 hc1; go_wp2_with fail; refine (IHsf w0 _ B b q c c1 t hW HAT.out HB100.out HE.out HLc1.out (by have := HQ.out; have := HQC.out; omega)).mono ?_; rintro e w101 ⟨rfl, hb⟩; have HB101 := Lh hb; clear hb; go_wp2_with fail; exact ⟨⟨j + 1, c1, by omega, by go_num, HB101.out, HXD.out⟩, by simp [intOf]; omega⟩
     ·
      obtain rfl : N16 = j := by omega
      have hx9 : l2 = c := HXC.out.trans (LS16.out.fin _ c); have HB2 := Lh (show BS B w0 b l2 _ from by rw [hx9]; exact HB100.out); clear hx9; obtain ⟨zHR_0, zHR_6, zHR_16⟩ := (HR.out.at hp HB2.out.below).cs3 0 6 16; go_wp2_with fail
      first | go_ret | go_end0 | ((try simp only [Exit.inBlock, Exit.then]); first | refine bodyPost_ret (results_none rfl _ _ _) rfl ?_ | refine bodyPost_end (results_none rfl _ _ _) rfl ?_)
      exact ⟨rfl, HB2.out⟩
  ·
   clear k6 k7 k8 k9 k11 k13 k14 k15 k16 k17 k18 k20 kS e1 e2 f1 f2 f3 f4 f6 f9 f10 f11 f12 f13 f15; rcases FV.pt f8 with ⟨rfl, rfl⟩ | ⟨y8, r8, rfl, rfl, a8⟩
   ·
    have HR := Lh hr; clear hr; obtain ⟨l1, hl1⟩ : ∃ x, x = l ++ xfmt.data.toList := ⟨_, rfl⟩
    have ql1 : l.length ≤ l1.length := by rw [hl1, List.length_append]; omega
    obtain ⟨l2, hl2⟩ : ∃ x, x = itr (fun _ t l => pr n t l) xsl 0 l1 := ⟨_, rfl⟩
    have ql2 : l1.length ≤ l2.length := by rw [hl2]; exact itrLe (fun _ _ _ => prLe _ _ _) _ _ _
    have hX : l' = l2 := by rw [hl]; rw [hl2, hl1]; rfl
    rw [hX] at hlen; have HQ := Lh (And.intro hlen (And.intro ql1 ql2)); have HLl1 := Lh hl1; have HLl2 := Lh hl2; rw [hX]; clear hX hlen hl ql1 ql2 hl1 hl2; obtain ⟨zHR_0, zHR_7, zHR_8, zHR_16⟩ := (HR.out.at hp HB.out.below).cs4 0 7 8 16; go_enter Tryz.func23, Tryz.ntmps23; go_wp2_with fail; refine (HB.out.wstr xfmt l1 HLl1.out (by have := HQ.out; omega)).mono ?_; rintro e w1 ⟨rfl, hb⟩; have HB1 := Lh hb; clear hb; clear zHR_0 zHR_7 zHR_8 zHR_16; obtain ⟨zHR_0, zHR_7, zHR_8, zHR_16⟩ := (HR.out.at hp HB1.out.below).cs4 0 7 8 16; go_wp2_with fail; go_loopw [174] (fun t wr => ∃ (j : Nat) (c : L8), j ≤ N16 ∧ t = .int .i64 j ∧ BS B w0 b c wr ∧ l2 = itr (fun _ t l => pr n t l) (xsl.drop j) j c) (fun t _ => N16 - (intOf t).toNat)
    case atStart =>
     exact ⟨0, l1, Nat.zero_le _, rfl, HB1.out, HLl2.out⟩
    case round =>
     obtain ⟨j, c, hj, rfl, hb, hx⟩ := hrel; have HB100 := Lh hb; have HXC := Lh hx; clear hb hx
     by_cases hlt : j < N16
     ·
      obtain ⟨ab, ao, q, t, hA, hcl, hst, hat, hW⟩ := LS16.out.kid HB100.out.below hlt (fun _ t l => pr n t l) c; subst hA; have hc := hcl _ HB100.out.below; have HST := Lh hst; have HAT := Lh hat; clear hcl hst hat; obtain ⟨c1, hc1⟩ : ∃ x, x = pr n t c := ⟨_, rfl⟩
      have qc1 : c.length ≤ c1.length := by rw [hc1]; exact prLe _ _ _
      have hf9 : (fun _ t l => pr n t l) j t c = c1 := by rw [hc1]
      have hx8 : l2 = itr (fun _ t l => pr n t l) (xsl.drop (j + 1)) (j + 1) c1 := by rw [← hf9]; exact HXC.out.trans HST.out
      have q9 : c1.length ≤ l2.length := by rw [hx8]; exact itrLe (fun _ _ _ => prLe _ _ _) _ _ _
      have HXD := Lh hx8; have HQC := Lh ((And.intro qc1 q9)); have HLc1 := Lh hc1; clear hf9 hx8 q9 qc1 hc1; go_wp2_with fail; refine (IHsf w0 _ B b q c c1 t hW HAT.out HB100.out HE.out HLc1.out (by have := HQ.out; have := HQC.out; omega)).mono ?_; rintro e w101 ⟨rfl, hb⟩; have HB101 := Lh hb; clear hb; go_wp2_with fail; exact ⟨⟨j + 1, c1, by omega, by go_num, HB101.out, HXD.out⟩, by simp [intOf]; omega⟩
     ·
      obtain rfl : N16 = j := by omega
      have hx9 : l2 = c := HXC.out.trans (LS16.out.fin _ c); have HB2 := Lh (show BS B w0 b l2 _ from by rw [hx9]; exact HB100.out); clear hx9; obtain ⟨zHR_0, zHR_7, zHR_8, zHR_16⟩ := (HR.out.at hp HB2.out.below).cs4 0 7 8 16; go_wp2_with fail
      first | go_ret | go_end0 | ((try simp only [Exit.inBlock, Exit.then]); first | refine bodyPost_ret (results_none rfl _ _ _) rfl ?_ | refine bodyPost_end (results_none rfl _ _ _) rfl ?_)
      exact ⟨rfl, HB2.out⟩
   ·
    have HA8 := Lh a8; clear a8; have HR := Lh hr; clear hr; obtain ⟨l1, hl1⟩ : ∃ x, x = l ++ xfmt.data.toList := ⟨_, rfl⟩
    have ql1 : l.length ≤ l1.length := by rw [hl1, List.length_append]; omega
    obtain ⟨l2, hl2⟩ : ∃ x, x = l1 ++ [32] := ⟨_, rfl⟩
    have ql2 : l1.length + 1 ≤ l2.length := by rw [hl2, List.length_append]; exact Nat.le_refl _
    obtain ⟨l3, hl3⟩ : ∃ x, x = pr n y8 l2 := ⟨_, rfl⟩
    have ql3 : l2.length ≤ l3.length := by rw [hl3]; exact prLe _ _ _
    obtain ⟨l4, hl4⟩ : ∃ x, x = itr (fun _ t l => pr n t l) xsl 0 l3 := ⟨_, rfl⟩
    have ql4 : l3.length ≤ l4.length := by rw [hl4]; exact itrLe (fun _ _ _ => prLe _ _ _) _ _ _
    have hX : l' = l4 := by rw [hl]; rw [hl4, hl3, hl2, hl1]; rfl
    rw [hX] at hlen; have HQ := Lh (And.intro hlen (And.intro ql1 (And.intro ql2 (And.intro ql3 ql4)))); have HLl1 := Lh hl1; have HLl2 := Lh hl2; have HLl3 := Lh hl3; have HLl4 := Lh hl4; rw [hX]; clear hX hlen hl ql1 ql2 ql3 ql4 hl1 hl2 hl3 hl4; obtain ⟨zHR_0, zHR_7, zHR_8, zHR_16⟩ := (HR.out.at hp HB.out.below).cs4 0 7 8 16; go_enter Tryz.func23, Tryz.ntmps23; go_wp2_with fail; refine (HB.out.wstr xfmt l1 HLl1.out (by have := HQ.out; omega)).mono ?_; rintro e w1 ⟨rfl, hb⟩; have HB1 := Lh hb; clear hb; clear zHR_0 zHR_7 zHR_8 zHR_16; obtain ⟨zHR_0, zHR_7, zHR_8, zHR_16⟩ := (HR.out.at hp HB1.out.below).cs4 0 7 8 16; go_wp2_with fail; refine (HB1.out.wbyte 32 32 rfl l2 HLl2.out (by have := HQ.out; omega)).mono ?_; rintro e w2 ⟨rfl, hb⟩; have HB2 := Lh hb; clear hb; clear zHR_0 zHR_7 zHR_8 zHR_16; obtain ⟨zHR_0, zHR_7, zHR_8, zHR_16⟩ := (HR.out.at hp HB2.out.below).cs4 0 7 8 16; go_wp2_with fail; refine (IHst w0 _ B b r8 l2 l3 y8 (hstr _ rfl) HA8.out HB2.out HE.out HLl3.out (by have := HQ.out; omega)).mono ?_; rintro e w3 ⟨rfl, hb⟩; have HB3 := Lh hb; clear hb; clear zHR_0 zHR_7 zHR_8 zHR_16; obtain ⟨zHR_0, zHR_7, zHR_8, zHR_16⟩ := (HR.out.at hp HB3.out.below).cs4 0 7 8 16; go_wp2_with fail; go_loopw [174] (fun t wr => ∃ (j : Nat) (c : L8), j ≤ N16 ∧ t = .int .i64 j ∧ BS B w0 b c wr ∧ l4 = itr (fun _ t l => pr n t l) (xsl.drop j) j c) (fun t _ => N16 - (intOf t).toNat)
    case atStart =>
     exact ⟨0, l3, Nat.zero_le _, rfl, HB3.out, HLl4.out⟩
    case round =>
     obtain ⟨j, c, hj, rfl, hb, hx⟩ := hrel; have HB100 := Lh hb; have HXC := Lh hx; clear hb hx
     by_cases hlt : j < N16
     ·
      obtain ⟨ab, ao, q, t, hA, hcl, hst, hat, hW⟩ := LS16.out.kid HB100.out.below hlt (fun _ t l => pr n t l) c; subst hA; have hc := hcl _ HB100.out.below; have HST := Lh hst; have HAT := Lh hat; clear hcl hst hat; obtain ⟨c1, hc1⟩ : ∃ x, x = pr n t c := ⟨_, rfl⟩
      have qc1 : c.length ≤ c1.length := by rw [hc1]; exact prLe _ _ _
      have hf9 : (fun _ t l => pr n t l) j t c = c1 := by rw [hc1]
      have hx8 : l4 = itr (fun _ t l => pr n t l) (xsl.drop (j + 1)) (j + 1) c1 := by rw [← hf9]; exact HXC.out.trans HST.out
      have q9 : c1.length ≤ l4.length := by rw [hx8]; exact itrLe (fun _ _ _ => prLe _ _ _) _ _ _
      have HXD := Lh hx8; have HQC := Lh ((And.intro qc1 q9)); have HLc1 := Lh hc1; clear hf9 hx8 q9 qc1 hc1; go_wp2_with fail; refine (IHsf w0 _ B b q c c1 t hW HAT.out HB100.out HE.out HLc1.out (by have := HQ.out; have := HQC.out; omega)).mono ?_; rintro e w101 ⟨rfl, hb⟩; have HB101 := Lh hb; clear hb; go_wp2_with fail; exact ⟨⟨j + 1, c1, by omega, by go_num, HB101.out, HXD.out⟩, by simp [intOf]; omega⟩
     ·
      obtain rfl : N16 = j := by omega
      have hx9 : l4 = c := HXC.out.trans (LS16.out.fin _ c); have HB4 := Lh (show BS B w0 b l4 _ from by rw [hx9]; exact HB100.out); clear hx9; obtain ⟨zHR_0, zHR_7, zHR_8, zHR_16⟩ := (HR.out.at hp HB4.out.below).cs4 0 7 8 16; go_wp2_with fail
      first | go_ret | go_end0 | ((try simp only [Exit.inBlock, Exit.then]); first | refine bodyPost_ret (results_none rfl _ _ _) rfl ?_ | refine bodyPost_end (results_none rfl _ _ _) rfl ?_)
      exact ⟨rfl, HB4.out⟩
  ·
   rcases FV.pt f8 with ⟨rfl, rfl⟩ | ⟨y, r, rfl, rfl, ay⟩
   ·
    exact absurd (k13 rfl) (by simp)
   ·
    have HA := Lh ay; clear k6 k7 k8 k9 k11 k13 k14 k15 k16 k17 k18 k20 kS e1 e2 ay f1 f2 f3 f4 f6 f8 f9 f10 f11 f12 f13 f15; have HR := Lh hr; clear hr; obtain ⟨l1, hl1⟩ : ∃ x, x = pr n y l := ⟨_, rfl⟩
    have ql1 : l.length ≤ l1.length := by rw [hl1]; exact prLe _ _ _
    obtain ⟨l2, hl2⟩ : ∃ x, x = itr (fun _ t l => pr n t l) xsl 0 l1 := ⟨_, rfl⟩
    have ql2 : l1.length ≤ l2.length := by rw [hl2]; exact itrLe (fun _ _ _ => prLe _ _ _) _ _ _
    have hX : l' = l2 := by rw [hl]; rw [hl2, hl1]; rfl
    rw [hX] at hlen; have HQ := Lh (And.intro hlen (And.intro ql1 ql2)); have HLl1 := Lh hl1; have HLl2 := Lh hl2; rw [hX]; clear hX hlen hl ql1 ql2 hl1 hl2; obtain ⟨zHR_0, zHR_8, zHR_16⟩ := (HR.out.at hp HB.out.below).cs3 0 8 16; go_enter Tryz.func23, Tryz.ntmps23; go_wp2_with fail; refine (IHst w0 _ B b r l l1 y (hstr _ rfl) HA.out HB.out HE.out HLl1.out (by have := HQ.out; omega)).mono ?_; rintro e w1 ⟨rfl, hb⟩; have HB1 := Lh hb; clear hb; clear zHR_0 zHR_8 zHR_16; obtain ⟨zHR_0, zHR_8, zHR_16⟩ := (HR.out.at hp HB1.out.below).cs3 0 8 16; go_wp2_with fail; go_loopw [174] (fun t wr => ∃ (j : Nat) (c : L8), j ≤ N16 ∧ t = .int .i64 j ∧ BS B w0 b c wr ∧ l2 = itr (fun _ t l => pr n t l) (xsl.drop j) j c) (fun t _ => N16 - (intOf t).toNat)
    case atStart =>
     exact ⟨0, l1, Nat.zero_le _, rfl, HB1.out, HLl2.out⟩
    case round =>
     obtain ⟨j, c, hj, rfl, hb, hx⟩ := hrel; have HB100 := Lh hb; have HXC := Lh hx; clear hb hx
     by_cases hlt : j < N16
     ·
      obtain ⟨ab, ao, q, t, hA, hcl, hst, hat, hW⟩ := LS16.out.kid HB100.out.below hlt (fun _ t l => pr n t l) c; subst hA; have hc := hcl _ HB100.out.below; have HST := Lh hst; have HAT := Lh hat; clear hcl hst hat; obtain ⟨c1, hc1⟩ : ∃ x, x = pr n t c := ⟨_, rfl⟩
      have qc1 : c.length ≤ c1.length := by rw [hc1]; exact prLe _ _ _
      have hf9 : (fun _ t l => pr n t l) j t c = c1 := by rw [hc1]
      have hx8 : l2 = itr (fun _ t l => pr n t l) (xsl.drop (j + 1)) (j + 1) c1 := by rw [← hf9]; exact HXC.out.trans HST.out
      have q9 : c1.length ≤ l2.length := by rw [hx8]; exact itrLe (fun _ _ _ => prLe _ _ _) _ _ _
      have HXD := Lh hx8; have HQC := Lh ((And.intro qc1 q9)); have HLc1 := Lh hc1; clear hf9 hx8 q9 qc1 hc1; go_wp2_with fail; refine (IHsf w0 _ B b q c c1 t hW HAT.out HB100.out HE.out HLc1.out (by have := HQ.out; have := HQC.out; omega)).mono ?_; rintro e w101 ⟨rfl, hb⟩; have HB101 := Lh hb; clear hb; go_wp2_with fail; exact ⟨⟨j + 1, c1, by omega, by go_num, HB101.out, HXD.out⟩, by simp [intOf]; omega⟩
     ·
      obtain rfl : N16 = j := by omega
      have hx9 : l2 = c := HXC.out.trans (LS16.out.fin _ c); have HB2 := Lh (show BS B w0 b l2 _ from by rw [hx9]; exact HB100.out); clear hx9; obtain ⟨zHR_0, zHR_8, zHR_16⟩ := (HR.out.at hp HB2.out.below).cs3 0 8 16; go_wp2_with fail
      first | go_ret | go_end0 | ((try simp only [Exit.inBlock, Exit.then]); first | refine bodyPost_ret (results_none rfl _ _ _) rfl ?_ | refine bodyPost_end (results_none rfl _ _ _) rfl ?_)
      exact ⟨rfl, HB2.out⟩
  ·
   rcases FV.pt f9 with ⟨rfl, rfl⟩ | ⟨y, r, rfl, rfl, ay⟩
   ·
    exact absurd (k14 rfl) (by simp)
   ·
    have HA := Lh ay; clear k6 k7 k8 k9 k11 k13 k14 k15 k16 k17 k18 k20 kS e1 e2 ay f1 f2 f3 f4 f6 f8 f9 f10 f11 f12 f13 f15; have HR := Lh hr; clear hr; obtain ⟨l1, hl1⟩ : ∃ x, x = pr n y l := ⟨_, rfl⟩
    have ql1 : l.length ≤ l1.length := by rw [hl1]; exact prLe _ _ _
    obtain ⟨l2, hl2⟩ : ∃ x, x = itr (fun _ t l => pr n t l) xsl 0 l1 := ⟨_, rfl⟩
    have ql2 : l1.length ≤ l2.length := by rw [hl2]; exact itrLe (fun _ _ _ => prLe _ _ _) _ _ _
    have hX : l' = l2 := by rw [hl]; rw [hl2, hl1]; rfl
    rw [hX] at hlen; have HQ := Lh (And.intro hlen (And.intro ql1 ql2)); have HLl1 := Lh hl1; have HLl2 := Lh hl2; rw [hX]; clear hX hlen hl ql1 ql2 hl1 hl2; obtain ⟨zHR_0, zHR_9, zHR_16⟩ := (HR.out.at hp HB.out.below).cs3 0 9 16; go_enter Tryz.func23, Tryz.ntmps23; go_wp2_with fail; refine (IHie w0 _ B b r l l1 y (hie _ rfl) HA.out HB.out HE.out HLl1.out (by have := HQ.out; omega)).mono ?_; rintro e w1 ⟨rfl, hb⟩; have HB1 := Lh hb; clear hb; clear zHR_0 zHR_9 zHR_16; obtain ⟨zHR_0, zHR_9, zHR_16⟩ := (HR.out.at hp HB1.out.below).cs3 0 9 16; go_wp2_with fail; go_loopw [174] (fun t wr => ∃ (j : Nat) (c : L8), j ≤ N16 ∧ t = .int .i64 j ∧ BS B w0 b c wr ∧ l2 = itr (fun _ t l => pr n t l) (xsl.drop j) j c) (fun t _ => N16 - (intOf t).toNat)
    case atStart =>
     exact ⟨0, l1, Nat.zero_le _, rfl, HB1.out, HLl2.out⟩
    case round =>
     obtain ⟨j, c, hj, rfl, hb, hx⟩ := hrel; have HB100 := Lh hb; have HXC := Lh hx; clear hb hx
     by_cases hlt : j < N16
     ·
      obtain ⟨ab, ao, q, t, hA, hcl, hst, hat, hW⟩ := LS16.out.kid HB100.out.below hlt (fun _ t l => pr n t l) c; subst hA; have hc := hcl _ HB100.out.below; have HST := Lh hst; have HAT := Lh hat; clear hcl hst hat; obtain ⟨c1, hc1⟩ : ∃ x, x = pr n t c := ⟨_, rfl⟩
      have qc1 : c.length ≤ c1.length := by rw [hc1]; exact prLe _ _ _
      have hf9 : (fun _ t l => pr n t l) j t c = c1 := by rw [hc1]
      have hx8 : l2 = itr (fun _ t l => pr n t l) (xsl.drop (j + 1)) (j + 1) c1 := by rw [← hf9]; exact HXC.out.trans HST.out
      have q9 : c1.length ≤ l2.length := by rw [hx8]; exact itrLe (fun _ _ _ => prLe _ _ _) _ _ _
      have HXD := Lh hx8; have HQC := Lh ((And.intro qc1 q9)); have HLc1 := Lh hc1; clear hf9 hx8 q9 qc1 hc1; go_wp2_with fail; refine (IHsf w0 _ B b q c c1 t hW HAT.out HB100.out HE.out HLc1.out (by have := HQ.out; have := HQC.out; omega)).mono ?_; rintro e w101 ⟨rfl, hb⟩; have HB101 := Lh hb; clear hb; go_wp2_with fail; exact ⟨⟨j + 1, c1, by omega, by go_num, HB101.out, HXD.out⟩, by simp [intOf]; omega⟩
     ·
      obtain rfl : N16 = j := by omega
      have hx9 : l2 = c := HXC.out.trans (LS16.out.fin _ c); have HB2 := Lh (show BS B w0 b l2 _ from by rw [hx9]; exact HB100.out); clear hx9; obtain ⟨zHR_0, zHR_9, zHR_16⟩ := (HR.out.at hp HB2.out.below).cs3 0 9 16; go_wp2_with fail
      first | go_ret | go_end0 | ((try simp only [Exit.inBlock, Exit.then]); first | refine bodyPost_ret (results_none rfl _ _ _) rfl ?_ | refine bodyPost_end (results_none rfl _ _ _) rfl ?_)
      exact ⟨rfl, HB2.out⟩
  ·
   rcases FV.pt f10 with ⟨rfl, rfl⟩ | ⟨y, r, rfl, rfl, ay⟩
   ·
    exact absurd (k15 rfl) (by simp)
   ·
    have HA := Lh ay; clear k6 k7 k8 k9 k11 k13 k14 k15 k16 k17 k18 k20 kS e1 e2 ay f1 f2 f3 f4 f6 f8 f9 f10 f11 f12 f13 f15; have HR := Lh hr; clear hr; obtain ⟨l1, hl1⟩ : ∃ x, x = pr n y l := ⟨_, rfl⟩
    have ql1 : l.length ≤ l1.length := by rw [hl1]; exact prLe _ _ _
    obtain ⟨l2, hl2⟩ : ∃ x, x = itr (fun _ t l => pr n t l) xsl 0 l1 := ⟨_, rfl⟩
    have ql2 : l1.length ≤ l2.length := by rw [hl2]; exact itrLe (fun _ _ _ => prLe _ _ _) _ _ _
    have hX : l' = l2 := by rw [hl]; rw [hl2, hl1]; rfl
    rw [hX] at hlen; have HQ := Lh (And.intro hlen (And.intro ql1 ql2)); have HLl1 := Lh hl1; have HLl2 := Lh hl2; rw [hX]; clear hX hlen hl ql1 ql2 hl1 hl2; obtain ⟨zHR_0, zHR_10, zHR_16⟩ := (HR.out.at hp HB.out.below).cs3 0 10 16; go_enter Tryz.func23, Tryz.ntmps23; go_wp2_with fail; refine (IHtr w0 _ B b r l l1 y (htr _ rfl) HA.out HB.out HE.out HLl1.out (by have := HQ.out; omega)).mono ?_; rintro e w1 ⟨rfl, hb⟩; have HB1 := Lh hb; clear hb; clear zHR_0 zHR_10 zHR_16; obtain ⟨zHR_0, zHR_10, zHR_16⟩ := (HR.out.at hp HB1.out.below).cs3 0 10 16; go_wp2_with fail; go_loopw [174] (fun t wr => ∃ (j : Nat) (c : L8), j ≤ N16 ∧ t = .int .i64 j ∧ BS B w0 b c wr ∧ l2 = itr (fun _ t l => pr n t l) (xsl.drop j) j c) (fun t _ => N16 - (intOf t).toNat)
    case atStart =>
     exact ⟨0, l1, Nat.zero_le _, rfl, HB1.out, HLl2.out⟩
    case round =>
     obtain ⟨j, c, hj, rfl, hb, hx⟩ := hrel; have HB100 := Lh hb; have HXC := Lh hx; clear hb hx
     by_cases hlt : j < N16
     ·
      obtain ⟨ab, ao, q, t, hA, hcl, hst, hat, hW⟩ := LS16.out.kid HB100.out.below hlt (fun _ t l => pr n t l) c; subst hA; have hc := hcl _ HB100.out.below; have HST := Lh hst; have HAT := Lh hat; clear hcl hst hat; obtain ⟨c1, hc1⟩ : ∃ x, x = pr n t c := ⟨_, rfl⟩
      have qc1 : c.length ≤ c1.length := by rw [hc1]; exact prLe _ _ _
      have hf9 : (fun _ t l => pr n t l) j t c = c1 := by rw [hc1]
      have hx8 : l2 = itr (fun _ t l => pr n t l) (xsl.drop (j + 1)) (j + 1) c1 := by rw [← hf9]; exact HXC.out.trans HST.out
      have q9 : c1.length ≤ l2.length := by rw [hx8]; exact itrLe (fun _ _ _ => prLe _ _ _) _ _ _
      have HXD := Lh hx8; have HQC := Lh ((And.intro qc1 q9)); have HLc1 := Lh hc1; clear hf9 hx8 q9 qc1 hc1; go_wp2_with fail; refine (IHsf w0 _ B b q c c1 t hW HAT.out HB100.out HE.out HLc1.out (by have := HQ.out; have := HQC.out; omega)).mono ?_; rintro e w101 ⟨rfl, hb⟩; have HB101 := Lh hb; clear hb; go_wp2_with fail; exact ⟨⟨j + 1, c1, by omega, by go_num, HB101.out, HXD.out⟩, by simp [intOf]; omega⟩
     ·
      obtain rfl : N16 = j := by omega
      have hx9 : l2 = c := HXC.out.trans (LS16.out.fin _ c); have HB2 := Lh (show BS B w0 b l2 _ from by rw [hx9]; exact HB100.out); clear hx9; obtain ⟨zHR_0, zHR_10, zHR_16⟩ := (HR.out.at hp HB2.out.below).cs3 0 10 16; go_wp2_with fail
      first | go_ret | go_end0 | ((try simp only [Exit.inBlock, Exit.then]); first | refine bodyPost_ret (results_none rfl _ _ _) rfl ?_ | refine bodyPost_end (results_none rfl _ _ _) rfl ?_)
      exact ⟨rfl, HB2.out⟩
  ·
   rcases FV.pt f11 with ⟨rfl, rfl⟩ | ⟨y, r, rfl, rfl, ay⟩
   ·
    exact absurd (k16 rfl) (by simp)
   ·
    have HA := Lh ay; clear k6 k7 k8 k9 k11 k13 k14 k15 k16 k17 k18 k20 kS e1 e2 ay f1 f2 f3 f4 f6 f8 f9 f10 f11 f12 f13 f15; have HR := Lh hr; clear hr; obtain ⟨l1, hl1⟩ : ∃ x, x = pr n y l := ⟨_, rfl⟩
    have ql1 : l.length ≤ l1.length := by rw [hl1]; exact prLe _ _ _
    obtain ⟨l2, hl2⟩ : ∃ x, x = itr (fun _ t l => pr n t l) xsl 0 l1 := ⟨_, rfl⟩
    have ql2 : l1.length ≤ l2.length := by rw [hl2]; exact itrLe (fun _ _ _ => prLe _ _ _) _ _ _
    have hX : l' = l2 := by rw [hl]; rw [hl2, hl1]; rfl
    rw [hX] at hlen; have HQ := Lh (And.intro hlen (And.intro ql1 ql2)); have HLl1 := Lh hl1; have HLl2 := Lh hl2; rw [hX]; clear hX hlen hl ql1 ql2 hl1 hl2; obtain ⟨zHR_0, zHR_11, zHR_16⟩ := (HR.out.at hp HB.out.below).cs3 0 11 16; go_enter Tryz.func23, Tryz.ntmps23; go_wp2_with fail; refine (IHrd w0 _ B b r l l1 y (hrd _ rfl) HA.out HB.out HE.out HLl1.out (by have := HQ.out; omega)).mono ?_; rintro e w1 ⟨rfl, hb⟩; have HB1 := Lh hb; clear hb; clear zHR_0 zHR_11 zHR_16; obtain ⟨zHR_0, zHR_11, zHR_16⟩ := (HR.out.at hp HB1.out.below).cs3 0 11 16; go_wp2_with fail; go_loopw [174] (fun t wr => ∃ (j : Nat) (c : L8), j ≤ N16 ∧ t = .int .i64 j ∧ BS B w0 b c wr ∧ l2 = itr (fun _ t l => pr n t l) (xsl.drop j) j c) (fun t _ => N16 - (intOf t).toNat)
    case atStart =>
     exact ⟨0, l1, Nat.zero_le _, rfl, HB1.out, HLl2.out⟩
    case round =>
     obtain ⟨j, c, hj, rfl, hb, hx⟩ := hrel; have HB100 := Lh hb; have HXC := Lh hx; clear hb hx
     by_cases hlt : j < N16
     ·
      obtain ⟨ab, ao, q, t, hA, hcl, hst, hat, hW⟩ := LS16.out.kid HB100.out.below hlt (fun _ t l => pr n t l) c; subst hA; have hc := hcl _ HB100.out.below; have HST := Lh hst; have HAT := Lh hat; clear hcl hst hat; obtain ⟨c1, hc1⟩ : ∃ x, x = pr n t c := ⟨_, rfl⟩
      have qc1 : c.length ≤ c1.length := by rw [hc1]; exact prLe _ _ _
      have hf9 : (fun _ t l => pr n t l) j t c = c1 := by rw [hc1]
      have hx8 : l2 = itr (fun _ t l => pr n t l) (xsl.drop (j + 1)) (j + 1) c1 := by rw [← hf9]; exact HXC.out.trans HST.out
      have q9 : c1.length ≤ l2.length := by rw [hx8]; exact itrLe (fun _ _ _ => prLe _ _ _) _ _ _
      have HXD := Lh hx8; have HQC := Lh ((And.intro qc1 q9)); have HLc1 := Lh hc1; clear hf9 hx8 q9 qc1 hc1; go_wp2_with fail; refine (IHsf w0 _ B b q c c1 t hW HAT.out HB100.out HE.out HLc1.out (by have := HQ.out; have := HQC.out; omega)).mono ?_; rintro e w101 ⟨rfl, hb⟩; have HB101 := Lh hb; clear hb; go_wp2_with fail; exact ⟨⟨j + 1, c1, by omega, by go_num, HB101.out, HXD.out⟩, by simp [intOf]; omega⟩
     ·
      obtain rfl : N16 = j := by omega
      have hx9 : l2 = c := HXC.out.trans (LS16.out.fin _ c); have HB2 := Lh (show BS B w0 b l2 _ from by rw [hx9]; exact HB100.out); clear hx9; obtain ⟨zHR_0, zHR_11, zHR_16⟩ := (HR.out.at hp HB2.out.below).cs3 0 11 16; go_wp2_with fail
      first | go_ret | go_end0 | ((try simp only [Exit.inBlock, Exit.then]); first | refine bodyPost_ret (results_none rfl _ _ _) rfl ?_ | refine bodyPost_end (results_none rfl _ _ _) rfl ?_)
      exact ⟨rfl, HB2.out⟩
  ·
   rcases FV.pt f12 with ⟨rfl, rfl⟩ | ⟨y, r, rfl, rfl, ay⟩
   ·
    exact absurd (k17 rfl) (by simp)
   ·
    have HA := Lh ay; clear k6 k7 k8 k9 k11 k13 k14 k15 k16 k17 k18 k20 kS e1 e2 ay f1 f2 f3 f4 f6 f8 f9 f10 f11 f12 f13 f15; have HR := Lh hr; clear hr; obtain ⟨l1, hl1⟩ : ∃ x, x = pr n y l := ⟨_, rfl⟩
    have ql1 : l.length ≤ l1.length := by rw [hl1]; exact prLe _ _ _
    obtain ⟨l2, hl2⟩ : ∃ x, x = itr (fun _ t l => pr n t l) xsl 0 l1 := ⟨_, rfl⟩
    have ql2 : l1.length ≤ l2.length := by rw [hl2]; exact itrLe (fun _ _ _ => prLe _ _ _) _ _ _
    have hX : l' = l2 := by rw [hl]; rw [hl2, hl1]; rfl
    rw [hX] at hlen; have HQ := Lh (And.intro hlen (And.intro ql1 ql2)); have HLl1 := Lh hl1; have HLl2 := Lh hl2; rw [hX]; clear hX hlen hl ql1 ql2 hl1 hl2; obtain ⟨zHR_0, zHR_12, zHR_16⟩ := (HR.out.at hp HB.out.below).cs3 0 12 16; go_enter Tryz.func23, Tryz.ntmps23; go_wp2_with fail; refine (IHfe w0 _ B b r l l1 y (hfe _ rfl) HA.out HB.out HE.out HLl1.out (by have := HQ.out; omega)).mono ?_; rintro e w1 ⟨rfl, hb⟩; have HB1 := Lh hb; clear hb; clear zHR_0 zHR_12 zHR_16; obtain ⟨zHR_0, zHR_12, zHR_16⟩ := (HR.out.at hp HB1.out.below).cs3 0 12 16; go_wp2_with fail; go_loopw [174] (fun t wr => ∃ (j : Nat) (c : L8), j ≤ N16 ∧ t = .int .i64 j ∧ BS B w0 b c wr ∧ l2 = itr (fun _ t l => pr n t l) (xsl.drop j) j c) (fun t _ => N16 - (intOf t).toNat)
    case atStart =>
     exact ⟨0, l1, Nat.zero_le _, rfl, HB1.out, HLl2.out⟩
    case round =>
     obtain ⟨j, c, hj, rfl, hb, hx⟩ := hrel; have HB100 := Lh hb; have HXC := Lh hx; clear hb hx
     by_cases hlt : j < N16
     ·
      obtain ⟨ab, ao, q, t, hA, hcl, hst, hat, hW⟩ := LS16.out.kid HB100.out.below hlt (fun _ t l => pr n t l) c; subst hA; have hc := hcl _ HB100.out.below; have HST := Lh hst; have HAT := Lh hat; clear hcl hst hat; obtain ⟨c1, hc1⟩ : ∃ x, x = pr n t c := ⟨_, rfl⟩
      have qc1 : c.length ≤ c1.length := by rw [hc1]; exact prLe _ _ _
      have hf9 : (fun _ t l => pr n t l) j t c = c1 := by rw [hc1]
      have hx8 : l2 = itr (fun _ t l => pr n t l) (xsl.drop (j + 1)) (j + 1) c1 := by rw [← hf9]; exact HXC.out.trans HST.out
      have q9 : c1.length ≤ l2.length := by rw [hx8]; exact itrLe (fun _ _ _ => prLe _ _ _) _ _ _
      have HXD := Lh hx8; have HQC := Lh ((And.intro qc1 q9)); have HLc1 := Lh hc1; clear hf9 hx8 q9 qc1 hc1; go_wp2_with fail; refine (IHsf w0 _ B b q c c1 t hW HAT.out HB100.out HE.out HLc1.out (by have := HQ.out; have := HQC.out; omega)).mono ?_; rintro e w101 ⟨rfl, hb⟩; have HB101 := Lh hb; clear hb; go_wp2_with fail; exact ⟨⟨j + 1, c1, by omega, by go_num, HB101.out, HXD.out⟩, by simp [intOf]; omega⟩
     ·
      obtain rfl : N16 = j := by omega
      have hx9 : l2 = c := HXC.out.trans (LS16.out.fin _ c); have HB2 := Lh (show BS B w0 b l2 _ from by rw [hx9]; exact HB100.out); clear hx9; obtain ⟨zHR_0, zHR_12, zHR_16⟩ := (HR.out.at hp HB2.out.below).cs3 0 12 16; go_wp2_with fail
      first | go_ret | go_end0 | ((try simp only [Exit.inBlock, Exit.then]); first | refine bodyPost_ret (results_none rfl _ _ _) rfl ?_ | refine bodyPost_end (results_none rfl _ _ _) rfl ?_)
      exact ⟨rfl, HB2.out⟩
  ·
   rcases FV.pt f13 with ⟨rfl, rfl⟩ | ⟨y, r, rfl, rfl, ay⟩
   ·
    exact absurd (k18 rfl) (by simp)
   ·
    have HA := Lh ay; clear k6 k7 k8 k9 k11 k13 k14 k15 k16 k17 k18 k20 kS e1 e2 ay f1 f2 f3 f4 f6 f8 f9 f10 f11 f12 f13 f15; have HR := Lh hr; clear hr; obtain ⟨l1, hl1⟩ : ∃ x, x = pr n y l := ⟨_, rfl⟩
    have ql1 : l.length ≤ l1.length := by rw [hl1]; exact prLe _ _ _
    obtain ⟨l2, hl2⟩ : ∃ x, x = itr (fun _ t l => pr n t l) xsl 0 l1 := ⟨_, rfl⟩
    have ql2 : l1.length ≤ l2.length := by rw [hl2]; exact itrLe (fun _ _ _ => prLe _ _ _) _ _ _
    have hX : l' = l2 := by rw [hl]; rw [hl2, hl1]; rfl
    rw [hX] at hlen; have HQ := Lh (And.intro hlen (And.intro ql1 ql2)); have HLl1 := Lh hl1; have HLl2 := Lh hl2; rw [hX]; clear hX hlen hl ql1 ql2 hl1 hl2; obtain ⟨zHR_0, zHR_13, zHR_16⟩ := (HR.out.at hp HB.out.below).cs3 0 13 16; go_enter Tryz.func23, Tryz.ntmps23; go_wp2_with fail; refine (IHlb w0 _ B b r l l1 y (hlb _ rfl) HA.out HB.out HE.out HLl1.out (by have := HQ.out; omega)).mono ?_; rintro e w1 ⟨rfl, hb⟩; have HB1 := Lh hb; clear hb; clear zHR_0 zHR_13 zHR_16; obtain ⟨zHR_0, zHR_13, zHR_16⟩ := (HR.out.at hp HB1.out.below).cs3 0 13 16; go_wp2_with fail; go_loopw [174] (fun t wr => ∃ (j : Nat) (c : L8), j ≤ N16 ∧ t = .int .i64 j ∧ BS B w0 b c wr ∧ l2 = itr (fun _ t l => pr n t l) (xsl.drop j) j c) (fun t _ => N16 - (intOf t).toNat)
    case atStart =>
     exact ⟨0, l1, Nat.zero_le _, rfl, HB1.out, HLl2.out⟩
    case round =>
     obtain ⟨j, c, hj, rfl, hb, hx⟩ := hrel; have HB100 := Lh hb; have HXC := Lh hx; clear hb hx
     by_cases hlt : j < N16
     ·
      obtain ⟨ab, ao, q, t, hA, hcl, hst, hat, hW⟩ := LS16.out.kid HB100.out.below hlt (fun _ t l => pr n t l) c; subst hA; have hc := hcl _ HB100.out.below; have HST := Lh hst; have HAT := Lh hat; clear hcl hst hat; obtain ⟨c1, hc1⟩ : ∃ x, x = pr n t c := ⟨_, rfl⟩
      have qc1 : c.length ≤ c1.length := by rw [hc1]; exact prLe _ _ _
      have hf9 : (fun _ t l => pr n t l) j t c = c1 := by rw [hc1]
      have hx8 : l2 = itr (fun _ t l => pr n t l) (xsl.drop (j + 1)) (j + 1) c1 := by rw [← hf9]; exact HXC.out.trans HST.out
      have q9 : c1.length ≤ l2.length := by rw [hx8]; exact itrLe (fun _ _ _ => prLe _ _ _) _ _ _
      have HXD := Lh hx8; have HQC := Lh ((And.intro qc1 q9)); have HLc1 := Lh hc1; clear hf9 hx8 q9 qc1 hc1; go_wp2_with fail; refine (IHsf w0 _ B b q c c1 t hW HAT.out HB100.out HE.out HLc1.out (by have := HQ.out; have := HQC.out; omega)).mono ?_; rintro e w101 ⟨rfl, hb⟩; have HB101 := Lh hb; clear hb; go_wp2_with fail; exact ⟨⟨j + 1, c1, by omega, by go_num, HB101.out, HXD.out⟩, by simp [intOf]; omega⟩
     ·
      obtain rfl : N16 = j := by omega
      have hx9 : l2 = c := HXC.out.trans (LS16.out.fin _ c); have HB2 := Lh (show BS B w0 b l2 _ from by rw [hx9]; exact HB100.out); clear hx9; obtain ⟨zHR_0, zHR_13, zHR_16⟩ := (HR.out.at hp HB2.out.below).cs3 0 13 16; go_wp2_with fail
      first | go_ret | go_end0 | ((try simp only [Exit.inBlock, Exit.then]); first | refine bodyPost_ret (results_none rfl _ _ _) rfl ?_ | refine bodyPost_end (results_none rfl _ _ _) rfl ?_)
      exact ⟨rfl, HB2.out⟩
  ·
   clear k6 k7 k8 k9 k11 k13 k14 k15 k16 k17 k18 k20 kS e1 e2 f1 f2 f3 f4 f6 f8 f9 f10 f11 f12 f13 f15; have HR := Lh hr; clear hr; obtain ⟨l1, hl1⟩ : ∃ x, x = l ++ [98, 114, 101, 97, 107, 32] := ⟨_, rfl⟩
   have ql1 : l.length + 6 ≤ l1.length := by rw [hl1, List.length_append]; exact Nat.le_refl _
   obtain ⟨l2, hl2⟩ : ∃ x, x = l1 ++ xbrk.data.toList := ⟨_, rfl⟩
   have ql2 : l1.length ≤ l2.length := by rw [hl2, List.length_append]; omega
   obtain ⟨l3, hl3⟩ : ∃ x, x = itr (fun _ t l => pr n t l) xsl 0 l2 := ⟨_, rfl⟩
   have ql3 : l2.length ≤ l3.length := by rw [hl3]; exact itrLe (fun _ _ _ => prLe _ _ _) _ _ _
   have hX : l' = l3 := by rw [hl]; rw [hl3, hl2, hl1]; rfl
   rw [hX] at hlen; have HQ := Lh (And.intro hlen (And.intro ql1 (And.intro ql2 ql3))); have HLl1 := Lh hl1; have HLl2 := Lh hl2; have HLl3 := Lh hl3; rw [hX]; clear hX hlen hl ql1 ql2 ql3 hl1 hl2 hl3; obtain ⟨zHR_0, zHR_5, zHR_14, zHR_16⟩ := (HR.out.at hp HB.out.below).cs4 0 5 14 16; go_enter Tryz.func23, Tryz.ntmps23; go_wp2_with fail; refine (HB.out.wstr (⟨#[98, 114, 101, 97, 107, 32]⟩ : ByteArray) l1 HLl1.out (by have := HQ.out; omega)).mono ?_; rintro e w1 ⟨rfl, hb⟩; have HB1 := Lh hb; clear hb; clear zHR_0 zHR_5 zHR_14 zHR_16; obtain ⟨zHR_0, zHR_5, zHR_14, zHR_16⟩ := (HR.out.at hp HB1.out.below).cs4 0 5 14 16; go_wp2_with fail; refine (HB1.out.wstr xbrk l2 HLl2.out (by have := HQ.out; omega)).mono ?_; rintro e w2 ⟨rfl, hb⟩; have HB2 := Lh hb; clear hb; clear zHR_0 zHR_5 zHR_14 zHR_16; obtain ⟨zHR_0, zHR_5, zHR_14, zHR_16⟩ := (HR.out.at hp HB2.out.below).cs4 0 5 14 16; go_wp2_with fail; go_loopw [174] (fun t wr => ∃ (j : Nat) (c : L8), j ≤ N16 ∧ t = .int .i64 j ∧ BS B w0 b c wr ∧ l3 = itr (fun _ t l => pr n t l) (xsl.drop j) j c) (fun t _ => N16 - (intOf t).toNat)
   case atStart =>
    exact ⟨0, l2, Nat.zero_le _, rfl, HB2.out, HLl3.out⟩
   case round =>
    obtain ⟨j, c, hj, rfl, hb, hx⟩ := hrel; have HB100 := Lh hb; have HXC := Lh hx; clear hb hx
    by_cases hlt : j < N16
    ·
     obtain ⟨ab, ao, q, t, hA, hcl, hst, hat, hW⟩ := LS16.out.kid HB100.out.below hlt (fun _ t l => pr n t l) c; subst hA; have hc := hcl _ HB100.out.below; have HST := Lh hst; have HAT := Lh hat; clear hcl hst hat; obtain ⟨c1, hc1⟩ : ∃ x, x = pr n t c := ⟨_, rfl⟩
     have qc1 : c.length ≤ c1.length := by rw [hc1]; exact prLe _ _ _
     have hf9 : (fun _ t l => pr n t l) j t c = c1 := by rw [hc1]
     have hx8 : l3 = itr (fun _ t l => pr n t l) (xsl.drop (j + 1)) (j + 1) c1 := by rw [← hf9]; exact HXC.out.trans HST.out
     have q9 : c1.length ≤ l3.length := by rw [hx8]; exact itrLe (fun _ _ _ => prLe _ _ _) _ _ _
     have HXD := Lh hx8; have HQC := Lh ((And.intro qc1 q9)); have HLc1 := Lh hc1; clear hf9 hx8 q9 qc1 hc1; go_wp2_with fail; refine (IHsf w0 _ B b q c c1 t hW HAT.out HB100.out HE.out HLc1.out (by have := HQ.out; have := HQC.out; omega)).mono ?_; rintro e w101 ⟨rfl, hb⟩; have HB101 := Lh hb; clear hb; go_wp2_with fail; exact ⟨⟨j + 1, c1, by omega, by go_num, HB101.out, HXD.out⟩, by simp [intOf]; omega⟩
    ·
     obtain rfl : N16 = j := by omega
     have hx9 : l3 = c := HXC.out.trans (LS16.out.fin _ c); have HB3 := Lh (show BS B w0 b l3 _ from by rw [hx9]; exact HB100.out); clear hx9; obtain ⟨zHR_0, zHR_5, zHR_14, zHR_16⟩ := (HR.out.at hp HB3.out.below).cs4 0 5 14 16; go_wp2_with fail
     first | go_ret | go_end0 | ((try simp only [Exit.inBlock, Exit.then]); first | refine bodyPost_ret (results_none rfl _ _ _) rfl ?_ | refine bodyPost_end (results_none rfl _ _ _) rfl ?_)
     exact ⟨rfl, HB3.out⟩
  ·
   rcases FV.pt f15 with ⟨rfl, rfl⟩ | ⟨y, r, rfl, rfl, ay⟩
   ·
    exact absurd (k20 rfl) (by simp)
   ·
    have HA := Lh ay; clear k6 k7 k8 k9 k11 k13 k14 k15 k16 k17 k18 k20 kS e1 e2 ay f1 f2 f3 f4 f6 f8 f9 f10 f11 f12 f13 f15; have HR := Lh hr; clear hr; obtain ⟨l1, hl1⟩ : ∃ x, x = l ++ [40] := ⟨_, rfl⟩
    have ql1 : l.length + 1 ≤ l1.length := by rw [hl1, List.length_append]; exact Nat.le_refl _
    obtain ⟨l2, hl2⟩ : ∃ x, x = pr n y l1 := ⟨_, rfl⟩
    have ql2 : l1.length ≤ l2.length := by rw [hl2]; exact prLe _ _ _
    obtain ⟨l3, hl3⟩ : ∃ x, x = l2 ++ [41] := ⟨_, rfl⟩
    have ql3 : l2.length + 1 ≤ l3.length := by rw [hl3, List.length_append]; exact Nat.le_refl _
    obtain ⟨l4, hl4⟩ : ∃ x, x = itr (fun _ t l => pr n t l) xsl 0 l3 := ⟨_, rfl⟩
    have ql4 : l3.length ≤ l4.length := by rw [hl4]; exact itrLe (fun _ _ _ => prLe _ _ _) _ _ _
    have hX : l' = l4 := by rw [hl]; rw [hl4, hl3, hl2, hl1]; rfl
    rw [hX] at hlen; have HQ := Lh (And.intro hlen (And.intro ql1 (And.intro ql2 (And.intro ql3 ql4)))); have HLl1 := Lh hl1; have HLl2 := Lh hl2; have HLl3 := Lh hl3; have HLl4 := Lh hl4; rw [hX]; clear hX hlen hl ql1 ql2 ql3 ql4 hl1 hl2 hl3 hl4; obtain ⟨zHR_0, zHR_15, zHR_16⟩ := (HR.out.at hp HB.out.below).cs3 0 15 16; go_enter Tryz.func23, Tryz.ntmps23; go_wp2_with fail; refine (HB.out.wbyte 40 40 rfl l1 HLl1.out (by have := HQ.out; omega)).mono ?_; rintro e w1 ⟨rfl, hb⟩; have HB1 := Lh hb; clear hb; clear zHR_0 zHR_15 zHR_16; obtain ⟨zHR_0, zHR_15, zHR_16⟩ := (HR.out.at hp HB1.out.below).cs3 0 15 16; go_wp2_with fail; refine (IHq w0 _ B b r l1 l2 y (hq _ rfl) HA.out HB1.out HE.out HLl2.out (by have := HQ.out; omega)).mono ?_; rintro e w2 ⟨rfl, hb⟩; have HB2 := Lh hb; clear hb; clear zHR_0 zHR_15 zHR_16; obtain ⟨zHR_0, zHR_15, zHR_16⟩ := (HR.out.at hp HB2.out.below).cs3 0 15 16; go_wp2_with fail; refine (HB2.out.wbyte 41 41 rfl l3 HLl3.out (by have := HQ.out; omega)).mono ?_; rintro e w3 ⟨rfl, hb⟩; have HB3 := Lh hb; clear hb; clear zHR_0 zHR_15 zHR_16; obtain ⟨zHR_0, zHR_15, zHR_16⟩ := (HR.out.at hp HB3.out.below).cs3 0 15 16; go_wp2_with fail; go_loopw [174] (fun t wr => ∃ (j : Nat) (c : L8), j ≤ N16 ∧ t = .int .i64 j ∧ BS B w0 b c wr ∧ l4 = itr (fun _ t l => pr n t l) (xsl.drop j) j c) (fun t _ => N16 - (intOf t).toNat)
    case atStart =>
     exact ⟨0, l3, Nat.zero_le _, rfl, HB3.out, HLl4.out⟩
    case round =>
     obtain ⟨j, c, hj, rfl, hb, hx⟩ := hrel; have HB100 := Lh hb; have HXC := Lh hx; clear hb hx
     by_cases hlt : j < N16
     ·
      obtain ⟨ab, ao, q, t, hA, hcl, hst, hat, hW⟩ := LS16.out.kid HB100.out.below hlt (fun _ t l => pr n t l) c; subst hA; have hc := hcl _ HB100.out.below; have HST := Lh hst; have HAT := Lh hat; clear hcl hst hat; obtain ⟨c1, hc1⟩ : ∃ x, x = pr n t c := ⟨_, rfl⟩
      have qc1 : c.length ≤ c1.length := by rw [hc1]; exact prLe _ _ _
      have hf9 : (fun _ t l => pr n t l) j t c = c1 := by rw [hc1]
      have hx8 : l4 = itr (fun _ t l => pr n t l) (xsl.drop (j + 1)) (j + 1) c1 := by rw [← hf9]; exact HXC.out.trans HST.out
      have q9 : c1.length ≤ l4.length := by rw [hx8]; exact itrLe (fun _ _ _ => prLe _ _ _) _ _ _
      have HXD := Lh hx8; have HQC := Lh ((And.intro qc1 q9)); have HLc1 := Lh hc1; clear hf9 hx8 q9 qc1 hc1; go_wp2_with fail; refine (IHsf w0 _ B b q c c1 t hW HAT.out HB100.out HE.out HLc1.out (by have := HQ.out; have := HQC.out; omega)).mono ?_; rintro e w101 ⟨rfl, hb⟩; have HB101 := Lh hb; clear hb; go_wp2_with fail; exact ⟨⟨j + 1, c1, by omega, by go_num, HB101.out, HXD.out⟩, by simp [intOf]; omega⟩
     ·
      obtain rfl : N16 = j := by omega
      have hx9 : l4 = c := HXC.out.trans (LS16.out.fin _ c); have HB4 := Lh (show BS B w0 b l4 _ from by rw [hx9]; exact HB100.out); clear hx9; obtain ⟨zHR_0, zHR_15, zHR_16⟩ := (HR.out.at hp HB4.out.below).cs3 0 15 16; go_wp2_with fail
      first | go_ret | go_end0 | ((try simp only [Exit.inBlock, Exit.then]); first | refine bodyPost_ret (results_none rfl _ _ _) rfl ?_ | refine bodyPost_end (results_none rfl _ _ _) rfl ?_)
      exact ⟨rfl, HB4.out⟩
end Go.Proofs.YtghcggagpagfoaaGreatDoor
