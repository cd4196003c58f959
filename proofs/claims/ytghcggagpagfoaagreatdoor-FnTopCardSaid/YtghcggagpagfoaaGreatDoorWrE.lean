/-
  The writers' contracts: strings; all heights; the texts as strings (n001_1001). Printed by genW.py.
-/
import Derived.Test.YtghcggagpagfoaaGreatDoorWrD
namespace Go.Proofs.YtghcggagpagfoaaGreatDoor
set_option linter.unusedVariables false
set_option linter.unusedSimpArgs false
open Go.ChangeShapes Go.WideShapes Go.ChangeAt Go.RowKit M
/-- Query.String. -/
def QSC (n : Nat) : Prop := ∀ (w0 w : World) (B q : Nat) (t : T), W .q t → At (fun k => k < B) n w0 q t → Below B w0 w → Env B w0 → (pr n t []).length ≤ 1099511627776 → Calls Tryz.prog 5 #[.pointer (some ⟨q, 0, none⟩)] w fun e w' => e = .returned (.string ⟨(pr n t []).toArray⟩) ∧ Below w.heap.size w w'
set_option maxRecDepth 100000 in
set_option maxHeartbeats 8000000 in
theorem wST (n : Nat) (IHQ : WC 16 .q n) (IHS : QSC n) : WC 56 .st (n + 1) := by
 intro w0 w B b p l l' t hw ha hb he hl hlen; have HB := Lh hb; have HE := Lh he; clear hb he
 cases hw with
 | st xs xnn xqs h1 h2 g3 h3 =>
  obtain ⟨hp, v1, hr, f1⟩ := inv_st ha; clear ha; obtain ⟨X1, M1, N1, rfl, hnn1, ls1⟩ := FV.ls .iq h3 f1; have LS1 := Lh ls1; have len1 := ls1.len
  have bnd1 : N1 ≤ 3 := by have := g3; omega
  clear ls1 f1
  have hnil := fun W => Lib.run_eql_slice_nil (P := Tryz.prog) W 76 26 X1 N1 M1 0 0 Tryz.underlying76
  cases xnn
  case false =>
   obtain rfl := h2 rfl; have hz : N1 = 0 := len1.symm; subst hz
   obtain rfl : X1 = none := by cases X1; rfl; cases hnn1
   have HR := Lh hr; clear hr hnn1; obtain ⟨l1, hl1⟩ : ∃ x, x = l ++ quoted xs := ⟨_, rfl⟩
   have ql1 : l.length ≤ l1.length := by rw [hl1, List.length_append]; omega
   have hX : l' = l1 := by rw [hl]; rw [hl1]; rfl
   rw [hX] at hlen; have HQ := Lh (And.intro hlen ql1); have HLl1 := Lh hl1; rw [hX]; clear hX hlen hl ql1 hl1; obtain ⟨zHR_0, zHR_1⟩ := (HR.out.at hp HB.out.below).cs2 0 1; go_enter Tryz.func56, Tryz.ntmps56; go_wp2_with fail; refine (HB.out.wesc HE.out xs h1 l1 HLl1.out (by have := HQ.out; omega)).mono ?_; rintro e w1 ⟨rfl, hb⟩; have HB1 := Lh hb; clear hb; clear zHR_0 zHR_1; obtain ⟨zHR_0, zHR_1⟩ := (HR.out.at hp HB1.out.below).cs2 0 1; go_wp2_with fail
   first | go_ret | go_end0 | ((try simp only [Exit.inBlock, Exit.then]); first | refine bodyPost_ret (results_none rfl _ _ _) rfl ?_ | refine bodyPost_end (results_none rfl _ _ _) rfl ?_)
   exact ⟨rfl, HB1.out⟩
  case true =>
   have hxn : X1.isNone = false := by cases X1; cases hnn1; rfl
   simp only [hxn] at hnil; have HR := Lh hr; clear hr hnn1 h2; obtain ⟨l1, hl1⟩ : ∃ x, x = l ++ [34] := ⟨_, rfl⟩
   have ql1 : l.length + 1 ≤ l1.length := by rw [hl1, List.length_append]; exact Nat.le_refl _
   obtain ⟨l2, hl2⟩ : ∃ x, x = itr (fun _ t l => if strQ t = true then l ++ inn (pr n t []) else pr n t (l ++ [92])) xqs 0 l1 := ⟨_, rfl⟩
   have ql2 : l1.length ≤ l2.length := by rw [hl2]; exact itrLe (fun j t l => by have h1 := prLe n t (l ++ [92]); rw [List.length_append] at h1; split <;> (try rw [List.length_append]) <;> omega) _ _ _
   obtain ⟨l3, hl3⟩ : ∃ x, x = l2 ++ [34] := ⟨_, rfl⟩
   have ql3 : l2.length + 1 ≤ l3.length := by rw [hl3, List.length_append]; exact Nat.le_refl _
   have hX : l' = l3 := by rw [hl]; rw [hl3, hl2, hl1]; rfl
   rw [hX] at hlen; have HQ := Lh (And.intro hlen (And.intro ql1 (And.intro ql2 ql3))); have HLl1 := Lh hl1; have HLl2 := Lh hl2; have HLl3 := Lh hl3; rw [hX]; clear hX hlen hl ql1 ql2 ql3 hl1 hl2 hl3; obtain ⟨zHR_0, zHR_1⟩ := (HR.out.at hp HB.out.below).cs2 0 1; go_enter Tryz.func56, Tryz.ntmps56; go_wp2_with fail; refine (HB.out.wbyte 34 34 rfl l1 HLl1.out (by have := HQ.out; omega)).mono ?_; rintro e w1 ⟨rfl, hb⟩; have HB1 := Lh hb; clear hb; clear zHR_0 zHR_1; obtain ⟨zHR_0, zHR_1⟩ := (HR.out.at hp HB1.out.below).cs2 0 1; go_wp2_with fail; go_loopw [25] (fun t wr => ∃ (j : Nat) (c : L8), j ≤ N1 ∧ t = .int .i64 j ∧ BS B w0 b c wr ∧ l2 = itr (fun _ t l => if strQ t = true then l ++ inn (pr n t []) else pr n t (l ++ [92])) (xqs.drop j) j c ∧ l1.length ≤ c.length) (fun t _ => N1 - (intOf t).toNat)
   case atStart =>
    exact ⟨0, l1, Nat.zero_le _, rfl, HB1.out, HLl2.out, Nat.le_refl _⟩
   case round =>
    obtain ⟨j, c, hj, rfl, hb, hx, hinv⟩ := hrel; have HB100 := Lh hb; have HXC := Lh hx; clear hb hx
    by_cases hlt : j < N1
    ·
     obtain ⟨ab, ao, q, t, hA, hcl, hst, hat, hW⟩ := LS1.out.kid HB100.out.below hlt (fun _ t l => if strQ t = true then l ++ inn (pr n t []) else pr n t (l ++ [92])) c; subst hA; have hc := hcl _ HB100.out.below; have HST := Lh hst; have HAT := Lh hat; clear hcl hst hat; obtain ⟨rq, u0, u1, u2, u4, u5, u6, ty, d1, d2, d3, d4, d5, d6, d7, d8, d9, d10, d11, d12, d13, d14, d15, d16, hrq, hrt, hq, hrq2, hss⟩ := iq_rows hW HAT.out; have y1 := (hrq.at hq HB100.out.below).cell 3; have y2 := (hrt.at hrq2 HB100.out.below).cell 8; clear hrq hrt; rcases hss with ⟨hs, sb, rfl⟩ | ⟨hs, rfl⟩
     ·
      have HS := Lh hs; clear hs; obtain ⟨c1, hc1⟩ : ∃ x, x = c ++ inn (pr n t []) := ⟨_, rfl⟩
      have qc1 : c.length ≤ c1.length := by rw [hc1, List.length_append]; omega
      have hf9 : (fun _ t l => if strQ t = true then l ++ inn (pr n t []) else pr n t (l ++ [92])) j t c = c1 := by rw [hc1]; show (if strQ t = true then _ else _) = _; rw [if_pos HS.out]
      have hx8 : l2 = itr (fun _ t l => if strQ t = true then l ++ inn (pr n t []) else pr n t (l ++ [92])) (xqs.drop (j + 1)) (j + 1) c1 := by rw [← hf9]; exact HXC.out.trans HST.out
      have q9 : c1.length ≤ l2.length := by rw [hx8]; exact itrLe (fun j t l => by have h1 := prLe n t (l ++ [92]); rw [List.length_append] at h1; split <;> (try rw [List.length_append]) <;> omega) _ _ _
      have HXD := Lh hx8; have HQC := Lh ((And.intro qc1 (And.intro q9 hinv))); have HLc1 := Lh hc1; clear hf9 hx8 q9 qc1 hc1; go_wp2_with fail; have hx2 := iq_two hW HAT.out HS.out; obtain ⟨X, hX⟩ : ∃ X, X = pr n t [] := ⟨_, rfl⟩
      have hXi : c1 = c ++ inn X := by rw [hX]; exact HLc1.out
      have hXl : (inn X).length = X.length - 2 := by unfold inn; rw [List.length_take, List.length_drop]; omega
      have hXb : X.length ≤ 1099511627776 := by have h7 := HQ.out; have h8 := HQC.out; have h9 := congrArg List.length hXi; rw [List.length_append, hXl] at h9; rw [← hX] at hx2; omega
      refine (IHS w0 _ B q t hW.ofIq HAT.out HB100.out.below HE.out (by rw [← hX]; exact hXb)).mono ?_; rintro e w9 ⟨rfl, hb9⟩; rw [← hX] at hx2 ⊢; have HK := Lh (HB100.out.keep hb9); obtain ⟨es, hes⟩ : ∃ es, es = (⟨X.toArray⟩ : ByteArray) := ⟨_, rfl⟩
      have hsz : es.size = X.length := by rw [hes]; rfl
      have hs2 : 2 ≤ es.size := by omega
      have hsb : es.size ≤ 1099511627776 := by omega
      have HI := Lh (show (es.extract 1 (es.size - 1)).data.toList = inn X by rw [hsz, hes]; exact inn_eq X hx2); have HXI := Lh hXi; rw [← hes]; clear hb9 hX hes hsz hx2 hXb hXl hXi; go_wp2_with fail; refine (HK.out.wstr (es.extract 1 (es.size - 1)) c1 (by rw [HI.out]; exact HXI.out) (by have := HQ.out; have := HQC.out; omega)).mono ?_; rintro e w101 ⟨rfl, hb⟩; have HB101 := Lh hb; clear hb; go_wp2_with fail; exact ⟨⟨j + 1, c1, by omega, by go_num, HB101.out, HXD.out, by have := HQC.out; omega⟩, by simp [intOf]; omega⟩
     ·
      have HS := Lh hs; clear hs; obtain ⟨c1, hc1⟩ : ∃ x, x = c ++ [92] := ⟨_, rfl⟩
      have qc1 : c.length + 1 ≤ c1.length := by rw [hc1, List.length_append]; exact Nat.le_refl _
      obtain ⟨c2, hc2⟩ : ∃ x, x = pr n t c1 := ⟨_, rfl⟩
      have qc2 : c1.length ≤ c2.length := by rw [hc2]; exact prLe _ _ _
      have hf9 : (fun _ t l => if strQ t = true then l ++ inn (pr n t []) else pr n t (l ++ [92])) j t c = c2 := by rw [hc2, hc1]; show (if strQ t = true then _ else _) = _; rw [if_neg (by rw [HS.out]; decide)]
      have hx8 : l2 = itr (fun _ t l => if strQ t = true then l ++ inn (pr n t []) else pr n t (l ++ [92])) (xqs.drop (j + 1)) (j + 1) c2 := by rw [← hf9]; exact HXC.out.trans HST.out
      have q9 : c2.length ≤ l2.length := by rw [hx8]; exact itrLe (fun j t l => by have h1 := prLe n t (l ++ [92]); rw [List.length_append] at h1; split <;> (try rw [List.length_append]) <;> omega) _ _ _
      have HXD := Lh hx8; have HQC := Lh ((And.intro qc1 (And.intro qc2 (And.intro q9 hinv)))); have HLc1 := Lh hc1; have HLc2 := Lh hc2; clear hf9 hx8 q9 qc1 qc2 hc1 hc2; go_wp2_with fail; refine (HB100.out.wstr (⟨#[92]⟩ : ByteArray) c1 HLc1.out (by have := HQ.out; have := HQC.out; omega)).mono ?_; rintro e w101 ⟨rfl, hb⟩; have HB101 := Lh hb; clear hb; go_wp2_with fail; refine (IHQ w0 _ B b q c1 c2 t hW.ofIq HAT.out HB101.out HE.out HLc2.out (by have := HQ.out; have := HQC.out; omega)).mono ?_; rintro e w102 ⟨rfl, hb⟩; have HB102 := Lh hb; clear hb; go_wp2_with fail; exact ⟨⟨j + 1, c2, by omega, by go_num, HB102.out, HXD.out, by have := HQC.out; omega⟩, by simp [intOf]; omega⟩
    ·
     obtain rfl : N1 = j := by omega
     have hx9 : l2 = c := HXC.out.trans (LS1.out.fin _ c); have HB2 := Lh (show BS B w0 b l2 _ from by rw [hx9]; exact HB100.out); clear hx9; obtain ⟨zHR_0, zHR_1⟩ := (HR.out.at hp HB2.out.below).cs2 0 1; go_wp2_with fail; refine (HB2.out.wbyte 34 34 rfl l3 HLl3.out (by have := HQ.out; omega)).mono ?_; rintro e w3 ⟨rfl, hb⟩; have HB3 := Lh hb; clear hb; clear zHR_0 zHR_1; obtain ⟨zHR_0, zHR_1⟩ := (HR.out.at hp HB3.out.below).cs2 0 1; go_wp2_with fail
     first | go_ret | go_end0 | ((try simp only [Exit.inBlock, Exit.then]); first | refine bodyPost_ret (results_none rfl _ _ _) rfl ?_ | refine bodyPost_end (results_none rfl _ _ _) rfl ?_)
     exact ⟨rfl, HB3.out⟩
theorem touch_above {B : Nat} {w w' : World} (h : Below B w w') : Touch (fun k => B ≤ k) w w' := ⟨h.os, h.tape, h.output, h.size, fun k hk hn => h.block k (by omega)⟩
set_option maxRecDepth 100000 in
set_option maxHeartbeats 4000000 in
theorem strQC (n : Nat) (IH : WC 16 .q n) : QSC n := by
 intro w0 w B q t hw ha hbw he hl; have hE := he.at hbw; have hb : Below w.heap.size w (w.alloc (.cells #[.pointer none, .slice none 0 0] 53)) := (Below.refl _ _).alloc (Nat.le_refl _) _; have HA := Lh (At.turn (ok' := fun k => k < w.heap.size) (touch_above hbw) (fun k hk hl x => by have hk' : k < B := hk; have x' : B ≤ k := x; omega) (fun k hk hl => Nat.lt_of_lt_of_le hk (Nat.le_trans he.size hbw.size)) n ha); have HE := Lh hE; have H0 : Hid (BS w.heap.size w w.heap.size [] (w.alloc (.cells #[.pointer none, .slice none 0 0] 53))) := Lh ⟨⟨none, Bld.fresh w (Nat.le_refl w.heap.size)⟩, hb, by simp⟩; clear ha hb hE he hbw; go_enter Tryz.func5, Tryz.ntmps5; go_wp2_with fail; refine (IH w _ w.heap.size w.heap.size q [] _ t hw HA.out H0.out HE.out rfl hl).mono ?_; rintro e w1 ⟨rfl, hb⟩; have HB1 := Lh hb; clear hb; go_wp2_with fail; refine HB1.out.str.mono ?_; rintro e w2 ⟨rfl, hb⟩; have HB2 := Lh hb; clear hb; go_wp2_with fail; go_ret; exact ⟨rfl, HB2.out.below⟩
set_option maxRecDepth 100000 in
set_option maxHeartbeats 4000000 in
theorem strTC (n : Nat) (IH : WC 23 .t n) (w0 w : World) (B q : Nat) (t : T) (hw : W .t t) (ha : At (fun k => k < B) n w0 q t) (hbw : Below B w0 w) (he : Env B w0) (hl : (pr n t []).length ≤ 1099511627776) : Calls Tryz.prog 7 #[.pointer (some ⟨q, 0, none⟩)] w fun e w' => e = .returned (.string ⟨(pr n t []).toArray⟩) ∧ Below w.heap.size w w' := by
 have hE := he.at hbw; have hb : Below w.heap.size w (w.alloc (.cells #[.pointer none, .slice none 0 0] 53)) := (Below.refl _ _).alloc (Nat.le_refl _) _; have HA := Lh (At.turn (ok' := fun k => k < w.heap.size) (touch_above hbw) (fun k hk hl x => by have hk' : k < B := hk; have x' : B ≤ k := x; omega) (fun k hk hl => Nat.lt_of_lt_of_le hk (Nat.le_trans he.size hbw.size)) n ha); have HE := Lh hE; have H0 : Hid (BS w.heap.size w w.heap.size [] (w.alloc (.cells #[.pointer none, .slice none 0 0] 53))) := Lh ⟨⟨none, Bld.fresh w (Nat.le_refl w.heap.size)⟩, hb, by simp⟩; clear ha hb hE he hbw; go_enter Tryz.func7, Tryz.ntmps7; go_wp2_with fail; refine (IH w _ w.heap.size w.heap.size q [] _ t hw HA.out H0.out HE.out rfl hl).mono ?_; rintro e w1 ⟨rfl, hb⟩; have HB1 := Lh hb; clear hb; go_wp2_with fail; refine HB1.out.str.mono ?_; rintro e w2 ⟨rfl, hb⟩; have HB2 := Lh hb; clear hb; go_wp2_with fail; go_ret; exact ⟨rfl, HB2.out.below⟩
structure AllW (n : Nat) : Prop where
 q : WC 16 .q n
 t : WC 23 .t n
 co : WC 41 .co n
 im : WC 42 .im n
 fd : WC 43 .fd n
 pt : WC 45 .pt n
 ix : WC 51 .ix n
 fn : WC 52 .fn n
 ob : WC 53 .ob n
 ar : WC 54 .ar n
 un : WC 55 .un n
 st : WC 56 .st n
 ife : WC 57 .ife n
 tr : WC 58 .tr n
 rd : WC 59 .rd n
 fe : WC 60 .fe n
 lb : WC 61 .lb n
 sf : WC 62 .sf n
 ckv : WC 66 .ckv n
 po : WC 68 .po n
 okv : WC 75 .okv n
 el : WC 76 .el n
 ct : WC 78 .ct n
 ca : WC 83 .ca n
 sx : ∀ m, n = m + 1 → SC 74 m
theorem allW : ∀ n, AllW n
 | 0 => by
  constructor
  all_goals first | (intro w0 w B b p l l' t hw ha; exact ha.elim) | (intro m hm; omega)
 | n + 1 => by
  have I := allW n; have hs := wSX n I.st I.q; refine ⟨wQ n I.co I.im I.fd I.t I.q I.pt, wT n I.ix I.fn I.ob I.ar I.un I.st I.ife I.tr I.rd I.fe I.lb I.q I.sf, wCO n I.ckv, wIM n I.co, wFD n I.q, wPT n I.pt I.po, wIX n hs, wFN n I.q, wOB n I.okv, wAR n I.q, wUN n I.t, wST n I.q (strQC n I.q), wIFE n I.q I.el, wTR n I.q, wRD n I.q I.pt, wFE n I.q I.pt, wLB n I.q, wSF n I.ix I.sx, wCKV n I.ct, wPO n I.st I.q I.pt, wOKV n I.st I.q I.q, wEL n I.q, wCT n I.co I.ca, wCA n I.ct, fun m hm => by cases Nat.succ.inj hm; exact hs⟩
end Go.Proofs.YtghcggagpagfoaaGreatDoor
