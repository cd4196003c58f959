/-
  The writers' contracts: queries, indices, suffixes (n001_1001). Printed by genW.py.
-/
import Derived.Test.YtghcggagpagfoaaGreatDoorWrB
namespace Go.Proofs.YtghcggagpagfoaaGreatDoor
set_option linter.unusedVariables false
set_option linter.unusedSimpArgs false
open Go.ChangeShapes Go.WideShapes Go.ChangeAt Go.RowKit M
theorem last_byte {acc : List UInt8} (h : 0 < acc.length) : ∃ c, (ByteArray.mk acc.toArray)[acc.length - 1]'(by show acc.length - 1 < acc.toArray.size; simp; omega) = c ∧ acc.getLast? = some c := by
 refine ⟨_, rfl, ?_⟩; rw [List.getLast?_eq_getElem?, List.getElem?_eq_getElem (by omega)]; rfl
theorem tail_cases {acc : List UInt8} {c : UInt8} (h : acc.getLast? = some c) :
  (tailC acc = true ∧ (c = 46 ∨ (((c.toNat : Int) == 46) = false ∧ (48 : Int) ≤ c.toNat ∧ (c.toNat : Int) ≤ 57))) ∨
  (tailC acc = false ∧ ((((c.toNat : Int) == 46) = false ∧ (c.toNat : Int) < 48) ∨ (((c.toNat : Int) == 46) = false ∧ (48 : Int) ≤ c.toNat ∧ 57 < (c.toNat : Int)))) := by
 have hs : tailC acc = (c == 46 || (decide (48 ≤ c.toNat) && decide (c.toNat ≤ 57))) := by unfold tailC; rw [h]
 by_cases h0 : c = 46
 ·
  subst h0; exact .inl ⟨by rw [hs]; decide, .inl rfl⟩
 ·
  have h1 : ((c.toNat : Int) == 46) = false := by
   rw [beq_eq_false_iff_ne]; intro e; apply h0; apply UInt8.toNat_inj.1; show c.toNat = 46; omega
  have h2 : (c == 46) = false := by rw [beq_eq_false_iff_ne]; exact h0
  rw [h2, Bool.false_or] at hs
  by_cases h3 : 48 ≤ c.toNat
  ·
   by_cases h4 : c.toNat ≤ 57
   ·
    exact .inl ⟨by rw [hs, decide_eq_true h3, decide_eq_true h4]; rfl, .inr ⟨h1, by omega, by omega⟩⟩
   ·
    exact .inr ⟨by rw [hs, decide_eq_true h3, decide_eq_false h4]; rfl, .inr ⟨h1, by omega, by omega⟩⟩
  ·
   exact .inr ⟨by rw [hs, decide_eq_false h3]; rfl, .inl ⟨h1, by omega⟩⟩
def sx (n : Nat) : T → L8 → L8
 | .nd _ fs, l => sfx (pr n) fs l
theorem sx_le (n : Nat) (t : T) (l : L8) : l.length ≤ (sx n t l).length := by
 cases t with
 | nd k fs => exact (bSX (pr n) (prB n) fs l).1
/-- Behind the dot: the index's own text. -/
def SC (fn n : Nat) : Prop := ∀ (w0 w : World) (B b p : Nat) (l l' : L8) (t : T), W .ix t → At (fun k => k < B) (n + 1) w0 p t → BS B w0 b l w → Env B w0 → l' = sx n t l → l'.length ≤ 1099511627776 →
 Calls Tryz.prog fn #[.pointer (some ⟨p, 0, none⟩), .pointer (some ⟨b, 0, none⟩)] w fun e w' => e = .returned (.tuple #[]) ∧ BS B w0 b l' w'
theorem sfx_na {f : T → L8 → L8} {na : ByteArray} {str st en : Option T} {sl : Bool} {l : L8} (h : na.size ≠ 0) : sfx f [.s na, .p str, .p st, .p en, .b sl] l = l ++ na.data.toList := by
 unfold sfx
 dsimp only
 rw [if_pos h]
theorem prQ2 {f : T → L8 → L8} {le r : T} {ps : List T} {op : Int} {a b c : Bool} {l : L8} (h : op ≠ 2) : prQ f [.p none, .l a [], .l b [], .p none, .p (some le), .p (some r), .l c ps, .i op] l = f r (itr (fun j t l => f t (if j = 0 then l ++ [97, 115, 32] else l ++ [63, 47, 47, 32]) ++ [32]) ps 0 (f le l ++ [32]) ++ opT op ++ [32]) := by
 unfold prQ
 dsimp only [itr, opt]
 rw [if_neg h]
structure LsS (B : Nat) (w0 : World) (A : Option Addr) (L : Nat) (ts : List ByteArray) : Prop where
 len : ts.length = L
 get : ∀ j, j < L → ∃ ab ao s, A = some ⟨ab, ao, none⟩ ∧ ab < B ∧ w0.cell? ⟨ab, ao + j, none⟩ = some (.string s) ∧ ts[j]? = some s
theorem LsS.kid {B L : Nat} {w0 : World} {A : Option Addr} {ts : List ByteArray} (h : LsS B w0 A L ts) {j : Nat} (hj : j < L) (f : Nat → ByteArray → L8 → L8) (c : L8) :
  ∃ ab ao s, A = some ⟨ab, ao, none⟩ ∧ (∀ w, Below B w0 w → w.cell? ⟨ab, ao + j, none⟩ = some (.string s)) ∧ itrS f (ts.drop j) j c = itrS f (ts.drop (j + 1)) (j + 1) (f j s c) := by
 obtain ⟨ab, ao, s, rfl, h1, h2, h3⟩ := h.get j hj; refine ⟨ab, ao, s, rfl, fun w hb => (hb.cell h1).trans h2, ?_⟩; have hk := (List.getElem?_eq_some_iff.1 h3).1; have ht := (List.getElem?_eq_some_iff.1 h3).2; rw [List.drop_eq_getElem_cons hk, ht]; rfl
theorem LsS.fin {B L : Nat} {w0 : World} {A : Option Addr} {ts : List ByteArray} (h : LsS B w0 A L ts) (f : Nat → ByteArray → L8 → L8) (c : L8) : itrS f (ts.drop L) L c = c := by
 rw [List.drop_eq_nil_of_le (by rw [h.len]; exact Nat.le_refl _)]; rfl
theorem FV.lss {n B : Nat} {w0 : World} {ts : List ByteArray} {v : Value} (h : FV (At (fun k => k < B) n w0) (fun k => k < B) w0 (.ss ts) v) : ∃ A c L, v = .slice A L c ∧ L ≤ c ∧ LsS B w0 A L ts := by
 obtain ⟨A, c, rfl, h1, h2, h3⟩ := h; refine ⟨A, c, _, rfl, h1, rfl, fun j hj => ?_⟩; obtain ⟨b, o, v, rfl, hb, hv, hc⟩ := h2.get hj; have ht : ts[j]? = some ts[j] := List.getElem?_eq_getElem hj; unfold strV at hv; rw [List.getElem?_map, ht] at hv
 cases hv
 exact ⟨b, o, _, rfl, h3 _ rfl (by omega), hc, ht⟩
theorem itrSLe {g : Nat → ByteArray → L8 → L8} (hg : ∀ j t l, l.length ≤ (g j t l).length) : ∀ (ts : List ByteArray) (j : Nat) (X : L8), X.length ≤ (itrS g ts j X).length
 | [], j, X => Nat.le_refl _
 | t :: ts, j, X => Nat.le_trans (hg j t X) (itrSLe hg ts (j + 1) _)
set_option maxRecDepth 100000 in
set_option maxHeartbeats 8000000 in
theorem wQ (n : Nat) (IHO : WC 41 .co n) (IHM : WC 42 .im n) (IHD : WC 43 .fd n) (IHT : WC 23 .t n) (IHQ : WC 16 .q n) (IHP : WC 45 .pt n) : WC 16 .q (n + 1) := by
 intro w0 w B b p l l' t hw ha hb he hl hlen; have HB := Lh hb; have HE := Lh he; clear hb he
 cases hw with
 | q1 xme xims xfds xte xa xb xc h1 g2 h2 g3 h3 h4 =>
  obtain ⟨hp, v0, v1, v2, v3, v4, v5, v6, hr, f0, f1, f2, f3, f4, f5, f6⟩ := inv_q ha; have e5 : v5 = .pointer none := f5; subst e5; clear ha f4 f5 f6; obtain ⟨X1, M1, N1, rfl, hnn1, ls1⟩ := FV.ls .im h2 f1; have LS1 := Lh ls1; have len1 := ls1.len
  have bnd1 : N1 ≤ 3 := by have := g2; omega
  clear ls1 f1; obtain ⟨X2, M2, N2, rfl, hnn2, ls2⟩ := FV.ls .fd h3 f2; have LS2 := Lh ls2; have len2 := ls2.len
  have bnd2 : N2 ≤ 3 := by have := g3; omega
  clear ls2 f2; clear hnn1 hnn2; rcases FV.pt f0 with ⟨rfl, rfl⟩ | ⟨y0, r0, rfl, rfl, a0⟩
  ·
   clear f0; rcases FV.pt f3 with ⟨rfl, rfl⟩ | ⟨y3, r3, rfl, rfl, a3⟩
   ·
    have HR := Lh hr; clear hr f3; obtain ⟨l1, hl1⟩ : ∃ x, x = itr (fun _ t l => pr n t l) xims 0 l := ⟨_, rfl⟩
    have ql1 : l.length ≤ l1.length := by rw [hl1]; exact itrLe (fun _ _ _ => prLe _ _ _) _ _ _
    obtain ⟨l2, hl2⟩ : ∃ x, x = itr (fun _ t l => pr n t l ++ [32]) xfds 0 l1 := ⟨_, rfl⟩
    have ql2 : l1.length ≤ l2.length := by rw [hl2]; exact itrLe (fun _ t l => by have := prLe n t l; rw [List.length_append]; omega) _ _ _
    have hX : l' = l2 := by rw [hl]; rw [hl2, hl1]; rfl
    rw [hX] at hlen; have HQ := Lh (And.intro hlen (And.intro ql1 ql2)); have HLl1 := Lh hl1; have HLl2 := Lh hl2; rw [hX]; clear hX hlen hl ql1 ql2 hl1 hl2; obtain ⟨zHR_0, zHR_1, zHR_2, zHR_3, zHR_5⟩ := (HR.out.at hp HB.out.below).cs5 0 1 2 3 5; go_enter Tryz.func16, Tryz.ntmps16; go_wp2_with fail; go_loopw [30] (fun t wr => ∃ (j : Nat) (c : L8), j ≤ N1 ∧ t = .int .i64 j ∧ BS B w0 b c wr ∧ l1 = itr (fun _ t l => pr n t l) (xims.drop j) j c) (fun t _ => N1 - (intOf t).toNat)
    case atStart =>
     exact ⟨0, l, Nat.zero_le _, rfl, HB.out, HLl1.out⟩
    case round =>
     obtain ⟨j, c, hj, rfl, hb, hx⟩ := hrel; have HB100 := Lh hb; have HXC := Lh hx; clear hb hx
     by_cases hlt : j < N1
     ·
      obtain ⟨ab, ao, q, t, hA, hcl, hst, hat, hW⟩ := LS1.out.kid HB100.out.below hlt (fun _ t l => pr n t l) c; subst hA; have hc := hcl _ HB100.out.below; have HST := Lh hst; have HAT := Lh hat; clear hcl hst hat; obtain ⟨c1, hc1⟩ : ∃ x, x = pr n t c := ⟨_, rfl⟩
      have qc1 : c.length ≤ c1.length := by rw [hc1]; exact prLe _ _ _
      have hf9 : (fun _ t l => pr n t l) j t c = c1 := by rw [hc1]
      have hx8 : l1 = itr (fun _ t l => pr n t l) (xims.drop (j + 1)) (j + 1) c1 := by rw [← hf9]; exact HXC.out.trans HST.out
      have q9 : c1.length ≤ l1.length := by rw [hx8]; exact itrLe (fun _ _ _ => prLe _ _ _) _ _ _
      have HXD := Lh hx8; have HQC := Lh ((And.intro qc1 q9)); have HLc1 := Lh hc1; clear hf9 hx8 q9 qc1 hc1; go_wp2_with fail; refine (IHM w0 _ B b q c c1 t hW HAT.out HB100.out HE.out HLc1.out (by have := HQ.out; have := HQC.out; omega)).mono ?_; rintro e w101 ⟨rfl, hb⟩; have HB101 := Lh hb; clear hb; go_wp2_with fail; exact ⟨⟨j + 1, c1, by omega, by go_num, HB101.out, HXD.out⟩, by simp [intOf]; omega⟩
     ·
      obtain rfl : N1 = j := by omega
      have hx9 : l1 = c := HXC.out.trans (LS1.out.fin _ c); have HB1 := Lh (show BS B w0 b l1 _ from by rw [hx9]; exact HB100.out); clear hx9; obtain ⟨zHR_0, zHR_1, zHR_2, zHR_3, zHR_5⟩ := (HR.out.at hp HB1.out.below).cs5 0 1 2 3 5; go_wp2_with fail; go_loopw [43] (fun t wr => ∃ (j : Nat) (c : L8), j ≤ N2 ∧ t = .int .i64 j ∧ BS B w0 b c wr ∧ l2 = itr (fun _ t l => pr n t l ++ [32]) (xfds.drop j) j c) (fun t _ => N2 - (intOf t).toNat)
      case atStart =>
       exact ⟨0, l1, Nat.zero_le _, rfl, HB1.out, HLl2.out⟩
      case round =>
       obtain ⟨j, c, hj, rfl, hb, hx⟩ := hrel; have HB100 := Lh hb; have HXC := Lh hx; clear hb hx
       by_cases hlt : j < N2
       ·
        obtain ⟨ab, ao, q, t, hA, hcl, hst, hat, hW⟩ := LS2.out.kid HB100.out.below hlt (fun _ t l => pr n t l ++ [32]) c; subst hA; have hc := hcl _ HB100.out.below; have HST := Lh hst; have HAT := Lh hat; clear hcl hst hat; obtain ⟨c1, hc1⟩ : ∃ x, x = pr n t c := ⟨_, rfl⟩
        have qc1 : c.length ≤ c1.length := by rw [hc1]; exact prLe _ _ _
        obtain ⟨c2, hc2⟩ : ∃ x, x = c1 ++ [32] := ⟨_, rfl⟩
        have qc2 : c1.length + 1 ≤ c2.length := by rw [hc2, List.length_append]; exact Nat.le_refl _
        have hf9 : (fun _ t l => pr n t l ++ [32]) j t c = c2 := by rw [hc2, hc1]
        have hx8 : l2 = itr (fun _ t l => pr n t l ++ [32]) (xfds.drop (j + 1)) (j + 1) c2 := by rw [← hf9]; exact HXC.out.trans HST.out
        have q9 : c2.length ≤ l2.length := by rw [hx8]; exact itrLe (fun _ t l => by have := prLe n t l; rw [List.length_append]; omega) _ _ _
        have HXD := Lh hx8; have HQC := Lh ((And.intro qc1 (And.intro qc2 q9))); have HLc1 := Lh hc1; have HLc2 := Lh hc2; clear hf9 hx8 q9 qc1 qc2 hc1 hc2; go_wp2_with fail; refine (IHD w0 _ B b q c c1 t hW HAT.out HB100.out HE.out HLc1.out (by have := HQ.out; have := HQC.out; omega)).mono ?_; rintro e w101 ⟨rfl, hb⟩; have HB101 := Lh hb; clear hb; go_wp2_with fail; refine (HB101.out.wbyte 32 32 rfl c2 HLc2.out (by have := HQ.out; have := HQC.out; omega)).mono ?_; rintro e w102 ⟨rfl, hb⟩; have HB102 := Lh hb; clear hb; go_wp2_with fail; exact ⟨⟨j + 1, c2, by omega, by go_num, HB102.out, HXD.out⟩, by simp [intOf]; omega⟩
       ·
        obtain rfl : N2 = j := by omega
        have hx9 : l2 = c := HXC.out.trans (LS2.out.fin _ c); have HB2 := Lh (show BS B w0 b l2 _ from by rw [hx9]; exact HB100.out); clear hx9; obtain ⟨zHR_0, zHR_1, zHR_2, zHR_3, zHR_5⟩ := (HR.out.at hp HB2.out.below).cs5 0 1 2 3 5; go_wp2_with fail
        first | go_ret | go_end0 | ((try simp only [Exit.inBlock, Exit.then]); first | refine bodyPost_ret (results_none rfl _ _ _) rfl ?_ | refine bodyPost_end (results_none rfl _ _ _) rfl ?_)
        exact ⟨rfl, HB2.out⟩
   ·
    have HA3 := Lh a3; clear a3; have HR := Lh hr; clear hr f3; obtain ⟨l1, hl1⟩ : ∃ x, x = itr (fun _ t l => pr n t l) xims 0 l := ⟨_, rfl⟩
    have ql1 : l.length ≤ l1.length := by rw [hl1]; exact itrLe (fun _ _ _ => prLe _ _ _) _ _ _
    obtain ⟨l2, hl2⟩ : ∃ x, x = itr (fun _ t l => pr n t l ++ [32]) xfds 0 l1 := ⟨_, rfl⟩
    have ql2 : l1.length ≤ l2.length := by rw [hl2]; exact itrLe (fun _ t l => by have := prLe n t l; rw [List.length_append]; omega) _ _ _
    obtain ⟨l3, hl3⟩ : ∃ x, x = pr n y3 l2 := ⟨_, rfl⟩
    have ql3 : l2.length ≤ l3.length := by rw [hl3]; exact prLe _ _ _
    have hX : l' = l3 := by rw [hl]; rw [hl3, hl2, hl1]; rfl
    rw [hX] at hlen; have HQ := Lh (And.intro hlen (And.intro ql1 (And.intro ql2 ql3))); have HLl1 := Lh hl1; have HLl2 := Lh hl2; have HLl3 := Lh hl3; rw [hX]; clear hX hlen hl ql1 ql2 ql3 hl1 hl2 hl3; obtain ⟨zHR_0, zHR_1, zHR_2, zHR_3, zHR_5⟩ := (HR.out.at hp HB.out.below).cs5 0 1 2 3 5; go_enter Tryz.func16, Tryz.ntmps16; go_wp2_with fail; go_loopw [30] (fun t wr => ∃ (j : Nat) (c : L8), j ≤ N1 ∧ t = .int .i64 j ∧ BS B w0 b c wr ∧ l1 = itr (fun _ t l => pr n t l) (xims.drop j) j c) (fun t _ => N1 - (intOf t).toNat)
    case atStart =>
     exact ⟨0, l, Nat.zero_le _, rfl, HB.out, HLl1.out⟩
    case round =>
     obtain ⟨j, c, hj, rfl, hb, hx⟩ := hrel; have HB100 := Lh hb; have HXC := Lh hx; clear hb hx
     by_cases hlt : j < N1
     ·
      obtain ⟨ab, ao, q, t, hA, hcl, hst, hat, hW⟩ := LS1.out.kid HB100.out.below hlt (fun _ t l => pr n t l) c; subst hA; have hc := hcl _ HB100.out.below; have HST := Lh hst; have HAT := Lh hat; clear hcl hst hat; obtain ⟨c1, hc1⟩ : ∃ x, x = pr n t c := ⟨_, rfl⟩
      have qc1 : c.length ≤ c1.length := by rw [hc1]; exact prLe _ _ _
      have hf9 : (fun _ t l => pr n t l) j t c = c1 := by rw [hc1]
      have hx8 : l1 = itr (fun _ t l => pr n t l) (xims.drop (j + 1)) (j + 1) c1 := by rw [← hf9]; exact HXC.out.trans HST.out
      have q9 : c1.length ≤ l1.length := by rw [hx8]; exact itrLe (fun _ _ _ => prLe _ _ _) _ _ _
      have HXD := Lh hx8; have HQC := Lh ((And.intro qc1 q9)); have HLc1 := Lh hc1; clear hf9 hx8 q9 qc1 hc1; go_wp2_with fail; refine (IHM w0 _ B b q c c1 t hW HAT.out HB100.out HE.out HLc1.out (by have := HQ.out; have := HQC.out; omega)).mono ?_; rintro e w101 ⟨rfl, hb⟩; have HB101 := Lh hb; clear hb; go_wp2_with fail; exact ⟨⟨j + 1, c1, by omega, by go_num, HB101.out, HXD.out⟩, by simp [intOf]; omega⟩
     ·
      obtain rfl : N1 = j := by omega
      have hx9 : l1 = c := HXC.out.trans (LS1.out.fin _ c); have HB1 := Lh (show BS B w0 b l1 _ from by rw [hx9]; exact HB100.out); clear hx9; obtain ⟨zHR_0, zHR_1, zHR_2, zHR_3, zHR_5⟩ := (HR.out.at hp HB1.out.below).cs5 0 1 2 3 5; go_wp2_with fail; go_loopw [43] (fun t wr => ∃ (j : Nat) (c : L8), j ≤ N2 ∧ t = .int .i64 j ∧ BS B w0 b c wr ∧ l2 = itr (fun _ t l => pr n t l ++ [32]) (xfds.drop j) j c) (fun t _ => N2 - (intOf t).toNat)
      case atStart =>
       exact ⟨0, l1, Nat.zero_le _, rfl, HB1.out, HLl2.out⟩
      case round =>
       obtain ⟨j, c, hj, rfl, hb, hx⟩ := hrel; have HB100 := Lh hb; have HXC := Lh hx; clear hb hx
       by_cases hlt : j < N2
       ·
        obtain ⟨ab, ao, q, t, hA, hcl, hst, hat, hW⟩ := LS2.out.kid HB100.out.below hlt (fun _ t l => pr n t l ++ [32]) c; subst hA; have hc := hcl _ HB100.out.below; have HST := Lh hst; have HAT := Lh hat; clear hcl hst hat; obtain ⟨c1, hc1⟩ : ∃ x, x = pr n t c := ⟨_, rfl⟩
        have qc1 : c.length ≤ c1.length := by rw [hc1]; exact prLe _ _ _
        obtain ⟨c2, hc2⟩ : ∃ x, x = c1 ++ [32] := ⟨_, rfl⟩
        have qc2 : c1.length + 1 ≤ c2.length := by rw [hc2, List.length_append]; exact Nat.le_refl _
        have hf9 : (fun _ t l => pr n t l ++ [32]) j t c = c2 := by rw [hc2, hc1]
        have hx8 : l2 = itr (fun _ t l => pr n t l ++ [32]) (xfds.drop (j + 1)) (j + 1) c2 := by rw [← hf9]; exact HXC.out.trans HST.out
        have q9 : c2.length ≤ l2.length := by rw [hx8]; exact itrLe (fun _ t l => by have := prLe n t l; rw [List.length_append]; omega) _ _ _
        have HXD := Lh hx8; have HQC := Lh ((And.intro qc1 (And.intro qc2 q9))); have HLc1 := Lh hc1; have HLc2 := Lh hc2; clear hf9 hx8 q9 qc1 qc2 hc1 hc2; go_wp2_with fail; refine (IHD w0 _ B b q c c1 t hW HAT.out HB100.out HE.out HLc1.out (by have := HQ.out; have := HQC.out; omega)).mono ?_; rintro e w101 ⟨rfl, hb⟩; have HB101 := Lh hb; clear hb; go_wp2_with fail; refine (HB101.out.wbyte 32 32 rfl c2 HLc2.out (by have := HQ.out; have := HQC.out; omega)).mono ?_; rintro e w102 ⟨rfl, hb⟩; have HB102 := Lh hb; clear hb; go_wp2_with fail; exact ⟨⟨j + 1, c2, by omega, by go_num, HB102.out, HXD.out⟩, by simp [intOf]; omega⟩
       ·
        obtain rfl : N2 = j := by omega
        have hx9 : l2 = c := HXC.out.trans (LS2.out.fin _ c); have HB2 := Lh (show BS B w0 b l2 _ from by rw [hx9]; exact HB100.out); clear hx9; obtain ⟨zHR_0, zHR_1, zHR_2, zHR_3, zHR_5⟩ := (HR.out.at hp HB2.out.below).cs5 0 1 2 3 5; go_wp2_with fail; refine (IHT w0 _ B b r3 l2 l3 y3 (h4 _ rfl) HA3.out HB2.out HE.out HLl3.out (by have := HQ.out; omega)).mono ?_; rintro e w3 ⟨rfl, hb⟩; have HB3 := Lh hb; clear hb; clear zHR_0 zHR_1 zHR_2 zHR_3 zHR_5; obtain ⟨zHR_0, zHR_1, zHR_2, zHR_3, zHR_5⟩ := (HR.out.at hp HB3.out.below).cs5 0 1 2 3 5; go_wp2_with fail
        first | go_ret | go_end0 | ((try simp only [Exit.inBlock, Exit.then]); first | refine bodyPost_ret (results_none rfl _ _ _) rfl ?_ | refine bodyPost_end (results_none rfl _ _ _) rfl ?_)
        exact ⟨rfl, HB3.out⟩
  ·
   have HA0 := Lh a0; clear a0; clear f0; rcases FV.pt f3 with ⟨rfl, rfl⟩ | ⟨y3, r3, rfl, rfl, a3⟩
   ·
    have HR := Lh hr; clear hr f3; obtain ⟨l1, hl1⟩ : ∃ x, x = l ++ [109, 111, 100, 117, 108, 101, 32] := ⟨_, rfl⟩
    have ql1 : l.length + 7 ≤ l1.length := by rw [hl1, List.length_append]; exact Nat.le_refl _
    obtain ⟨l2, hl2⟩ : ∃ x, x = pr n y0 l1 := ⟨_, rfl⟩
    have ql2 : l1.length ≤ l2.length := by rw [hl2]; exact prLe _ _ _
    obtain ⟨l3, hl3⟩ : ∃ x, x = l2 ++ [59, 10] := ⟨_, rfl⟩
    have ql3 : l2.length + 2 ≤ l3.length := by rw [hl3, List.length_append]; exact Nat.le_refl _
    obtain ⟨l4, hl4⟩ : ∃ x, x = itr (fun _ t l => pr n t l) xims 0 l3 := ⟨_, rfl⟩
    have ql4 : l3.length ≤ l4.length := by rw [hl4]; exact itrLe (fun _ _ _ => prLe _ _ _) _ _ _
    obtain ⟨l5, hl5⟩ : ∃ x, x = itr (fun _ t l => pr n t l ++ [32]) xfds 0 l4 := ⟨_, rfl⟩
    have ql5 : l4.length ≤ l5.length := by rw [hl5]; exact itrLe (fun _ t l => by have := prLe n t l; rw [List.length_append]; omega) _ _ _
    have hX : l' = l5 := by rw [hl]; rw [hl5, hl4, hl3, hl2, hl1]; rfl
    rw [hX] at hlen; have HQ := Lh (And.intro hlen (And.intro ql1 (And.intro ql2 (And.intro ql3 (And.intro ql4 ql5))))); have HLl1 := Lh hl1; have HLl2 := Lh hl2; have HLl3 := Lh hl3; have HLl4 := Lh hl4; have HLl5 := Lh hl5; rw [hX]; clear hX hlen hl ql1 ql2 ql3 ql4 ql5 hl1 hl2 hl3 hl4 hl5; obtain ⟨zHR_0, zHR_1, zHR_2, zHR_3, zHR_5⟩ := (HR.out.at hp HB.out.below).cs5 0 1 2 3 5; go_enter Tryz.func16, Tryz.ntmps16; go_wp2_with fail; refine (HB.out.wstr (⟨#[109, 111, 100, 117, 108, 101, 32]⟩ : ByteArray) l1 HLl1.out (by have := HQ.out; omega)).mono ?_; rintro e w1 ⟨rfl, hb⟩; have HB1 := Lh hb; clear hb; clear zHR_0 zHR_1 zHR_2 zHR_3 zHR_5; obtain ⟨zHR_0, zHR_1, zHR_2, zHR_3, zHR_5⟩ := (HR.out.at hp HB1.out.below).cs5 0 1 2 3 5; go_wp2_with fail; refine (IHO w0 _ B b r0 l1 l2 y0 (h1 _ rfl) HA0.out HB1.out HE.out HLl2.out (by have := HQ.out; omega)).mono ?_; rintro e w2 ⟨rfl, hb⟩; have HB2 := Lh hb; clear hb; clear zHR_0 zHR_1 zHR_2 zHR_3 zHR_5; obtain ⟨zHR_0, zHR_1, zHR_2, zHR_3, zHR_5⟩ := (HR.out.at hp HB2.out.below).cs5 0 1 2 3 5; go_wp2_with fail; refine (HB2.out.wstr (⟨#[59, 10]⟩ : ByteArray) l3 HLl3.out (by have := HQ.out; omega)).mono ?_; rintro e w3 ⟨rfl, hb⟩; have HB3 := Lh hb
    clear hb; clear zHR_0 zHR_1 zHR_2 zHR_3 zHR_5; obtain ⟨zHR_0, zHR_1, zHR_2, zHR_3, zHR_5⟩ := (HR.out.at hp HB3.out.below).cs5 0 1 2 3 5; go_wp2_with fail; go_loopw [30] (fun t wr => ∃ (j : Nat) (c : L8), j ≤ N1 ∧ t = .int .i64 j ∧ BS B w0 b c wr ∧ l4 = itr (fun _ t l => pr n t l) (xims.drop j) j c) (fun t _ => N1 - (intOf t).toNat)
    case atStart =>
     exact ⟨0, l3, Nat.zero_le _, rfl, HB3.out, HLl4.out⟩
    case round =>
     obtain ⟨j, c, hj, rfl, hb, hx⟩ := hrel; have HB100 := Lh hb; have HXC := Lh hx; clear hb hx
     by_cases hlt : j < N1
     ·
      obtain ⟨ab, ao, q, t, hA, hcl, hst, hat, hW⟩ := LS1.out.kid HB100.out.below hlt (fun _ t l => pr n t l) c; subst hA; have hc := hcl _ HB100.out.below; have HST := Lh hst; have HAT := Lh hat; clear hcl hst hat; obtain ⟨c1, hc1⟩ : ∃ x, x = pr n t c := ⟨_, rfl⟩
      have qc1 : c.length ≤ c1.length := by rw [hc1]; exact prLe _ _ _
      have hf9 : (fun _ t l => pr n t l) j t c = c1 := by rw [hc1]
      have hx8 : l4 = itr (fun _ t l => pr n t l) (xims.drop (j + 1)) (j + 1) c1 := by rw [← hf9]; exact HXC.out.trans HST.out
      have q9 : c1.length ≤ l4.length := by rw [hx8]; exact itrLe (fun _ _ _ => prLe _ _ _) _ _ _
      have HXD := Lh hx8; have HQC := Lh ((And.intro qc1 q9)); have HLc1 := Lh hc1; clear hf9 hx8 q9 qc1 hc1; go_wp2_with fail; refine (IHM w0 _ B b q c c1 t hW HAT.out HB100.out HE.out HLc1.out (by have := HQ.out; have := HQC.out; omega)).mono ?_; rintro e w101 ⟨rfl, hb⟩; have HB101 := Lh hb; clear hb; go_wp2_with fail; exact ⟨⟨j + 1, c1, by omega, by go_num, HB101.out, HXD.out⟩, by simp [intOf]; omega⟩
     ·
      obtain rfl : N1 = j := by omega
      have hx9 : l4 = c := HXC.out.trans (LS1.out.fin _ c); have HB4 := Lh (show BS B w0 b l4 _ from by rw [hx9]; exact HB100.out); clear hx9; obtain ⟨zHR_0, zHR_1, zHR_2, zHR_3, zHR_5⟩ := (HR.out.at hp HB4.out.below).cs5 0 1 2 3 5; go_wp2_with fail; go_loopw [43] (fun t wr => ∃ (j : Nat) (c : L8), j ≤ N2 ∧ t = .int .i64 j ∧ BS B w0 b c wr ∧ l5 = itr (fun _ t l => pr n t l ++ [32]) (xfds.drop j) j c) (fun t _ => N2 - (intOf t).toNat)
      case atStart =>
       exact ⟨0, l4, Nat.zero_le _, rfl, HB4.out, HLl5.out⟩
      case round =>
       obtain ⟨j, c, hj, rfl, hb, hx⟩ := hrel; have HB100 := Lh hb; have HXC := Lh hx; clear hb hx
       by_cases hlt : j < N2
       ·
        obtain ⟨ab, ao, q, t, hA, hcl, hst, hat, hW⟩ := LS2.out.kid HB100.out.below hlt (fun _ t l => pr n t l ++ [32]) c; subst hA; have hc := hcl _ HB100.out.below; have HST := Lh hst; have HAT := Lh hat; clear hcl hst hat; obtain ⟨c1, hc1⟩ : ∃ x, x = pr n t c := ⟨_, rfl⟩
        have qc1 : c.length ≤ c1.length := by rw [hc1]; exact prLe _ _ _
        obtain ⟨c2, hc2⟩ : ∃ x, x = c1 ++ [32] := ⟨_, rfl⟩
        have qc2 : c1.length + 1 ≤ c2.length := by rw [hc2, List.length_append]; exact Nat.le_refl _
        have hf9 : (fun _ t l => pr n t l ++ [32]) j t c = c2 := by rw [hc2, hc1]
        have hx8 : l5 = itr (fun _ t l => pr n t l ++ [32]) (xfds.drop (j + 1)) (j + 1) c2 := by rw [← hf9]; exact HXC.out.trans HST.out
        have q9 : c2.length ≤ l5.length := by rw [hx8]; exact itrLe (fun _ t l => by have := prLe n t l; rw [List.length_append]; omega) _ _ _
        have HXD := Lh hx8; have HQC := Lh ((And.intro qc1 (And.intro qc2 q9))); have HLc1 := Lh hc1; have HLc2 := Lh hc2; clear hf9 hx8 q9 qc1 qc2 hc1 hc2; go_wp2_with fail; refine (IHD w0 _ B b q c c1 t hW HAT.out HB100.out HE.out HLc1.out (by have := HQ.out; have := HQC.out; omega)).mono ?_; rintro e w101 ⟨rfl, hb⟩; have HB101 := Lh hb; clear hb; go_wp2_with fail; refine (HB101.out.wbyte 32 32 rfl c2 HLc2.out (by have := HQ.out; have := HQC.out; omega)).mono ?_; rintro e w102 ⟨rfl, hb⟩; have HB102 := Lh hb; clear hb; go_wp2_with fail; exact ⟨⟨j + 1, c2, by omega, by go_num, HB102.out, HXD.out⟩, by simp [intOf]; omega⟩
       ·
        obtain rfl : N2 = j := by omega
        have hx9 : l5 = c := HXC.out.trans (LS2.out.fin _ c); have HB5 := Lh (show BS B w0 b l5 _ from by rw [hx9]; exact HB100.out); clear hx9; obtain ⟨zHR_0, zHR_1, zHR_2, zHR_3, zHR_5⟩ := (HR.out.at hp HB5.out.below).cs5 0 1 2 3 5; go_wp2_with fail
        first | go_ret | go_end0 | ((try simp only [Exit.inBlock, Exit.then]); first | refine bodyPost_ret (results_none rfl _ _ _) rfl ?_ | refine bodyPost_end (results_none rfl _ _ _) rfl ?_)
        exact ⟨rfl, HB5.out⟩
   ·
    have HA3 := Lh a3; clear a3; have HR := Lh hr; clear hr f3; obtain ⟨l1, hl1⟩ : ∃ x, x = l ++ [109, 111, 100, 117, 108, 101, 32] := ⟨_, rfl⟩
    have ql1 : l.length + 7 ≤ l1.length := by rw [hl1, List.length_append]; exact Nat.le_refl _
    obtain ⟨l2, hl2⟩ : ∃ x, x = pr n y0 l1 := ⟨_, rfl⟩
    have ql2 : l1.length ≤ l2.length := by rw [hl2]; exact prLe _ _ _
    obtain ⟨l3, hl3⟩ : ∃ x, x = l2 ++ [59, 10] := ⟨_, rfl⟩
    have ql3 : l2.length + 2 ≤ l3.length := by rw [hl3, List.length_append]; exact Nat.le_refl _
    obtain ⟨l4, hl4⟩ : ∃ x, x = itr (fun _ t l => pr n t l) xims 0 l3 := ⟨_, rfl⟩
    have ql4 : l3.length ≤ l4.length := by rw [hl4]; exact itrLe (fun _ _ _ => prLe _ _ _) _ _ _
    obtain ⟨l5, hl5⟩ : ∃ x, x = itr (fun _ t l => pr n t l ++ [32]) xfds 0 l4 := ⟨_, rfl⟩
    have ql5 : l4.length ≤ l5.length := by rw [hl5]; exact itrLe (fun _ t l => by have := prLe n t l; rw [List.length_append]; omega) _ _ _
    obtain ⟨l6, hl6⟩ : ∃ x, x = pr n y3 l5 := ⟨_, rfl⟩
    have ql6 : l5.length ≤ l6.length := by rw [hl6]; exact prLe _ _ _
    have hX : l' = l6 := by rw [hl]; rw [hl6, hl5, hl4, hl3, hl2, hl1]; rfl
    rw [hX] at hlen; have HQ := Lh (And.intro hlen (And.intro ql1 (And.intro ql2 (And.intro ql3 (And.intro ql4 (And.intro ql5 ql6)))))); have HLl1 := Lh hl1; have HLl2 := Lh hl2; have HLl3 := Lh hl3; have HLl4 := Lh hl4; have HLl5 := Lh hl5; have HLl6 := Lh hl6; rw [hX]; clear hX hlen hl ql1 ql2 ql3 ql4 ql5 ql6 hl1 hl2 hl3 hl4 hl5 hl6; obtain ⟨zHR_0, zHR_1, zHR_2, zHR_3, zHR_5⟩ := (HR.out.at hp HB.out.below).cs5 0 1 2 3 5; go_enter Tryz.func16, Tryz.ntmps16; go_wp2_with fail; refine (HB.out.wstr (⟨#[109, 111, 100, 117, 108, 101, 32]⟩ : ByteArray) l1 HLl1.out (by have := HQ.out; omega)).mono ?_; rintro e w1 ⟨rfl, hb⟩; have HB1 := Lh hb; clear hb; clear zHR_0 zHR_1 zHR_2 zHR_3 zHR_5; obtain ⟨zHR_0, zHR_1, zHR_2, zHR_3, zHR_5⟩ := (HR.out.at hp HB1.out.below).cs5 0 1 2 3 5; go_wp2_with fail; refine (IHO w0 _ B b r0 l1 l2 y0 (h1 _ rfl) HA0.out HB1.out HE.out HLl2.out (by have := HQ.out; omega)).mono ?_; rintro e w2 ⟨rfl, hb⟩; have HB2 := Lh hb; clear hb; clear zHR_0 zHR_1 zHR_2 zHR_3 zHR_5; obtain ⟨zHR_0, zHR_1, zHR_2, zHR_3, zHR_5⟩ := (HR.out.at hp HB2.out.below).cs5 0 1 2 3 5; go_wp2_with fail; refine (HB2.out.wstr (⟨#[59, 10]⟩ : ByteArray) l3 HLl3.out (by have := HQ.out; omega)).mono ?_
    rintro e w3 ⟨rfl, hb⟩; have HB3 := Lh hb; clear hb; clear zHR_0 zHR_1 zHR_2 zHR_3 zHR_5; obtain ⟨zHR_0, zHR_1, zHR_2, zHR_3, zHR_5⟩ := (HR.out.at hp HB3.out.below).cs5 0 1 2 3 5; go_wp2_with fail; go_loopw [30] (fun t wr => ∃ (j : Nat) (c : L8), j ≤ N1 ∧ t = .int .i64 j ∧ BS B w0 b c wr ∧ l4 = itr (fun _ t l => pr n t l) (xims.drop j) j c) (fun t _ => N1 - (intOf t).toNat)
    case atStart =>
     exact ⟨0, l3, Nat.zero_le _, rfl, HB3.out, HLl4.out⟩
    case round =>
     obtain ⟨j, c, hj, rfl, hb, hx⟩ := hrel; have HB100 := Lh hb; have HXC := Lh hx; clear hb hx
     by_cases hlt : j < N1
     ·
      obtain ⟨ab, ao, q, t, hA, hcl, hst, hat, hW⟩ := LS1.out.kid HB100.out.below hlt (fun _ t l => pr n t l) c; subst hA; have hc := hcl _ HB100.out.below; have HST := Lh hst; have HAT := Lh hat; clear hcl hst hat; obtain ⟨c1, hc1⟩ : ∃ x, x = pr n t c := ⟨_, rfl⟩
      have qc1 : c.length ≤ c1.length := by rw [hc1]; exact prLe _ _ _
      have hf9 : (fun _ t l => pr n t l) j t c = c1 := by rw [hc1]
      have hx8 : l4 = itr (fun _ t l => pr n t l) (xims.drop (j + 1)) (j + 1) c1 := by rw [← hf9]; exact HXC.out.trans HST.out
      have q9 : c1.length ≤ l4.length := by rw [hx8]; exact itrLe (fun _ _ _ => prLe _ _ _) _ _ _
      have HXD := Lh hx8; have HQC := Lh ((And.intro qc1 q9)); have HLc1 := Lh hc1; clear hf9 hx8 q9 qc1 hc1; go_wp2_with fail; refine (IHM w0 _ B b q c c1 t hW HAT.out HB100.out HE.out HLc1.out (by have := HQ.out; have := HQC.out; omega)).mono ?_; rintro e w101 ⟨rfl, hb⟩; have HB101 := Lh hb; clear hb; go_wp2_with fail; exact ⟨⟨j + 1, c1, by omega, by go_num, HB101.out, HXD.out⟩, by simp [intOf]; omega⟩
     ·
      obtain rfl : N1 = j := by omega
      have hx9 : l4 = c := HXC.out.trans (LS1.out.fin _ c); have HB4 := Lh (show BS B w0 b l4 _ from by rw [hx9]; exact HB100.out); clear hx9; obtain ⟨zHR_0, zHR_1, zHR_2, zHR_3, zHR_5⟩ := (HR.out.at hp HB4.out.below).cs5 0 1 2 3 5; go_wp2_with fail; go_loopw [43] (fun t wr => ∃ (j : Nat) (c : L8), j ≤ N2 ∧ t = .int .i64 j ∧ BS B w0 b c wr ∧ l5 = itr (fun _ t l => pr n t l ++ [32]) (xfds.drop j) j c) (fun t _ => N2 - (intOf t).toNat)
      case atStart =>
       exact ⟨0, l4, Nat.zero_le _, rfl, HB4.out, HLl5.out⟩
      case round =>
       obtain ⟨j, c, hj, rfl, hb, hx⟩ := hrel; have HB100 := Lh hb; have HXC := Lh hx; clear hb hx
       by_cases hlt : j < N2
       ·
        obtain ⟨ab, ao, q, t, hA, hcl, hst, hat, hW⟩ := LS2.out.kid HB100.out.below hlt (fun _ t l => pr n t l ++ [32]) c; subst hA; have hc := hcl _ HB100.out.below; have HST := Lh hst; have HAT := Lh hat; clear hcl hst hat; obtain ⟨c1, hc1⟩ : ∃ x, x = pr n t c := ⟨_, rfl⟩
        have qc1 : c.length ≤ c1.length := by rw [hc1]; exact prLe _ _ _
        obtain ⟨c2, hc2⟩ : ∃ x, x = c1 ++ [32] := ⟨_, rfl⟩
        have qc2 : c1.length + 1 ≤ c2.length := by rw [hc2, List.length_append]; exact Nat.le_refl _
        have hf9 : (fun _ t l => pr n t l ++ [32]) j t c = c2 := by rw [hc2, hc1]
        have hx8 : l5 = itr (fun _ t l => pr n t l ++ [32]) (xfds.drop (j + 1)) (j + 1) c2 := by rw [← hf9]; exact HXC.out.trans HST.out
        have q9 : c2.length ≤ l5.length := by rw [hx8]; exact itrLe (fun _ t l => by have := prLe n t l; rw [List.length_append]; omega) _ _ _
        have HXD := Lh hx8; have HQC := Lh ((And.intro qc1 (And.intro qc2 q9))); have HLc1 := Lh hc1; have HLc2 := Lh hc2; clear hf9 hx8 q9 qc1 qc2 hc1 hc2; go_wp2_with fail; refine (IHD w0 _ B b q c c1 t hW HAT.out HB100.out HE.out HLc1.out (by have := HQ.out; have := HQC.out; omega)).mono ?_; rintro e w101 ⟨rfl, hb⟩; have HB101 := Lh hb; clear hb; go_wp2_with fail; refine (HB101.out.wbyte 32 32 rfl c2 HLc2.out (by have := HQ.out; have := HQC.out; omega)).mono ?_; rintro e w102 ⟨rfl, hb⟩; have HB102 := Lh hb; clear hb; go_wp2_with fail; exact ⟨⟨j + 1, c2, by omega, by go_num, HB102.out, HXD.out⟩, by simp [intOf]; omega⟩
       ·
        obtain rfl : N2 = j := by omega
        have hx9 : l5 = c := HXC.out.trans (LS2.out.fin _ c); have HB5 := Lh (show BS B w0 b l5 _ from by rw [hx9]; exact HB100.out); clear hx9; obtain ⟨zHR_0, zHR_1, zHR_2, zHR_3, zHR_5⟩ := (HR.out.at hp HB5.out.below).cs5 0 1 2 3 5; go_wp2_with fail; refine (IHT w0 _ B b r3 l5 l6 y3 (h4 _ rfl) HA3.out HB5.out HE.out HLl6.out (by have := HQ.out; omega)).mono ?_; rintro e w6 ⟨rfl, hb⟩; have HB6 := Lh hb; clear hb; clear zHR_0 zHR_1 zHR_2 zHR_3 zHR_5; obtain ⟨zHR_0, zHR_1, zHR_2, zHR_3, zHR_5⟩ := (HR.out.at hp HB6.out.below).cs5 0 1 2 3 5; go_wp2_with fail
        first | go_ret | go_end0 | ((try simp only [Exit.inBlock, Exit.then]); first | refine bodyPost_ret (results_none rfl _ _ _) rfl ?_ | refine bodyPost_end (results_none rfl _ _ _) rfl ?_)
        exact ⟨rfl, HB6.out⟩
 | q2 xl xr xps xop xa xb xc h1 h2 g3 h3 h4 h5 =>
  obtain ⟨hp, v0, v1, v2, v3, v4, v5, v6, hr, f0, f1, f2, f3, f4, f5, f6⟩ := inv_q ha; have e0 : v0 = .pointer none := f0; have e3 : v3 = .pointer none := f3; obtain ⟨r4, rfl, a4⟩ := f4; obtain ⟨r5, rfl, a5⟩ := f5; subst e0 e3; clear ha f0 f3; have A4 := Lh a4; have A5 := Lh a5; clear a4 a5
  have g1 : ([] : List T).length ≤ 3 := by decide
  have h1' : ∀ t ∈ ([] : List T), W .im t := fun t x => by cases x
  have h2' : ∀ t ∈ ([] : List T), W .fd t := fun t x => by cases x
  have g1' := g1; have g2' := g1; obtain ⟨X1, M1, N1, rfl, hnn1, ls1⟩ := FV.ls .im h1' f1; have LS1 := Lh ls1; have len1 := ls1.len
  have bnd1 : N1 ≤ 3 := by have := g1'; omega
  clear ls1 f1; obtain ⟨X2, M2, N2, rfl, hnn2, ls2⟩ := FV.ls .fd h2' f2; have LS2 := Lh ls2; have len2 := ls2.len
  have bnd2 : N2 ≤ 3 := by have := g2'; omega
  clear ls2 f2; obtain ⟨X6, M6, N6, rfl, hnn6, ls6⟩ := FV.ls .pt h3 f6; have LS6 := Lh ls6; have len6 := ls6.len
  have bnd6 : N6 ≤ 3 := by have := g3; omega
  clear ls6 f6; clear hnn1 hnn2 hnn6; have HR := Lh hr; clear hr
  by_cases hop : xop = 2
  ·
   subst hop; obtain ⟨l1, hl1⟩ : ∃ x, x = itr (fun _ t l => pr n t l) ([] : List T) 0 l := ⟨_, rfl⟩
   have ql1 : l.length ≤ l1.length := by rw [hl1]; exact itrLe (fun _ _ _ => prLe _ _ _) _ _ _
   obtain ⟨l2, hl2⟩ : ∃ x, x = itr (fun _ t l => pr n t l ++ [32]) ([] : List T) 0 l1 := ⟨_, rfl⟩
   have ql2 : l1.length ≤ l2.length := by rw [hl2]; exact itrLe (fun _ t l => by have := prLe n t l; rw [List.length_append]; omega) _ _ _
   obtain ⟨l3, hl3⟩ : ∃ x, x = pr n xl l2 := ⟨_, rfl⟩
   have ql3 : l2.length ≤ l3.length := by rw [hl3]; exact prLe _ _ _
   obtain ⟨l4, hl4⟩ : ∃ x, x = itr (fun j t l => pr n t (if j = 0 then l ++ [97, 115, 32] else l ++ [63, 47, 47, 32]) ++ [32]) xps 0 l3 := ⟨_, rfl⟩
   have ql4 : l3.length ≤ l4.length := by rw [hl4]; exact itrLe (fun j t l => by have h1 := prLe n t (l ++ [97, 115, 32]); have h2 := prLe n t (l ++ [63, 47, 47, 32]); rw [List.length_append] at h1 h2; split <;> (rw [List.length_append]; omega)) _ _ _
   obtain ⟨l5, hl5⟩ : ∃ x, x = l4 ++ opT 2 := ⟨_, rfl⟩
   have ql5 : l4.length ≤ l5.length := by rw [hl5, List.length_append]; omega
   obtain ⟨l6, hl6⟩ : ∃ x, x = l5 ++ [32] := ⟨_, rfl⟩
   have ql6 : l5.length + 1 ≤ l6.length := by rw [hl6, List.length_append]; exact Nat.le_refl _
   obtain ⟨l7, hl7⟩ : ∃ x, x = pr n xr l6 := ⟨_, rfl⟩
   have ql7 : l6.length ≤ l7.length := by rw [hl7]; exact prLe _ _ _
   have hX : l' = l7 := by rw [hl]; rw [hl7, hl6, hl5, hl4, hl3, hl2, hl1]; rfl
   rw [hX] at hlen; have HQ := Lh (And.intro hlen (And.intro ql1 (And.intro ql2 (And.intro ql3 (And.intro ql4 (And.intro ql5 (And.intro ql6 ql7))))))); have HLl1 := Lh hl1; have HLl2 := Lh hl2; have HLl3 := Lh hl3; have HLl4 := Lh hl4; have HLl5 := Lh hl5; have HLl6 := Lh hl6; have HLl7 := Lh hl7; rw [hX]; clear hX hlen hl ql1 ql2 ql3 ql4 ql5 ql6 ql7 hl1 hl2 hl3 hl4 hl5 hl6 hl7; obtain ⟨zHR_0, zHR_1, zHR_2, zHR_3, zHR_4, zHR_5, zHR_6, zHR_7⟩ := (HR.out.at hp HB.out.below).cs8 0 1 2 3 4 5 6 7; go_enter Tryz.func16, Tryz.ntmps16; go_wp2_with fail; go_loopw [30] (fun t wr => ∃ (j : Nat) (c : L8), j ≤ N1 ∧ t = .int .i64 j ∧ BS B w0 b c wr ∧ l1 = itr (fun _ t l => pr n t l) (([] : List T).drop j) j c) (fun t _ => N1 - (intOf t).toNat)
   case atStart =>
    exact ⟨0, l, Nat.zero_le _, rfl, HB.out, HLl1.out⟩
   case round =>
    obtain ⟨j, c, hj, rfl, hb, hx⟩ := hrel; have HB100 := Lh hb; have HXC := Lh hx; clear hb hx
    by_cases hlt : j < N1
    ·
     obtain ⟨ab, ao, q, t, hA, hcl, hst, hat, hW⟩ := LS1.out.kid HB100.out.below hlt (fun _ t l => pr n t l) c; subst hA; have hc := hcl _ HB100.out.below; have HST := Lh hst; have HAT := Lh hat; clear hcl hst hat; obtain ⟨c1, hc1⟩ : ∃ x, x = pr n t c := ⟨_, rfl⟩
     have qc1 : c.length ≤ c1.length := by rw [hc1]; exact prLe _ _ _
     have hf9 : (fun _ t l => pr n t l) j t c = c1 := by rw [hc1]
     have hx8 : l1 = itr (fun _ t l => pr n t l) (([] : List T).drop (j + 1)) (j + 1) c1 := by rw [← hf9]; exact HXC.out.trans HST.out
     have q9 : c1.length ≤ l1.length := by rw [hx8]; exact itrLe (fun _ _ _ => prLe _ _ _) _ _ _
     have HXD := Lh hx8; have HQC := Lh ((And.intro qc1 q9)); have HLc1 := Lh hc1; clear hf9 hx8 q9 qc1 hc1; go_wp2_with fail; refine (IHM w0 _ B b q c c1 t hW HAT.out HB100.out HE.out HLc1.out (by have := HQ.out; have := HQC.out; omega)).mono ?_; rintro e w101 ⟨rfl, hb⟩; have HB101 := Lh hb; clear hb; go_wp2_with fail; exact ⟨⟨j + 1, c1, by omega, by go_num, HB101.out, HXD.out⟩, by simp [intOf]; omega⟩
    ·
     obtain rfl : N1 = j := by omega
     have hx9 : l1 = c := HXC.out.trans (LS1.out.fin _ c); have HB1 := Lh (show BS B w0 b l1 _ from by rw [hx9]; exact HB100.out); clear hx9; obtain ⟨zHR_0, zHR_1, zHR_2, zHR_3, zHR_4, zHR_5, zHR_6, zHR_7⟩ := (HR.out.at hp HB1.out.below).cs8 0 1 2 3 4 5 6 7; go_wp2_with fail; go_loopw [43] (fun t wr => ∃ (j : Nat) (c : L8), j ≤ N2 ∧ t = .int .i64 j ∧ BS B w0 b c wr ∧ l2 = itr (fun _ t l => pr n t l ++ [32]) (([] : List T).drop j) j c) (fun t _ => N2 - (intOf t).toNat)
     case atStart =>
      exact ⟨0, l1, Nat.zero_le _, rfl, HB1.out, HLl2.out⟩
     case round =>
      obtain ⟨j, c, hj, rfl, hb, hx⟩ := hrel; have HB100 := Lh hb; have HXC := Lh hx; clear hb hx
      by_cases hlt : j < N2
      ·
       obtain ⟨ab, ao, q, t, hA, hcl, hst, hat, hW⟩ := LS2.out.kid HB100.out.below hlt (fun _ t l => pr n t l ++ [32]) c; subst hA; have hc := hcl _ HB100.out.below; have HST := Lh hst; have HAT := Lh hat; clear hcl hst hat; obtain ⟨c1, hc1⟩ : ∃ x, x = pr n t c := ⟨_, rfl⟩
       have qc1 : c.length ≤ c1.length := by rw [hc1]; exact prLe _ _ _
       obtain ⟨c2, hc2⟩ : ∃ x, x = c1 ++ [32] := ⟨_, rfl⟩
       have qc2 : c1.length + 1 ≤ c2.length := by rw [hc2, List.length_append]; exact Nat.le_refl _
       have hf9 : (fun _ t l => pr n t l ++ [32]) j t c = c2 := by rw [hc2, hc1]
       have hx8 : l2 = itr (fun _ t l => pr n t l ++ [32]) (([] : List T).drop (j + 1)) (j + 1) c2 := by rw [← hf9]; exact HXC.out.trans HST.out
       have q9 : c2.length ≤ l2.length := by rw [hx8]; exact itrLe (fun _ t l => by have := prLe n t l; rw [List.length_append]; omega) _ _ _
       have HXD := Lh hx8; have HQC := Lh ((And.intro qc1 (And.intro qc2 q9))); have HLc1 := Lh hc1; have HLc2 := Lh hc2; clear hf9 hx8 q9 qc1 qc2 hc1 hc2; go_wp2_with fail; refine (IHD w0 _ B b q c c1 t hW HAT.out HB100.out HE.out HLc1.out (by have := HQ.out; have := HQC.out; omega)).mono ?_; rintro e w101 ⟨rfl, hb⟩; have HB101 := Lh hb; clear hb; go_wp2_with fail; refine (HB101.out.wbyte 32 32 rfl c2 HLc2.out (by have := HQ.out; have := HQC.out; omega)).mono ?_; rintro e w102 ⟨rfl, hb⟩; have HB102 := Lh hb; clear hb; go_wp2_with fail; exact ⟨⟨j + 1, c2, by omega, by go_num, HB102.out, HXD.out⟩, by simp [intOf]; omega⟩
      ·
       obtain rfl : N2 = j := by omega
       have hx9 : l2 = c := HXC.out.trans (LS2.out.fin _ c); have HB2 := Lh (show BS B w0 b l2 _ from by rw [hx9]; exact HB100.out); clear hx9; obtain ⟨zHR_0, zHR_1, zHR_2, zHR_3, zHR_4, zHR_5, zHR_6, zHR_7⟩ := (HR.out.at hp HB2.out.below).cs8 0 1 2 3 4 5 6 7; go_wp2_with fail; refine (IHQ w0 _ B b r4 l2 l3 xl h1 A4.out HB2.out HE.out HLl3.out (by have := HQ.out; omega)).mono ?_; rintro e w3 ⟨rfl, hb⟩; have HB3 := Lh hb; clear hb; clear zHR_0 zHR_1 zHR_2 zHR_3 zHR_4 zHR_5 zHR_6 zHR_7; obtain ⟨zHR_0, zHR_1, zHR_2, zHR_3, zHR_4, zHR_5, zHR_6, zHR_7⟩ := (HR.out.at hp HB3.out.below).cs8 0 1 2 3 4 5 6 7; go_wp2_with fail; go_loopw [87] (fun t wr => ∃ (j : Nat) (c : L8), j ≤ N6 ∧ t = .int .i64 j ∧ BS B w0 b c wr ∧ l4 = itr (fun j t l => pr n t (if j = 0 then l ++ [97, 115, 32] else l ++ [63, 47, 47, 32]) ++ [32]) (xps.drop j) j c) (fun t _ => N6 - (intOf t).toNat)
       case atStart =>
        exact ⟨0, l3, Nat.zero_le _, rfl, HB3.out, HLl4.out⟩
       case round =>
        obtain ⟨j, c, hj, rfl, hb, hx⟩ := hrel; have HB100 := Lh hb; have HXC := Lh hx; clear hb hx
        by_cases hlt : j < N6
        ·
         obtain ⟨ab, ao, q, t, hA, hcl, hst, hat, hW⟩ := LS6.out.kid HB100.out.below hlt (fun j t l => pr n t (if j = 0 then l ++ [97, 115, 32] else l ++ [63, 47, 47, 32]) ++ [32]) c; subst hA; have hc := hcl _ HB100.out.below; have HST := Lh hst; have HAT := Lh hat; clear hcl hst hat
         by_cases hj0 : j = 0
         ·
          have hjb : ((j : Int) == 0) = true := by simp [hj0]
          have HJ := Lh hj0; clear hj0; obtain ⟨c1, hc1⟩ : ∃ x, x = c ++ [97, 115, 32] := ⟨_, rfl⟩
          have qc1 : c.length + 3 ≤ c1.length := by rw [hc1, List.length_append]; exact Nat.le_refl _
          obtain ⟨c2, hc2⟩ : ∃ x, x = pr n t c1 := ⟨_, rfl⟩
          have qc2 : c1.length ≤ c2.length := by rw [hc2]; exact prLe _ _ _
          obtain ⟨c3, hc3⟩ : ∃ x, x = c2 ++ [32] := ⟨_, rfl⟩
          have qc3 : c2.length + 1 ≤ c3.length := by rw [hc3, List.length_append]; exact Nat.le_refl _
          have hf9 : (fun j t l => pr n t (if j = 0 then l ++ [97, 115, 32] else l ++ [63, 47, 47, 32]) ++ [32]) j t c = c3 := by rw [hc3, hc2, hc1]; show pr n t (if j = 0 then c ++ [97, 115, 32] else c ++ [63, 47, 47, 32]) ++ [32] = _; rw [if_pos HJ.out]
          have hx8 : l4 = itr (fun j t l => pr n t (if j = 0 then l ++ [97, 115, 32] else l ++ [63, 47, 47, 32]) ++ [32]) (xps.drop (j + 1)) (j + 1) c3 := by rw [← hf9]; exact HXC.out.trans HST.out
          have q9 : c3.length ≤ l4.length := by rw [hx8]; exact itrLe (fun j t l => by have h1 := prLe n t (l ++ [97, 115, 32]); have h2 := prLe n t (l ++ [63, 47, 47, 32]); rw [List.length_append] at h1 h2; split <;> (rw [List.length_append]; omega)) _ _ _
          have HXD := Lh hx8; have HQC := Lh ((And.intro qc1 (And.intro qc2 (And.intro qc3 q9)))); have HLc1 := Lh hc1; have HLc2 := Lh hc2; have HLc3 := Lh hc3; clear hf9 hx8 q9 qc1 qc2 qc3 hc1 hc2 hc3; go_wp2_with fail; refine (HB100.out.wstr (⟨#[97, 115, 32]⟩ : ByteArray) c1 HLc1.out (by have := HQ.out; have := HQC.out; omega)).mono ?_; rintro e w101 ⟨rfl, hb⟩; have HB101 := Lh hb; clear hb; go_wp2_with fail; refine (IHP w0 _ B b q c1 c2 t hW HAT.out HB101.out HE.out HLc2.out (by have := HQ.out; have := HQC.out; omega)).mono ?_; rintro e w102 ⟨rfl, hb⟩; have HB102 := Lh hb; clear hb; go_wp2_with fail; refine (HB102.out.wbyte 32 32 rfl c3 HLc3.out (by have := HQ.out; have := HQC.out; omega)).mono ?_; rintro e w103 ⟨rfl, hb⟩; have HB103 := Lh hb; clear hb; go_wp2_with fail; exact ⟨⟨j + 1, c3, by omega, by go_num, HB103.out, HXD.out⟩, by simp [intOf]; omega⟩
         ·
          have hjb : ((j : Int) == 0) = false := by simp; omega
          have HJ := Lh hj0; clear hj0; obtain ⟨c1, hc1⟩ : ∃ x, x = c ++ [63, 47, 47, 32] := ⟨_, rfl⟩
          have qc1 : c.length + 4 ≤ c1.length := by rw [hc1, List.length_append]; exact Nat.le_refl _
          obtain ⟨c2, hc2⟩ : ∃ x, x = pr n t c1 := ⟨_, rfl⟩
          have qc2 : c1.length ≤ c2.length := by rw [hc2]; exact prLe _ _ _
          obtain ⟨c3, hc3⟩ : ∃ x, x = c2 ++ [32] := ⟨_, rfl⟩
          have qc3 : c2.length + 1 ≤ c3.length := by rw [hc3, List.length_append]; exact Nat.le_refl _
          have hf9 : (fun j t l => pr n t (if j = 0 then l ++ [97, 115, 32] else l ++ [63, 47, 47, 32]) ++ [32]) j t c = c3 := by rw [hc3, hc2, hc1]; show pr n t (if j = 0 then c ++ [97, 115, 32] else c ++ [63, 47, 47, 32]) ++ [32] = _; rw [if_neg HJ.out]
          have hx8 : l4 = itr (fun j t l => pr n t (if j = 0 then l ++ [97, 115, 32] else l ++ [63, 47, 47, 32]) ++ [32]) (xps.drop (j + 1)) (j + 1) c3 := by rw [← hf9]; exact HXC.out.trans HST.out
          have q9 : c3.length ≤ l4.length := by rw [hx8]; exact itrLe (fun j t l => by have h1 := prLe n t (l ++ [97, 115, 32]); have h2 := prLe n t (l ++ [63, 47, 47, 32]); rw [List.length_append] at h1 h2; split <;> (rw [List.length_append]; omega)) _ _ _
          have HXD := Lh hx8; have HQC := Lh ((And.intro qc1 (And.intro qc2 (And.intro qc3 q9)))); have HLc1 := Lh hc1; have HLc2 := Lh hc2; have HLc3 := Lh hc3; clear hf9 hx8 q9 qc1 qc2 qc3 hc1 hc2 hc3; go_wp2_with fail; refine (HB100.out.wstr (⟨#[63, 47, 47, 32]⟩ : ByteArray) c1 HLc1.out (by have := HQ.out; have := HQC.out; omega)).mono ?_; rintro e w101 ⟨rfl, hb⟩; have HB101 := Lh hb; clear hb; go_wp2_with fail; refine (IHP w0 _ B b q c1 c2 t hW HAT.out HB101.out HE.out HLc2.out (by have := HQ.out; have := HQC.out; omega)).mono ?_; rintro e w102 ⟨rfl, hb⟩; have HB102 := Lh hb; clear hb; go_wp2_with fail; refine (HB102.out.wbyte 32 32 rfl c3 HLc3.out (by have := HQ.out; have := HQC.out; omega)).mono ?_; rintro e w103 ⟨rfl, hb⟩; have HB103 := Lh hb; clear hb; go_wp2_with fail; exact ⟨⟨j + 1, c3, by omega, by go_num, HB103.out, HXD.out⟩, by simp [intOf]; omega⟩
        ·
         obtain rfl : N6 = j := by omega
         have hx9 : l4 = c := HXC.out.trans (LS6.out.fin _ c); have HB4 := Lh (show BS B w0 b l4 _ from by rw [hx9]; exact HB100.out); clear hx9; obtain ⟨zHR_0, zHR_1, zHR_2, zHR_3, zHR_4, zHR_5, zHR_6, zHR_7⟩ := (HR.out.at hp HB4.out.below).cs8 0 1 2 3 4 5 6 7; go_wp2_with fail; refine (opC 2 _ (by decide) (by decide)).mono ?_; rintro e w9 ⟨rfl, rfl⟩; go_wp2_with fail; refine (HB4.out.wstr ⟨(opT 2).toArray⟩ l5 HLl5.out (by have := HQ.out; omega)).mono ?_; rintro e w5 ⟨rfl, hb⟩; have HB5 := Lh hb; clear hb; clear zHR_0 zHR_1 zHR_2 zHR_3 zHR_4 zHR_5 zHR_6 zHR_7; obtain ⟨zHR_0, zHR_1, zHR_2, zHR_3, zHR_4, zHR_5, zHR_6, zHR_7⟩ := (HR.out.at hp HB5.out.below).cs8 0 1 2 3 4 5 6 7; go_wp2_with fail; refine (HB5.out.wbyte 32 32 rfl l6 HLl6.out (by have := HQ.out; omega)).mono ?_; rintro e w6 ⟨rfl, hb⟩; have HB6 := Lh hb; clear hb; clear zHR_0 zHR_1 zHR_2 zHR_3 zHR_4 zHR_5 zHR_6 zHR_7; obtain ⟨zHR_0, zHR_1, zHR_2, zHR_3, zHR_4, zHR_5, zHR_6, zHR_7⟩ := (HR.out.at hp HB6.out.below).cs8 0 1 2 3 4 5 6 7; go_wp2_with fail; refine (IHQ w0 _ B b r5 l6 l7 xr h2 A5.out HB6.out HE.out HLl7.out (by have := HQ.out; omega)).mono ?_
         rintro e w7 ⟨rfl, hb⟩; have HB7 := Lh hb; clear hb; clear zHR_0 zHR_1 zHR_2 zHR_3 zHR_4 zHR_5 zHR_6 zHR_7; obtain ⟨zHR_0, zHR_1, zHR_2, zHR_3, zHR_4, zHR_5, zHR_6, zHR_7⟩ := (HR.out.at hp HB7.out.below).cs8 0 1 2 3 4 5 6 7; go_wp2_with fail
         first | go_ret | go_end0 | ((try simp only [Exit.inBlock, Exit.then]); first | refine bodyPost_ret (results_none rfl _ _ _) rfl ?_ | refine bodyPost_end (results_none rfl _ _ _) rfl ?_)
         exact ⟨rfl, HB7.out⟩
  ·
   have hob : (xop == 2) = false := by simp [hop]
   have HOP := Lh hop; obtain ⟨l1, hl1⟩ : ∃ x, x = itr (fun _ t l => pr n t l) ([] : List T) 0 l := ⟨_, rfl⟩
   have ql1 : l.length ≤ l1.length := by rw [hl1]; exact itrLe (fun _ _ _ => prLe _ _ _) _ _ _
   obtain ⟨l2, hl2⟩ : ∃ x, x = itr (fun _ t l => pr n t l ++ [32]) ([] : List T) 0 l1 := ⟨_, rfl⟩
   have ql2 : l1.length ≤ l2.length := by rw [hl2]; exact itrLe (fun _ t l => by have := prLe n t l; rw [List.length_append]; omega) _ _ _
   obtain ⟨l3, hl3⟩ : ∃ x, x = pr n xl l2 := ⟨_, rfl⟩
   have ql3 : l2.length ≤ l3.length := by rw [hl3]; exact prLe _ _ _
   obtain ⟨l4, hl4⟩ : ∃ x, x = l3 ++ [32] := ⟨_, rfl⟩
   have ql4 : l3.length + 1 ≤ l4.length := by rw [hl4, List.length_append]; exact Nat.le_refl _
   obtain ⟨l5, hl5⟩ : ∃ x, x = itr (fun j t l => pr n t (if j = 0 then l ++ [97, 115, 32] else l ++ [63, 47, 47, 32]) ++ [32]) xps 0 l4 := ⟨_, rfl⟩
   have ql5 : l4.length ≤ l5.length := by rw [hl5]; exact itrLe (fun j t l => by have h1 := prLe n t (l ++ [97, 115, 32]); have h2 := prLe n t (l ++ [63, 47, 47, 32]); rw [List.length_append] at h1 h2; split <;> (rw [List.length_append]; omega)) _ _ _
   obtain ⟨l6, hl6⟩ : ∃ x, x = l5 ++ opT xop := ⟨_, rfl⟩
   have ql6 : l5.length ≤ l6.length := by rw [hl6, List.length_append]; omega
   obtain ⟨l7, hl7⟩ : ∃ x, x = l6 ++ [32] := ⟨_, rfl⟩
   have ql7 : l6.length + 1 ≤ l7.length := by rw [hl7, List.length_append]; exact Nat.le_refl _
   obtain ⟨l8, hl8⟩ : ∃ x, x = pr n xr l7 := ⟨_, rfl⟩
   have ql8 : l7.length ≤ l8.length := by rw [hl8]; exact prLe _ _ _
   have hX : l' = l8 := by rw [hl]; rw [hl8, hl7, hl6, hl5, hl4, hl3, hl2, hl1, pr_q, prQ2 HOP.out]; rfl
   rw [hX] at hlen; have HQ := Lh (And.intro hlen (And.intro ql1 (And.intro ql2 (And.intro ql3 (And.intro ql4 (And.intro ql5 (And.intro ql6 (And.intro ql7 ql8)))))))); have HLl1 := Lh hl1; have HLl2 := Lh hl2; have HLl3 := Lh hl3; have HLl4 := Lh hl4; have HLl5 := Lh hl5; have HLl6 := Lh hl6; have HLl7 := Lh hl7; have HLl8 := Lh hl8; rw [hX]; clear hX hlen hl ql1 ql2 ql3 ql4 ql5 ql6 ql7 ql8 hl1 hl2 hl3 hl4 hl5 hl6 hl7 hl8; obtain ⟨zHR_0, zHR_1, zHR_2, zHR_3, zHR_4, zHR_5, zHR_6, zHR_7⟩ := (HR.out.at hp HB.out.below).cs8 0 1 2 3 4 5 6 7; go_enter Tryz.func16, Tryz.ntmps16; go_wp2_with fail; go_loopw [30] (fun t wr => ∃ (j : Nat) (c : L8), j ≤ N1 ∧ t = .int .i64 j ∧ BS B w0 b c wr ∧ l1 = itr (fun _ t l => pr n t l) (([] : List T).drop j) j c) (fun t _ => N1 - (intOf t).toNat)
   case atStart =>
    exact ⟨0, l, Nat.zero_le _, rfl, HB.out, HLl1.out⟩
   case round =>
    obtain ⟨j, c, hj, rfl, hb, hx⟩ := hrel; have HB100 := Lh hb; have HXC := Lh hx; clear hb hx
    by_cases hlt : j < N1
    ·
     obtain ⟨ab, ao, q, t, hA, hcl, hst, hat, hW⟩ := LS1.out.kid HB100.out.below hlt (fun _ t l => pr n t l) c; subst hA; have hc := hcl _ HB100.out.below; have HST := Lh hst; have HAT := Lh hat; clear hcl hst hat; obtain ⟨c1, hc1⟩ : ∃ x, x = pr n t c := ⟨_, rfl⟩
     have qc1 : c.length ≤ c1.length := by rw [hc1]; exact prLe _ _ _
     have hf9 : (fun _ t l => pr n t l) j t c = c1 := by rw [hc1]
     have hx8 : l1 = itr (fun _ t l => pr n t l) (([] : List T).drop (j + 1)) (j + 1) c1 := by rw [← hf9]; exact HXC.out.trans HST.out
     have q9 : c1.length ≤ l1.length := by rw [hx8]; exact itrLe (fun _ _ _ => prLe _ _ _) _ _ _
     have HXD := Lh hx8; have HQC := Lh ((And.intro qc1 q9)); have HLc1 := Lh hc1; clear hf9 hx8 q9 qc1 hc1; go_wp2_with fail; refine (IHM w0 _ B b q c c1 t hW HAT.out HB100.out HE.out HLc1.out (by have := HQ.out; have := HQC.out; omega)).mono ?_; rintro e w101 ⟨rfl, hb⟩; have HB101 := Lh hb; clear hb; go_wp2_with fail; exact ⟨⟨j + 1, c1, by omega, by go_num, HB101.out, HXD.out⟩, by simp [intOf]; omega⟩
    ·
     obtain rfl : N1 = j := by omega
     have hx9 : l1 = c := HXC.out.trans (LS1.out.fin _ c); have HB1 := Lh (show BS B w0 b l1 _ from by rw [hx9]; exact HB100.out); clear hx9; obtain ⟨zHR_0, zHR_1, zHR_2, zHR_3, zHR_4, zHR_5, zHR_6, zHR_7⟩ := (HR.out.at hp HB1.out.below).cs8 0 1 2 3 4 5 6 7; go_wp2_with fail; go_loopw [43] (fun t wr => ∃ (j : Nat) (c : L8), j ≤ N2 ∧ t = .int .i64 j ∧ BS B w0 b c wr ∧ l2 = itr (fun _ t l => pr n t l ++ [32]) (([] : List T).drop j) j c) (fun t _ => N2 - (intOf t).toNat)
     case atStart =>
      exact ⟨0, l1, Nat.zero_le _, rfl, HB1.out, HLl2.out⟩
     case round =>
      obtain ⟨j, c, hj, rfl, hb, hx⟩ := hrel; have HB100 := Lh hb; have HXC := Lh hx; clear hb hx
      by_cases hlt : j < N2
      ·
       obtain ⟨ab, ao, q, t, hA, hcl, hst, hat, hW⟩ := LS2.out.kid HB100.out.below hlt (fun _ t l => pr n t l ++ [32]) c; subst hA; have hc := hcl _ HB100.out.below; have HST := Lh hst; have HAT := Lh hat; clear hcl hst hat; obtain ⟨c1, hc1⟩ : ∃ x, x = pr n t c := ⟨_, rfl⟩
       have qc1 : c.length ≤ c1.length := by rw [hc1]; exact prLe _ _ _
       obtain ⟨c2, hc2⟩ : ∃ x, x = c1 ++ [32] := ⟨_, rfl⟩
       have qc2 : c1.length + 1 ≤ c2.length := by rw [hc2, List.length_append]; exact Nat.le_refl _
       have hf9 : (fun _ t l => pr n t l ++ [32]) j t c = c2 := by rw [hc2, hc1]
       have hx8 : l2 = itr (fun _ t l => pr n t l ++ [32]) (([] : List T).drop (j + 1)) (j + 1) c2 := by rw [← hf9]; exact HXC.out.trans HST.out
       have q9 : c2.length ≤ l2.length := by rw [hx8]; exact itrLe (fun _ t l => by have := prLe n t l; rw [List.length_append]; omega) _ _ _
       have HXD := Lh hx8; have HQC := Lh ((And.intro qc1 (And.intro qc2 q9))); have HLc1 := Lh hc1; have HLc2 := Lh hc2; clear hf9 hx8 q9 qc1 qc2 hc1 hc2; go_wp2_with fail; refine (IHD w0 _ B b q c c1 t hW HAT.out HB100.out HE.out HLc1.out (by have := HQ.out; have := HQC.out; omega)).mono ?_; rintro e w101 ⟨rfl, hb⟩; have HB101 := Lh hb; clear hb; go_wp2_with fail; refine (HB101.out.wbyte 32 32 rfl c2 HLc2.out (by have := HQ.out; have := HQC.out; omega)).mono ?_; rintro e w102 ⟨rfl, hb⟩; have HB102 := Lh hb; clear hb; go_wp2_with fail; exact ⟨⟨j + 1, c2, by omega, by go_num, HB102.out, HXD.out⟩, by simp [intOf]; omega⟩
      ·
       obtain rfl : N2 = j := by omega
       have hx9 : l2 = c := HXC.out.trans (LS2.out.fin _ c); have HB2 := Lh (show BS B w0 b l2 _ from by rw [hx9]; exact HB100.out); clear hx9; obtain ⟨zHR_0, zHR_1, zHR_2, zHR_3, zHR_4, zHR_5, zHR_6, zHR_7⟩ := (HR.out.at hp HB2.out.below).cs8 0 1 2 3 4 5 6 7; go_wp2_with fail; refine (IHQ w0 _ B b r4 l2 l3 xl h1 A4.out HB2.out HE.out HLl3.out (by have := HQ.out; omega)).mono ?_; rintro e w3 ⟨rfl, hb⟩; have HB3 := Lh hb; clear hb; clear zHR_0 zHR_1 zHR_2 zHR_3 zHR_4 zHR_5 zHR_6 zHR_7; obtain ⟨zHR_0, zHR_1, zHR_2, zHR_3, zHR_4, zHR_5, zHR_6, zHR_7⟩ := (HR.out.at hp HB3.out.below).cs8 0 1 2 3 4 5 6 7; go_wp2_with fail; refine (HB3.out.wbyte 32 32 rfl l4 HLl4.out (by have := HQ.out; omega)).mono ?_; rintro e w4 ⟨rfl, hb⟩; have HB4 := Lh hb; clear hb; clear zHR_0 zHR_1 zHR_2 zHR_3 zHR_4 zHR_5 zHR_6 zHR_7; obtain ⟨zHR_0, zHR_1, zHR_2, zHR_3, zHR_4, zHR_5, zHR_6, zHR_7⟩ := (HR.out.at hp HB4.out.below).cs8 0 1 2 3 4 5 6 7; go_wp2_with fail; go_loopw [87] (fun t wr => ∃ (j : Nat) (c : L8), j ≤ N6 ∧ t = .int .i64 j ∧ BS B w0 b c wr ∧ l5 = itr (fun j t l => pr n t (if j = 0 then l ++ [97, 115, 32] else l ++ [63, 47, 47, 32]) ++ [32]) (xps.drop j) j c) (fun t _ => N6 - (intOf t).toNat)
       case atStart =>
        exact ⟨0, l4, Nat.zero_le _, rfl, HB4.out, HLl5.out⟩
       case round =>
        obtain ⟨j, c, hj, rfl, hb, hx⟩ := hrel; have HB100 := Lh hb; have HXC := Lh hx; clear hb hx
        by_cases hlt : j < N6
        ·
         obtain ⟨ab, ao, q, t, hA, hcl, hst, hat, hW⟩ := LS6.out.kid HB100.out.below hlt (fun j t l => pr n t (if j = 0 then l ++ [97, 115, 32] else l ++ [63, 47, 47, 32]) ++ [32]) c; subst hA; have hc := hcl _ HB100.out.below; have HST := Lh hst; have HAT := Lh hat; clear hcl hst hat
         by_cases hj0 : j = 0
         ·
          have hjb : ((j : Int) == 0) = true := by simp [hj0]
          have HJ := Lh hj0; clear hj0; obtain ⟨c1, hc1⟩ : ∃ x, x = c ++ [97, 115, 32] := ⟨_, rfl⟩
          have qc1 : c.length + 3 ≤ c1.length := by rw [hc1, List.length_append]; exact Nat.le_refl _
          obtain ⟨c2, hc2⟩ : ∃ x, x = pr n t c1 := ⟨_, rfl⟩
          have qc2 : c1.length ≤ c2.length := by rw [hc2]; exact prLe _ _ _
          obtain ⟨c3, hc3⟩ : ∃ x, x = c2 ++ [32] := ⟨_, rfl⟩
          have qc3 : c2.length + 1 ≤ c3.length := by rw [hc3, List.length_append]; exact Nat.le_refl _
          have hf9 : (fun j t l => pr n t (if j = 0 then l ++ [97, 115, 32] else l ++ [63, 47, 47, 32]) ++ [32]) j t c = c3 := by rw [hc3, hc2, hc1]; show pr n t (if j = 0 then c ++ [97, 115, 32] else c ++ [63, 47, 47, 32]) ++ [32] = _; rw [if_pos HJ.out]
          have hx8 : l5 = itr (fun j t l => pr n t (if j = 0 then l ++ [97, 115, 32] else l ++ [63, 47, 47, 32]) ++ [32]) (xps.drop (j + 1)) (j + 1) c3 := by rw [← hf9]; exact HXC.out.trans HST.out
          have q9 : c3.length ≤ l5.length := by rw [hx8]; exact itrLe (fun j t l => by have h1 := prLe n t (l ++ [97, 115, 32]); have h2 := prLe n t (l ++ [63, 47, 47, 32]); rw [List.length_append] at h1 h2; split <;> (rw [List.length_append]; omega)) _ _ _
          have HXD := Lh hx8; have HQC := Lh ((And.intro qc1 (And.intro qc2 (And.intro qc3 q9)))); have HLc1 := Lh hc1; have HLc2 := Lh hc2; have HLc3 := Lh hc3; clear hf9 hx8 q9 qc1 qc2 qc3 hc1 hc2 hc3; go_wp2_with fail; refine (HB100.out.wstr (⟨#[97, 115, 32]⟩ : ByteArray) c1 HLc1.out (by have := HQ.out; have := HQC.out; omega)).mono ?_; rintro e w101 ⟨rfl, hb⟩; have HB101 := Lh hb; clear hb; go_wp2_with fail; refine (IHP w0 _ B b q c1 c2 t hW HAT.out HB101.out HE.out HLc2.out (by have := HQ.out; have := HQC.out; omega)).mono ?_; rintro e w102 ⟨rfl, hb⟩; have HB102 := Lh hb; clear hb; go_wp2_with fail; refine (HB102.out.wbyte 32 32 rfl c3 HLc3.out (by have := HQ.out; have := HQC.out; omega)).mono ?_; rintro e w103 ⟨rfl, hb⟩; have HB103 := Lh hb; clear hb; go_wp2_with fail; exact ⟨⟨j + 1, c3, by omega, by go_num, HB103.out, HXD.out⟩, by simp [intOf]; omega⟩
         ·
          have hjb : ((j : Int) == 0) = false := by simp; omega
          have HJ := Lh hj0; clear hj0; obtain ⟨c1, hc1⟩ : ∃ x, x = c ++ [63, 47, 47, 32] := ⟨_, rfl⟩
          have qc1 : c.length + 4 ≤ c1.length := by rw [hc1, List.length_append]; exact Nat.le_refl _
          obtain ⟨c2, hc2⟩ : ∃ x, x = pr n t c1 := ⟨_, rfl⟩
          have qc2 : c1.length ≤ c2.length := by rw [hc2]; exact prLe _ _ _
          obtain ⟨c3, hc3⟩ : ∃ x, x = c2 ++ [32] := ⟨_, rfl⟩
          have qc3 : c2.length + 1 ≤ c3.length := by rw [hc3, List.length_append]; exact Nat.le_refl _
          have hf9 : (fun j t l => pr n t (if j = 0 then l ++ [97, 115, 32] else l ++ [63, 47, 47, 32]) ++ [32]) j t c = c3 := by rw [hc3, hc2, hc1]; show pr n t (if j = 0 then c ++ [97, 115, 32] else c ++ [63, 47, 47, 32]) ++ [32] = _; rw [if_neg HJ.out]
          have hx8 : l5 = itr (fun j t l => pr n t (if j = 0 then l ++ [97, 115, 32] else l ++ [63, 47, 47, 32]) ++ [32]) (xps.drop (j + 1)) (j + 1) c3 := by rw [← hf9]; exact HXC.out.trans HST.out
          have q9 : c3.length ≤ l5.length := by rw [hx8]; exact itrLe (fun j t l => by have h1 := prLe n t (l ++ [97, 115, 32]); have h2 := prLe n t (l ++ [63, 47, 47, 32]); rw [List.length_append] at h1 h2; split <;> (rw [List.length_append]; omega)) _ _ _
          have HXD := Lh hx8; have HQC := Lh ((And.intro qc1 (And.intro qc2 (And.intro qc3 q9)))); have HLc1 := Lh hc1; have HLc2 := Lh hc2; have HLc3 := Lh hc3; clear hf9 hx8 q9 qc1 qc2 qc3 hc1 hc2 hc3; go_wp2_with fail; refine (HB100.out.wstr (⟨#[63, 47, 47, 32]⟩ : ByteArray) c1 HLc1.out (by have := HQ.out; have := HQC.out; omega)).mono ?_; rintro e w101 ⟨rfl, hb⟩; have HB101 := Lh hb; clear hb; go_wp2_with fail; refine (IHP w0 _ B b q c1 c2 t hW HAT.out HB101.out HE.out HLc2.out (by have := HQ.out; have := HQC.out; omega)).mono ?_; rintro e w102 ⟨rfl, hb⟩; have HB102 := Lh hb; clear hb; go_wp2_with fail; refine (HB102.out.wbyte 32 32 rfl c3 HLc3.out (by have := HQ.out; have := HQC.out; omega)).mono ?_; rintro e w103 ⟨rfl, hb⟩; have HB103 := Lh hb; clear hb; go_wp2_with fail; exact ⟨⟨j + 1, c3, by omega, by go_num, HB103.out, HXD.out⟩, by simp [intOf]; omega⟩
        ·
         obtain rfl : N6 = j := by omega
         have hx9 : l5 = c := HXC.out.trans (LS6.out.fin _ c); have HB5 := Lh (show BS B w0 b l5 _ from by rw [hx9]; exact HB100.out); clear hx9; obtain ⟨zHR_0, zHR_1, zHR_2, zHR_3, zHR_4, zHR_5, zHR_6, zHR_7⟩ := (HR.out.at hp HB5.out.below).cs8 0 1 2 3 4 5 6 7; go_wp2_with fail; refine (opC xop _ h4 h5).mono ?_; rintro e w9 ⟨rfl, rfl⟩; go_wp2_with fail; refine (HB5.out.wstr ⟨(opT xop).toArray⟩ l6 HLl6.out (by have := HQ.out; omega)).mono ?_; rintro e w6 ⟨rfl, hb⟩; have HB6 := Lh hb; clear hb; clear zHR_0 zHR_1 zHR_2 zHR_3 zHR_4 zHR_5 zHR_6 zHR_7; obtain ⟨zHR_0, zHR_1, zHR_2, zHR_3, zHR_4, zHR_5, zHR_6, zHR_7⟩ := (HR.out.at hp HB6.out.below).cs8 0 1 2 3 4 5 6 7; go_wp2_with fail; refine (HB6.out.wbyte 32 32 rfl l7 HLl7.out (by have := HQ.out; omega)).mono ?_; rintro e w7 ⟨rfl, hb⟩; have HB7 := Lh hb; clear hb; clear zHR_0 zHR_1 zHR_2 zHR_3 zHR_4 zHR_5 zHR_6 zHR_7; obtain ⟨zHR_0, zHR_1, zHR_2, zHR_3, zHR_4, zHR_5, zHR_6, zHR_7⟩ := (HR.out.at hp HB7.out.below).cs8 0 1 2 3 4 5 6 7; go_wp2_with fail; refine (IHQ w0 _ B b r5 l7 l8 xr h2 A5.out HB7.out HE.out HLl8.out (by have := HQ.out; omega)).mono ?_
         rintro e w8 ⟨rfl, hb⟩; have HB8 := Lh hb; clear hb; clear zHR_0 zHR_1 zHR_2 zHR_3 zHR_4 zHR_5 zHR_6 zHR_7; obtain ⟨zHR_0, zHR_1, zHR_2, zHR_3, zHR_4, zHR_5, zHR_6, zHR_7⟩ := (HR.out.at hp HB8.out.below).cs8 0 1 2 3 4 5 6 7; go_wp2_with fail
         first | go_ret | go_end0 | ((try simp only [Exit.inBlock, Exit.then]); first | refine bodyPost_ret (results_none rfl _ _ _) rfl ?_ | refine bodyPost_end (results_none rfl _ _ _) rfl ?_)
         exact ⟨rfl, HB8.out⟩
set_option maxRecDepth 100000 in
set_option maxHeartbeats 8000000 in
theorem wSX (n : Nat) (IHS : WC 56 .st n) (IHQ : WC 16 .q n) : SC 74 n := by
 intro w0 w B b p l l' t hw ha hb he hl hlen; have HB := Lh hb; have HE := Lh he; clear hb he
 cases hw with
 | ix xna xstr xst xen xsl h0 h1 h2 h3 =>
  obtain ⟨hp, v1, v2, v3, hr, f1, f2, f3⟩ := inv_ix ha; clear ha
  by_cases hk : xna.size = 0
  ·
   obtain rfl := isE hk; clear hk; rcases FV.pt f1 with ⟨rfl, rfl⟩ | ⟨y1, r1, rfl, rfl, a1⟩
   ·
    clear f1
    cases xsl
    case false =>
     rcases FV.pt f2 with ⟨rfl, rfl⟩ | ⟨y2, r2, rfl, rfl, a2⟩
     ·
      exact absurd (h0 rfl rfl rfl) (by simp)
     ·
      have HA2 := Lh a2; clear a2 f3 f2; have HR := Lh hr; clear hr; obtain ⟨l1, hl1⟩ : ∃ x, x = l ++ [91] := ⟨_, rfl⟩
      have ql1 : l.length + 1 ≤ l1.length := by rw [hl1, List.length_append]; exact Nat.le_refl _
      obtain ⟨l2, hl2⟩ : ∃ x, x = pr n y2 l1 := ⟨_, rfl⟩
      have ql2 : l1.length ≤ l2.length := by rw [hl2]; exact prLe _ _ _
      obtain ⟨l3, hl3⟩ : ∃ x, x = l2 ++ [93] := ⟨_, rfl⟩
      have ql3 : l2.length + 1 ≤ l3.length := by rw [hl3, List.length_append]; exact Nat.le_refl _
      have hX : l' = l3 := by rw [hl]; rw [hl3, hl2, hl1]; rfl
      rw [hX] at hlen; have HQ := Lh (And.intro hlen (And.intro ql1 (And.intro ql2 ql3))); have HLl1 := Lh hl1; have HLl2 := Lh hl2; have HLl3 := Lh hl3; rw [hX]; clear hX hlen hl ql1 ql2 ql3 hl1 hl2 hl3; obtain ⟨zHR_0, zHR_1, zHR_2, zHR_3, zHR_4⟩ := (HR.out.at hp HB.out.below).cs5 0 1 2 3 4; go_enter Tryz.func74, Tryz.ntmps74; go_wp2_with fail; refine (HB.out.wbyte 91 91 rfl l1 HLl1.out (by have := HQ.out; omega)).mono ?_; rintro e w1 ⟨rfl, hb⟩; have HB1 := Lh hb; clear hb; clear zHR_0 zHR_1 zHR_2 zHR_3 zHR_4; obtain ⟨zHR_0, zHR_1, zHR_2, zHR_3, zHR_4⟩ := (HR.out.at hp HB1.out.below).cs5 0 1 2 3 4; go_wp2_with fail; refine (IHQ w0 _ B b r2 l1 l2 y2 (h2 _ rfl) HA2.out HB1.out HE.out HLl2.out (by have := HQ.out; omega)).mono ?_; rintro e w2 ⟨rfl, hb⟩; have HB2 := Lh hb; clear hb; clear zHR_0 zHR_1 zHR_2 zHR_3 zHR_4; obtain ⟨zHR_0, zHR_1, zHR_2, zHR_3, zHR_4⟩ := (HR.out.at hp HB2.out.below).cs5 0 1 2 3 4; go_wp2_with fail; refine (HB2.out.wbyte 93 93 rfl l3 HLl3.out (by have := HQ.out; omega)).mono ?_; rintro e w3 ⟨rfl, hb⟩; have HB3 := Lh hb; clear hb; clear zHR_0 zHR_1 zHR_2 zHR_3 zHR_4; obtain ⟨zHR_0, zHR_1, zHR_2, zHR_3, zHR_4⟩ := (HR.out.at hp HB3.out.below).cs5 0 1 2 3 4; go_wp2_with fail
      first | go_ret | go_end0 | ((try simp only [Exit.inBlock, Exit.then]); first | refine bodyPost_ret (results_none rfl _ _ _) rfl ?_ | refine bodyPost_end (results_none rfl _ _ _) rfl ?_)
      exact ⟨rfl, HB3.out⟩
    case true =>
     rcases FV.pt f2 with ⟨rfl, rfl⟩ | ⟨y2, r2, rfl, rfl, a2⟩
     ·
      rcases FV.pt f3 with ⟨rfl, rfl⟩ | ⟨y3, r3, rfl, rfl, a3⟩
      ·
       have HR := Lh hr; clear hr f2 f3; obtain ⟨l1, hl1⟩ : ∃ x, x = l ++ [91] := ⟨_, rfl⟩
       have ql1 : l.length + 1 ≤ l1.length := by rw [hl1, List.length_append]; exact Nat.le_refl _
       obtain ⟨l2, hl2⟩ : ∃ x, x = l1 ++ [58] := ⟨_, rfl⟩
       have ql2 : l1.length + 1 ≤ l2.length := by rw [hl2, List.length_append]; exact Nat.le_refl _
       obtain ⟨l3, hl3⟩ : ∃ x, x = l2 ++ [93] := ⟨_, rfl⟩
       have ql3 : l2.length + 1 ≤ l3.length := by rw [hl3, List.length_append]; exact Nat.le_refl _
       have hX : l' = l3 := by rw [hl]; rw [hl3, hl2, hl1]; rfl
       rw [hX] at hlen; have HQ := Lh (And.intro hlen (And.intro ql1 (And.intro ql2 ql3))); have HLl1 := Lh hl1; have HLl2 := Lh hl2; have HLl3 := Lh hl3; rw [hX]; clear hX hlen hl ql1 ql2 ql3 hl1 hl2 hl3; obtain ⟨zHR_0, zHR_1, zHR_2, zHR_3, zHR_4⟩ := (HR.out.at hp HB.out.below).cs5 0 1 2 3 4; go_enter Tryz.func74, Tryz.ntmps74; go_wp2_with fail; refine (HB.out.wbyte 91 91 rfl l1 HLl1.out (by have := HQ.out; omega)).mono ?_; rintro e w1 ⟨rfl, hb⟩; have HB1 := Lh hb; clear hb; clear zHR_0 zHR_1 zHR_2 zHR_3 zHR_4; obtain ⟨zHR_0, zHR_1, zHR_2, zHR_3, zHR_4⟩ := (HR.out.at hp HB1.out.below).cs5 0 1 2 3 4; go_wp2_with fail; refine (HB1.out.wbyte 58 58 rfl l2 HLl2.out (by have := HQ.out; omega)).mono ?_; rintro e w2 ⟨rfl, hb⟩; have HB2 := Lh hb; clear hb; clear zHR_0 zHR_1 zHR_2 zHR_3 zHR_4; obtain ⟨zHR_0, zHR_1, zHR_2, zHR_3, zHR_4⟩ := (HR.out.at hp HB2.out.below).cs5 0 1 2 3 4; go_wp2_with fail; refine (HB2.out.wbyte 93 93 rfl l3 HLl3.out (by have := HQ.out; omega)).mono ?_; rintro e w3 ⟨rfl, hb⟩; have HB3 := Lh hb; clear hb; clear zHR_0 zHR_1 zHR_2 zHR_3 zHR_4; obtain ⟨zHR_0, zHR_1, zHR_2, zHR_3, zHR_4⟩ := (HR.out.at hp HB3.out.below).cs5 0 1 2 3 4; go_wp2_with fail
       first | go_ret | go_end0 | ((try simp only [Exit.inBlock, Exit.then]); first | refine bodyPost_ret (results_none rfl _ _ _) rfl ?_ | refine bodyPost_end (results_none rfl _ _ _) rfl ?_)
       exact ⟨rfl, HB3.out⟩
      ·
       have HA3 := Lh a3; clear a3; have HR := Lh hr; clear hr f2 f3; obtain ⟨l1, hl1⟩ : ∃ x, x = l ++ [91] := ⟨_, rfl⟩
       have ql1 : l.length + 1 ≤ l1.length := by rw [hl1, List.length_append]; exact Nat.le_refl _
       obtain ⟨l2, hl2⟩ : ∃ x, x = l1 ++ [58] := ⟨_, rfl⟩
       have ql2 : l1.length + 1 ≤ l2.length := by rw [hl2, List.length_append]; exact Nat.le_refl _
       obtain ⟨l3, hl3⟩ : ∃ x, x = pr n y3 l2 := ⟨_, rfl⟩
       have ql3 : l2.length ≤ l3.length := by rw [hl3]; exact prLe _ _ _
       obtain ⟨l4, hl4⟩ : ∃ x, x = l3 ++ [93] := ⟨_, rfl⟩
       have ql4 : l3.length + 1 ≤ l4.length := by rw [hl4, List.length_append]; exact Nat.le_refl _
       have hX : l' = l4 := by rw [hl]; rw [hl4, hl3, hl2, hl1]; rfl
       rw [hX] at hlen; have HQ := Lh (And.intro hlen (And.intro ql1 (And.intro ql2 (And.intro ql3 ql4)))); have HLl1 := Lh hl1; have HLl2 := Lh hl2; have HLl3 := Lh hl3; have HLl4 := Lh hl4; rw [hX]; clear hX hlen hl ql1 ql2 ql3 ql4 hl1 hl2 hl3 hl4; obtain ⟨zHR_0, zHR_1, zHR_2, zHR_3, zHR_4⟩ := (HR.out.at hp HB.out.below).cs5 0 1 2 3 4; go_enter Tryz.func74, Tryz.ntmps74; go_wp2_with fail; refine (HB.out.wbyte 91 91 rfl l1 HLl1.out (by have := HQ.out; omega)).mono ?_; rintro e w1 ⟨rfl, hb⟩; have HB1 := Lh hb; clear hb; clear zHR_0 zHR_1 zHR_2 zHR_3 zHR_4; obtain ⟨zHR_0, zHR_1, zHR_2, zHR_3, zHR_4⟩ := (HR.out.at hp HB1.out.below).cs5 0 1 2 3 4; go_wp2_with fail; refine (HB1.out.wbyte 58 58 rfl l2 HLl2.out (by have := HQ.out; omega)).mono ?_; rintro e w2 ⟨rfl, hb⟩; have HB2 := Lh hb; clear hb; clear zHR_0 zHR_1 zHR_2 zHR_3 zHR_4; obtain ⟨zHR_0, zHR_1, zHR_2, zHR_3, zHR_4⟩ := (HR.out.at hp HB2.out.below).cs5 0 1 2 3 4; go_wp2_with fail; refine (IHQ w0 _ B b r3 l2 l3 y3 (h3 _ rfl) HA3.out HB2.out HE.out HLl3.out (by have := HQ.out; omega)).mono ?_; rintro e w3 ⟨rfl, hb⟩; have HB3 := Lh hb; clear hb; clear zHR_0 zHR_1 zHR_2 zHR_3 zHR_4; obtain ⟨zHR_0, zHR_1, zHR_2, zHR_3, zHR_4⟩ := (HR.out.at hp HB3.out.below).cs5 0 1 2 3 4; go_wp2_with fail; refine (HB3.out.wbyte 93 93 rfl l4 HLl4.out (by have := HQ.out; omega)).mono ?_; rintro e w4 ⟨rfl, hb⟩; have HB4 := Lh hb; clear hb; clear zHR_0 zHR_1 zHR_2 zHR_3 zHR_4; obtain ⟨zHR_0, zHR_1, zHR_2, zHR_3, zHR_4⟩ := (HR.out.at hp HB4.out.below).cs5 0 1 2 3 4; go_wp2_with fail
       first | go_ret | go_end0 | ((try simp only [Exit.inBlock, Exit.then]); first | refine bodyPost_ret (results_none rfl _ _ _) rfl ?_ | refine bodyPost_end (results_none rfl _ _ _) rfl ?_)
       exact ⟨rfl, HB4.out⟩
     ·
      have HA2 := Lh a2; clear a2; rcases FV.pt f3 with ⟨rfl, rfl⟩ | ⟨y3, r3, rfl, rfl, a3⟩
      ·
       have HR := Lh hr; clear hr f2 f3; obtain ⟨l1, hl1⟩ : ∃ x, x = l ++ [91] := ⟨_, rfl⟩
       have ql1 : l.length + 1 ≤ l1.length := by rw [hl1, List.length_append]; exact Nat.le_refl _
       obtain ⟨l2, hl2⟩ : ∃ x, x = pr n y2 l1 := ⟨_, rfl⟩
       have ql2 : l1.length ≤ l2.length := by rw [hl2]; exact prLe _ _ _
       obtain ⟨l3, hl3⟩ : ∃ x, x = l2 ++ [58] := ⟨_, rfl⟩
       have ql3 : l2.length + 1 ≤ l3.length := by rw [hl3, List.length_append]; exact Nat.le_refl _
       obtain ⟨l4, hl4⟩ : ∃ x, x = l3 ++ [93] := ⟨_, rfl⟩
       have ql4 : l3.length + 1 ≤ l4.length := by rw [hl4, List.length_append]; exact Nat.le_refl _
       have hX : l' = l4 := by rw [hl]; rw [hl4, hl3, hl2, hl1]; rfl
       rw [hX] at hlen; have HQ := Lh (And.intro hlen (And.intro ql1 (And.intro ql2 (And.intro ql3 ql4)))); have HLl1 := Lh hl1; have HLl2 := Lh hl2; have HLl3 := Lh hl3; have HLl4 := Lh hl4; rw [hX]; clear hX hlen hl ql1 ql2 ql3 ql4 hl1 hl2 hl3 hl4; obtain ⟨zHR_0, zHR_1, zHR_2, zHR_3, zHR_4⟩ := (HR.out.at hp HB.out.below).cs5 0 1 2 3 4; go_enter Tryz.func74, Tryz.ntmps74; go_wp2_with fail; refine (HB.out.wbyte 91 91 rfl l1 HLl1.out (by have := HQ.out; omega)).mono ?_; rintro e w1 ⟨rfl, hb⟩; have HB1 := Lh hb; clear hb; clear zHR_0 zHR_1 zHR_2 zHR_3 zHR_4; obtain ⟨zHR_0, zHR_1, zHR_2, zHR_3, zHR_4⟩ := (HR.out.at hp HB1.out.below).cs5 0 1 2 3 4; go_wp2_with fail; refine (IHQ w0 _ B b r2 l1 l2 y2 (h2 _ rfl) HA2.out HB1.out HE.out HLl2.out (by have := HQ.out; omega)).mono ?_; rintro e w2 ⟨rfl, hb⟩; have HB2 := Lh hb; clear hb; clear zHR_0 zHR_1 zHR_2 zHR_3 zHR_4; obtain ⟨zHR_0, zHR_1, zHR_2, zHR_3, zHR_4⟩ := (HR.out.at hp HB2.out.below).cs5 0 1 2 3 4; go_wp2_with fail; refine (HB2.out.wbyte 58 58 rfl l3 HLl3.out (by have := HQ.out; omega)).mono ?_; rintro e w3 ⟨rfl, hb⟩; have HB3 := Lh hb; clear hb; clear zHR_0 zHR_1 zHR_2 zHR_3 zHR_4; obtain ⟨zHR_0, zHR_1, zHR_2, zHR_3, zHR_4⟩ := (HR.out.at hp HB3.out.below).cs5 0 1 2 3 4; go_wp2_with fail; refine (HB3.out.wbyte 93 93 rfl l4 HLl4.out (by have := HQ.out; omega)).mono ?_; rintro e w4 ⟨rfl, hb⟩; have HB4 := Lh hb; clear hb; clear zHR_0 zHR_1 zHR_2 zHR_3 zHR_4; obtain ⟨zHR_0, zHR_1, zHR_2, zHR_3, zHR_4⟩ := (HR.out.at hp HB4.out.below).cs5 0 1 2 3 4; go_wp2_with fail
       first | go_ret | go_end0 | ((try simp only [Exit.inBlock, Exit.then]); first | refine bodyPost_ret (results_none rfl _ _ _) rfl ?_ | refine bodyPost_end (results_none rfl _ _ _) rfl ?_)
       exact ⟨rfl, HB4.out⟩
      ·
       have HA3 := Lh a3; clear a3; have HR := Lh hr; clear hr f2 f3; obtain ⟨l1, hl1⟩ : ∃ x, x = l ++ [91] := ⟨_, rfl⟩
       have ql1 : l.length + 1 ≤ l1.length := by rw [hl1, List.length_append]; exact Nat.le_refl _
       obtain ⟨l2, hl2⟩ : ∃ x, x = pr n y2 l1 := ⟨_, rfl⟩
       have ql2 : l1.length ≤ l2.length := by rw [hl2]; exact prLe _ _ _
       obtain ⟨l3, hl3⟩ : ∃ x, x = l2 ++ [58] := ⟨_, rfl⟩
       have ql3 : l2.length + 1 ≤ l3.length := by rw [hl3, List.length_append]; exact Nat.le_refl _
       obtain ⟨l4, hl4⟩ : ∃ x, x = pr n y3 l3 := ⟨_, rfl⟩
       have ql4 : l3.length ≤ l4.length := by rw [hl4]; exact prLe _ _ _
       obtain ⟨l5, hl5⟩ : ∃ x, x = l4 ++ [93] := ⟨_, rfl⟩
       have ql5 : l4.length + 1 ≤ l5.length := by rw [hl5, List.length_append]; exact Nat.le_refl _
       have hX : l' = l5 := by rw [hl]; rw [hl5, hl4, hl3, hl2, hl1]; rfl
       rw [hX] at hlen; have HQ := Lh (And.intro hlen (And.intro ql1 (And.intro ql2 (And.intro ql3 (And.intro ql4 ql5))))); have HLl1 := Lh hl1; have HLl2 := Lh hl2; have HLl3 := Lh hl3; have HLl4 := Lh hl4; have HLl5 := Lh hl5; rw [hX]; clear hX hlen hl ql1 ql2 ql3 ql4 ql5 hl1 hl2 hl3 hl4 hl5; obtain ⟨zHR_0, zHR_1, zHR_2, zHR_3, zHR_4⟩ := (HR.out.at hp HB.out.below).cs5 0 1 2 3 4; go_enter Tryz.func74, Tryz.ntmps74; go_wp2_with fail; refine (HB.out.wbyte 91 91 rfl l1 HLl1.out (by have := HQ.out; omega)).mono ?_; rintro e w1 ⟨rfl, hb⟩; have HB1 := Lh hb; clear hb; clear zHR_0 zHR_1 zHR_2 zHR_3 zHR_4; obtain ⟨zHR_0, zHR_1, zHR_2, zHR_3, zHR_4⟩ := (HR.out.at hp HB1.out.below).cs5 0 1 2 3 4; go_wp2_with fail; refine (IHQ w0 _ B b r2 l1 l2 y2 (h2 _ rfl) HA2.out HB1.out HE.out HLl2.out (by have := HQ.out; omega)).mono ?_; rintro e w2 ⟨rfl, hb⟩; have HB2 := Lh hb; clear hb; clear zHR_0 zHR_1 zHR_2 zHR_3 zHR_4; obtain ⟨zHR_0, zHR_1, zHR_2, zHR_3, zHR_4⟩ := (HR.out.at hp HB2.out.below).cs5 0 1 2 3 4; go_wp2_with fail; refine (HB2.out.wbyte 58 58 rfl l3 HLl3.out (by have := HQ.out; omega)).mono ?_; rintro e w3 ⟨rfl, hb⟩; have HB3 := Lh hb; clear hb; clear zHR_0 zHR_1 zHR_2 zHR_3 zHR_4
       obtain ⟨zHR_0, zHR_1, zHR_2, zHR_3, zHR_4⟩ := (HR.out.at hp HB3.out.below).cs5 0 1 2 3 4; go_wp2_with fail; refine (IHQ w0 _ B b r3 l3 l4 y3 (h3 _ rfl) HA3.out HB3.out HE.out HLl4.out (by have := HQ.out; omega)).mono ?_; rintro e w4 ⟨rfl, hb⟩; have HB4 := Lh hb; clear hb; clear zHR_0 zHR_1 zHR_2 zHR_3 zHR_4; obtain ⟨zHR_0, zHR_1, zHR_2, zHR_3, zHR_4⟩ := (HR.out.at hp HB4.out.below).cs5 0 1 2 3 4; go_wp2_with fail; refine (HB4.out.wbyte 93 93 rfl l5 HLl5.out (by have := HQ.out; omega)).mono ?_; rintro e w5 ⟨rfl, hb⟩; have HB5 := Lh hb; clear hb; clear zHR_0 zHR_1 zHR_2 zHR_3 zHR_4; obtain ⟨zHR_0, zHR_1, zHR_2, zHR_3, zHR_4⟩ := (HR.out.at hp HB5.out.below).cs5 0 1 2 3 4; go_wp2_with fail
       first | go_ret | go_end0 | ((try simp only [Exit.inBlock, Exit.then]); first | refine bodyPost_ret (results_none rfl _ _ _) rfl ?_ | refine bodyPost_end (results_none rfl _ _ _) rfl ?_)
       exact ⟨rfl, HB5.out⟩
   ·
    have HA1 := Lh a1; clear a1; have HR := Lh hr; clear hr f1 f2 f3; obtain ⟨l1, hl1⟩ : ∃ x, x = pr n y1 l := ⟨_, rfl⟩
    have ql1 : l.length ≤ l1.length := by rw [hl1]; exact prLe _ _ _
    have hX : l' = l1 := by rw [hl]; rw [hl1]; rfl
    rw [hX] at hlen; have HQ := Lh (And.intro hlen ql1); have HLl1 := Lh hl1; rw [hX]; clear hX hlen hl ql1 hl1; obtain ⟨zHR_0, zHR_1, zHR_2, zHR_3, zHR_4⟩ := (HR.out.at hp HB.out.below).cs5 0 1 2 3 4; go_enter Tryz.func74, Tryz.ntmps74; go_wp2_with fail; refine (IHS w0 _ B b r1 l l1 y1 (h1 _ rfl) HA1.out HB.out HE.out HLl1.out (by have := HQ.out; omega)).mono ?_; rintro e w1 ⟨rfl, hb⟩; have HB1 := Lh hb; clear hb; clear zHR_0 zHR_1 zHR_2 zHR_3 zHR_4; obtain ⟨zHR_0, zHR_1, zHR_2, zHR_3, zHR_4⟩ := (HR.out.at hp HB1.out.below).cs5 0 1 2 3 4; go_wp2_with fail
    first | go_ret | go_end0 | ((try simp only [Exit.inBlock, Exit.then]); first | refine bodyPost_ret (results_none rfl _ _ _) rfl ?_ | refine bodyPost_end (results_none rfl _ _ _) rfl ?_)
    exact ⟨rfl, HB1.out⟩
  ·
   have hE := isE1 hk; have HK := Lh hk; clear hk f1 f2 f3; have HR := Lh hr; clear hr; obtain ⟨l1, hl1⟩ : ∃ x, x = l ++ xna.data.toList := ⟨_, rfl⟩
   have ql1 : l.length ≤ l1.length := by rw [hl1, List.length_append]; omega
   have hX : l' = l1 := by rw [hl]; rw [hl1]; exact sfx_na HK.out
   rw [hX] at hlen; have HQ := Lh (And.intro hlen ql1); have HLl1 := Lh hl1; rw [hX]; clear hX hlen hl ql1 hl1; obtain ⟨zHR_0, zHR_1, zHR_2, zHR_3, zHR_4⟩ := (HR.out.at hp HB.out.below).cs5 0 1 2 3 4; go_enter Tryz.func74, Tryz.ntmps74; go_wp2_with fail; refine (HB.out.wstr xna l1 HLl1.out (by have := HQ.out; omega)).mono ?_; rintro e w1 ⟨rfl, hb⟩; have HB1 := Lh hb; clear hb; clear zHR_0 zHR_1 zHR_2 zHR_3 zHR_4; obtain ⟨zHR_0, zHR_1, zHR_2, zHR_3, zHR_4⟩ := (HR.out.at hp HB1.out.below).cs5 0 1 2 3 4; go_wp2_with fail
   first | go_ret | go_end0 | ((try simp only [Exit.inBlock, Exit.then]); first | refine bodyPost_ret (results_none rfl _ _ _) rfl ?_ | refine bodyPost_end (results_none rfl _ _ _) rfl ?_)
   exact ⟨rfl, HB1.out⟩
set_option maxRecDepth 100000 in
set_option maxHeartbeats 8000000 in
theorem wIX (n : Nat) (IHS : SC 74 n) : WC 51 .ix (n + 1) := by
 intro w0 w B b p l l' t hw ha hb he hl hlen; have HB := Lh hb; have HE := Lh he; clear hb he
 have hlx : l' = sx n t (dotted l) := by cases hw with | ix a b c d e f => exact hl
 clear hl; have HA := Lh ha; clear ha
 by_cases h0 : l = []
 ·
  have hl0 : l.length = 0 := by rw [h0]; rfl
  have HD := Lh (show tailC l = false from by rw [h0]; rfl); clear h0; obtain ⟨l1, hl1⟩ : ∃ x, x = l ++ [46] := ⟨_, rfl⟩
  have ql1 : l.length + 1 ≤ l1.length := by rw [hl1, List.length_append]; exact Nat.le_refl _
  obtain ⟨l2, hl2⟩ : ∃ x, x = sx n t (l1) := ⟨_, rfl⟩
  have ql2 : l1.length ≤ l2.length := by rw [hl2]; exact sx_le _ _ _
  have hX : l' = l2 := by rw [hlx, hl2, hl1]; rw [show dotted l = l ++ [46] from by unfold dotted; rw [HD.out]; rfl]
  rw [hX] at hlen; have HQ := Lh (And.intro hlen (And.intro ql1 ql2)); have HLl1 := Lh hl1; have HLl2 := Lh hl2; rw [hX]; clear hX hlen hlx ql1 ql2 hl1 hl2
  have hlb : l.length ≤ 1099511627776 := by have := HQ.out; omega
  go_enter Tryz.func51, Tryz.ntmps51; go_wp2_with fail; refine (HB.out.len).mono ?_; rintro e w9 ⟨rfl, rfl⟩; go_wp2_with fail; refine (HB.out.wbyte 46 46 rfl l1 HLl1.out (by have := HQ.out; omega)).mono ?_; rintro e w1 ⟨rfl, hb⟩; have HB1 := Lh hb; clear hb; go_wp2_with fail; refine (IHS w0 _ B b p l1 l2 t hw HA.out HB1.out HE.out HLl2.out (by have := HQ.out; omega)).mono ?_; rintro e w7 ⟨rfl, hb⟩; have HB7 := Lh hb; clear hb; go_wp2_with fail
  first | go_ret | go_end0 | ((try simp only [Exit.inBlock, Exit.then]); first | refine bodyPost_ret (results_none rfl _ _ _) rfl ?_ | refine bodyPost_end (results_none rfl _ _ _) rfl ?_)
  exact ⟨rfl, HB7.out⟩
 ·
  have hpos : 0 < l.length := List.length_pos_iff.2 h0; obtain ⟨c, hc, hlast⟩ := last_byte hpos; rcases tail_cases hlast with ⟨hsp, hcase⟩ | ⟨hsp, hcase⟩
  ·
   have HD := Lh hsp; clear hlast hsp; rcases hcase with rfl | ⟨z1, z2, z3⟩
   ·
    obtain ⟨l1, hl1⟩ : ∃ x, x = l ++ [32] := ⟨_, rfl⟩
    have ql1 : l.length + 1 ≤ l1.length := by rw [hl1, List.length_append]; exact Nat.le_refl _
    obtain ⟨l2, hl2⟩ : ∃ x, x = l1 ++ [46] := ⟨_, rfl⟩
    have ql2 : l1.length + 1 ≤ l2.length := by rw [hl2, List.length_append]; exact Nat.le_refl _
    obtain ⟨l3, hl3⟩ : ∃ x, x = sx n t (l2) := ⟨_, rfl⟩
    have ql3 : l2.length ≤ l3.length := by rw [hl3]; exact sx_le _ _ _
    have hX : l' = l3 := by rw [hlx, hl3, hl2, hl1]; rw [show dotted l = l ++ [32] ++ [46] from by unfold dotted; rw [HD.out]; rfl]
    rw [hX] at hlen; have HQ := Lh (And.intro hlen (And.intro ql1 (And.intro ql2 ql3))); have HLl1 := Lh hl1; have HLl2 := Lh hl2; have HLl3 := Lh hl3; rw [hX]; clear hX hlen hlx ql1 ql2 ql3 hl1 hl2 hl3
    have hlb : l.length ≤ 1099511627776 := by have := HQ.out; omega
    go_enter Tryz.func51, Tryz.ntmps51; go_wp2_with fail; refine (HB.out.len).mono ?_; rintro e w9 ⟨rfl, rfl⟩; go_wp2_with fail; refine (HB.out.str).mono ?_; rintro e w8 ⟨rfl, hb⟩; have HB8 := Lh hb; clear hb; go_wp2_with fail; refine (HB8.out.wbyte 32 32 rfl l1 HLl1.out (by have := HQ.out; omega)).mono ?_; rintro e w1 ⟨rfl, hb⟩; have HB1 := Lh hb; clear hb; go_wp2_with fail; refine (HB1.out.wbyte 46 46 rfl l2 HLl2.out (by have := HQ.out; omega)).mono ?_; rintro e w2 ⟨rfl, hb⟩; have HB2 := Lh hb; clear hb; go_wp2_with fail; refine (IHS w0 _ B b p l2 l3 t hw HA.out HB2.out HE.out HLl3.out (by have := HQ.out; omega)).mono ?_; rintro e w7 ⟨rfl, hb⟩; have HB7 := Lh hb; clear hb; go_wp2_with fail
    first | go_ret | go_end0 | ((try simp only [Exit.inBlock, Exit.then]); first | refine bodyPost_ret (results_none rfl _ _ _) rfl ?_ | refine bodyPost_end (results_none rfl _ _ _) rfl ?_)
    exact ⟨rfl, HB7.out⟩
   ·
    obtain ⟨l1, hl1⟩ : ∃ x, x = l ++ [32] := ⟨_, rfl⟩
    have ql1 : l.length + 1 ≤ l1.length := by rw [hl1, List.length_append]; exact Nat.le_refl _
    obtain ⟨l2, hl2⟩ : ∃ x, x = l1 ++ [46] := ⟨_, rfl⟩
    have ql2 : l1.length + 1 ≤ l2.length := by rw [hl2, List.length_append]; exact Nat.le_refl _
    obtain ⟨l3, hl3⟩ : ∃ x, x = sx n t (l2) := ⟨_, rfl⟩
    have ql3 : l2.length ≤ l3.length := by rw [hl3]; exact sx_le _ _ _
    have hX : l' = l3 := by rw [hlx, hl3, hl2, hl1]; rw [show dotted l = l ++ [32] ++ [46] from by unfold dotted; rw [HD.out]; rfl]
    rw [hX] at hlen; have HQ := Lh (And.intro hlen (And.intro ql1 (And.intro ql2 ql3))); have HLl1 := Lh hl1; have HLl2 := Lh hl2; have HLl3 := Lh hl3; rw [hX]; clear hX hlen hlx ql1 ql2 ql3 hl1 hl2 hl3
    have hlb : l.length ≤ 1099511627776 := by have := HQ.out; omega
    go_enter Tryz.func51, Tryz.ntmps51; go_wp2_with fail; refine (HB.out.len).mono ?_; rintro e w9 ⟨rfl, rfl⟩; go_wp2_with fail; refine (HB.out.str).mono ?_; rintro e w8 ⟨rfl, hb⟩; have HB8 := Lh hb; clear hb; go_wp2_with fail; refine (HB8.out.wbyte 32 32 rfl l1 HLl1.out (by have := HQ.out; omega)).mono ?_; rintro e w1 ⟨rfl, hb⟩; have HB1 := Lh hb; clear hb; go_wp2_with fail; refine (HB1.out.wbyte 46 46 rfl l2 HLl2.out (by have := HQ.out; omega)).mono ?_; rintro e w2 ⟨rfl, hb⟩; have HB2 := Lh hb; clear hb; go_wp2_with fail; refine (IHS w0 _ B b p l2 l3 t hw HA.out HB2.out HE.out HLl3.out (by have := HQ.out; omega)).mono ?_; rintro e w7 ⟨rfl, hb⟩; have HB7 := Lh hb; clear hb; go_wp2_with fail
    first | go_ret | go_end0 | ((try simp only [Exit.inBlock, Exit.then]); first | refine bodyPost_ret (results_none rfl _ _ _) rfl ?_ | refine bodyPost_end (results_none rfl _ _ _) rfl ?_)
    exact ⟨rfl, HB7.out⟩
  ·
   have HD := Lh hsp; clear hlast hsp; rcases hcase with ⟨z1, z2⟩ | ⟨z1, z2, z3⟩
   ·
    obtain ⟨l1, hl1⟩ : ∃ x, x = l ++ [46] := ⟨_, rfl⟩
    have ql1 : l.length + 1 ≤ l1.length := by rw [hl1, List.length_append]; exact Nat.le_refl _
    obtain ⟨l2, hl2⟩ : ∃ x, x = sx n t (l1) := ⟨_, rfl⟩
    have ql2 : l1.length ≤ l2.length := by rw [hl2]; exact sx_le _ _ _
    have hX : l' = l2 := by rw [hlx, hl2, hl1]; rw [show dotted l = l ++ [46] from by unfold dotted; rw [HD.out]; rfl]
    rw [hX] at hlen; have HQ := Lh (And.intro hlen (And.intro ql1 ql2)); have HLl1 := Lh hl1; have HLl2 := Lh hl2; rw [hX]; clear hX hlen hlx ql1 ql2 hl1 hl2
    have hlb : l.length ≤ 1099511627776 := by have := HQ.out; omega
    go_enter Tryz.func51, Tryz.ntmps51; go_wp2_with fail; refine (HB.out.len).mono ?_; rintro e w9 ⟨rfl, rfl⟩; go_wp2_with fail; refine (HB.out.str).mono ?_; rintro e w8 ⟨rfl, hb⟩; have HB8 := Lh hb; clear hb; go_wp2_with fail; refine (HB8.out.wbyte 46 46 rfl l1 HLl1.out (by have := HQ.out; omega)).mono ?_; rintro e w1 ⟨rfl, hb⟩; have HB1 := Lh hb; clear hb; go_wp2_with fail; refine (IHS w0 _ B b p l1 l2 t hw HA.out HB1.out HE.out HLl2.out (by have := HQ.out; omega)).mono ?_; rintro e w7 ⟨rfl, hb⟩; have HB7 := Lh hb; clear hb; go_wp2_with fail
    first | go_ret | go_end0 | ((try simp only [Exit.inBlock, Exit.then]); first | refine bodyPost_ret (results_none rfl _ _ _) rfl ?_ | refine bodyPost_end (results_none rfl _ _ _) rfl ?_)
    exact ⟨rfl, HB7.out⟩
   ·
    obtain ⟨l1, hl1⟩ : ∃ x, x = l ++ [46] := ⟨_, rfl⟩
    have ql1 : l.length + 1 ≤ l1.length := by rw [hl1, List.length_append]; exact Nat.le_refl _
    obtain ⟨l2, hl2⟩ : ∃ x, x = sx n t (l1) := ⟨_, rfl⟩
    have ql2 : l1.length ≤ l2.length := by rw [hl2]; exact sx_le _ _ _
    have hX : l' = l2 := by rw [hlx, hl2, hl1]; rw [show dotted l = l ++ [46] from by unfold dotted; rw [HD.out]; rfl]
    rw [hX] at hlen; have HQ := Lh (And.intro hlen (And.intro ql1 ql2)); have HLl1 := Lh hl1; have HLl2 := Lh hl2; rw [hX]; clear hX hlen hlx ql1 ql2 hl1 hl2
    have hlb : l.length ≤ 1099511627776 := by have := HQ.out; omega
    go_enter Tryz.func51, Tryz.ntmps51; go_wp2_with fail; refine (HB.out.len).mono ?_; rintro e w9 ⟨rfl, rfl⟩; go_wp2_with fail; refine (HB.out.str).mono ?_; rintro e w8 ⟨rfl, hb⟩; have HB8 := Lh hb; clear hb; go_wp2_with fail; refine (HB8.out.wbyte 46 46 rfl l1 HLl1.out (by have := HQ.out; omega)).mono ?_; rintro e w1 ⟨rfl, hb⟩; have HB1 := Lh hb; clear hb; go_wp2_with fail; refine (IHS w0 _ B b p l1 l2 t hw HA.out HB1.out HE.out HLl2.out (by have := HQ.out; omega)).mono ?_; rintro e w7 ⟨rfl, hb⟩; have HB7 := Lh hb; clear hb; go_wp2_with fail
    first | go_ret | go_end0 | ((try simp only [Exit.inBlock, Exit.then]); first | refine bodyPost_ret (results_none rfl _ _ _) rfl ?_ | refine bodyPost_end (results_none rfl _ _ _) rfl ?_)
    exact ⟨rfl, HB7.out⟩
end Go.Proofs.YtghcggagpagfoaaGreatDoor
