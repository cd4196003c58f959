/-
  The law's own printer: parts (n001_1001): a piece of another slice appended; the last byte; joined strings.
-/
import Derived.Test.YtghcggagpagfoaaGreatDoorWrE
import Derived.ArgAppend
import Derived.Lib.Join
namespace Go.Proofs.YtghcggagpagfoaaGreatDoor
set_option linter.unusedVariables false
set_option linter.unusedSimpArgs false
open Go.ChangeShapes Go.WideShapes Go.ChangeAt Go.RowKit M
/-- 'append(b, x[i:j]...)'. -/
theorem BN.sub {ops : Array Oper} {rest : List Oper} {o : Oper} {a : Act} {Q : Exit → Act → World → Prop} {w w0 : World} {B : Nat} {v : Value} {l : L8} (h : BN B w0 l v w) (hgd : o.guard = none) (sl x : Operand) (ho : o.op = .call { callee := .builtin .append, args := #[sl, x], argTypes := #[tBytes, tBytes] })
  (hs : a.eval sl = v) (hl0 : 0 < l.length) (ad : Addr) (m c : Nat) (bs : List UInt8) (hm : bs.length = m) (hx : a.eval x = .slice (some ad) m c) (hc : ∀ j u, (Lib.byteCells bs)[j]? = some u → w.cell? (ad.add j) = some u) (l' : L8) (hl : l' = l ++ bs) (hlen : l'.length ≤ 1099511627776)
  (k : ∀ A n c w', BN B w0 l' (.slice A n c) w' → wpList Tryz.prog ops Q rest (a.put o.dst (.slice A n c)) w') : wpList Tryz.prog ops Q (o :: rest) a w := by
 obtain ⟨A, n, cc, d, rfl, h1, h2, h3, h4⟩ := h; subst hl; obtain ⟨i0, hi, hz0, hz1, hz2⟩ := info_parts infoByte
 have hbl : (Lib.byteCells bs).length = bs.length := by simp [Lib.byteCells]
 have hone : ∀ u ∈ Lib.byteCells bs, u.oneCell' = true := fun u hu => by
  simp [Lib.byteCells] at hu; obtain ⟨b, _, rfl⟩ := hu; rfl
 rw [List.length_append] at hlen
 by_cases h0 : m = 0
 ·
  subst h0; obtain rfl : bs = [] := List.length_eq_zero_iff.1 hm; rw [List.append_nil] at k; obtain ⟨hlx, h5⟩ := h2.out.1; rcases h5 with ⟨hv, hn⟩ | ⟨g, cap, cur, hv, hbg, hg, hnc, hcm, hcs, htk⟩
  ·
   rw [hn] at hl0; exact absurd hl0 (by omega)
  ·
   injection hv with e1 e2 e3; subst e1 e2 e3; have hr := run_append_room_cells (P := Tryz.prog) w tBytes o.type tByte i0 Tryz.underlying22 hi g 0 l.length cc ad 0 c [] (by simp) (fun j u hj => by cases hj) (fun u hu => by cases hu) (by omega) (fun j hj => by simp at hj) (fun j hj => by simp at hj); have hsc : w.setCells g (0 + l.length * i0.size) [] = w := rfl; rw [hsc] at hr
   refine wpList_plain hgd fun K hK => ?_
   unfold Oper.wp execOp; simp only [ho, resolve, invoke, builtin, Sem.run_bind, Sem.run_pure, Result.andThen_ok, List.map_toArray, List.map_cons, List.map_nil, hs, hx, hr]; exact hK _ _ (k _ _ _ _ ⟨_, _, _, d, rfl, h1, h2, h3, h4⟩)
 ·
  refine wpList_append_lies _ hgd sl x tBytes ho B tByte i0 (.int .u8 0) 1 1 Tryz.underlying22 hi hz0 hz1 hz2 rfl (by decide) _ l.length (Lib.byteCells l) hs h2.out.1 ad m c (Lib.byteCells bs) hx (by rw [hbl, hm, Nat.mul_one]) hc hone (by omega) (by unfold maxLen; omega) (by omega) h4 _ rfl ?_; intro g cap w' hown' hgrow hat hlt
  have he : Lib.byteCells l ++ Lib.byteCells bs = Lib.byteCells (l ++ bs) := by simp [Lib.byteCells]
  rw [he] at hown'; have ht : Touch (fun k => d = some k) w w' := (Touch.refl _ w).grown hgrow (fun k hk _ => h2.out.2.symm.trans hk); have hb : Below B w w' := ht.below h4 (fun k hk hd => by have := (h2.out.lt k hd).1; omega); exact k _ _ _ _ ⟨_, _, _, some g, rfl, Lh (by rw [List.length_append, hm]), Lh ⟨by rw [List.length_append, hm]; exact hown', rfl⟩, Lh (h3.out.trans hb), Nat.le_trans h4 hb.size⟩
/-- The cells of bytes of the call's own. -/
theorem BN.cells {B : Nat} {w0 w : World} {l : L8} {A : Option Addr} {n c : Nat} (h : BN B w0 l (.slice A n c) w) (hl : 0 < l.length) : ∃ ab ao, A = some ⟨ab, ao, none⟩ ∧ n = l.length ∧ n ≤ c ∧ ∀ (j : Nat) (u : Value), (Lib.byteCells l)[j]? = some u → w.cell? ⟨ab, ao + j, none⟩ = some u := by
 obtain ⟨A', n', c', d, hv, h1, h2, h3, h4⟩ := h; injection hv with e1 e2 e3; subst e1 e2 e3; obtain ⟨hlx, h5⟩ := h2.out.1; have hn := h1.out; rcases h5 with ⟨hv, hn0⟩ | ⟨g, cap, cur, hv, hbg, hg, hnc, hcm, hcs, htk⟩
 ·
  omega
 ·
  obtain ⟨a, c2, hv2, hvw, _⟩ := own_vw h2.out.1; injection hv with e1 e2 e3; injection hv2 with f1 f2 f3; subst e1 e2 e3; obtain ⟨b, o, ha, hb, hc⟩ := hvw.2 hl; rw [← f1] at ha; injection ha with ha; exact ⟨b, o, by rw [ha], rfl, hnc, hc⟩
theorem BN.last {B : Nat} {w0 w : World} {l : L8} {A : Option Addr} {n c : Nat} (h : BN B w0 l (.slice A n c) w) {x : UInt8} (hx : l.getLast? = some x) : ∃ ab ao k, A = some ⟨ab, ao, none⟩ ∧ n = k + 1 ∧ l.length = k + 1 ∧ w.cell? ⟨ab, ao + k, none⟩ = some (.int .u8 x.toNat) := by
 have hl : 0 < l.length := by
  cases l with
  | nil => cases hx
  | cons a r => simp
 obtain ⟨ab, ao, rfl, h1, _, h2⟩ := h.cells hl; obtain ⟨k, hk⟩ : ∃ k, l.length = k + 1 := ⟨l.length - 1, by omega⟩; refine ⟨ab, ao, k, rfl, by omega, hk, h2 k _ ?_⟩; rw [List.getLast?_eq_getElem?, hk] at hx; unfold Lib.byteCells; rw [List.getElem?_map]; have : l[k]? = some x := hx; rw [this]; rfl
/-- A piece of it: from 1 to the last but one. -/
theorem BN.inner {B : Nat} {w0 w : World} {X : L8} {A : Option Addr} {n c : Nat} (h : BN B w0 X (.slice A n c) w) (hl : 2 ≤ X.length) : ∃ ab ao m, A = some ⟨ab, ao, none⟩ ∧ n = m + 2 ∧ X.length = m + 2 ∧ m + 2 ≤ c ∧ (inn X).length = m ∧ ∀ j u, (Lib.byteCells (inn X))[j]? = some u → w.cell? ((⟨ab, ao + 1, none⟩ : Addr).add j) = some u := by
 obtain ⟨ab, ao, rfl, h1, h3, h2⟩ := h.cells (by omega); refine ⟨ab, ao, X.length - 2, rfl, by omega, by omega, by omega, ?_, fun j u hj => ?_⟩
 ·
  unfold inn; rw [List.length_take, List.length_drop]; omega
 ·
  rw [Go.WideShapes.add_plain]
  have : ao + 1 + j = ao + (1 + j) := by omega
  rw [this]; refine h2 (1 + j) u ?_; unfold Lib.byteCells inn at *; rw [List.getElem?_map] at hj ⊢; rw [List.getElem?_take] at hj; split at hj
  ·
   rw [List.getElem?_drop] at hj; exact hj
  ·
   cases hj
/-- Joined strings, as the loop writes them. -/
theorem join_itr (ags : List ByteArray) (h2 : ags.length ≤ 2) (l : L8) : itrS (fun j t l => (if j = 0 then l else l ++ [59, 32]) ++ t.data.toList) ags 0 l = l ++ Lib.join (ags.map (·.data.toList)) [59, 32] := by
 match ags, h2 with
 | [], _ => simp [itrS, Lib.join_nil]
 | [a], _ => simp [itrS, Lib.join_one]
 | [a, b], _ => simp [itrS, Lib.join_cons, Lib.joinTail]
theorem LsS.at {B L : Nat} {w0 w : World} {A : Option Addr} {ts : List ByteArray} (h : LsS B w0 A L ts) (hb : Below B w0 w) (hL : 0 < L) (hB : B ≤ w.heap.size) : ∃ ab ao, A = some ⟨ab, ao, none⟩ ∧ ab < w.heap.size ∧ ∀ (j : Nat) x, ts[j]? = some x → w.cell? ⟨ab, ao + j, none⟩ = some (.string x) := by
 obtain ⟨ab, ao, s, rfl, h1, h2, h3⟩ := h.get 0 hL; refine ⟨ab, ao, rfl, by omega, fun j x hj => ?_⟩; obtain ⟨ab', ao', s', e, h4, h5, h6⟩ := h.get j (by rw [← h.len]; exact (List.getElem?_eq_some_iff.1 hj).1)
 cases e
 rw [h6] at hj
 cases hj
 exact (hb.cell h4).trans h5
/-- Behind the dot, by the law's own printer. -/
def RSC (fn n : Nat) : Prop := ∀ (w0 w : World) (B p : Nat) (v : Value) (l l' : L8) (t : T), W .ix t → At (fun k => k < B) (n + 1) w0 p t → BN B w0 l v w → Env B w0 → l' = sx n t l → l'.length ≤ 1099511627776 →
 Calls Tryz.prog fn #[v, .pointer (some ⟨p, 0, none⟩)] w fun e w' => ∃ v', e = .returned v' ∧ BN B w0 l' v' w'
end Go.Proofs.YtghcggagpagfoaaGreatDoor
