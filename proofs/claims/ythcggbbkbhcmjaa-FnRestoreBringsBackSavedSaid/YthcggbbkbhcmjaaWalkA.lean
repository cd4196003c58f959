/-
  The walk of the law FnTopIsPeek (n001_8): it returns true for every input.
-/
import Derived.Test.YthcggbbkbhcmjaaBase
namespace Go.Proofs.Ythcggbbkbhcmjaa
set_option linter.unusedVariables false
open Go.ChangeShapes Go.WideShapes Go.ChangeAt Go.RowKit M
theorem rev_take (xs : List Int) (k : Nat) (hk : k < xs.length) : (xs.take (k + 1)).reverse = xs.getD k 0 :: (xs.take k).reverse := by
  rw [List.take_succ_eq_append_getElem hk, List.reverse_append, List.getD_eq_getElem?_getD, List.getElem?_eq_getElem hk]
  rfl
/-- The copy xs of what came in, and: nothing that was there has turned. -/
def Ctx (w : World) (C : Nat) (A : Option Addr) (xs : List Int) (wr : World) : Prop := CopyOf .i64 3 wr C A xs ∧ Below w.heap.size w wr
theorem Ctx.step {w wr w' : World} {C B p : Nat} {A : Option Addr} {xs : List Int} {d : Option Nat} {l : List (Nat × Value)} {idx lim : Int} {sv : List (Int × Int × List (Nat × Value))} {N : Nat} {S : Nat → Prop}
    (h : Ctx w C A xs wr) (hs : LStk wr B p d l idx lim sv N) (hB : w.heap.size ≤ B) (ht : Touch S wr w') (hS : ∀ k, S k → k = p ∨ d = some k) : Ctx w C A xs w' := by
  refine ⟨h.1.keep fun g cs hr => hr.touch ht fun hs' => ?_, h.2.trans (ht.below h.2.size fun k hk hs' => ?_)⟩
  · obtain ⟨n1, n2⟩ := hs.ne hr (by decide) (by decide)
    rcases hS g hs' with h1 | h1
    · exact n1 h1
    · exact n2 h1
  · rcases hS k hs' with h1 | h1
    · have := hs.lt.1; omega
    · subst h1
      have := hs.dlt.1; omega
theorem Ctx.drewN {w wr : World} {C : Nat} {A : Option Addr} {xs : List Int} (h : Ctx w C A xs wr) (n : Nat) : Ctx w C A xs (wr.drewN n) := ⟨h.1.keep fun g cs hr => hr.drewN n, below_drewN h.2 n⟩
theorem LStk.drewN {w : World} {B p : Nat} {d : Option Nat} {l : List (Nat × Value)} {idx lim : Int} {sv : List (Int × Int × List (Nat × Value))} {N : Nat} (h : LStk w B p d l idx lim sv N) (n : Nat) : LStk (w.drewN n) B p d l idx lim sv N :=
  h.touch ((Touch.refl (fun _ => False) w).drewN n) (fun h => h) (fun _ _ h => h)
set_option maxRecDepth 100000 in
set_option maxHeartbeats 4000000 in
theorem fnTopIsPeek.main (a0 : Option Addr) (len0 cap0 : Nat) (z0 : List Int) (a1 : Int) (w : World) (w0 : IsRow .i64 w a0 len0 cap0 z0) (hn : 0 < len0) (hl : len0 ≤ 65536) (h1 : 0 ≤ a1) (h2 : a1 ≤ 65536) :
    Calls Try.prog 3 #[.slice a0 len0 cap0, .int .i64 a1] w fun e w' => e = .returned (.bool true) ∧ Below w.heap.size w w' := by
  have W0 := Lib.hid w0
  have HXL := Lib.hid (show (z0.take len0).length = len0 by rw [List.length_take]; have := w0.len; omega)
  clear w0
  go_enter Try.func3, Try.ntmps3
  go_wp2_with (first | (go_at_call 8; go_in) | fail)
  refine (copy_ints a0 len0 cap0 z0 _ W0.out (by omega)).mono ?_
  rintro e w1 ⟨A, c, rfl, hcp, hb1⟩
  obtain ⟨xs, hxs⟩ : ∃ xs, z0.take len0 = xs := ⟨_, rfl⟩
  rw [hxs] at hcp HXL
  have HCP := Lib.hid hcp
  have HB1 := Lib.hid hb1
  have hs1 := hb1.size
  clear hcp hb1 hxs W0
  go_wp2_with fail
  refine (znew _).mono ?_
  rintro e w2 ⟨rfl, hs, hb2⟩
  have hctx : Ctx w w.heap.size A xs w2 := ⟨HCP.out.keep fun g cs hr => hr.keep hb2 hr.lt, HB1.out.trans (hb2.mono hs1)⟩
  have HS2 := Lib.hid hs
  have HC2 := Lib.hid hctx
  have hs2 := hb2.size
  clear hs hb2 hctx HCP HB1
  go_wp2_with fail
  go_loopw [6] (fun i wr => ∃ (k : Nat) (d : Option Nat) (idx : Int), k ≤ len0 ∧ i = .int .i64 k ∧ LStk wr w1.heap.size w1.heap.size d (ints (xs.take k).reverse) idx (-1) [] k ∧ Ctx w w.heap.size A xs wr) (fun i _ => len0 - (intOf i).toNat)
  case atStart => exact ⟨0, none, -1, Nat.zero_le _, rfl, HS2.out, HC2.out⟩
  case round =>
    obtain ⟨k, d, idx, hk, rfl, hst, hcx⟩ := hrel
    have HST := Lib.hid hst
    have HCX := Lib.hid hcx
    clear hst hcx HS2 HC2
    by_cases hlt : k < len0
    · obtain ⟨g, hA, hgC, hrow, hcell⟩ := HCX.out.1.get (i := k) (by rw [HXL.out]; exact hlt)
      have cx := hcell k (by rw [HXL.out]; exact hlt)
      subst hA
      clear hcell hrow
      go_wp2_with fail
      refine (zpush _ _ _ d _ idx _ _ _ HST.out (by omega) _).mono ?_
      rintro e w4 ⟨rfl, d', idx', hs4, hd4, ht4⟩
      have HS4 := Lib.hid hs4
      have HC4 := Lib.hid (HCX.out.step HST.out hs1 ht4 (fun k h => h))
      clear hs4 hd4 ht4
      unfold NoEnd
      go_wp2_with fail
      refine ⟨⟨k + 1, d', idx', by omega, by go_num, ?_, HC4.out⟩, by simp [intOf]; omega⟩
      rw [rev_take xs k (by rw [HXL.out]; exact hlt)]
      exact HS4.out
    · obtain rfl : k = len0 := by omega
      obtain ⟨g, hA, hgC, hrow, hcell⟩ := HCX.out.1.get (i := k - 1) (by rw [HXL.out]; omega)
      subst hA
      have HCELL := Lib.hid hcell
      have HRT := Lib.hid (show (xs.take k).reverse = xs.getD (k - 1) 0 :: (xs.take (k - 1)).reverse by
        have := rev_take xs (k - 1) (by rw [HXL.out]; omega)
        rwa [show k - 1 + 1 = k by omega] at this)
      clear hcell hrow
      obtain ⟨wo, hwo⟩ : ∃ wo : World, wo = wr := ⟨_, rfl⟩
      rw [← hwo] at HST HCX HCELL ⊢
      clear hwo
      go_wp2_with fail
      go_loopw [7] (fun i wr => ∃ (j m : Nat), (j : Int) ≤ a1 ∧ i = .int .i64 j ∧ wr = wo.drewN m) (fun i _ => (a1 - intOf i).toNat)
      case atStart => exact ⟨0, 0, by omega, rfl, rfl⟩
      case round =>
        obtain ⟨j, m, hj, rfl, rfl⟩ := hrel
        have cx : wo.cell? ⟨g, k - 1, none⟩ = some (.int .i64 (xs.getD (k - 1) 0)) := HCELL.out (k - 1) (by rw [HXL.out]; omega)
        have hq : (xs.getD (k - 1) 0 != xs.getD (k - 1) 0) = false := by simp
        by_cases hlt2 : (j : Int) < a1
        · go_wp2_with fail
          refine (ztop _ _ _ d (xs.take (k - 1)).reverse (xs.getD (k - 1) 0) idx _ _ _ (by have := HST.out.drewN m; rw [HRT.out] at this; exact this)).mono ?_
          rintro e w5 ⟨rfl, m5, rfl⟩
          go_wp2_with fail
          exact ⟨⟨j + 1, m + m5, by omega, by go_num, rfl⟩, by simp [intOf]; omega⟩
        · have HST2 := Lib.hid (HST.out.drewN m)
          have HCX2 := Lib.hid (HCX.out.drewN m)
          clear cx hq
          go_wp2_with fail
          obtain ⟨wp, hwp⟩ : ∃ wp : World, wp = wo.drewN m := ⟨_, rfl⟩
          rw [← hwp] at HST2 HCX2 ⊢
          clear hwp
          go_loopw [10] (fun i wr => ∃ (q : Nat) (idx : Int), q ≤ k ∧ i = .int .i64 ((q : Int) - 1) ∧ LStk wr w1.heap.size w1.heap.size d (ints (xs.take q).reverse) idx (-1) [] k ∧ Ctx w w.heap.size (some ⟨g, 0, none⟩) xs wr) (fun i _ => (intOf i + 1).toNat)
          case atStart => exact ⟨k, idx, Nat.le_refl _, rfl, HST2.out, HCX2.out⟩
          case round =>
            obtain ⟨q, idx2, hq, rfl, hst, hcx⟩ := hrel
            have HST3 := Lib.hid hst
            have HCX3 := Lib.hid hcx
            clear hst hcx
            by_cases hq0 : 0 < q
            · obtain ⟨g', hA, hgC', hrow, hcell⟩ := HCX3.out.1.get (i := q - 1) (by rw [HXL.out]; omega)
              injection hA with hA
              injection hA with hA
              subst hA
              have cx := hcell (q - 1) (by rw [HXL.out]; omega)
              have hqq : (xs.getD (q - 1) 0 != xs.getD (q - 1) 0) = false := by simp
              have HRT2 := Lib.hid (show (xs.take q).reverse = xs.getD (q - 1) 0 :: (xs.take (q - 1)).reverse by
                have := rev_take xs (q - 1) (by rw [HXL.out]; omega)
                rwa [show q - 1 + 1 = q by omega] at this)
              have hst := HST3.out
              rw [HRT2.out] at hst
              have HST4 := Lib.hid hst
              clear hcell hrow hst
              go_wp2_with fail
              refine (ztop _ _ _ d (xs.take (q - 1)).reverse (xs.getD (q - 1) 0) idx2 _ _ _ HST4.out).mono ?_
              rintro e w5 ⟨rfl, m5, rfl⟩
              go_wp2_with fail
              refine (ztop _ _ _ d (xs.take (q - 1)).reverse (xs.getD (q - 1) 0) idx2 _ _ _ (HST4.out.drewN m5)).mono ?_
              rintro e w6 ⟨rfl, m6, rfl⟩
              go_wp2_with fail
              refine (zpop _ _ _ d (xs.take (q - 1)).reverse (xs.getD (q - 1) 0) idx2 _ _ _ (HST4.out.drewN (m5 + m6))).mono ?_
              rintro e w7 ⟨rfl, ⟨idx7, hs7⟩, ht7⟩
              have hc7 := (HCX3.out.drewN (m5 + m6)).step (HST3.out.drewN (m5 + m6)) hs1 ht7 (fun k h => .inl h)
              have HS7 := Lib.hid hs7
              have HC7 := Lib.hid hc7
              obtain ⟨g', hA, _, _, hcell⟩ := hc7.1.get (i := q - 1) (by rw [HXL.out]; omega)
              injection hA with hA
              injection hA with hA
              subst hA
              have cx7 := hcell (q - 1) (by rw [HXL.out]; omega)
              clear hcell hs7 ht7 hc7
              go_wp2_with fail
              refine ⟨⟨q - 1, idx7, by omega, ?_, HS7.out, HC7.out⟩, by simp [intOf]; omega⟩
              rw [show ((q - 1 : Nat) : Int) = (q : Int) - 1 by omega]
            · obtain rfl : q = 0 := by omega
              go_wp2_with fail
              refine (zempty _ _ _ d [] idx2 _ _ _ HST3.out).mono ?_
              rintro e w8 ⟨rfl, rfl⟩
              go_wp2_with fail
              go_ret
              exact ⟨rfl, HCX3.out.2⟩
set_option maxRecDepth 100000 in
set_option maxHeartbeats 4000000 in
theorem fnTopIsPeek.zero (a0 : Option Addr) (cap0 : Nat) (z0 : List Int) (a1 : Int) (w : World) (w0 : IsRow .i64 w a0 0 cap0 z0) (h1 : 0 ≤ a1) (h2 : a1 ≤ 65536) :
    Calls Try.prog 3 #[.slice a0 0 cap0, .int .i64 a1] w fun e w' => e = .returned (.bool true) ∧ Below w.heap.size w w' := by
  have W0 := Lib.hid w0
  clear w0
  go_enter Try.func3, Try.ntmps3
  go_wp2_with (first | (go_at_call 8; go_in) | fail)
  refine (copy_ints a0 0 cap0 z0 _ W0.out (by omega)).mono ?_
  rintro e w1 ⟨A, c, rfl, hcp, hb1⟩
  have HB1 := Lib.hid hb1
  have hs1 := hb1.size
  clear hcp hb1 W0
  go_wp2_with fail
  refine (znew _).mono ?_
  rintro e w2 ⟨rfl, hs, hb2⟩
  have HS2 := Lib.hid hs
  have HB2 := Lib.hid (HB1.out.trans (hb2.mono hs1))
  clear hs hb2
  go_wp2_with fail
  go_loop [6] (fun i => i = .int .i64 0) (fun i => 0)
  case atStart => rfl
  case round =>
    subst hrel
    go_wp2_with fail
    go_loop [10] (fun i => i = .int .i64 (-1)) (fun i => 0)
    case atStart => rfl
    case round =>
      subst hrel
      go_wp2_with fail
      refine (zempty _ _ _ _ [] _ _ _ _ HS2.out).mono ?_
      rintro e w8 ⟨rfl, rfl⟩
      go_wp2_with fail
      go_ret
      exact ⟨rfl, HB2.out⟩
theorem fnTopIsPeek.walk (a0 : Option Addr) (len0 cap0 : Nat) (z0 : List Int) (a1 : Int) (w : World) (w0 : IsRow .i64 w a0 len0 cap0 z0) (w1 : (Lit.int .i64 a1).wf = true) :
    Calls Try.prog 3 #[.slice a0 len0 cap0, .int .i64 a1] w fun e w' => e = .returned (.bool true) ∧ Below w.heap.size w w' := by
  have hm := w0.len.2
  unfold maxLen at hm
  by_cases h0 : len0 ≤ 65536
  · by_cases h1 : 0 ≤ a1
    · by_cases h2 : a1 ≤ 65536
      · by_cases hn : 0 < len0
        · exact fnTopIsPeek.main a0 len0 cap0 z0 a1 w w0 hn h0 h1 h2
        · obtain rfl : len0 = 0 := by omega
          exact fnTopIsPeek.zero a0 cap0 z0 a1 w w0 h1 h2
      · clear w0 w1
        go_enter Try.func3, Try.ntmps3
        go_wp2
        all_goals (go_ret; exact ⟨rfl, Below.refl _ _⟩)
    · clear w0 w1
      go_enter Try.func3, Try.ntmps3
      go_wp2
      all_goals (go_ret; exact ⟨rfl, Below.refl _ _⟩)
  · clear w0 w1
    go_enter Try.func3, Try.ntmps3
    go_wp2
    all_goals (go_ret; exact ⟨rfl, Below.refl _ _⟩)
end Go.Proofs.Ythcggbbkbhcmjaa
