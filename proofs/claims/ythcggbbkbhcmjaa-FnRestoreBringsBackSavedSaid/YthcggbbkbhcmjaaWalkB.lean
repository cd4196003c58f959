/-
  The walk of the law FnPushPopInverse (n001_8): it returns true for every input.
-/
import Derived.Test.YthcggbbkbhcmjaaWalkA
namespace Go.Proofs.Ythcggbbkbhcmjaa
set_option linter.unusedVariables false
open Go.ChangeShapes Go.WideShapes Go.ChangeAt Go.RowKit M
theorem rev_take' (xs : List Int) (q : Nat) (h0 : 0 < q) (hq : q ≤ xs.length) : (xs.take q).reverse = xs.getD (q - 1) 0 :: (xs.take (q - 1)).reverse := by
  have := rev_take xs (q - 1) (by omega)
  rwa [show q - 1 + 1 = q by omega] at this
set_option maxRecDepth 100000 in
set_option maxHeartbeats 4000000 in
theorem fnPushPopInverse.main (a0 : Option Addr) (len0 cap0 : Nat) (z0 : List Int) (dr : Nat) (a2 : Int) (w : World) (w0 : IsRow .i64 w a0 len0 cap0 z0) (hl : len0 ≤ 65536) (h2 : dr ≤ len0) :
    Calls Try.prog 4 #[.slice a0 len0 cap0, .int .i64 dr, .int .i64 a2] w fun e w' => e = .returned (.bool true) ∧ Below w.heap.size w w' := by
  have W0 := Lib.hid w0
  have HXL := Lib.hid (show (z0.take len0).length = len0 by rw [List.length_take]; have := w0.len; omega)
  clear w0
  have hvv : (a2 != a2) = false := by simp
  go_enter Try.func4, Try.ntmps4
  go_wp2_with (first | (go_at_call 15; go_in) | fail)
  refine (copy_ints a0 len0 cap0 z0 _ W0.out (by omega)).mono ?_
  rintro e w1 ⟨A, c, rfl, hcp, hb1⟩
  obtain ⟨xs, hxs⟩ : ∃ xs, z0.take len0 = xs := ⟨_, rfl⟩
  rw [hxs] at hcp HXL
  have HCP := Lib.hid hcp
  have HB1 := Lib.hid hb1
  have hs1 := hb1.size
  clear hcp hb1 hxs W0
  go_wp2_with fail
  refine (znew _).mono ?_
  rintro e w2 ⟨rfl, hs, hb2⟩
  have hctx : Ctx w w.heap.size A xs w2 := ⟨HCP.out.keep fun g cs hr => hr.keep hb2 hr.lt, HB1.out.trans (hb2.mono hs1)⟩
  have HS2 := Lib.hid hs
  have HC2 := Lib.hid hctx
  have hs2 := hb2.size
  clear hs hb2 hctx HCP HB1
  go_wp2_with fail
  go_loopw [8] (fun i wr => ∃ (k : Nat) (d : Option Nat) (idx : Int), k ≤ len0 ∧ i = .int .i64 k ∧ LStk wr w1.heap.size w1.heap.size d (ints (xs.take k).reverse) idx (-1) [] k ∧ Ctx w w.heap.size A xs wr) (fun i _ => len0 - (intOf i).toNat)
  case atStart => exact ⟨0, none, -1, Nat.zero_le _, rfl, HS2.out, HC2.out⟩
  case round =>
    obtain ⟨k, d, idx, hk, rfl, hst, hcx⟩ := hrel
    have HST := Lib.hid hst
    have HCX := Lib.hid hcx
    clear hst hcx HS2 HC2
    by_cases hlt : k < len0
    · obtain ⟨g, hA, hgC, hrow, hcell⟩ := HCX.out.1.get (i := k) (by rw [HXL.out]; exact hlt)
      have cx := hcell k (by rw [HXL.out]; exact hlt)
      subst hA
      clear hcell hrow
      go_wp2_with fail
      refine (zpush _ _ _ d _ idx _ _ _ HST.out (by omega) _).mono ?_
      rintro e w4 ⟨rfl, d', idx', hs4, hd4, ht4⟩
      have HS4 := Lib.hid hs4
      have HC4 := Lib.hid (HCX.out.step HST.out hs1 ht4 (fun k h => h))
      clear hs4 hd4 ht4
      unfold NoEnd
      go_wp2_with fail
      refine ⟨⟨k + 1, d', idx', by omega, by go_num, ?_, HC4.out⟩, by simp [intOf]; omega⟩
      rw [rev_take xs k (by rw [HXL.out]; exact hlt)]
      exact HS4.out
    · obtain rfl : k = len0 := by omega
      obtain ⟨wo, hwo⟩ : ∃ wo : World, wo = wr := ⟨_, rfl⟩
      rw [← hwo] at HST HCX ⊢
      clear hwo
      go_wp2_with fail
      go_loopw [9] (fun i wr => ∃ (j : Nat) (idx : Int), j ≤ dr ∧ i = .int .i64 j ∧ LStk wr w1.heap.size w1.heap.size d (ints (xs.take (k - j)).reverse) idx (-1) [] k ∧ Ctx w w.heap.size A xs wr) (fun i _ => dr - (intOf i).toNat)
      case atStart => exact ⟨0, idx, by omega, rfl, HST.out, HCX.out⟩
      case round =>
        obtain ⟨j, idx2, hj, rfl, hst, hcx⟩ := hrel
        have HST3 := Lib.hid hst
        have HCX3 := Lib.hid hcx
        clear hst hcx
        by_cases hlt2 : j < dr
        · have hst := HST3.out
          rw [rev_take' xs (k - j) (by omega) (by rw [HXL.out]; omega)] at hst
          have HST4 := Lib.hid hst
          clear hst
          have e1 : k - j - 1 = k - 1 - j := by omega
          rw [e1] at HST4
          clear e1
          go_wp2_with fail
          refine (zpop _ _ _ d (xs.take (k - 1 - j)).reverse (xs.getD (k - 1 - j) 0) idx2 _ _ _ HST4.out).mono ?_
          rintro e w7 ⟨rfl, ⟨idx7, hs7⟩, ht7⟩
          have hc7 := HCX3.out.step HST3.out hs1 ht7 (fun k h => .inl h)
          have HS7 := Lib.hid hs7
          have HC7 := Lib.hid hc7
          obtain ⟨g, hA, _, _, hcell⟩ := hc7.1.get (i := k - 1 - j) (by rw [HXL.out]; omega)
          subst hA
          have cx7 := hcell (k - 1 - j) (by rw [HXL.out]; omega)
          have hqq : (xs.getD (k - 1 - j) 0 != xs.getD (k - 1 - j) 0) = false := by simp
          clear hcell hs7 ht7 hc7
          go_wp2_with fail
          refine ⟨⟨j + 1, idx7, by omega, by go_num, ?_, HC7.out⟩, by simp [intOf]; omega⟩
          rw [show k - (j + 1) = k - 1 - j by omega]
          exact HS7.out
        · obtain rfl : j = dr := by omega
          obtain ⟨wq, hwq⟩ : ∃ wq : World, wq = wr := ⟨_, rfl⟩
          rw [← hwq] at HST3 HCX3 ⊢
          clear hwq
          go_wp2_with fail
          refine (zpush _ _ _ d _ idx2 _ _ _ HST3.out (by omega) _).mono ?_
          rintro e w4 ⟨rfl, d', idx', hs4, hd4, ht4⟩
          have HS4 := Lib.hid hs4
          have HC4 := Lib.hid (HCX3.out.step HST3.out hs1 ht4 (fun k h => h))
          clear hs4 hd4 ht4
          unfold NoEnd
          go_wp2_with fail
          refine (zempty _ _ _ d' _ idx' _ _ _ HS4.out).mono ?_
          rintro e w8 ⟨rfl, rfl⟩
          simp only [List.isEmpty_cons]
          go_wp2_with fail
          refine (zpop _ _ _ d' _ a2 idx' _ _ _ HS4.out).mono ?_
          rintro e w7 ⟨rfl, ⟨idx7, hs7⟩, ht7⟩
          have hc7 := HC4.out.step HS4.out hs1 ht7 (fun k h => .inl h)
          have HS7 := Lib.hid hs7
          have HC7 := Lib.hid hc7
          clear hs7 ht7 hc7
          go_wp2_with fail
          go_loopw [15] (fun i wr => ∃ (q : Nat) (idx : Int), q ≤ k - j ∧ i = .int .i64 ((q : Int) - 1) ∧ LStk wr w1.heap.size w1.heap.size d' (ints (xs.take q).reverse) idx (-1) [] (k + 1) ∧ Ctx w w.heap.size A xs wr) (fun i _ => (intOf i + 1).toNat)
          case atStart =>
            refine ⟨k - j, idx7, Nat.le_refl _, ?_, HS7.out, HC7.out⟩
            rw [show ((k - j : Nat) : Int) = (k : Int) - (j : Int) by omega]
          case round =>
            obtain ⟨q, idx8, hq, rfl, hst, hcx⟩ := hrel
            have HST8 := Lib.hid hst
            have HCX8 := Lib.hid hcx
            clear hst hcx
            by_cases hq0 : 0 < q
            · have hst := HST8.out
              rw [rev_take' xs q hq0 (by rw [HXL.out]; omega)] at hst
              have HST9 := Lib.hid hst
              clear hst
              go_wp2_with fail
              refine (zempty _ _ _ d' _ idx8 _ _ _ HST9.out).mono ?_
              rintro e w8 ⟨rfl, rfl⟩
              simp only [List.isEmpty_cons]
              go_wp2_with fail
              refine (zpop _ _ _ d' (xs.take (q - 1)).reverse (xs.getD (q - 1) 0) idx8 _ _ _ HST9.out).mono ?_
              rintro e w9 ⟨rfl, ⟨idx9, hs9⟩, ht9⟩
              have hc9 := HCX8.out.step HST8.out hs1 ht9 (fun k h => .inl h)
              have HS9 := Lib.hid hs9
              have HC9 := Lib.hid hc9
              obtain ⟨g, hA, _, _, hcell⟩ := hc9.1.get (i := q - 1) (by rw [HXL.out]; omega)
              subst hA
              have cx9 := hcell (q - 1) (by rw [HXL.out]; omega)
              have hqq : (xs.getD (q - 1) 0 != xs.getD (q - 1) 0) = false := by simp
              clear hcell hs9 ht9 hc9
              go_wp2_with fail
              refine ⟨⟨q - 1, idx9, by omega, ?_, HS9.out, HC9.out⟩, by simp [intOf]; omega⟩
              rw [show ((q - 1 : Nat) : Int) = (q : Int) - 1 by omega]
            · obtain rfl : q = 0 := by omega
              go_wp2_with fail
              refine (zempty _ _ _ d' [] idx8 _ _ _ HST8.out).mono ?_
              rintro e w8 ⟨rfl, rfl⟩
              go_wp2_with fail
              go_ret
              exact ⟨rfl, HCX8.out.2⟩
theorem fnPushPopInverse.walk (a0 : Option Addr) (len0 cap0 : Nat) (z0 : List Int) (a1 : Int) (a2 : Int) (w : World) (w0 : IsRow .i64 w a0 len0 cap0 z0) (w1 : (Lit.int .i64 a1).wf = true) (w2 : (Lit.int .i64 a2).wf = true) :
    Calls Try.prog 4 #[.slice a0 len0 cap0, .int .i64 a1, .int .i64 a2] w fun e w' => e = .returned (.bool true) ∧ Below w.heap.size w w' := by
  have hm := w0.len.2
  unfold maxLen at hm
  by_cases h0 : len0 ≤ 65536
  · by_cases h1 : 0 ≤ a1
    · by_cases h2 : a1 ≤ len0
      · obtain ⟨dr, rfl⟩ := Int.eq_ofNat_of_zero_le h1
        exact fnPushPopInverse.main a0 len0 cap0 z0 dr a2 w w0 h0 (by omega)
      · clear w0 w1 w2
        go_enter Try.func4, Try.ntmps4
        go_wp2
        all_goals (go_ret; exact ⟨rfl, Below.refl _ _⟩)
    · clear w0 w1 w2
      go_enter Try.func4, Try.ntmps4
      go_wp2
      all_goals (go_ret; exact ⟨rfl, Below.refl _ _⟩)
  · clear w0 w1 w2
    go_enter Try.func4, Try.ntmps4
    go_wp2
    all_goals (go_ret; exact ⟨rfl, Below.refl _ _⟩)
end Go.Proofs.Ythcggbbkbhcmjaa
