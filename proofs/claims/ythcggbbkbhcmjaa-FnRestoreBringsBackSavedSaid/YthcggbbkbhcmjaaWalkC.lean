/-
  The walk of the law FnFreshStacksIndependent (n001_8): it returns true for every input.
-/
import Derived.Test.YthcggbbkbhcmjaaWalkB
namespace Go.Proofs.Ythcggbbkbhcmjaa
set_option linter.unusedVariables false
open Go.ChangeShapes Go.WideShapes Go.ChangeAt Go.RowKit M
theorem LStk.base {w : World} {B B' p : Nat} {d : Option Nat} {l : List (Nat × Value)} {idx lim : Int} {sv : List (Int × Int × List (Nat × Value))} {N : Nat} (h : LStk w B p d l idx lim sv N) (hB : B' ≤ B) : LStk w B' p d l idx lim sv N := by
  obtain ⟨D, ⟨A, c, hr, hp, ho, hd⟩, r⟩ := h
  refine ⟨D, ⟨A, c, hr, by omega, ⟨ho.1, ?_⟩, hd⟩, r⟩
  rcases ho.2 with h2 | ⟨g, cap, cur, hv, hb, r⟩
  · exact .inl h2
  · exact .inr ⟨g, cap, cur, hv, by omega, r⟩
theorem LStk.dne {w : World} {B p : Nat} {d : Option Nat} {l : List (Nat × Value)} {idx lim : Int} {sv : List (Int × Int × List (Nat × Value))} {N : Nat} (h : LStk w B p d l idx lim sv N)
    {B2 p2 : Nat} {d2 : Option Nat} {l2 : List (Nat × Value)} {idx2 lim2 : Int} {sv2 : List (Int × Int × List (Nat × Value))} {N2 : Nat} (h2 : LStk w B2 p2 d2 l2 idx2 lim2 sv2 N2) : d ≠ some p2 := by
  obtain ⟨D, ⟨A, c, hr, hp, ho, rfl⟩, _⟩ := h
  obtain ⟨D2, ⟨A2, c2, hr2, _⟩, _⟩ := h2
  exact own_ne ho hr2 (by decide)
/-- Two stacks and two copies side by side; nothing that was there has turned. -/
def Two (w : World) (A1 A2 : Option Addr) (xs1 xs2 : List Int) (p1 p2 : Nat) (l1 l2 : List Int) (N : Nat) (wr : World) : Prop :=
  ∃ d1 d2 i1 i2, LStk wr w.heap.size p1 d1 (ints l1) i1 (-1) [] N ∧ LStk wr w.heap.size p2 d2 (ints l2) i2 (-1) [] N ∧ p1 ≠ p2 ∧ (∀ k, d1 = some k → d2 ≠ some k) ∧ Ctx w w.heap.size A1 xs1 wr ∧ Ctx w w.heap.size A2 xs2 wr
theorem Two.swap {w : World} {A1 A2 : Option Addr} {xs1 xs2 : List Int} {p1 p2 : Nat} {l1 l2 : List Int} {N : Nat} {wr : World} (h : Two w A1 A2 xs1 xs2 p1 p2 l1 l2 N wr) : Two w A2 A1 xs2 xs1 p2 p1 l2 l1 N wr := by
  obtain ⟨d1, d2, i1, i2, h1, h2, hp, hd, c1, c2⟩ := h
  exact ⟨d2, d1, i2, i1, h2, h1, Ne.symm hp, fun k hk h => hd k h hk, c2, c1⟩
theorem Two.more {w : World} {A1 A2 : Option Addr} {xs1 xs2 : List Int} {p1 p2 : Nat} {l1 l2 : List Int} {N N' : Nat} {wr : World} (h : Two w A1 A2 xs1 xs2 p1 p2 l1 l2 N wr) (hN : N ≤ N') : Two w A1 A2 xs1 xs2 p1 p2 l1 l2 N' wr := by
  obtain ⟨d1, d2, i1, i2, h1, h2, r⟩ := h
  exact ⟨d1, d2, i1, i2, h1.more hN, h2.more hN, r⟩
theorem Two.below {w : World} {A1 A2 : Option Addr} {xs1 xs2 : List Int} {p1 p2 : Nat} {l1 l2 : List Int} {N : Nat} {wr : World} (h : Two w A1 A2 xs1 xs2 p1 p2 l1 l2 N wr) : Below w.heap.size w wr := by
  obtain ⟨d1, d2, i1, i2, h1, h2, hp, hd, c1, c2⟩ := h
  exact c1.2
theorem Two.get {w : World} {A1 A2 : Option Addr} {xs1 xs2 : List Int} {p1 p2 : Nat} {l1 l2 : List Int} {N : Nat} {wr : World} (h : Two w A1 A2 xs1 xs2 p1 p2 l1 l2 N wr) {i : Nat} (hi : i < xs1.length) :
    ∃ g, A1 = some ⟨g, 0, none⟩ ∧ wr.cell? ⟨g, i, none⟩ = some (.int .i64 (xs1.getD i 0)) := by
  obtain ⟨d1, d2, i1, i2, h1, h2, hp, hd, c1, c2⟩ := h
  obtain ⟨g, hA, _, _, hc⟩ := c1.1.get hi
  exact ⟨g, hA, hc i hi⟩
theorem t_push (w : World) (A1 A2 : Option Addr) (xs1 xs2 : List Int) (p1 p2 : Nat) (l1 l2 : List Int) (N : Nat) (wr : World) (h : Two w A1 A2 xs1 xs2 p1 p2 l1 l2 N wr) (hN : N ≤ 1048576) (v : Int) :
    Calls Try.prog 11 #[.pointer (some ⟨p1, 0, none⟩), .int .i64 v] wr fun e w' => e = NoEnd ∧ Two w A1 A2 xs1 xs2 p1 p2 (v :: l1) l2 (N + 1) w' := by
  obtain ⟨d1, d2, i1, i2, h1, h2, hp, hd, c1, c2⟩ := h
  refine (zpush wr _ _ d1 l1 i1 _ _ _ h1 hN v).mono fun e w' ⟨he, d', idx', hs, hd', ht⟩ => ⟨he, d', d2, idx', i2, hs, ?_, hp, ?_, c1.step h1 (Nat.le_refl _) ht (fun k h => h), c2.step h1 (Nat.le_refl _) ht (fun k h => h)⟩
  · refine (h2.touch ht ?_ ?_).more (by omega)
    · rintro (h | h)
      · exact hp h.symm
      · exact h1.dne h2 h
    · rintro k rfl (h | h)
      · subst h; exact h2.dne h1 rfl
      · exact hd k h rfl
  · rcases hd' with rfl | ⟨k, rfl, hk⟩
    · exact hd
    · intro j hj h
      injection hj with hj
      subst hj h
      have := h2.dlt.2
      omega
theorem t_pop (w : World) (A1 A2 : Option Addr) (xs1 xs2 : List Int) (p1 p2 : Nat) (l1 l2 : List Int) (N : Nat) (wr : World) (v : Int) (h : Two w A1 A2 xs1 xs2 p1 p2 (v :: l1) l2 N wr) :
    Calls Try.prog 13 #[.pointer (some ⟨p1, 0, none⟩)] wr fun e w' => e = .returned (.tuple #[.int .i64 v, .bool true]) ∧ Two w A1 A2 xs1 xs2 p1 p2 l1 l2 N w' := by
  obtain ⟨d1, d2, i1, i2, h1, h2, hp, hd, c1, c2⟩ := h
  refine (zpop wr _ _ d1 l1 v i1 _ _ _ h1).mono fun e w' ⟨he, ⟨idx', hs⟩, ht⟩ => ⟨he, d1, d2, idx', i2, hs, ?_, hp, hd, c1.step h1 (Nat.le_refl _) ht (fun k h => .inl h), c2.step h1 (Nat.le_refl _) ht (fun k h => .inl h)⟩
  refine h2.touch ht (fun h => hp h.symm) ?_
  rintro k rfl h
  subst h; exact h2.dne h1 rfl
theorem t_top (w : World) (A1 A2 : Option Addr) (xs1 xs2 : List Int) (p1 p2 : Nat) (l1 l2 : List Int) (N : Nat) (wr : World) (v : Int) (h : Two w A1 A2 xs1 xs2 p1 p2 (v :: l1) l2 N wr) :
    Calls Try.prog 12 #[.pointer (some ⟨p1, 0, none⟩)] wr fun e w' => e = .returned (.tuple #[.int .i64 v, .bool true]) ∧ Two w A1 A2 xs1 xs2 p1 p2 (v :: l1) l2 N w' := by
  obtain ⟨d1, d2, i1, i2, h1, h2, hp, hd, c1, c2⟩ := h
  refine (ztop wr _ _ d1 l1 v i1 _ _ _ h1).mono fun e w' ⟨he, m, hm⟩ => ?_
  subst hm
  exact ⟨he, d1, d2, i1, i2, h1.drewN m, h2.drewN m, hp, hd, c1.drewN m, c2.drewN m⟩
theorem t_empty (w : World) (A1 A2 : Option Addr) (xs1 xs2 : List Int) (p1 p2 : Nat) (l1 l2 : List Int) (N : Nat) (wr : World) (h : Two w A1 A2 xs1 xs2 p1 p2 l1 l2 N wr) :
    Calls Try.prog 14 #[.pointer (some ⟨p1, 0, none⟩)] wr fun e w' => e = .returned (.bool l1.isEmpty) ∧ wr = w' := by
  obtain ⟨d1, d2, i1, i2, h1, _⟩ := h
  exact zempty wr _ _ d1 l1 i1 _ _ _ h1
theorem take_min (xs : List Int) (k n : Nat) (h : xs.length = n) : xs.take k = xs.take (min k n) := by
  by_cases hk : k ≤ n
  · rw [show min k n = k by omega]
  · rw [show min k n = n by omega, List.take_of_length_le (by omega), List.take_of_length_le (by omega)]
theorem rev_empty (xs : List Int) (h : xs.length = 0) (k : Nat) : (xs.take k).reverse.isEmpty = true := by
  have : xs = [] := List.eq_nil_of_length_eq_zero h
  subst this; simp
theorem rev_full (xs : List Int) (k : Nat) (h0 : 0 < k) (h : 0 < xs.length) : (xs.take k).reverse.isEmpty = false := by
  cases xs with
  | nil => simp at h
  | cons a r =>
    cases k with
    | zero => omega
    | succ k => simp
theorem IsRow.below {k : IntKind} {w w' : World} {a : Option Addr} {len cap : Nat} {zs : List Int} (h : IsRow k w a len cap zs) (hb : Below w.heap.size w w') : IsRow k w' a len cap zs := by
  rcases h with h | ⟨x, hx, h1, h2, h3, h4, h5⟩
  · exact .inl h
  · refine .inr ⟨x, hx, h1, h2, h3, fun i hi => ?_, h5⟩
    obtain ⟨b, o, rfl, hc⟩ := ints_at h4 (by omega)
    have := hc i hi
    rw [Go.WideShapes.add_plain]
    exact (hb.cell (p := ⟨b, o + i, none⟩) (cell_lt (s := none) this)).trans this
theorem CopyOf.base {k : IntKind} {t : TypeId} {w : World} {B B' : Nat} {A : Option Addr} {zs : List Int} (h : CopyOf k t w B A zs) (hB : B' ≤ B) : CopyOf k t w B' A zs := by
  rcases h with h | ⟨g, hA, hg, hr⟩
  · exact .inl h
  · exact .inr ⟨g, hA, by omega, hr⟩
theorem Ctx.keepB {w wr w' : World} {C : Nat} {A : Option Addr} {xs : List Int} (h : Ctx w C A xs wr) (hb : Below wr.heap.size wr w') : Ctx w C A xs w' := ⟨h.1.keep fun g cs hr => hr.keep hb hr.lt, h.2.trans (hb.mono h.2.size)⟩
set_option maxRecDepth 100000 in
set_option maxHeartbeats 8000000 in
theorem fnFreshStacksIndependent.main (a0 : Option Addr) (len0 cap0 : Nat) (z0 : List Int) (a1 : Option Addr) (len1 cap1 : Nat) (z1 : List Int) (w : World) (w0 : IsRow .i64 w a0 len0 cap0 z0) (w1 : IsRow .i64 w a1 len1 cap1 z1) (hl : len0 ≤ 65536) (hl1 : len1 ≤ 65536) (hl2 : 8 * (len0 + len1) ≤ 1048576)
    (n : Nat) (hn1 : len0 ≤ n) (hn2 : len1 ≤ n) (hn3 : n ≤ 65536) (hcase : (len0 < len1 ∧ n ≤ len1) ∨ (len1 ≤ len0 ∧ n ≤ len0)) :
    Calls Try.prog 7 #[.slice a0 len0 cap0, .slice a1 len1 cap1] w fun e w' => e = .returned (.bool true) ∧ Below w.heap.size w w' := by
  have W0 := Lib.hid w0
  have W1 := Lib.hid w1
  have HXL := Lib.hid (show (z0.take len0).length = len0 by rw [List.length_take]; have := w0.len; omega)
  have HYL := Lib.hid (show (z1.take len1).length = len1 by rw [List.length_take]; have := w1.len; omega)
  clear w0 w1
  have q1 : decide ((65536 : Int) < (len0 : Int)) = false := decide_eq_false (by omega)
  have q2 : decide ((65536 : Int) < (len1 : Int)) = false := decide_eq_false (by omega)
  have q3 : decide ((1048576 : Int) < 8 * ((len0 : Int) + (len1 : Int))) = false := decide_eq_false (by omega)
  rcases hcase with ⟨hmax, hn4⟩ | ⟨hmax, hn4⟩
  all_goals
    first | (have q4 : decide (len0 < len1) = true := decide_eq_true hmax) | (have q4 : decide (len0 < len1) = false := decide_eq_false (Nat.not_lt.2 hmax))
    go_enter Try.func7, Try.ntmps7
    go_wp2_with (first | (go_at_call 21; go_in) | fail)
    refine (copy_ints a0 len0 cap0 z0 _ W0.out (by omega)).mono ?_
    rintro e v1 ⟨A1, c1, rfl, hcp, hb1⟩
    obtain ⟨xs, hxs⟩ : ∃ xs, z0.take len0 = xs := ⟨_, rfl⟩
    rw [hxs] at hcp HXL
    have HCP := Lib.hid hcp
    have HB1 := Lib.hid hb1
    have hs1 := hb1.size
    have W2 := Lib.hid (W1.out.below hb1)
    clear hcp hb1 hxs
    go_wp2_with fail
    refine (copy_ints a1 len1 cap1 z1 _ W2.out (by omega)).mono ?_
    rintro e v2 ⟨A2, c2, rfl, hcp2, hb2⟩
    obtain ⟨ys, hys⟩ : ∃ ys, z1.take len1 = ys := ⟨_, rfl⟩
    rw [hys] at hcp2 HYL
    have HCX := Lib.hid (show Ctx w w.heap.size A1 xs v2 from ⟨HCP.out.keep fun g cs hr => hr.keep hb2 hr.lt, HB1.out.trans (hb2.mono hs1)⟩)
    have HCY := Lib.hid (show Ctx w w.heap.size A2 ys v2 from ⟨hcp2.base hs1, HB1.out.trans (hb2.mono hs1)⟩)
    have hs2 : w.heap.size ≤ v2.heap.size := Nat.le_trans hs1 hb2.size
    clear hcp2 hb2 hys HCP HB1 W0 W1 W2
    go_wp2_with fail
    refine (znew _).mono ?_
    rintro e v3 ⟨rfl, hs3, hb3⟩
    have HS3 := Lib.hid hs3
    have HCX3 := Lib.hid (HCX.out.keepB hb3)
    have HCY3 := Lib.hid (HCY.out.keepB hb3)
    have hz3 := hb3.size
    have hp3 := hs3.lt.2
    clear hs3 hb3 HCX HCY
    go_wp2_with fail
    refine (znew _).mono ?_
    rintro e v4 ⟨rfl, hs4, hb4⟩
    have HT := Lib.hid (show Two w A1 A2 xs ys v2.heap.size v3.heap.size [] [] 0 v4 from ⟨none, none, -1, -1, (HS3.out.below hb4).base hs2, hs4.base (by omega), by omega, fun k hk => (by cases hk), HCX3.out.keepB hb4, HCY3.out.keepB hb4⟩)
    clear hs4 hb4 HS3 HCX3 HCY3
    go_wp2_with fail
    refine (t_empty w A1 A2 xs ys _ _ [] [] 0 _ HT.out).mono ?_
    rintro e v5 ⟨rfl, rfl⟩
    go_wp2_with fail
    refine (t_empty w A2 A1 ys xs _ _ [] [] 0 _ HT.out.swap).mono ?_
    rintro e v5 ⟨rfl, rfl⟩
    go_wp2_with fail
    go_loopw [8] (fun i wr => ∃ (k : Nat), k ≤ n ∧ i = .int .i64 k ∧ Two w A1 A2 xs ys v2.heap.size v3.heap.size (xs.take k).reverse (ys.take k).reverse (2 * k) wr) (fun i _ => n - (intOf i).toNat)
    case atStart => exact ⟨0, Nat.zero_le _, rfl, HT.out⟩
    case round =>
      obtain ⟨k, hk, rfl, hT⟩ := hrel
      have HT1 := Lib.hid hT
      clear hT HT
      by_cases hlt : k < n
      · by_cases hx : k < len0
        · obtain ⟨g, hA, cx⟩ := HT1.out.get (i := k) (by rw [HXL.out]; exact hx)
          subst hA
          go_wp2_with fail
          refine (t_push w _ _ xs ys _ _ _ _ _ _ HT1.out (by omega) _).mono ?_
          rintro e v6 ⟨rfl, hT6⟩
          have HT6 := Lib.hid (show Two w _ A2 xs ys _ _ (xs.take (k + 1)).reverse (ys.take k).reverse (2 * k + 1) v6 by rw [rev_take xs k (by rw [HXL.out]; exact hx)]; exact hT6)
          clear hT6 cx
          unfold NoEnd
          by_cases hy : k < len1
          · obtain ⟨g2, hA2, cy⟩ := HT6.out.swap.get (i := k) (by rw [HYL.out]; exact hy)
            subst hA2
            go_wp2_with fail
            refine (t_push w _ _ ys xs _ _ _ _ _ _ HT6.out.swap (by omega) _).mono ?_
            rintro e v7 ⟨rfl, hT7⟩
            have HT7 := Lib.hid (show Two w _ _ ys xs _ _ (ys.take (k + 1)).reverse (xs.take (k + 1)).reverse (2 * k + 1 + 1) v7 by rw [rev_take ys k (by rw [HYL.out]; exact hy)]; exact hT7)
            clear hT7 cy
            unfold NoEnd
            go_wp2_with fail
            exact ⟨⟨k + 1, by omega, by go_num, HT7.out.swap⟩, by simp [intOf]; omega⟩
          · first
            | (exfalso; omega)
            | (have HE := Lib.hid (show ys.take k = ys.take (k + 1) by rw [List.take_of_length_le (by rw [HYL.out]; omega), List.take_of_length_le (by rw [HYL.out]; omega)])
               go_wp2_with fail
               refine ⟨⟨k + 1, by omega, by go_num, ?_⟩, by simp [intOf]; omega⟩
               rw [← HE.out]
               exact HT6.out.more (by omega))
        · first
          | (exfalso; omega)
          | (have hy : k < len1 := by omega
             have HE := Lib.hid (show xs.take k = xs.take (k + 1) by rw [List.take_of_length_le (by rw [HXL.out]; omega), List.take_of_length_le (by rw [HXL.out]; omega)])
             obtain ⟨g2, hA2, cy⟩ := HT1.out.swap.get (i := k) (by rw [HYL.out]; exact hy)
             subst hA2
             go_wp2_with fail
             refine (t_push w _ _ ys xs _ _ _ _ _ _ HT1.out.swap (by omega) _).mono ?_
             rintro e v7 ⟨rfl, hT7⟩
             have HT7 := Lib.hid (show Two w _ _ ys xs _ _ (ys.take (k + 1)).reverse (xs.take k).reverse (2 * k + 1) v7 by rw [rev_take ys k (by rw [HYL.out]; exact hy)]; exact hT7)
             clear hT7 cy
             unfold NoEnd
             go_wp2_with fail
             refine ⟨⟨k + 1, by omega, by go_num, ?_⟩, by simp [intOf]; omega⟩
             rw [← HE.out]
             exact HT7.out.swap.more (by omega))
      · obtain rfl : k = n := by omega
        have hT := HT1.out
        rw [List.take_of_length_le (show xs.length ≤ k by rw [HXL.out]; exact hn1), List.take_of_length_le (show ys.length ≤ k by rw [HYL.out]; exact hn2)] at hT
        have HT2 := Lib.hid hT
        clear hT HT1
        by_cases hx0 : 0 < len0
        · by_cases hy0 : 0 < len1
          · first
            | (exfalso; omega)
            | (have bx : ((len0 : Int) == 0) = false := by rw [beq_eq_false_iff_ne]; omega
               have ix : xs.reverse.isEmpty = false := by cases h : xs with
                 | nil => have := HXL.out; rw [h] at this; simp at this; omega
                 | cons a r => simp
               have bw : ((len1 : Int) == 0) = false := by rw [beq_eq_false_iff_ne]; omega
               have iy : ys.reverse.isEmpty = false := by cases h : ys with
                 | nil => have := HYL.out; rw [h] at this; simp at this; omega
                 | cons a r => simp
               go_wp2_with fail
               refine (t_empty w A1 A2 xs ys _ _ _ _ _ _ HT2.out).mono ?_
               rintro e v9 ⟨rfl, rfl⟩
               rw [ix]
               go_wp2_with fail
               refine (t_empty w A2 A1 ys xs _ _ _ _ _ _ HT2.out.swap).mono ?_
               rintro e v9 ⟨rfl, rfl⟩
               rw [iy]
               go_wp2_with fail
               have hT := HT2.out
               rw [show xs.reverse = xs.getD (len0 - 1) 0 :: (xs.take (len0 - 1)).reverse by rw [← rev_take' xs len0 (by omega) (by rw [HXL.out]; exact Nat.le_refl _), List.take_of_length_le (by rw [HXL.out]; exact Nat.le_refl _)]] at hT
               refine (t_top w _ _ xs ys _ _ _ _ _ _ (xs.getD (len0 - 1) 0) hT).mono ?_
               clear hT
               rintro e v10 ⟨rfl, hT9⟩
               obtain ⟨gx, hA, cx⟩ := hT9.get (i := len0 - 1) (by rw [HXL.out]; omega)
               rw [show xs.getD (len0 - 1) 0 :: (xs.take (len0 - 1)).reverse = xs.reverse by rw [← rev_take' xs len0 (by omega) (by rw [HXL.out]; exact Nat.le_refl _), List.take_of_length_le (by rw [HXL.out]; exact Nat.le_refl _)]] at hT9
               have HT3 := Lib.hid hT9
               clear hT9
               subst hA
               have hqq : (xs.getD (len0 - 1) 0 != xs.getD (len0 - 1) 0) = false := by simp
               go_wp2_with fail
               clear cx hqq
               have hT := HT3.out.swap
               rw [show ys.reverse = ys.getD (len1 - 1) 0 :: (ys.take (len1 - 1)).reverse by rw [← rev_take' ys len1 (by omega) (by rw [HYL.out]; exact Nat.le_refl _), List.take_of_length_le (by rw [HYL.out]; exact Nat.le_refl _)]] at hT
               refine (t_top w _ _ ys xs _ _ _ _ _ _ (ys.getD (len1 - 1) 0) hT).mono ?_
               clear hT
               rintro e v11 ⟨rfl, hT9⟩
               obtain ⟨gy, hA, cx⟩ := hT9.get (i := len1 - 1) (by rw [HYL.out]; omega)
               rw [show ys.getD (len1 - 1) 0 :: (ys.take (len1 - 1)).reverse = ys.reverse by rw [← rev_take' ys len1 (by omega) (by rw [HYL.out]; exact Nat.le_refl _), List.take_of_length_le (by rw [HYL.out]; exact Nat.le_refl _)]] at hT9
               have HT4 := Lib.hid hT9.swap
               clear hT9
               subst hA
               have hqq : (ys.getD (len1 - 1) 0 != ys.getD (len1 - 1) 0) = false := by simp
               go_wp2_with fail
               clear cx hqq
               have HT5 := Lib.hid HT4.out
               go_loopw [13] (fun i wr => ∃ (q : Nat), q ≤ len0 ∧ i = .int .i64 ((q : Int) - 1) ∧ Two w (some ⟨gx, 0, none⟩) (some ⟨gy, 0, none⟩) xs ys v2.heap.size v3.heap.size (xs.take q).reverse ys.reverse (2 * k) wr) (fun i _ => (intOf i + 1).toNat)
               case atStart => exact ⟨len0, Nat.le_refl _, rfl, by rw [List.take_of_length_le (by rw [HXL.out]; exact Nat.le_refl _)]; exact HT5.out⟩
               case round =>
                 obtain ⟨q, hq, rfl, hT⟩ := hrel
                 have HTq := Lib.hid hT
                 clear hT
                 by_cases hq0 : 0 < q
                 · have hT := HTq.out
                   rw [rev_take' xs q hq0 (by rw [HXL.out]; omega)] at hT
                   have HTq2 := Lib.hid hT
                   clear hT
                   go_wp2_with fail
                   refine (t_pop w (some ⟨gx, 0, none⟩) (some ⟨gy, 0, none⟩) xs ys _ _ _ _ _ _ (xs.getD (q - 1) 0) HTq2.out).mono ?_
                   rintro e v9 ⟨rfl, hT9⟩
                   have HT9 := Lib.hid hT9
                   obtain ⟨g, hA, cx⟩ := hT9.get (i := q - 1) (by rw [HXL.out]; omega)
                   first | subst hA | (injection hA with hA; injection hA with hA; subst hA)
                   have hqq : (xs.getD (q - 1) 0 != xs.getD (q - 1) 0) = false := by simp
                   clear hT9
                   go_wp2_with fail
                   refine ⟨⟨q - 1, by omega, ?_, HT9.out⟩, by simp [intOf]; omega⟩
                   rw [show ((q - 1 : Nat) : Int) = (q : Int) - 1 by omega]
                 · obtain rfl : q = 0 := by omega
                   go_wp2_with fail
                   refine (t_empty w (some ⟨gx, 0, none⟩) (some ⟨gy, 0, none⟩) xs ys _ _ [] _ _ _ HTq.out).mono ?_
                   rintro e v9 ⟨rfl, rfl⟩
                   go_wp2_with fail
                   refine (t_empty w (some ⟨gy, 0, none⟩) (some ⟨gx, 0, none⟩) ys xs _ _ ys.reverse [] _ _ HTq.out.swap).mono ?_
                   rintro e v9 ⟨rfl, rfl⟩
                   rw [iy]
                   obtain ⟨wz, hwz⟩ : ∃ wz : World, wz = wr := ⟨_, rfl⟩
                   rw [← hwz] at HTq ⊢
                   clear hwz
                   go_wp2_with fail
                   go_loopw [16] (fun i wr => ∃ (q : Nat), q ≤ len1 ∧ i = .int .i64 ((q : Int) - 1) ∧ Two w (some ⟨gx, 0, none⟩) (some ⟨gy, 0, none⟩) xs ys v2.heap.size v3.heap.size [] (ys.take q).reverse (2 * k) wr) (fun i _ => (intOf i + 1).toNat)
                   case atStart => exact ⟨len1, Nat.le_refl _, rfl, by rw [List.take_of_length_le (by rw [HYL.out]; exact Nat.le_refl _)]; exact HTq.out⟩
                   case round =>
                     obtain ⟨q, hq, rfl, hT⟩ := hrel
                     have HTr := Lib.hid hT
                     clear hT
                     by_cases hq0 : 0 < q
                     · have hT := HTr.out.swap
                       rw [rev_take' ys q hq0 (by rw [HYL.out]; omega)] at hT
                       have HTr2 := Lib.hid hT
                       clear hT
                       go_wp2_with fail
                       refine (t_pop w (some ⟨gy, 0, none⟩) (some ⟨gx, 0, none⟩) ys xs _ _ _ _ _ _ (ys.getD (q - 1) 0) HTr2.out).mono ?_
                       rintro e v9 ⟨rfl, hT9⟩
                       have HT9 := Lib.hid hT9
                       obtain ⟨g, hA, cx⟩ := hT9.get (i := q - 1) (by rw [HYL.out]; omega)
                       first | subst hA | (injection hA with hA; injection hA with hA; subst hA)
                       have hqq : (ys.getD (q - 1) 0 != ys.getD (q - 1) 0) = false := by simp
                       clear hT9
                       go_wp2_with fail
                       refine ⟨⟨q - 1, by omega, ?_, HT9.out.swap⟩, by simp [intOf]; omega⟩
                       rw [show ((q - 1 : Nat) : Int) = (q : Int) - 1 by omega]
                     · obtain rfl : q = 0 := by omega
                       go_wp2_with fail
                       refine (t_empty w (some ⟨gy, 0, none⟩) (some ⟨gx, 0, none⟩) ys xs _ _ [] _ _ _ HTr.out.swap).mono ?_
                       rintro e v9 ⟨rfl, rfl⟩
                       go_wp2_with fail
                       go_ret
                       exact ⟨rfl, HTr.out.below⟩)
          · first
            | (exfalso; omega)
            | (have bx : ((len0 : Int) == 0) = false := by rw [beq_eq_false_iff_ne]; omega
               have ix : xs.reverse.isEmpty = false := by cases h : xs with
                 | nil => have := HXL.out; rw [h] at this; simp at this; omega
                 | cons a r => simp
               have bw : ((len1 : Int) == 0) = true := by rw [beq_iff_eq]; omega
               have iy : ys.reverse.isEmpty = true := by
                 have : ys = [] := List.eq_nil_of_length_eq_zero (by rw [HYL.out]; omega)
                 rw [this]; rfl
               go_wp2_with fail
               refine (t_empty w A1 A2 xs ys _ _ _ _ _ _ HT2.out).mono ?_
               rintro e v9 ⟨rfl, rfl⟩
               rw [ix]
               go_wp2_with fail
               refine (t_empty w A2 A1 ys xs _ _ _ _ _ _ HT2.out.swap).mono ?_
               rintro e v9 ⟨rfl, rfl⟩
               rw [iy]
               go_wp2_with fail
               have hT := HT2.out
               rw [show xs.reverse = xs.getD (len0 - 1) 0 :: (xs.take (len0 - 1)).reverse by rw [← rev_take' xs len0 (by omega) (by rw [HXL.out]; exact Nat.le_refl _), List.take_of_length_le (by rw [HXL.out]; exact Nat.le_refl _)]] at hT
               refine (t_top w _ _ xs ys _ _ _ _ _ _ (xs.getD (len0 - 1) 0) hT).mono ?_
               clear hT
               rintro e v10 ⟨rfl, hT9⟩
               obtain ⟨gx, hA, cx⟩ := hT9.get (i := len0 - 1) (by rw [HXL.out]; omega)
               rw [show xs.getD (len0 - 1) 0 :: (xs.take (len0 - 1)).reverse = xs.reverse by rw [← rev_take' xs len0 (by omega) (by rw [HXL.out]; exact Nat.le_refl _), List.take_of_length_le (by rw [HXL.out]; exact Nat.le_refl _)]] at hT9
               have HT3 := Lib.hid hT9
               clear hT9
               subst hA
               have hqq : (xs.getD (len0 - 1) 0 != xs.getD (len0 - 1) 0) = false := by simp
               go_wp2_with fail
               clear cx hqq
               have HT5 := Lib.hid HT3.out
               go_loopw [13] (fun i wr => ∃ (q : Nat), q ≤ len0 ∧ i = .int .i64 ((q : Int) - 1) ∧ Two w (some ⟨gx, 0, none⟩) A2 xs ys v2.heap.size v3.heap.size (xs.take q).reverse ys.reverse (2 * k) wr) (fun i _ => (intOf i + 1).toNat)
               case atStart => exact ⟨len0, Nat.le_refl _, rfl, by rw [List.take_of_length_le (by rw [HXL.out]; exact Nat.le_refl _)]; exact HT5.out⟩
               case round =>
                 obtain ⟨q, hq, rfl, hT⟩ := hrel
                 have HTq := Lib.hid hT
                 clear hT
                 by_cases hq0 : 0 < q
                 · have hT := HTq.out
                   rw [rev_take' xs q hq0 (by rw [HXL.out]; omega)] at hT
                   have HTq2 := Lib.hid hT
                   clear hT
                   go_wp2_with fail
                   refine (t_pop w (some ⟨gx, 0, none⟩) A2 xs ys _ _ _ _ _ _ (xs.getD (q - 1) 0) HTq2.out).mono ?_
                   rintro e v9 ⟨rfl, hT9⟩
                   have HT9 := Lib.hid hT9
                   obtain ⟨g, hA, cx⟩ := hT9.get (i := q - 1) (by rw [HXL.out]; omega)
                   first | subst hA | (injection hA with hA; injection hA with hA; subst hA)
                   have hqq : (xs.getD (q - 1) 0 != xs.getD (q - 1) 0) = false := by simp
                   clear hT9
                   go_wp2_with fail
                   refine ⟨⟨q - 1, by omega, ?_, HT9.out⟩, by simp [intOf]; omega⟩
                   rw [show ((q - 1 : Nat) : Int) = (q : Int) - 1 by omega]
                 · obtain rfl : q = 0 := by omega
                   go_wp2_with fail
                   refine (t_empty w (some ⟨gx, 0, none⟩) A2 xs ys _ _ [] _ _ _ HTq.out).mono ?_
                   rintro e v9 ⟨rfl, rfl⟩
                   go_wp2_with fail
                   refine (t_empty w A2 (some ⟨gx, 0, none⟩) ys xs _ _ ys.reverse [] _ _ HTq.out.swap).mono ?_
                   rintro e v9 ⟨rfl, rfl⟩
                   rw [iy]
                   obtain ⟨wz, hwz⟩ : ∃ wz : World, wz = wr := ⟨_, rfl⟩
                   rw [← hwz] at HTq ⊢
                   clear hwz
                   go_wp2_with fail
                   go_loopw [16] (fun i wr => ∃ (q : Nat), q ≤ len1 ∧ i = .int .i64 ((q : Int) - 1) ∧ Two w (some ⟨gx, 0, none⟩) A2 xs ys v2.heap.size v3.heap.size [] (ys.take q).reverse (2 * k) wr) (fun i _ => (intOf i + 1).toNat)
                   case atStart => exact ⟨len1, Nat.le_refl _, rfl, by rw [List.take_of_length_le (by rw [HYL.out]; exact Nat.le_refl _)]; exact HTq.out⟩
                   case round =>
                     obtain ⟨q, hq, rfl, hT⟩ := hrel
                     have HTr := Lib.hid hT
                     clear hT
                     by_cases hq0 : 0 < q
                     · exfalso; omega
                     · obtain rfl : q = 0 := by omega
                       go_wp2_with fail
                       refine (t_empty w A2 (some ⟨gx, 0, none⟩) ys xs _ _ [] _ _ _ HTr.out.swap).mono ?_
                       rintro e v9 ⟨rfl, rfl⟩
                       go_wp2_with fail
                       go_ret
                       exact ⟨rfl, HTr.out.below⟩)
        · by_cases hy0 : 0 < len1
          · first
            | (exfalso; omega)
            | (have bx : ((len0 : Int) == 0) = true := by rw [beq_iff_eq]; omega
               have ix : xs.reverse.isEmpty = true := by
                 have : xs = [] := List.eq_nil_of_length_eq_zero (by rw [HXL.out]; omega)
                 rw [this]; rfl
               have bw : ((len1 : Int) == 0) = false := by rw [beq_eq_false_iff_ne]; omega
               have iy : ys.reverse.isEmpty = false := by cases h : ys with
                 | nil => have := HYL.out; rw [h] at this; simp at this; omega
                 | cons a r => simp
               go_wp2_with fail
               refine (t_empty w A1 A2 xs ys _ _ _ _ _ _ HT2.out).mono ?_
               rintro e v9 ⟨rfl, rfl⟩
               rw [ix]
               go_wp2_with fail
               refine (t_empty w A2 A1 ys xs _ _ _ _ _ _ HT2.out.swap).mono ?_
               rintro e v9 ⟨rfl, rfl⟩
               rw [iy]
               go_wp2_with fail
               have hT := HT2.out.swap
               rw [show ys.reverse = ys.getD (len1 - 1) 0 :: (ys.take (len1 - 1)).reverse by rw [← rev_take' ys len1 (by omega) (by rw [HYL.out]; exact Nat.le_refl _), List.take_of_length_le (by rw [HYL.out]; exact Nat.le_refl _)]] at hT
               refine (t_top w _ _ ys xs _ _ _ _ _ _ (ys.getD (len1 - 1) 0) hT).mono ?_
               clear hT
               rintro e v11 ⟨rfl, hT9⟩
               obtain ⟨gy, hA, cx⟩ := hT9.get (i := len1 - 1) (by rw [HYL.out]; omega)
               rw [show ys.getD (len1 - 1) 0 :: (ys.take (len1 - 1)).reverse = ys.reverse by rw [← rev_take' ys len1 (by omega) (by rw [HYL.out]; exact Nat.le_refl _), List.take_of_length_le (by rw [HYL.out]; exact Nat.le_refl _)]] at hT9
               have HT4 := Lib.hid hT9.swap
               clear hT9
               subst hA
               have hqq : (ys.getD (len1 - 1) 0 != ys.getD (len1 - 1) 0) = false := by simp
               go_wp2_with fail
               clear cx hqq
               have HT5 := Lib.hid HT4.out
               go_loopw [13] (fun i wr => ∃ (q : Nat), q ≤ len0 ∧ i = .int .i64 ((q : Int) - 1) ∧ Two w A1 (some ⟨gy, 0, none⟩) xs ys v2.heap.size v3.heap.size (xs.take q).reverse ys.reverse (2 * k) wr) (fun i _ => (intOf i + 1).toNat)
               case atStart => exact ⟨len0, Nat.le_refl _, rfl, by rw [List.take_of_length_le (by rw [HXL.out]; exact Nat.le_refl _)]; exact HT5.out⟩
               case round =>
                 obtain ⟨q, hq, rfl, hT⟩ := hrel
                 have HTq := Lib.hid hT
                 clear hT
                 by_cases hq0 : 0 < q
                 · exfalso; omega
                 · obtain rfl : q = 0 := by omega
                   go_wp2_with fail
                   refine (t_empty w A1 (some ⟨gy, 0, none⟩) xs ys _ _ [] _ _ _ HTq.out).mono ?_
                   rintro e v9 ⟨rfl, rfl⟩
                   go_wp2_with fail
                   refine (t_empty w (some ⟨gy, 0, none⟩) A1 ys xs _ _ ys.reverse [] _ _ HTq.out.swap).mono ?_
                   rintro e v9 ⟨rfl, rfl⟩
                   rw [iy]
                   obtain ⟨wz, hwz⟩ : ∃ wz : World, wz = wr := ⟨_, rfl⟩
                   rw [← hwz] at HTq ⊢
                   clear hwz
                   go_wp2_with fail
                   go_loopw [16] (fun i wr => ∃ (q : Nat), q ≤ len1 ∧ i = .int .i64 ((q : Int) - 1) ∧ Two w A1 (some ⟨gy, 0, none⟩) xs ys v2.heap.size v3.heap.size [] (ys.take q).reverse (2 * k) wr) (fun i _ => (intOf i + 1).toNat)
                   case atStart => exact ⟨len1, Nat.le_refl _, rfl, by rw [List.take_of_length_le (by rw [HYL.out]; exact Nat.le_refl _)]; exact HTq.out⟩
                   case round =>
                     obtain ⟨q, hq, rfl, hT⟩ := hrel
                     have HTr := Lib.hid hT
                     clear hT
                     by_cases hq0 : 0 < q
                     · have hT := HTr.out.swap
                       rw [rev_take' ys q hq0 (by rw [HYL.out]; omega)] at hT
                       have HTr2 := Lib.hid hT
                       clear hT
                       go_wp2_with fail
                       refine (t_pop w (some ⟨gy, 0, none⟩) A1 ys xs _ _ _ _ _ _ (ys.getD (q - 1) 0) HTr2.out).mono ?_
                       rintro e v9 ⟨rfl, hT9⟩
                       have HT9 := Lib.hid hT9
                       obtain ⟨g, hA, cx⟩ := hT9.get (i := q - 1) (by rw [HYL.out]; omega)
                       first | subst hA | (injection hA with hA; injection hA with hA; subst hA)
                       have hqq : (ys.getD (q - 1) 0 != ys.getD (q - 1) 0) = false := by simp
                       clear hT9
                       go_wp2_with fail
                       refine ⟨⟨q - 1, by omega, ?_, HT9.out.swap⟩, by simp [intOf]; omega⟩
                       rw [show ((q - 1 : Nat) : Int) = (q : Int) - 1 by omega]
                     · obtain rfl : q = 0 := by omega
                       go_wp2_with fail
                       refine (t_empty w (some ⟨gy, 0, none⟩) A1 ys xs _ _ [] _ _ _ HTr.out.swap).mono ?_
                       rintro e v9 ⟨rfl, rfl⟩
                       go_wp2_with fail
                       go_ret
                       exact ⟨rfl, HTr.out.below⟩)
          · first
            | (exfalso; omega)
            | (have bx : ((len0 : Int) == 0) = true := by rw [beq_iff_eq]; omega
               have ix : xs.reverse.isEmpty = true := by
                 have : xs = [] := List.eq_nil_of_length_eq_zero (by rw [HXL.out]; omega)
                 rw [this]; rfl
               have bw : ((len1 : Int) == 0) = true := by rw [beq_iff_eq]; omega
               have iy : ys.reverse.isEmpty = true := by
                 have : ys = [] := List.eq_nil_of_length_eq_zero (by rw [HYL.out]; omega)
                 rw [this]; rfl
               go_wp2_with fail
               refine (t_empty w A1 A2 xs ys _ _ _ _ _ _ HT2.out).mono ?_
               rintro e v9 ⟨rfl, rfl⟩
               rw [ix]
               go_wp2_with fail
               refine (t_empty w A2 A1 ys xs _ _ _ _ _ _ HT2.out.swap).mono ?_
               rintro e v9 ⟨rfl, rfl⟩
               rw [iy]
               go_wp2_with fail
               have HT5 := Lib.hid HT2.out
               go_loopw [13] (fun i wr => ∃ (q : Nat), q ≤ len0 ∧ i = .int .i64 ((q : Int) - 1) ∧ Two w A1 A2 xs ys v2.heap.size v3.heap.size (xs.take q).reverse ys.reverse (2 * k) wr) (fun i _ => (intOf i + 1).toNat)
               case atStart => exact ⟨len0, Nat.le_refl _, rfl, by rw [List.take_of_length_le (by rw [HXL.out]; exact Nat.le_refl _)]; exact HT5.out⟩
               case round =>
                 obtain ⟨q, hq, rfl, hT⟩ := hrel
                 have HTq := Lib.hid hT
                 clear hT
                 by_cases hq0 : 0 < q
                 · exfalso; omega
                 · obtain rfl : q = 0 := by omega
                   go_wp2_with fail
                   refine (t_empty w A1 A2 xs ys _ _ [] _ _ _ HTq.out).mono ?_
                   rintro e v9 ⟨rfl, rfl⟩
                   go_wp2_with fail
                   refine (t_empty w A2 A1 ys xs _ _ ys.reverse [] _ _ HTq.out.swap).mono ?_
                   rintro e v9 ⟨rfl, rfl⟩
                   rw [iy]
                   obtain ⟨wz, hwz⟩ : ∃ wz : World, wz = wr := ⟨_, rfl⟩
                   rw [← hwz] at HTq ⊢
                   clear hwz
                   go_wp2_with fail
                   go_loopw [16] (fun i wr => ∃ (q : Nat), q ≤ len1 ∧ i = .int .i64 ((q : Int) - 1) ∧ Two w A1 A2 xs ys v2.heap.size v3.heap.size [] (ys.take q).reverse (2 * k) wr) (fun i _ => (intOf i + 1).toNat)
                   case atStart => exact ⟨len1, Nat.le_refl _, rfl, by rw [List.take_of_length_le (by rw [HYL.out]; exact Nat.le_refl _)]; exact HTq.out⟩
                   case round =>
                     obtain ⟨q, hq, rfl, hT⟩ := hrel
                     have HTr := Lib.hid hT
                     clear hT
                     by_cases hq0 : 0 < q
                     · exfalso; omega
                     · obtain rfl : q = 0 := by omega
                       go_wp2_with fail
                       refine (t_empty w A2 A1 ys xs _ _ [] _ _ _ HTr.out.swap).mono ?_
                       rintro e v9 ⟨rfl, rfl⟩
                       go_wp2_with fail
                       go_ret
                       exact ⟨rfl, HTr.out.below⟩)
end Go.Proofs.Ythcggbbkbhcmjaa
