/-
  Contracts of the seat n001_85: the model's comment end, and the lexer's peek, skipComment and next.
-/
import Derived.Test.YtiallbkcpobkgaaPlain
import Derived.Test.YtiallbkcpobkgaaMem
import Derived.Test.YtiallbkcpobkgaaRows
import Derived.WalkKit
import Derived.IntWalk
import Derived.ProofKit
import Derived.WalkSpells
import Derived.WalkLawsBesides
import Derived.Deep.QuietTactic
import Derived.BigQuiet
import Derived.Deep.LoopGhost
import Derived.Outline
namespace Go.Proofs.Ytiallbkcpobkgaa
set_option linter.unusedVariables false
open Go.ChangeShapes Go.WideShapes Go.ChangeAt Go.RowKit M
def Ret (v : Value) (w : World) (e : Ending) (w' : World) : Prop := e = .returned v ∧ ∃ n, w' = w.drewN n
theorem run_step (b : Nat → Nat) (start e k : Nat) (h : run b start e = k + run b start (e - k)) (hk : start + k < e) (hb : b (e - 1 - k) = 92) : run b start e = (k + 1) + run b start (e - (k + 1)) := by
  have e1 : e - k = (e - 1 - k) + 1 := by omega
  rw [e1, run_yes b start _ (by omega) hb] at h
  rw [show e - (k + 1) = e - 1 - k by omega]
  omega
theorem run_zero (b : Nat → Nat) (start e : Nat) (h : e ≤ start ∨ b (e - 1) ≠ 92) : run b start e = 0 := by
  cases e with
  | zero => rfl
  | succ n =>
    rw [run, if_neg]
    rintro ⟨h1, h2⟩
    rcases h with h | h
    · omega
    · exact h h2
set_option maxHeartbeats 1000000 in
theorem bsrun (s : ByteArray) (start e : Nat) (w : World) (hs : s.size ≤ 1048577) (he : e ≤ s.size) (hst : start ≤ e) :
    Calls Try.prog 25 #[.string s, .int .i64 start, .int .i64 e] w (Ret (.int .i64 (run (byteAt s) start e : Nat)) w) := by
  go_enter Try.func25, Try.ntmps25
  go_wp2
  go_loopw [7] (fun i wr => ∃ (k m : Nat), start + k ≤ e ∧ run (byteAt s) start e = k + run (byteAt s) start (e - k) ∧ i = .int .i64 k ∧ wr = w.drewN m) (fun i _ => e - (intOf i).toNat)
  case atStart => exact ⟨0, 0, by omega, by simp, rfl, rfl⟩
  case round =>
    obtain ⟨k, m, hk, hr, rfl, rfl⟩ := hrel
    have HR := Lib.hid hr
    clear hr
    by_cases hlt : start + k < e
    · have hidx : e - 1 - k < s.size := by omega
      have hbb := byteAt_in s (e - 1 - k) hidx
      by_cases hb : byteAt s (e - 1 - k) = 92
      · have HB := Lib.hid hb
        have h1 : ((s[e - 1 - k].toNat : Int) == 92) = true := by rw [hbb, hb]; rfl
        clear hb hbb
        go_wp2
        exact ⟨⟨k + 1, m, by omega, run_step _ _ _ _ HR.out hlt HB.out, by go_num, rfl⟩, by simp [intOf]; omega⟩
      · have HB := Lib.hid hb
        have h1 : ((s[e - 1 - k].toNat : Int) == 92) = false := by rw [hbb, beq_eq_false_iff_ne]; omega
        clear hb hbb
        go_wp2
        go_ret
        refine ⟨?_, m, rfl⟩
        rw [HR.out, run_zero _ _ (e - k) (.inr (by rw [show e - k - 1 = e - 1 - k by omega]; exact HB.out))]
        rfl
    · go_wp2
      go_ret
      refine ⟨?_, m, rfl⟩
      rw [HR.out, run_zero _ _ (e - k) (.inl (by omega))]
      rfl
theorem bsrun_int (s : ByteArray) (start e : Nat) (x : Int) (hx : x = (e : Int)) (w : World) (hs : s.size ≤ 1048577) (he : e ≤ s.size) (hst : start ≤ e) :
    Calls Try.prog 25 #[.string s, .int .i64 start, .int .i64 x] w (Ret (.int .i64 (run (byteAt s) start e : Nat)) w) := by
  subst hx
  exact bsrun s start e w hs he hst
theorem odd_int (n : Nat) : (((n : Nat) : Int) % 2 == 1) = decide (n % 2 = 1) := by
  rw [Bool.eq_iff_iff, beq_iff_eq, decide_eq_true_eq]; omega
def escB (s : ByteArray) (start e : Nat) : Bool := pAt (byteAt s) start e || (decide (byteAt s e = 10) && qAt (byteAt s) start e)
set_option maxHeartbeats 2000000 in
theorem lesc (s : ByteArray) (start e : Nat) (w : World) (hs : s.size ≤ 1048577) (he : e < s.size) (hst : start ≤ e) :
    Calls Try.prog 21 #[.string s, .int .i64 start, .int .i64 e] w (Ret (.bool (escB s start e)) w) := by
  have hbe := byteAt_in s e he
  by_cases hp : run (byteAt s) start e % 2 = 1
  · have HX := Lib.hid (show escB s start e = true by unfold escB pAt; rw [decide_eq_true hp]; rfl)
    obtain ⟨n, hn⟩ : ∃ n, run (byteAt s) start e = n := ⟨_, rfl⟩
    have h1 : (((n : Nat) : Int) % 2 == 1) = true := by rw [odd_int, ← hn]; exact decide_eq_true hp
    have HN := Lib.hid hn
    clear hp hn hbe
    go_enter Try.func21, Try.ntmps21
    go_wp2_with fail
    refine (bsrun s start e _ hs (by omega) hst).mono ?_
    rintro en w' ⟨rfl, m, rfl⟩
    rw [HN.out]
    go_wp2_with fail
    go_ret
    exact ⟨by rw [HX.out]; rfl, m, rfl⟩
  · have HP := Lib.hid (show pAt (byteAt s) start e = false from decide_eq_false hp)
    obtain ⟨n, hn⟩ : ∃ n, run (byteAt s) start e = n := ⟨_, rfl⟩
    have h1 : (((n : Nat) : Int) % 2 == 1) = false := by rw [odd_int, ← hn]; exact decide_eq_false hp
    have HN := Lib.hid hn
    clear hp hn
    by_cases hb : byteAt s e = 10
    · have h2 : ((s[e].toNat : Int) == 10) = true := by rw [hbe, hb]; rfl
      by_cases hse : start < e
      · have hidx : e - 1 < s.size := by omega
        have hb1 := byteAt_in s (e - 1) hidx
        by_cases hc : byteAt s (e - 1) = 13
        · have h3 : ((s[e - 1].toNat : Int) == 13) = true := by rw [hb1, hc]; rfl
          have HX := Lib.hid (show escB s start e = decide (run (byteAt s) start (e - 1) % 2 = 1) by unfold escB qAt; rw [HP.out, decide_eq_true hb, decide_eq_true hse, decide_eq_true hc]; simp)
          obtain ⟨n2, hn2⟩ : ∃ n, run (byteAt s) start (e - 1) = n := ⟨_, rfl⟩
          have HN2 := Lib.hid hn2
          clear hb hbe hb1 hc hn2
          go_enter Try.func21, Try.ntmps21
          go_wp2_with fail
          refine (bsrun s start e _ hs (by omega) hst).mono ?_
          rintro en w' ⟨rfl, m, rfl⟩
          rw [HN.out]
          go_wp2_with fail
          refine (bsrun_int s start (e - 1) _ (by omega) _ hs (by omega) (by omega)).mono ?_
          rintro en w' ⟨rfl, m2, rfl⟩
          rw [HN2.out]
          go_wp2_with fail
          go_ret
          refine ⟨?_, m + m2, rfl⟩
          rw [HX.out, HN2.out, ← odd_int]
          rfl
        · have h3 : ((s[e - 1].toNat : Int) == 13) = false := by rw [hb1, beq_eq_false_iff_ne]; omega
          have HX := Lib.hid (show escB s start e = false by unfold escB qAt; rw [HP.out, decide_eq_false hc]; simp)
          clear hb hbe hb1 hc
          go_enter Try.func21, Try.ntmps21
          go_wp2_with fail
          refine (bsrun s start e _ hs (by omega) hst).mono ?_
          rintro en w' ⟨rfl, m, rfl⟩
          rw [HN.out]
          go_wp2_with fail
          go_ret
          exact ⟨by rw [HX.out]; rfl, m, rfl⟩
      · have HX := Lib.hid (show escB s start e = false by unfold escB qAt; rw [HP.out, decide_eq_false hse]; simp)
        clear hb hbe
        go_enter Try.func21, Try.ntmps21
        go_wp2_with fail
        refine (bsrun s start e _ hs (by omega) hst).mono ?_
        rintro en w' ⟨rfl, m, rfl⟩
        rw [HN.out]
        go_wp2_with fail
        go_ret
        exact ⟨by rw [HX.out]; rfl, m, rfl⟩
    · have h2 : ((s[e].toNat : Int) == 10) = false := by rw [hbe, beq_eq_false_iff_ne]; omega
      have HX := Lib.hid (show escB s start e = false by unfold escB; rw [HP.out, decide_eq_false hb]; simp)
      clear hb hbe
      go_enter Try.func21, Try.ntmps21
      go_wp2_with fail
      refine (bsrun s start e _ hs (by omega) hst).mono ?_
      rintro en w' ⟨rfl, m, rfl⟩
      rw [HN.out]
      go_wp2_with fail
      go_ret
      exact ⟨by rw [HX.out]; rfl, m, rfl⟩
set_option maxHeartbeats 2000000 in
theorem comment_end (s : ByteArray) (start : Nat) (w : World) (hs : s.size ≤ 1048577) (hst : start ≤ s.size) :
    Calls Try.prog 12 #[.string s, .int .i64 start] w (Ret (.tuple #[.int .i64 (cend s start).1, .bool (cend s start).2]) w) := by
  go_enter Try.func12, Try.ntmps12
  go_wp2
  go_loopw [6] (fun i wr => ∃ (e m : Nat), start ≤ e ∧ e ≤ s.size ∧ rest s start e = cend s start ∧ i = .int .i64 e ∧ wr = w.drewN m) (fun i _ => s.size - (intOf i).toNat)
  case atStart => exact ⟨start, 0, Nat.le_refl _, hst, rest_start s start, rfl, rfl⟩
  case round =>
    obtain ⟨e, m, hse, hes, hr, rfl, rfl⟩ := hrel
    have HR := Lib.hid hr
    clear hr
    by_cases hlt : e < s.size
    · have hbe := byteAt_in s e hlt
      by_cases h0 : byteAt s e = 0
      · have c0 : ((s[e].toNat : Int) == 0) = true := by rw [hbe, h0]; rfl
        have HX := Lib.hid (HR.out.symm.trans (rest_nul s start e hlt h0))
        clear h0 hbe
        go_wp2_with fail
        go_ret2
        exact ⟨by rw [HX.out]; rfl, m, rfl⟩
      · have c0 : ((s[e].toNat : Int) == 0) = false := by rw [hbe, beq_eq_false_iff_ne]; omega
        by_cases h1 : byteAt s e = 10
        · have c1 : ((s[e].toNat : Int) == 10) = true := by rw [hbe, h1]; rfl
          cases hx : escB s start e with
          | true =>
            have HX := Lib.hid ((rest_esc s start e hlt hse (.inl h1) hx).symm.trans HR.out)
            have HQ := Lib.hid hx
            clear h0 h1 hbe hx
            go_wp2_with fail
            refine (lesc s start e _ hs hlt hse).mono ?_
            rintro en w' ⟨rfl, m2, rfl⟩
            rw [HQ.out]
            go_wp2_with fail
            exact ⟨⟨e + 1, _, by omega, by omega, HX.out, by go_num, rfl⟩, by simp [intOf]; omega⟩
          | false =>
            have HX := Lib.hid (HR.out.symm.trans (rest_stop s start e hlt (.inl h1) hx))
            have HQ := Lib.hid hx
            clear h0 h1 hbe hx
            go_wp2_with fail
            refine (lesc s start e _ hs hlt hse).mono ?_
            rintro en w' ⟨rfl, m2, rfl⟩
            rw [HQ.out]
            go_wp2_with fail
            go_ret2
            exact ⟨by rw [HX.out]; rfl, _, rfl⟩
        · have c1 : ((s[e].toNat : Int) == 10) = false := by rw [hbe, beq_eq_false_iff_ne]; omega
          by_cases h2 : byteAt s e = 13
          · have c2 : ((s[e].toNat : Int) == 13) = true := by rw [hbe, h2]; rfl
            cases hx : escB s start e with
            | true =>
              have HX := Lib.hid ((rest_esc s start e hlt hse (.inr h2) hx).symm.trans HR.out)
              have HQ := Lib.hid hx
              clear h0 h1 h2 hbe hx
              go_wp2_with fail
              refine (lesc s start e _ hs hlt hse).mono ?_
              rintro en w' ⟨rfl, m2, rfl⟩
              rw [HQ.out]
              go_wp2_with fail
              exact ⟨⟨e + 1, _, by omega, by omega, HX.out, by go_num, rfl⟩, by simp [intOf]; omega⟩
            | false =>
              have HX := Lib.hid (HR.out.symm.trans (rest_stop s start e hlt (.inr h2) hx))
              have HQ := Lib.hid hx
              clear h0 h1 h2 hbe hx
              go_wp2_with fail
              refine (lesc s start e _ hs hlt hse).mono ?_
              rintro en w' ⟨rfl, m2, rfl⟩
              rw [HQ.out]
              go_wp2_with fail
              go_ret2
              exact ⟨by rw [HX.out]; rfl, _, rfl⟩
          · have c2 : ((s[e].toNat : Int) == 13) = false := by rw [hbe, beq_eq_false_iff_ne]; omega
            have HX : Hid (rest s start (e + 1) = cend s start) := by
              by_cases h3 : byteAt s e = 92
              · exact (rest_bs s start e hlt hse h3).symm.trans HR.out
              · exact (rest_other s start e hlt hse h0 h1 h2 h3).symm.trans HR.out
            clear h0 h1 h2 hbe
            go_wp2_with fail
            exact ⟨⟨e + 1, _, by omega, by omega, HX.out, by go_num, rfl⟩, by simp [intOf]; omega⟩
    · obtain rfl : e = s.size := by omega
      have HX := Lib.hid (HR.out.symm.trans (rest_end s start))
      go_wp2_with fail
      go_ret2
      exact ⟨by rw [HX.out]; rfl, m, rfl⟩
end Go.Proofs.Ytiallbkcpobkgaa
