/-
  The helpers of the laws of n001_88 (zzIsInf, zzSignBit, zzSame, zzNormalize) and the walks of both laws on the significand.
-/
import Derived.Test.YtgkgggddhekhpaaBase
import Derived.Lib.Hide
namespace Go.Proofs.Ytgkgggddhekhpaa
set_option linter.unusedVariables false
open Go.ChangeShapes Go.WideShapes Go.ChangeAt Go.RowKit
theorem zinf_no (s : Bool) (r : Nat) (h : r < Inf) (w : World) : Calls Try.prog 7 #[.float .f64 (W s r)] w (RetB false w) := by
  have hf := f64_eq
  have h1 : (Ieee.double.order (W s r) 9218868437227405311 == some .gt) = false := by
    rw [ord_c c_max (by decide) s r (by omega)]
    by_cases h1 : val s r = val false (Inf - 1)
    · rw [cmp_eq h1]; rfl
    · rw [cmp_lt (by cases s <;> simp only [val_f, val_t, Inf] at * <;> omega)]; rfl
  have h2 : (Ieee.double.order (W s r) 18442240474082181119 == some .lt) = false := by
    rw [ord_c c_nmax (by decide) s r (by omega)]
    by_cases h1 : val s r = val true (Inf - 1)
    · rw [cmp_eq h1]; rfl
    · rw [cmp_gt (by cases s <;> simp only [val_f, val_t, Inf] at * <;> omega)]; rfl
  go_enter Try.func7, Try.ntmps7
  go_wp2
  go_ret
  exact ⟨rfl, rfl⟩
theorem zinf_yes (s : Bool) (w : World) : Calls Try.prog 7 #[.float .f64 (W s Inf)] w (RetB true w) := by
  have hf := f64_eq
  cases s
  · have h1 : Ieee.double.order (W false Inf) 9218868437227405311 = some .gt := by decide
    go_enter Try.func7, Try.ntmps7
    go_wp2
    go_ret
    exact ⟨rfl, rfl⟩
  · have h1 : Ieee.double.order (W true Inf) 9218868437227405311 = some .lt := by decide
    have h2 : Ieee.double.order (W true Inf) 18442240474082181119 = some .lt := by decide
    go_enter Try.func7, Try.ntmps7
    go_wp2
    go_ret
    exact ⟨rfl, rfl⟩
theorem sign_any (s : Bool) (r : Nat) (h : r ≤ Inf) (w : World) : Calls Try.prog 11 #[.float .f64 (W s r)] w (RetB s w) := by
  have hf := f64_eq
  by_cases h0 : r = 0
  · subst h0
    have h1 : Ieee.double.order (W s 0) 0 = some .eq := by cases s <;> decide
    have h2 := run_div _ _ _ (div_one_zero s)
    have h3 : (Ieee.double.order (W s Inf) 0 == some .lt) = s := by cases s <;> decide
    go_enter Try.func11, Try.ntmps11
    go_wp2
    go_ret
    exact ⟨rfl, rfl⟩
  · cases s
    · have h1 : Ieee.double.order (W false r) 0 = some .gt := by rw [ord_c c_zero (by decide) false r h, cmp_gt (by simp only [val_f]; omega)]
      go_enter Try.func11, Try.ntmps11
      go_wp2
      go_ret
      exact ⟨rfl, rfl⟩
    · have h1 : Ieee.double.order (W true r) 0 = some .lt := by rw [ord_c c_zero (by decide) true r h, cmp_lt (by simp only [val_f, val_t]; omega)]
      go_enter Try.func11, Try.ntmps11
      go_wp2
      go_ret
      exact ⟨rfl, rfl⟩
theorem same_self (s : Bool) (r : Nat) (h : r ≤ Inf) (w : World) : Calls Try.prog 8 #[.float .f64 (W s r), .float .f64 (W s r)] w (RetB true w) := by
  have hf := f64_eq
  have h1 := ord_self s r h
  have h2 : (s == s) = true := by simp
  go_enter Try.func8, Try.ntmps8
  go_wp2_with (first | (go_at_call 6; refine (znan_no s r h _).mono ?_; rintro e w' ⟨rfl, rfl⟩) | (go_at_call 11; refine (sign_any s r h _).mono ?_; rintro e w' ⟨rfl, rfl⟩))
  go_ret
  exact ⟨rfl, rfl⟩
def rungOf : Value → Nat
  | .float _ b => b
  | _ => 0
theorem rungOf_W (k : FloatKind) (q : Nat) : rungOf (.float k (W false q)) = q := by simp [rungOf, W_eq]
theorem ge_two (q : Nat) (hq : q < Inf) : (Ieee.double.order (W false q) 4611686018427387904) = some (compare (q : Int) ((1024 * B : Nat) : Int)) := ord_c c_two (by decide) false q (by omega)
theorem lt_one (q : Nat) (hq : q < Inf) : (Ieee.double.order (W false q) 4607182418800017408) = some (compare (q : Int) ((1023 * B : Nat) : Int)) := ord_c c_one (by decide) false q (by omega)
set_option maxHeartbeats 1000000 in
theorem norm_walk (s : Bool) (r : Nat) (h0 : r ≠ 0) (h : r < Inf) (w : World) : Calls Try.prog 9 #[.float .f64 (W s r), .float .f64 4607182418800017408] w (RetFI (W s (nrm r)) w) := by
  have hf := f64_eq
  have h2 := run_mul 4607182418800017408 4611686018427387904 4611686018427387904 (by decide)
  have hneg : W true r ^^^ 9223372036854775808 = W false r := W_neg true r (inf_le (by omega))
  have hneg2 : W false (nrm r) ^^^ 9223372036854775808 = W true (nrm r) := W_neg false _ (by have := nrm_bd r; simp only [B, SW] at *; omega)
  have hs : (Ieee.double.order (W s r) 0 == some .lt) = s := by
    cases s
    · rw [ord_c c_zero (by decide) false r (by omega), cmp_gt (by simp only [val_f]; omega)]; rfl
    · rw [ord_c c_zero (by decide) true r (by omega), cmp_lt (by simp only [val_f, val_t]; omega)]; rfl
  have HN := Lib.hid hneg2
  cases s
  all_goals
    clear hneg2
    go_enter Try.func9, Try.ntmps9
    go_wp2
    go_loop [6, 7] (fun a e => ∃ (q : Nat) (n : Int), q < Inf ∧ q ≠ 0 ∧ a = .float .f64 (W false q) ∧ e = .int .i64 n ∧ nrm q = nrm r) (fun a _ => rungOf a)
    case atStart => exact ⟨r, 0, h, h0, rfl, rfl, rfl⟩
    case round =>
      obtain ⟨q, n, hq, hq0, rfl, rfl, hN⟩ := hrel
      have HQ := Lib.hid hN
      clear hN
      by_cases hge : 1024 * B ≤ q
      · have c1 : (Ieee.double.order (W false q) 4611686018427387904 == some .gt || Ieee.double.order (W false q) 4611686018427387904 == some .eq) = true := by
          rw [ge_two q hq]
          by_cases e : q = 1024 * B
          · rw [cmp_eq (by omega)]; rfl
          · rw [cmp_gt (by omega)]; rfl
        have h3 := run_div _ _ _ (div_two false q (by simp only [B] at *; omega) hq)
        go_wp2
        go_round
        case rel => exact ⟨q - B, _, by omega, by simp only [B] at *; omega, rfl, rfl, by rw [nrm_sub q (by simp only [B] at *; omega)]; exact HQ.out⟩
        case measure => simp only [rungOf_W]; have := B_pos; omega
      · have c1 : Ieee.double.order (W false q) 4611686018427387904 = some .lt := by
          rw [ge_two q hq, cmp_lt (by omega)]
        go_wp2
        go_loop [6, 7] (fun a e => ∃ (q : Nat) (n : Int), q < 1024 * B ∧ q ≠ 0 ∧ a = .float .f64 (W false q) ∧ e = .int .i64 n ∧ nrm q = nrm r) (fun a _ => 1024 * B - rungOf a)
        case atStart => exact ⟨q, n, by omega, hq0, rfl, rfl, HQ.out⟩
        case round =>
          obtain ⟨q', n', hq', hq0', rfl, rfl, hN⟩ := hrel
          have HQ' := Lib.hid hN
          clear hN c1
          have hi : q' < Inf := by simp only [B, Inf] at *; omega
          by_cases hlt : q' < 1023 * B
          · have c1 : Ieee.double.order (W false q') 4607182418800017408 = some .lt := by
              rw [lt_one q' hi, cmp_lt (by omega)]
            by_cases hb : q' < B
            · have h3 := run_mul _ _ _ (mul_two_sub false q' hb hq0')
              go_wp2
              go_round
              case rel => exact ⟨2 * q', _, by omega, by omega, rfl, rfl, by rw [nrm_two q' hq0' hb]; exact HQ'.out⟩
              case measure => simp only [rungOf_W]; have := B_pos; omega
            · have h3 := run_mul _ _ _ (mul_two_norm false q' (by omega) (by simp only [B, Inf] at *; omega))
              go_wp2
              go_round
              case rel => exact ⟨q' + B, _, by omega, by omega, rfl, rfl, by rw [nrm_add q' (by omega)]; exact HQ'.out⟩
              case measure => simp only [rungOf_W]; have := B_pos; omega
          · have c1 : (Ieee.double.order (W false q') 4607182418800017408 == some .lt) = false := by
              rw [lt_one q' hi]
              by_cases e : q' = 1023 * B
              · rw [cmp_eq (by omega)]; rfl
              · rw [cmp_gt (by omega)]; rfl
            obtain rfl : nrm r = q' := by rw [← HQ'.out]; exact nrm_end q' (by omega) hq'
            have hneg3 := HN.out
            go_wp2
            go_ret2
            exact ⟨_, rfl, rfl⟩
theorem drewG (w : World) : Grown w w.drew := (Grown.refl w).drew
theorem split_cases (s : Bool) (r : Nat) (h : r < SW) : r = 0 ∨ (r ≠ 0 ∧ r < Inf) ∨ r = Inf ∨ Inf < r := by omega
theorem nrm_le (r : Nat) : nrm r ≤ Inf := by have := nrm_bd r; simp only [B, Inf] at *; omega
theorem wf_lt {b : Nat} (h : (Lit.float .f64 b).wf = true) : b < 18446744073709551616 := by simpa [Lit.wf] using h
set_option maxHeartbeats 1000000 in
theorem fnSignificandMatchesNormalisation.walk (b : Nat) (hw : (Lit.float .f64 b).wf = true) (w : World) :
    Calls Try.prog 3 #[.float .f64 b] w fun e w' => e = .returned (.bool true) ∧ Grown w w' := by
  obtain ⟨s, r, hr, rfl⟩ := W_split b (wf_lt hw)
  clear hw
  have hf := f64_eq
  rcases split_cases s r hr with rfl | ⟨h0, h1⟩ | rfl | h1
  · have hz : Ieee.double.order (W s 0) 0 = some .eq := by cases s <;> decide
    go_enter Try.func3, Try.ntmps3
    go_wp2_with (first | (go_at_call 5; refine (sig_zero s _).mono ?_; rintro e w' ⟨rfl, rfl⟩) | (go_at_call 6; refine (znan_no s 0 (by decide) _).mono ?_; rintro e w' ⟨rfl, rfl⟩) | (go_at_call 8; refine (same_self s 0 (by decide) _).mono ?_; rintro e w' ⟨rfl, rfl⟩))
    go_ret
    exact ⟨rfl, Grown.refl _⟩
  · have hz : (Ieee.double.order (W s r) 0 == some .eq) = false := by
      rw [ord_c c_zero (by decide) s r (by omega)]
      cases s
      · rw [cmp_gt (by simp only [val_f]; omega)]; rfl
      · rw [cmp_lt (by simp only [val_f, val_t]; omega)]; rfl
    go_enter Try.func3, Try.ntmps3
    go_wp2_with (first | (go_at_call 5; refine (sig_fin s r h0 h1 _).mono ?_; rintro e w' ⟨rfl, rfl⟩) | (go_at_call 6; refine (znan_no s r (by omega) _).mono ?_; rintro e w' ⟨rfl, rfl⟩) | (go_at_call 7; refine (zinf_no s r h1 _).mono ?_; rintro e w' ⟨rfl, rfl⟩) | (go_at_call 9; refine (norm_walk s r h0 h1 _).mono ?_; rintro e w' ⟨n, rfl, rfl⟩) | (go_at_call 8; refine (same_self s (nrm r) (nrm_le r) _).mono ?_; rintro e w' ⟨rfl, rfl⟩))
    go_ret
    exact ⟨rfl, Grown.refl _⟩
  · have hz : (Ieee.double.order (W s Inf) 0 == some .eq) = false := by cases s <;> decide
    go_enter Try.func3, Try.ntmps3
    go_wp2_with (first | (go_at_call 5; refine (sig_inf s _).mono ?_; rintro e w' ⟨rfl, rfl⟩) | (go_at_call 6; refine (znan_no s Inf (by omega) _).mono ?_; rintro e w' ⟨rfl, rfl⟩) | (go_at_call 7; refine (zinf_yes s _).mono ?_; rintro e w' ⟨rfl, rfl⟩) | (go_at_call 8; refine (same_self s Inf (by omega) _).mono ?_; rintro e w' ⟨rfl, rfl⟩))
    go_ret
    exact ⟨rfl, Grown.refl _⟩
  · go_enter Try.func3, Try.ntmps3
    go_wp2_with (first | (go_at_call 5; refine (sig_nan s r h1 hr _).mono ?_; rintro e w' ⟨t, q, hq, hq', rfl, rfl⟩))
    refine (znan_yes s r h1 hr _).mono ?_
    rintro e w' ⟨rfl, rfl⟩
    go_wp2_with fail
    refine (znan_yes t q hq hq' _).mono ?_
    rintro e w' ⟨rfl, rfl⟩
    go_wp2_with fail
    go_ret
    exact ⟨rfl, drewG _⟩
set_option maxHeartbeats 1000000 in
theorem odd_of (s : Bool) (r q m : Nat) (hr : r < Inf) (hq : q < Inf) (hm : m ≤ Inf) (hmul : Ieee.double.mul (W s r) 4611686018427387904 = some (W s q))
    (c1 : ∀ w, Calls Try.prog 5 #[.float .f64 (W s r)] w (RetF (W s m) w)) (c2 : ∀ w, Calls Try.prog 5 #[.float .f64 (W s q)] w (RetF (W s m) w)) (c3 : ∀ w, Calls Try.prog 5 #[.float .f64 (W (!s) r)] w (RetF (W (!s) m) w)) (w : World) :
    Calls Try.prog 4 #[.float .f64 (W s r)] w fun e w' => e = .returned (.bool true) ∧ Grown w w' := by
  have hf := f64_eq
  have h2 := run_mul _ _ _ hmul
  have h3 := W_neg s r (inf_le (by omega))
  have h4 := W_neg s m (inf_le (by omega))
  have C1 := Lib.hid c1
  have C2 := Lib.hid c2
  have C3 := Lib.hid c3
  clear c1 c2 c3 hmul
  go_enter Try.func4, Try.ntmps4
  go_wp2_with fail
  refine (znan_no s r (by omega) _).mono ?_
  rintro e w' ⟨rfl, rfl⟩
  go_wp2_with fail
  refine (zinf_no s r hr _).mono ?_
  rintro e w' ⟨rfl, rfl⟩
  go_wp2_with fail
  refine (zinf_no s q hq _).mono ?_
  rintro e w' ⟨rfl, rfl⟩
  go_wp2_with fail
  refine (C1.out _).mono ?_
  rintro e w' ⟨rfl, rfl⟩
  go_wp2_with fail
  refine (C2.out _).mono ?_
  rintro e w' ⟨rfl, rfl⟩
  go_wp2_with fail
  refine (same_self s m hm _).mono ?_
  rintro e w' ⟨rfl, rfl⟩
  go_wp2_with fail
  refine (C3.out _).mono ?_
  rintro e w' ⟨rfl, rfl⟩
  go_wp2_with fail
  refine (same_self (!s) m hm _).mono ?_
  rintro e w' ⟨rfl, rfl⟩
  go_wp2_with fail
  go_ret
  exact ⟨rfl, Grown.refl _⟩
set_option maxHeartbeats 1000000 in
theorem fnSignificandOddAndScaleFree.walk (b : Nat) (hw : (Lit.float .f64 b).wf = true) (w : World) :
    Calls Try.prog 4 #[.float .f64 b] w fun e w' => e = .returned (.bool true) ∧ Grown w w' := by
  obtain ⟨s, r, hr, rfl⟩ := W_split b (wf_lt hw)
  clear hw
  have hf := f64_eq
  rcases split_cases s r hr with rfl | ⟨h0, h1⟩ | rfl | h1
  · exact odd_of s 0 0 0 (by decide) (by decide) (by decide) (mul_two_zero s) (sig_zero s) (sig_zero s) (sig_zero (!s)) w
  · by_cases ho : Inf ≤ r + B
    · have h2 := run_mul _ _ _ (mul_two_over s r ho h1)
      go_enter Try.func4, Try.ntmps4
      go_wp2_with fail
      refine (znan_no s r (by omega) _).mono ?_
      rintro e w' ⟨rfl, rfl⟩
      go_wp2_with fail
      refine (zinf_no s r h1 _).mono ?_
      rintro e w' ⟨rfl, rfl⟩
      go_wp2_with fail
      refine (zinf_yes s _).mono ?_
      rintro e w' ⟨rfl, rfl⟩
      go_wp2_with fail
      go_ret
      exact ⟨rfl, Grown.refl _⟩
    · by_cases hb : r < B
      · refine odd_of s r (2 * r) (nrm r) h1 (by simp only [B, Inf] at *; omega) (nrm_le r) (mul_two_sub s r hb h0) (sig_fin s r h0 h1) ?_ (sig_fin (!s) r h0 h1) w
        intro w
        have := sig_fin s (2 * r) (by omega) (by simp only [B, Inf] at *; omega) w
        rw [nrm_two r h0 hb] at this
        exact this
      · refine odd_of s r (r + B) (nrm r) h1 (by omega) (nrm_le r) (mul_two_norm s r (by omega) (by omega)) (sig_fin s r h0 h1) ?_ (sig_fin (!s) r h0 h1) w
        intro w
        have := sig_fin s (r + B) (by omega) (by omega) w
        rw [nrm_add r (by omega)] at this
        exact this
  · go_enter Try.func4, Try.ntmps4
    go_wp2_with fail
    refine (znan_no s Inf (by omega) _).mono ?_
    rintro e w' ⟨rfl, rfl⟩
    go_wp2_with fail
    refine (zinf_yes s _).mono ?_
    rintro e w' ⟨rfl, rfl⟩
    go_wp2_with fail
    go_ret
    exact ⟨rfl, Grown.refl _⟩
  · go_enter Try.func4, Try.ntmps4
    go_wp2_with fail
    refine (znan_yes s r h1 hr _).mono ?_
    rintro e w' ⟨rfl, rfl⟩
    go_wp2_with fail
    go_ret
    exact ⟨rfl, Grown.refl _⟩
end Go.Proofs.Ytgkgggddhekhpaa
