/-
  Contracts (n001_85): isWhite, next, modelNext, ZZfields, allWhite.
-/
import Derived.Test.YtiallbkcpobkgaaLex
import Derived.OwnWalk
namespace Go.Proofs.Ytiallbkcpobkgaa
set_option linter.unusedVariables false
open Go.ChangeShapes Go.WideShapes Go.ChangeAt Go.RowKit M
theorem LX.c2 {w : World} {p : Nat} {s : ByteArray} {off : Nat} (h : LX w p s off) : w.cell? ⟨p, 2, none⟩ = some (.pointer none) := Row.cell h 2
theorem LX.c3 {w : World} {p : Nat} {s : ByteArray} {off : Nat} (h : LX w p s off) : w.cell? ⟨p, 3, none⟩ = some (.string ByteArray.empty) := Row.cell h 3
theorem LX.c4 {w : World} {p : Nat} {s : ByteArray} {off : Nat} (h : LX w p s off) : w.cell? ⟨p, 4, none⟩ = some (.int .i64 0) := Row.cell h 4
theorem LX.c5 {w : World} {p : Nat} {s : ByteArray} {off : Nat} (h : LX w p s off) : w.cell? ⟨p, 5, none⟩ = some (.bool false) := Row.cell h 5
theorem LX.c6 {w : World} {p : Nat} {s : ByteArray} {off : Nat} (h : LX w p s off) : w.cell? ⟨p, 6, none⟩ = some .nilIface := Row.cell h 6
theorem zzskip (s : ByteArray) (p off : Nat) (w : World) (h : LX w p s off) (hs : s.size ≤ 1048577) (ho : off ≤ s.size) : Calls Try.prog 10 #[.pointer (some ⟨p, 0, none⟩)] w (SkipOut s p (cend s off) w) := by
  have H := Lib.hid h
  clear h
  go_enter Try.func10, Try.ntmps10
  go_wp2_with fail
  refine (skip_comment s p off _ H.out hs ho).mono ?_
  rintro e w1 ⟨rfl, hL, hT⟩
  go_wp2_with fail
  go_ret
  exact ⟨rfl, hL, hT⟩
theorem results_tmp7 {fn : Func} {a b c d e f g : Tmp} (h : fn.results = #[.tmp a, .tmp b, .tmp c, .tmp d, .tmp e, .tmp f, .tmp g]) (tmps : Array Value) (P : Program) (w : World) :
    (results fn tmps).run P w = .ok (.tuple #[tmps.getD a undef, tmps.getD b undef, tmps.getD c undef, tmps.getD d undef, tmps.getD e undef, tmps.getD f undef, tmps.getD g undef]) w := by
  simp [results, h]
def F7 (s : ByteArray) (off : Nat) : Value := .tuple #[.string s, .int .i64 off, .string ByteArray.empty, .int .i64 0, .bool false, .bool true, .bool true]
theorem fields (s : ByteArray) (p off : Nat) (w : World) (h : LX w p s off) : Calls Try.prog 11 #[.pointer (some ⟨p, 0, none⟩)] w (Ret (F7 s off) w) := by
  have c0 := h.c0
  have c1 := h.c1
  have c2 := h.c2
  have c3 := h.c3
  have c4 := h.c4
  have c5 := h.c5
  have c6 := h.c6
  clear h
  go_enter Try.func11, Try.ntmps11
  go_wp2
  go_quiet (fail)
  go_wp2
  refine bodyPost_ret (results_tmp7 rfl _ _ _) rfl ?_
  exact ⟨rfl, nq, rfl⟩
theorem white_f (c : Nat) (h1 : c ≠ 9) (h2 : c ≠ 10) (h3 : c ≠ 13) (h4 : c ≠ 32) : white c = false := by simp [white, h1, h2, h3, h4]
theorem white_eq (c : Nat) (w : World) : Calls Try.prog 26 #[.int .u8 (c : Nat)] w (Ret (.bool (white c)) w) := by
  by_cases h1 : c = 9
  · subst h1; go_enter Try.func26, Try.ntmps26; go_wp2; go_ret; exact ⟨rfl, 0, rfl⟩
  by_cases h2 : c = 10
  · subst h2; go_enter Try.func26, Try.ntmps26; go_wp2; go_ret; exact ⟨rfl, 0, rfl⟩
  by_cases h3 : c = 13
  · subst h3; go_enter Try.func26, Try.ntmps26; go_wp2; go_ret; exact ⟨rfl, 0, rfl⟩
  by_cases h4 : c = 32
  · subst h4; go_enter Try.func26, Try.ntmps26; go_wp2; go_ret; exact ⟨rfl, 0, rfl⟩
  have t1 : ((c : Int) == 9) = false := by rw [beq_eq_false_iff_ne]; omega
  have t2 : ((c : Int) == 10) = false := by rw [beq_eq_false_iff_ne]; omega
  have t3 : ((c : Int) == 13) = false := by rw [beq_eq_false_iff_ne]; omega
  have t4 : ((c : Int) == 32) = false := by rw [beq_eq_false_iff_ne]; omega
  have HX := Lib.hid (white_f c h1 h2 h3 h4)
  clear h1 h2 h3 h4
  go_enter Try.func26, Try.ntmps26
  go_wp2
  go_ret
  exact ⟨by rw [HX.out]; rfl, 0, rfl⟩
theorem whiteB (c : Nat) (w : World) : Calls Try.prog 23 #[.int .u8 (c : Nat)] w (Ret (.bool (white c)) w) := by
  by_cases h1 : c = 9
  · subst h1; go_enter Try.func23, Try.ntmps23; go_wp2; go_ret; exact ⟨rfl, 0, rfl⟩
  by_cases h2 : c = 10
  · subst h2; go_enter Try.func23, Try.ntmps23; go_wp2; go_ret; exact ⟨rfl, 0, rfl⟩
  by_cases h3 : c = 13
  · subst h3; go_enter Try.func23, Try.ntmps23; go_wp2; go_ret; exact ⟨rfl, 0, rfl⟩
  by_cases h4 : c = 32
  · subst h4; go_enter Try.func23, Try.ntmps23; go_wp2; go_ret; exact ⟨rfl, 0, rfl⟩
  have t1 : ((c : Int) == 9) = false := by rw [beq_eq_false_iff_ne]; omega
  have t2 : ((c : Int) == 10) = false := by rw [beq_eq_false_iff_ne]; omega
  have t3 : ((c : Int) == 13) = false := by rw [beq_eq_false_iff_ne]; omega
  have t4 : ((c : Int) == 32) = false := by rw [beq_eq_false_iff_ne]; omega
  have HX := Lib.hid (white_f c h1 h2 h3 h4)
  clear h1 h2 h3 h4
  go_enter Try.func23, Try.ntmps23
  go_wp2
  go_ret
  exact ⟨by rw [HX.out]; rfl, 0, rfl⟩
def NextOut (s : ByteArray) (p : Nat) (r : Nat × Bool × Nat) (w : World) (e : Ending) (w' : World) : Prop := e = .returned (.tuple #[.int .u8 (r.1 : Nat), .bool r.2.1]) ∧ LX w' p s r.2.2 ∧ Touch (· = p) w w'
set_option maxHeartbeats 4000000 in
theorem next (s : ByteArray) (p : Nat) (w : World) (h : LX w p s 0) (hs : s.size ≤ 1048577) (ho : 0 < s.size) : Calls Try.prog 22 #[.pointer (some ⟨p, 0, none⟩)] w (NextOut s p (NX s 0) w) := by
  have H := Lib.hid h
  clear h
  go_enter Try.func22, Try.ntmps22
  go_wp2_with fail
  go_loopg [] (s.size - 0) (fun k wr => ∃ o : Nat, o < s.size ∧ k = s.size - o ∧ NX s o = NX s 0 ∧ LX wr p s o ∧ Touch (· = p) w wr)
  case atStart => exact ⟨0, ho, rfl, rfl, H.out, Touch.refl _ _⟩
  case round =>
    obtain ⟨o, hos, hk, hc, hL, hT⟩ := hrel
    have HK := Lib.hid hk
    have HC := Lib.hid hc
    have HL := Lib.hid hL
    have HT := Lib.hid hT
    have c0 := hL.c0
    have c1 := hL.c1
    have f1 := hL.f1
    clear hk hc hL hT H
    have i0 : (0 : Int) ≤ (o : Int) := by omega
    have i1 : (o : Int) < (s.size : Int) := by omega
    have hbb := byteAt_in s o hos
    by_cases h35 : byteAt s o = 35
    · have t35 : ((s[o].toNat : Int) == 35) = true := by rw [hbb, h35]; rfl
      have H35 := Lib.hid h35
      clear h35 hbb
      go_wp2_with fail
      go_quiet (fail)
      go_wp2_with fail
      have L1 := Lib.hid ((HL.out.drewN nq).set _ (o + 1) (by push_cast; rfl))
      have T1 := Lib.hid ((HT.out.drewN nq).setP 1 (.int .i64 ((o : Int) + 1)))
      clear c0 c1 f1
      refine (skip_comment s p (o + 1) _ L1.out hs (by omega)).mono ?_
      rintro e w2 ⟨rfl, hL2, hT2⟩
      have E := cend_ok s (o + 1) (by omega)
      cases hx : (cend s (o + 1)).2 with
      | true =>
        have HX := Lib.hid (HC.out.symm.trans (NX_stop s o H35.out hx))
        have L2 := Lib.hid hL2
        have T2 := Lib.hid (T1.out.trans hT2)
        clear hL2 hT2 hx E
        go_wp2_with fail
        go_ret2
        refine ⟨by rw [HX.out]; rfl, ?_, T2.out⟩
        rw [HX.out]; exact L2.out
      | false =>
        have HX := Lib.hid ((NX_go s o H35.out hx).symm.trans HC.out)
        have L2 := Lib.hid hL2
        have T2 := Lib.hid (T1.out.trans hT2)
        obtain ⟨e1, e2, e3, e4, e5⟩ := E
        have e6 := (e5 hx).1
        clear hL2 hT2 hx e2 e3 e4 e5
        go_wp2_with fail
        go_roundg (s.size - (cend s (o + 1)).1)
        case measure => have := HK.out; omega
        case rel => exact ⟨(cend s (o + 1)).1, e6, rfl, HX.out, L2.out, T2.out⟩
    · have t35 : ((s[o].toNat : Int) == 35) = false := by rw [hbb, beq_eq_false_iff_ne]; omega
      have H35 := Lib.hid h35
      have HBB := Lib.hid hbb
      clear h35 hbb
      go_wp2_with fail
      go_quiet (fail)
      go_wp2_with fail
      have L1 := Lib.hid ((HL.out.drewN nq).set _ (o + 1) (by push_cast; rfl))
      have T1 := Lib.hid ((HT.out.drewN nq).setP 1 (.int .i64 ((o : Int) + 1)))
      clear c0 c1 f1
      refine (white_eq _ _).mono ?_
      rintro e w2 ⟨rfl, m2, rfl⟩
      cases hw : white s[o].toNat with
      | false =>
        have HX := Lib.hid (HC.out.symm.trans (NX_hit s o hos H35.out (by rw [← HBB.out]; exact hw)))
        clear hw
        go_wp2_with fail
        go_ret2
        refine ⟨by rw [HX.out, ← HBB.out]; rfl, ?_, T1.out.drewN m2⟩
        rw [HX.out]; exact L1.out.drewN m2
      | true =>
        have HX := Lib.hid (HC.out.symm.trans (NX_white s o hos H35.out (by rw [← HBB.out]; exact hw)))
        clear hw
        have L2 := Lib.hid (L1.out.drewN m2)
        have T2 := Lib.hid (T1.out.drewN m2)
        generalize (((wr.drewN nq).setCell ⟨p, 1, none⟩ (.int .i64 ((o : Int) + 1))).drewN m2) = w3 at L2 T2 ⊢
        have c0 := L2.out.c0
        have c1 := L2.out.c1
        by_cases hend : o + 1 = s.size
        · have te : ((s.size : Int) == (((o + 1 : Nat) : Int))) = true := by rw [beq_iff_eq]; omega
          have te2 : ((s.size : Int) == ((o : Int) + 1)) = true := by rw [beq_iff_eq]; omega
          have HN := Lib.hid (HX.out.trans (NX_end s (o + 1) (by omega)))
          have HE := Lib.hid hend
          clear hend
          go_wp2_with fail
          go_quiet (fail)
          go_wp2_with fail
          go_ret2
          refine ⟨by rw [HN.out]; rfl, ?_, T2.out.drewN _⟩
          rw [HN.out]
          show LX _ p s s.size
          rw [← HE.out]; exact L2.out.drewN _
        · have te : ((s.size : Int) == (((o + 1 : Nat) : Int))) = false := by rw [beq_eq_false_iff_ne]; omega
          have te2 : ((s.size : Int) == ((o : Int) + 1)) = false := by rw [beq_eq_false_iff_ne]; omega
          go_wp2_with fail
          go_quiet (fail)
          go_wp2_with fail
          go_roundg (s.size - (o + 1))
          case measure => have := HK.out; omega
          case rel => exact ⟨o + 1, by omega, rfl, HX.out.symm, L2.out.drewN _, T2.out.drewN _⟩
theorem zznext (s : ByteArray) (p : Nat) (w : World) (h : LX w p s 0) (hs : s.size ≤ 1048577) (ho : 0 < s.size) : Calls Try.prog 14 #[.pointer (some ⟨p, 0, none⟩)] w (NextOut s p (NX s 0) w) := by
  have H := Lib.hid h
  clear h
  go_enter Try.func14, Try.ntmps14
  go_wp2_with fail
  refine (next s p _ H.out hs ho).mono ?_
  rintro e w1 ⟨rfl, hL, hT⟩
  go_wp2_with fail
  go_ret2
  exact ⟨rfl, hL, hT⟩
set_option maxHeartbeats 4000000 in
theorem model_next (s : ByteArray) (w : World) (hs : s.size ≤ 1048577) : Calls Try.prog 15 #[.string s] w (Ret (.tuple #[.int .u8 ((NX s 0).1 : Nat), .bool (NX s 0).2.1, .int .i64 ((NX s 0).2.2 : Nat)]) w) := by
  go_enter Try.func15, Try.ntmps15
  go_wp2
  go_loopw [5] (fun i wr => ∃ (o m : Nat), o ≤ s.size ∧ NX s o = NX s 0 ∧ i = .int .i64 o ∧ wr = w.drewN m) (fun i _ => s.size - (intOf i).toNat)
  case atStart => exact ⟨0, 0, by omega, rfl, rfl, rfl⟩
  case round =>
    obtain ⟨o, m, hos, hc, rfl, rfl⟩ := hrel
    have HC := Lib.hid hc
    clear hc
    by_cases hlt : o < s.size
    · have i0 : (0 : Int) ≤ (o : Int) := by omega
      have hbb := byteAt_in s o hlt
      by_cases h35 : byteAt s o = 35
      · have t35 : ((s[o].toNat : Int) == 35) = true := by rw [hbb, h35]; rfl
        have H35 := Lib.hid h35
        clear h35 hbb
        go_wp2_with fail
        refine (comment_end s (o + 1) _ hs (by omega)).mono ?_
        rintro e w2 ⟨rfl, m2, rfl⟩
        have E := cend_ok s (o + 1) (by omega)
        cases hx : (cend s (o + 1)).2 with
        | true =>
          have HX := Lib.hid (HC.out.symm.trans (NX_stop s o H35.out hx))
          clear hx E
          go_wp2_with fail
          go_ret3
          exact ⟨by rw [HX.out]; rfl, _, rfl⟩
        | false =>
          have HX := Lib.hid ((NX_go s o H35.out hx).symm.trans HC.out)
          obtain ⟨e1, e2, e3, e4, e5⟩ := E
          have e6 := (e5 hx).1
          clear hx e3 e4 e5
          go_wp2_with fail
          exact ⟨⟨(cend s (o + 1)).1, m + m2, by omega, HX.out, rfl, rfl⟩, by simp [intOf]; omega⟩
      · have t35 : ((s[o].toNat : Int) == 35) = false := by rw [hbb, beq_eq_false_iff_ne]; omega
        have H35 := Lib.hid h35
        have HBB := Lib.hid hbb
        clear h35 hbb
        go_wp2_with fail
        refine (whiteB _ _).mono ?_
        rintro e w2 ⟨rfl, m2, rfl⟩
        cases hw : white s[o].toNat with
        | false =>
          have HX := Lib.hid (HC.out.symm.trans (NX_hit s o hlt H35.out (by rw [← HBB.out]; exact hw)))
          clear hw
          go_wp2_with fail
          go_ret3
          exact ⟨by rw [HX.out, ← HBB.out]; rfl, _, rfl⟩
        | true =>
          have HX := Lib.hid (HC.out.symm.trans (NX_white s o hlt H35.out (by rw [← HBB.out]; exact hw)))
          clear hw
          go_wp2_with fail
          exact ⟨⟨o + 1, m + m2, by omega, HX.out.symm, by go_num, rfl⟩, by simp [intOf]; omega⟩
    · have HX := Lib.hid (HC.out.symm.trans (NX_end s o (by omega)))
      go_wp2_with fail
      go_ret3
      exact ⟨by rw [HX.out]; rfl, _, rfl⟩
def AW (s : ByteArray) : Prop := ∀ i, i < s.size → white (byteAt s i) = true
def Yes (v : Bool) (w : World) (e : Ending) (w' : World) : Prop := e = .returned (.bool v) ∧ ∃ n, w' = w.drewN n
theorem all_white (s : ByteArray) (w : World) (hs : s.size ≤ 1048577) : Calls Try.prog 17 #[.string s] w fun e w' => (AW s ∧ e = .returned (.bool true) ∨ e = .returned (.bool false)) ∧ ∃ n, w' = w.drewN n := by
  go_enter Try.func17, Try.ntmps17
  go_wp2
  go_loopw [3] (fun i wr => ∃ (o m : Nat), o ≤ s.size ∧ (∀ j, j < o → white (byteAt s j) = true) ∧ i = .int .i64 o ∧ wr = w.drewN m) (fun i _ => s.size - (intOf i).toNat)
  case atStart => exact ⟨0, 0, by omega, (fun j hj => absurd hj (by omega)), rfl, rfl⟩
  case round =>
    obtain ⟨o, m, hos, hc, rfl, rfl⟩ := hrel
    have HC := Lib.hid hc
    clear hc
    by_cases hlt : o < s.size
    · have i0 : (0 : Int) ≤ (o : Int) := by omega
      have hbb := Lib.hid (byteAt_in s o hlt)
      go_wp2_with fail
      refine (whiteB _ _).mono ?_
      rintro e w2 ⟨rfl, m2, rfl⟩
      cases hw : white s[o].toNat with
      | false =>
        clear hw
        go_wp2_with fail
        go_ret
        exact ⟨.inr rfl, _, rfl⟩
      | true =>
        have HW := Lib.hid hw
        clear hw
        go_wp2_with fail
        refine ⟨⟨o + 1, m + m2, by omega, fun j hj => ?_, by go_num, rfl⟩, by simp [intOf]; omega⟩
        by_cases hj2 : j = o
        · subst hj2; rw [← hbb.out]; exact HW.out
        · exact HC.out j (by omega)
    · have HX : Hid (AW s) := fun i hi => HC.out i (by omega)
      go_wp2_with fail
      go_ret
      exact ⟨.inl ⟨HX.out, rfl⟩, m, rfl⟩
end Go.Proofs.Ytiallbkcpobkgaa
