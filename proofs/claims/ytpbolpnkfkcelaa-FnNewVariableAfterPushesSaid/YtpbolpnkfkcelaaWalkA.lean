/-
  The walk of the law FnCreateVariableFoundByPush (n001_77): it returns true for every input.
-/
import Derived.Test.YtpbolpnkfkcelaaVars
namespace Go.Proofs.Ytpbolpnkfkcelaa
set_option linter.unusedVariables false
open Go.ChangeShapes Go.WideShapes Go.ChangeAt Go.RowKit M
theorem zpush2 (w : World) (B c s p i : Nat) (ns ns' : List ByteArray) (nm : ByteArray) (h : Cmp w B c s p ns) (hn : ns.length ≤ 1048576) (hB : B ≤ w.heap.size) (hi : idx nm ns = i) (hp : pushNs ns nm = ns') :
    Calls Try.prog 10 #[.pointer (some ⟨c, 0, none⟩), .string nm] w (VarOut w B c s p i ns') := by
  subst hi hp
  exact zpush w B c s p ns nm h hn hB
theorem znew2 (w : World) (B c s p i : Nat) (ns : List ByteArray) (h : Cmp w B c s p ns) (hn : ns.length ≤ 1048576) (hB : B ≤ w.heap.size) (hi : ns.length = i) :
    Calls Try.prog 11 #[.pointer (some ⟨c, 0, none⟩)] w (VarOut w B c s p i (ns ++ [ByteArray.empty])) := by
  subst hi
  exact znew w B c s p ns h hn hB
theorem newCmp2 (w : World) : Calls Try.prog 8 #[] w fun e w' => (∃ c s p, e = .returned (.pointer (some ⟨c, 0, none⟩)) ∧ Cmp w' w.heap.size c s p []) ∧ Below w.heap.size w w' := newCmp w
/-- The copy of the names, and: nothing that was there has turned. -/
def Ctx (w : World) (C : Nat) (A : Option Addr) (xs : List ByteArray) (wr : World) : Prop := CopyV 9 wr C A (xs.map Value.string) ∧ Below w.heap.size w wr
theorem Ctx.step {w wr w' : World} {C B : Nat} {A : Option Addr} {xs : List ByteArray} (h : Ctx w C A xs wr) (hB : w.heap.size ≤ B) (hb : Below B wr w') (hk : KeepR wr w') : Ctx w C A xs w' :=
  ⟨h.1.keep fun g cs hr => hk g 9 cs hr (by decide) (by decide), h.2.trans (hb.mono hB)⟩
theorem Ctx.drewN {w wr : World} {C : Nat} {A : Option Addr} {xs : List ByteArray} (h : Ctx w C A xs wr) (n : Nat) : Ctx w C A xs (wr.drewN n) := ⟨h.1.keep fun g cs hr => hr.drewN n, below_drewN h.2 n⟩
theorem Ctx.get {w wr : World} {C : Nat} {A : Option Addr} {xs : List ByteArray} (h : Ctx w C A xs wr) {k : Nat} (hk : k < xs.length) : ∃ g, A = some ⟨g, 0, none⟩ ∧ ∀ j s, xs[j]? = some s → wr.cell? ⟨g, j, none⟩ = some (.string s) := by
  obtain ⟨g, hA, _, _, hc⟩ := h.1.get (i := k) (by simpa using hk)
  exact ⟨g, hA, fun j s hj => hc j _ (strs_get hj)⟩
theorem VarOut.cmp {w w' : World} {B c s p i : Nat} {ns : List ByteArray} {e : Ending} (h : VarOut w B c s p i ns e w') : Cmp w' B c s p ns := h.2.1
set_option maxRecDepth 100000 in
set_option maxHeartbeats 4000000 in
theorem fnCreateVariableFoundByPush.main (a0 : Option Addr) (len0 cap0 : Nat) (z0 : List ByteArray) (a1 : ByteArray) (w : World) (w0 : SliceOf 1 IsStr w a0 len0 z0) (w1 : a1.size ≤ maxLen) (hl : len0 ≤ 65536) (hp : a1.size ≤ 1048576) :
    Calls Try.prog 3 #[.slice a0 len0 cap0, .string a1] w fun e w' => e = .returned (.bool true) ∧ Below w.heap.size w w' := by
  have W0 := Lib.hid w0
  have HXL := Lib.hid w0.lt.1
  clear w0
  go_enter Try.func3, Try.ntmps3
  go_wp2_with fail
  refine (zz5 a0 len0 cap0 z0 a1 _ W0.out w1).mono ?_
  rintro e w' ⟨b, rfl, rfl⟩
  cases b
  · go_wp2_with fail
    go_ret
    exact ⟨rfl, Below.refl _ _⟩
  go_wp2_with fail
  refine (bytes6 _ a0 len0 cap0 z0 _ W0.out).mono ?_
  rintro e w' ⟨n, rfl, rfl⟩
  by_cases hn : 1048576 < n
  · go_wp2_with fail
    go_ret
    exact ⟨rfl, Below.refl _ _⟩
  go_wp2_with fail
  refine (copy_strs a0 len0 cap0 z0 _ W0.out (by omega)).mono ?_
  rintro e w1 ⟨A, cp, rfl, hcp, hb1⟩
  have hs1 := hb1.size
  have HC1 := Lib.hid (show Ctx w w.heap.size A z0 w1 from ⟨hcp, hb1⟩)
  clear hcp hb1 W0 hn
  go_wp2_with fail
  refine (newCmp2 _).mono ?_
  rintro e w2 ⟨⟨c, s, p, rfl, hcm⟩, hb2⟩
  have hs2 := hb2.size
  have HC2 := Lib.hid (HC1.out.step hs1 hb2 (KeepR.below hb2))
  have HM2 := Lib.hid hcm
  clear hcm hb2 HC1
  go_wp2_with fail
  go_loopw [6] (fun i wr => ∃ (k : Nat), k ≤ len0 ∧ i = .int .i64 k ∧ Cmp wr w1.heap.size c s p (z0.take k) ∧ Ctx w w.heap.size A z0 wr ∧ w1.heap.size ≤ wr.heap.size) (fun i _ => len0 - (intOf i).toNat)
  case atStart => exact ⟨0, Nat.zero_le _, rfl, HM2.out, HC2.out, hs2⟩
  case round =>
    obtain ⟨k, hk, rfl, hcm, hcx, hsz⟩ := hrel
    have HM := Lib.hid hcm
    have HX := Lib.hid hcx
    clear hcm hcx HM2 HC2
    by_cases hlt : k < len0
    · obtain ⟨g, hA, hcell⟩ := HX.out.get (k := k) (by rw [HXL.out]; exact hlt)
      obtain ⟨x, hx⟩ : ∃ x, z0[k]? = some x := ⟨_, List.getElem?_eq_getElem (by rw [HXL.out]; exact hlt)⟩
      have cx := hcell k x hx
      subst hA
      have HTK := Lib.hid (show z0.take (k + 1) = z0.take k ++ [x] by
        obtain ⟨h1, h2⟩ := List.getElem?_eq_some_iff.1 hx
        rw [List.take_succ_eq_append_getElem h1, h2])
      clear hcell hx
      go_wp2_with fail
      refine (zcreate _ _ c s p _ x HM.out (by rw [List.length_take]; omega) hsz).mono ?_
      rintro e w4 ⟨rfl, hcm, hb4, hk4⟩
      have hs4 := hb4.size
      have HM4 := Lib.hid hcm
      have HX4 := Lib.hid (HX.out.step hs1 hb4 hk4)
      clear hcm hb4 hk4
      go_wp2_with fail
      exact ⟨⟨k + 1, by omega, by go_num, by rw [HTK.out]; exact HM4.out, HX4.out, by omega⟩, by simp [intOf]; omega⟩
    · obtain rfl : k = len0 := by omega
      have HM3 : Hid (Cmp wr w1.heap.size c s p z0) := Lib.hid (by have := HM.out; rwa [List.take_of_length_le (by rw [HXL.out]; omega)] at this)
      clear HM
      go_wp2_with fail
      go_loop [7, 8] (fun t i => ∃ (j : Nat), j ≤ k ∧ t = .int .i64 (-1) ∧ i = .int .i64 j ∧ a1 ∉ z0.take j) (fun _ i => k - (intOf i).toNat)
      case atStart => exact ⟨0, Nat.zero_le _, rfl, rfl, by simp⟩
      case round =>
        obtain ⟨j, hj, rfl, rfl, hnj⟩ := hrel
        have HNJ := Lib.hid hnj
        clear hnj
        by_cases hlt : j < k
        · obtain ⟨g, hA, hcell⟩ := HX.out.get (k := j) (by rw [HXL.out]; exact hlt)
          obtain ⟨x, hx⟩ : ∃ x, z0[j]? = some x := ⟨_, List.getElem?_eq_getElem (by rw [HXL.out]; exact hlt)⟩
          have cx := hcell j x hx
          subst hA
          have HJ := Lib.hid hx
          clear hcell hx
          by_cases he : x = a1
          · subst he
            have HE := Lib.hid (idx_at HNJ.out HJ.out)
            go_wp2_with fail
            refine (zpush2 _ _ c s p j _ _ x HM3.out (by rw [HXL.out]; omega) hsz HE.out.1 (pushNs_in HE.out.2)).mono ?_
            rintro e w5 ⟨rfl, hcm, hb5, hk5⟩
            have hs5 := hb5.size
            have HM5 := Lib.hid (hcm.below ((Below.refl _ _).alloc (Nat.le_refl _) (.cells #[.int .i64 1, .int .i64 (j : Nat)] 28)))
            have HX5 := Lib.hid (HX.out.step hs1 hb5 hk5)
            clear hcm hb5 hk5
            go_wp2_with fail
            refine (znew2 _ _ c s p k _ HM5.out (by rw [HXL.out]; omega) (by simp; omega) (by rw [HXL.out])).mono ?_
            rintro e w6 ⟨rfl, hcm, hb6, hk6⟩
            have HX6 := Lib.hid ((HX5.out.step (B := w5.heap.size) (by omega) ((Below.refl _ _).alloc (Nat.le_refl _) (.cells #[.int .i64 1, .int .i64 (j : Nat)] 28)) (KeepR.below ((Below.refl _ _).alloc (Nat.le_refl _) _))).step hs1 hb6 hk6)
            clear hcm hb6 hk6
            go_wp2_with fail
            go_ret
            exact ⟨by simp, HX6.out.2.trans ((Below.refl _ w6).alloc (by have := HX6.out.2.size; omega) _)⟩
          · have hb := str_beq_ne he
            have HNT := Lib.hid (notin_take HNJ.out HJ.out he)
            go_wp2_with fail
            exact ⟨⟨j + 1, by omega, rfl, by go_num, HNT.out⟩, by simp [intOf]; omega⟩
        · obtain rfl : j = k := by omega
          have HIP := Lib.hid (idx_none (ns := z0) (nm := a1) (by rw [HXL.out]; exact HNJ.out))
          go_wp2_with fail
          refine (zpush2 _ _ c s p j _ _ a1 HM3.out (by rw [HXL.out]; omega) hsz (by rw [HIP.out.1, HXL.out]) HIP.out.2).mono ?_
          rintro e w5 ⟨rfl, hcm, hb5, hk5⟩
          have hs5 := hb5.size
          have HM5 := Lib.hid (hcm.below ((Below.refl _ _).alloc (Nat.le_refl _) (.cells #[.int .i64 1, .int .i64 (j : Nat)] 28)))
          have HX5 := Lib.hid (HX.out.step hs1 hb5 hk5)
          clear hcm hb5 hk5
          go_wp2_with fail
          refine (znew2 _ _ c s p (j + 1) _ HM5.out (by rw [List.length_append, HXL.out, List.length_singleton]; omega) (by simp; omega) (by rw [List.length_append, HXL.out, List.length_singleton])).mono ?_
          rintro e w6 ⟨rfl, hcm, hb6, hk6⟩
          have HX6 := Lib.hid ((HX5.out.step (B := w5.heap.size) (by omega) ((Below.refl _ _).alloc (Nat.le_refl _) (.cells #[.int .i64 1, .int .i64 (j : Nat)] 28)) (KeepR.below ((Below.refl _ _).alloc (Nat.le_refl _) _))).step hs1 hb6 hk6)
          clear hcm hb6 hk6
          go_wp2_with fail
          go_ret
          exact ⟨by simp, HX6.out.2.trans ((Below.refl _ w6).alloc (by have := HX6.out.2.size; omega) _)⟩
theorem fnCreateVariableFoundByPush.walk (a0 : Option Addr) (len0 cap0 : Nat) (z0 : List (ByteArray)) (a1 : ByteArray) (w : World) (w0 : SliceOf 1 (IsStr) w a0 len0 z0) (w1 : a1.size ≤ maxLen) :
    Calls Try.prog 3 #[.slice a0 len0 cap0, .string a1] w fun e w' => e = .returned (.bool true) ∧ Below w.heap.size w w' := by
  have hp := w1
  have hl := w0.lt.2
  unfold maxLen at hp hl
  by_cases hl2 : len0 ≤ 65536
  · by_cases hp2 : a1.size ≤ 1048576
    · exact fnCreateVariableFoundByPush.main a0 len0 cap0 z0 a1 w w0 w1 hl2 hp2
    · have W0 := Lib.hid w0
      clear w0
      go_enter Try.func3, Try.ntmps3
      go_wp2_with fail
      refine (zz5 a0 len0 cap0 z0 a1 _ W0.out w1).mono ?_
      rintro e w' ⟨b, rfl, rfl⟩
      cases b
      · go_wp2_with fail
        go_ret
        exact ⟨rfl, Below.refl _ _⟩
      go_wp2_with fail
      go_ret
      exact ⟨rfl, Below.refl _ _⟩
  · have W0 := Lib.hid w0
    clear w0
    go_enter Try.func3, Try.ntmps3
    go_wp2_with fail
    refine (zz5 a0 len0 cap0 z0 a1 _ W0.out w1).mono ?_
    rintro e w' ⟨b, rfl, rfl⟩
    cases b
    · go_wp2_with fail
      go_ret
      exact ⟨rfl, Below.refl _ _⟩
    go_wp2_with fail
    go_ret
    exact ⟨rfl, Below.refl _ _⟩
end Go.Proofs.Ytpbolpnkfkcelaa
