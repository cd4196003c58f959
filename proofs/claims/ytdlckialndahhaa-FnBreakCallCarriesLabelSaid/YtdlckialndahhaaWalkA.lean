/-
  The walk of the law FnBreakFindsOrRefuses (n001_78): it returns true for every input.
-/
import Derived.Test.YtdlckialndahhaaNewB
namespace Go.Proofs.Ytdlckialndahhaa
set_option linter.unusedVariables false
set_option linter.unusedSimpArgs false
open Go.ChangeShapes Go.WideShapes Go.ChangeAt Go.RowKit M
theorem Cmp.drewN {w : World} {B c s p : Nat} {ns : List ByteArray} (h : Cmp w B c s p ns) (n : Nat) : Cmp (w.drewN n) B c s p ns := h.below (below_drewN (Below.refl _ w) n)
theorem Cod.drewN {w : World} {B c : Nat} {qs : List Nat} (h : Cod w B c qs) (n : Nat) : Cod (w.drewN n) B c qs := h.below (below_drewN (Below.refl _ w) n)
theorem opAt2 (w : World) (B c i q : Nat) (ii op : Int) (v : Value) (qs : List Nat) (h : Cod w B c qs) (hn : qs.length ≤ 1048576) (hi : qs[i]? = some q) (hq : Row w q 88 #[v, .int .i64 op]) (hii : ii = i) : Calls Try.prog 22 #[.pointer (some ⟨c, 0, none⟩), .int .i64 ii, .int .i64 op] w fun e w' => e = .returned (.bool true) ∧ w = w' := by
  subst hii
  exact opAt w B c i q op op v qs h hn hi hq rfl
theorem idxAt2 (w : World) (B c i q : Nat) (ii x y op : Int) (qs : List Nat) (h : Cod w B c qs) (hn : qs.length ≤ 1048576) (hi : qs[i]? = some q) (hq : Row w q 88 #[.iface 28 (.agg #[.int .i64 x, .int .i64 y]), .int .i64 op]) (hii : ii = i) : Calls Try.prog 16 #[.pointer (some ⟨c, 0, none⟩), .int .i64 ii, .int .i64 op, .int .i64 x, .int .i64 y] w fun e w' => e = .returned (.bool true) ∧ Below w.heap.size w w' := by
  subst hii
  exact idxAt w B c i q x y op qs h hn hi hq
theorem codeCall2 (w : World) (B c i q : Nat) (ii : Int) (fv u : Value) (nm : ByteArray) (n : Int) (qs : List Nat) (h : Cod w B c qs) (hn : qs.length ≤ 1048576) (hi : qs[i]? = some q) (hq : Row w q 88 #[.iface 90 (.agg #[.iface 92 fv, .iface 3 (.int .i64 n), .iface 9 (.string nm)]), u]) (hii : ii = i) : Calls Try.prog 23 #[.pointer (some ⟨c, 0, none⟩), .int .i64 ii] w fun e w' => e = .returned (.tuple #[.int .i64 n, .string nm, .bool true]) ∧ Below w.heap.size w w' := by
  subst hii
  exact codeCall w B c i q fv u nm n qs h hn hi hq
theorem codesLen2 (w : World) (B c : Nat) (n : Int) (qs : List Nat) (h : Cod w B c qs) (hn : n = qs.length) : Calls Try.prog 10 #[.pointer (some ⟨c, 0, none⟩)] w fun e w' => e = .returned (.int .i64 n) ∧ w = w' := by
  subst hn
  exact codesLen w B c _ qs h rfl
set_option maxRecDepth 100000 in
set_option maxHeartbeats 4000000 in
theorem fnBreakFindsOrRefuses.main (a0 : Option Addr) (len0 cap0 : Nat) (z0 : List ByteArray) (a1 : ByteArray) (w : World) (w0 : SliceOf 1 IsStr w a0 len0 z0) (w1 : a1.size ≤ maxLen) (hl : len0 ≤ 4096) (hp : a1.size ≤ 1048576) (hp0 : 0 < a1.size) :
    Calls Try.prog 4 #[.slice a0 len0 cap0, .string a1] w fun e w' => e = .returned (.bool true) ∧ Below w.heap.size w w' := by
  have W0 := Lib.hid w0
  have HXL := Lib.hid w0.lt.1
  clear w0
  go_enter Try.func4, Try.ntmps4
  go_wp2_with fail
  refine (zz17 a0 len0 cap0 z0 a1 _ W0.out w1).mono ?_
  rintro e w' ⟨b, rfl, rfl, hsh⟩
  cases b
  · clear hsh
    go_wp2_with fail
    go_ret
    exact ⟨rfl, Below.refl _ _⟩
  have HS := Lib.hid (hsh rfl).1
  clear hsh
  go_wp2_with fail
  refine (bytes6 a0 len0 cap0 z0 _ W0.out HS.out (by omega)).mono ?_
  rintro e w' ⟨n, rfl, rfl, hn0, hn1⟩
  by_cases hn : 1048576 < n + a1.size
  · go_wp2_with fail
    go_ret
    exact ⟨rfl, Below.refl _ _⟩
  go_wp2_with fail
  refine (copy_strs a0 len0 cap0 z0 _ W0.out (by omega)).mono ?_
  rintro e w2 ⟨A, cp, rfl, hcp, hb1⟩
  have hs1 := hb1.size
  have HC1 := Lib.hid (show Ctx w w.heap.size A z0 w2 from ⟨hcp, hb1⟩)
  clear hcp hb1 W0 hn hn0 hn1
  go_wp2_with fail
  refine (newWith3 w w2 A len0 cp z0 HC1.out HXL.out (by omega) hs1).mono ?_
  rintro e w3 ⟨⟨c, s, p, rfl, hcm, hc0⟩, hcx, hs3⟩
  have HM := Lib.hid hcm
  have HK := Lib.hid hc0.cod
  have HX := Lib.hid hcx
  clear hcm hc0 hcx HC1
  go_wp2_with fail
  refine (scopeId _ _ c s p _ HM.out).mono ?_
  rintro e w4 ⟨rfl, n4, rfl⟩
  go_wp2_with fail
  obtain ⟨d, hd⟩ : ∃ d, (dd z0).length = d := ⟨_, rfl⟩
  obtain ⟨kx, hkx⟩ : ∃ kx, idx (lab2 a1) (dd z0) = kx := ⟨_, rfl⟩
  have hdl : d ≤ 4096 := by have := len_dd z0; have := HXL.out; omega
  refine (model w _ A len0 cp z0 (lab2 a1) (HX.out.drewN n4) HXL.out (by omega)).mono ?_
  rintro e w5 ⟨hor, n5, rfl⟩
  rw [drewNN]
  have HM5 := Lib.hid (HM.out.drewN (n4 + n5))
  have HK5 := Lib.hid (HK.out.drewN (n4 + n5))
  have HB5 := Lib.hid (below_drewN HX.out.2 (n4 + n5))
  have hs5 : w2.heap.size ≤ (w3.drewN (n4 + n5)).heap.size := hs3
  have hws : w.heap.size ≤ w2.heap.size := hs1
  obtain ⟨w5, hw5⟩ : ∃ w5, w5 = w3.drewN (n4 + n5) := ⟨_, rfl⟩
  rw [← hw5] at HM5 HK5 HB5 hs5 ⊢
  clear HM HK HX hw5
  rcases hor with ⟨hin, rfl⟩ | ⟨hno, k0, rfl⟩
  · rw [hkx, hd]
    have HIN := Lib.hid hin
    have HKX := Lib.hid hkx
    have HD := Lib.hid hd
    clear hin hkx hd
    go_wp2_with fail
    refine (codesLen2 _ _ c 0 [] HK5.out (by simp)).mono ?_
    rintro e w' ⟨rfl, rfl⟩
    go_wp2_with fail
    refine (zcompBreak _ _ c s p (dd z0) [] a1 HM5.out HK5.out (by rw [HD.out]; omega) (by simp) hs5 hp0 hp).mono ?_
    rintro e w6 ⟨hor6, h6, hb6, hk6⟩
    obtain ⟨k, qa, qb, qd, hk, rfl, hc6, hbr⟩ := hor6.resolve_right (fun h => h.1 (mem_dd.2 HIN.out))
    obtain rfl : kx = k := by rw [← HKX.out]; exact idx_of_nodup (nodup_dd z0) hk
    obtain ⟨ba, bb, bx, bd, bl⟩ := hbr
    have hs6 := hb6.size
    have HM6 := Lib.hid h6
    have HC6 := Lib.hid (show Cod w6 w2.heap.size c [qa, qb, qd] from hc6)
    have HA := Lib.hid ba
    have HBB := Lib.hid bb
    have HDD := Lib.hid bd
    have HB6 := Lib.hid (HB5.out.trans (hb6.mono hws))
    clear hk hc6 h6 hb6 hk6 ba bb bd bl HK5 HM5 HB5
    go_wp2_with fail
    refine (varCount _ _ c s p d _ HM6.out HD.out).mono ?_
    rintro e w7 ⟨rfl, n7, rfl⟩
    go_wp2_with fail
    refine (codesLen2 _ _ c 3 _ (HC6.out.drewN n7) (by simp)).mono ?_
    rintro e w' ⟨rfl, rfl⟩
    go_wp2_with fail
    refine (opAt2 _ _ c 0 qa _ _ _ _ (HC6.out.drewN n7) (by simp) rfl (HA.out.drewN n7) (by simp)).mono ?_
    rintro e w' ⟨rfl, rfl⟩
    go_wp2_with fail
    refine (idxAt2 _ _ c 1 qb _ _ _ _ _ (HC6.out.drewN n7) (by simp) rfl (HBB.out.drewN n7) (by simp)).mono ?_
    rintro e w8 ⟨rfl, hb8⟩
    have HC8 := Lib.hid ((HC6.out.drewN n7).below hb8)
    have HD8 := Lib.hid ((HDD.out.drewN n7).keep hb8 (HDD.out.drewN n7).lt)
    have HB8 := Lib.hid ((below_drewN HB6.out n7).trans (hb8.mono (by show w.heap.size ≤ w6.heap.size; omega)))
    clear hb8
    go_wp2_with fail
    refine (opAt2 _ _ c 2 qd _ _ _ _ HC8.out (by simp) rfl HD8.out (by simp)).mono ?_
    rintro e w' ⟨rfl, rfl⟩
    go_wp2_with fail
    refine (codeCall2 _ _ c 2 qd _ _ _ _ _ _ HC8.out (by simp) rfl HD8.out (by simp)).mono ?_
    rintro e w9 ⟨rfl, hb9⟩
    have HB9 := Lib.hid (HB8.out.trans (hb9.mono HB8.out.size))
    clear hb9
    go_wp2_with fail
    go_ret
    exact ⟨rfl, HB9.out⟩
  · rw [hd]
    have HNO := Lib.hid hno
    have HD := Lib.hid hd
    clear hno hkx hd
    go_wp2_with fail
    refine (codesLen2 _ _ c 0 [] HK5.out (by simp)).mono ?_
    rintro e w' ⟨rfl, rfl⟩
    go_wp2_with fail
    refine (zcompBreak _ _ c s p (dd z0) [] a1 HM5.out HK5.out (by rw [HD.out]; omega) (by simp) hs5 hp0 hp).mono ?_
    rintro e w6 ⟨hor6, h6, hb6, hk6⟩
    obtain ⟨hno, g, rfl, hr, hc1⟩ := hor6.resolve_left (fun ⟨k, _, _, _, hk, _⟩ => HNO.out (mem_dd.1 (List.mem_of_getElem? hk)))
    have hs6 := hb6.size
    have HM6 := Lib.hid h6
    have HC6 := Lib.hid hc1
    have HR := Lib.hid hr
    have HB6 := Lib.hid (HB5.out.trans (hb6.mono hws))
    clear hno hc1 h6 hb6 hk6 hr HK5 HM5 HB5
    go_wp2_with fail
    refine (varCount _ _ c s p d _ HM6.out HD.out).mono ?_
    rintro e w7 ⟨rfl, n7, rfl⟩
    go_wp2_with fail
    refine (brkName _ g a1 _ (HR.out.drewN n7)).mono ?_
    rintro e w' ⟨rfl, rfl⟩
    go_wp2_with fail
    refine (brkNil _ g a1 (HR.out.drewN n7)).mono ?_
    rintro e w' ⟨rfl, rfl⟩
    go_wp2_with fail
    refine (codesLen2 _ _ c 0 _ (HC6.out.drewN n7) (by simp)).mono ?_
    rintro e w' ⟨rfl, rfl⟩
    go_wp2_with fail
    go_ret
    exact ⟨by simp, below_drewN HB6.out n7⟩
set_option maxHeartbeats 2000000 in
theorem fnBreakFindsOrRefuses.walk (a0 : Option Addr) (len0 cap0 : Nat) (z0 : List (ByteArray)) (a1 : ByteArray) (w : World) (w0 : SliceOf 1 (IsStr) w a0 len0 z0) (w1 : a1.size ≤ maxLen) :
    Calls Try.prog 4 #[.slice a0 len0 cap0, .string a1] w fun e w' => e = .returned (.bool true) ∧ Below w.heap.size w w' := by
  have hp := w1
  have hl := w0.lt.2
  unfold maxLen at hp hl
  by_cases hl2 : len0 ≤ 4096
  · by_cases hp2 : a1.size ≤ 1048576
    · rcases Nat.eq_zero_or_pos a1.size with hz | hz
      · have W0 := Lib.hid w0
        clear w0
        obtain rfl : a1 = ByteArray.empty := by
          cases a1
          rename_i d
          simp [ByteArray.size] at hz
          subst hz
          rfl
        go_enter Try.func4, Try.ntmps4
        go_wp2_with fail
        refine (zz17 a0 len0 cap0 z0 _ _ W0.out w1).mono ?_
        rintro e w' ⟨b, rfl, rfl, hsh⟩
        cases b
        · clear hsh
          go_wp2_with fail
          go_ret
          exact ⟨rfl, Below.refl _ _⟩
        have HS := Lib.hid (hsh rfl).1
        clear hsh
        go_wp2_with fail
        refine (bytes6 a0 len0 cap0 z0 _ W0.out HS.out (by omega)).mono ?_
        rintro e w' ⟨n, rfl, rfl, hn0, hn1⟩
        by_cases hn : 1048576 < n
        · go_wp2_with fail
          go_ret
          exact ⟨rfl, Below.refl _ _⟩
        go_wp2_with fail
        go_ret
        exact ⟨rfl, Below.refl _ _⟩
      · exact fnBreakFindsOrRefuses.main a0 len0 cap0 z0 a1 w w0 w1 hl2 hp2 hz
    · have W0 := Lib.hid w0
      clear w0
      go_enter Try.func4, Try.ntmps4
      go_wp2_with fail
      refine (zz17 a0 len0 cap0 z0 a1 _ W0.out w1).mono ?_
      rintro e w' ⟨b, rfl, rfl, hsh⟩
      cases b
      · clear hsh
        go_wp2_with fail
        go_ret
        exact ⟨rfl, Below.refl _ _⟩
      exact absurd (hsh rfl).2 hp2
  · have W0 := Lib.hid w0
    clear w0
    go_enter Try.func4, Try.ntmps4
    go_wp2_with fail
    refine (zz17 a0 len0 cap0 z0 a1 _ W0.out w1).mono ?_
    rintro e w' ⟨b, rfl, rfl, hsh⟩
    clear hsh
    cases b
    · go_wp2_with fail
      go_ret
      exact ⟨rfl, Below.refl _ _⟩
    go_wp2_with fail
    go_ret
    exact ⟨rfl, Below.refl _ _⟩
end Go.Proofs.Ytdlckialndahhaa
