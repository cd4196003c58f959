/-
  The walk of the law FnBreakCallCarriesLabel (n001_78): it returns true for every input.
-/
import Derived.Test.YtdlckialndahhaaWalkA
import Derived.Laws.IdiomStrings
namespace Go.Proofs.Ytdlckialndahhaa
set_option linter.unusedVariables false
set_option linter.unusedSimpArgs false
open Go.ChangeShapes Go.WideShapes Go.ChangeAt Go.RowKit M
theorem nodup_pushNs {ns : List ByteArray} {nm : ByteArray} (h : ns.Nodup) : (pushNs ns nm).Nodup := nodup_push h
theorem Ctx.stepC {w wr w' : World} {C B : Nat} {A : Option Addr} {xs : List ByteArray} (h : Ctx w C A xs wr) (hB : w.heap.size ≤ B) (hb : Below B wr w') (hk : KeepC wr w') : Ctx w C A xs w' :=
  ⟨h.1.keep fun g cs hr => hk g 9 cs hr (by decide) (by decide), h.2.trans (hb.mono hB)⟩
theorem codeIndex2 (w : World) (B c i q : Nat) (ii x y : Int) (u : Value) (qs : List Nat) (h : Cod w B c qs) (hn : qs.length ≤ 1048576) (hi : qs[i]? = some q) (hq : Row w q 88 #[.iface 28 (.agg #[.int .i64 x, .int .i64 y]), u]) (hii : ii = i) : Calls Try.prog 12 #[.pointer (some ⟨c, 0, none⟩), .int .i64 ii] w fun e w' => e = .returned (.tuple #[.agg #[.int .i64 x, .int .i64 y], .bool true]) ∧ Below w.heap.size w w' := by
  subst hii
  exact codeIndex w B c i q x y u qs h hn hi hq
theorem runBrk2 (w : World) (B c i q bx : Nat) (ii : Int) (u : Value) (lb nm : ByteArray) (n x : Int) (qs : List Nat) (h : Cod w B c qs) (hn : qs.length ≤ 1048576) (hi : qs[i]? = some q) (hq : Row w q 88 #[.iface 90 (.agg #[.iface 92 (.func (.func 33) #[] #[.pointer (some ⟨bx, 0, none⟩)]), .iface 3 (.int .i64 n), .iface 9 (.string nm)]), u]) (hb : Row w bx 9 #[.string lb]) (hii : ii = i) :
    Calls Try.prog 13 #[.pointer (some ⟨c, 0, none⟩), .int .i64 ii, .int .i64 x] w fun e w' => (∃ g : Nat, e = .returned (.pointer (some ⟨g, 0, none⟩)) ∧ Row w' g 95 #[.string lb, .iface 3 (.int .i64 x)]) ∧ Below w.heap.size w w' := by
  subst hii
  exact runBrk w B c i q bx u lb nm n x qs h hn hi hq hb
theorem conv_byte (w : World) (ld : Int) (h : 0 ≤ ld ∧ ld < 256) : ∃ l1 : ByteArray, l1.size = 1 ∧ (convert 40 9 (.slice (some ⟨w.heap.size, 0, none⟩) 1 1)).run Try.prog (w.alloc (.cells #[.int .u8 ld] 5)).drew = .ok (.string l1) (w.alloc (.cells #[.int .u8 ld] 5)).drew := by
  refine ⟨⟨#[UInt8.ofNat ld.toNat]⟩, rfl, ?_⟩
  have hr := ((Row.made w 5 #[.int .u8 ld]).drew).cell 0
  refine run_convert_bytes_back (P := Try.prog) _ 40 9 5 ⟨w.heap.size, 0, none⟩ 1 [UInt8.ofNat ld.toNat] Try.underlying40 Try.underlying5 Try.underlying9 ?_
  intro j hj
  obtain rfl : j = 0 := by simp at hj; exact hj
  have e : (⟨w.heap.size, 0, none⟩ : Addr).add 0 = ⟨w.heap.size, 0, none⟩ := rfl
  rw [e, hr]
  have : ((UInt8.ofNat ld.toNat).toNat : Int) = ld := by
    rw [UInt8.toNat_ofNat_of_lt' (by show _ < 256; omega)]
    omega
  simp only [List.getElem?_toArray, List.getElem?_cons_zero, List.getElem_cons_zero, this]
theorem u8_rng {n : Int} (h : (Lit.int .u8 n).wf = true) : 0 ≤ n ∧ n < 256 := by
  have h1 : IntKind.u8.min = 0 := by decide
  have h2 : IntKind.u8.max = 255 := by decide
  simp only [Lit.wf, Bool.and_eq_true, decide_eq_true_eq, h1, h2] at h
  omega
theorem lab2_size {x lb : ByteArray} (hx : x.size = 1) (h : 0 < lb.size) : (x ++ lb.extract 1 lb.size).size = lb.size := by
  rw [ByteArray.size_append, ByteArray.size_extract, hx]
  omega
theorem lab2_same {x lb : ByteArray} (hx : x.size = 1) (h : 0 < lb.size) : lab2 (x ++ lb.extract 1 lb.size) = lab2 lb := by
  unfold lab2
  rw [lab2_size hx h]
  congr 1
  apply ByteArray.ext_getElem
  · rw [ByteArray.size_extract, ByteArray.size_extract, lab2_size hx h]
  · intro i h1 h2
    rw [ByteArray.getElem_extract, ByteArray.getElem_append_right (by omega)]
    simp only [hx, Nat.add_sub_cancel_left]
set_option maxRecDepth 100000 in
set_option maxHeartbeats 4000000 in
theorem fnBreakCallCarriesLabel.main (a0 : Option Addr) (len0 cap0 : Nat) (z0 : List ByteArray) (a1 : ByteArray) (ld x : Int) (w : World) (w0 : SliceOf 1 IsStr w a0 len0 z0) (w1 : a1.size ≤ maxLen) (hl : len0 ≤ 4096) (hp : a1.size ≤ 1048576) (hp0 : 0 < a1.size) (hld : 0 ≤ ld ∧ ld < 256) :
    Calls Try.prog 3 #[.slice a0 len0 cap0, .string a1, .int .u8 ld, .int .i64 x] w fun e w' => e = .returned (.bool true) ∧ Below w.heap.size w w' := by
  have W0 := Lib.hid w0
  have HXL := Lib.hid w0.lt.1
  clear w0
  go_enter Try.func3, Try.ntmps3
  go_wp2_with fail
  refine (zz5 a0 len0 cap0 z0 a1 _ _ _ W0.out w1).mono ?_
  rintro e w' ⟨b, rfl, rfl, hsh⟩
  cases b
  · clear hsh
    go_wp2_with fail
    go_ret
    exact ⟨rfl, Below.refl _ _⟩
  have HS := Lib.hid (hsh rfl).1
  clear hsh
  go_wp2_with fail
  refine (bytes6 a0 len0 cap0 z0 _ W0.out HS.out (by omega)).mono ?_
  rintro e w' ⟨n, rfl, rfl, hn0, hn1⟩
  by_cases hn : 1048576 < n + 2 * a1.size
  · go_wp2_with fail
    go_ret
    exact ⟨rfl, Below.refl _ _⟩
  go_wp2_with fail
  refine (copy_strs a0 len0 cap0 z0 _ W0.out (by omega)).mono ?_
  rintro e w2 ⟨A, cp, rfl, hcp, hb1⟩
  have hs1 := hb1.size
  have HC1 := Lib.hid (show Ctx w w.heap.size A z0 w2 from ⟨hcp, hb1⟩)
  clear hcp hb1 W0 hn hn0 hn1
  go_wp2_with fail
  refine (newWith3 w w2 A len0 cp z0 HC1.out HXL.out (by omega) hs1).mono ?_
  rintro e w3 ⟨⟨c, s, p, rfl, hcm, hc0⟩, hcx, hs3⟩
  have HM := Lib.hid hcm
  have HK := Lib.hid hc0
  have HX := Lib.hid hcx
  clear hcm hc0 hcx HC1
  go_wp2_with fail
  obtain ⟨ns, hns⟩ : ∃ ns, pushNs (dd z0) (lab2 a1) = ns := ⟨_, rfl⟩
  obtain ⟨kx, hkx⟩ : ∃ kx, idx (lab2 a1) (dd z0) = kx := ⟨_, rfl⟩
  have hdl : (dd z0).length ≤ 4096 := by have := len_dd z0; have := HXL.out; omega
  have hnl : ns.length ≤ 4097 := by have := len_pushNs (dd z0) (lab2 a1); rw [hns] at this; omega
  have hnd : ns.Nodup := by rw [← hns]; exact nodup_push (nodup_dd z0)
  have hmem : lab2 a1 ∈ ns := by rw [← hns]; exact mem_pushNs.2 (.inr rfl)
  refine (zpush2 _ _ c s p _ _ _ (lab2 a1) HM.out (by omega) hs3 hkx hns).mono ?_
  rintro e w5 ⟨rfl, h5, hb5, hk5⟩
  have HM5 := Lib.hid h5
  have HK5 := Lib.hid (HK.out.keep hk5).cod
  have HB5 := Lib.hid (HX.out.2.trans (hb5.mono hs1))
  have hs5 := hb5.size
  have HND := Lib.hid hnd
  have HMEM := Lib.hid hmem
  clear h5 hb5 hk5 HM HK HX hns hkx hnd hmem
  go_wp2_with fail
  refine (codesLen2 _ _ c 0 [] HK5.out (by simp)).mono ?_
  rintro e w' ⟨rfl, rfl⟩
  go_wp2_with fail
  refine (zcompBreak _ _ c s p ns [] a1 HM5.out HK5.out (by omega) (by simp) (by omega) hp0 hp).mono ?_
  rintro e w6 ⟨hor6, h6, hb6, hk6⟩
  obtain ⟨k, qa, qb, qd, hk, rfl, hc6, hbr⟩ := hor6.resolve_right (fun h => h.1 HMEM.out)
  obtain ⟨ba, bb, bx, bd, bl⟩ := hbr
  have hs6 := hb6.size
  have hkl : k < 4097 := by have := (List.getElem?_eq_some_iff.1 hk).1; omega
  have HKK := Lib.hid hk
  have HM6 := Lib.hid h6
  have HC6 := Lib.hid (show Cod w6 w2.heap.size c [qa, qb, qd] from hc6)
  have HBB := Lib.hid bb
  have HDD := Lib.hid bd
  have HLL := Lib.hid bl
  have HB6 := Lib.hid (HB5.out.trans (hb6.mono hs1))
  clear hk hc6 h6 hb6 hk6 ba bb bd bl HK5 HM5 HB5 hor6
  go_wp2_with fail
  refine (codesLen2 _ _ c 3 _ HC6.out (by simp)).mono ?_
  rintro e w' ⟨rfl, rfl⟩
  go_wp2_with fail
  refine (codeIndex2 _ _ c 1 qb _ _ _ _ _ HC6.out (by simp) rfl HBB.out (by simp)).mono ?_
  rintro e w7 ⟨rfl, hb7⟩
  have HC7 := Lib.hid (HC6.out.below hb7)
  have HM7 := Lib.hid (HM6.out.below hb7)
  have HD7 := Lib.hid (HDD.out.keep hb7 HDD.out.lt)
  have HL7 := Lib.hid (HLL.out.keep hb7 HLL.out.lt)
  have hs7 := hb7.size
  have HB7 := Lib.hid (HB6.out.trans (hb7.mono HB6.out.size))
  clear hb7 HC6 HM6 HDD HLL HB6 HBB
  go_wp2_with fail
  have hb8 : Below w7.heap.size w7 (w7.alloc (.cells #[.int .i64 1, .int .i64 k] 28)) := (Below.refl _ _).alloc (Nat.le_refl _) _
  have hr8 := Row.made w7 28 #[.int .i64 1, .int .i64 k]
  refine (runBrk2 _ _ c 2 qd bx _ _ a1 _ _ x _ (HC7.out.below hb8) (by simp) rfl (HD7.out.keep hb8 HD7.out.lt) (HL7.out.keep hb8 HL7.out.lt) (by simp)).mono ?_
  rintro e w9 ⟨⟨g, rfl, hg⟩, hb9⟩
  have hb79 := hb8.trans (hb9.mono (by simp))
  have HR9 := Lib.hid (hr8.keep hb9 hr8.lt)
  have HC9 := Lib.hid (HC7.out.below hb79)
  have HM9 := Lib.hid (HM7.out.below hb79)
  have HG := Lib.hid hg
  have hs9 := hb79.size
  have HB9 := Lib.hid (HB7.out.trans (hb79.mono HB7.out.size))
  clear hb8 hr8 hb9 hb79 hg HC7 HM7 HB7 HD7 HL7
  go_wp2_with fail
  refine (brkName _ g a1 _ HG.out).mono ?_
  rintro e w' ⟨rfl, rfl⟩
  go_wp2_with fail
  refine (brkInt _ g a1 x HG.out).mono ?_
  rintro e w' ⟨rfl, rfl⟩
  go_wp2_with fail
  refine (codesLen2 _ _ c 3 _ HC9.out (by simp)).mono ?_
  rintro e w' ⟨rfl, rfl⟩
  go_wp2_with fail
  obtain ⟨l1, hl1, hcv⟩ := conv_byte w9 ld hld
  have hs9' : w2.heap.size ≤ w9.heap.size := by omega
  have hb10 : Below w9.heap.size w9 (w9.alloc (.cells #[.int .u8 ld] 5)).drew := below_drewN ((Below.refl _ _).alloc (Nat.le_refl _) _) 1
  have HB10 := Lib.hid hb10
  have HL1 := Lib.hid hl1
  have ha1 : (1 : Int) ≤ a1.size := by omega
  clear hb10
  go_region_with (go_at_call 11; refine (zcompBreak _ _ c s p ns [qa, qb, qd] _ (HM9.out.below HB10.out) (HC9.out.below HB10.out) (by omega) (by simp) (by have := HB10.out.size; omega) (by rw [lab2_size HL1.out hp0]; exact hp0) (by rw [lab2_size HL1.out hp0]; exact hp)).mono ?_; rintro e w11 ⟨hor11, h11, hb11, hk11⟩; rw [lab2_same HL1.out hp0] at hor11; obtain ⟨k2, q1, q2, q3, hk2, rfl, hc11, hbr11⟩ := hor11.resolve_right (fun h => h.1 HMEM.out); have HK2 := Lib.hid hk2; have HC11 := Lib.hid hc11; have HR11 := Lib.hid hbr11; have HBB11 := Lib.hid hb11; have HKC := Lib.hid hk11; clear hk2 hc11 hbr11 hb11 hk11 h11 hor11)
  all_goals
    obtain rfl : k = k2 := by rw [← idx_of_nodup HND.out HKK.out, ← idx_of_nodup HND.out HK2.out]
    have rv := HKC.out _ _ _ (HR9.out.keep HB10.out HR9.out.lt) (by decide) (by decide)
    have v0 := rv.cell 0
    have v1 := rv.cell 1
    simp only [List.getElem?_toArray, List.getElem?_cons_succ, List.getElem?_cons_zero] at v0 v1
    have lv := rv.lt
    have HCX := Lib.hid (show Cod w11 w2.heap.size c [qa, qb, qd, q1, q2, q3] from HC11.out)
    have HBX := Lib.hid (HB9.out.trans ((HB10.out.mono hs9').trans HBB11.out |>.mono hs1))
    clear HC11 rv
    go_wp2_with fail
    refine (codesLen2 _ _ c 6 _ HCX.out (by simp)).mono ?_
    rintro e w' ⟨rfl, rfl⟩
    go_wp2_with fail
    refine (idxAt2 _ _ c 4 q2 _ _ _ _ _ HCX.out (by simp) rfl HR11.out.2.1 (by simp)).mono ?_
    rintro e w12 ⟨rfl, hb12⟩
    have HBZ := Lib.hid (HBX.out.trans (hb12.mono HBX.out.size))
    clear hb12
    go_wp2_with fail
    go_ret
    exact ⟨rfl, HBZ.out⟩
set_option maxHeartbeats 2000000 in
theorem fnBreakCallCarriesLabel.walk (a0 : Option Addr) (len0 cap0 : Nat) (z0 : List (ByteArray)) (a1 : ByteArray) (a2 : Int) (a3 : Int) (w : World) (w0 : SliceOf 1 (IsStr) w a0 len0 z0) (w1 : a1.size ≤ maxLen) (w2 : (Lit.int .u8 a2).wf = true) (w3 : (Lit.int .i64 a3).wf = true) :
    Calls Try.prog 3 #[.slice a0 len0 cap0, .string a1, .int .u8 a2, .int .i64 a3] w fun e w' => e = .returned (.bool true) ∧ Below w.heap.size w w' := by
  have hp := w1
  have hl := w0.lt.2
  unfold maxLen at hp hl
  by_cases hl2 : len0 ≤ 4096
  · by_cases hp2 : a1.size ≤ 1048576
    · rcases Nat.eq_zero_or_pos a1.size with hz | hz
      · have W0 := Lib.hid w0
        clear w0
        obtain rfl : a1 = ByteArray.empty := by
          cases a1
          rename_i d
          simp [ByteArray.size] at hz
          subst hz
          rfl
        go_enter Try.func3, Try.ntmps3
        go_wp2_with fail
        refine (zz5 a0 len0 cap0 z0 _ _ _ _ W0.out w1).mono ?_
        rintro e w' ⟨b, rfl, rfl, hsh⟩
        cases b
        · clear hsh
          go_wp2_with fail
          go_ret
          exact ⟨rfl, Below.refl _ _⟩
        have HS := Lib.hid (hsh rfl).1
        clear hsh
        go_wp2_with fail
        refine (bytes6 a0 len0 cap0 z0 _ W0.out HS.out (by omega)).mono ?_
        rintro e w' ⟨n, rfl, rfl, hn0, hn1⟩
        by_cases hn : 1048576 < n
        · go_wp2_with fail
          go_ret
          exact ⟨rfl, Below.refl _ _⟩
        go_wp2_with fail
        go_ret
        exact ⟨rfl, Below.refl _ _⟩
      · exact fnBreakCallCarriesLabel.main a0 len0 cap0 z0 a1 a2 a3 w w0 w1 hl2 hp2 hz (u8_rng w2)
    · have W0 := Lib.hid w0
      clear w0
      go_enter Try.func3, Try.ntmps3
      go_wp2_with fail
      refine (zz5 a0 len0 cap0 z0 a1 _ _ _ W0.out w1).mono ?_
      rintro e w' ⟨b, rfl, rfl, hsh⟩
      cases b
      · clear hsh
        go_wp2_with fail
        go_ret
        exact ⟨rfl, Below.refl _ _⟩
      exact absurd (hsh rfl).2 hp2
  · have W0 := Lib.hid w0
    clear w0
    go_enter Try.func3, Try.ntmps3
    go_wp2_with fail
    refine (zz5 a0 len0 cap0 z0 a1 _ _ _ W0.out w1).mono ?_
    rintro e w' ⟨b, rfl, rfl, hsh⟩
    clear hsh
    cases b
    · go_wp2_with fail
      go_ret
      exact ⟨rfl, Below.refl _ _⟩
    go_wp2_with fail
    go_ret
    exact ⟨rfl, Below.refl _ _⟩
end Go.Proofs.Ytdlckialndahhaa
