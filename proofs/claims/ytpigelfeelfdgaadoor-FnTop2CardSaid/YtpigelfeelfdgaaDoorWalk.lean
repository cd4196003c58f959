/-
  The walk of FnTop2 (n001_1001).
-/
import Derived.Test.YtpigelfeelfdgaaDoorPrt
import Derived.Test.YtpigelfeelfdgaaDoorUnq
import Derived.Test.YtpigelfeelfdgaaDoorCnv
import Derived.Lib.LaidU8
import Derived.MakeChecks
namespace Go.Proofs.YtpigelfeelfdgaaDoor
set_option linter.unusedVariables false
open Go.ChangeShapes Go.WideShapes Go.ChangeAt Go.RowKit M
theorem tabs_of_laid {w : World} (h : laidMetH Tryd.prog Rows.fnTop2Row.laid w) : Lib.Utf8Tabs 0 1 w := by
  rw [MakeChecks.laidMetH_plain _ _ _ (by kernel_rfl)] at h
  have e : Rows.fnTop2Row.laid = [("unicode/utf8.acceptRanges", Lib.acceptData), ("unicode/utf8.first", Lib.firstData)] := by kernel_rfl
  have h' : laidMet Tryd.prog [("unicode/utf8.acceptRanges", Lib.acceptData), ("unicode/utf8.first", Lib.firstData)] w := by rw [← e]; exact h
  exact utf8Tabs_of_reads (ρ := lays260_ren) lays260 ⟨by kernel_rfl, by kernel_rfl, by kernel_rfl, by kernel_rfl, by kernel_rfl, by kernel_rfl, by kernel_rfl⟩ (Lib.laidMet.reads h' (.tail _ (.head _))) (Lib.laidMet.reads h' (.head _))
theorem zero25 (w : World) : (zeroValue 25).run Tryd.prog w = .ok (.agg #[.string ⟨#[]⟩, .slice none 0 0]) w := by kernel_rfl
theorem zero44 (w : World) : (zeroValue 44).run Tryd.prog w = .ok (.agg #[.int .i64 0, .pointer none, .pointer none, .pointer none, .pointer none, .string ⟨#[]⟩, .pointer none, .string ⟨#[]⟩, .pointer none, .pointer none, .pointer none, .pointer none, .pointer none, .pointer none, .string ⟨#[]⟩, .pointer none, .slice none 0 0]) w := by kernel_rfl
theorem zero46 (w : World) : (zeroValue 46).run Tryd.prog w = .ok (.agg #[.string ⟨#[]⟩, .pointer none, .pointer none, .pointer none, .bool false]) w := by kernel_rfl
set_option maxRecDepth 100000 in
set_option maxHeartbeats 8000000 in
theorem fnTop2.walk (a0 : ByteArray) (w : World) (hT : Lib.Utf8Tabs 0 1 w) (w0 : a0.size ≤ maxLen) :
    Calls Tryd.prog 3 #[.string a0] w fun e w' => e = .returned (.bool true) ∧ Below w.heap.size w w' := by
  have HT := Lib.hid hT
  clear hT
  by_cases h1 : a0.size ≤ 1048576
  · have z25 := zero25
    have z44 := zero44
    have z46 := zero46
    obtain ⟨got, hgot⟩ : ∃ g : ByteArray, g = ⟨(quoted a0).toArray⟩ := ⟨_, rfl⟩
    have HG := Lib.hid hgot
    have HGL := Lib.hid (show got.data.toList = quoted a0 by rw [hgot])
    have hgs : got.size = (quoted a0).length := by rw [show got.size = got.data.toList.length by rw [Array.length_toList]; rfl, HGL.out]
    have hql := quoted_len a0
    rw [← hgs] at hql
    obtain ⟨q1, q2⟩ := hql
    clear hgot hgs
    have hA : Below w.heap.size w (w.alloc (.cells (strRow a0) 25)) := (Below.refl _ _).alloc (Nat.le_refl _) _
    have HA := Lib.hid hA
    have HS := strS (w.alloc (.cells (strRow a0) 25)) w.heap.size a0 (Row.made _ _ _) (Utf8Tabs_below HT.out hA) h1
    rw [← HG.out] at HS
    have HS1 := Lib.hid HS
    clear hA HS
    go_enter Tryd.func3, Tryd.ntmps3
    go_wp2_with fail
    refine HS1.out.mono ?_
    rintro e u1 ⟨rfl, hb1⟩
    have hb2 : Below w.heap.size w u1 := HA.out.trans (hb1.mono (by rw [World.size_alloc]; omega))
    have HB1 := Lib.hid hb2
    have hz1 := hb2.size
    clear hb1 hb2
    go_wp2_with fail
    refine (refC u1 a0 (Utf8Tabs_below HT.out HB1.out) h1).mono ?_
    rintro e u2 ⟨v', rfl, A2, n2, c2, d2, rfl, HN2, HO2, HB2, hz2⟩
    have hcv := HO2.out.conv
    rw [← HG.out] at hcv
    have HB3 := Lib.hid (HB1.out.trans (HB2.out.mono hz1))
    have hz3 := HB3.out.size
    go_wp2_with fail
    have hA2 : Below u2.heap.size u2 ((u2.alloc (.cells (strRow a0) 25)).alloc (.cells #[.int .i64 13, .pointer none, .pointer none, .pointer none, .pointer none, .string ⟨#[]⟩, .pointer none, .string ⟨#[]⟩, .pointer (some ⟨u2.heap.size, 0, none⟩), .pointer none, .pointer none, .pointer none, .pointer none, .pointer none, .string ⟨#[]⟩, .pointer none, .slice none 0 0] 44)) := ((Below.refl _ _).alloc (Nat.le_refl _) _).alloc (by simp) _
    have hA2w := HB3.out.trans (hA2.mono hz3)
    refine (termS _ u2.heap.size (u2.heap.size + 1) a0 _ ((Row.made u2 25 (strRow a0)).alloc _) (Row.made' _ _ (by simp)) rfl rfl rfl (Utf8Tabs_below HT.out hA2w) h1).mono ?_
    rintro e u3 ⟨rfl, hb3⟩
    rw [← HG.out]
    have HB4 := Lib.hid (hA2w.trans (hb3.mono hA2w.size))
    have hz4 := HB4.out.size
    clear hb3 hA2 hA2w
    go_wp2_with fail
    have hA3 : Below u3.heap.size u3 ((u3.alloc (.cells (strRow a0) 25)).alloc (.cells #[.string ⟨#[]⟩, .pointer (some ⟨u3.heap.size, 0, none⟩), .pointer none, .pointer none, .bool false] 46)) := ((Below.refl _ _).alloc (Nat.le_refl _) _).alloc (by simp) _
    have hA3w := HB4.out.trans (hA3.mono hz4)
    refine (idxS _ u3.heap.size (u3.heap.size + 1) a0 _ ((Row.made u3 25 (strRow a0)).alloc _) (Row.made' _ _ (by simp)) rfl rfl (Utf8Tabs_below HT.out hA3w) h1).mono ?_
    rintro e u4 ⟨rfl, hb4⟩
    have hdot : (⟨([46] ++ quoted a0).toArray⟩ : ByteArray) = ⟨#[46]⟩ ++ got := by
      have hl : ((⟨#[46]⟩ : ByteArray) ++ got).data.toList = [46] ++ quoted a0 := by
        rw [← HGL.out]
        simp
      cases hh : ((⟨#[46]⟩ : ByteArray) ++ got) with
      | mk d =>
        rw [hh] at hl
        rw [← hl]
    rw [hdot]
    have HB5 := Lib.hid (hA3w.trans (hb4.mono hA3w.size))
    have hz5 := HB5.out.size
    clear hb4 hA3 hA3w hdot
    go_wp2_with fail
    obtain ⟨f0, hu⟩ := uq_tail a0 a0.size 0 (by omega) (by omega)
    have hg0 : 0 < got.size := by omega
    have hgq : got[0] = 34 := by
      obtain ⟨_, h⟩ := drop_at (r := got) (j := 0) (t := 0) (L := quoted a0) (b := 34) (by rw [List.drop_zero, HGL.out]) (by simp [quoted])
      exact h
    refine (unqC u4 got (fixT a0 0) f0 (by omega) hg0 hgq (by rw [HGL.out]; simpa [quoted] using hu)).mono ?_
    rintro e u5 ⟨rfl, hb5⟩
    obtain ⟨fxb, hfx⟩ : ∃ g : ByteArray, g = ⟨(fixT a0 0).toArray⟩ := ⟨_, rfl⟩
    have HB6 := Lib.hid (HB5.out.trans (hb5.mono hz5))
    have hz6 := HB6.out.size
    obtain ⟨cap, u6, hc1, hb6, hc2⟩ := conv_runes a0 u5 h1
    rw [← hfx] at hc2 ⊢
    have HB7 := Lib.hid (HB6.out.trans (hb6.mono hz6))
    clear hb5 hb6 hfx hu hgq
    go_wp2_with fail
    go_ret
    exact ⟨rfl, HB7.out⟩
  · go_enter Tryd.func3, Tryd.ntmps3
    go_wp2_with fail
    go_ret
    exact ⟨rfl, Below.refl _ _⟩
end Go.Proofs.YtpigelfeelfdgaaDoor
