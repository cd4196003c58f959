/-
  The walk of the law FnArrayWriteToScript (n001_84): it returns true for every input.
-/
import Derived.Test.YtebcjlgeppebgaaDoorGrp
namespace Go.Proofs.YtebcjlgeppebgaaDoor
set_option linter.unusedVariables false
open Go.ChangeShapes Go.WideShapes Go.ChangeAt Go.RowKit Go.Deep M
section
variable {H : Type} {enc : TypeId × Value → H} {w : World} {base : Nat} {spare : Nat → Bool} {held : Bool}
theorem read_grp (n : Nat) (cs : List Value) (y : DataW H × List MemPlace) (h : DataW.trod enc Tryd.prog w base spare held n 30 cs = some y) : ∃ l : List Item, IsGrp w cs l := by
  rcases open_slice Tryd.underlying30 h with ⟨hcs, _⟩ | ⟨ad, l, c, m, n2, D, Pl, hcs, _⟩
  · subst hcs
    exact ⟨[], none, 0, 0, rfl, rfl, Nat.zero_le _, fun h => absurd h (by omega)⟩
  · subst hcs
    obtain ⟨xs, hx⟩ := open_sliceOf (C := 2) (R := IsItem) Tryd.underlying30 (by kernel_rfl) (by decide) read_item h
    exact ⟨xs, _, _, _, rfl, hx⟩
end
def tot (gs : List (List Item)) : Nat := (gs.map fun l => 24 + itemSum l).foldr (· + ·) 0
theorem tot_append (l m : List (List Item)) : tot (l ++ m) = tot l + tot m := by
  induction l with
  | nil => simp [tot]
  | cons x r ih =>
    have h1 : tot (x :: r ++ m) = 24 + itemSum x + tot (r ++ m) := rfl
    have h2 : tot (x :: r) = 24 + itemSum x + tot r := rfl
    omega
theorem tot_take (l : List (List Item)) (k : Nat) : tot (l.take k) ≤ tot l := by
  have h := tot_append (l.take k) (l.drop k)
  rw [List.take_append_drop] at h
  omega
theorem tot_get {gs : List (List Item)} {k : Nat} {l : List Item} (h : gs[k]? = some l) : gs.take (k + 1) = gs.take k ++ [l] ∧ tot (gs.take (k + 1)) = tot (gs.take k) + (24 + itemSum l) := by
  obtain ⟨h1, h2⟩ := List.getElem?_eq_some_iff.1 h
  have h3 : gs.take (k + 1) = gs.take k ++ [l] := by rw [List.take_succ_eq_append_getElem h1, h2]
  exact ⟨h3, by rw [h3, tot_append]; rfl⟩
/-- The text that the script writes. -/
def scr (c : Bool) (gs : List (List Item)) : List UInt8 := gs.flatMap fun l => mt c l ++ [93]
theorem scr_snoc (c : Bool) (gs : List (List Item)) (l : List Item) : scr c (gs ++ [l]) = scr c gs ++ (mt c l ++ [93]) := by simp [scr]
theorem scr_le (c : Bool) (gs : List (List Item)) : (scr c gs).length ≤ tot gs := by
  induction gs with
  | nil => simp [scr]
  | cons l r ih =>
    have h1 : scr c (l :: r) = mt c l ++ [93] ++ scr c r := rfl
    have h2 : tot (l :: r) = 24 + itemSum l + tot r := rfl
    have h3 := mt_le c l
    rw [h1, List.length_append, List.length_append, List.length_singleton]
    omega
theorem cut_head (L m : List UInt8) : (((⟨(L ++ m).toArray⟩ : ByteArray).extract 0 L.length).toList == L) = true := by
  rw [ByteArray.toList_eq, ByteArray.data_extract, beq_iff_eq]
  simp
theorem cut_tail (L m : List UInt8) : (((⟨(L ++ m).toArray⟩ : ByteArray).extract L.length (L.length + m.length)).toList == m) = true := by
  rw [ByteArray.toList_eq, ByteArray.data_extract, beq_iff_eq]
  simp
set_option maxRecDepth 100000 in
set_option maxHeartbeats 2000000 in
theorem arrScript.main (a0 : Option Addr) (len0 cap0 : Nat) (z0 : List (List Item)) (a1 : Bool) (w : World) (w0 : SliceOf 1 (IsGrp w) w a0 len0 z0) (hl : len0 ≤ 4096) :
    Calls Tryd.prog 9 #[.slice a0 len0 cap0, .bool a1] w fun e w' => e = .returned (.bool true) ∧ Below w.heap.size w w' := by
  have W0 := Lib.hid w0
  have HLZ := Lib.hid w0.lt.1
  clear w0
  go_enter Tryd.func9, Tryd.ntmps9
  go_wp2_with fail
  refine (zz34 a0 len0 cap0 z0 a1 _ W0.out).mono ?_
  rintro e w' ⟨b, rfl, hb, rfl⟩
  cases b
  · clear hb
    go_wp2_with fail
    go_ret
    exact ⟨rfl, Below.refl _ _⟩
  have HS := Lib.hid (hb rfl)
  clear hb
  go_wp2_with fail
  go_loop [5, 6, 7] (fun t c i => ∃ (n m k : Nat), k ≤ len0 ∧ n ≤ 1048576 ∧ m ≤ 4096 ∧ tot (z0.take k) = n ∧ (∀ l ∈ z0.take k, l.length ≤ 4096) ∧ t = .int .i64 n ∧ c = .int .i64 m ∧ i = .int .i64 k) (fun _ _ i => len0 - (intOf i).toNat)
  case atStart => exact ⟨0, 0, 0, Nat.zero_le _, by omega, by omega, rfl, by simp, rfl, rfl, rfl⟩
  case round =>
    obtain ⟨n, m, k, hk, hn, hm, ht, hls, rfl, rfl, rfl⟩ := hrel
    have HT := Lib.hid ht
    have HLS := Lib.hid hls
    clear ht hls
    by_cases hlt : k < len0
    · obtain ⟨b, o, l, a2, c2, rfl, hbl, hxs, hit, c0⟩ := W0.out.grp hlt
      have HIT := Lib.hid hit
      have hsl := HS.out l (List.mem_of_getElem? hxs)
      have HTG := Lib.hid (tot_get hxs)
      have hlm := hit.lt.2
      unfold maxLen at hlm
      clear hit hxs
      by_cases hl3 : l.length ≤ 4096
      · have his := itemSum_eq l
        have hi2 : itemSum l ≤ 1146880 := by omega
        clear his
        have hALL : ∀ y ∈ z0.take (k + 1), y.length ≤ 4096 := by
          rw [HTG.out.1]
          intro y hy
          rcases List.mem_append.1 hy with hy | hy
          · exact HLS.out y hy
          · rw [List.mem_singleton.1 hy]
            exact hl3
        have HALL := Lib.hid hALL
        clear hALL
        go_wp2_with fail
        refine (itemsBytes a2 l.length c2 l _ HIT.out hl3 hsl).mono ?_
        rintro e w' ⟨rfl, rfl⟩
        by_cases hn2 : n + (24 + itemSum l) ≤ 1048576
        · by_cases hm2 : m + l.length ≤ 4096
          · go_wp2_with fail
            exact ⟨⟨n + (24 + itemSum l), m + l.length, k + 1, by omega, hn2, hm2, by rw [HTG.out.2, HT.out], HALL.out, by go_num, by go_num, by go_num⟩, by simp [intOf]; omega⟩
          · go_wp2_with fail
            go_ret
            exact ⟨rfl, Below.refl _ _⟩
        · go_wp2_with fail
          go_ret
          exact ⟨rfl, Below.refl _ _⟩
      · go_wp2_with fail
        go_ret
        exact ⟨rfl, Below.refl _ _⟩
    · obtain rfl : k = len0 := by omega
      have hat : z0.take k = z0 := List.take_of_length_le (by rw [HLZ.out]; omega)
      have htt := HT.out
      have hll := HLS.out
      rw [hat] at htt hll
      have HTT := Lib.hid htt
      have HLL := Lib.hid hll
      clear hat htt hll
      go_wp2_with fail
      refine (cloneGroups a0 k cap0 z0 _ W0.out hl HLL.out).mono ?_
      rintro e w1 ⟨A, c, rfl, h1, hb1⟩
      have hfr := Bld.fresh w1 (Nat.le_refl _)
      have hal : Below w1.heap.size w1 (w1.alloc (.cells #[.pointer none, .slice none 0 0] tBld)) := (Below.refl _ _).alloc (Nat.le_refl _) _
      have H1 := Lib.hid h1
      have HB1 := Lib.hid hb1
      have HFR := Lib.hid hfr
      have HAL := Lib.hid hal
      have hz1 := hb1.size
      clear h1 hb1 hfr hal
      go_wp2_with fail
      go_loopw [9, 10] (fun p i wr => ∃ (j : Nat) (d : Option Nat) (L : List UInt8), j ≤ k ∧ i = .int .i64 j ∧ p = .string ⟨L.toArray⟩ ∧ L = scr (!a1) (z0.take j) ∧ Bld wr w1.heap.size w1.heap.size d L ∧ Below w1.heap.size w1 wr) (fun _ i _ => k - (intOf i).toNat)
      case atStart => exact ⟨0, none, [], Nat.zero_le _, rfl, rfl, rfl, HFR.out, HAL.out⟩
      case round =>
        obtain ⟨j, d, L, hj, rfl, rfl, hL, hbd, hbw⟩ := hrel
        have HL := Lib.hid hL
        have HBD := Lib.hid hbd
        have HBW := Lib.hid hbw
        have hwz := hbw.size
        have hLl : L.length ≤ tot (z0.take j) := by rw [hL]; exact scr_le _ _
        have hLl2 := tot_take z0 j
        have hLl3 : L.length ≤ 1048576 := by have := HTT.out; omega
        clear hL hbd hbw hLl hLl2
        by_cases hlt : j < k
        · obtain ⟨b, o, l, a2, c2, rfl, hbl, hxs, hit, c0⟩ := (H1.out.grpKeep HBW.out).grp hlt
          have hl4 : l.length ≤ 4096 := HLL.out l (List.mem_of_getElem? hxs)
          have htg := (tot_get hxs).2
          have htk := tot_take z0 (j + 1)
          have hil : itemSum l ≤ 1048576 := by have := HTT.out; omega
          have HTG := Lib.hid (tot_get hxs).1
          have HSC := Lib.hid (show scr (!a1) (z0.take (j + 1)) = L ++ (mt (!a1) l ++ [93]) by rw [(tot_get hxs).1, scr_snoc, HL.out])
          have hml := mt_le (!a1) l
          have HIT := Lib.hid hit
          have HBL := Lib.hid hbl
          have HXS := Lib.hid hxs
          have HLT := Lib.hid hlt
          clear hxs hit htg htk hlt
          go_wp2_with fail
          refine (blen _ w1.heap.size w1.heap.size d L HBD.out).mono ?_
          rintro e w' ⟨rfl, rfl⟩
          go_wp2_with fail
          refine (buildArr a2 l.length c2 l a1 _ HIT.out hl4).mono ?_
          rintro e w3 ⟨n3, rfl, ha, hb3⟩
          have HA := Lib.hid ha
          have HBD3 := Lib.hid (HBD.out.below hb3)
          have HW3 := Lib.hid (HBW.out.trans (hb3.mono hwz))
          have hz3 : w1.heap.size ≤ w3.heap.size := HW3.out.size
          have HIT3 := Lib.hid (HIT.out.keep hb3)
          clear ha hb3 c0
          go_wp2_with fail
          refine (zArrTo _ _ w1.heap.size w1.heap.size d L _ n3 HA.out HBD3.out (by simp; omega) hz3 (prArr_arrQ (!a1) l L)).mono ?_
          rintro e w4 ⟨rfl, ho⟩
          obtain ⟨d4, hb4, hd4, ht4, hk4, hz4⟩ := POut.parts HBD3.out ho
          have HW4 := Lib.hid (HW3.out.trans (ho.below HBD3.out (Nat.le_refl _)))
          clear ho
          unfold NoEnd
          go_wp2_with fail
          refine (bstring _ w1.heap.size w1.heap.size d4 _ hb4.out).mono ?_
          rintro e w5 ⟨rfl, hs5⟩
          have HB5 := Lib.hid hs5.1
          have HW5 := Lib.hid (HW4.out.trans (hs5.out.below hb4.out (Nat.le_refl _)))
          have hz5 : w1.heap.size ≤ w5.heap.size := HW5.out.size
          obtain ⟨b', o', l', a5, c5, hx5, hbl5, hxs5, hit5, c05⟩ := (H1.out.grpKeep HW5.out).grp (k := j) HLT.out
          injection hx5 with hx5
          injection hx5 with hx5 hx6
          subst hx5 hx6
          obtain rfl : l' = l := by
            have := HXS.out
            rw [hxs5] at this
            injection this
          have HIT5 := Lib.hid hit5
          clear hxs5 hit5 hs5
          go_wp2_with fail
          refine (arrMod a5 l'.length c5 l' a1 _ HIT5.out hl4 hil).mono ?_
          rintro e w6 ⟨rfl, hb6⟩
          have HW6 := Lib.hid (HW5.out.trans (hb6.mono hz5))
          have HBD6 := Lib.hid (HB5.out.below hb6)
          clear hb6 c05
          obtain ⟨M, hM⟩ : ∃ M, M = mt (!a1) l' ++ [93] := ⟨_, rfl⟩
          have hMl : M.length ≤ 1048600 := by rw [hM, List.length_append, List.length_singleton]; omega
          rw [← hM] at HSC HBD6 ⊢
          have hc1 := cut_head L M
          have hc2 := cut_tail L M
          clear hM hml
          go_wp2_with fail
          have hjk := HLT.out
          exact ⟨⟨j + 1, _, L ++ M, by omega, by go_num, rfl, HSC.out.symm, HBD6.out, HW6.out⟩, by simp [intOf]; omega⟩
        · obtain rfl : j = k := by omega
          go_wp2_with fail
          go_ret
          exact ⟨rfl, HB1.out.trans (HBW.out.mono hz1)⟩
set_option maxHeartbeats 1000000 in
theorem fnArrayWriteToScript.walk (a0 : Option Addr) (len0 cap0 : Nat) (z0 : List (List Item)) (a1 : Bool) (w : World) (w0 : SliceOf 1 (IsGrp w) w a0 len0 z0) :
    Calls Tryd.prog 9 #[.slice a0 len0 cap0, .bool a1] w fun e w' => e = .returned (.bool true) ∧ Below w.heap.size w w' := by
  by_cases hl : len0 ≤ 4096
  · exact arrScript.main a0 len0 cap0 z0 a1 w w0 hl
  · have W0 := Lib.hid w0
    have hlm := w0.lt.2
    unfold maxLen at hlm
    clear w0
    go_enter Tryd.func9, Tryd.ntmps9
    go_wp2_with fail
    refine (zz34 a0 len0 cap0 z0 a1 _ W0.out).mono ?_
    rintro e w' ⟨b, rfl, hb, rfl⟩
    clear hb
    cases b
    all_goals
      go_wp2_with fail
      go_ret
      exact ⟨rfl, Below.refl _ _⟩
end Go.Proofs.YtebcjlgeppebgaaDoor
