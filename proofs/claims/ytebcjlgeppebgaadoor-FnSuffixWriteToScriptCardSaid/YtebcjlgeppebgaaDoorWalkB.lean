/-
  The walks of the laws FnArrayStringListModel and FnArrayWriteToAfterPrefix (n001_84): they return true for every input.
-/
import Derived.Test.YtebcjlgeppebgaaDoorItemsC
import Derived.Test.YtebcjlgeppebgaaDoorArgsI
namespace Go.Proofs.YtebcjlgeppebgaaDoor
set_option linter.unusedVariables false
open Go.ChangeShapes Go.WideShapes Go.ChangeAt Go.RowKit M
theorem ArrAt.keep {w w' : World} {k : Nat} {o : Option Qy} (h : ArrAt w k o) (hk : KeepN w w') : ArrAt w' k o := by
  obtain ⟨v, hr, hm⟩ := h
  refine ⟨v, hk _ _ _ hr (by decide) (by decide), ?_⟩
  cases o with
  | none => exact hm
  | some q =>
    obtain ⟨a, rfl, hi⟩ := hm
    exact ⟨a, rfl, hi.keep hk⟩
theorem cat_eq (a : ByteArray) (m : List UInt8) : (a.data.toList ++ m == (a ++ (⟨m.toArray⟩ : ByteArray)).toList) = true := by
  rw [ByteArray.toList_eq, ByteArray.data_append, Array.toList_append, beq_iff_eq]
theorem prArr_mt (c : Bool) (zs : List Item) : prArr (arrQ c zs) [] = mt c zs ++ [93] := by
  rw [prArr_arrQ]
  rfl
set_option maxRecDepth 100000 in
set_option maxHeartbeats 1000000 in
theorem fnArrayStringListModel.walk (a0 : Option Addr) (len0 cap0 : Nat) (z0 : List (Item)) (a1 : Bool) (w : World) (w0 : SliceOf 2 (IsItem) w a0 len0 z0) :
    Calls Tryd.prog 4 #[.slice a0 len0 cap0, .bool a1] w fun e w' => e = .returned (.bool true) ∧ Below w.heap.size w w' := by
  have W0 := Lib.hid w0
  have hl := w0.lt.2
  unfold maxLen at hl
  clear w0
  by_cases hl2 : len0 ≤ 4096
  · go_enter Tryd.func4, Tryd.ntmps4
    go_wp2_with fail
    refine (zz16 a0 len0 cap0 z0 a1 _ W0.out).mono ?_
    rintro e w' ⟨b, rfl, hb, rfl⟩
    cases b
    · clear hb
      go_wp2_with fail
      go_ret
      exact ⟨rfl, Below.refl _ _⟩
    have hsz := hb rfl
    clear hb
    go_wp2_with fail
    refine (itemsBytes a0 len0 cap0 z0 _ W0.out hl2 hsz).mono ?_
    rintro e w' ⟨rfl, rfl⟩
    by_cases hs : itemSum z0 ≤ 1048576
    · go_wp2_with fail
      refine (cloneItems a0 len0 cap0 z0 _ W0.out hl2).mono ?_
      rintro e w1 ⟨A, c, rfl, h1, hb1⟩
      have H1 := Lib.hid h1
      have HB1 := Lib.hid hb1
      have hz1 := hb1.size
      clear h1 hb1
      go_wp2_with fail
      refine (buildArr A len0 c z0 a1 _ H1.out hl2).mono ?_
      rintro e w2 ⟨n, rfl, ha, hb2⟩
      have HA := Lib.hid ha
      have HB2 := Lib.hid hb2
      have hz2 := hb2.size
      clear ha hb2
      go_wp2_with fail
      refine (arrStr2 _ n _ _ HA.out (by have := mt_le (!a1) z0; simp; omega) (prArr_mt (!a1) z0)).mono ?_
      rintro e w3 ⟨rfl, hb3⟩
      have HB3 := Lib.hid hb3
      have hz3 := hb3.size
      clear hb3
      go_wp2_with fail
      refine (arrMod A len0 c z0 a1 _ ((H1.out.keep HB2.out).keep (HB3.out)) hl2 hs).mono ?_
      rintro e w4 ⟨rfl, hb4⟩
      have HB4 := Lib.hid hb4
      clear hb4
      go_wp2_with fail
      go_ret
      exact ⟨ret_b (by simp), ((HB1.out.trans (HB2.out.mono hz1)).trans (HB3.out.mono (by omega))).trans (HB4.out.mono (by omega))⟩
    · go_wp2_with fail
      go_ret
      exact ⟨rfl, Below.refl _ _⟩
  · go_enter Tryd.func4, Tryd.ntmps4
    go_wp2_with fail
    refine (zz16 a0 len0 cap0 z0 a1 _ W0.out).mono ?_
    rintro e w' ⟨b, rfl, hb, rfl⟩
    clear hb
    cases b
    all_goals
      go_wp2_with fail
      go_ret
      exact ⟨rfl, Below.refl _ _⟩
theorem arrTo (o : Option Qy) (w : World) (B b : Nat) (d : Option Nat) (acc : List UInt8) (k : Nat) (ha : ArrAt w k o) (hb : Bld w B b d acc) (hl : (prArr o acc).length ≤ 140737488355328) (hB : B ≤ w.heap.size) :
    Calls Tryd.prog 39 #[.pointer (some ⟨k, 0, none⟩), .pointer (some ⟨b, 0, none⟩)] w (POut w B b d (prArr o acc)) := by
  obtain ⟨v, hr, hm⟩ := ha
  cases o with
  | none =>
    subst hm
    exact arrNone w B b d acc k hr hb hl hB
  | some q =>
    obtain ⟨a, rfl, hi⟩ := hm
    exact arrSome q (wq q) w B b d acc k a hr hi hb hl hB
theorem zArrTo (o : Option Qy) (w : World) (B b : Nat) (d : Option Nat) (acc l : List UInt8) (k : Nat) (ha : ArrAt w k o) (hb : Bld w B b d acc) (hl : l.length ≤ 140737488355328) (hB : B ≤ w.heap.size) (he : prArr o acc = l) :
    Calls Tryd.prog 24 #[.pointer (some ⟨k, 0, none⟩), .pointer (some ⟨b, 0, none⟩)] w (POut w B b d l) := by
  subst he
  have HA := Lib.hid ha
  have HB := Lib.hid hb
  have HL := Lib.hid hl
  clear ha hb hl
  go_enter Tryd.func24, Tryd.ntmps24
  go_wp2_with fail
  refine (arrTo o _ B b d acc k HA.out HB.out HL.out hB).mono ?_
  rintro e w1 ⟨rfl, ho⟩
  have HO := Lib.hid ho
  clear ho
  go_wp2_with fail
  go_end0
  exact POut.mk HO.out
set_option maxRecDepth 100000 in
set_option maxHeartbeats 1000000 in
theorem fnArrayWriteToAfterPrefix.walk (a0 : ByteArray) (a1 : Option Addr) (len1 cap1 : Nat) (z1 : List (Item)) (a2 : Bool) (w : World) (w0 : a0.size ≤ maxLen) (w1 : SliceOf 2 (IsItem) w a1 len1 z1) :
    Calls Tryd.prog 5 #[.string a0, .slice a1 len1 cap1, .bool a2] w fun e w' => e = .returned (.bool true) ∧ Below w.heap.size w w' := by
  have W0 := Lib.hid w1
  have hl := w1.lt.2
  have hp := w0
  unfold maxLen at hl hp
  clear w1
  by_cases hl2 : len1 ≤ 4096
  · by_cases hp2 : a0.size ≤ 1048576
    · go_enter Tryd.func5, Tryd.ntmps5
      go_wp2_with fail
      refine (zz22 a0 a1 len1 cap1 z1 a2 _ w0 W0.out).mono ?_
      rintro e w' ⟨b, rfl, hb, rfl⟩
      cases b
      · clear hb
        go_wp2_with fail
        go_ret
        exact ⟨rfl, Below.refl _ _⟩
      have hsz := hb rfl
      have his := itemSum_eq z1
      rw [W0.out.lt.1] at his
      have his2 : itemSum z1 ≤ 1146880 := by omega
      clear hb his
      go_wp2_with fail
      refine (itemsBytes a1 len1 cap1 z1 _ W0.out hl2 hsz).mono ?_
      rintro e w' ⟨rfl, rfl⟩
      by_cases hs : a0.size + itemSum z1 ≤ 1048576
      · go_wp2_with fail
        refine (cloneItems a1 len1 cap1 z1 _ W0.out hl2).mono ?_
        rintro e w1 ⟨A, c, rfl, h1, hb1⟩
        have H1 := Lib.hid h1
        have HB1 := Lib.hid hb1
        have hz1 := hb1.size
        clear h1 hb1
        go_wp2_with fail
        refine (buildArr A len1 c z1 a2 _ H1.out hl2).mono ?_
        rintro e w2 ⟨n, rfl, ha, hb2⟩
        have hfr := Bld.fresh w2 (Nat.le_refl _)
        have hal : Below w2.heap.size w2 (w2.alloc (.cells #[.pointer none, .slice none 0 0] tBld)) := (Below.refl _ _).alloc (Nat.le_refl _) _
        have HA := Lib.hid (ha.keep (KeepN.below hal))
        have HB2 := Lib.hid (hb2.trans (hal.mono hb2.size))
        have hz2 := hb2.size
        have HFR := Lib.hid hfr
        clear ha hb2 hfr hal
        go_wp2_with fail
        refine (bstrP _ w2.heap.size w2.heap.size none [] a0 HFR.out (by simp; omega) (by simp)).mono ?_
        rintro e w3 ⟨rfl, d3, hb3, hd3, ht3, hk3, hz3⟩
        have hz3' : w2.heap.size ≤ w3.heap.size := by simp at hz3; omega
        have HB3 := Lib.hid ((HB2.out).trans (((BOut.then hd3.out ht3.out (BOut.refl hb3.out)).below HFR.out (Nat.le_refl _)).mono hz2))
        go_wp2_with fail
        refine (zArrTo _ _ w2.heap.size w2.heap.size d3 _ _ n (HA.out.keep hk3.out) hb3.out (by have := mt_le (!a2) z1; simp; omega) hz3' (prArr_arrQ (!a2) z1 _)).mono ?_
        rintro e w4 ⟨rfl, ho⟩
        obtain ⟨d4, hb4, hd4, ht4, hk4, hz4⟩ := POut.parts hb3.out ho
        have HB4 := Lib.hid (HB3.out.trans ((ho.below hb3.out (Nat.le_refl _)).mono hz2))
        clear ho
        go_wp2_with fail
        refine (bstring _ w2.heap.size w2.heap.size d4 _ hb4.out).mono ?_
        rintro e w5 ⟨rfl, hs5⟩
        have HB5 := Lib.hid (HB4.out.trans ((hs5.out.below hb4.out (Nat.le_refl _)).mono hz2))
        clear hs5
        go_wp2_with fail
        refine (arrMod A len1 c z1 a2 _ (H1.out.keep HB5.out) hl2 (by omega)).mono ?_
        rintro e w6 ⟨rfl, hb6⟩
        have HB6 := Lib.hid (HB5.out.trans (hb6.mono (HB5.out.size)))
        have hcc : a0.size + ((mt (!a2) z1).length + 1) ≤ 9223372036854775807 := by have := mt_le (!a2) z1; omega
        clear hb6
        go_wp2_with fail
        go_ret
        exact ⟨ret_b (cat_eq _ _), HB1.out.trans (HB6.out.mono hz1)⟩
      · go_wp2_with fail
        go_ret
        exact ⟨rfl, Below.refl _ _⟩
    · go_enter Tryd.func5, Tryd.ntmps5
      go_wp2_with fail
      refine (zz22 a0 a1 len1 cap1 z1 a2 _ w0 W0.out).mono ?_
      rintro e w' ⟨b, rfl, hb, rfl⟩
      clear hb
      cases b
      all_goals
        go_wp2_with fail
        go_ret
        exact ⟨rfl, Below.refl _ _⟩
  · by_cases hp3 : a0.size ≤ 1048576
    all_goals
      go_enter Tryd.func5, Tryd.ntmps5
      go_wp2_with fail
      refine (zz22 a0 a1 len1 cap1 z1 a2 _ w0 W0.out).mono ?_
      rintro e w' ⟨b, rfl, hb, rfl⟩
      clear hb
      cases b
      all_goals
        go_wp2_with fail
        go_ret
        exact ⟨rfl, Below.refl _ _⟩
end Go.Proofs.YtebcjlgeppebgaaDoor
