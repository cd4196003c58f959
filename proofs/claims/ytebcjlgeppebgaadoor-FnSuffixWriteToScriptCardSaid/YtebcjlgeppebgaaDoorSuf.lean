/-
  Contracts over suffixes (n001_84): Suffix.writeTo, Suffix.String, buildSuffix, sufModel, sufBytes, sufRefused, spaceBefore.
-/
import Derived.Test.YtebcjlgeppebgaaDoorWalkB
namespace Go.Proofs.YtebcjlgeppebgaaDoor
set_option linter.unusedVariables false
open Go.ChangeShapes Go.WideShapes Go.ChangeAt Go.RowKit M
abbrev sufVals (x : Suf) : Array Value := #[.bool x.hasIndex, .string x.name, .bool x.isSlice, .bool x.hasStart, .string x.start, .bool x.hasEnd, .string x.stop, .bool x.iter, .bool x.opt]
def optText : Option ByteArray → List UInt8
  | none => []
  | some t => t.data.toList
/-- A bound of a slice suffix in memory. -/
def OptQ (w : World) (v : Value) : Option ByteArray → Prop
  | none => v = np
  | some t => ∃ a, v = pt a ∧ IsQ w a (.num t)
theorem OptQ.keep {w w' : World} {v : Value} {o : Option ByteArray} (hk : KeepN w w') (h : OptQ w v o) : OptQ w' v o := by
  cases o with
  | none => exact h
  | some t =>
    obtain ⟨a, rfl, hi⟩ := h
    exact ⟨a, rfl, hi.keep hk⟩
theorem numTo (w : World) (B b : Nat) (d : Option Nat) (acc : List UInt8) (n : Nat) (t : ByteArray) (hi : IsQ w n (.num t)) (hb : Bld w B b d acc) (hl : acc.length + t.size ≤ 140737488355328) (hB : B ≤ w.heap.size) :
    Calls Tryd.prog 44 #[.pointer (some ⟨n, 0, none⟩), .pointer (some ⟨b, 0, none⟩)] w (POut w B b d (acc ++ t.data.toList)) :=
  wq (.num t) w B b d acc n hi hb (by unfold prQ; rw [List.length_append, toList_len]; exact hl) hB
set_option maxHeartbeats 1000000 in
theorem br_none_none (w : World) (B b : Nat) (d : Option Nat) (acc : List UInt8) (k : Nat) (nm : ByteArray) (sv ev : Value) (hr : Row w k 88 (indexCells nm sv ev true)) (hn : nm.toList.isEmpty = true) (hs : OptQ w sv none) (he : OptQ w ev none) (hb : Bld w B b d acc) (hl : acc.length + 3 ≤ 140737488355328) (hB : B ≤ w.heap.size) :
    Calls Tryd.prog 42 #[.pointer (some ⟨k, 0, none⟩), .pointer (some ⟨b, 0, none⟩)] w (POut w B b d (acc ++ [91] ++ optText none ++ [58] ++ optText none ++ [93])) := by
  obtain rfl : sv = np := hs
  obtain rfl : ev = np := he
  have c0 := hr.cell 0
  have c1 := hr.cell 1
  simp only [List.getElem?_toArray, List.getElem?_cons_succ, List.getElem?_cons_zero] at c0 c1
  have HR := Lib.hid hr
  have HB := Lib.hid hb
  clear hr hb
  go_enter Tryd.func42, Tryd.ntmps42
  go_wp2_with fail
  refine (bbyteP _ B b d acc 91 91 rfl HB.out (by omega) hB).mono ?_
  rintro e w1 ⟨rfl, d1, hb1, hd1, ht1, hk1, hz1⟩
  clear c0 c1
  have hr := hk1.out _ _ _ HR.out (by decide) (by decide)
  have c2 := hr.cell 2
  have c4 := hr.cell 4
  simp only [List.getElem?_toArray, List.getElem?_cons_succ, List.getElem?_cons_zero] at c2 c4
  clear hr
  go_wp2_with fail
  refine (bbyteP _ B b d1 _ 58 58 rfl hb1.out (by simp; omega) (by omega)).mono ?_
  rintro e w3 ⟨rfl, d3, hb3, hd3, ht3, hk3, hz3⟩
  clear c2 c4
  have hr := (hk1.out.trans hk3.out) _ _ _ HR.out (by decide) (by decide)
  have c3 := hr.cell 3
  simp only [List.getElem?_toArray, List.getElem?_cons_succ, List.getElem?_cons_zero] at c3
  clear hr
  go_wp2_with fail
  refine (bbyteP _ B b d3 _ 93 93 rfl hb3.out (by simp; omega) (by omega)).mono ?_
  rintro e w5 ⟨rfl, d5, hb5, hd5, ht5, hk5, hz5⟩
  clear c3
  go_wp2_with fail
  go_end0
  refine POut.mk ?_
  have h9 := BOut.then hd1.out ht1.out (BOut.then hd3.out ht3.out (BOut.then hd5.out ht5.out (BOut.refl hb5.out)))
  simpa [optText] using h9
set_option maxHeartbeats 1000000 in
theorem br_none_some (w : World) (B b : Nat) (d : Option Nat) (acc : List UInt8) (k : Nat) (nm : ByteArray) (sv ev : Value) (en : ByteArray) (hr : Row w k 88 (indexCells nm sv ev true)) (hn : nm.toList.isEmpty = true) (hs : OptQ w sv none) (he : OptQ w ev (some en)) (hb : Bld w B b d acc) (hl : acc.length + 3 + en.size ≤ 140737488355328) (hB : B ≤ w.heap.size) :
    Calls Tryd.prog 42 #[.pointer (some ⟨k, 0, none⟩), .pointer (some ⟨b, 0, none⟩)] w (POut w B b d (acc ++ [91] ++ optText none ++ [58] ++ optText (some en) ++ [93])) := by
  obtain rfl : sv = np := hs
  obtain ⟨a2, rfl, heq⟩ : ∃ a, ev = pt a ∧ IsQ w a (.num en) := he
  have HEQ := Lib.hid heq
  clear heq
  have c0 := hr.cell 0
  have c1 := hr.cell 1
  simp only [List.getElem?_toArray, List.getElem?_cons_succ, List.getElem?_cons_zero] at c0 c1
  have HR := Lib.hid hr
  have HB := Lib.hid hb
  clear hr hb
  go_enter Tryd.func42, Tryd.ntmps42
  go_wp2_with fail
  refine (bbyteP _ B b d acc 91 91 rfl HB.out (by omega) hB).mono ?_
  rintro e w1 ⟨rfl, d1, hb1, hd1, ht1, hk1, hz1⟩
  clear c0 c1
  have hr := hk1.out _ _ _ HR.out (by decide) (by decide)
  have c2 := hr.cell 2
  have c4 := hr.cell 4
  simp only [List.getElem?_toArray, List.getElem?_cons_succ, List.getElem?_cons_zero] at c2 c4
  clear hr
  go_wp2_with fail
  refine (bbyteP _ B b d1 _ 58 58 rfl hb1.out (by simp; omega) (by omega)).mono ?_
  rintro e w3 ⟨rfl, d3, hb3, hd3, ht3, hk3, hz3⟩
  clear c2 c4
  have hr := (hk1.out.trans hk3.out) _ _ _ HR.out (by decide) (by decide)
  have c3 := hr.cell 3
  simp only [List.getElem?_toArray, List.getElem?_cons_succ, List.getElem?_cons_zero] at c3
  clear hr
  go_wp2_with fail
  refine (numTo _ B b d3 _ a2 en (HEQ.out.keep (hk1.out.trans hk3.out)) hb3.out (by simp; omega) (by omega)).mono ?_
  rintro e w4 ⟨rfl, ho⟩
  obtain ⟨d4, hb4, hd4, ht4, hk4, hz4⟩ := POut.parts hb3.out ho
  clear ho c3
  unfold NoEnd
  go_wp2_with fail
  refine (bbyteP _ B b d4 _ 93 93 rfl hb4.out (by simp; omega) (by omega)).mono ?_
  rintro e w5 ⟨rfl, d5, hb5, hd5, ht5, hk5, hz5⟩
  go_wp2_with fail
  go_end0
  refine POut.mk ?_
  have h9 := BOut.then hd1.out ht1.out (BOut.then hd3.out ht3.out (BOut.then hd4.out ht4.out (BOut.then hd5.out ht5.out (BOut.refl hb5.out))))
  simpa [optText] using h9
set_option maxHeartbeats 1000000 in
theorem br_some_none (w : World) (B b : Nat) (d : Option Nat) (acc : List UInt8) (k : Nat) (nm : ByteArray) (sv ev : Value) (st : ByteArray) (hr : Row w k 88 (indexCells nm sv ev true)) (hn : nm.toList.isEmpty = true) (hs : OptQ w sv (some st)) (he : OptQ w ev none) (hb : Bld w B b d acc) (hl : acc.length + 3 + st.size ≤ 140737488355328) (hB : B ≤ w.heap.size) :
    Calls Tryd.prog 42 #[.pointer (some ⟨k, 0, none⟩), .pointer (some ⟨b, 0, none⟩)] w (POut w B b d (acc ++ [91] ++ optText (some st) ++ [58] ++ optText none ++ [93])) := by
  obtain ⟨a, rfl, hsq⟩ : ∃ a, sv = pt a ∧ IsQ w a (.num st) := hs
  have HSQ := Lib.hid hsq
  clear hsq
  obtain rfl : ev = np := he
  have c0 := hr.cell 0
  have c1 := hr.cell 1
  simp only [List.getElem?_toArray, List.getElem?_cons_succ, List.getElem?_cons_zero] at c0 c1
  have HR := Lib.hid hr
  have HB := Lib.hid hb
  clear hr hb
  go_enter Tryd.func42, Tryd.ntmps42
  go_wp2_with fail
  refine (bbyteP _ B b d acc 91 91 rfl HB.out (by omega) hB).mono ?_
  rintro e w1 ⟨rfl, d1, hb1, hd1, ht1, hk1, hz1⟩
  clear c0 c1
  have hr := hk1.out _ _ _ HR.out (by decide) (by decide)
  have c2 := hr.cell 2
  have c4 := hr.cell 4
  simp only [List.getElem?_toArray, List.getElem?_cons_succ, List.getElem?_cons_zero] at c2 c4
  clear hr
  go_wp2_with fail
  refine (numTo _ B b d1 _ a st (HSQ.out.keep hk1.out) hb1.out (by simp; omega) (by omega)).mono ?_
  rintro e w2 ⟨rfl, ho⟩
  obtain ⟨d2, hb2, hd2, ht2, hk2, hz2⟩ := POut.parts hb1.out ho
  clear ho c2 c4
  unfold NoEnd
  go_wp2_with fail
  refine (bbyteP _ B b d2 _ 58 58 rfl hb2.out (by simp; omega) (by omega)).mono ?_
  rintro e w3 ⟨rfl, d3, hb3, hd3, ht3, hk3, hz3⟩
  have hr := ((hk1.out.trans hk2.out).trans hk3.out) _ _ _ HR.out (by decide) (by decide)
  have c3 := hr.cell 3
  simp only [List.getElem?_toArray, List.getElem?_cons_succ, List.getElem?_cons_zero] at c3
  clear hr
  go_wp2_with fail
  refine (bbyteP _ B b d3 _ 93 93 rfl hb3.out (by simp; omega) (by omega)).mono ?_
  rintro e w5 ⟨rfl, d5, hb5, hd5, ht5, hk5, hz5⟩
  clear c3
  go_wp2_with fail
  go_end0
  refine POut.mk ?_
  have h9 := BOut.then hd1.out ht1.out (BOut.then hd2.out ht2.out (BOut.then hd3.out ht3.out (BOut.then hd5.out ht5.out (BOut.refl hb5.out))))
  simpa [optText] using h9
set_option maxHeartbeats 1000000 in
theorem br_some_some (w : World) (B b : Nat) (d : Option Nat) (acc : List UInt8) (k : Nat) (nm : ByteArray) (sv ev : Value) (st : ByteArray) (en : ByteArray) (hr : Row w k 88 (indexCells nm sv ev true)) (hn : nm.toList.isEmpty = true) (hs : OptQ w sv (some st)) (he : OptQ w ev (some en)) (hb : Bld w B b d acc) (hl : acc.length + 3 + st.size + en.size ≤ 140737488355328) (hB : B ≤ w.heap.size) :
    Calls Tryd.prog 42 #[.pointer (some ⟨k, 0, none⟩), .pointer (some ⟨b, 0, none⟩)] w (POut w B b d (acc ++ [91] ++ optText (some st) ++ [58] ++ optText (some en) ++ [93])) := by
  obtain ⟨a, rfl, hsq⟩ : ∃ a, sv = pt a ∧ IsQ w a (.num st) := hs
  have HSQ := Lib.hid hsq
  clear hsq
  obtain ⟨a2, rfl, heq⟩ : ∃ a, ev = pt a ∧ IsQ w a (.num en) := he
  have HEQ := Lib.hid heq
  clear heq
  have c0 := hr.cell 0
  have c1 := hr.cell 1
  simp only [List.getElem?_toArray, List.getElem?_cons_succ, List.getElem?_cons_zero] at c0 c1
  have HR := Lib.hid hr
  have HB := Lib.hid hb
  clear hr hb
  go_enter Tryd.func42, Tryd.ntmps42
  go_wp2_with fail
  refine (bbyteP _ B b d acc 91 91 rfl HB.out (by omega) hB).mono ?_
  rintro e w1 ⟨rfl, d1, hb1, hd1, ht1, hk1, hz1⟩
  clear c0 c1
  have hr := hk1.out _ _ _ HR.out (by decide) (by decide)
  have c2 := hr.cell 2
  have c4 := hr.cell 4
  simp only [List.getElem?_toArray, List.getElem?_cons_succ, List.getElem?_cons_zero] at c2 c4
  clear hr
  go_wp2_with fail
  refine (numTo _ B b d1 _ a st (HSQ.out.keep hk1.out) hb1.out (by simp; omega) (by omega)).mono ?_
  rintro e w2 ⟨rfl, ho⟩
  obtain ⟨d2, hb2, hd2, ht2, hk2, hz2⟩ := POut.parts hb1.out ho
  clear ho c2 c4
  unfold NoEnd
  go_wp2_with fail
  refine (bbyteP _ B b d2 _ 58 58 rfl hb2.out (by simp; omega) (by omega)).mono ?_
  rintro e w3 ⟨rfl, d3, hb3, hd3, ht3, hk3, hz3⟩
  have hr := ((hk1.out.trans hk2.out).trans hk3.out) _ _ _ HR.out (by decide) (by decide)
  have c3 := hr.cell 3
  simp only [List.getElem?_toArray, List.getElem?_cons_succ, List.getElem?_cons_zero] at c3
  clear hr
  go_wp2_with fail
  refine (numTo _ B b d3 _ a2 en (HEQ.out.keep ((hk1.out.trans hk2.out).trans hk3.out)) hb3.out (by simp; omega) (by omega)).mono ?_
  rintro e w4 ⟨rfl, ho⟩
  obtain ⟨d4, hb4, hd4, ht4, hk4, hz4⟩ := POut.parts hb3.out ho
  clear ho c3
  unfold NoEnd
  go_wp2_with fail
  refine (bbyteP _ B b d4 _ 93 93 rfl hb4.out (by simp; omega) (by omega)).mono ?_
  rintro e w5 ⟨rfl, d5, hb5, hd5, ht5, hk5, hz5⟩
  go_wp2_with fail
  go_end0
  refine POut.mk ?_
  have h9 := BOut.then hd1.out ht1.out (BOut.then hd2.out ht2.out (BOut.then hd3.out ht3.out (BOut.then hd4.out ht4.out (BOut.then hd5.out ht5.out (BOut.refl hb5.out)))))
  simpa [optText] using h9
set_option maxHeartbeats 1000000 in
theorem br_start (w : World) (B b : Nat) (d : Option Nat) (acc : List UInt8) (k : Nat) (nm : ByteArray) (a : Nat) (ev : Value) (st : ByteArray) (hr : Row w k 88 (indexCells nm (pt a) ev false)) (hn : nm.toList.isEmpty = true) (hs : IsQ w a (.num st)) (hb : Bld w B b d acc) (hl : acc.length + 2 + st.size ≤ 140737488355328) (hB : B ≤ w.heap.size) :
    Calls Tryd.prog 42 #[.pointer (some ⟨k, 0, none⟩), .pointer (some ⟨b, 0, none⟩)] w (POut w B b d (acc ++ [91] ++ st.data.toList ++ [93])) := by
  have HSQ := Lib.hid hs
  clear hs
  have c0 := hr.cell 0
  have c1 := hr.cell 1
  simp only [List.getElem?_toArray, List.getElem?_cons_succ, List.getElem?_cons_zero] at c0 c1
  have HR := Lib.hid hr
  have HB := Lib.hid hb
  clear hr hb
  go_enter Tryd.func42, Tryd.ntmps42
  go_wp2_with fail
  refine (bbyteP _ B b d acc 91 91 rfl HB.out (by omega) hB).mono ?_
  rintro e w1 ⟨rfl, d1, hb1, hd1, ht1, hk1, hz1⟩
  clear c0 c1
  have hr := hk1.out _ _ _ HR.out (by decide) (by decide)
  have c2 := hr.cell 2
  have c4 := hr.cell 4
  simp only [List.getElem?_toArray, List.getElem?_cons_succ, List.getElem?_cons_zero] at c2 c4
  clear hr
  go_wp2_with fail
  refine (numTo _ B b d1 _ a st (HSQ.out.keep hk1.out) hb1.out (by simp; omega) (by omega)).mono ?_
  rintro e w2 ⟨rfl, ho⟩
  obtain ⟨d2, hb2, hd2, ht2, hk2, hz2⟩ := POut.parts hb1.out ho
  clear ho c2 c4
  unfold NoEnd
  go_wp2_with fail
  refine (bbyteP _ B b d2 _ 93 93 rfl hb2.out (by simp; omega) (by omega)).mono ?_
  rintro e w5 ⟨rfl, d5, hb5, hd5, ht5, hk5, hz5⟩
  go_wp2_with fail
  go_end0
  exact POut.mk (BOut.then hd1.out ht1.out (BOut.then hd2.out ht2.out (BOut.then hd5.out ht5.out (BOut.refl hb5.out))))
/-- A suffix in memory. -/
def IsSufM (w : World) (n : Nat) (x : Suf) : Prop :=
  if x.hasIndex then ∃ k sv ev, Row w n 86 #[pt k, .bool x.iter, .bool x.opt] ∧ Row w k 88 (indexCells x.name sv ev x.isSlice) ∧ OptQ w sv (if x.hasStart then some x.start else none) ∧ OptQ w ev (if x.hasEnd then some x.stop else none)
  else Row w n 86 #[np, .bool x.iter, .bool x.opt]
theorem IsSufM.keep {w w' : World} {n : Nat} {x : Suf} (hk : KeepN w w') (h : IsSufM w n x) : IsSufM w' n x := by
  obtain ⟨ix, nm, sl, hs, st, he, en, it, op⟩ := x
  cases ix
  · exact hk _ _ _ h (by decide) (by decide)
  · obtain ⟨k, sv, ev, h1, h2, h3, h4⟩ := h
    exact ⟨k, sv, ev, hk _ _ _ h1 (by decide) (by decide), hk _ _ _ h2 (by decide) (by decide), h3.keep hk, h4.keep hk⟩
theorem brSlice (w : World) (B b : Nat) (d : Option Nat) (acc : List UInt8) (k : Nat) (nm : ByteArray) (sv ev : Value) (os oe : Option ByteArray) (hr : Row w k 88 (indexCells nm sv ev true)) (hn : nm.toList.isEmpty = true) (hs : OptQ w sv os) (he : OptQ w ev oe) (hb : Bld w B b d acc) (hl : acc.length + 3 + (optText os).length + (optText oe).length ≤ 140737488355328) (hB : B ≤ w.heap.size) :
    Calls Tryd.prog 42 #[.pointer (some ⟨k, 0, none⟩), .pointer (some ⟨b, 0, none⟩)] w (POut w B b d (acc ++ [91] ++ optText os ++ [58] ++ optText oe ++ [93])) := by
  cases os with
  | none => cases oe with
    | none => exact br_none_none w B b d acc k nm sv ev hr hn hs he hb (by simp [optText] at hl; omega) hB
    | some en => exact br_none_some w B b d acc k nm sv ev en hr hn hs he hb (by simp only [optText, toList_len, List.length_nil] at hl; omega) hB
  | some st => cases oe with
    | none => exact br_some_none w B b d acc k nm sv ev st hr hn hs he hb (by simp only [optText, toList_len, List.length_nil] at hl; omega) hB
    | some en => exact br_some_some w B b d acc k nm sv ev st en hr hn hs he hb (by simp only [optText, toList_len] at hl; omega) hB
def Suf.size (x : Suf) : Nat := x.name.size + x.start.size + x.stop.size
set_option maxHeartbeats 1000000 in
theorem sufTo (w : World) (B b : Nat) (d : Option Nat) (acc : List UInt8) (n : Nat) (x : Suf) (hi : IsSufM w n x) (hx : x.refused = false) (hb : Bld w B b d acc) (hl : acc.length + x.size + 4 ≤ 140737488355328) (hB : B ≤ w.heap.size) :
    Calls Tryd.prog 37 #[.pointer (some ⟨n, 0, none⟩), .pointer (some ⟨b, 0, none⟩)] w (POut w B b d (prSuf x acc)) := by
  obtain ⟨ix, nm, sl, hs, st, he, en, it, op⟩ := x
  unfold Suf.size at hl
  dsimp only at hl
  have HB := Lib.hid hb
  clear hb
  cases ix
  · have hr : Row w n 86 #[np, .bool it, .bool op] := hi
    have c0 := hr.cell 0
    have c1 := hr.cell 1
    have c2 := hr.cell 2
    simp only [List.getElem?_toArray, List.getElem?_cons_succ, List.getElem?_cons_zero] at c0 c1 c2
    clear hr hi
    cases it
    · cases op
      · have HP := Lib.hid (show prSuf ⟨false, nm, sl, hs, st, he, en, false, false⟩ acc = acc by simp [prSuf, Suf.space, Suf.text])
        go_enter Tryd.func37, Tryd.ntmps37
        go_wp2_with fail
        go_end0
        rw [HP.out]
        exact POut.mk (BOut.refl HB.out)
      · have HP := Lib.hid (show prSuf ⟨false, nm, sl, hs, st, he, en, false, true⟩ acc = acc ++ [63] by simp [prSuf, Suf.space, Suf.text])
        go_enter Tryd.func37, Tryd.ntmps37
        go_wp2_with fail
        refine (bbyteP _ B b d acc 63 63 rfl HB.out (by omega) hB).mono ?_
        rintro e w1 ⟨rfl, d1, hb1, hd1, ht1, hk1, hz1⟩
        clear c0 c1 c2
        go_wp2_with fail
        go_end0
        rw [HP.out]
        exact POut.mk (BOut.then hd1.out ht1.out (BOut.refl hb1.out))
    · have HP := Lib.hid (show prSuf ⟨false, nm, sl, hs, st, he, en, true, op⟩ acc = acc ++ [91, 93] by simp [prSuf, Suf.space, Suf.text])
      go_enter Tryd.func37, Tryd.ntmps37
      go_wp2_with fail
      refine (bstrP _ B b d acc ⟨#[91, 93]⟩ HB.out (by show _ + 2 ≤ _; omega) hB).mono ?_
      rintro e w1 ⟨rfl, d1, hb1, hd1, ht1, hk1, hz1⟩
      clear c0 c1 c2
      go_wp2_with fail
      go_end0
      rw [HP.out]
      exact POut.mk (BOut.then hd1.out ht1.out (BOut.refl hb1.out))
  · obtain ⟨k, sv, ev, hr, hr2, hos, hoe⟩ : ∃ k sv ev, Row w n 86 #[pt k, .bool it, .bool op] ∧ Row w k 88 (indexCells nm sv ev sl) ∧ OptQ w sv (if hs then some st else none) ∧ OptQ w ev (if he then some en else none) := hi
    have c0 := hr.cell 0
    have e0 := hr2.cell 0
    have e1 := hr2.cell 1
    simp only [List.getElem?_toArray, List.getElem?_cons_succ, List.getElem?_cons_zero] at c0 e0 e1
    have HR2 := Lib.hid hr2
    have HOS := Lib.hid hos
    have HOE := Lib.hid hoe
    clear hr hr2 hos hoe
    cases hn : nm.toList.isEmpty
    · have HP := Lib.hid (show prSuf ⟨true, nm, sl, hs, st, he, en, it, op⟩ acc = prIdx nm acc by
        simp only [prSuf, Suf.space, Suf.text, prIdx, hn]
        simp)
      have HN := Lib.hid hn
      have hpl : (prIdx nm acc).length ≤ 140737488355328 := by
        unfold prIdx
        split <;> simp only [List.length_append, List.length_singleton, toList_len] <;> omega
      go_enter Tryd.func37, Tryd.ntmps37
      go_wp2_with fail
      refine (idxTo _ B b d acc k nm sv ev sl HR2.out HN.out HB.out hpl hB).mono ?_
      rintro e w1 ⟨rfl, ho⟩
      have HO := Lib.hid ho
      clear ho c0 e0 e1
      unfold NoEnd
      go_wp2_with fail
      go_end0
      rw [HP.out]
      exact POut.mk HO.out
    · have HN := Lib.hid hn
      cases sl
      · have hst : hs = true := by
          cases hs
          · unfold Suf.refused at hx
            dsimp only at hx
            rw [hn] at hx
            simp at hx
          · rfl
        subst hst
        have HP := Lib.hid (show prSuf ⟨true, nm, false, true, st, he, en, it, op⟩ acc = acc ++ [91] ++ st.data.toList ++ [93] by
          simp only [prSuf, Suf.space, Suf.text, hn]
          simp)
        obtain ⟨a, rfl, hsq⟩ : ∃ a, sv = pt a ∧ IsQ w a (.num st) := HOS.out
        have HSQ := Lib.hid hsq
        clear hsq hx
        go_enter Tryd.func37, Tryd.ntmps37
        go_wp2_with fail
        refine (br_start _ B b d acc k nm a ev st HR2.out HN.out HSQ.out HB.out (by omega) hB).mono ?_
        rintro e w1 ⟨rfl, ho⟩
        have HO := Lib.hid ho
        clear ho c0 e0 e1
        unfold NoEnd
        go_wp2_with fail
        go_end0
        rw [HP.out]
        exact POut.mk HO.out
      · have HP := Lib.hid (show prSuf ⟨true, nm, true, hs, st, he, en, it, op⟩ acc = acc ++ [91] ++ optText (if hs then some st else none) ++ [58] ++ optText (if he then some en else none) ++ [93] by
          simp only [prSuf, Suf.space, Suf.text, hn]
          cases hs <;> cases he <;> simp [optText])
        clear hx
        go_enter Tryd.func37, Tryd.ntmps37
        go_wp2_with fail
        refine (brSlice _ B b d acc k nm sv ev _ _ HR2.out HN.out HOS.out HOE.out HB.out (by cases hs <;> cases he <;> simp only [optText, toList_len, List.length_nil, if_true, Bool.false_eq_true, if_false] <;> omega) hB).mono ?_
        rintro e w1 ⟨rfl, ho⟩
        have HO := Lib.hid ho
        clear ho c0 e0 e1
        unfold NoEnd
        go_wp2_with fail
        go_end0
        rw [HP.out]
        exact POut.mk HO.out
/-- A number's query is kept where a field of an index turns. -/
theorem num_set {w : World} {g i q : Nat} {t : ByteArray} {cs : Array Value} (hr : Row w g 88 cs) (u : Value) (h : IsQ w q (.num t)) : IsQ (w.setCell ⟨g, i, none⟩ u) q (.num t) := by
  obtain ⟨m, h1, h2⟩ := h
  exact ⟨m, h1.other (p := ⟨g, i, none⟩) (Row.ne_ h1 hr (by decide)) u, h2.other (p := ⟨g, i, none⟩) (Row.ne_ h2 hr (by decide)) u⟩
theorem num_alloc {w : World} {q : Nat} {t : ByteArray} (o : Obj) (h : IsQ w q (.num t)) : IsQ (w.alloc o) q (.num t) := h.keep (KeepN.below ((Below.refl _ _).alloc (Nat.le_refl _) _))
/-- A suffix built. -/
def SufOut (w : World) (x : Suf) (e : Ending) (w' : World) : Prop := ∃ n, e = .returned (.pointer (some ⟨n, 0, none⟩)) ∧ IsSufM w' n x ∧ Below w.heap.size w w'
set_option maxHeartbeats 1000000 in
theorem bs_false_false (w : World) (nm st en : ByteArray) (sl it op : Bool) :
    Calls Tryd.prog 13 #[.agg #[.bool true, .string nm, .bool sl, .bool false, .string st, .bool false, .string en, .bool it, .bool op]] w (SufOut w ⟨true, nm, sl, false, st, false, en, it, op⟩) := by
  go_enter Tryd.func13, Tryd.ntmps13
  go_wp2_with fail
  have hb0 : Below w.heap.size w ((w.alloc (.cells (sufVals ⟨true, nm, sl, false, st, false, en, it, op⟩) 23)).alloc (.cells (indexCells nm np np sl) 88)) := ((Below.refl _ _).alloc (Nat.le_refl _) _).alloc (by simp) _
  have hx0 : Row ((w.alloc (.cells (sufVals ⟨true, nm, sl, false, st, false, en, it, op⟩) 23)).alloc (.cells (indexCells nm np np sl) 88)) w.heap.size 23 (sufVals ⟨true, nm, sl, false, st, false, en, it, op⟩) := (Row.made _ _ _).alloc _
  have hi0 : Row ((w.alloc (.cells (sufVals ⟨true, nm, sl, false, st, false, en, it, op⟩) 23)).alloc (.cells (indexCells nm np np sl) 88)) (w.heap.size + 1) 88 (indexCells nm np np sl) := Row.made' _ _ (by simp)
  go_ret
  exact ⟨_, rfl, ⟨w.heap.size + 1, np, np, Row.made' _ _ (by simp), hi0.alloc _, rfl, rfl⟩, hb0.alloc (by simp; omega) _⟩
set_option maxHeartbeats 1000000 in
theorem bs_true_false (w : World) (nm st en : ByteArray) (sl it op : Bool) :
    Calls Tryd.prog 13 #[.agg #[.bool true, .string nm, .bool sl, .bool true, .string st, .bool false, .string en, .bool it, .bool op]] w (SufOut w ⟨true, nm, sl, true, st, false, en, it, op⟩) := by
  go_enter Tryd.func13, Tryd.ntmps13
  go_wp2_with fail
  have hb0 : Below w.heap.size w ((w.alloc (.cells (sufVals ⟨true, nm, sl, true, st, false, en, it, op⟩) 23)).alloc (.cells (indexCells nm np np sl) 88)) := ((Below.refl _ _).alloc (Nat.le_refl _) _).alloc (by simp) _
  have hx0 : Row ((w.alloc (.cells (sufVals ⟨true, nm, sl, true, st, false, en, it, op⟩) 23)).alloc (.cells (indexCells nm np np sl) 88)) w.heap.size 23 (sufVals ⟨true, nm, sl, true, st, false, en, it, op⟩) := (Row.made _ _ _).alloc _
  have hi0 : Row ((w.alloc (.cells (sufVals ⟨true, nm, sl, true, st, false, en, it, op⟩) 23)).alloc (.cells (indexCells nm np np sl) 88)) (w.heap.size + 1) 88 (indexCells nm np np sl) := Row.made' _ _ (by simp)
  have hz0 : ((w.alloc (.cells (sufVals ⟨true, nm, sl, true, st, false, en, it, op⟩) 23)).alloc (.cells (indexCells nm np np sl) 88)).heap.size = w.heap.size + 2 := by simp
  obtain ⟨w1, hw1⟩ : ∃ w1, w1 = ((w.alloc (.cells (sufVals ⟨true, nm, sl, true, st, false, en, it, op⟩) 23)).alloc (.cells (indexCells nm np np sl) 88)) := ⟨_, rfl⟩
  rw [← hw1] at hb0 hx0 hi0 hz0 ⊢
  clear hw1
  have HB0 := Lib.hid hb0
  have HX0 := Lib.hid hx0
  have HI0 := Lib.hid hi0
  have hzz : w.heap.size + 2 ≤ w1.heap.size := by omega
  clear hb0 hx0 hi0 hz0
  refine (numQ _ st).mono ?_
  rintro e v1 ⟨n1, rfl, hq, hb, hn⟩
  have hbv := (HB0.out).trans (hb.mono (by first | omega | (rw [World.size_setCell]; omega)))
  have hsz1 := hb.size
  have hr := (HI0.out).keep hb (HI0.out).lt
  have hx := (HX0.out).keep hb (HX0.out).lt
  obtain ⟨u1, hu1⟩ := hr.has 2 (by simp)
  have hf1 := hr.free 2
  have x5 := hx.cell 5
  have x6 := hx.cell 6
  have x7 := hx.cell 7
  have x8 := hx.cell 8
  simp only [List.getElem?_toArray, List.getElem?_cons_succ, List.getElem?_cons_zero] at x5 x6 x7 x8
  have hvz1 : w.heap.size + 2 ≤ v1.heap.size := by first | omega | (rw [World.size_setCell] at hsz1; omega)
  have HQ1 := Lib.hid hq
  have HI1 := Lib.hid hr
  have HX1 := Lib.hid hx
  have HB1 := Lib.hid hbv
  have HK1 := Lib.hid (KeepN.below hb)
  clear hq hb hr hx hbv
  go_wp2_with fail
  clear x5 x6 x7 x8 hu1 hf1
  go_ret
  have hq := num_alloc (.cells #[pt (w.heap.size + 1), .bool it, .bool op] 86) (num_set (i := 2) HI1.out (pt n1) HQ1.out)
  refine ⟨_, rfl, ⟨w.heap.size + 1, pt n1, np, Row.made' _ _ (by simp), (HI1.out.put 2 (pt n1)).alloc _, ⟨n1, rfl, hq⟩, rfl⟩, (HB1.out.setCell (p := ⟨w.heap.size + 1, 2, none⟩) (by show w.heap.size ≤ w.heap.size + 1; omega) (pt n1)).alloc (by first | omega | (rw [World.size_setCell]; omega)) _⟩
set_option maxHeartbeats 1000000 in
theorem bs_false_true (w : World) (nm st en : ByteArray) (sl it op : Bool) :
    Calls Tryd.prog 13 #[.agg #[.bool true, .string nm, .bool sl, .bool false, .string st, .bool true, .string en, .bool it, .bool op]] w (SufOut w ⟨true, nm, sl, false, st, true, en, it, op⟩) := by
  go_enter Tryd.func13, Tryd.ntmps13
  go_wp2_with fail
  have hb0 : Below w.heap.size w ((w.alloc (.cells (sufVals ⟨true, nm, sl, false, st, true, en, it, op⟩) 23)).alloc (.cells (indexCells nm np np sl) 88)) := ((Below.refl _ _).alloc (Nat.le_refl _) _).alloc (by simp) _
  have hx0 : Row ((w.alloc (.cells (sufVals ⟨true, nm, sl, false, st, true, en, it, op⟩) 23)).alloc (.cells (indexCells nm np np sl) 88)) w.heap.size 23 (sufVals ⟨true, nm, sl, false, st, true, en, it, op⟩) := (Row.made _ _ _).alloc _
  have hi0 : Row ((w.alloc (.cells (sufVals ⟨true, nm, sl, false, st, true, en, it, op⟩) 23)).alloc (.cells (indexCells nm np np sl) 88)) (w.heap.size + 1) 88 (indexCells nm np np sl) := Row.made' _ _ (by simp)
  have hz0 : ((w.alloc (.cells (sufVals ⟨true, nm, sl, false, st, true, en, it, op⟩) 23)).alloc (.cells (indexCells nm np np sl) 88)).heap.size = w.heap.size + 2 := by simp
  obtain ⟨w1, hw1⟩ : ∃ w1, w1 = ((w.alloc (.cells (sufVals ⟨true, nm, sl, false, st, true, en, it, op⟩) 23)).alloc (.cells (indexCells nm np np sl) 88)) := ⟨_, rfl⟩
  rw [← hw1] at hb0 hx0 hi0 hz0 ⊢
  clear hw1
  have HB0 := Lib.hid hb0
  have HX0 := Lib.hid hx0
  have HI0 := Lib.hid hi0
  have hzz : w.heap.size + 2 ≤ w1.heap.size := by omega
  clear hb0 hx0 hi0 hz0
  refine (numQ _ en).mono ?_
  rintro e v1 ⟨n1, rfl, hq, hb, hn⟩
  have hbv := (HB0.out).trans (hb.mono (by first | omega | (rw [World.size_setCell]; omega)))
  have hsz1 := hb.size
  have hr := (HI0.out).keep hb (HI0.out).lt
  have hx := (HX0.out).keep hb (HX0.out).lt
  obtain ⟨u1, hu1⟩ := hr.has 3 (by simp)
  have hf1 := hr.free 3
  have x7 := hx.cell 7
  have x8 := hx.cell 8
  simp only [List.getElem?_toArray, List.getElem?_cons_succ, List.getElem?_cons_zero] at x7 x8
  have hvz1 : w.heap.size + 2 ≤ v1.heap.size := by first | omega | (rw [World.size_setCell] at hsz1; omega)
  have HQ1 := Lib.hid hq
  have HI1 := Lib.hid hr
  have HX1 := Lib.hid hx
  have HB1 := Lib.hid hbv
  have HK1 := Lib.hid (KeepN.below hb)
  clear hq hb hr hx hbv
  go_wp2_with fail
  clear x7 x8 hu1 hf1
  go_ret
  have hq := num_alloc (.cells #[pt (w.heap.size + 1), .bool it, .bool op] 86) (num_set (i := 3) HI1.out (pt n1) HQ1.out)
  refine ⟨_, rfl, ⟨w.heap.size + 1, np, pt n1, Row.made' _ _ (by simp), (HI1.out.put 3 (pt n1)).alloc _, rfl, ⟨n1, rfl, hq⟩⟩, (HB1.out.setCell (p := ⟨w.heap.size + 1, 3, none⟩) (by show w.heap.size ≤ w.heap.size + 1; omega) (pt n1)).alloc (by first | omega | (rw [World.size_setCell]; omega)) _⟩
set_option maxHeartbeats 1000000 in
theorem bs_true_true (w : World) (nm st en : ByteArray) (sl it op : Bool) :
    Calls Tryd.prog 13 #[.agg #[.bool true, .string nm, .bool sl, .bool true, .string st, .bool true, .string en, .bool it, .bool op]] w (SufOut w ⟨true, nm, sl, true, st, true, en, it, op⟩) := by
  go_enter Tryd.func13, Tryd.ntmps13
  go_wp2_with fail
  have hb0 : Below w.heap.size w ((w.alloc (.cells (sufVals ⟨true, nm, sl, true, st, true, en, it, op⟩) 23)).alloc (.cells (indexCells nm np np sl) 88)) := ((Below.refl _ _).alloc (Nat.le_refl _) _).alloc (by simp) _
  have hx0 : Row ((w.alloc (.cells (sufVals ⟨true, nm, sl, true, st, true, en, it, op⟩) 23)).alloc (.cells (indexCells nm np np sl) 88)) w.heap.size 23 (sufVals ⟨true, nm, sl, true, st, true, en, it, op⟩) := (Row.made _ _ _).alloc _
  have hi0 : Row ((w.alloc (.cells (sufVals ⟨true, nm, sl, true, st, true, en, it, op⟩) 23)).alloc (.cells (indexCells nm np np sl) 88)) (w.heap.size + 1) 88 (indexCells nm np np sl) := Row.made' _ _ (by simp)
  have hz0 : ((w.alloc (.cells (sufVals ⟨true, nm, sl, true, st, true, en, it, op⟩) 23)).alloc (.cells (indexCells nm np np sl) 88)).heap.size = w.heap.size + 2 := by simp
  obtain ⟨w1, hw1⟩ : ∃ w1, w1 = ((w.alloc (.cells (sufVals ⟨true, nm, sl, true, st, true, en, it, op⟩) 23)).alloc (.cells (indexCells nm np np sl) 88)) := ⟨_, rfl⟩
  rw [← hw1] at hb0 hx0 hi0 hz0 ⊢
  clear hw1
  have HB0 := Lib.hid hb0
  have HX0 := Lib.hid hx0
  have HI0 := Lib.hid hi0
  have hzz : w.heap.size + 2 ≤ w1.heap.size := by omega
  clear hb0 hx0 hi0 hz0
  refine (numQ _ st).mono ?_
  rintro e v1 ⟨n1, rfl, hq, hb, hn⟩
  have hbv := (HB0.out).trans (hb.mono (by first | omega | (rw [World.size_setCell]; omega)))
  have hsz1 := hb.size
  have hr := (HI0.out).keep hb (HI0.out).lt
  have hx := (HX0.out).keep hb (HX0.out).lt
  obtain ⟨u1, hu1⟩ := hr.has 2 (by simp)
  have hf1 := hr.free 2
  have x5 := hx.cell 5
  have x6 := hx.cell 6
  have x7 := hx.cell 7
  have x8 := hx.cell 8
  simp only [List.getElem?_toArray, List.getElem?_cons_succ, List.getElem?_cons_zero] at x5 x6 x7 x8
  have hvz1 : w.heap.size + 2 ≤ v1.heap.size := by first | omega | (rw [World.size_setCell] at hsz1; omega)
  have HQ1 := Lib.hid hq
  have HI1 := Lib.hid hr
  have HX1 := Lib.hid hx
  have HB1 := Lib.hid hbv
  have HK1 := Lib.hid (KeepN.below hb)
  clear hq hb hr hx hbv
  go_wp2_with fail
  clear x5 x6 x7 x8 hu1 hf1
  refine (numQ _ en).mono ?_
  rintro e v2 ⟨n2, rfl, hq, hb, hn⟩
  have hbv := (HB1.out.setCell (p := ⟨w.heap.size + 1, 2, none⟩) (by show w.heap.size ≤ w.heap.size + 1; omega) (pt n1)).trans (hb.mono (by first | omega | (rw [World.size_setCell]; omega)))
  have hsz2 := hb.size
  have hr := (HI1.out.put 2 (pt n1)).keep hb (HI1.out.put 2 (pt n1)).lt
  have hx := (HX1.out.other (p := ⟨w.heap.size + 1, 2, none⟩) (by show w.heap.size ≠ w.heap.size + 1; omega) (pt n1)).keep hb (HX1.out.other (p := ⟨w.heap.size + 1, 2, none⟩) (by show w.heap.size ≠ w.heap.size + 1; omega) (pt n1)).lt
  obtain ⟨u2, hu2⟩ := hr.has 3 (by simp)
  have hf2 := hr.free 3
  have x7 := hx.cell 7
  have x8 := hx.cell 8
  simp only [List.getElem?_toArray, List.getElem?_cons_succ, List.getElem?_cons_zero] at x7 x8
  have hvz2 : w.heap.size + 2 ≤ v2.heap.size := by first | omega | (rw [World.size_setCell] at hsz2; omega)
  have HQ2 := Lib.hid hq
  have HI2 := Lib.hid hr
  have HX2 := Lib.hid hx
  have HB2 := Lib.hid hbv
  have HK2 := Lib.hid (KeepN.below hb)
  clear hq hb hr hx hbv
  go_wp2_with fail
  clear x7 x8 hu2 hf2
  go_ret
  have hq1 := num_alloc (.cells #[pt (w.heap.size + 1), .bool it, .bool op] 86) (num_set (i := 3) HI2.out (pt n2) ((num_set (i := 2) HI1.out (pt n1) HQ1.out).keep HK2.out))
  have hq2 := num_alloc (.cells #[pt (w.heap.size + 1), .bool it, .bool op] 86) (num_set (i := 3) HI2.out (pt n2) HQ2.out)
  refine ⟨_, rfl, ⟨w.heap.size + 1, pt n1, pt n2, Row.made' _ _ (by simp), (HI2.out.put 3 (pt n2)).alloc _, ⟨n1, rfl, hq1⟩, ⟨n2, rfl, hq2⟩⟩, (HB2.out.setCell (p := ⟨w.heap.size + 1, 3, none⟩) (by show w.heap.size ≤ w.heap.size + 1; omega) (pt n2)).alloc (by first | omega | (rw [World.size_setCell]; omega)) _⟩
end Go.Proofs.YtebcjlgeppebgaaDoor
