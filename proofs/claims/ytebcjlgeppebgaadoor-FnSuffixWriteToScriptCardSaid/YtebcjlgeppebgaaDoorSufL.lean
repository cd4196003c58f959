/-
  Slices of suffixes (n001_84): the byte count and the copy.
-/
import Derived.Test.YtebcjlgeppebgaaDoorWalkD
import Derived.Test.YtebcjlgeppebgaaDoorGrp
namespace Go.Proofs.YtebcjlgeppebgaaDoor
set_option linter.unusedVariables false
open Go.ChangeShapes Go.WideShapes Go.ChangeAt Go.RowKit M
theorem SliceOf.suf {w : World} {a : Option Addr} {len : Nat} {xs : List Suf} (h : SliceOf 9 IsSufL w a len xs) {k : Nat} (hk : k < len) :
    ∃ b o x, a = some ⟨b, o, none⟩ ∧ b < w.heap.size ∧ xs[k]? = some x ∧ x.name.size ≤ maxLen ∧ x.start.size ≤ maxLen ∧ x.stop.size ≤ maxLen ∧ w.cell? ⟨b, o + k * 9, none⟩ = some (.bool x.hasIndex) ∧ w.cell? ⟨b, o + k * 9 + 1, none⟩ = some (.string x.name) ∧ w.cell? ⟨b, o + k * 9 + 2, none⟩ = some (.bool x.isSlice) ∧ w.cell? ⟨b, o + k * 9 + 3, none⟩ = some (.bool x.hasStart) ∧ w.cell? ⟨b, o + k * 9 + 4, none⟩ = some (.string x.start) ∧ w.cell? ⟨b, o + k * 9 + 5, none⟩ = some (.bool x.hasEnd) ∧ w.cell? ⟨b, o + k * 9 + 6, none⟩ = some (.string x.stop) ∧ w.cell? ⟨b, o + k * 9 + 7, none⟩ = some (.bool x.iter) ∧ w.cell? ⟨b, o + k * 9 + 8, none⟩ = some (.bool x.opt) := by
  obtain ⟨b, o, x, cs, ha, hb, hx, h1, h2, rfl, hs1, hs2, hs3⟩ := h.get hk
  exact ⟨b, o, x, ha, hb, hx, hs1, hs2, hs3, h2 0 _ rfl, h2 1 _ rfl, h2 2 _ rfl, h2 3 _ rfl, h2 4 _ rfl, h2 5 _ rfl, h2 6 _ rfl, h2 7 _ rfl, h2 8 _ rfl⟩
def flatS : List Suf → List Value
  | [] => []
  | x :: r => (sufVals x).toList ++ flatS r
theorem flatS_length : ∀ l : List Suf, (flatS l).length = l.length * 9
  | [] => rfl
  | x :: r => by
    have : (sufVals x).toList.length = 9 := rfl
    simp only [flatS, List.length_append, List.length_cons, flatS_length r, this]
    omega
theorem flatS_get : ∀ (l : List Suf) (k j : Nat) (x : Suf) (v : Value), l[k]? = some x → (sufVals x).toList[j]? = some v → (flatS l)[k * 9 + j]? = some v
  | [], _, _, _, _, h, _ => by simp at h
  | a :: r, 0, j, x, v, h, hv => by
    simp only [List.getElem?_cons_zero, Option.some.injEq] at h
    subst h
    have hj := (List.getElem?_eq_some_iff.1 hv).1
    rw [flatS, Nat.zero_mul, Nat.zero_add, List.getElem?_append_left hj]
    exact hv
  | a :: r, k + 1, j, x, v, h, hv => by
    rw [List.getElem?_cons_succ] at h
    have h2 := flatS_get r k j x v h hv
    have h9 : (sufVals a).toList.length = 9 := rfl
    rw [flatS, List.getElem?_append_right (by omega), h9, show (k + 1) * 9 + j - 9 = k * 9 + j by omega]
    exact h2
theorem info23 : (Tryd.prog.info? 23).map (fun i => (i.zero, i.size, i.bytes)) = some (some (.agg (sufVals ⟨false, ⟨#[]⟩, false, false, ⟨#[]⟩, false, ⟨#[]⟩, false, false⟩)), 9, 80) := by kernel_rfl
theorem run_make_sufs (n : Nat) (hn : n ≤ 1048576) (w : World) : (Instr.makeSlice 78 (.int .i64 (n : Int)) (.int .i64 (n : Int))).run Tryd.prog w = .ok (.slice (some ⟨w.heap.size, 0, none⟩) n n) (w.alloc (.cells (madeCells (Value.agg (sufVals ⟨false, ⟨#[]⟩, false, false, ⟨#[]⟩, false, ⟨#[]⟩, false, false⟩)).cells (n * 9)) 23)) := by
  obtain ⟨i0, hi, hz⟩ := Option.map_eq_some_iff.1 info23
  simp only [Prod.mk.injEq] at hz
  obtain ⟨hz0, hz1, hz2⟩ := hz
  have hr := run_make (P := Tryd.prog) w 78 23 i0 _ Tryd.underlying78 hi hz0 .i64 .i64 n n (by omega) (Int.le_refl _) (by rw [hz2]; omega) (by omega)
  simp only [Int.toNat_natCast, hz1] at hr
  exact hr
def CloneSOut (w : World) (len : Nat) (zs : List Suf) (e : Ending) (w' : World) : Prop := ∃ A c, e = .returned (.slice A len c) ∧ SliceOf 9 IsSufL w' A len zs ∧ Below w.heap.size w w'
def SzS (x : Suf) : Prop := x.name.size ≤ maxLen ∧ x.start.size ≤ maxLen ∧ x.stop.size ≤ maxLen
theorem sufs_of_row {w : World} {g : Nat} {zs : List Suf} (hr : Row w g 23 (flatS zs).toArray) (hs : ∀ x ∈ zs, SzS x) (hm : zs.length ≤ maxLen) : SliceOf 9 IsSufL w (some ⟨g, 0, none⟩) zs.length zs := by
  refine ⟨rfl, hm, fun _ => ⟨g, 0, rfl, hr.lt, fun i x hx => ?_⟩⟩
  refine ⟨(sufVals x).toList, rfl, fun j v hv => ?_, rfl, hs x (List.mem_of_getElem? hx)⟩
  rw [hr.cell, List.getElem?_toArray, Nat.zero_add]
  exact flatS_get zs i j x v hx hv
theorem sufs_sz {w : World} {a : Option Addr} {len : Nat} {zs : List Suf} (h : SliceOf 9 IsSufL w a len zs) : ∀ x ∈ zs, SzS x := by
  intro x hx
  obtain ⟨i, hi⟩ := List.getElem?_of_mem hx
  have hl : i < len := by
    have := (List.getElem?_eq_some_iff.1 hi).1
    rw [h.lt.1] at this
    exact this
  obtain ⟨b, o, y, _, _, hy, h1, h2, h3, _⟩ := h.suf hl
  rw [hi] at hy
  injection hy with hy
  rw [hy]
  exact ⟨h1, h2, h3⟩
set_option maxRecDepth 100000 in
set_option maxHeartbeats 2000000 in
theorem cloneSufs (a : Option Addr) (len cap : Nat) (zs : List Suf) (w : World) (h : SliceOf 9 IsSufL w a len zs) (hl : len ≤ 4096) :
    Calls Tryd.prog 33 #[.slice a len cap] w (CloneSOut w len zs) := by
  have hnil := fun W => Lib.run_eql_slice_nil (P := Tryd.prog) W 78 23 a len cap 0 0 Tryd.underlying78
  have hmk := fun W => run_make_sufs len (by omega) W
  have H := Lib.hid h
  have HLZ := Lib.hid h.lt.1
  have HSZ := Lib.hid (sufs_sz h)
  have hml := h.lt.2
  unfold maxLen at hml
  clear h
  rcases a with _ | x
  · obtain rfl : len = 0 := by
      rcases Nat.eq_zero_or_pos len with h0 | h0
      · exact h0
      · obtain ⟨b, o, s, hx, _⟩ := H.out.suf h0
        cases hx
    have hz : zs = [] := List.eq_nil_of_length_eq_zero HLZ.out
    clear hmk
    subst hz
    go_enter Tryd.func33, Tryd.ntmps33
    go_wp2_with fail
    go_ret
    exact ⟨none, 0, rfl, ⟨rfl, Nat.zero_le _, fun h => absurd h (by omega)⟩, Below.refl _ _⟩
  · go_enter Tryd.func33, Tryd.ntmps33
    go_wp2_with fail
    go_loopw [4] (fun i wr => ∃ (j : Nat) (cs : Array Value), j ≤ len ∧ i = .int .i64 j ∧ Row wr w.heap.size 23 cs ∧ cs.size = len * 9 ∧ CopyVTo (flatS zs) (j * 9) cs ∧ Below w.heap.size w wr) (fun i _ => len - (intOf i).toNat)
    case atStart => exact ⟨0, _, Nat.zero_le _, rfl, Row.made _ _ _, size_madeCells _ _, fun j hj => absurd hj (by omega), (Below.refl _ _).alloc (Nat.le_refl _) _⟩
    case round =>
      obtain ⟨j, cs, hj, rfl, hr, hz, hC, hb⟩ := hrel
      have HR := Lib.hid hr
      have HZ := Lib.hid hz
      have HC := Lib.hid hC
      have HB := Lib.hid hb
      by_cases hlt : j < len
      · obtain ⟨b, o, y, hx, hbl, hxs, _, _, _, c0, c1, c2, c3, c4, c5, c6, c7, c8⟩ := H.out.suf hlt
        injection hx with hx
        subst hx
        obtain ⟨v0, hc0⟩ := hr.has (j * 9) (by omega)
        have hf0 := hr.free (j * 9)
        have cx0 := (hb.cell (p := ⟨b, o + j * 9, none⟩) hbl).trans c0
        obtain ⟨v1, hc1⟩ := hr.has (j * 9 + 1) (by omega)
        have hf1 := hr.free (j * 9 + 1)
        have cx1 := (hb.cell (p := ⟨b, o + j * 9 + 1, none⟩) hbl).trans c1
        obtain ⟨v2, hc2⟩ := hr.has (j * 9 + 2) (by omega)
        have hf2 := hr.free (j * 9 + 2)
        have cx2 := (hb.cell (p := ⟨b, o + j * 9 + 2, none⟩) hbl).trans c2
        obtain ⟨v3, hc3⟩ := hr.has (j * 9 + 3) (by omega)
        have hf3 := hr.free (j * 9 + 3)
        have cx3 := (hb.cell (p := ⟨b, o + j * 9 + 3, none⟩) hbl).trans c3
        obtain ⟨v4, hc4⟩ := hr.has (j * 9 + 4) (by omega)
        have hf4 := hr.free (j * 9 + 4)
        have cx4 := (hb.cell (p := ⟨b, o + j * 9 + 4, none⟩) hbl).trans c4
        obtain ⟨v5, hc5⟩ := hr.has (j * 9 + 5) (by omega)
        have hf5 := hr.free (j * 9 + 5)
        have cx5 := (hb.cell (p := ⟨b, o + j * 9 + 5, none⟩) hbl).trans c5
        obtain ⟨v6, hc6⟩ := hr.has (j * 9 + 6) (by omega)
        have hf6 := hr.free (j * 9 + 6)
        have cx6 := (hb.cell (p := ⟨b, o + j * 9 + 6, none⟩) hbl).trans c6
        obtain ⟨v7, hc7⟩ := hr.has (j * 9 + 7) (by omega)
        have hf7 := hr.free (j * 9 + 7)
        have cx7 := (hb.cell (p := ⟨b, o + j * 9 + 7, none⟩) hbl).trans c7
        obtain ⟨v8, hc8⟩ := hr.has (j * 9 + 8) (by omega)
        have hf8 := hr.free (j * 9 + 8)
        have cx8 := (hb.cell (p := ⟨b, o + j * 9 + 8, none⟩) hbl).trans c8
        have HF := Lib.hid (fun q v hv => flatS_get zs j q y v hxs hv)
        clear hr hz hC hb hxs c0 c1 c2 c3 c4 c5 c6 c7 c8
        go_wp2_with fail
        have hc9 := (((((((((HC.out.step (v := .bool y.hasIndex) (by rw [HZ.out]; omega) (HF.out 0 _ rfl)).step (v := .string y.name) (by rw [Array.size_setIfInBounds, HZ.out]; omega) (HF.out 1 _ rfl)).step (v := .bool y.isSlice) (by rw [Array.size_setIfInBounds, Array.size_setIfInBounds, HZ.out]; omega) (HF.out 2 _ rfl)).step (v := .bool y.hasStart) (by rw [Array.size_setIfInBounds, Array.size_setIfInBounds, Array.size_setIfInBounds, HZ.out]; omega) (HF.out 3 _ rfl)).step (v := .string y.start) (by rw [Array.size_setIfInBounds, Array.size_setIfInBounds, Array.size_setIfInBounds, Array.size_setIfInBounds, HZ.out]; omega) (HF.out 4 _ rfl)).step (v := .bool y.hasEnd) (by rw [Array.size_setIfInBounds, Array.size_setIfInBounds, Array.size_setIfInBounds, Array.size_setIfInBounds, Array.size_setIfInBounds, HZ.out]; omega) (HF.out 5 _ rfl)).step (v := .string y.stop) (by rw [Array.size_setIfInBounds, Array.size_setIfInBounds, Array.size_setIfInBounds, Array.size_setIfInBounds, Array.size_setIfInBounds, Array.size_setIfInBounds, HZ.out]; omega) (HF.out 6 _ rfl)).step (v := .bool y.iter) (by rw [Array.size_setIfInBounds, Array.size_setIfInBounds, Array.size_setIfInBounds, Array.size_setIfInBounds, Array.size_setIfInBounds, Array.size_setIfInBounds, Array.size_setIfInBounds, HZ.out]; omega) (HF.out 7 _ rfl)).step (v := .bool y.opt) (by rw [Array.size_setIfInBounds, Array.size_setIfInBounds, Array.size_setIfInBounds, Array.size_setIfInBounds, Array.size_setIfInBounds, Array.size_setIfInBounds, Array.size_setIfInBounds, Array.size_setIfInBounds, HZ.out]; omega) (HF.out 8 _ rfl))
        exact ⟨⟨j + 1, _, by omega, by go_num, (((((((((HR.out.put _ _).put _ _).put _ _).put _ _).put _ _).put _ _).put _ _).put _ _).put _ _), by simpa using HZ.out, by rw [show (j + 1) * 9 = j * 9 + 1 + 1 + 1 + 1 + 1 + 1 + 1 + 1 + 1 by omega]; exact hc9, (((((((((HB.out.setCell (Nat.le_refl _) _).setCell (Nat.le_refl _) _).setCell (Nat.le_refl _) _).setCell (Nat.le_refl _) _).setCell (Nat.le_refl _) _).setCell (Nat.le_refl _) _).setCell (Nat.le_refl _) _).setCell (Nat.le_refl _) _).setCell (Nat.le_refl _) _)⟩, by simp [intOf]; omega⟩
      · obtain rfl : j = len := by omega
        clear hr hz hC hb
        go_wp2_with fail
        go_ret
        have hcs := HC.out.all HZ.out (by rw [flatS_length, HLZ.out])
        have hrow := HR.out
        rw [hcs] at hrow
        have h9 := sufs_of_row hrow HSZ.out (by rw [HLZ.out]; exact H.out.lt.2)
        rw [HLZ.out] at h9
        exact ⟨_, _, rfl, h9, HB.out⟩
def sufSum (l : List Suf) : Nat := (l.map fun x => x.size).foldr (· + ·) 0
theorem sufSum_append (l m : List Suf) : sufSum (l ++ m) = sufSum l + sufSum m := by
  induction l with
  | nil => simp [sufSum]
  | cons x r ih =>
    have h1 : sufSum (x :: r ++ m) = x.size + sufSum (r ++ m) := rfl
    have h2 : sufSum (x :: r) = x.size + sufSum r := rfl
    omega
theorem sufSum_get {l : List Suf} {k : Nat} {x : Suf} (h : l[k]? = some x) : sufSum (l.take (k + 1)) = sufSum (l.take k) + x.size := by
  obtain ⟨h1, h2⟩ := List.getElem?_eq_some_iff.1 h
  rw [List.take_succ_eq_append_getElem h1, h2, sufSum_append]
  rfl
set_option maxRecDepth 100000 in
set_option maxHeartbeats 2000000 in
theorem zz32 (p : ByteArray) (hp : p.size ≤ maxLen) (a : Option Addr) (len cap : Nat) (zs : List Suf) (w : World) (h : SliceOf 9 IsSufL w a len zs) :
    Calls Tryd.prog 32 #[.string p, .slice a len cap] w (BoolIf (sufSum zs ≤ 1048576) w) := by
  have H := Lib.hid h
  have HLZ := Lib.hid h.lt.1
  have hl := h.lt.2
  unfold maxLen at hl hp
  clear h
  by_cases hp1 : ¬ p.size ≤ 1048576
  · go_enter Tryd.func32, Tryd.ntmps32
    go_wp2_with fail
    go_ret
    exact ⟨_, rfl, (fun h => by cases h), rfl⟩
  have hp1 : p.size ≤ 1048576 := by omega
  by_cases hl2 : ¬ len ≤ 1048576
  · go_enter Tryd.func32, Tryd.ntmps32
    go_wp2_with fail
    go_ret
    exact ⟨_, rfl, (fun h => by cases h), rfl⟩
  have hl2 : len ≤ 1048576 := by omega
  by_cases hl3 : ¬ p.size + len ≤ 1048576
  · go_enter Tryd.func32, Tryd.ntmps32
    go_wp2_with fail
    go_ret
    exact ⟨_, rfl, (fun h => by cases h), rfl⟩
  have hl3 : p.size + len ≤ 1048576 := by omega
  go_enter Tryd.func32, Tryd.ntmps32
  go_wp2_with fail
  go_loop [5, 6] (fun t i => ∃ (n k : Nat), k ≤ len ∧ n ≤ 1048576 ∧ sufSum (zs.take k) ≤ n ∧ t = .int .i64 n ∧ i = .int .i64 k) (fun _ i => len - (intOf i).toNat)
  case atStart => exact ⟨p.size + len, 0, Nat.zero_le _, by omega, by simp [sufSum], by go_num, rfl⟩
  case round =>
    obtain ⟨n, k, hk, hn1, hs, rfl, rfl⟩ := hrel
    by_cases hlt : k < len
    · obtain ⟨b, o, x, rfl, hbl, hxs, hz1, hz2, hz3, c0, c1, c2, c3, c4, c5, c6, c7, c8⟩ := H.out.suf hlt
      have hg := sufSum_get hxs
      have hxz : x.size = x.name.size + x.start.size + x.stop.size := rfl
      have hnew : sufSum (zs.take (k + 1)) ≤ n + x.name.size + x.start.size + x.stop.size := by omega
      have HG := Lib.hid hnew
      unfold maxLen at hz1 hz2 hz3
      obtain ⟨ix, nm, sl, hst, st, he, en, it, op⟩ := x
      dsimp only at *
      clear hxs hg hxz hnew hs
      by_cases hq : ¬ nm.size ≤ 1048576
      · go_wp2_with fail
        go_ret
        exact ⟨_, rfl, (fun h => by cases h), rfl⟩
      have hq_nm : nm.size ≤ 1048576 := by omega
      clear hq
      by_cases hq : ¬ n + nm.size ≤ 1048576
      · go_wp2_with fail
        go_ret
        exact ⟨_, rfl, (fun h => by cases h), rfl⟩
      have hq_nm2 : n + nm.size ≤ 1048576 := by omega
      clear hq
      by_cases hq : ¬ st.size ≤ 1048576
      · go_wp2_with fail
        go_ret
        exact ⟨_, rfl, (fun h => by cases h), rfl⟩
      have hq_st : st.size ≤ 1048576 := by omega
      clear hq
      by_cases hq : ¬ n + nm.size + st.size ≤ 1048576
      · go_wp2_with fail
        go_ret
        exact ⟨_, rfl, (fun h => by cases h), rfl⟩
      have hq_st2 : n + nm.size + st.size ≤ 1048576 := by omega
      clear hq
      by_cases hq : ¬ en.size ≤ 1048576
      · go_wp2_with fail
        go_ret
        exact ⟨_, rfl, (fun h => by cases h), rfl⟩
      have hq_en : en.size ≤ 1048576 := by omega
      clear hq
      by_cases hq : ¬ n + nm.size + st.size + en.size ≤ 1048576
      · go_wp2_with fail
        go_ret
        exact ⟨_, rfl, (fun h => by cases h), rfl⟩
      have hq_en2 : n + nm.size + st.size + en.size ≤ 1048576 := by omega
      clear hq
      go_wp2_with fail
      exact ⟨⟨n + nm.size + st.size + en.size, k + 1, by omega, by omega, HG.out, by go_num, by go_num⟩, by simp [intOf]; omega⟩
    · obtain rfl : k = len := by omega
      have hh := hs
      rw [List.take_of_length_le (by rw [HLZ.out]; omega)] at hh
      have HH := Lib.hid hh
      clear hh hs
      go_wp2_with fail
      go_ret
      exact ⟨_, rfl, fun _ => Nat.le_trans HH.out hn1, rfl⟩
end Go.Proofs.YtebcjlgeppebgaaDoor
