/-
  Contracts of the seat n001_90: copies of slices, the bounds, zzNamed.
-/
import Derived.Test.YtidojpehjaoplaaMap
import Derived.Laws.CopyOwn
namespace Go.Proofs.Ytidojpehjaoplaa
set_option linter.unusedVariables false
set_option linter.unusedSimpArgs false
open Go.ChangeShapes Go.WideShapes Go.ChangeAt Go.RowKit M
theorem info9 : (Try.prog.info? 9).map (fun i => (i.zero, i.size, i.bytes)) = some (some (.string ByteArray.empty), 1, 16) := by kernel_rfl
theorem info5 : (Try.prog.info? 5).map (fun i => (i.zero, i.size, i.bytes)) = some (some (.int .u8 0), 1, 1) := by kernel_rfl
theorem size9 : (Try.prog.info? 9).map (·.size) = some 1 := by kernel_rfl
theorem size5 : (Try.prog.info? 5).map (·.size) = some 1 := by kernel_rfl
theorem splice_all {α : Type} {cur cs : List α} (h : cs.length = cur.length) : splice cur 0 cs = cs := by
  unfold splice
  rw [List.take_zero, List.nil_append, Nat.zero_add, h, List.drop_length, List.append_nil]
theorem str_src {w : World} {x : Addr} {len : Nat} {zs : List ByteArray} {o : Obj} (h : SliceOf 1 IsStr w (some x) len zs) {j : Nat} {v : Value} (hj : (zs.map Value.string)[j]? = some v) : (w.alloc o).cell? (x.add j) = some v := by
  have hjl : j < len := by have := (List.getElem?_eq_some_iff.1 hj).1; rw [List.length_map, h.lt.1] at this; exact this
  obtain ⟨b, o', s, hx, hbl, hxs, _, hcell⟩ := h.str hjl
  injection hx with hx
  subst hx
  rw [List.getElem?_map, hxs] at hj
  injection hj with hj
  subst hj
  rw [Go.WideShapes.add_plain]
  exact (((Below.refl w.heap.size w).alloc (Nat.le_refl _) o).cell (p := ⟨b, o' + j, none⟩) hbl).trans hcell
theorem int_src {w : World} {x : Addr} {len : Nat} {zs : List Int} {o : Obj} (h : SliceOf 1 (IsInt .u8) w (some x) len zs) {j : Nat} {v : Value} (hj : (zs.map (Value.int .u8))[j]? = some v) : (w.alloc o).cell? (x.add j) = some v := by
  have hjl : j < len := by have := (List.getElem?_eq_some_iff.1 hj).1; rw [List.length_map, h.lt.1] at this; exact this
  obtain ⟨b, o', s, hx, hbl, hxs, _, hcell⟩ := h.int hjl
  injection hx with hx
  subst hx
  rw [List.getElem?_map, hxs] at hj
  injection hj with hj
  subst hj
  rw [Go.WideShapes.add_plain]
  exact (((Below.refl w.heap.size w).alloc (Nat.le_refl _) o).cell (p := ⟨b, o' + j, none⟩) hbl).trans hcell
set_option maxHeartbeats 1000000 in
theorem clone_strs (a : Option Addr) (len cap : Nat) (zs : List ByteArray) (w : World) (h : SliceOf 1 IsStr w a len zs) (hl : len ≤ 1048576) :
    Calls Try.prog 6 #[.slice a len cap] w (CopyVOut 9 len (zs.map Value.string) w) := by
  have hlz := h.lt.1
  have hnil := fun W => Lib.run_eql_slice_nil (P := Try.prog) W 23 9 a len cap 0 0 Try.underlying23
  have hmk := fun W => run_make_row' (P := Try.prog) 23 9 (.string ByteArray.empty) 16 Try.underlying23 info9 rfl .i64 .i64 len (by omega) (by omega) W
  have H := Lib.hid h
  have HLZ := Lib.hid hlz
  clear h hlz
  rcases a with _ | x
  · obtain rfl : len = 0 := by
      rcases Nat.eq_zero_or_pos len with h0 | h0
      · exact h0
      · obtain ⟨b, o, s, hx, _⟩ := H.out.str h0
        cases hx
    have hz : zs = [] := List.eq_nil_of_length_eq_zero HLZ.out
    clear hmk
    subst hz
    go_enter Try.func6, Try.ntmps6
    go_wp2
    go_ret
    exact ⟨none, 0, rfl, .inl rfl, Below.refl _ _⟩
  · go_enter Try.func6, Try.ntmps6
    go_wp2_with (refine wpList_copy_splice rfl (.tmp 9) (.tmp 10) 23 23 rfl 9 Try.underlying23 size9 _ _ len len len cap rfl rfl w.heap.size 0 (madeCells #[.string ByteArray.empty] len).toList 9 (Row.made w 9 (madeCells #[.string ByteArray.empty] len)) (zs.map Value.string) (by rw [List.length_map, HLZ.out]; exact (Nat.min_self _).symm) (fun hp => ⟨rfl, x, rfl, fun j v hj => str_src H.out hj⟩) (by rw [List.length_map, HLZ.out, Array.length_toList, size_madeCells]; omega) (by simp [Value.oneCell']) w.heap.size w ((Below.refl _ _).alloc (Nat.le_refl _) _) (Nat.le_refl _) ?_; intro w2 hg2 hb2; have HG2 := Lib.hid hg2.out; have HB2 := Lib.hid hb2; clear hg2 hb2)
    go_ret
    refine ⟨_, _, rfl, .inr ⟨w.heap.size, rfl, Nat.le_refl _, ?_⟩, HB2.out⟩
    have hg := HG2.out
    rw [splice_all (by rw [List.length_map, HLZ.out, Array.length_toList, size_madeCells])] at hg
    exact hg
set_option maxHeartbeats 1000000 in
theorem clone_bytes (a : Option Addr) (len cap : Nat) (zs : List Int) (w : World) (h : SliceOf 1 (IsInt .u8) w a len zs) (hl : len ≤ 1048576) :
    Calls Try.prog 5 #[.slice a len cap] w (CopyVOut 5 len (zs.map (Value.int .u8)) w) := by
  have hlz := h.lt.1
  have hnil := fun W => Lib.run_eql_slice_nil (P := Try.prog) W 22 5 a len cap 0 0 Try.underlying22
  have hmk := fun W => run_make_row' (P := Try.prog) 22 5 (.int .u8 0) 1 Try.underlying22 info5 rfl .i64 .i64 len (by omega) (by omega) W
  have H := Lib.hid h
  have HLZ := Lib.hid hlz
  clear h hlz
  rcases a with _ | x
  · obtain rfl : len = 0 := by
      rcases Nat.eq_zero_or_pos len with h0 | h0
      · exact h0
      · obtain ⟨b, o, s, hx, _⟩ := H.out.int h0
        cases hx
    have hz : zs = [] := List.eq_nil_of_length_eq_zero HLZ.out
    clear hmk
    subst hz
    go_enter Try.func5, Try.ntmps5
    go_wp2
    go_ret
    exact ⟨none, 0, rfl, .inl rfl, Below.refl _ _⟩
  · go_enter Try.func5, Try.ntmps5
    go_wp2_with (refine wpList_copy_splice rfl (.tmp 9) (.tmp 10) 22 22 rfl 5 Try.underlying22 size5 _ _ len len len cap rfl rfl w.heap.size 0 (madeCells #[.int .u8 0] len).toList 5 (Row.made w 5 (madeCells #[.int .u8 0] len)) (zs.map (Value.int .u8)) (by rw [List.length_map, HLZ.out]; exact (Nat.min_self _).symm) (fun hp => ⟨rfl, x, rfl, fun j v hj => int_src H.out hj⟩) (by rw [List.length_map, HLZ.out, Array.length_toList, size_madeCells]; omega) (by simp [Value.oneCell']) w.heap.size w ((Below.refl _ _).alloc (Nat.le_refl _) _) (Nat.le_refl _) ?_; intro w2 hg2 hb2; have HG2 := Lib.hid hg2.out; have HB2 := Lib.hid hb2; clear hg2 hb2)
    go_ret
    refine ⟨_, _, rfl, .inr ⟨w.heap.size, rfl, Nat.le_refl _, ?_⟩, HB2.out⟩
    have hg := HG2.out
    rw [splice_all (by rw [List.length_map, HLZ.out, Array.length_toList, size_madeCells])] at hg
    exact hg
end Go.Proofs.Ytidojpehjaoplaa
