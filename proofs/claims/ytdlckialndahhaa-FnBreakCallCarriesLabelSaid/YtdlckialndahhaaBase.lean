/-
  Contracts of the seat n001_78: the laws' helpers (byte counts, copies of a slice of strings).
-/
import Derived.Test.YtdlckialndahhaaStrs
import Derived.Test.YtdlckialndahhaaRows
import Derived.Outline
import Derived.Deep.QuietTactic
import Derived.RegionTactic
import Derived.BigQuiet
namespace Go.Proofs.Ytdlckialndahhaa
set_option linter.unusedVariables false
open Go.ChangeShapes Go.WideShapes Go.ChangeAt Go.RowKit M
theorem info9 : (Try.prog.info? 9).map (fun i => (i.zero, i.size, i.bytes)) = some (some (.string ByteArray.empty), 1, 16) := by kernel_rfl
set_option maxHeartbeats 1000000 in
theorem copy_strs (a : Option Addr) (len cap : Nat) (zs : List ByteArray) (w : World) (h : SliceOf 1 IsStr w a len zs) (hl : len ≤ 1048576) :
    Calls Try.prog 7 #[.slice a len cap] w (CopyVOut 9 len (zs.map Value.string) w) := by
  have hlz := h.lt.1
  have hnil := fun W => Lib.run_eql_slice_nil (P := Try.prog) W 22 9 a len cap 0 0 Try.underlying22
  have hmk := fun W => run_make_row' (P := Try.prog) 22 9 (.string ByteArray.empty) 16 Try.underlying22 info9 rfl .i64 .i64 len (by omega) (by omega) W
  have H := Lib.hid h
  have HLZ := Lib.hid hlz
  clear h hlz
  rcases a with _ | x
  · obtain rfl : len = 0 := by
      rcases Nat.eq_zero_or_pos len with h0 | h0
      · exact h0
      · obtain ⟨b, o, s, hx, _⟩ := H.out.str h0
        cases hx
    have hz : zs = [] := List.eq_nil_of_length_eq_zero HLZ.out
    clear hmk
    subst hz
    go_enter Try.func7, Try.ntmps7
    go_wp2
    go_ret
    exact ⟨none, 0, rfl, .inl rfl, Below.refl _ _⟩
  · go_enter Try.func7, Try.ntmps7
    go_wp2
    go_loopw [4] (fun i wr => ∃ (j : Nat) (cs : Array Value), j ≤ len ∧ i = .int .i64 j ∧ Row wr w.heap.size 9 cs ∧ cs.size = len ∧ CopyVTo (zs.map Value.string) j cs ∧ Below w.heap.size w wr) (fun i _ => len - (intOf i).toNat)
    case atStart => exact ⟨0, _, Nat.zero_le _, rfl, Row.made _ _ _, size_madeCells _ _, fun j hj => absurd hj (by omega), (Below.refl _ _).alloc (Nat.le_refl _) _⟩
    case round =>
      obtain ⟨j, cs, hj, rfl, hr, hz, hC, hb⟩ := hrel
      have HR := Lib.hid hr
      have HZ := Lib.hid hz
      have HC := Lib.hid hC
      have HB := Lib.hid hb
      by_cases hlt : j < len
      · obtain ⟨b, o, s, hx, hbl, hxs, _, hcell⟩ := H.out.str hlt
        injection hx with hx
        subst hx
        obtain ⟨v, hc⟩ := hr.has j (by omega)
        have hf := hr.free j
        have cx := (hb.cell (p := ⟨b, o + j, none⟩) hbl).trans hcell
        have HXS := Lib.hid hxs
        clear hr hz hC hb hcell hxs
        go_wp2
        exact ⟨⟨j + 1, _, by omega, by go_num, HR.out.put _ _, by simpa using HZ.out, HC.out.step (by rw [HZ.out]; exact hlt) (strs_get HXS.out), HB.out.setCell (Nat.le_refl _) _⟩, by simp [intOf]; omega⟩
      · obtain rfl : j = len := by omega
        clear hr hz hC hb
        go_wp2
        go_ret
        refine ⟨_, _, rfl, .inr ⟨w.heap.size, rfl, Nat.le_refl _, ?_⟩, HB.out⟩
        have := HC.out.all HZ.out (by simpa using HLZ.out)
        rw [← this]
        exact HR.out
end Go.Proofs.Ytdlckialndahhaa
