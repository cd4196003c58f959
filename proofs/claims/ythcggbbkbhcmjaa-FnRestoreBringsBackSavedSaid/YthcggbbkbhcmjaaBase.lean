/-
  Contracts of the seat n001_8: the laws' copies of slices, and the thin exports over the stack's methods at ints.
-/
import Derived.Test.YthcggbbkbhcmjaaChain
import Derived.Test.YthcggbbkbhcmjaaIsRow
namespace Go.Proofs.Ythcggbbkbhcmjaa
set_option linter.unusedVariables false
open Go.ChangeShapes Go.WideShapes Go.ChangeAt Go.RowKit M
theorem info3 : (Try.prog.info? 3).map (fun i => (i.zero, i.size, i.bytes)) = some (some (.int .i64 0), 1, 8) := by kernel_rfl
set_option maxHeartbeats 1000000 in
theorem copy_ints (a : Option Addr) (len cap : Nat) (zs : List Int) (w : World) (h : IsRow .i64 w a len cap zs) (hl : len ≤ 1048576) :
    Calls Try.prog 9 #[.slice a len cap] w (CopyOut .i64 3 len zs w) := by
  have hlz := h.len.1
  have hnil := fun W => Lib.run_eql_slice_nil (P := Try.prog) W 22 3 a len cap 0 0 Try.underlying22
  have hmk := fun W => run_make_row' (P := Try.prog) 22 3 (.int .i64 0) 8 Try.underlying22 info3 rfl .i64 .i64 len (by omega) (by omega) W
  have H := Lib.hid h
  rcases a with _ | x
  · have h0 : len = 0 := by
      rcases h with ⟨_, h0, _⟩ | ⟨x, h0, _⟩
      · exact h0
      · cases h0
    subst h0
    clear h hmk
    go_enter Try.func9, Try.ntmps9
    go_wp2
    go_ret
    exact ⟨none, 0, rfl, .inl rfl, Below.refl _ _⟩
  · clear h
    go_enter Try.func9, Try.ntmps9
    go_wp2
    go_loopw [4] (fun i wr => ∃ (j : Nat) (cs : Array Value), j ≤ len ∧ i = .int .i64 j ∧ Row wr w.heap.size 3 cs ∧ cs.size = len ∧ CopyTo .i64 zs j cs ∧ Below w.heap.size w wr) (fun i _ => len - (intOf i).toNat)
    case atStart => exact ⟨0, _, Nat.zero_le _, rfl, Row.made _ _ _, size_madeCells _ _, fun j hj => absurd hj (by omega), (Below.refl _ _).alloc (Nat.le_refl _) _⟩
    case round =>
      obtain ⟨j, cs, hj, rfl, hr, hz, hC, hb⟩ := hrel
      have HR := Lib.hid hr
      have HZ := Lib.hid hz
      have HC := Lib.hid hC
      have HB := Lib.hid hb
      by_cases hlt : j < len
      · obtain ⟨b, o, hx, hbl, hcell⟩ := H.out.open_ (by omega)
        injection hx with hx
        subst hx
        obtain ⟨v, hc⟩ := hr.has j (by omega)
        have hf := hr.free j
        have cx := (hb.cell (p := ⟨b, o + j, none⟩) hbl).trans (hcell j hlt)
        clear hr hz hC hb hcell
        go_wp2
        exact ⟨⟨j + 1, _, by omega, by go_num, HR.out.put _ _, by simpa using HZ.out, HC.out.step (by rw [HZ.out]; exact hlt), HB.out.setCell (Nat.le_refl _) _⟩, by simp [intOf]; omega⟩
      · obtain rfl : j = len := by omega
        clear hr hz hC hb
        go_wp2
        go_ret
        refine ⟨_, _, rfl, .inr ⟨w.heap.size, rfl, Nat.le_refl _, ?_⟩, HB.out⟩
        have := HC.out.all HZ.out hlz
        rw [← this]
        exact HR.out
theorem info5 : (Try.prog.info? 5).map (fun i => (i.zero, i.size, i.bytes)) = some (some (.int .u8 0), 1, 1) := by kernel_rfl
set_option maxHeartbeats 1000000 in
theorem copy_bytes (a : Option Addr) (len cap : Nat) (zs : List Int) (w : World) (h : IsRow .u8 w a len cap zs) (hl : len ≤ 1048576) :
    Calls Try.prog 17 #[.slice a len cap] w (CopyOut .u8 5 len zs w) := by
  have hlz := h.len.1
  have hnil := fun W => Lib.run_eql_slice_nil (P := Try.prog) W 32 5 a len cap 0 0 Try.underlying32
  have hmk := fun W => run_make_row' (P := Try.prog) 32 5 (.int .u8 0) 1 Try.underlying32 info5 rfl .i64 .i64 len (by omega) (by omega) W
  have H := Lib.hid h
  rcases a with _ | x
  · have h0 : len = 0 := by
      rcases h with ⟨_, h0, _⟩ | ⟨x, h0, _⟩
      · exact h0
      · cases h0
    subst h0
    clear h hmk
    go_enter Try.func17, Try.ntmps17
    go_wp2
    go_ret
    exact ⟨none, 0, rfl, .inl rfl, Below.refl _ _⟩
  · clear h
    go_enter Try.func17, Try.ntmps17
    go_wp2
    go_loopw [4] (fun i wr => ∃ (j : Nat) (cs : Array Value), j ≤ len ∧ i = .int .i64 j ∧ Row wr w.heap.size 5 cs ∧ cs.size = len ∧ CopyTo .u8 zs j cs ∧ Below w.heap.size w wr) (fun i _ => len - (intOf i).toNat)
    case atStart => exact ⟨0, _, Nat.zero_le _, rfl, Row.made _ _ _, size_madeCells _ _, fun j hj => absurd hj (by omega), (Below.refl _ _).alloc (Nat.le_refl _) _⟩
    case round =>
      obtain ⟨j, cs, hj, rfl, hr, hz, hC, hb⟩ := hrel
      have HR := Lib.hid hr
      have HZ := Lib.hid hz
      have HC := Lib.hid hC
      have HB := Lib.hid hb
      by_cases hlt : j < len
      · obtain ⟨b, o, hx, hbl, hcell⟩ := H.out.open_ (by omega)
        injection hx with hx
        subst hx
        obtain ⟨v, hc⟩ := hr.has j (by omega)
        have hf := hr.free j
        have cx := (hb.cell (p := ⟨b, o + j, none⟩) hbl).trans (hcell j hlt)
        clear hr hz hC hb hcell
        go_wp2
        exact ⟨⟨j + 1, _, by omega, by go_num, HR.out.put _ _, by simpa using HZ.out, HC.out.step (by rw [HZ.out]; exact hlt), HB.out.setCell (Nat.le_refl _) _⟩, by simp [intOf]; omega⟩
      · obtain rfl : j = len := by omega
        clear hr hz hC hb
        go_wp2
        go_ret
        refine ⟨_, _, rfl, .inr ⟨w.heap.size, rfl, Nat.le_refl _, ?_⟩, HB.out⟩
        have := HC.out.all HZ.out hlz
        rw [← this]
        exact HR.out

@[go_sem] theorem as3_3 (v : Value) (w : World) : (Instr.typeAssert (.iface 3 v) 20 3 true).run Try.prog w = .ok (.tuple #[v, .bool true]) w := by kernel_rfl
/-- Ints as the stack holds them. -/
def ints (l : List Int) : List (Nat × Value) := l.map fun n => (3, .int .i64 n)
theorem ints_cons (n : Int) (l : List Int) : ints (n :: l) = (3, .int .i64 n) :: ints l := rfl
theorem znew (w : World) : Calls Try.prog 10 #[] w fun e w' => e = .returned (.pointer (some ⟨w.heap.size, 0, none⟩)) ∧ LStk w' w.heap.size w.heap.size none (ints []) (-1) (-1) [] 0 ∧ Below w.heap.size w w' := by
  go_enter Try.func10, Try.ntmps10
  go_wp2_with fail
  refine (lnew w).mono ?_
  rintro e w' ⟨rfl, hs, hb⟩
  have HS := Lib.hid hs
  have HB := Lib.hid hb
  clear hs hb
  go_wp2
  go_ret
  exact ⟨rfl, HS.out, HB.out⟩
theorem zpush (w : World) (B p : Nat) (d : Option Nat) (l : List Int) (idx lim : Int) (sv : List (Int × Int × List (Nat × Value))) (N : Nat) (h : LStk w B p d (ints l) idx lim sv N) (hN : N ≤ 1048576) (n : Int) :
    Calls Try.prog 11 #[.pointer (some ⟨p, 0, none⟩), .int .i64 n] w (LPush w B p d (ints (n :: l)) lim sv (N + 1)) := by
  have H := Lib.hid h
  clear h
  go_enter Try.func11, Try.ntmps11
  go_wp2_with fail
  refine (lpush w B p d (ints l) idx lim sv N H.out hN 3 (.int .i64 n)).mono ?_
  rintro e w' ⟨rfl, hs⟩
  have HS := Lib.hid hs
  clear hs
  unfold NoEnd
  go_wp2
  go_end0
  exact ⟨rfl, HS.out⟩
theorem zpop (w : World) (B p : Nat) (d : Option Nat) (l : List Int) (n : Int) (idx lim : Int) (sv : List (Int × Int × List (Nat × Value))) (N : Nat) (h : LStk w B p d (ints (n :: l)) idx lim sv N) :
    Calls Try.prog 13 #[.pointer (some ⟨p, 0, none⟩)] w fun en w' => en = .returned (.tuple #[.int .i64 n, .bool true]) ∧ (∃ idx', LStk w' B p d (ints l) idx' lim sv N) ∧ Touch (· = p) w w' := by
  have H := Lib.hid h
  clear h
  go_enter Try.func13, Try.ntmps13
  go_wp2_with fail
  refine (lpop w B p d (ints l) (3, .int .i64 n) idx lim sv N H.out).mono ?_
  rintro e w' ⟨rfl, hs, ht⟩
  have HS := Lib.hid hs
  have HT := Lib.hid ht
  clear hs ht
  go_wp2
  go_ret2
  exact ⟨rfl, HS.out, HT.out⟩
theorem ztop (w : World) (B p : Nat) (d : Option Nat) (l : List Int) (n : Int) (idx lim : Int) (sv : List (Int × Int × List (Nat × Value))) (N : Nat) (h : LStk w B p d (ints (n :: l)) idx lim sv N) :
    Calls Try.prog 12 #[.pointer (some ⟨p, 0, none⟩)] w fun en w' => en = .returned (.tuple #[.int .i64 n, .bool true]) ∧ ∃ m, w' = w.drewN m := by
  have H := Lib.hid h
  clear h
  go_enter Try.func12, Try.ntmps12
  go_wp2_with fail
  refine (ltop w B p d (ints l) (3, .int .i64 n) idx lim sv N H.out).mono ?_
  rintro e w' ⟨rfl, m, rfl⟩
  go_wp2
  go_ret2
  exact ⟨rfl, m, rfl⟩
theorem ints_empty (l : List Int) : (ints l).isEmpty = l.isEmpty := by cases l <;> rfl
theorem zempty (w : World) (B p : Nat) (d : Option Nat) (l : List Int) (idx lim : Int) (sv : List (Int × Int × List (Nat × Value))) (N : Nat) (h : LStk w B p d (ints l) idx lim sv N) :
    Calls Try.prog 14 #[.pointer (some ⟨p, 0, none⟩)] w fun e w' => e = .returned (.bool l.isEmpty) ∧ w = w' := by
  have H := Lib.hid h
  clear h
  rw [← ints_empty]
  go_enter Try.func14, Try.ntmps14
  go_wp2_with fail
  refine (lempty w B p d (ints l) idx lim sv N H.out).mono ?_
  rintro e w' ⟨rfl, rfl⟩
  go_wp2
  go_ret
  exact ⟨rfl, rfl⟩
theorem zsave (w : World) (B p : Nat) (d : Option Nat) (l : List Int) (idx lim : Int) (sv : List (Int × Int × List (Nat × Value))) (N : Nat) (h : LStk w B p d (ints l) idx lim sv N) :
    Calls Try.prog 19 #[.pointer (some ⟨p, 0, none⟩)] w fun en w' => en = .returned (.tuple #[.int .i64 idx, .int .i64 lim]) ∧ LStk w' B p d (ints l) idx (max idx lim) ((idx, lim, ints l) :: sv) N ∧ Touch (· = p) w w' := by
  have H := Lib.hid h
  clear h
  go_enter Try.func19, Try.ntmps19
  go_wp2_with fail
  refine (lsave w B p d (ints l) idx lim sv N H.out).mono ?_
  rintro e w' ⟨rfl, hs, ht⟩
  have HS := Lib.hid hs
  have HT := Lib.hid ht
  clear hs ht
  go_wp2
  go_ret2
  exact ⟨rfl, HS.out, HT.out⟩
theorem zrestore (w : World) (B p : Nat) (d : Option Nat) (l l0 : List Int) (idx lim i0 m0 : Int) (sv : List (Int × Int × List (Nat × Value))) (N : Nat) (h : LStk w B p d (ints l) idx lim ((i0, m0, ints l0) :: sv) N) :
    Calls Try.prog 20 #[.pointer (some ⟨p, 0, none⟩), .int .i64 i0, .int .i64 m0] w fun en w' => en = NoEnd ∧ LStk w' B p d (ints l0) i0 m0 sv N ∧ Touch (· = p) w w' := by
  have H := Lib.hid h
  clear h
  go_enter Try.func20, Try.ntmps20
  go_wp2_with fail
  refine (lrestore w B p d (ints l) (ints l0) idx lim i0 m0 sv N H.out).mono ?_
  rintro e w' ⟨rfl, hs, ht⟩
  have HS := Lib.hid hs
  have HT := Lib.hid ht
  clear hs ht
  unfold NoEnd
  go_wp2
  go_end0
  exact ⟨rfl, HS.out, HT.out⟩
end Go.Proofs.Ythcggbbkbhcmjaa
