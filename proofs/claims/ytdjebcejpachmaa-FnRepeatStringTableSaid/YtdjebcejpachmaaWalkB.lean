/-
  The walk of the law FnRepeatStringAdditiveInCount (n001_79): it returns true for every input.
-/
import Derived.Test.YtdjebcejpachmaaWalkA
import Derived.Test.YtdjebcejpachmaaRows
namespace Go.Proofs.Ytdjebcejpachmaa
set_option linter.unusedVariables false
open Go.ChangeShapes Go.WideShapes Go.ChangeAt Go.RowKit M
def zc (s : ByteArray) : Array Value := #[.int .i64 5, .int .i64 0, .float .f64 0, .string s, .slice none 0 0, .int .i64 0, .bool false, .int .u64 0]
theorem zc_cells {w : World} {g : Nat} {s : ByteArray} (h : Row w g 27 (zc s)) : w.cell? ⟨g, 0, none⟩ = some (.int .i64 5) ∧ w.cell? ⟨g, 3, none⟩ = some (.string s) := ⟨by rw [h.cell]; rfl, by rw [h.cell]; rfl⟩
def rep (s : ByteArray) (c : Nat) : ByteArray := ⟨(Lib.repeatL s.data.toList c).toArray⟩
theorem rep_add (s : ByteArray) (a b : Nat) : ((rep s (a + b)).toList == (rep s a ++ rep s b).toList) = true := by
  rw [beq_iff_eq]
  have : rep s (a + b) = rep s a ++ rep s b := by
    apply ByteArray.ext
    rw [ByteArray.data_append]
    unfold rep
    rw [Lib.repeatL_add]
    simp
  rw [this]
theorem rep_size (s : ByteArray) (c : Nat) : (rep s c).size = c * s.size := by
  unfold rep
  show (Lib.repeatL s.data.toList c).toArray.size = _
  rw [List.size_toArray, Lib.repeatL_length]
  rfl
theorem zRep2 (s : ByteArray) (x c : Nat) (h : Flo x c) (hc : c ≤ 131072) (hs : s.size ≤ 65536) (hl : s.size * c ≤ 1048576) (w : World) : Calls Try.prog 8 #[.string s, .float .f64 x] w fun e w' => e = .returned (.agg #[.int .i64 5, .int .i64 0, .float .f64 0, .string (rep s c), .slice none 0 0, .int .i64 0, .bool false, .int .u64 0]) ∧ Below w.heap.size w w' := zRep s x c h hc hs hl w
set_option maxRecDepth 100000 in
set_option maxHeartbeats 2000000 in
theorem repAdd.main (s : ByteArray) (a b : Nat) (w : World) (hs : s.size ≤ 65536) (ha : a ≤ 65536) (hb : b ≤ 65536) (hl : s.size * (a + b) ≤ 1048576) (hm : s.size ≤ maxLen) (h6 : ∀ w, Calls Try.prog 6 #[.string s, .int .i64 a, .int .i64 b] w (BoolIf True w)) (h7 : ∀ w, Calls Try.prog 7 #[.string s, .int .i64 a, .int .i64 b] w (BoolIf True w)) :
    Calls Try.prog 3 #[.string s, .int .i64 a, .int .i64 b] w fun e w' => e = .returned (.bool true) ∧ Below w.heap.size w w' := by
  have H6 := Lib.hid h6
  have H7 := Lib.hid h7
  have hq : s.size * (a + b) = s.size * a + s.size * b := Nat.mul_add _ _ _
  have HL := Lib.hid hl
  have hla : s.size * a ≤ 1048576 := by omega
  have hlb : s.size * b ≤ 1048576 := by omega
  have HLA := Lib.hid hla
  have HLB := Lib.hid hlb
  clear h6 h7 hl hla hlb hq
  obtain ⟨y, hy, fy⟩ := add_half a ha
  have fab := flo_int (a + b) (by omega)
  have fa := flo_int a (by omega)
  have fb := flo_int b (by omega)
  have c1 := fun W => run_cv_f ((a + b : Nat) : Int) W
  have c2 := fun W => run_cv_f (a : Int) W
  have c3 := fun W => run_cv_f (b : Int) W
  have c4 := fun W => run_float_arith (P := Try.prog) W .add 23 .f64 _ _ y hy
  obtain ⟨x1, h1⟩ : ∃ x, x = FloatKind.f64.nearest ((a + b : Nat) : Int) := ⟨_, rfl⟩
  obtain ⟨x2, h2⟩ : ∃ x, x = FloatKind.f64.nearest (a : Int) := ⟨_, rfl⟩
  obtain ⟨x3, h3⟩ : ∃ x, x = FloatKind.f64.nearest (b : Int) := ⟨_, rfl⟩
  rw [← h1] at c1 fab
  rw [← h2] at c2 c4 fa
  rw [← h3] at c3 fb
  rw [Int.natCast_add] at c1
  have FY := Lib.hid fy
  have FAB := Lib.hid fab
  have FA := Lib.hid fa
  have FB := Lib.hid fb
  clear hy fy fab fa fb h1 h2 h3
  go_enter Try.func3, Try.ntmps3
  go_wp2_with fail
  refine (H6.out _).mono ?_
  rintro e w' ⟨r, rfl, -, rfl⟩
  cases r
  · go_wp2_with fail
    go_ret
    exact ⟨rfl, Below.refl _ _⟩
  go_wp2_with fail
  refine (H7.out _).mono ?_
  rintro e w' ⟨r, rfl, -, rfl⟩
  cases r
  · go_wp2_with fail
    go_ret
    exact ⟨rfl, Below.refl _ _⟩
  go_wp2_with fail
  refine (zRep2 s x1 (a + b) FAB.out (by omega) hs HL.out _).mono ?_
  rintro e w1 ⟨rfl, hb1⟩
  have HB1 := Lib.hid hb1
  clear hb1
  go_wp2_with fail
  refine (zRep2 s x2 a FA.out (by omega) hs HLA.out _).mono ?_
  rintro e w2 ⟨rfl, hb2⟩
  have R12 := Lib.hid ((Row.made w1 27 (zc (rep s (a + b)))).keep hb2 (by simp))
  have HB2 := Lib.hid ((HB1.out.alloc HB1.out.size (.cells (zc (rep s (a + b))) 27)).trans (hb2.mono (Nat.le_trans HB1.out.size (by simp))))
  clear hb2
  go_wp2_with fail
  refine (zRep2 s x3 b FB.out (by omega) hs HLB.out _).mono ?_
  rintro e w3 ⟨rfl, hb3⟩
  have R23 := Lib.hid ((Row.made w2 27 (zc (rep s a))).keep hb3 (by simp))
  have R13 := Lib.hid ((R12.out.alloc (.cells (zc (rep s a)) 27)).keep hb3 (R12.out.alloc _).lt)
  have HB3 := Lib.hid ((HB2.out.alloc HB2.out.size (.cells (zc (rep s a)) 27)).trans (hb3.mono (Nat.le_trans HB2.out.size (by simp))))
  clear hb3
  go_wp2_with fail
  refine (zRep2 s y a FY.out (by omega) hs HLA.out _).mono ?_
  rintro e w4 ⟨rfl, hb4⟩
  have R34 := Lib.hid ((Row.made w3 27 (zc (rep s b))).keep hb4 (by simp))
  have R24 := Lib.hid ((R23.out.alloc (.cells (zc (rep s b)) 27)).keep hb4 (R23.out.alloc _).lt)
  have R14 := Lib.hid ((R13.out.alloc (.cells (zc (rep s b)) 27)).keep hb4 (R13.out.alloc _).lt)
  have HB4 := Lib.hid ((HB3.out.alloc HB3.out.size (.cells (zc (rep s b)) 27)).trans (hb4.mono (Nat.le_trans HB3.out.size (by simp))))
  clear hb4
  obtain ⟨q10, q13⟩ := zc_cells R14.out
  obtain ⟨q20, q23⟩ := zc_cells R24.out
  obtain ⟨q30, q33⟩ := zc_cells R34.out
  have hl1 := R14.out.lt
  have hl2 := R24.out.lt
  have hl3 := R34.out.lt
  have hra := rep_add s a b
  have hcc : (rep s a).size + (rep s b).size ≤ 9223372036854775807 := by
    rw [rep_size, rep_size, Nat.mul_comm a, Nat.mul_comm b]
    have := HLA.out
    have := HLB.out
    omega
  go_wp2_with fail
  go_ret
  exact ⟨rfl, HB4.out.alloc HB4.out.size _⟩
theorem fnRepeatStringAdditiveInCount.walk (a0 : ByteArray) (a1 : Int) (a2 : Int) (w : World) (w0 : a0.size ≤ maxLen) (w1 : (Lit.int .i64 a1).wf = true) (w2 : (Lit.int .i64 a2).wf = true) :
    Calls Try.prog 3 #[.string a0, .int .i64 a1, .int .i64 a2] w fun e w' => e = .returned (.bool true) ∧ Below w.heap.size w w' := by
  by_cases h : a0.size ≤ 65536 ∧ ∃ A B : Nat, a1 = A ∧ a2 = B ∧ A ≤ 65536 ∧ B ≤ 65536 ∧ a0.size * (A + B) ≤ 1048576
  · obtain ⟨hs, A, B, rfl, rfl, hA, hB, hl⟩ := h
    exact repAdd.main a0 A B w hs hA hB hl w0 (fun w => zz6 a0 A B w w0) (fun w => (fits7 a0 A B w w0).mono (fun e w' ⟨r, h1, _, h2⟩ => ⟨r, h1, fun _ => trivial, h2⟩))
  · have HH := Lib.hid h
    clear h
    go_enter Try.func3, Try.ntmps3
    go_wp2_with fail
    refine (zz6 a0 a1 a2 _ w0).mono ?_
    rintro e w' ⟨r, rfl, -, rfl⟩
    cases r
    · go_wp2_with fail
      go_ret
      exact ⟨rfl, Below.refl _ _⟩
    go_wp2_with fail
    refine (fits7 a0 a1 a2 _ w0).mono ?_
    rintro e w' ⟨r, rfl, hr, rfl⟩
    cases r
    · clear hr
      go_wp2_with fail
      go_ret
      exact ⟨rfl, Below.refl _ _⟩
    · exact absurd (hr rfl) HH.out
end Go.Proofs.Ytdjebcejpachmaa
