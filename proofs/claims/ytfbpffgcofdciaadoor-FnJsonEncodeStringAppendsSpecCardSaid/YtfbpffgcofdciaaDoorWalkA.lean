/-
  The walk of FnJsonEncodeStringAppendsSpec (n001_83).
-/
import Derived.Test.YtfbpffgcofdciaaDoorTop
import Derived.Test.YtfbpffgcofdciaaDoorSame
import Derived.Test.YtfbpffgcofdciaaDoorLen
namespace Go.Proofs.YtfbpffgcofdciaaDoor
set_option linter.unusedVariables false
open Go.ChangeShapes Go.WideShapes Go.ChangeAt Go.RowKit M
theorem makeB (n : Nat) (hn : n ≤ 1073741824) (W : World) : (Instr.makeSlice 24 (.int .i64 0) (.int .i64 (n : Int))).run Tryd.prog W = .ok (.slice (some ⟨W.heap.size, 0, none⟩) 0 n) (W.alloc (.cells (madeCells #[.int .u8 0] n) 5)) := by
  obtain ⟨i, hi, hz0, hz1, hz2⟩ := info_parts infoByte
  have hr := run_make (P := Tryd.prog) W 24 5 i (.int .u8 0) Tryd.underlying24 hi hz0 .i64 .i64 0 (n : Int) (by omega) (by omega) (by rw [hz2]; omega) (by omega)
  rw [hz1] at hr
  simp only [Int.toNat_zero, Int.toNat_natCast, Nat.mul_one] at hr
  exact hr
set_option maxRecDepth 100000 in
set_option maxHeartbeats 4000000 in
theorem fnJsonEncodeStringAppendsSpec.walk (a0 : ByteArray) (a1 : ByteArray) (w : World) (hT : Lib.Utf8Tabs 0 1 w) (w0 : a0.size ≤ maxLen) (w1 : a1.size ≤ maxLen) :
    Calls Tryd.prog 3 #[.string a0, .string a1] w fun e w' => e = .returned (.bool true) ∧ Below w.heap.size w w' := by
  have HT := Lib.hid hT
  clear hT
  go_enter Tryd.func3, Tryd.ntmps3
  go_wp2_with fail
  refine (bytesA a0 a1 w).mono ?_
  rintro e w' ⟨⟨b, rfl, hb⟩, rfl⟩
  cases b
  · clear hb
    go_wp2_with fail
    go_ret
    exact ⟨rfl, Below.refl _ _⟩
  · obtain ⟨h1, h2, h3⟩ := hb rfl
    clear hb
    go_wp2_with fail
    refine (afterC w' a0 a1 HT.out h1 h2).mono ?_
    rintro e u1 ⟨rfl, hb1⟩
    obtain ⟨got, hgot⟩ : ∃ g : ByteArray, g = ⟨(a0.data.toList ++ quoted a1).toArray⟩ := ⟨_, rfl⟩
    rw [← hgot]
    have HG := Lib.hid hgot
    have HB1 := Lib.hid hb1
    have hz1 := hb1.size
    clear hgot hb1
    have hmk : ∀ W, (Instr.makeSlice 24 (.int .i64 0) (.int .i64 ((a0.size : Int) + 6 * (a1.size : Int) + 2))).run Tryd.prog W = .ok (.slice (some ⟨W.heap.size, 0, none⟩) 0 (a0.size + 6 * a1.size + 2)) (W.alloc (.cells (madeCells #[.int .u8 0] (a0.size + 6 * a1.size + 2)) 5)) := fun W => by
      rw [show ((a0.size : Int) + 6 * (a1.size : Int) + 2) = ((a0.size + 6 * a1.size + 2 : Nat) : Int) by omega]
      exact makeB _ (by omega) W
    have hbn0 : BN u1 [] (.slice (some ⟨u1.heap.size, 0, none⟩) 0 (a0.size + 6 * a1.size + 2)) (u1.alloc (.cells (madeCells #[.int .u8 0] (a0.size + 6 * a1.size + 2)) 5)) :=
      ⟨_, _, _, _, rfl, Lib.hid rfl, Lib.hid (OwnB.made u1 _ (Nat.le_refl _) (by unfold maxLen; omega)), Lib.hid ((Below.refl _ _).alloc (Nat.le_refl _) _), by rw [World.size_alloc]; omega⟩
    have HBN0 := Lib.hid hbn0
    clear hbn0
    go_wp2_with fail
    clear hmk
    go_loopw [6, 7] (fun v i wr => ∃ k : Nat, k ≤ a0.size ∧ i = .int .i64 k ∧ BN u1 (a0.data.toList.take k) v wr) (fun _ i _ => a0.size - (intOf i).toNat)
    case atStart => exact ⟨0, Nat.zero_le _, rfl, HBN0.out⟩
    case round =>
      obtain ⟨k, hk, rfl, hbn⟩ := hrel
      obtain ⟨A2, n2, c2, d2, rfl, HN2, HO2, HB2, hz2⟩ := hbn
      by_cases hlt : k < a0.size
      · go_wp2_with (at_builtin; refine wp_bytes rfl _ _ rfl wr _ _ rfl u1.heap.size (.slice A2 n2 c2) d2 _ (by rfl) HO2.out [a0[k]] _ (by rfl) (by rfl) 1 (by rfl) (by rfl) (by simp; omega) (by simp) (by simp) hz2 ?_)
        intro v3 w3 ho
        have hbn3 := ho.partsN rfl (fun g hg => (HO2.out.lt g hg).1) HB2.out
        rw [← str_take a0 k hlt] at hbn3
        have HBN3 := Lib.hid hbn3
        clear ho hbn3
        go_wp2_with fail
        exact ⟨⟨k + 1, by omega, by go_num, HBN3.out⟩, by simp [intOf]; omega⟩
      · obtain rfl : k = a0.size := by omega
        have htk : a0.data.toList.take a0.size = a0.data.toList := List.take_of_length_le (by rw [Array.length_toList]; exact Nat.le_refl _)
        rw [htk] at HN2 HO2
        go_wp2_with fail
        refine (quoteC wr u1 A2 n2 c2 d2 a0.data.toList a1 HO2.out HN2.out HB2.out (by simpa using h1) h2).mono ?_
        rintro e w3 ⟨v', rfl, A3, n3, c3, d3, rfl, HN3, HO3, HB3, hz3⟩
        go_wp2_with fail
        have hgl : got.data.toList = a0.data.toList ++ quoted a1 := by rw [HG.out]
        have hgs : got.size = a0.size + (quoted a1).length := by
          rw [show got.size = got.data.toList.length by rw [Array.length_toList]; rfl, hgl, List.length_append, Array.length_toList]
          rfl
        have hql := quoted_len a1
        refine (sameC w3 got u1.heap.size A3 n3 c3 d3 (by rw [hgl]; exact HO3.out) (by rw [HN3.out, hgs, List.length_append, Array.length_toList]; rfl) (by omega)).mono ?_
        rintro e w4 ⟨rfl, hb4⟩
        have HF : Hid (Below w'.heap.size w' w4) := Lib.hid ((HB1.out.trans (HB3.out.mono hz1)).trans (hb4.mono (Nat.le_trans hz1 hz3)))
        clear hb4 hgl hgs hql
        go_wp2_with fail
        go_ret
        exact ⟨rfl, HF.out⟩
end Go.Proofs.YtfbpffgcofdciaaDoor
