/-
  ascii_upcase and ascii_downcase of a string; the decoder's tables as the card lays them (n001_98).
-/
import Derived.Test.YtjflnoghecnigaaDoorUpm
import Derived.Test.YtjflnoghecnigaaDoorShelf
import Derived.Test.YtjflnoghecnigaaDoorArgs
import Derived.Test.YtjflnoghecnigaaDoorRows
import Derived.Lib.LaidU8
import Derived.MakeChecks
namespace Go.Proofs.YtjflnoghecnigaaDoor
set_option linter.unusedVariables false
open Go.ChangeShapes Go.WideShapes Go.ChangeAt Go.RowKit M
theorem tabs_of_laid {w : World} (h : laidMetH Tryd.prog Rows.fnASCIIUpcaseMatchesByteModelRow.laid w) : Lib.Utf8Tabs 0 1 w := by
  rw [MakeChecks.laidMetH_plain _ _ _ (by kernel_rfl)] at h
  have e : Rows.fnASCIIUpcaseMatchesByteModelRow.laid = [("unicode/utf8.acceptRanges", Lib.acceptData), ("unicode/utf8.first", Lib.firstData)] := by kernel_rfl
  have h' : laidMet Tryd.prog [("unicode/utf8.acceptRanges", Lib.acceptData), ("unicode/utf8.first", Lib.firstData)] w := by rw [← e]; exact h
  exact utf8Tabs_of_reads (ρ := lays260_ren) lays260 ⟨by kernel_rfl, by kernel_rfl, by kernel_rfl, by kernel_rfl, by kernel_rfl, by kernel_rfl, by kernel_rfl⟩ (Lib.laidMet.reads h' (.tail _ (.head _))) (Lib.laidMet.reads h' (.head _))
theorem tabs_of_laidB {w : World} (h : laidMetH Tryd.prog Rows.fnASCIIUpcaseIdempotentAndAbsorbsDowncaseRow.laid w) : Lib.Utf8Tabs 0 1 w := tabs_of_laid h
theorem up_at (w : World) : MapAtRunes Tryd.prog 14 #[] up w := by
  intro W x hx hb
  unfold FnGives
  by_cases q1 : 97 ≤ x
  · by_cases q2 : x ≤ 122
    · have hu : up (x : Int) = (x : Int) - 32 := by unfold up; rw [if_pos (by omega)]
      rw [hu]
      go_enter Tryd.func14, Tryd.ntmps14
      go_wp2
      go_ret
      exact ⟨rfl, 0, rfl⟩
    · have hu : up (x : Int) = (x : Int) := by unfold up; rw [if_neg (by omega)]
      rw [hu]
      go_enter Tryd.func14, Tryd.ntmps14
      go_wp2
      go_ret
      exact ⟨rfl, 0, rfl⟩
  · have hu : up (x : Int) = (x : Int) := by unfold up; rw [if_neg (by omega)]
    rw [hu]
    go_enter Tryd.func14, Tryd.ntmps14
    go_wp2
    go_ret
    exact ⟨rfl, 0, rfl⟩
theorem dn_at (w : World) : MapAtRunes Tryd.prog 15 #[] dn w := by
  intro W x hx hb
  unfold FnGives
  by_cases q1 : 65 ≤ x
  · by_cases q2 : x ≤ 90
    · have hu : dn (x : Int) = (x : Int) + 32 := by unfold dn; rw [if_pos (by omega)]
      rw [hu]
      go_enter Tryd.func15, Tryd.ntmps15
      go_wp2
      go_ret
      exact ⟨rfl, 0, rfl⟩
    · have hu : dn (x : Int) = (x : Int) := by unfold dn; rw [if_neg (by omega)]
      rw [hu]
      go_enter Tryd.func15, Tryd.ntmps15
      go_wp2
      go_ret
      exact ⟨rfl, 0, rfl⟩
  · have hu : dn (x : Int) = (x : Int) := by unfold dn; rw [if_neg (by omega)]
    rw [hu]
    go_enter Tryd.func15, Tryd.ntmps15
    go_wp2
    go_ret
    exact ⟨rfl, 0, rfl⟩
theorem up_bd (x : Nat) (hx : x ≤ 1114111) : 0 ≤ up x ∧ up x ≤ 2147483647 := by
  unfold up
  split <;> omega
theorem dn_bd (x : Nat) (hx : x ≤ 1114111) : 0 ≤ dn x ∧ dn x ≤ 2147483647 := by
  unfold dn
  split <;> omega
@[go_sem] theorem as9_9 (v : Value) (w : World) : (Instr.typeAssert (.iface 9 v) 20 9 true).run Tryd.prog w = .ok (.tuple #[v, .bool true]) w := by kernel_rfl
theorem upF (w : World) (s : ByteArray) (hT : Lib.Utf8Tabs 0 1 w) (hs : s.size < 35184372088832) :
    Calls Tryd.prog 10 #[.iface 9 (.string s)] w fun e w' => e = .returned (.iface 9 (.string ⟨(Lib.mapD up s.data.toList).toArray⟩)) ∧ Below w.heap.size w w' := by
  have HT := Lib.hid hT
  clear hT
  go_enter Tryd.func10, Tryd.ntmps10
  go_wp2_with fail
  refine (strings_Map_runes 14 #[] (enters_of Tryd.func14 (by kernel_rfl) rfl) up s w hs (up_at w) up_bd HT.out).mono ?_
  rintro e w1 ⟨rfl, hb⟩
  have HB := Lib.hid hb
  clear hb
  go_wp2_with fail
  go_ret
  exact ⟨rfl, HB.out⟩
theorem dnF (w : World) (s : ByteArray) (hT : Lib.Utf8Tabs 0 1 w) (hs : s.size < 35184372088832) :
    Calls Tryd.prog 12 #[.iface 9 (.string s)] w fun e w' => e = .returned (.iface 9 (.string ⟨(Lib.mapD dn s.data.toList).toArray⟩)) ∧ Below w.heap.size w w' := by
  have HT := Lib.hid hT
  clear hT
  go_enter Tryd.func12, Tryd.ntmps12
  go_wp2_with fail
  refine (strings_Map_runes 15 #[] (enters_of Tryd.func15 (by kernel_rfl) rfl) dn s w hs (dn_at w) dn_bd HT.out).mono ?_
  rintro e w1 ⟨rfl, hb⟩
  have HB := Lib.hid hb
  clear hb
  go_wp2_with fail
  go_ret
  exact ⟨rfl, HB.out⟩
theorem upZ (w : World) (s : ByteArray) (hT : Lib.Utf8Tabs 0 1 w) (hs : s.size < 35184372088832) :
    Calls Tryd.prog 6 #[.string s] w fun e w' => e = .returned (.tuple #[.string ⟨(Lib.mapD up s.data.toList).toArray⟩, .bool true]) ∧ Below w.heap.size w w' := by
  have HT := Lib.hid hT
  clear hT
  go_enter Tryd.func6, Tryd.ntmps6
  go_wp2_with fail
  refine (upF w s HT.out hs).mono ?_
  rintro e w1 ⟨rfl, hb⟩
  have HB := Lib.hid hb
  clear hb
  go_wp2_with fail
  go_ret2
  exact ⟨rfl, HB.out⟩
theorem dnZ (w : World) (s : ByteArray) (hT : Lib.Utf8Tabs 0 1 w) (hs : s.size < 35184372088832) :
    Calls Tryd.prog 9 #[.string s] w fun e w' => e = .returned (.tuple #[.string ⟨(Lib.mapD dn s.data.toList).toArray⟩, .bool true]) ∧ Below w.heap.size w w' := by
  have HT := Lib.hid hT
  clear hT
  go_enter Tryd.func9, Tryd.ntmps9
  go_wp2_with fail
  refine (dnF w s HT.out hs).mono ?_
  rintro e w1 ⟨rfl, hb⟩
  have HB := Lib.hid hb
  clear hb
  go_wp2_with fail
  go_ret2
  exact ⟨rfl, HB.out⟩
theorem bytesA (s : ByteArray) (w : World) : Calls Tryd.prog 5 #[.string s] w fun e w' => (∃ b : Bool, e = .returned (.bool b) ∧ (b = true → s.size ≤ 1048576)) ∧ w' = w := by
  by_cases h1 : s.size ≤ 1048576
  · go_enter Tryd.func5, Tryd.ntmps5
    go_wp2_with fail
    go_ret
    exact ⟨⟨true, rfl, fun _ => h1⟩, rfl⟩
  · go_enter Tryd.func5, Tryd.ntmps5
    go_wp2_with fail
    go_ret
    exact ⟨⟨false, rfl, fun h => by cases h⟩, rfl⟩
theorem bytesB (s : ByteArray) (w : World) : Calls Tryd.prog 8 #[.string s] w fun e w' => (∃ b : Bool, e = .returned (.bool b) ∧ (b = true → s.size ≤ 1048576)) ∧ w' = w := by
  by_cases h1 : s.size ≤ 1048576
  · go_enter Tryd.func8, Tryd.ntmps8
    go_wp2_with fail
    go_ret
    exact ⟨⟨true, rfl, fun _ => h1⟩, rfl⟩
  · go_enter Tryd.func8, Tryd.ntmps8
    go_wp2_with fail
    go_ret
    exact ⟨⟨false, rfl, fun h => by cases h⟩, rfl⟩
end Go.Proofs.YtjflnoghecnigaaDoor
