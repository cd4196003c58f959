/-
  The walks of the laws FnFormatToFuncCaseTable and FnFormatToFuncFreshEachCall (n001_89): one for each known format, one for every other text. Printed by gen.py.
-/
import Derived.Test.YthcddeeepambdaaMem
import Derived.Test.YthcddeeepambdaaRows
import Derived.WalkKit
import Derived.IntWalk
import Derived.ProofKit
import Derived.WalkSpells
import Derived.WalkLawsBesides
import Derived.Lib.Strings
import Derived.LaidEqlPtr
namespace Go.Proofs.Ythcddeeepambdaa
set_option linter.unusedVariables false
open Go.ChangeShapes Go.WideShapes Go.ChangeAt Go.RowKit M
theorem toL (s : ByteArray) : s.toList = s.data.toList := ByteArray.toList_eq s
theorem dlen (s : ByteArray) : s.data.toList.length = s.size := Array.length_toList
theorem bext {s t : ByteArray} (h : s.data.toList = t.data.toList) : s = t := by
  apply ByteArray.ext
  exact Array.toList_inj.1 h
theorem ne_of (s : ByteArray) (l : List UInt8) (h : s.data.toList ≠ l) : (s.toList == l) = false := by
  rw [toL]; exact beq_eq_false_iff_ne.2 h
theorem rest_ne (s : ByteArray) (l : List UInt8) (h2 : 2 ≤ s.size) (h0 : s[0]'(by omega) = 64) (h : s.data.toList ≠ 64 :: l) : ((s.extract 1 s.size).toList == l) = false := by
  rw [toL, Lib.extract_data]
  refine beq_eq_false_iff_ne.2 fun he => h ?_
  have hl : s.data.toList.length = s.size := dlen s
  rw [List.take_of_length_le (by rw [List.length_drop, hl]; omega)] at he
  have h1 : s.data.toList = s.data.toList[0]'(by omega) :: s.data.toList.drop 1 := by
    have := List.drop_eq_getElem_cons (l := s.data.toList) (i := 0) (by omega)
    simpa using this
  rw [h1, he]
  congr 1
theorem ptr_ne {W : World} {a b : Nat} {ca cb : Array Value} {ta tb : TypeId} (hne : a ≠ b) (ha : Row W a ta ca) (hb : Row W b tb cb) :
    (binOp .neq 23 (.pointer (some ⟨a, 0, none⟩)) (.pointer (some ⟨b, 0, none⟩))).run Try.prog W = .ok (.bool true) W := by
  obtain ⟨i, hi, hz⟩ : ∃ i, Try.prog.info? 29 = some i ∧ i.size ≠ 0 := by
    have h : (Try.prog.info? 29).map (fun i => i.size) = some 2 := by kernel_rfl
    obtain ⟨i, hi, hz⟩ := Option.map_eq_some_iff.1 h
    exact ⟨i, hi, by omega⟩
  have hn : (⟨a, 0, none⟩ : Addr) ≠ ⟨b, 0, none⟩ := fun h => hne (by injection h)
  have h : ∀ d : Nat, (Op.equalIn (d + 1) 23 (.pointer (some ⟨a, 0, none⟩)) (.pointer (some ⟨b, 0, none⟩))).run Try.prog W = .ok false W := fun d => by
    simp [Op.equalIn, run_underlying Try.underlying23, sizeOf, typeInfo, hi, hz, run_sameAddr_other W hn ha hb]
  simp only [binOp]
  simp [Op.equal, Op.maxDepth, h 9999]
@[go_sem] theorem ptr_ne3 (w : World) (a b c : Array Value) (t1 t2 t3 : TypeId) :
    (binOp .neq 23 (.pointer (some ⟨w.heap.size + 1 + 1, 0, none⟩)) (.pointer (some ⟨w.heap.size, 0, none⟩))).run Try.prog (((w.alloc (.cells a t1)).alloc (.cells b t2)).alloc (.cells c t3)) = .ok (.bool true) (((w.alloc (.cells a t1)).alloc (.cells b t2)).alloc (.cells c t3)) := by
  have h3 := Row.made ((w.alloc (.cells a t1)).alloc (.cells b t2)) t3 c
  rw [World.size_alloc, World.size_alloc] at h3
  exact ptr_ne (by omega) h3 (((Row.made w t1 a).alloc _).alloc _)
set_option maxRecDepth 100000 in
set_option maxHeartbeats 1000000 in
theorem fnFormatToFuncCaseTable.k0 (w : World) : Calls Try.prog 3 #[.string ⟨#[64, 116, 101, 120, 116]⟩] w fun e w' => e = .returned (.bool true) ∧ Below w.heap.size w w' := by
  go_enter Try.func3, Try.ntmps3
  go_wp2
  go_ret
  exact ⟨rfl, by repeat (first | exact Below.refl _ _ | refine Below.drew ?_ | refine Below.alloc ?_ (by first | omega | (simp only [World.size_alloc]; omega)) _ | refine Below.setCell ?_ (by first | omega | (simp only [World.size_alloc]; omega)) _)⟩
set_option maxRecDepth 100000 in
set_option maxHeartbeats 1000000 in
theorem fnFormatToFuncFreshEachCall.k0 (w : World) : Calls Try.prog 4 #[.string ⟨#[64, 116, 101, 120, 116]⟩] w fun e w' => e = .returned (.bool true) ∧ Below w.heap.size w w' := by
  go_enter Try.func4, Try.ntmps4
  go_wp2
  go_ret
  exact ⟨rfl, by repeat (first | exact Below.refl _ _ | refine Below.drew ?_ | refine Below.alloc ?_ (by first | omega | (simp only [World.size_alloc]; omega)) _ | refine Below.setCell ?_ (by first | omega | (simp only [World.size_alloc]; omega)) _)⟩
set_option maxRecDepth 100000 in
set_option maxHeartbeats 1000000 in
theorem fnFormatToFuncCaseTable.k1 (w : World) : Calls Try.prog 3 #[.string ⟨#[64, 106, 115, 111, 110]⟩] w fun e w' => e = .returned (.bool true) ∧ Below w.heap.size w w' := by
  go_enter Try.func3, Try.ntmps3
  go_wp2
  go_ret
  exact ⟨rfl, by repeat (first | exact Below.refl _ _ | refine Below.drew ?_ | refine Below.alloc ?_ (by first | omega | (simp only [World.size_alloc]; omega)) _ | refine Below.setCell ?_ (by first | omega | (simp only [World.size_alloc]; omega)) _)⟩
set_option maxRecDepth 100000 in
set_option maxHeartbeats 1000000 in
theorem fnFormatToFuncFreshEachCall.k1 (w : World) : Calls Try.prog 4 #[.string ⟨#[64, 106, 115, 111, 110]⟩] w fun e w' => e = .returned (.bool true) ∧ Below w.heap.size w w' := by
  go_enter Try.func4, Try.ntmps4
  go_wp2
  go_ret
  exact ⟨rfl, by repeat (first | exact Below.refl _ _ | refine Below.drew ?_ | refine Below.alloc ?_ (by first | omega | (simp only [World.size_alloc]; omega)) _ | refine Below.setCell ?_ (by first | omega | (simp only [World.size_alloc]; omega)) _)⟩
set_option maxRecDepth 100000 in
set_option maxHeartbeats 1000000 in
theorem fnFormatToFuncCaseTable.k2 (w : World) : Calls Try.prog 3 #[.string ⟨#[64, 104, 116, 109, 108]⟩] w fun e w' => e = .returned (.bool true) ∧ Below w.heap.size w w' := by
  have hx : (⟨#[64, 104, 116, 109, 108]⟩ : ByteArray).extract 1 5 = ⟨#[104, 116, 109, 108]⟩ := bext (by rw [Lib.extract_data]; rfl)
  have hp : (⟨#[95, 116, 111]⟩ : ByteArray) ++ ⟨#[104, 116, 109, 108]⟩ = ⟨#[95, 116, 111, 104, 116, 109, 108]⟩ := bext (by rw [ByteArray.data_append]; rfl)
  go_enter Try.func3, Try.ntmps3
  go_wp2
  go_ret
  exact ⟨rfl, by repeat (first | exact Below.refl _ _ | refine Below.drew ?_ | refine Below.alloc ?_ (by first | omega | (simp only [World.size_alloc]; omega)) _ | refine Below.setCell ?_ (by first | omega | (simp only [World.size_alloc]; omega)) _)⟩
set_option maxRecDepth 100000 in
set_option maxHeartbeats 1000000 in
theorem fnFormatToFuncFreshEachCall.k2 (w : World) : Calls Try.prog 4 #[.string ⟨#[64, 104, 116, 109, 108]⟩] w fun e w' => e = .returned (.bool true) ∧ Below w.heap.size w w' := by
  have hx : (⟨#[64, 104, 116, 109, 108]⟩ : ByteArray).extract 1 5 = ⟨#[104, 116, 109, 108]⟩ := bext (by rw [Lib.extract_data]; rfl)
  have hp : (⟨#[95, 116, 111]⟩ : ByteArray) ++ ⟨#[104, 116, 109, 108]⟩ = ⟨#[95, 116, 111, 104, 116, 109, 108]⟩ := bext (by rw [ByteArray.data_append]; rfl)
  go_enter Try.func4, Try.ntmps4
  go_wp2
  go_ret
  exact ⟨rfl, by repeat (first | exact Below.refl _ _ | refine Below.drew ?_ | refine Below.alloc ?_ (by first | omega | (simp only [World.size_alloc]; omega)) _ | refine Below.setCell ?_ (by first | omega | (simp only [World.size_alloc]; omega)) _)⟩
set_option maxRecDepth 100000 in
set_option maxHeartbeats 1000000 in
theorem fnFormatToFuncCaseTable.k3 (w : World) : Calls Try.prog 3 #[.string ⟨#[64, 117, 114, 105]⟩] w fun e w' => e = .returned (.bool true) ∧ Below w.heap.size w w' := by
  have hx : (⟨#[64, 117, 114, 105]⟩ : ByteArray).extract 1 4 = ⟨#[117, 114, 105]⟩ := bext (by rw [Lib.extract_data]; rfl)
  have hp : (⟨#[95, 116, 111]⟩ : ByteArray) ++ ⟨#[117, 114, 105]⟩ = ⟨#[95, 116, 111, 117, 114, 105]⟩ := bext (by rw [ByteArray.data_append]; rfl)
  go_enter Try.func3, Try.ntmps3
  go_wp2
  go_ret
  exact ⟨rfl, by repeat (first | exact Below.refl _ _ | refine Below.drew ?_ | refine Below.alloc ?_ (by first | omega | (simp only [World.size_alloc]; omega)) _ | refine Below.setCell ?_ (by first | omega | (simp only [World.size_alloc]; omega)) _)⟩
set_option maxRecDepth 100000 in
set_option maxHeartbeats 1000000 in
theorem fnFormatToFuncFreshEachCall.k3 (w : World) : Calls Try.prog 4 #[.string ⟨#[64, 117, 114, 105]⟩] w fun e w' => e = .returned (.bool true) ∧ Below w.heap.size w w' := by
  have hx : (⟨#[64, 117, 114, 105]⟩ : ByteArray).extract 1 4 = ⟨#[117, 114, 105]⟩ := bext (by rw [Lib.extract_data]; rfl)
  have hp : (⟨#[95, 116, 111]⟩ : ByteArray) ++ ⟨#[117, 114, 105]⟩ = ⟨#[95, 116, 111, 117, 114, 105]⟩ := bext (by rw [ByteArray.data_append]; rfl)
  go_enter Try.func4, Try.ntmps4
  go_wp2
  go_ret
  exact ⟨rfl, by repeat (first | exact Below.refl _ _ | refine Below.drew ?_ | refine Below.alloc ?_ (by first | omega | (simp only [World.size_alloc]; omega)) _ | refine Below.setCell ?_ (by first | omega | (simp only [World.size_alloc]; omega)) _)⟩
set_option maxRecDepth 100000 in
set_option maxHeartbeats 1000000 in
theorem fnFormatToFuncCaseTable.k4 (w : World) : Calls Try.prog 3 #[.string ⟨#[64, 117, 114, 105, 100]⟩] w fun e w' => e = .returned (.bool true) ∧ Below w.heap.size w w' := by
  have hx : (⟨#[64, 117, 114, 105, 100]⟩ : ByteArray).extract 1 5 = ⟨#[117, 114, 105, 100]⟩ := bext (by rw [Lib.extract_data]; rfl)
  have hp : (⟨#[95, 116, 111]⟩ : ByteArray) ++ ⟨#[117, 114, 105, 100]⟩ = ⟨#[95, 116, 111, 117, 114, 105, 100]⟩ := bext (by rw [ByteArray.data_append]; rfl)
  go_enter Try.func3, Try.ntmps3
  go_wp2
  go_ret
  exact ⟨rfl, by repeat (first | exact Below.refl _ _ | refine Below.drew ?_ | refine Below.alloc ?_ (by first | omega | (simp only [World.size_alloc]; omega)) _ | refine Below.setCell ?_ (by first | omega | (simp only [World.size_alloc]; omega)) _)⟩
set_option maxRecDepth 100000 in
set_option maxHeartbeats 1000000 in
theorem fnFormatToFuncFreshEachCall.k4 (w : World) : Calls Try.prog 4 #[.string ⟨#[64, 117, 114, 105, 100]⟩] w fun e w' => e = .returned (.bool true) ∧ Below w.heap.size w w' := by
  have hx : (⟨#[64, 117, 114, 105, 100]⟩ : ByteArray).extract 1 5 = ⟨#[117, 114, 105, 100]⟩ := bext (by rw [Lib.extract_data]; rfl)
  have hp : (⟨#[95, 116, 111]⟩ : ByteArray) ++ ⟨#[117, 114, 105, 100]⟩ = ⟨#[95, 116, 111, 117, 114, 105, 100]⟩ := bext (by rw [ByteArray.data_append]; rfl)
  go_enter Try.func4, Try.ntmps4
  go_wp2
  go_ret
  exact ⟨rfl, by repeat (first | exact Below.refl _ _ | refine Below.drew ?_ | refine Below.alloc ?_ (by first | omega | (simp only [World.size_alloc]; omega)) _ | refine Below.setCell ?_ (by first | omega | (simp only [World.size_alloc]; omega)) _)⟩
set_option maxRecDepth 100000 in
set_option maxHeartbeats 1000000 in
theorem fnFormatToFuncCaseTable.k5 (w : World) : Calls Try.prog 3 #[.string ⟨#[64, 99, 115, 118]⟩] w fun e w' => e = .returned (.bool true) ∧ Below w.heap.size w w' := by
  have hx : (⟨#[64, 99, 115, 118]⟩ : ByteArray).extract 1 4 = ⟨#[99, 115, 118]⟩ := bext (by rw [Lib.extract_data]; rfl)
  have hp : (⟨#[95, 116, 111]⟩ : ByteArray) ++ ⟨#[99, 115, 118]⟩ = ⟨#[95, 116, 111, 99, 115, 118]⟩ := bext (by rw [ByteArray.data_append]; rfl)
  go_enter Try.func3, Try.ntmps3
  go_wp2
  go_ret
  exact ⟨rfl, by repeat (first | exact Below.refl _ _ | refine Below.drew ?_ | refine Below.alloc ?_ (by first | omega | (simp only [World.size_alloc]; omega)) _ | refine Below.setCell ?_ (by first | omega | (simp only [World.size_alloc]; omega)) _)⟩
set_option maxRecDepth 100000 in
set_option maxHeartbeats 1000000 in
theorem fnFormatToFuncFreshEachCall.k5 (w : World) : Calls Try.prog 4 #[.string ⟨#[64, 99, 115, 118]⟩] w fun e w' => e = .returned (.bool true) ∧ Below w.heap.size w w' := by
  have hx : (⟨#[64, 99, 115, 118]⟩ : ByteArray).extract 1 4 = ⟨#[99, 115, 118]⟩ := bext (by rw [Lib.extract_data]; rfl)
  have hp : (⟨#[95, 116, 111]⟩ : ByteArray) ++ ⟨#[99, 115, 118]⟩ = ⟨#[95, 116, 111, 99, 115, 118]⟩ := bext (by rw [ByteArray.data_append]; rfl)
  go_enter Try.func4, Try.ntmps4
  go_wp2
  go_ret
  exact ⟨rfl, by repeat (first | exact Below.refl _ _ | refine Below.drew ?_ | refine Below.alloc ?_ (by first | omega | (simp only [World.size_alloc]; omega)) _ | refine Below.setCell ?_ (by first | omega | (simp only [World.size_alloc]; omega)) _)⟩
set_option maxRecDepth 100000 in
set_option maxHeartbeats 1000000 in
theorem fnFormatToFuncCaseTable.k6 (w : World) : Calls Try.prog 3 #[.string ⟨#[64, 116, 115, 118]⟩] w fun e w' => e = .returned (.bool true) ∧ Below w.heap.size w w' := by
  have hx : (⟨#[64, 116, 115, 118]⟩ : ByteArray).extract 1 4 = ⟨#[116, 115, 118]⟩ := bext (by rw [Lib.extract_data]; rfl)
  have hp : (⟨#[95, 116, 111]⟩ : ByteArray) ++ ⟨#[116, 115, 118]⟩ = ⟨#[95, 116, 111, 116, 115, 118]⟩ := bext (by rw [ByteArray.data_append]; rfl)
  go_enter Try.func3, Try.ntmps3
  go_wp2
  go_ret
  exact ⟨rfl, by repeat (first | exact Below.refl _ _ | refine Below.drew ?_ | refine Below.alloc ?_ (by first | omega | (simp only [World.size_alloc]; omega)) _ | refine Below.setCell ?_ (by first | omega | (simp only [World.size_alloc]; omega)) _)⟩
set_option maxRecDepth 100000 in
set_option maxHeartbeats 1000000 in
theorem fnFormatToFuncFreshEachCall.k6 (w : World) : Calls Try.prog 4 #[.string ⟨#[64, 116, 115, 118]⟩] w fun e w' => e = .returned (.bool true) ∧ Below w.heap.size w w' := by
  have hx : (⟨#[64, 116, 115, 118]⟩ : ByteArray).extract 1 4 = ⟨#[116, 115, 118]⟩ := bext (by rw [Lib.extract_data]; rfl)
  have hp : (⟨#[95, 116, 111]⟩ : ByteArray) ++ ⟨#[116, 115, 118]⟩ = ⟨#[95, 116, 111, 116, 115, 118]⟩ := bext (by rw [ByteArray.data_append]; rfl)
  go_enter Try.func4, Try.ntmps4
  go_wp2
  go_ret
  exact ⟨rfl, by repeat (first | exact Below.refl _ _ | refine Below.drew ?_ | refine Below.alloc ?_ (by first | omega | (simp only [World.size_alloc]; omega)) _ | refine Below.setCell ?_ (by first | omega | (simp only [World.size_alloc]; omega)) _)⟩
set_option maxRecDepth 100000 in
set_option maxHeartbeats 1000000 in
theorem fnFormatToFuncCaseTable.k7 (w : World) : Calls Try.prog 3 #[.string ⟨#[64, 115, 104]⟩] w fun e w' => e = .returned (.bool true) ∧ Below w.heap.size w w' := by
  have hx : (⟨#[64, 115, 104]⟩ : ByteArray).extract 1 3 = ⟨#[115, 104]⟩ := bext (by rw [Lib.extract_data]; rfl)
  have hp : (⟨#[95, 116, 111]⟩ : ByteArray) ++ ⟨#[115, 104]⟩ = ⟨#[95, 116, 111, 115, 104]⟩ := bext (by rw [ByteArray.data_append]; rfl)
  go_enter Try.func3, Try.ntmps3
  go_wp2
  go_ret
  exact ⟨rfl, by repeat (first | exact Below.refl _ _ | refine Below.drew ?_ | refine Below.alloc ?_ (by first | omega | (simp only [World.size_alloc]; omega)) _ | refine Below.setCell ?_ (by first | omega | (simp only [World.size_alloc]; omega)) _)⟩
set_option maxRecDepth 100000 in
set_option maxHeartbeats 1000000 in
theorem fnFormatToFuncFreshEachCall.k7 (w : World) : Calls Try.prog 4 #[.string ⟨#[64, 115, 104]⟩] w fun e w' => e = .returned (.bool true) ∧ Below w.heap.size w w' := by
  have hx : (⟨#[64, 115, 104]⟩ : ByteArray).extract 1 3 = ⟨#[115, 104]⟩ := bext (by rw [Lib.extract_data]; rfl)
  have hp : (⟨#[95, 116, 111]⟩ : ByteArray) ++ ⟨#[115, 104]⟩ = ⟨#[95, 116, 111, 115, 104]⟩ := bext (by rw [ByteArray.data_append]; rfl)
  go_enter Try.func4, Try.ntmps4
  go_wp2
  go_ret
  exact ⟨rfl, by repeat (first | exact Below.refl _ _ | refine Below.drew ?_ | refine Below.alloc ?_ (by first | omega | (simp only [World.size_alloc]; omega)) _ | refine Below.setCell ?_ (by first | omega | (simp only [World.size_alloc]; omega)) _)⟩
set_option maxRecDepth 100000 in
set_option maxHeartbeats 1000000 in
theorem fnFormatToFuncCaseTable.k8 (w : World) : Calls Try.prog 3 #[.string ⟨#[64, 98, 97, 115, 101, 54, 52]⟩] w fun e w' => e = .returned (.bool true) ∧ Below w.heap.size w w' := by
  have hx : (⟨#[64, 98, 97, 115, 101, 54, 52]⟩ : ByteArray).extract 1 7 = ⟨#[98, 97, 115, 101, 54, 52]⟩ := bext (by rw [Lib.extract_data]; rfl)
  have hp : (⟨#[95, 116, 111]⟩ : ByteArray) ++ ⟨#[98, 97, 115, 101, 54, 52]⟩ = ⟨#[95, 116, 111, 98, 97, 115, 101, 54, 52]⟩ := bext (by rw [ByteArray.data_append]; rfl)
  go_enter Try.func3, Try.ntmps3
  go_wp2
  go_ret
  exact ⟨rfl, by repeat (first | exact Below.refl _ _ | refine Below.drew ?_ | refine Below.alloc ?_ (by first | omega | (simp only [World.size_alloc]; omega)) _ | refine Below.setCell ?_ (by first | omega | (simp only [World.size_alloc]; omega)) _)⟩
set_option maxRecDepth 100000 in
set_option maxHeartbeats 1000000 in
theorem fnFormatToFuncFreshEachCall.k8 (w : World) : Calls Try.prog 4 #[.string ⟨#[64, 98, 97, 115, 101, 54, 52]⟩] w fun e w' => e = .returned (.bool true) ∧ Below w.heap.size w w' := by
  have hx : (⟨#[64, 98, 97, 115, 101, 54, 52]⟩ : ByteArray).extract 1 7 = ⟨#[98, 97, 115, 101, 54, 52]⟩ := bext (by rw [Lib.extract_data]; rfl)
  have hp : (⟨#[95, 116, 111]⟩ : ByteArray) ++ ⟨#[98, 97, 115, 101, 54, 52]⟩ = ⟨#[95, 116, 111, 98, 97, 115, 101, 54, 52]⟩ := bext (by rw [ByteArray.data_append]; rfl)
  go_enter Try.func4, Try.ntmps4
  go_wp2
  go_ret
  exact ⟨rfl, by repeat (first | exact Below.refl _ _ | refine Below.drew ?_ | refine Below.alloc ?_ (by first | omega | (simp only [World.size_alloc]; omega)) _ | refine Below.setCell ?_ (by first | omega | (simp only [World.size_alloc]; omega)) _)⟩
set_option maxRecDepth 100000 in
set_option maxHeartbeats 1000000 in
theorem fnFormatToFuncCaseTable.k9 (w : World) : Calls Try.prog 3 #[.string ⟨#[64, 98, 97, 115, 101, 54, 52, 100]⟩] w fun e w' => e = .returned (.bool true) ∧ Below w.heap.size w w' := by
  have hx : (⟨#[64, 98, 97, 115, 101, 54, 52, 100]⟩ : ByteArray).extract 1 8 = ⟨#[98, 97, 115, 101, 54, 52, 100]⟩ := bext (by rw [Lib.extract_data]; rfl)
  have hp : (⟨#[95, 116, 111]⟩ : ByteArray) ++ ⟨#[98, 97, 115, 101, 54, 52, 100]⟩ = ⟨#[95, 116, 111, 98, 97, 115, 101, 54, 52, 100]⟩ := bext (by rw [ByteArray.data_append]; rfl)
  go_enter Try.func3, Try.ntmps3
  go_wp2
  go_ret
  exact ⟨rfl, by repeat (first | exact Below.refl _ _ | refine Below.drew ?_ | refine Below.alloc ?_ (by first | omega | (simp only [World.size_alloc]; omega)) _ | refine Below.setCell ?_ (by first | omega | (simp only [World.size_alloc]; omega)) _)⟩
set_option maxRecDepth 100000 in
set_option maxHeartbeats 1000000 in
theorem fnFormatToFuncFreshEachCall.k9 (w : World) : Calls Try.prog 4 #[.string ⟨#[64, 98, 97, 115, 101, 54, 52, 100]⟩] w fun e w' => e = .returned (.bool true) ∧ Below w.heap.size w w' := by
  have hx : (⟨#[64, 98, 97, 115, 101, 54, 52, 100]⟩ : ByteArray).extract 1 8 = ⟨#[98, 97, 115, 101, 54, 52, 100]⟩ := bext (by rw [Lib.extract_data]; rfl)
  have hp : (⟨#[95, 116, 111]⟩ : ByteArray) ++ ⟨#[98, 97, 115, 101, 54, 52, 100]⟩ = ⟨#[95, 116, 111, 98, 97, 115, 101, 54, 52, 100]⟩ := bext (by rw [ByteArray.data_append]; rfl)
  go_enter Try.func4, Try.ntmps4
  go_wp2
  go_ret
  exact ⟨rfl, by repeat (first | exact Below.refl _ _ | refine Below.drew ?_ | refine Below.alloc ?_ (by first | omega | (simp only [World.size_alloc]; omega)) _ | refine Below.setCell ?_ (by first | omega | (simp only [World.size_alloc]; omega)) _)⟩
set_option maxRecDepth 100000 in
set_option maxHeartbeats 2000000 in
theorem fnFormatToFuncCaseTable.unknown (a0 : ByteArray) (w0 : a0.size ≤ maxLen) (hu : a0.data.toList ≠ [64, 116, 101, 120, 116] ∧ a0.data.toList ≠ [64, 106, 115, 111, 110] ∧ a0.data.toList ≠ [64, 104, 116, 109, 108] ∧ a0.data.toList ≠ [64, 117, 114, 105] ∧ a0.data.toList ≠ [64, 117, 114, 105, 100] ∧ a0.data.toList ≠ [64, 99, 115, 118] ∧ a0.data.toList ≠ [64, 116, 115, 118] ∧ a0.data.toList ≠ [64, 115, 104] ∧ a0.data.toList ≠ [64, 98, 97, 115, 101, 54, 52] ∧ a0.data.toList ≠ [64, 98, 97, 115, 101, 54, 52, 100]) (w : World) : Calls Try.prog 3 #[.string a0] w fun e w' => e = .returned (.bool true) ∧ Below w.heap.size w w' := by
  have hs : a0.size ≤ 9223372036854775807 := w0
  have u0 := ne_of a0 [64, 116, 101, 120, 116] (hu.1)
  have u1 := ne_of a0 [64, 106, 115, 111, 110] (hu.2.1)
  have u2 := ne_of a0 [64, 104, 116, 109, 108] (hu.2.2.1)
  have u3 := ne_of a0 [64, 117, 114, 105] (hu.2.2.2.1)
  have u4 := ne_of a0 [64, 117, 114, 105, 100] (hu.2.2.2.2.1)
  have u5 := ne_of a0 [64, 99, 115, 118] (hu.2.2.2.2.2.1)
  have u6 := ne_of a0 [64, 116, 115, 118] (hu.2.2.2.2.2.2.1)
  have u7 := ne_of a0 [64, 115, 104] (hu.2.2.2.2.2.2.2.1)
  have u8 := ne_of a0 [64, 98, 97, 115, 101, 54, 52] (hu.2.2.2.2.2.2.2.2.1)
  have u9 := ne_of a0 [64, 98, 97, 115, 101, 54, 52, 100] (hu.2.2.2.2.2.2.2.2.2)
  by_cases hlen : a0.size ≤ 65536
  · by_cases h2 : 2 ≤ a0.size
    · by_cases h0 : a0[0]'(by omega) = 64
      · have r2 := rest_ne a0 [104, 116, 109, 108] h2 h0 (hu.2.2.1)
        have r3 := rest_ne a0 [117, 114, 105] h2 h0 (hu.2.2.2.1)
        have r4 := rest_ne a0 [117, 114, 105, 100] h2 h0 (hu.2.2.2.2.1)
        have r5 := rest_ne a0 [99, 115, 118] h2 h0 (hu.2.2.2.2.2.1)
        have r6 := rest_ne a0 [116, 115, 118] h2 h0 (hu.2.2.2.2.2.2.1)
        have r7 := rest_ne a0 [115, 104] h2 h0 (hu.2.2.2.2.2.2.2.1)
        have r8 := rest_ne a0 [98, 97, 115, 101, 54, 52] h2 h0 (hu.2.2.2.2.2.2.2.2.1)
        have r9 := rest_ne a0 [98, 97, 115, 101, 54, 52, 100] h2 h0 (hu.2.2.2.2.2.2.2.2.2)
        have e0 : (((a0[0]'(by omega)).toNat : Int) != 64) = false := by rw [h0]; rfl
        clear hu h0
        go_enter Try.func3, Try.ntmps3
        go_wp2
        go_ret
        exact ⟨rfl, Below.refl _ _⟩
      · have e0 : (((a0[0]'(by omega)).toNat : Int) != 64) = true := by
          rw [bne_iff_ne]; intro h; apply h0; apply UInt8.toNat_inj.1; show _ = 64; omega
        clear hu h0
        go_enter Try.func3, Try.ntmps3
        go_wp2
        go_ret
        exact ⟨rfl, Below.refl _ _⟩
    · clear hu
      go_enter Try.func3, Try.ntmps3
      go_wp2
      go_ret
      exact ⟨rfl, Below.refl _ _⟩
  · clear hu
    go_enter Try.func3, Try.ntmps3
    go_wp2
    all_goals (go_ret; exact ⟨rfl, Below.refl _ _⟩)
set_option maxRecDepth 100000 in
set_option maxHeartbeats 2000000 in
theorem fnFormatToFuncFreshEachCall.unknown (a0 : ByteArray) (w0 : a0.size ≤ maxLen) (hu : a0.data.toList ≠ [64, 116, 101, 120, 116] ∧ a0.data.toList ≠ [64, 106, 115, 111, 110] ∧ a0.data.toList ≠ [64, 104, 116, 109, 108] ∧ a0.data.toList ≠ [64, 117, 114, 105] ∧ a0.data.toList ≠ [64, 117, 114, 105, 100] ∧ a0.data.toList ≠ [64, 99, 115, 118] ∧ a0.data.toList ≠ [64, 116, 115, 118] ∧ a0.data.toList ≠ [64, 115, 104] ∧ a0.data.toList ≠ [64, 98, 97, 115, 101, 54, 52] ∧ a0.data.toList ≠ [64, 98, 97, 115, 101, 54, 52, 100]) (w : World) : Calls Try.prog 4 #[.string a0] w fun e w' => e = .returned (.bool true) ∧ Below w.heap.size w w' := by
  have hs : a0.size ≤ 9223372036854775807 := w0
  have u0 := ne_of a0 [64, 116, 101, 120, 116] (hu.1)
  have u1 := ne_of a0 [64, 106, 115, 111, 110] (hu.2.1)
  have u2 := ne_of a0 [64, 104, 116, 109, 108] (hu.2.2.1)
  have u3 := ne_of a0 [64, 117, 114, 105] (hu.2.2.2.1)
  have u4 := ne_of a0 [64, 117, 114, 105, 100] (hu.2.2.2.2.1)
  have u5 := ne_of a0 [64, 99, 115, 118] (hu.2.2.2.2.2.1)
  have u6 := ne_of a0 [64, 116, 115, 118] (hu.2.2.2.2.2.2.1)
  have u7 := ne_of a0 [64, 115, 104] (hu.2.2.2.2.2.2.2.1)
  have u8 := ne_of a0 [64, 98, 97, 115, 101, 54, 52] (hu.2.2.2.2.2.2.2.2.1)
  have u9 := ne_of a0 [64, 98, 97, 115, 101, 54, 52, 100] (hu.2.2.2.2.2.2.2.2.2)
  by_cases hlen : a0.size ≤ 65536
  · by_cases h2 : 2 ≤ a0.size
    · by_cases h0 : a0[0]'(by omega) = 64
      · have r2 := rest_ne a0 [104, 116, 109, 108] h2 h0 (hu.2.2.1)
        have r3 := rest_ne a0 [117, 114, 105] h2 h0 (hu.2.2.2.1)
        have r4 := rest_ne a0 [117, 114, 105, 100] h2 h0 (hu.2.2.2.2.1)
        have r5 := rest_ne a0 [99, 115, 118] h2 h0 (hu.2.2.2.2.2.1)
        have r6 := rest_ne a0 [116, 115, 118] h2 h0 (hu.2.2.2.2.2.2.1)
        have r7 := rest_ne a0 [115, 104] h2 h0 (hu.2.2.2.2.2.2.2.1)
        have r8 := rest_ne a0 [98, 97, 115, 101, 54, 52] h2 h0 (hu.2.2.2.2.2.2.2.2.1)
        have r9 := rest_ne a0 [98, 97, 115, 101, 54, 52, 100] h2 h0 (hu.2.2.2.2.2.2.2.2.2)
        have e0 : (((a0[0]'(by omega)).toNat : Int) != 64) = false := by rw [h0]; rfl
        clear hu h0
        go_enter Try.func4, Try.ntmps4
        go_wp2
        go_ret
        exact ⟨rfl, Below.refl _ _⟩
      · have e0 : (((a0[0]'(by omega)).toNat : Int) != 64) = true := by
          rw [bne_iff_ne]; intro h; apply h0; apply UInt8.toNat_inj.1; show _ = 64; omega
        clear hu h0
        go_enter Try.func4, Try.ntmps4
        go_wp2
        go_ret
        exact ⟨rfl, Below.refl _ _⟩
    · clear hu
      go_enter Try.func4, Try.ntmps4
      go_wp2
      go_ret
      exact ⟨rfl, Below.refl _ _⟩
  · clear hu
    go_enter Try.func4, Try.ntmps4
    go_wp2
    all_goals (go_ret; exact ⟨rfl, Below.refl _ _⟩)
theorem fnFormatToFuncCaseTable.walk (a0 : ByteArray) (w0 : a0.size ≤ maxLen) (w : World) : Calls Try.prog 3 #[.string a0] w fun e w' => e = .returned (.bool true) ∧ Below w.heap.size w w' := by
  by_cases c0 : a0.data.toList = [64, 116, 101, 120, 116]
  · obtain rfl : a0 = ⟨#[64, 116, 101, 120, 116]⟩ := bext c0
    exact fnFormatToFuncCaseTable.k0 w
  by_cases c1 : a0.data.toList = [64, 106, 115, 111, 110]
  · obtain rfl : a0 = ⟨#[64, 106, 115, 111, 110]⟩ := bext c1
    exact fnFormatToFuncCaseTable.k1 w
  by_cases c2 : a0.data.toList = [64, 104, 116, 109, 108]
  · obtain rfl : a0 = ⟨#[64, 104, 116, 109, 108]⟩ := bext c2
    exact fnFormatToFuncCaseTable.k2 w
  by_cases c3 : a0.data.toList = [64, 117, 114, 105]
  · obtain rfl : a0 = ⟨#[64, 117, 114, 105]⟩ := bext c3
    exact fnFormatToFuncCaseTable.k3 w
  by_cases c4 : a0.data.toList = [64, 117, 114, 105, 100]
  · obtain rfl : a0 = ⟨#[64, 117, 114, 105, 100]⟩ := bext c4
    exact fnFormatToFuncCaseTable.k4 w
  by_cases c5 : a0.data.toList = [64, 99, 115, 118]
  · obtain rfl : a0 = ⟨#[64, 99, 115, 118]⟩ := bext c5
    exact fnFormatToFuncCaseTable.k5 w
  by_cases c6 : a0.data.toList = [64, 116, 115, 118]
  · obtain rfl : a0 = ⟨#[64, 116, 115, 118]⟩ := bext c6
    exact fnFormatToFuncCaseTable.k6 w
  by_cases c7 : a0.data.toList = [64, 115, 104]
  · obtain rfl : a0 = ⟨#[64, 115, 104]⟩ := bext c7
    exact fnFormatToFuncCaseTable.k7 w
  by_cases c8 : a0.data.toList = [64, 98, 97, 115, 101, 54, 52]
  · obtain rfl : a0 = ⟨#[64, 98, 97, 115, 101, 54, 52]⟩ := bext c8
    exact fnFormatToFuncCaseTable.k8 w
  by_cases c9 : a0.data.toList = [64, 98, 97, 115, 101, 54, 52, 100]
  · obtain rfl : a0 = ⟨#[64, 98, 97, 115, 101, 54, 52, 100]⟩ := bext c9
    exact fnFormatToFuncCaseTable.k9 w
  exact fnFormatToFuncCaseTable.unknown a0 w0 ⟨c0, c1, c2, c3, c4, c5, c6, c7, c8, c9⟩ w
theorem fnFormatToFuncFreshEachCall.walk (a0 : ByteArray) (w0 : a0.size ≤ maxLen) (w : World) : Calls Try.prog 4 #[.string a0] w fun e w' => e = .returned (.bool true) ∧ Below w.heap.size w w' := by
  by_cases c0 : a0.data.toList = [64, 116, 101, 120, 116]
  · obtain rfl : a0 = ⟨#[64, 116, 101, 120, 116]⟩ := bext c0
    exact fnFormatToFuncFreshEachCall.k0 w
  by_cases c1 : a0.data.toList = [64, 106, 115, 111, 110]
  · obtain rfl : a0 = ⟨#[64, 106, 115, 111, 110]⟩ := bext c1
    exact fnFormatToFuncFreshEachCall.k1 w
  by_cases c2 : a0.data.toList = [64, 104, 116, 109, 108]
  · obtain rfl : a0 = ⟨#[64, 104, 116, 109, 108]⟩ := bext c2
    exact fnFormatToFuncFreshEachCall.k2 w
  by_cases c3 : a0.data.toList = [64, 117, 114, 105]
  · obtain rfl : a0 = ⟨#[64, 117, 114, 105]⟩ := bext c3
    exact fnFormatToFuncFreshEachCall.k3 w
  by_cases c4 : a0.data.toList = [64, 117, 114, 105, 100]
  · obtain rfl : a0 = ⟨#[64, 117, 114, 105, 100]⟩ := bext c4
    exact fnFormatToFuncFreshEachCall.k4 w
  by_cases c5 : a0.data.toList = [64, 99, 115, 118]
  · obtain rfl : a0 = ⟨#[64, 99, 115, 118]⟩ := bext c5
    exact fnFormatToFuncFreshEachCall.k5 w
  by_cases c6 : a0.data.toList = [64, 116, 115, 118]
  · obtain rfl : a0 = ⟨#[64, 116, 115, 118]⟩ := bext c6
    exact fnFormatToFuncFreshEachCall.k6 w
  by_cases c7 : a0.data.toList = [64, 115, 104]
  · obtain rfl : a0 = ⟨#[64, 115, 104]⟩ := bext c7
    exact fnFormatToFuncFreshEachCall.k7 w
  by_cases c8 : a0.data.toList = [64, 98, 97, 115, 101, 54, 52]
  · obtain rfl : a0 = ⟨#[64, 98, 97, 115, 101, 54, 52]⟩ := bext c8
    exact fnFormatToFuncFreshEachCall.k8 w
  by_cases c9 : a0.data.toList = [64, 98, 97, 115, 101, 54, 52, 100]
  · obtain rfl : a0 = ⟨#[64, 98, 97, 115, 101, 54, 52, 100]⟩ := bext c9
    exact fnFormatToFuncFreshEachCall.k9 w
  exact fnFormatToFuncFreshEachCall.unknown a0 w0 ⟨c0, c1, c2, c3, c4, c5, c6, c7, c8, c9⟩ w
end Go.Proofs.Ythcddeeepambdaa
