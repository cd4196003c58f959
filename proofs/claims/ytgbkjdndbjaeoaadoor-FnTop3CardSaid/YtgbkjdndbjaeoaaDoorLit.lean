/-
  The law's reader of a text (n001_1001): lit, word, zMatchString.
-/
import Derived.Test.YtgbkjdndbjaeoaaDoorStr
import Derived.Test.YtgbkjdndbjaeoaaDoorShelf
import Derived.Test.YtgbkjdndbjaeoaaDoorUnq
import Derived.Test.YtgbkjdndbjaeoaaDoorCnv
import Derived.IntWalk
namespace Go.Proofs.YtgbkjdndbjaeoaaDoor
set_option linter.unusedVariables false
set_option linter.unusedSimpArgs false
open Go.ChangeShapes Go.WideShapes Go.ChangeAt Go.RowKit M
/-- The reader at block pb over the text S stands before L. -/
structure ZP (w : World) (pb : Nat) (S : ByteArray) (L : List UInt8) : Prop where
  row : Row w pb 35 #[.string S, .int .i64 ((S.size : Int) - L.length)]
  suf : ∃ pre, S.data.toList = pre ++ L
theorem ZP.at {w : World} {pb : Nat} {S : ByteArray} {L : List UInt8} (h : ZP w pb S L) : ∃ i : Nat, ((S.size : Int) - L.length = i) ∧ i + L.length = S.size ∧ S.data.toList.drop i = L := by
  obtain ⟨pre, hp⟩ := h.suf
  have hs : S.size = pre.length + L.length := by
    have : S.data.toList.length = S.size := rfl
    rw [← this, hp, List.length_append]
  refine ⟨pre.length, by omega, by omega, ?_⟩
  rw [hp, List.drop_left]
theorem ext_list (S : ByteArray) (i j : Nat) : (S.extract i j).data.toList = (S.data.toList.drop i).take (j - i) := by
  simp [ByteArray.data_extract, Array.toList_extract, List.extract_eq_take_drop]
theorem hp_app (a b : List UInt8) : Lib.hasPrefix (a ++ b) a = true := by
  simp [Lib.hasPrefix]
theorem litC (w : World) (pb : Nat) (S X : ByteArray) (L : List UInt8) (h : ZP w pb S (X.data.toList ++ L)) (hs : S.size ≤ 1099511627776) : Calls Tryd.prog 15 #[.pointer (some ⟨pb, 0, none⟩), .string X] w fun e w' => e = .returned (.bool true) ∧ ZP w' pb S L ∧ Touch (fun k => k = pb) w w' := by
  obtain ⟨i, hi, hil, hd⟩ := h.at
  have hr := h.row
  have hsuf := h.suf
  rw [hi] at hr
  have HR := Lib.hid hr
  have y0 := hr.cell 0
  have y1 := hr.cell 1
  have f1 := hr.free 1
  rw [List.length_append] at hil
  have hxs : X.data.toList.length = X.size := rfl
  rw [hxs] at hil
  have hle : i ≤ S.size := by omega
  have H : ∀ W, Calls Tryd.prog 24 #[.string (S.extract i S.size), .string X] W fun e w' => e = .returned (.bool true) ∧ w' = W := by
    intro W
    refine (strings_HasPrefix _ _ _).mono ?_
    rintro e w' ⟨rfl, rfl⟩
    refine ⟨?_, rfl⟩
    rw [ext_list, hd, List.take_of_length_le (by rw [List.length_append]; have : X.data.toList.length = X.size := rfl; omega), hp_app]
  clear h hr hi
  go_enter Tryd.func15, Tryd.ntmps15
  go_wp2_with fail
  go_quiet ((go_at_call 24; exact Calls.quiet_of_same (H _)))
  go_wp2_with fail
  go_ret
  have ts : ∀ v, Touch (fun k => k = pb) (w.drewN nq) ((w.drewN nq).setCell ⟨pb, 1, none⟩ v) := fun v => (Touch.refl (fun k => k = pb) _).setCell (fun _ => rfl) _
  refine ⟨rfl, ⟨?_, ?_⟩, ((Touch.refl (fun k => k = pb) w).drewN nq).trans (ts _)⟩
  · have := (HR.out.drewN nq).put 1 (.int .i64 ((i : Int) + X.size))
    have e : ((i : Int) + X.size) = (S.size : Int) - L.length := by omega
    rw [e] at this
    rw [e]
    exact this
  · obtain ⟨pre, hp⟩ := hsuf
    exact ⟨pre ++ X.data.toList, by rw [hp, List.append_assoc]⟩
end Go.Proofs.YtgbkjdndbjaeoaaDoor
