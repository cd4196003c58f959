/-
  The law's reader of a text (n001_1001): word.
-/
import Derived.Test.YtgbkjdndbjaeoaaDoorMts
import Derived.Lib.IndexAny
import Derived.Deep.CutRange
namespace Go.Proofs.YtgbkjdndbjaeoaaDoor
set_option linter.unusedVariables false
set_option linter.unusedSimpArgs false
open Go.ChangeShapes Go.WideShapes Go.ChangeAt Go.RowKit M
theorem ixC (St : ByteArray) (c : UInt8) (W : World) : ∃ v : Int, (0 ≤ v ↔ St.data.toList.contains c = true) ∧ Calls Tryd.prog 25 #[.string St, .int .u8 c.toNat] W fun e w' => e = .returned (.int .i64 v) ∧ w' = W := by
  refine ⟨Lib.indexByte St.data.toList c, ?_, ?_⟩
  · rw [Lib.contains_iff_indexByte, decide_eq_true_iff]
  · have := strings_IndexByte St (c.toNat : Int) W
    rw [show ((c.toNat : Int).toNat.toUInt8) = c by simp] at this
    exact this
set_option maxRecDepth 100000 in
set_option maxHeartbeats 4000000 in
theorem wordC (w : World) (pb : Nat) (S X St : ByteArray) (L : List UInt8) (h : ZP w pb S (X.data.toList ++ L)) (hs : S.size ≤ 1099511627776) (hx : ∀ c ∈ X.data.toList, St.data.toList.contains c = false) (hL : ∀ c, L.head? = some c → St.data.toList.contains c = true) :
    Calls Tryd.prog 16 #[.pointer (some ⟨pb, 0, none⟩), .string St] w fun e w' => e = .returned (.string X) ∧ ZP w' pb S L ∧ Touch (fun k => k = pb) w w' := by
  obtain ⟨i, hi, hil, hd⟩ := h.at
  have hr := h.row
  have hsuf := h.suf
  rw [hi] at hr
  have HR := Lib.hid hr
  have y0 := hr.cell 0
  have y1 := hr.cell 1
  have f1 := hr.free 1
  have lp := hr.lt
  have hxs : X.data.toList.length = X.size := rfl
  rw [List.length_append, hxs] at hil
  have HSUF := Lib.hid hsuf
  have HIN : Hid (∀ j, i ≤ j → j < i + X.size → ∀ (hj : j < S.size), St.data.toList.contains S[j] = false) := Lib.hid (by
    intro j h1 h2 hj
    refine hx _ ?_
    have e : (S.data.toList.drop i)[j - i]? = X.data.toList[j - i]? := by rw [hd, List.getElem?_append_left (by omega)]
    rw [List.getElem?_drop, show i + (j - i) = j by omega] at e
    have e2 : S.data.toList[j]? = some S[j] := by
      rw [List.getElem?_eq_getElem (by exact hj)]
      simp
      rfl
    rw [e2] at e
    exact List.mem_of_getElem? e.symm)
  have HEND : Hid (∀ (hj : i + X.size < S.size), St.data.toList.contains S[i + X.size] = true) := Lib.hid (by
    intro hj
    refine hL _ ?_
    have e : (S.data.toList.drop i)[X.size]? = L[0]? := by rw [hd, List.getElem?_append_right (by omega), hxs, Nat.sub_self]
    rw [List.getElem?_drop] at e
    have e2 : S.data.toList[i + X.size]? = some S[i + X.size] := by
      rw [List.getElem?_eq_getElem (by exact hj)]
      simp
      rfl
    rw [e2] at e
    rw [← List.head?_eq_getElem?] at e
    exact e.symm)
  have HEX : Hid (S.extract i (i + X.size) = X) := Lib.hid (by
    have : (S.extract i (i + X.size)).data.toList = X.data.toList := by rw [ext_list, hd, show i + X.size - i = X.data.toList.length by omega, List.take_left]
    exact ByteArray.ext (Array.toList_inj.1 this))
  clear h hr hi hd hsuf hx hL
  go_enter Tryd.func16, Tryd.ntmps16
  go_wp2_with fail
  go_loopw [5] (fun t wr => ∃ j : Nat, i ≤ j ∧ j ≤ i + X.size ∧ t = .int .i64 j ∧ wr = w) (fun t _ => S.size - (intOf t).toNat)
  case atStart => exact ⟨i, Nat.le_refl _, by omega, rfl, rfl⟩
  case round =>
    obtain ⟨j, hj0, hj1, rfl, rfl⟩ := hrel
    by_cases hjx : j < i + X.size
    · have hjs : j < S.size := by omega
      obtain ⟨v, hv, hC⟩ := ixC St S[j] wr
      rw [HIN.out j hj0 hjx hjs] at hv
      have hv0 : v < 0 := by
        have : ¬ 0 ≤ v := fun q => by simpa using hv.1 q
        omega
      clear hv
      go_wp2_with fail
      refine hC.mono ?_
      rintro e w' ⟨rfl, rfl⟩
      go_wp2_with fail
      exact ⟨⟨j + 1, by omega, by omega, by go_num, trivial⟩, by simp [intOf]; omega⟩
    · have HJ := Lib.hid (show j = i + X.size by omega)
      by_cases hje : j < S.size
      · obtain ⟨v, hv, hC⟩ := ixC St S[j] wr
        have hv0 : 0 ≤ v := hv.2 (by have := HEND.out (by rw [← HJ.out]; exact hje); rw [← this]; congr 2)
        clear hv
        go_wp2_with fail
        refine hC.mono ?_
        rintro e w' ⟨rfl, rfl⟩
        have hxe : S.extract i j = X := by rw [HJ.out]; exact HEX.out
        go_upto_region 4 with fail
        go_quiet (fail)
        go_wp2_with fail
        go_ret
        have ts : ∀ v, Touch (fun k => k = pb) (w'.drewN nq) ((w'.drewN nq).setCell ⟨pb, 1, none⟩ v) := fun v => (Touch.refl (fun k => k = pb) _).setCell (fun _ => rfl) _
        refine ⟨rfl, ⟨?_, ?_⟩, ((Touch.refl (fun k => k = pb) w').drewN nq).trans (ts _)⟩
        · have := (HR.out.drewN nq).put 1 (.int .i64 (j : Int))
          have e : (j : Int) = (S.size : Int) - L.length := by have := HJ.out; omega
          rw [← e]
          exact this
        · obtain ⟨pre, hp⟩ := HSUF.out
          exact ⟨pre ++ X.data.toList, by rw [hp, List.append_assoc]⟩
      · have hje2 : j = S.size := by omega
        have HJ2 := Lib.hid hje2
        clear hje2
        have hxe : S.extract i j = X := by rw [HJ.out]; exact HEX.out
        go_upto_region 4 with fail
        go_quiet (fail)
        go_wp2_with fail
        go_ret
        have ts : ∀ v, Touch (fun k => k = pb) (wr.drewN nq) ((wr.drewN nq).setCell ⟨pb, 1, none⟩ v) := fun v => (Touch.refl (fun k => k = pb) _).setCell (fun _ => rfl) _
        refine ⟨rfl, ⟨?_, ?_⟩, ((Touch.refl (fun k => k = pb) wr).drewN nq).trans (ts _)⟩
        · have := (HR.out.drewN nq).put 1 (.int .i64 (j : Int))
          have e : (j : Int) = (S.size : Int) - L.length := by have := HJ.out; omega
          rw [← e]
          exact this
        · obtain ⟨pre, hp⟩ := HSUF.out
          exact ⟨pre ++ X.data.toList, by rw [hp, List.append_assoc]⟩
end Go.Proofs.YtgbkjdndbjaeoaaDoor
