/-
  The printers' contracts (n001_1001): all heights; ConstObject.String, ConstTerm.String.
-/
import Derived.Test.YtgbkjdndbjaeoaaDoorWrl
namespace Go.Proofs.YtgbkjdndbjaeoaaDoor
set_option linter.unusedVariables false
set_option linter.unusedSimpArgs false
open Go.ChangeShapes Go.WideShapes Go.ChangeAt Go.RowKit M
theorem wri : ∀ n, WC 12 n (WO n) ∧ WC 21 n (WK n) ∧ WC 22 n (WA n) ∧ WC 14 n (WT n)
  | 0 => by
    refine ⟨?_, ?_, ?_, ?_⟩ <;> (intro w B b d l p t hw; cases hw)
  | n + 1 => ⟨wriO n (wri n).2.1, wriK n (wri n).2.2.2, wriA n (wri n).2.2.2, wriT n (wri n).1 (wri n).2.2.1⟩
theorem decAll (z : List Int) : ∀ m, ConO z m ∧ ConT z m
  | 0 => ⟨conO_0 z, conT_0 z⟩
  | m + 1 => ⟨conO_s z m (decAll z m).2, conT_s z m (decAll z m).1 (decAll z m).2⟩
theorem strO (w : World) (n p : Nat) (t : T) (hw : WO n t) (ha : At (fun k => k < w.heap.size) n w p t) (hT : Lib.Utf8Tabs 1 2 w) (hl : (txt n t).length ≤ 1099511627776) :
    Calls Tryd.prog 5 #[.pointer (some ⟨p, 0, none⟩)] w fun e w' => e = .returned (.string ⟨(txt n t).toArray⟩) ∧ Below w.heap.size w w' := by
  have h3 := tabs_size hT
  have hb : Below w.heap.size w (w.alloc (.cells #[.pointer none, .slice none 0 0] 51)) := (Below.refl _ _).alloc (Nat.le_refl _) _
  have HA := Lib.hid (ha.keep hb)
  have HT := Lib.hid (tabs_low hT ((Below.refl 3 w).alloc h3 (.cells #[.pointer none, .slice none 0 0] 51)))
  have H0 := Lib.hid (Bld.fresh w (Nat.le_refl w.heap.size))
  have HB := Lib.hid hb
  clear ha hT hb
  go_enter Tryd.func5, Tryd.ntmps5
  go_wp2_with fail
  refine ((wri n).1 _ w.heap.size w.heap.size none [] p t hw HA.out H0.out (by simp) HT.out h3 (by simpa using hl)).mono ?_
  rintro e w1 ⟨rfl, ho1⟩
  obtain ⟨d1, g1, e1, t1⟩ := ho1
  have HW1 := Lib.hid (HB.out.trans (t1.below (by simp) (fun k hk q => by exact q.elim (fun q => by omega) (fun q => by cases q))))
  have HG := Lib.hid g1
  clear g1 e1 t1
  go_wp2_with fail
  refine (bstring _ _ _ d1 _ HG.out).mono ?_
  rintro e w2 ⟨rfl, ho2⟩
  have HO2 := Lib.hid ho2
  clear ho2
  go_wp2_with fail
  go_ret
  refine ⟨rfl, HW1.out.trans (HO2.out.2.below HW1.out.size (fun k hk q => by have := (HG.out.lt.2.2 k q).1; omega))⟩
theorem strT (w : World) (n p : Nat) (t : T) (hw : WT n t) (ha : At (fun k => k < w.heap.size) n w p t) (hT : Lib.Utf8Tabs 1 2 w) (hl : (txt n t).length ≤ 1099511627776) :
    Calls Tryd.prog 6 #[.pointer (some ⟨p, 0, none⟩)] w fun e w' => e = .returned (.string ⟨(txt n t).toArray⟩) ∧ Below w.heap.size w w' := by
  have h3 := tabs_size hT
  have hb : Below w.heap.size w (w.alloc (.cells #[.pointer none, .slice none 0 0] 51)) := (Below.refl _ _).alloc (Nat.le_refl _) _
  have HA := Lib.hid (ha.keep hb)
  have HT := Lib.hid (tabs_low hT ((Below.refl 3 w).alloc h3 (.cells #[.pointer none, .slice none 0 0] 51)))
  have H0 := Lib.hid (Bld.fresh w (Nat.le_refl w.heap.size))
  have HB := Lib.hid hb
  clear ha hT hb
  go_enter Tryd.func6, Tryd.ntmps6
  go_wp2_with fail
  refine ((wri n).2.2.2 _ w.heap.size w.heap.size none [] p t hw HA.out H0.out (by simp) HT.out h3 (by simpa using hl)).mono ?_
  rintro e w1 ⟨rfl, ho1⟩
  obtain ⟨d1, g1, e1, t1⟩ := ho1
  have HW1 := Lib.hid (HB.out.trans (t1.below (by simp) (fun k hk q => by exact q.elim (fun q => by omega) (fun q => by cases q))))
  have HG := Lib.hid g1
  clear g1 e1 t1
  go_wp2_with fail
  refine (bstring _ _ _ d1 _ HG.out).mono ?_
  rintro e w2 ⟨rfl, ho2⟩
  have HO2 := Lib.hid ho2
  clear ho2
  go_wp2_with fail
  go_ret
  refine ⟨rfl, HW1.out.trans (HO2.out.2.below HW1.out.size (fun k hk q => by have := (HG.out.lt.2.2 k q).1; omega))⟩
end Go.Proofs.YtgbkjdndbjaeoaaDoor
