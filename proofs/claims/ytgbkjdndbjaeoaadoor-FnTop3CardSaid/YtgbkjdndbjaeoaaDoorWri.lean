/-
  The printers' contracts (n001_1001): ConstTerm, ConstObjectKeyVal, ConstObject, ConstArray writeTo. Printed by genWri.py.
-/
import Derived.Test.YtgbkjdndbjaeoaaDoorTxt
namespace Go.Proofs.YtgbkjdndbjaeoaaDoor
set_option linter.unusedVariables false
set_option linter.unusedSimpArgs false
open Go.ChangeShapes Go.WideShapes Go.ChangeAt Go.RowKit M
def WC (fn n : Nat) (W : T → Prop) : Prop := ∀ (w : World) (B b : Nat) (d : Option Nat) (l : List UInt8) (p : Nat) (t : T), W t → At (fun k => k < B) n w p t → Bld w B b d l → B ≤ w.heap.size → Lib.Utf8Tabs 1 2 w → 3 ≤ B → l.length + (txt n t).length ≤ 1099511627776 →
  Calls Tryd.prog fn #[.pointer (some ⟨p, 0, none⟩), .pointer (some ⟨b, 0, none⟩)] w fun e w' => e = .returned (.tuple #[]) ∧ BOut w B b d (l ++ txt n t) w'
theorem numT_ne (m : Int) : (numT m).toList.isEmpty = false ∧ (numT m).size ≠ 0 := by
  unfold numT
  repeat' split
  all_goals exact ⟨by kernel_rfl, by decide⟩
theorem lb0 {l X : List UInt8} {x : ByteArray} (hx : x.data.toList = X) (h : l.length + X.length ≤ 1099511627776) : l.length + x.size ≤ 140737488355328 := by
  have : x.size = X.length := by rw [← hx]; rfl
  omega
theorem lb1 {l X r : List UInt8} {x : ByteArray} (hx : x.data.toList = X) (h : l.length + (X ++ r).length ≤ 1099511627776) : l.length + x.size ≤ 140737488355328 := by
  have : x.size = X.length := by rw [← hx]; rfl
  rw [List.length_append] at h
  omega
theorem lb2 {l X Y r : List UInt8} {x : ByteArray} (hx : x.data.toList = Y) (h : l.length + (X ++ (Y ++ r)).length ≤ 1099511627776) : (l ++ X).length + x.size ≤ 140737488355328 := by
  have : x.size = Y.length := by rw [← hx]; rfl
  simp only [List.length_append] at h ⊢
  omega
theorem lb3 {l X Y r : List UInt8} (h : l.length + (X ++ (Y ++ r)).length ≤ 1099511627776) : (l ++ X ++ Y).length + r.length ≤ 1099511627776 := by
  simp only [List.length_append] at h ⊢
  omega
theorem nameT_ne (m : Int) : (nameT m).toList.isEmpty = false ∧ (nameT m).size ≠ 0 := by
  unfold nameT
  repeat' split
  all_goals exact ⟨by kernel_rfl, by decide⟩
set_option maxRecDepth 100000 in
set_option maxHeartbeats 4000000 in
theorem wriT (n : Nat) (IHO : WC 12 n (WO n)) (IHA : WC 22 n (WA n)) : WC 14 (n + 1) (WT (n + 1)) := by
  intro w B b d l p t hw ha h0 hB hT h3 hlen
  have H0 := Lib.hid h0
  have HT := Lib.hid hT
  have HL := Lib.hid hlen
  clear h0 hT hlen
  cases hw with
  | obj m o ho' =>
    rw [show E0 = (⟨#[]⟩ : ByteArray) from rfl] at ha
    obtain ⟨vo, va, hr, ho, hv, hp⟩ := ha.term
    obtain ⟨q, ev, hq⟩ := ho
    subst ev
    have y0 := hr.cell 0
    have y1 := hr.cell 1
    have y2 := hr.cell 2
    have y3 := hr.cell 3
    have y4 := hr.cell 4
    have y5 := hr.cell 5
    have y6 := hr.cell 6
    have HQ := Lib.hid hq
    clear hr hq hv ha
    go_enter Tryd.func14, Tryd.ntmps14
    go_wp2_with fail
    refine (IHO _ B b d l q o ho' HQ.out H0.out hB HT.out h3 HL.out).mono ?_
    rintro e w1 ⟨rfl, ho1⟩
    have HO1 := Lib.hid ho1
    clear ho1
    go_wp2_with fail
    (try simp only [Exit.inBlock, Exit.then])
    first | refine bodyPost_ret (results_none rfl _ _ _) rfl ?_ | refine bodyPost_end (results_none rfl _ _ _) rfl ?_
    exact ⟨rfl, HO1.out⟩
  | arr m o ho' =>
    rw [show E0 = (⟨#[]⟩ : ByteArray) from rfl] at ha
    obtain ⟨vo, va, hr, ho, hv, hp⟩ := ha.term
    have ev : vo = .pointer none := ho
    obtain ⟨q, eu, hq⟩ := hv
    subst ev eu
    have y0 := hr.cell 0
    have y1 := hr.cell 1
    have y2 := hr.cell 2
    have y3 := hr.cell 3
    have y4 := hr.cell 4
    have y5 := hr.cell 5
    have y6 := hr.cell 6
    have HQ := Lib.hid hq
    clear hr hq ho ha
    go_enter Tryd.func14, Tryd.ntmps14
    go_wp2_with fail
    refine (IHA _ B b d l q o ho' HQ.out H0.out hB HT.out h3 HL.out).mono ?_
    rintro e w1 ⟨rfl, ho1⟩
    have HO1 := Lib.hid ho1
    clear ho1
    go_wp2_with fail
    (try simp only [Exit.inBlock, Exit.then])
    first | refine bodyPost_ret (results_none rfl _ _ _) rfl ?_ | refine bodyPost_end (results_none rfl _ _ _) rfl ?_
    exact ⟨rfl, HO1.out⟩
  | num n' m =>
    obtain ⟨x, hx⟩ : ∃ x, x = numT m := ⟨_, rfl⟩
    have hx1 := (numT_ne m).1
    have hx2 := (numT_ne m).2
    rw [← hx] at ha HL hx1 hx2 ⊢
    rw [show E0 = (⟨#[]⟩ : ByteArray) from rfl] at ha
    have HX := Lib.hid hx2
    clear hx hx2
    have HTX := Lib.hid (show txt (n + 1) (termF none none x E0 false false false) = x.data.toList by rw [txt_l, if_pos HX.out])
    rw [HTX.out] at HL ⊢
    obtain ⟨vo, va, hr, ho, hv, hp⟩ := ha.term
    have ev : vo = .pointer none := ho
    have eu : va = .pointer none := hv
    subst ev eu
    have y0 := hr.cell 0
    have y1 := hr.cell 1
    have y2 := hr.cell 2
    have y3 := hr.cell 3
    have y4 := hr.cell 4
    have y5 := hr.cell 5
    have y6 := hr.cell 6
    clear hr ho hv ha
    go_enter Tryd.func14, Tryd.ntmps14
    go_wp2_with fail
    refine (bstr _ B b d l _ H0.out (lb0 rfl HL.out) hB).mono ?_
    rintro e w1 ⟨rfl, ho1⟩
    have HO1 := Lib.hid ho1
    clear ho1
    go_wp2_with fail
    (try simp only [Exit.inBlock, Exit.then])
    first | refine bodyPost_ret (results_none rfl _ _ _) rfl ?_ | refine bodyPost_end (results_none rfl _ _ _) rfl ?_
    exact ⟨rfl, HO1.out⟩
  | null m =>
    rw [show E0 = (⟨#[]⟩ : ByteArray) from rfl] at ha
    have HTX := Lib.hid (show txt (n + 1) (termF none none E0 E0 true false false) = [110, 117, 108, 108] from rfl)
    rw [HTX.out] at HL ⊢
    obtain ⟨vo, va, hr, ho, hv, hp⟩ := ha.term
    have ev : vo = .pointer none := ho
    have eu : va = .pointer none := hv
    subst ev eu
    have y0 := hr.cell 0
    have y1 := hr.cell 1
    have y2 := hr.cell 2
    have y3 := hr.cell 3
    have y4 := hr.cell 4
    have y5 := hr.cell 5
    have y6 := hr.cell 6
    clear hr ho hv ha
    go_enter Tryd.func14, Tryd.ntmps14
    go_wp2_with fail
    refine (bstr _ B b d l _ H0.out (lb0 rfl HL.out) hB).mono ?_
    rintro e w1 ⟨rfl, ho1⟩
    have HO1 := Lib.hid ho1
    clear ho1
    go_wp2_with fail
    (try simp only [Exit.inBlock, Exit.then])
    first | refine bodyPost_ret (results_none rfl _ _ _) rfl ?_ | refine bodyPost_end (results_none rfl _ _ _) rfl ?_
    exact ⟨rfl, HO1.out⟩
  | tru m =>
    rw [show E0 = (⟨#[]⟩ : ByteArray) from rfl] at ha
    have HTX := Lib.hid (show txt (n + 1) (termF none none E0 E0 false true false) = [116, 114, 117, 101] from rfl)
    rw [HTX.out] at HL ⊢
    obtain ⟨vo, va, hr, ho, hv, hp⟩ := ha.term
    have ev : vo = .pointer none := ho
    have eu : va = .pointer none := hv
    subst ev eu
    have y0 := hr.cell 0
    have y1 := hr.cell 1
    have y2 := hr.cell 2
    have y3 := hr.cell 3
    have y4 := hr.cell 4
    have y5 := hr.cell 5
    have y6 := hr.cell 6
    clear hr ho hv ha
    go_enter Tryd.func14, Tryd.ntmps14
    go_wp2_with fail
    refine (bstr _ B b d l _ H0.out (lb0 rfl HL.out) hB).mono ?_
    rintro e w1 ⟨rfl, ho1⟩
    have HO1 := Lib.hid ho1
    clear ho1
    go_wp2_with fail
    (try simp only [Exit.inBlock, Exit.then])
    first | refine bodyPost_ret (results_none rfl _ _ _) rfl ?_ | refine bodyPost_end (results_none rfl _ _ _) rfl ?_
    exact ⟨rfl, HO1.out⟩
  | fls m =>
    rw [show E0 = (⟨#[]⟩ : ByteArray) from rfl] at ha
    have HTX := Lib.hid (show txt (n + 1) (termF none none E0 E0 false false true) = [102, 97, 108, 115, 101] from rfl)
    rw [HTX.out] at HL ⊢
    obtain ⟨vo, va, hr, ho, hv, hp⟩ := ha.term
    have ev : vo = .pointer none := ho
    have eu : va = .pointer none := hv
    subst ev eu
    have y0 := hr.cell 0
    have y1 := hr.cell 1
    have y2 := hr.cell 2
    have y3 := hr.cell 3
    have y4 := hr.cell 4
    have y5 := hr.cell 5
    have y6 := hr.cell 6
    clear hr ho hv ha
    go_enter Tryd.func14, Tryd.ntmps14
    go_wp2_with fail
    refine (bstr _ B b d l _ H0.out (lb0 rfl HL.out) hB).mono ?_
    rintro e w1 ⟨rfl, ho1⟩
    have HO1 := Lib.hid ho1
    clear ho1
    go_wp2_with fail
    (try simp only [Exit.inBlock, Exit.then])
    first | refine bodyPost_ret (results_none rfl _ _ _) rfl ?_ | refine bodyPost_end (results_none rfl _ _ _) rfl ?_
    exact ⟨rfl, HO1.out⟩
  | str n' s hs =>
    rw [show E0 = (⟨#[]⟩ : ByteArray) from rfl] at ha
    obtain ⟨vo, va, hr, ho, hv, hp⟩ := ha.term
    have ev : vo = .pointer none := ho
    have eu : va = .pointer none := hv
    subst ev eu
    have y0 := hr.cell 0
    have y1 := hr.cell 1
    have y2 := hr.cell 2
    have y3 := hr.cell 3
    have y4 := hr.cell 4
    have y5 := hr.cell 5
    have y6 := hr.cell 6
    clear hr ho hv ha
    go_enter Tryd.func14, Tryd.ntmps14
    go_wp2_with fail
    refine (jsonC _ B b d l s H0.out hB HT.out h3 (by have := HL.out; omega) (by omega)).mono ?_
    rintro e w1 ⟨rfl, ho1⟩
    have HO1 := Lib.hid ho1
    clear ho1
    go_wp2_with fail
    (try simp only [Exit.inBlock, Exit.then])
    first | refine bodyPost_ret (results_none rfl _ _ _) rfl ?_ | refine bodyPost_end (results_none rfl _ _ _) rfl ?_
    exact ⟨rfl, HO1.out⟩
set_option maxRecDepth 100000 in
set_option maxHeartbeats 4000000 in
theorem wriK (n : Nat) (IHT : WC 14 n (WT n)) : WC 21 (n + 1) (WK (n + 1)) := by
  intro w B b d l p t hw ha h0 hB hT h3 hlen
  have H0 := Lib.hid h0
  have HT := Lib.hid hT
  have HL := Lib.hid hlen
  clear h0 hT hlen
  cases hw with
  | key n' m v hwt =>
    obtain ⟨x, hx⟩ : ∃ x, x = nameT m := ⟨_, rfl⟩
    have hx1 := (nameT_ne m).1
    have hx2 := (nameT_ne m).2
    rw [← hx] at ha HL hx1 hx2 ⊢
    rw [show E0 = (⟨#[]⟩ : ByteArray) from rfl] at ha
    have HX := Lib.hid hx2
    clear hx hx2
    have HTX := Lib.hid (show txt (n + 1) (kvF x E0 v) = x.data.toList ++ ([58, 32] ++ txt n v) by rw [txt_kv, if_neg HX.out])
    have HLL : Hid (l.length + (x.data.toList ++ ([58, 32] ++ txt n v)).length ≤ 1099511627776) := Lib.hid (by rw [← HTX.out]; exact HL.out)
    obtain ⟨q, hr, hq, hp⟩ := ha.kv
    have HA := Lib.hid ha
    have HR := Lib.hid hr
    have HQ := Lib.hid hq
    have y0 := hr.cell 0
    have y1 := hr.cell 1
    have y2 := hr.cell 2
    clear ha hr hq
    go_enter Tryd.func21, Tryd.ntmps21
    go_wp2_with fail
    refine (bstr _ B b d l _ H0.out (lb1 rfl HLL.out) hB).mono ?_
    rintro e w1 ⟨rfl, ho1⟩
    obtain ⟨d1, g1, e1, t1⟩ := ho1
    have HB1 := Lib.hid (show BOut w B b d (l ++ x.data.toList) w1 from ⟨d1, g1, e1, t1⟩)
    have HAA := Lib.hid (HA.out.bout H0.out HB1.out)
    have HQ1 := Lib.hid (HQ.out.bout H0.out HB1.out)
    have hs1 := HB1.out.size
    have r1 := HB1.out.row H0.out HR.out (by decide) (by decide)
    have z0 := r1.cell 0
    have z1 := r1.cell 1
    have z2 := r1.cell 2
    clear g1 e1 t1
    go_wp2_with fail
    refine (HB1.out.wstr _ (lb2 rfl HLL.out) (by omega)).mono ?_
    rintro e w2 ⟨rfl, ho2⟩
    have HB2 := Lib.hid ho2
    have hs2 := HB2.out.size
    have HQ2 := Lib.hid (HQ.out.bout H0.out HB2.out)
    have r2 := HB2.out.row H0.out HR.out (by decide) (by decide)
    have u0 := r2.cell 0
    have u1 := r2.cell 1
    have u2 := r2.cell 2
    have HT2 := Lib.hid (tabs_low HT.out (HB2.out.below H0.out h3))
    clear ho2 z0 z1 z2
    go_wp2_with fail
    refine (HB2.out.chain fun d3 h3' => IHT _ B b d3 _ q v hwt HQ2.out h3' (by omega) HT2.out h3 (lb3 HLL.out)).mono ?_
    rintro e w3 ⟨rfl, ho3⟩
    have HO3 := Lib.hid ho3
    clear ho3
    go_wp2_with fail
    (try simp only [Exit.inBlock, Exit.then])
    first | refine bodyPost_ret (results_none rfl _ _ _) rfl ?_ | refine bodyPost_end (results_none rfl _ _ _) rfl ?_
    refine ⟨rfl, ?_⟩
    have := HO3.out
    rw [HTX.out]
    simpa using this
  | str n' s v hs hwt =>
    rw [show E0 = (⟨#[]⟩ : ByteArray) from rfl] at ha
    have HTX := Lib.hid (show txt (n + 1) (kvF E0 s v) = quoted s ++ ([58, 32] ++ txt n v) from rfl)
    have HLL : Hid (l.length + (quoted s ++ ([58, 32] ++ txt n v)).length ≤ 1099511627776) := Lib.hid (by rw [← HTX.out]; exact HL.out)
    obtain ⟨q, hr, hq, hp⟩ := ha.kv
    have HA := Lib.hid ha
    have HR := Lib.hid hr
    have HQ := Lib.hid hq
    have y0 := hr.cell 0
    have y1 := hr.cell 1
    have y2 := hr.cell 2
    clear ha hr hq
    go_enter Tryd.func21, Tryd.ntmps21
    go_wp2_with fail
    refine (jsonC _ B b d l s H0.out hB HT.out h3 (by have := HLL.out; omega) (by omega)).mono ?_
    rintro e w1 ⟨rfl, ho1⟩
    obtain ⟨d1, g1, e1, t1⟩ := ho1
    have HB1 := Lib.hid (show BOut w B b d (l ++ quoted s) w1 from ⟨d1, g1, e1, t1⟩)
    have HAA := Lib.hid (HA.out.bout H0.out HB1.out)
    have HQ1 := Lib.hid (HQ.out.bout H0.out HB1.out)
    have hs1 := HB1.out.size
    have r1 := HB1.out.row H0.out HR.out (by decide) (by decide)
    have z0 := r1.cell 0
    have z1 := r1.cell 1
    have z2 := r1.cell 2
    clear g1 e1 t1
    go_wp2_with fail
    refine (HB1.out.wstr _ (lb2 rfl HLL.out) (by omega)).mono ?_
    rintro e w2 ⟨rfl, ho2⟩
    have HB2 := Lib.hid ho2
    have hs2 := HB2.out.size
    have HQ2 := Lib.hid (HQ.out.bout H0.out HB2.out)
    have r2 := HB2.out.row H0.out HR.out (by decide) (by decide)
    have u0 := r2.cell 0
    have u1 := r2.cell 1
    have u2 := r2.cell 2
    have HT2 := Lib.hid (tabs_low HT.out (HB2.out.below H0.out h3))
    clear ho2 z0 z1 z2
    go_wp2_with fail
    refine (HB2.out.chain fun d3 h3' => IHT _ B b d3 _ q v hwt HQ2.out h3' (by omega) HT2.out h3 (lb3 HLL.out)).mono ?_
    rintro e w3 ⟨rfl, ho3⟩
    have HO3 := Lib.hid ho3
    clear ho3
    go_wp2_with fail
    (try simp only [Exit.inBlock, Exit.then])
    first | refine bodyPost_ret (results_none rfl _ _ _) rfl ?_ | refine bodyPost_end (results_none rfl _ _ _) rfl ?_
    refine ⟨rfl, ?_⟩
    have := HO3.out
    rw [HTX.out]
    simpa using this
end Go.Proofs.YtgbkjdndbjaeoaaDoor
