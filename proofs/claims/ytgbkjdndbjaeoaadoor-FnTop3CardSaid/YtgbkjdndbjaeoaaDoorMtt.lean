/-
  The law's reader of a text (n001_1001): zMatchTerm's leaves. Printed by genMtt.py.
-/
import Derived.Test.YtgbkjdndbjaeoaaDoorWrd
namespace Go.Proofs.YtgbkjdndbjaeoaaDoor
set_option linter.unusedVariables false
set_option linter.unusedSimpArgs false
open Go.ChangeShapes Go.WideShapes Go.ChangeAt Go.RowKit M
def MOut (w : World) (pb : Nat) (S : ByteArray) (L : List UInt8) (e : Ending) (w' : World) : Prop := e = .returned (.bool true) ∧ ZP w' pb S L ∧ Touch (fun k => k = pb) w w'
def stp : List UInt8 := [44, 93, 125, 32]
def MO (n : Nat) : Prop := ∀ (w : World) (pb : Nat) (S : ByteArray) (L : List UInt8) (p : Nat) (t : T), WO n t → At (fun k => k < pb) n w p t → ZP w pb S (txt n t ++ L) → S.size ≤ 1099511627776 → Calls Tryd.prog 7 #[.pointer (some ⟨pb, 0, none⟩), .pointer (some ⟨p, 0, none⟩)] w (MOut w pb S L)
def MT (n : Nat) : Prop := ∀ (w : World) (pb : Nat) (S : ByteArray) (L : List UInt8) (p : Nat) (t : T), WT n t → At (fun k => k < pb) n w p t → ZP w pb S (txt n t ++ L) → S.size ≤ 1099511627776 → (∀ c, L.head? = some c → stp.contains c = true) → Calls Tryd.prog 18 #[.pointer (some ⟨pb, 0, none⟩), .pointer (some ⟨p, 0, none⟩)] w (MOut w pb S L)
theorem ZP.drew {w : World} {pb : Nat} {S : ByteArray} {L : List UInt8} (h : ZP w pb S L) : ZP w.drew pb S L := ⟨h.row, h.suf⟩
theorem numT_free (m : Int) : ∀ c ∈ (numT m).data.toList, stp.contains c = false := by
  unfold numT
  repeat' split
  all_goals decide
theorem nameT_free (m : Int) : ∀ c ∈ (nameT m).data.toList, ([58] : List UInt8).contains c = false := by
  unfold nameT
  repeat' split
  all_goals decide
set_option maxRecDepth 100000 in
set_option maxHeartbeats 4000000 in
theorem mT_null (n : Nat) (w : World) (pb : Nat) (S : ByteArray) (L : List UInt8) (p : Nat) (ha : At (fun k => k < pb) (n + 1) w p (termF none none E0 E0 true false false)) (hz : ZP w pb S (txt (n + 1) (termF none none E0 E0 true false false) ++ L)) (hs : S.size ≤ 1099511627776) (hL : ∀ c, L.head? = some c → stp.contains c = true) : Calls Tryd.prog 18 #[.pointer (some ⟨pb, 0, none⟩), .pointer (some ⟨p, 0, none⟩)] w (MOut w pb S L) := by
  have HZ : Hid (ZP w pb S ((⟨#[110, 117, 108, 108]⟩ : ByteArray).data.toList ++ L)) := Lib.hid hz
  clear hz
  rw [show E0 = (⟨#[]⟩ : ByteArray) from rfl] at ha
  obtain ⟨vo, va, hr, ho, hv, hp⟩ := ha.term
  have ev : vo = .pointer none := ho
  have eu : va = .pointer none := hv
  subst ev eu
  have y0 := hr.cell 0
  have y1 := hr.cell 1
  have y2 := hr.cell 2
  have y3 := hr.cell 3
  have y4 := hr.cell 4
  have y5 := hr.cell 5
  have y6 := hr.cell 6
  clear hr ho hv ha
  go_enter Tryd.func18, Tryd.ntmps18
  go_wp2_with fail
  refine (litC _ pb S _ L HZ.out hs).mono ?_
  rintro e w1 ⟨rfl, hz1, ht1⟩
  have HZ1 := Lib.hid hz1
  have HT1 := Lib.hid ht1
  clear hz1 ht1
  go_wp2_with fail
  go_ret
  exact ⟨rfl, HZ1.out, HT1.out⟩
set_option maxRecDepth 100000 in
set_option maxHeartbeats 4000000 in
theorem mT_tru (n : Nat) (w : World) (pb : Nat) (S : ByteArray) (L : List UInt8) (p : Nat) (ha : At (fun k => k < pb) (n + 1) w p (termF none none E0 E0 false true false)) (hz : ZP w pb S (txt (n + 1) (termF none none E0 E0 false true false) ++ L)) (hs : S.size ≤ 1099511627776) (hL : ∀ c, L.head? = some c → stp.contains c = true) : Calls Tryd.prog 18 #[.pointer (some ⟨pb, 0, none⟩), .pointer (some ⟨p, 0, none⟩)] w (MOut w pb S L) := by
  have HZ : Hid (ZP w pb S ((⟨#[116, 114, 117, 101]⟩ : ByteArray).data.toList ++ L)) := Lib.hid hz
  clear hz
  rw [show E0 = (⟨#[]⟩ : ByteArray) from rfl] at ha
  obtain ⟨vo, va, hr, ho, hv, hp⟩ := ha.term
  have ev : vo = .pointer none := ho
  have eu : va = .pointer none := hv
  subst ev eu
  have y0 := hr.cell 0
  have y1 := hr.cell 1
  have y2 := hr.cell 2
  have y3 := hr.cell 3
  have y4 := hr.cell 4
  have y5 := hr.cell 5
  have y6 := hr.cell 6
  clear hr ho hv ha
  go_enter Tryd.func18, Tryd.ntmps18
  go_wp2_with fail
  refine (litC _ pb S _ L HZ.out hs).mono ?_
  rintro e w1 ⟨rfl, hz1, ht1⟩
  have HZ1 := Lib.hid hz1
  have HT1 := Lib.hid ht1
  clear hz1 ht1
  go_wp2_with fail
  go_ret
  exact ⟨rfl, HZ1.out, HT1.out⟩
set_option maxRecDepth 100000 in
set_option maxHeartbeats 4000000 in
theorem mT_fls (n : Nat) (w : World) (pb : Nat) (S : ByteArray) (L : List UInt8) (p : Nat) (ha : At (fun k => k < pb) (n + 1) w p (termF none none E0 E0 false false true)) (hz : ZP w pb S (txt (n + 1) (termF none none E0 E0 false false true) ++ L)) (hs : S.size ≤ 1099511627776) (hL : ∀ c, L.head? = some c → stp.contains c = true) : Calls Tryd.prog 18 #[.pointer (some ⟨pb, 0, none⟩), .pointer (some ⟨p, 0, none⟩)] w (MOut w pb S L) := by
  have HZ : Hid (ZP w pb S ((⟨#[102, 97, 108, 115, 101]⟩ : ByteArray).data.toList ++ L)) := Lib.hid hz
  clear hz
  rw [show E0 = (⟨#[]⟩ : ByteArray) from rfl] at ha
  obtain ⟨vo, va, hr, ho, hv, hp⟩ := ha.term
  have ev : vo = .pointer none := ho
  have eu : va = .pointer none := hv
  subst ev eu
  have y0 := hr.cell 0
  have y1 := hr.cell 1
  have y2 := hr.cell 2
  have y3 := hr.cell 3
  have y4 := hr.cell 4
  have y5 := hr.cell 5
  have y6 := hr.cell 6
  clear hr ho hv ha
  go_enter Tryd.func18, Tryd.ntmps18
  go_wp2_with fail
  refine (litC _ pb S _ L HZ.out hs).mono ?_
  rintro e w1 ⟨rfl, hz1, ht1⟩
  have HZ1 := Lib.hid hz1
  have HT1 := Lib.hid ht1
  clear hz1 ht1
  go_wp2_with fail
  go_ret
  exact ⟨rfl, HZ1.out, HT1.out⟩
set_option maxRecDepth 100000 in
set_option maxHeartbeats 4000000 in
theorem mT_str (n : Nat) (s : ByteArray) (hss : s.size ≤ 255) (w : World) (pb : Nat) (S : ByteArray) (L : List UInt8) (p : Nat) (ha : At (fun k => k < pb) (n + 1) w p (termF none none E0 s false false false)) (hz : ZP w pb S (txt (n + 1) (termF none none E0 s false false false) ++ L)) (hs : S.size ≤ 1099511627776) (hL : ∀ c, L.head? = some c → stp.contains c = true) : Calls Tryd.prog 18 #[.pointer (some ⟨pb, 0, none⟩), .pointer (some ⟨p, 0, none⟩)] w (MOut w pb S L) := by
  have HZ : Hid (ZP w pb S (quoted s ++ L)) := Lib.hid hz
  clear hz
  rw [show E0 = (⟨#[]⟩ : ByteArray) from rfl] at ha
  obtain ⟨vo, va, hr, ho, hv, hp⟩ := ha.term
  have ev : vo = .pointer none := ho
  have eu : va = .pointer none := hv
  subst ev eu
  have y0 := hr.cell 0
  have y1 := hr.cell 1
  have y2 := hr.cell 2
  have y3 := hr.cell 3
  have y4 := hr.cell 4
  have y5 := hr.cell 5
  have y6 := hr.cell 6
  clear hr ho hv ha
  go_enter Tryd.func18, Tryd.ntmps18
  go_wp2_with fail
  refine (mtsC _ pb S s L HZ.out hs (by omega)).mono ?_
  rintro e w1 ⟨rfl, hz1, ht1⟩
  have HZ1 := Lib.hid hz1
  have HT1 := Lib.hid ht1
  clear hz1 ht1
  go_wp2_with fail
  go_ret
  exact ⟨rfl, HZ1.out, HT1.out⟩
set_option maxRecDepth 100000 in
set_option maxHeartbeats 4000000 in
theorem mT_obj (n : Nat) (o : T) (IH : MO n) (hw : WO n o) (w : World) (pb : Nat) (S : ByteArray) (L : List UInt8) (p : Nat) (ha : At (fun k => k < pb) (n + 1) w p (termF (some o) none E0 E0 false false false)) (hz : ZP w pb S (txt (n + 1) (termF (some o) none E0 E0 false false false) ++ L)) (hs : S.size ≤ 1099511627776) (hL : ∀ c, L.head? = some c → stp.contains c = true) : Calls Tryd.prog 18 #[.pointer (some ⟨pb, 0, none⟩), .pointer (some ⟨p, 0, none⟩)] w (MOut w pb S L) := by
  have HZ : Hid (ZP w pb S (txt n o ++ L)) := Lib.hid hz
  clear hz
  rw [show E0 = (⟨#[]⟩ : ByteArray) from rfl] at ha
  obtain ⟨vo, va, hr, ho, hv, hp⟩ := ha.term
  obtain ⟨q, ev, hq⟩ := ho
  subst ev
  have y0 := hr.cell 0
  have y1 := hr.cell 1
  have y2 := hr.cell 2
  have y3 := hr.cell 3
  have y4 := hr.cell 4
  have y5 := hr.cell 5
  have y6 := hr.cell 6
  have HQ := Lib.hid hq
  clear hr hq hv ha
  go_enter Tryd.func18, Tryd.ntmps18
  go_wp2_with fail
  refine (IH _ pb S L q o hw HQ.out HZ.out hs).mono ?_
  rintro e w1 ⟨rfl, hz1, ht1⟩
  have HZ1 := Lib.hid hz1
  have HT1 := Lib.hid ht1
  clear hz1 ht1
  go_wp2_with fail
  go_ret
  exact ⟨rfl, HZ1.out, HT1.out⟩
set_option maxRecDepth 100000 in
set_option maxHeartbeats 4000000 in
theorem mT_num (n : Nat) (m : Int) (w : World) (pb : Nat) (S : ByteArray) (L : List UInt8) (p : Nat) (ha : At (fun k => k < pb) (n + 1) w p (termF none none (numT m) E0 false false false)) (hz : ZP w pb S (txt (n + 1) (termF none none (numT m) E0 false false false) ++ L)) (hs : S.size ≤ 1099511627776) (hL : ∀ c, L.head? = some c → stp.contains c = true) : Calls Tryd.prog 18 #[.pointer (some ⟨pb, 0, none⟩), .pointer (some ⟨p, 0, none⟩)] w (MOut w pb S L) := by
  have HZ : Hid (ZP w pb S ((numT m).data.toList ++ L)) := Lib.hid (by rw [txt_l, if_pos (numT_ne m).2] at hz; exact hz)
  clear hz
  have hfr := numT_free m
  have hx1 := (numT_ne m).1
  obtain ⟨x, hx⟩ : ∃ x, x = numT m := ⟨_, rfl⟩
  rw [← hx] at ha HZ hfr hx1
  clear hx
  rw [show E0 = (⟨#[]⟩ : ByteArray) from rfl] at ha
  obtain ⟨vo, va, hr, ho, hv, hp⟩ := ha.term
  have ev : vo = .pointer none := ho
  have eu : va = .pointer none := hv
  subst ev eu
  have y0 := hr.cell 0
  have y1 := hr.cell 1
  have y2 := hr.cell 2
  have y3 := hr.cell 3
  have y4 := hr.cell 4
  have y5 := hr.cell 5
  have y6 := hr.cell 6
  have y2d := (show Row w.drew p 32 _ from hr).cell 2
  have HR := Lib.hid hr
  have HFR := Lib.hid hfr
  have HL := Lib.hid hL
  have hpl := hr.lt
  clear hr ho hv ha hfr hL
  go_enter Tryd.func18, Tryd.ntmps18
  go_upto_region 16 with fail
  go_region_with (go_at_call 16; refine (wordC _ pb S x ⟨#[44, 93, 125, 32]⟩ L HZ.out.drew hs HFR.out HL.out).mono ?_; rintro e w1 ⟨rfl, hz1, ht1⟩; have r1 := HR.out.touch (((Touch.refl (fun k => k = pb) w).drew).trans ht1) (by omega); have z2 := r1.cell 2; have HZ1 := Lib.hid hz1; have HT1 := Lib.hid (((Touch.refl (fun k => k = pb) w).drew).trans ht1); clear hz1 ht1 r1)
  all_goals (
    go_wp2_with fail
    go_ret
    exact ⟨rfl, HZ1.out, HT1.out⟩)
end Go.Proofs.YtgbkjdndbjaeoaaDoor
