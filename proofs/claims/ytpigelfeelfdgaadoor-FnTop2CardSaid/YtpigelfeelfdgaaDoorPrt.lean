/-
  String, Term and Index print: String() of a plain string, of a term and of an index that hold it (n001_1001).
-/
import Derived.Test.YtpigelfeelfdgaaDoorJson
namespace Go.Proofs.YtpigelfeelfdgaaDoor
set_option linter.unusedVariables false
open Go.ChangeShapes Go.WideShapes Go.ChangeAt Go.RowKit M
abbrev strRow (s : ByteArray) : Array Value := #[.string s, .slice none 0 0]
@[go_sem] theorem eq_nilq (w : World) : (binOp BinOp.eql 23 (.slice none 0 0) (.slice none 0 0)).run Tryd.prog w = .ok (.bool true) w := by kernel_rfl
set_option maxRecDepth 100000 in
theorem strW (w : World) (B bb g : Nat) (d : Option Nat) (l : List UInt8) (s : ByteArray) (h : Bld w B bb d l) (hr : Row w g 25 (strRow s)) (hB : B ≤ w.heap.size) (hT : Lib.Utf8Tabs 0 1 w) (h2B : 2 ≤ B) (hl : l.length ≤ 1048576) (hs : s.size ≤ 1048576) :
    Calls Tryd.prog 9 #[.pointer (some ⟨g, 0, none⟩), .pointer (some ⟨bb, 0, none⟩)] w fun e w' => e = .returned (.tuple #[]) ∧ BOut w B bb d (l ++ quoted s) w' := by
  have c0 : w.cell? ⟨g, 0, none⟩ = some (.string s) := by rw [hr.cell]; rfl
  have c1 : w.cell? ⟨g, 1, none⟩ = some (.slice none 0 0) := by rw [hr.cell]; rfl
  have H := Lib.hid h
  have HT := Lib.hid hT
  clear h hr hT
  go_enter Tryd.func9, Tryd.ntmps9
  go_wp2_with fail
  refine (jsonC w B bb d l s H.out hB HT.out h2B hl hs).mono ?_
  rintro e w1 ⟨rfl, h1⟩
  have H1 := Lib.hid h1
  clear h1
  go_wp2_with fail
  (try simp only [Exit.inBlock, Exit.then])
  refine bodyPost_ret (results_none rfl _ _ _) rfl ?_
  exact ⟨rfl, H1.out⟩
/-- A builder just laid, written to once, and read. -/
theorem read_out {w w1 w2 w3 : World} {d1 : Option Nat} {l : List UInt8} (hf : Below w.heap.size w w1) (h1 : Bld w1 w.heap.size w.heap.size d1 []) (ho : BOut w1 w.heap.size w.heap.size d1 l w2) : ∃ d2, Bld w2 w.heap.size w.heap.size d2 l ∧ Below w.heap.size w w2 := by
  have hb := hf.trans (ho.below h1 (Nat.le_refl _))
  obtain ⟨d2, hbl, _, _⟩ := ho
  exact ⟨d2, hbl, hb⟩
set_option maxRecDepth 100000 in
theorem strS (w : World) (g : Nat) (s : ByteArray) (hr : Row w g 25 (strRow s)) (hT : Lib.Utf8Tabs 0 1 w) (hs : s.size ≤ 1048576) :
    Calls Tryd.prog 4 #[.pointer (some ⟨g, 0, none⟩)] w fun e w' => e = .returned (.string ⟨(quoted s).toArray⟩) ∧ Below w.heap.size w w' := by
  have h2 := tabs_size hT
  have hf := Bld.fresh w (Nat.le_refl _)
  have HF := Lib.hid hf
  have HR := Lib.hid (hr.alloc (.cells #[.pointer none, .slice none 0 0] tBld))
  have hb0 : Below w.heap.size w (w.alloc (.cells #[.pointer none, .slice none 0 0] tBld)) := (Below.refl _ _).alloc (Nat.le_refl _) _
  have HT := Lib.hid (tabs_low hT (hb0.mono h2))
  have HB0 := Lib.hid hb0
  clear hf hr hT hb0
  go_enter Tryd.func4, Tryd.ntmps4
  go_wp2_with fail
  refine (strW _ w.heap.size w.heap.size g none [] s HF.out HR.out (by simp) HT.out h2 (by simp) hs).mono ?_
  rintro e w1 ⟨rfl, h1⟩
  rw [List.nil_append] at h1
  obtain ⟨d2, hbl, hb1⟩ := read_out (w3 := w) HB0.out HF.out h1
  have HBL := Lib.hid hbl
  have HB1 := Lib.hid hb1
  clear h1 hbl hb1
  go_wp2_with fail
  refine (bstring w1 w.heap.size w.heap.size d2 _ HBL.out).mono ?_
  rintro e w3 ⟨rfl, h4⟩
  have hb3 : Below w.heap.size w w3 := HB1.out.trans (h4.out.below HBL.out (Nat.le_refl _))
  have HB3 := Lib.hid hb3
  clear hb3 h4
  go_wp2_with fail
  go_ret
  exact ⟨rfl, HB3.out⟩
set_option maxRecDepth 100000 in
theorem termW (w : World) (B bb g t : Nat) (d : Option Nat) (l : List UInt8) (s : ByteArray) (cs : Array Value) (h : Bld w B bb d l) (hr : Row w g 25 (strRow s)) (ht : Row w t 44 cs) (e0 : cs[0]? = some (.int .i64 13)) (e8 : cs[8]? = some (.pointer (some ⟨g, 0, none⟩))) (e16 : cs[16]? = some (.slice none 0 0)) (hB : B ≤ w.heap.size) (hT : Lib.Utf8Tabs 0 1 w) (h2B : 2 ≤ B) (hl : l.length ≤ 1048576) (hs : s.size ≤ 1048576) :
    Calls Tryd.prog 12 #[.pointer (some ⟨t, 0, none⟩), .pointer (some ⟨bb, 0, none⟩)] w fun e w' => e = .returned (.tuple #[]) ∧ BOut w B bb d (l ++ quoted s) w' := by
  have c0 : w.cell? ⟨t, 0, none⟩ = some (.int .i64 13) := by rw [ht.cell]; exact e0
  have c8 : w.cell? ⟨t, 8, none⟩ = some (.pointer (some ⟨g, 0, none⟩)) := by rw [ht.cell]; exact e8
  have H := Lib.hid h
  have HR := Lib.hid hr
  have HTR := Lib.hid ht
  have HT := Lib.hid hT
  clear h hr ht hT
  go_enter Tryd.func12, Tryd.ntmps12
  go_wp2_with fail
  refine (strW w B bb g d l s H.out HR.out hB HT.out h2B hl hs).mono ?_
  rintro e w1 ⟨rfl, h1⟩
  have c16 : w1.cell? ⟨t, 16, none⟩ = some (.slice none 0 0) := by rw [(h1.row H.out HTR.out (by decide) (by decide)).cell]; exact e16
  have H1 := Lib.hid h1
  clear h1
  go_wp2_with fail
  go_loopw [174] (fun i wr => i = .int .i64 0 ∧ wr = w1) (fun i _ => (intOf i).toNat)
  case atStart => exact ⟨rfl, rfl⟩
  case round =>
    obtain ⟨rfl, rfl⟩ := hrel
    go_wp2_with fail
    go_end0
    exact ⟨rfl, H1.out⟩
set_option maxRecDepth 100000 in
theorem idxSfx (w : World) (B bb g x : Nat) (d : Option Nat) (l : List UInt8) (s : ByteArray) (cs : Array Value) (h : Bld w B bb d l) (hr : Row w g 25 (strRow s)) (ht : Row w x 46 cs) (e0 : cs[0]? = some (.string ⟨#[]⟩)) (e1 : cs[1]? = some (.pointer (some ⟨g, 0, none⟩))) (hB : B ≤ w.heap.size) (hT : Lib.Utf8Tabs 0 1 w) (h2B : 2 ≤ B) (hl : l.length ≤ 1048576) (hs : s.size ≤ 1048576) :
    Calls Tryd.prog 33 #[.pointer (some ⟨x, 0, none⟩), .pointer (some ⟨bb, 0, none⟩)] w fun e w' => e = .returned (.tuple #[]) ∧ BOut w B bb d (l ++ quoted s) w' := by
  have c0 : w.cell? ⟨x, 0, none⟩ = some (.string ⟨#[]⟩) := by rw [ht.cell]; exact e0
  have c1 : w.cell? ⟨x, 1, none⟩ = some (.pointer (some ⟨g, 0, none⟩)) := by rw [ht.cell]; exact e1
  have H := Lib.hid h
  have HR := Lib.hid hr
  have HT := Lib.hid hT
  clear h hr ht hT
  go_enter Tryd.func33, Tryd.ntmps33
  go_wp2_with fail
  refine (strW w B bb g d l s H.out HR.out hB HT.out h2B hl hs).mono ?_
  rintro e w1 ⟨rfl, h1⟩
  have H1 := Lib.hid h1
  clear h1
  go_wp2_with fail
  go_end0
  exact ⟨rfl, H1.out⟩
set_option maxRecDepth 100000 in
theorem idxW (w : World) (B bb g x : Nat) (d : Option Nat) (s : ByteArray) (cs : Array Value) (h : Bld w B bb d []) (hr : Row w g 25 (strRow s)) (ht : Row w x 46 cs) (e0 : cs[0]? = some (.string ⟨#[]⟩)) (e1 : cs[1]? = some (.pointer (some ⟨g, 0, none⟩))) (hB : B ≤ w.heap.size) (hT : Lib.Utf8Tabs 0 1 w) (h2B : 2 ≤ B) (hs : s.size ≤ 1048576) :
    Calls Tryd.prog 13 #[.pointer (some ⟨x, 0, none⟩), .pointer (some ⟨bb, 0, none⟩)] w fun e w' => e = .returned (.tuple #[]) ∧ BOut w B bb d ([46] ++ quoted s) w' := by
  have H := Lib.hid h
  have HR := Lib.hid hr
  have HTR := Lib.hid ht
  have HT := Lib.hid hT
  clear h hr ht hT
  go_enter Tryd.func13, Tryd.ntmps13
  go_wp2_with fail
  refine (blen w B bb d [] H.out).mono ?_
  rintro e w1 ⟨rfl, hw1⟩
  subst hw1
  go_wp2_with fail
  refine (bbyte w B bb d [] 46 46 rfl H.out (by simp) hB).mono ?_
  rintro e w2 ⟨rfl, h2⟩
  have r1 := h2.row H.out HR.out (by decide) (by decide)
  have r2 := h2.row H.out HTR.out (by decide) (by decide)
  have hb2 := h2.below H.out h2B
  have hz2 := h2.size
  obtain ⟨d2, hbl, hd2, ht2⟩ := h2
  have R1 := Lib.hid r1
  have R2 := Lib.hid r2
  have HBL := Lib.hid hbl
  have HT2 := Lib.hid (tabs_low HT.out hb2)
  have HTT := Lib.hid ht2
  have HD2 := Lib.hid hd2
  clear r1 r2 hbl hd2 ht2 hb2
  go_wp2_with fail
  refine (idxSfx w2 B bb g x d2 _ s cs HBL.out R1.out R2.out e0 e1 (by omega) HT2.out h2B (by simp) hs).mono ?_
  rintro e w3 ⟨rfl, h3⟩
  have H3 := Lib.hid (BOut.then HD2.out HTT.out h3)
  clear h3
  go_wp2_with fail
  go_end0
  exact ⟨rfl, H3.out⟩
set_option maxRecDepth 100000 in
theorem termS (w : World) (g t : Nat) (s : ByteArray) (cs : Array Value) (hr : Row w g 25 (strRow s)) (ht : Row w t 44 cs) (e0 : cs[0]? = some (.int .i64 13)) (e8 : cs[8]? = some (.pointer (some ⟨g, 0, none⟩))) (e16 : cs[16]? = some (.slice none 0 0)) (hT : Lib.Utf8Tabs 0 1 w) (hs : s.size ≤ 1048576) :
    Calls Tryd.prog 6 #[.pointer (some ⟨t, 0, none⟩)] w fun e w' => e = .returned (.string ⟨(quoted s).toArray⟩) ∧ Below w.heap.size w w' := by
  have h2 := tabs_size hT
  have hf := Bld.fresh w (Nat.le_refl _)
  have HF := Lib.hid hf
  have HR := Lib.hid (hr.alloc (.cells #[.pointer none, .slice none 0 0] tBld))
  have HTR := Lib.hid (ht.alloc (.cells #[.pointer none, .slice none 0 0] tBld))
  have hb0 : Below w.heap.size w (w.alloc (.cells #[.pointer none, .slice none 0 0] tBld)) := (Below.refl _ _).alloc (Nat.le_refl _) _
  have HT := Lib.hid (tabs_low hT (hb0.mono h2))
  have HB0 := Lib.hid hb0
  clear hf hr ht hT hb0
  go_enter Tryd.func6, Tryd.ntmps6
  go_wp2_with fail
  refine (termW _ w.heap.size w.heap.size g t none [] s cs HF.out HR.out HTR.out e0 e8 e16 (by simp) HT.out h2 (by simp) hs).mono ?_
  rintro e w1 ⟨rfl, h1⟩
  rw [List.nil_append] at h1
  obtain ⟨d2, hbl, hb1⟩ := read_out (w3 := w) HB0.out HF.out h1
  have HBL := Lib.hid hbl
  have HB1 := Lib.hid hb1
  clear h1 hbl hb1
  go_wp2_with fail
  refine (bstring w1 w.heap.size w.heap.size d2 _ HBL.out).mono ?_
  rintro e w3 ⟨rfl, h4⟩
  have hb3 : Below w.heap.size w w3 := HB1.out.trans (h4.out.below HBL.out (Nat.le_refl _))
  have HB3 := Lib.hid hb3
  clear hb3 h4
  go_wp2_with fail
  go_ret
  exact ⟨rfl, HB3.out⟩
set_option maxRecDepth 100000 in
theorem idxS (w : World) (g x : Nat) (s : ByteArray) (cs : Array Value) (hr : Row w g 25 (strRow s)) (ht : Row w x 46 cs) (e0 : cs[0]? = some (.string ⟨#[]⟩)) (e1 : cs[1]? = some (.pointer (some ⟨g, 0, none⟩))) (hT : Lib.Utf8Tabs 0 1 w) (hs : s.size ≤ 1048576) :
    Calls Tryd.prog 7 #[.pointer (some ⟨x, 0, none⟩)] w fun e w' => e = .returned (.string ⟨([46] ++ quoted s).toArray⟩) ∧ Below w.heap.size w w' := by
  have h2 := tabs_size hT
  have hf := Bld.fresh w (Nat.le_refl _)
  have HF := Lib.hid hf
  have HR := Lib.hid (hr.alloc (.cells #[.pointer none, .slice none 0 0] tBld))
  have HTR := Lib.hid (ht.alloc (.cells #[.pointer none, .slice none 0 0] tBld))
  have hb0 : Below w.heap.size w (w.alloc (.cells #[.pointer none, .slice none 0 0] tBld)) := (Below.refl _ _).alloc (Nat.le_refl _) _
  have HT := Lib.hid (tabs_low hT (hb0.mono h2))
  have HB0 := Lib.hid hb0
  clear hf hr ht hT hb0
  go_enter Tryd.func7, Tryd.ntmps7
  go_wp2_with fail
  refine (idxW _ w.heap.size w.heap.size g x none s cs HF.out HR.out HTR.out e0 e1 (by simp) HT.out h2 hs).mono ?_
  rintro e w1 ⟨rfl, h1⟩
  obtain ⟨d2, hbl, hb1⟩ := read_out (w3 := w) HB0.out HF.out h1
  have HBL := Lib.hid hbl
  have HB1 := Lib.hid hb1
  clear h1 hbl hb1
  go_wp2_with fail
  refine (bstring w1 w.heap.size w.heap.size d2 _ HBL.out).mono ?_
  rintro e w3 ⟨rfl, h4⟩
  have hb3 : Below w.heap.size w w3 := HB1.out.trans (h4.out.below HBL.out (Nat.le_refl _))
  have HB3 := Lib.hid hb3
  clear hb3 h4
  go_wp2_with fail
  go_ret
  exact ⟨rfl, HB3.out⟩
end Go.Proofs.YtpigelfeelfdgaaDoor
