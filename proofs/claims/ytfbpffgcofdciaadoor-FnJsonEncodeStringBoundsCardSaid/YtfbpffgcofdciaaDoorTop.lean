/-
  jsonEncodeString into a builder that already holds p; the law's bound on bytes; the decoder's tables as the card lays them (n001_83).
-/
import Derived.Test.YtfbpffgcofdciaaDoorEncB
import Derived.Test.YtfbpffgcofdciaaDoorArgs
import Derived.Lib.LaidU8
import Derived.MakeChecks
namespace Go.Proofs.YtfbpffgcofdciaaDoor
set_option linter.unusedVariables false
open Go.ChangeShapes Go.WideShapes Go.ChangeAt Go.RowKit M
theorem tabs_of_laid {w : World} (h : laidMetH Tryd.prog Rows.fnJsonEncodeStringAppendsSpecRow.laid w) : Lib.Utf8Tabs 0 1 w := by
  rw [MakeChecks.laidMetH_plain _ _ _ (by kernel_rfl)] at h
  have e : Rows.fnJsonEncodeStringAppendsSpecRow.laid = [("unicode/utf8.acceptRanges", Lib.acceptData), ("unicode/utf8.first", Lib.firstData)] := by kernel_rfl
  have h' : laidMet Tryd.prog [("unicode/utf8.acceptRanges", Lib.acceptData), ("unicode/utf8.first", Lib.firstData)] w := by rw [← e]; exact h
  exact utf8Tabs_of_reads (ρ := lays260_ren) lays260 ⟨by kernel_rfl, by kernel_rfl, by kernel_rfl, by kernel_rfl, by kernel_rfl, by kernel_rfl, by kernel_rfl⟩ (Lib.laidMet.reads h' (.tail _ (.head _))) (Lib.laidMet.reads h' (.head _))
theorem tabs_size {w : World} (h : Lib.Utf8Tabs 0 1 w) : 2 ≤ w.heap.size := by
  have h1 := (h.2 0 (by decide)).1
  rcases Nat.lt_or_ge 1 w.heap.size with h' | h'
  · exact h'
  · simp [World.cell?, Array.getElem?_eq_none h'] at h1
theorem zeroEnc (w : World) : (zeroValue 44).run Tryd.prog w = .ok (.agg #[.nilIface, .int .u8 0, .int .u8 0, .int .u8 0, .int .u8 0, .int .u8 0, .int .u8 0, .int .u8 0, .int .u8 0, .int .u8 0, .int .u8 0, .int .u8 0, .int .u8 0, .int .u8 0, .int .u8 0, .int .u8 0, .int .u8 0, .int .u8 0, .int .u8 0, .int .u8 0, .int .u8 0, .int .u8 0, .int .u8 0, .int .u8 0, .int .u8 0, .int .u8 0, .int .u8 0, .int .u8 0, .int .u8 0, .int .u8 0, .int .u8 0, .int .u8 0, .int .u8 0, .int .u8 0, .int .u8 0, .int .u8 0, .int .u8 0, .int .u8 0, .int .u8 0, .int .u8 0, .int .u8 0, .int .u8 0, .int .u8 0, .int .u8 0, .int .u8 0, .int .u8 0, .int .u8 0, .int .u8 0, .int .u8 0, .int .u8 0, .int .u8 0, .int .u8 0, .int .u8 0, .int .u8 0, .int .u8 0, .int .u8 0, .int .u8 0, .int .u8 0, .int .u8 0, .int .u8 0, .int .u8 0, .int .u8 0, .int .u8 0, .int .u8 0, .int .u8 0]) w := by kernel_rfl
set_option maxRecDepth 100000 in
theorem jsonC (w : World) (B bb : Nat) (d : Option Nat) (l0 : List UInt8) (s : ByteArray) (h : Bld w B bb d l0) (hB : B ≤ w.heap.size) (hT : Lib.Utf8Tabs 0 1 w) (h2B : 2 ≤ B) (hl : l0.length ≤ 1048576) (hs : s.size ≤ 1048576) :
    Calls Tryd.prog 12 #[.pointer (some ⟨bb, 0, none⟩), .string s] w fun e w' => e = .returned (.tuple #[]) ∧ BOut w B bb d (l0 ++ quoted s) w' := by
  have hen : ∀ cs : Array Value, cs[0]? = some (encI bb) → EN w B bb w.heap.size d l0 (w.alloc (.cells cs 44)) := fun cs hcs =>
    ⟨⟨d, h.touch ((Touch.refl (fun _ => False) w).alloc _) (fun h => h) (fun _ _ h => h), .inl rfl, (Touch.refl _ w).alloc _⟩, ⟨cs, Row.made _ _ _, hcs⟩, tabs_low hT ((Below.refl 2 w).alloc (Nat.le_trans h2B hB) _), h2B, by rw [World.size_alloc]; omega⟩
  have H := Lib.hid hen
  clear hen h hT
  have hz := zeroEnc
  go_enter Tryd.func12, Tryd.ntmps12
  go_wp2_with fail
  refine (encC w B bb w.heap.size d l0 s _ (H.out _ rfl) hl hs).mono ?_
  rintro e w1 ⟨rfl, h1⟩
  have H1 := Lib.hid h1
  clear h1
  go_wp2_with fail
  go_end0
  exact ⟨rfl, H1.out.1⟩
set_option maxRecDepth 100000 in
theorem afterC (w : World) (p s : ByteArray) (hT : Lib.Utf8Tabs 0 1 w) (hp : p.size ≤ 1048576) (hs : s.size ≤ 1048576) :
    Calls Tryd.prog 6 #[.string p, .string s] w fun e w' => e = .returned (.string ⟨(p.data.toList ++ quoted s).toArray⟩) ∧ Below w.heap.size w w' := by
  have h2 := tabs_size hT
  have hT1 := Lib.hid hT
  clear hT
  have hf := Bld.fresh w (Nat.le_refl _)
  have HF := Lib.hid hf
  clear hf
  go_enter Tryd.func6, Tryd.ntmps6
  go_wp2_with fail
  refine (bstr _ w.heap.size w.heap.size none [] p HF.out (by simp; omega) (by simp)).mono ?_
  rintro e w1 ⟨rfl, h1⟩
  rw [List.nil_append] at h1
  have hb1 : Below w.heap.size w w1 := Below.trans ((Below.refl w.heap.size w).alloc (Nat.le_refl _) _) (h1.below HF.out (Nat.le_refl _))
  obtain ⟨d1, hbl, hd1, ht1⟩ := h1
  have HB1 := Lib.hid hb1
  have HBL := Lib.hid hbl
  clear hb1 hbl hd1 ht1
  go_wp2_with fail
  refine (jsonC w1 w.heap.size w.heap.size d1 p.data.toList s HBL.out HB1.out.size (tabs_low hT1.out (HB1.out.mono h2)) h2 (by simpa using hp) hs).mono ?_
  rintro e w2 ⟨rfl, h3⟩
  have hb2 : Below w.heap.size w w2 := HB1.out.trans (h3.below HBL.out (Nat.le_refl _))
  obtain ⟨d2, hbl2, hd2, ht2⟩ := h3
  have HB2 := Lib.hid hb2
  have HBL2 := Lib.hid hbl2
  clear hb2 hbl2 hd2 ht2
  go_wp2_with fail
  refine (bstring w2 w.heap.size w.heap.size d2 _ HBL2.out).mono ?_
  rintro e w3 ⟨rfl, h4⟩
  have hb3 : Below w.heap.size w w3 := HB2.out.trans (h4.out.below HBL2.out (Nat.le_refl _))
  have HB3 := Lib.hid hb3
  clear hb3 h4
  go_wp2_with fail
  go_ret
  exact ⟨rfl, HB3.out⟩
/-- The law's bound on the bytes. -/
def okB (p s : ByteArray) : Prop := p.size ≤ 1048576 ∧ s.size ≤ 1048576 ∧ p.size + s.size ≤ 1048576
theorem bytesA (p s : ByteArray) (w : World) : Calls Tryd.prog 5 #[.string p, .string s] w fun e w' => (∃ b : Bool, e = .returned (.bool b) ∧ (b = true → okB p s)) ∧ w' = w := by
  by_cases h1 : p.size ≤ 1048576
  · by_cases h2 : s.size ≤ 1048576
    · by_cases h3 : p.size + s.size ≤ 1048576
      · go_enter Tryd.func5, Tryd.ntmps5
        go_wp2_with fail
        go_ret
        exact ⟨⟨true, rfl, fun _ => ⟨h1, h2, h3⟩⟩, rfl⟩
      · go_enter Tryd.func5, Tryd.ntmps5
        go_wp2_with fail
        go_ret
        exact ⟨⟨false, rfl, fun h => by cases h⟩, rfl⟩
    · go_enter Tryd.func5, Tryd.ntmps5
      go_wp2_with fail
      go_ret
      exact ⟨⟨false, rfl, fun h => by cases h⟩, rfl⟩
  · go_enter Tryd.func5, Tryd.ntmps5
    go_wp2_with fail
    go_ret
    exact ⟨⟨false, rfl, fun h => by cases h⟩, rfl⟩
theorem bytesB (p s : ByteArray) (w : World) : Calls Tryd.prog 9 #[.string p, .string s] w fun e w' => (∃ b : Bool, e = .returned (.bool b) ∧ (b = true → okB p s)) ∧ w' = w := by
  by_cases h1 : p.size ≤ 1048576
  · by_cases h2 : s.size ≤ 1048576
    · by_cases h3 : p.size + s.size ≤ 1048576
      · go_enter Tryd.func9, Tryd.ntmps9
        go_wp2_with fail
        go_ret
        exact ⟨⟨true, rfl, fun _ => ⟨h1, h2, h3⟩⟩, rfl⟩
      · go_enter Tryd.func9, Tryd.ntmps9
        go_wp2_with fail
        go_ret
        exact ⟨⟨false, rfl, fun h => by cases h⟩, rfl⟩
    · go_enter Tryd.func9, Tryd.ntmps9
      go_wp2_with fail
      go_ret
      exact ⟨⟨false, rfl, fun h => by cases h⟩, rfl⟩
  · go_enter Tryd.func9, Tryd.ntmps9
    go_wp2_with fail
    go_ret
    exact ⟨⟨false, rfl, fun h => by cases h⟩, rfl⟩
end Go.Proofs.YtfbpffgcofdciaaDoor
