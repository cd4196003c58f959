/-
  The walks of the laws FnSuffixStringTable and FnSuffixWriteToAfterPrefix (n001_84): they return true for every input.
-/
import Derived.Test.YtebcjlgeppebgaaDoorSufB
import Derived.Deep.RegionWith
namespace Go.Proofs.YtebcjlgeppebgaaDoor
set_option linter.unusedVariables false
open Go.ChangeShapes Go.WideShapes Go.ChangeAt Go.RowKit Go.Deep M
def IsSufA (c : Array Value) (z : Suf) : Prop := c = sufVals z ∧ z.name.size ≤ maxLen ∧ z.start.size ≤ maxLen ∧ z.stop.size ≤ maxLen
def IsSufL (cs : List Value) (z : Suf) : Prop := cs = (sufVals z).toList ∧ z.name.size ≤ maxLen ∧ z.start.size ≤ maxLen ∧ z.stop.size ≤ maxLen
section
variable {H : Type} {enc : TypeId × Value → H} {w : World} {base : Nat} {spare : Nat → Bool} {held : Bool}
theorem read_sufL (n : Nat) (cs : List Value) (y : DataW H × List MemPlace) (h : DataW.trod enc Tryd.prog w base spare held n 23 cs = some y) : ∃ z : Suf, IsSufL cs z := by
  obtain ⟨hl, hf⟩ := read_fields Tryd.underlying23 (by kernel_rfl) (by kernel_rfl) n cs y h
  obtain ⟨v0, m0, z0, e0, r0⟩ := hf 0 _ rfl
  obtain ⟨v1, m1, z1, e1, r1⟩ := hf 1 _ rfl
  obtain ⟨v2, m2, z2, e2, r2⟩ := hf 2 _ rfl
  obtain ⟨v3, m3, z3, e3, r3⟩ := hf 3 _ rfl
  obtain ⟨v4, m4, z4, e4, r4⟩ := hf 4 _ rfl
  obtain ⟨v5, m5, z5, e5, r5⟩ := hf 5 _ rfl
  obtain ⟨v6, m6, z6, e6, r6⟩ := hf 6 _ rfl
  obtain ⟨v7, m7, z7, e7, r7⟩ := hf 7 _ rfl
  obtain ⟨v8, m8, z8, e8, r8⟩ := hf 8 _ rfl
  obtain ⟨b0, h0, _⟩ := DataW.trod_bool Tryd.underlying4 r0
  obtain ⟨s1, h1, _, k1⟩ := DataW.trod_string Tryd.underlying9 r1
  obtain ⟨b2, h2, _⟩ := DataW.trod_bool Tryd.underlying4 r2
  obtain ⟨b3, h3, _⟩ := DataW.trod_bool Tryd.underlying4 r3
  obtain ⟨s4, h4, _, k4⟩ := DataW.trod_string Tryd.underlying9 r4
  obtain ⟨b5, h5, _⟩ := DataW.trod_bool Tryd.underlying4 r5
  obtain ⟨s6, h6, _, k6⟩ := DataW.trod_string Tryd.underlying9 r6
  obtain ⟨b7, h7, _⟩ := DataW.trod_bool Tryd.underlying4 r7
  obtain ⟨b8, h8, _⟩ := DataW.trod_bool Tryd.underlying4 r8
  simp only [List.cons.injEq, and_true] at h0 h1 h2 h3 h4 h5 h6 h7 h8
  subst h0 h1 h2 h3 h4 h5 h6 h7 h8
  refine ⟨⟨b0, s1, b2, b3, s4, b5, s6, b7, b8⟩, ?_, k1, k4, k6⟩
  match cs, hl, e0, e1, e2, e3, e4, e5, e6, e7, e8 with
  | [c0, c1, c2, c3, c4, c5, c6, c7, c8], _, e0, e1, e2, e3, e4, e5, e6, e7, e8 =>
    simp at e0 e1 e2 e3 e4 e5 e6 e7 e8
    rw [e0, e1, e2, e3, e4, e5, e6, e7, e8]
theorem read_sufA {n : Nat} {c : Array Value} {y : DataW H × List MemPlace} (h : DataW.trod enc Tryd.prog w base spare held n 23 (Value.agg c).cells.toList = some y) : ∃ z : Suf, IsSufA c z := by
  obtain ⟨z, hz, h1⟩ := read_sufL n _ y h
  refine ⟨z, ?_, h1⟩
  have : c.toList = (sufVals z).toList := hz
  exact Array.toList_inj.1 this
end
/-- The nine cells of a suffix in its box. -/
theorem box_cells {w : World} {g : Nat} {x : Suf} (hr : Row w g 23 (sufVals x)) :
    w.cell? ⟨g, 0, none⟩ = some (.bool x.hasIndex) ∧ w.cell? ⟨g, 1, none⟩ = some (.string x.name) ∧ w.cell? ⟨g, 2, none⟩ = some (.bool x.isSlice) ∧ w.cell? ⟨g, 3, none⟩ = some (.bool x.hasStart) ∧ w.cell? ⟨g, 4, none⟩ = some (.string x.start) ∧
    w.cell? ⟨g, 5, none⟩ = some (.bool x.hasEnd) ∧ w.cell? ⟨g, 6, none⟩ = some (.string x.stop) ∧ w.cell? ⟨g, 7, none⟩ = some (.bool x.iter) ∧ w.cell? ⟨g, 8, none⟩ = some (.bool x.opt) := by
  refine ⟨?_, ?_, ?_, ?_, ?_, ?_, ?_, ?_, ?_⟩ <;> rw [hr.cell] <;> rfl
set_option maxRecDepth 100000 in
set_option maxHeartbeats 2000000 in
theorem fnSuffixStringTable.walk (c0 : Array Value) (z0 : Suf) (w : World) (w0 : IsSufA c0 z0) :
    Calls Tryd.prog 3 #[.agg c0] w fun e w' => e = .returned (.bool true) ∧ Below w.heap.size w w' := by
  obtain ⟨rfl, hs1, hs2, hs3⟩ := w0
  go_enter Tryd.func3, Tryd.ntmps3
  go_wp2_with fail
  refine (zz10 z0 _ ⟨hs1, hs2, hs3⟩).mono ?_
  rintro e w1 ⟨b, rfl, hbp, hb⟩
  have hr := (Row.made w 23 (sufVals z0)).keep hb (Row.made w 23 (sufVals z0)).lt
  have hbb := ((Below.refl w.heap.size w).alloc (Nat.le_refl _) (.cells (sufVals z0) 23)).trans (hb.mono (by simp))
  obtain ⟨q0, q1, q2, q3, q4, q5, q6, q7, q8⟩ := box_cells hr
  have HR := Lib.hid hr
  have HB := Lib.hid hbb
  have hz1 := hbb.size
  clear hr hb hbb
  cases b
  · clear hbp
    go_wp2_with fail
    go_ret
    exact ⟨rfl, HB.out⟩
  have hsz := hbp rfl
  clear hbp
  go_wp2_with fail
  refine (sufBytesC z0 _ hsz).mono ?_
  rintro e w2 ⟨rfl, hb⟩
  have hr := HR.out.keep hb HR.out.lt
  have hbb := HB.out.trans (hb.mono hz1)
  clear q0 q1 q2 q3 q4 q5 q6 q7 q8
  obtain ⟨q0, q1, q2, q3, q4, q5, q6, q7, q8⟩ := box_cells hr
  have HR2 := Lib.hid hr
  have HB2 := Lib.hid hbb
  have hz2 := hbb.size
  clear hr hb hbb HR HB
  by_cases hs : 64 + z0.size ≤ 1048576
  · go_wp2_with fail
    refine (sufRefusedC z0 _).mono ?_
    rintro e w3 ⟨rfl, hb⟩
    have hr := HR2.out.keep hb HR2.out.lt
    have hbb := HB2.out.trans (hb.mono hz2)
    clear q0 q1 q2 q3 q4 q5 q6 q7 q8
    obtain ⟨q0, q1, q2, q3, q4, q5, q6, q7, q8⟩ := box_cells hr
    have HR3 := Lib.hid hr
    have HB3 := Lib.hid hbb
    have hz3 := hbb.size
    clear hr hb hbb HR2 HB2
    cases hrf : z0.refused
    · have HRF := Lib.hid hrf
      clear hrf
      go_wp2_with fail
      have hB : Below w3.heap.size w3 w3.drew := Below.drew (Below.refl _ w3)
      have HX : Hid (Row w3.drew w.heap.size 23 (sufVals z0)) := Lib.hid HR3.out
      go_region_with (first
        | (go_at_call 13; refine (buildSuf z0 _).mono ?_; rintro e w8 ⟨n, rfl, hq, hb⟩; have hB := hB.trans (hb.mono hB.size); have HX := Lib.hid (HX.out.keep hb HX.out.lt); obtain ⟨q0, q1, q2, q3, q4, q5, q6, q7, q8⟩ := box_cells HX.out; have HQ := Lib.hid hq; clear hq hb)
        | (go_at_call 14; refine (sufStr _ _ z0 HQ.out HRF.out hsz).mono ?_; rintro e w9 ⟨rfl, hb⟩; have hB := hB.trans (hb.mono hB.size); have HX := Lib.hid (HX.out.keep hb HX.out.lt); obtain ⟨q0, q1, q2, q3, q4, q5, q6, q7, q8⟩ := box_cells HX.out; clear hb)
        | (go_at_call 15; refine (sufModelC z0 _ hsz).mono ?_; rintro e w10 ⟨rfl, hb⟩; have hB := hB.trans (hb.mono hB.size); have HX := Lib.hid (HX.out.keep hb HX.out.lt); obtain ⟨q0, q1, q2, q3, q4, q5, q6, q7, q8⟩ := box_cells HX.out; (try (have HQ := Lib.hid (HQ.out.keep (KeepN.below hb)))); clear hb))
      all_goals go_wp2_with fail
      all_goals go_ret
      all_goals exact ⟨rfl, HB3.out.trans (hB.mono hz3)⟩
    · go_wp2_with fail
      go_ret
      exact ⟨rfl, HB3.out⟩
  · go_wp2_with fail
    go_ret
    exact ⟨rfl, HB2.out⟩
end Go.Proofs.YtebcjlgeppebgaaDoor
