/-
  Slices of slices of items (n001_84): the byte count and the copy.
-/
import Derived.Test.YtebcjlgeppebgaaDoorWalkB
namespace Go.Proofs.YtebcjlgeppebgaaDoor
set_option linter.unusedVariables false
open Go.ChangeShapes Go.WideShapes Go.ChangeAt Go.RowKit M
def IsGrp (w : World) (cs : List Value) (l : List Item) : Prop := ∃ a len c, cs = [.slice a len c] ∧ SliceOf 2 IsItem w a len l
theorem SliceOf.grpKeep {w w' : World} {a : Option Addr} {len : Nat} {gs : List (List Item)} (h : SliceOf 1 (IsGrp w) w a len gs) (hb : Below w.heap.size w w') : SliceOf 1 (IsGrp w') w' a len gs := by
  refine ⟨h.1, h.2.1, fun hl => ?_⟩
  obtain ⟨b, o, ha, hlt, hc⟩ := h.2.2 hl
  refine ⟨b, o, ha, Nat.lt_of_lt_of_le hlt hb.size, fun i x hx => ?_⟩
  obtain ⟨cs, h1, h2, a2, l2, c2, h3, h4⟩ := hc i x hx
  exact ⟨cs, h1, fun j v hv => (hb.cell (p := ⟨b, o + (i * 1 + j), none⟩) hlt).trans (h2 j v hv), a2, l2, c2, h3, h4.keep hb⟩
theorem SliceOf.grp {w : World} {a : Option Addr} {len : Nat} {gs : List (List Item)} (h : SliceOf 1 (IsGrp w) w a len gs) {k : Nat} (hk : k < len) :
    ∃ b o l a2 c2, a = some ⟨b, o, none⟩ ∧ b < w.heap.size ∧ gs[k]? = some l ∧ SliceOf 2 IsItem w a2 l.length l ∧ w.cell? ⟨b, o + k, none⟩ = some (.slice a2 l.length c2) := by
  obtain ⟨b, o, l, cs, ha, hb, hx, h1, h2, a2, l2, c2, rfl, h4⟩ := h.get hk
  have e0 := h2 0 _ rfl
  rw [Nat.mul_one, Nat.add_zero] at e0
  obtain rfl := h4.1
  exact ⟨b, o, l, a2, c2, ha, hb, hx, h4, e0⟩
set_option maxHeartbeats 2000000 in
theorem zz34 (a : Option Addr) (len cap : Nat) (gs : List (List Item)) (pipe : Bool) (w : World) (h : SliceOf 1 (IsGrp w) w a len gs) :
    Calls Tryd.prog 34 #[.slice a len cap, .bool pipe] w (BoolIf (∀ l ∈ gs, szSum l ≤ 1048576) w) := by
  have H := Lib.hid h
  have HL := Lib.hid h.lt.1
  have hl := h.lt.2
  unfold maxLen at hl
  clear h
  by_cases hl2 : len ≤ 1048576
  · go_enter Tryd.func34, Tryd.ntmps34
    go_wp2_with fail
    go_loop [5, 6] (fun t i => ∃ (n k : Nat), k ≤ len ∧ n ≤ 1048576 ∧ (∀ l ∈ gs.take k, szSum l ≤ 1048576) ∧ t = .int .i64 n ∧ i = .int .i64 k) (fun _ i => len - (intOf i).toNat)
    case atStart => exact ⟨len, 0, Nat.zero_le _, by omega, by simp, rfl, rfl⟩
    case round =>
      obtain ⟨n, k, hk, hn1, hs, rfl, rfl⟩ := hrel
      have HS := Lib.hid hs
      clear hs
      by_cases hlt : k < len
      · obtain ⟨b, o, l, a2, c2, rfl, hbl, hxs, hi, c0⟩ := H.out.grp hlt
        have HI := Lib.hid hi
        have hm := hi.lt.2
        unfold maxLen at hm
        have HTK := Lib.hid (show gs.take (k + 1) = gs.take k ++ [l] by
          obtain ⟨h1, h2⟩ := List.getElem?_eq_some_iff.1 hxs
          rw [List.take_succ_eq_append_getElem h1, h2])
        clear hxs hi
        obtain ⟨ln, hln⟩ : ∃ ln, ln = l.length := ⟨_, rfl⟩
        rw [← hln] at c0 hm
        have HLN := Lib.hid hln
        clear hln
        by_cases hl3 : ln ≤ 1048576
        · by_cases hl4 : n + ln ≤ 1048576
          · go_wp2_with fail
            go_loop [5, 7] (fun t j => ∃ (m j0 : Nat), j0 ≤ ln ∧ m ≤ 1048576 ∧ szSum (l.take j0) ≤ m ∧ t = .int .i64 m ∧ j = .int .i64 j0) (fun _ j => ln - (intOf j).toNat)
            case atStart => exact ⟨n + ln, 0, Nat.zero_le _, hl4, by simp [szSum], by go_num, rfl⟩
            case round =>
              obtain ⟨m, j, hj, hm1, hsj, rfl, rfl⟩ := hrel
              by_cases hlj : j < ln
              · obtain ⟨b2, o2, x, rfl, hbl2, hxs, hsz, d0, d1⟩ := HI.out.item (k := j) (by rw [← HLN.out]; exact hlj)
                have hg := szSum_get hxs
                have HG := Lib.hid hg
                unfold maxLen at hsz
                clear hxs hg
                by_cases hs1 : x.2.size ≤ 1048576
                · by_cases hs2 : m + x.2.size ≤ 1048576
                  · have HSJ := Lib.hid hsj
                    clear hsj
                    go_wp2_with fail
                    exact ⟨⟨m + x.2.size, j + 1, by omega, hs2, by rw [HG.out]; have := HSJ.out; omega, by go_num, by go_num⟩, by simp [intOf]; omega⟩
                  · clear hsj
                    go_wp2_with fail
                    go_ret
                    exact ⟨_, rfl, (fun h => by cases h), rfl⟩
                · clear hsj
                  go_wp2_with fail
                  go_ret
                  exact ⟨_, rfl, (fun h => by cases h), rfl⟩
              · obtain rfl : j = ln := by omega
                have hall : ∀ y ∈ gs.take (k + 1), szSum y ≤ 1048576 := by
                  rw [HTK.out]
                  intro y hy
                  rcases List.mem_append.1 hy with hy | hy
                  · exact HS.out y hy
                  · rw [List.mem_singleton.1 hy]
                    have := hsj
                    rw [szSum_all HLN.out.symm] at this
                    omega
                have HALL := Lib.hid hall
                clear hall hsj
                go_wp2_with fail
                exact ⟨⟨m, k + 1, by omega, hm1, HALL.out, rfl, by go_num⟩, by simp [intOf]; omega⟩
          · go_wp2_with fail
            go_ret
            exact ⟨_, rfl, (fun h => by cases h), rfl⟩
        · go_wp2_with fail
          go_ret
          exact ⟨_, rfl, (fun h => by cases h), rfl⟩
      · obtain rfl : k = len := by omega
        go_wp2_with fail
        go_ret
        refine ⟨_, rfl, fun _ => ?_, rfl⟩
        have := HS.out
        rwa [List.take_of_length_le (by rw [HL.out]; omega)] at this
  · go_enter Tryd.func34, Tryd.ntmps34
    go_wp2_with fail
    go_ret
    exact ⟨_, rfl, (fun h => by cases h), rfl⟩
theorem info30 : (Tryd.prog.info? 30).map (fun i => (i.zero, i.size, i.bytes)) = some (some (.slice none 0 0), 1, 24) := by kernel_rfl
def AllSl (cs : Array Value) : Prop := ∀ (i : Nat) (v : Value), cs[i]? = some v → ∃ (a : Option Addr) (n c : Nat), v = .slice a n c
theorem AllSl.put {cs : Array Value} (h : AllSl cs) (i : Nat) (a : Option Addr) (n c : Nat) : AllSl (cs.setIfInBounds i (.slice a n c)) := by
  intro j v hv
  rw [Array.getElem?_setIfInBounds] at hv
  split at hv
  · split at hv
    · injection hv with hv
      exact ⟨a, n, c, hv.symm⟩
    · cases hv
  · exact h j v hv
theorem AllSl.made (n : Nat) : AllSl (madeCells #[.slice none 0 0] n) := by
  intro i v hv
  unfold madeCells at hv
  simp only [Array.getElem?_map] at hv
  have hi : (Array.range n)[i]?.isSome = true := by
    cases h : (Array.range n)[i]? with
    | none => rw [h] at hv; cases hv
    | some x => rfl
  obtain ⟨x, hx⟩ := Option.isSome_iff_exists.1 hi
  rw [hx] at hv
  simp at hv
  refine ⟨none, 0, 0, ?_⟩
  rw [← hv]
  have : x % 1 = 0 := Nat.mod_one x
  simp [this]
/-- A slice of items is kept where a cell of a row of slices turns. -/
theorem items_set {w : World} {g i : Nat} {cs : Array Value} {a : Option Addr} {len : Nat} {l : List Item} (h : SliceOf 2 IsItem w a len l) (hr : Row w g 30 cs) (hs : AllSl cs) (u : Value) : SliceOf 2 IsItem (w.setCell ⟨g, i, none⟩ u) a len l := by
  refine ⟨h.1, h.2.1, fun hl => ?_⟩
  obtain ⟨b, o, x, ha, hlt, hx, _, c0, _⟩ := h.item hl
  obtain ⟨b', o', ha', hlt', hc⟩ := h.2.2 hl
  rw [ha] at ha'
  injection ha' with ha'
  injection ha' with e1 e2
  subst e1 e2
  have hbg : b ≠ g := by
    rintro rfl
    rw [hr.cell] at c0
    obtain ⟨_, _, _, hv⟩ := hs _ _ c0
    cases hv
  refine ⟨b, o, ha, by simpa [World.setCell] using hlt, fun i x hx => ?_⟩
  obtain ⟨cs', h1, h2, h3⟩ := hc i x hx
  refine ⟨cs', h1, fun j v hv => ?_, h3⟩
  rw [World.cell?_of_block (Below.heap_setCell w ⟨g, _, none⟩ u b hbg)]
  exact h2 j v hv
def GrpAt (w : World) (cs : Array Value) (gs : List (List Item)) (n : Nat) : Prop := ∀ i l, i < n → gs[i]? = some l → ∃ a c, cs[i]? = some (.slice a l.length c) ∧ SliceOf 2 IsItem w a l.length l
set_option maxHeartbeats 2000000 in
theorem cloneGroups (a : Option Addr) (len cap : Nat) (gs : List (List Item)) (w : World) (h : SliceOf 1 (IsGrp w) w a len gs) (hl : len ≤ 4096) (hi : ∀ l ∈ gs, l.length ≤ 4096) :
    Calls Tryd.prog 35 #[.slice a len cap] w fun e w' => ∃ A c, e = .returned (.slice A len c) ∧ SliceOf 1 (IsGrp w') w' A len gs ∧ Below w.heap.size w w' := by
  have hnil := fun W => Lib.run_eql_slice_nil (P := Tryd.prog) W 81 30 a len cap 0 0 Tryd.underlying81
  have hmk := fun W => run_make_row' (P := Tryd.prog) 81 30 (.slice none 0 0) 24 Tryd.underlying81 info30 rfl .i64 .i64 len (by omega) (by omega) W
  have H := Lib.hid h
  have HLZ := Lib.hid h.lt.1
  have HIL := Lib.hid hi
  have hml := h.lt.2
  unfold maxLen at hml
  clear h hi
  rcases a with _ | x
  · obtain rfl : len = 0 := by
      rcases Nat.eq_zero_or_pos len with h0 | h0
      · exact h0
      · obtain ⟨b, o, l, a2, c2, hx, _⟩ := H.out.grp h0
        cases hx
    have hz : gs = [] := List.eq_nil_of_length_eq_zero HLZ.out
    clear hmk
    subst hz
    go_enter Tryd.func35, Tryd.ntmps35
    go_wp2_with fail
    go_ret
    exact ⟨none, 0, rfl, ⟨rfl, Nat.zero_le _, fun h => absurd h (by omega)⟩, Below.refl _ _⟩
  · go_enter Tryd.func35, Tryd.ntmps35
    go_wp2_with fail
    go_loopw [4] (fun i wr => ∃ (j : Nat) (cs : Array Value), j ≤ len ∧ i = .int .i64 j ∧ Row wr w.heap.size 30 cs ∧ cs.size = len ∧ AllSl cs ∧ GrpAt wr cs gs j ∧ Below w.heap.size w wr) (fun i _ => len - (intOf i).toNat)
    case atStart => exact ⟨0, _, Nat.zero_le _, rfl, Row.made _ _ _, size_madeCells _ _, AllSl.made _, fun i l hi => absurd hi (by omega), (Below.refl _ _).alloc (Nat.le_refl _) _⟩
    case round =>
      obtain ⟨j, cs, hj, rfl, hr, hz, hA, hG, hb⟩ := hrel
      have HR := Lib.hid hr
      have HZ := Lib.hid hz
      have HA := Lib.hid hA
      have HG := Lib.hid hG
      have HB := Lib.hid hb
      have hwz := hb.size
      by_cases hlt : j < len
      · obtain ⟨b, o, l, a2, c2, hx, hbl, hxs, hit, hcell⟩ := (H.out.grpKeep HB.out).grp hlt
        injection hx with hx
        subst hx
        have HIT := Lib.hid hit
        have HXS := Lib.hid hxs
        have hll : l.length ≤ 4096 := HIL.out l (List.mem_of_getElem? hxs)
        clear hr hz hA hG hb hit hxs
        go_wp2_with fail
        refine (cloneItems a2 l.length c2 l _ HIT.out hll).mono ?_
        rintro e w3 ⟨A3, c3, rfl, h3, hb3⟩
        have hr := HR.out.keep hb3 HR.out.lt
        obtain ⟨v, hc⟩ := hr.has j (by rw [HZ.out]; exact hlt)
        have hf := hr.free j
        have HR3 := Lib.hid hr
        have H3 := Lib.hid h3
        have HB3 := Lib.hid hb3
        have hz3 := hb3.size
        clear hr h3 hb3 hcell
        go_wp2_with fail
        refine ⟨⟨j + 1, _, by omega, by go_num, HR3.out.put _ _, by simpa using HZ.out, HA.out.put _ _ _ _, ?_, (HB.out.trans (HB3.out.mono hwz)).setCell (Nat.le_refl _) _⟩, by simp [intOf]; omega⟩
        intro i l' hi hl'
        by_cases hij : i = j
        · subst hij
          have : l' = l := by
            have := HXS.out
            rw [hl'] at this
            injection this
          subst this
          exact ⟨A3, c3, by rw [Array.getElem?_setIfInBounds, if_pos rfl, if_pos (by rw [HZ.out]; exact hlt)], items_set H3.out HR3.out HA.out _⟩
        · obtain ⟨a4, c4, e4, h4⟩ := HG.out i l' (by omega) hl'
          exact ⟨a4, c4, by rw [Array.getElem?_setIfInBounds, if_neg (Ne.symm hij)]; exact e4, items_set (h4.keep HB3.out) HR3.out HA.out _⟩
      · obtain rfl : j = len := by omega
        clear hr hz hA hG hb
        go_wp2_with fail
        go_ret
        refine ⟨_, _, rfl, ⟨HLZ.out, by unfold maxLen; omega, fun _ => ⟨w.heap.size, 0, rfl, HR.out.lt, fun i l hl' => ?_⟩⟩, HB.out⟩
        have hil : i < j := by
          have := (List.getElem?_eq_some_iff.1 hl').1
          rw [HLZ.out] at this
          exact this
        obtain ⟨a4, c4, e4, h4⟩ := HG.out i l hil hl'
        refine ⟨[.slice a4 l.length c4], rfl, fun q v hv => ?_, a4, _, c4, rfl, h4⟩
        match q, hv with
        | 0, hv =>
          simp at hv
          subst hv
          rw [HR.out.cell, Nat.zero_add, Nat.mul_one, Nat.add_zero]
          exact e4
end Go.Proofs.YtebcjlgeppebgaaDoor
