/-
  The contracts of cloneStrs, cloneInts, cloneStrss, cloneIntss (n001_79).
-/
import Derived.Test.YtdjebcejpachmaaMrg
namespace Go.Proofs.Ytdjebcejpachmaa
set_option linter.unusedVariables false
set_option linter.unusedSimpArgs false
open Go.ChangeShapes Go.WideShapes Go.ChangeAt Go.RowKit M
def CpyOut (w : World) (sm : Bool) (len : Nat) (vs : List Value) (e : Ending) (w' : World) : Prop := ∃ A c, e = .returned (.slice A len c) ∧ A.isSome = sm ∧ Vw w' A len vs ∧ Below w.heap.size w w' ∧ ∀ y, A = some y → w.heap.size ≤ y.block
theorem vw_row {w : World} {g e len : Nat} {vs : List Value} {cs : Array Value} (hr : Row w g e cs) (hz : cs.size = len) (hl : vs.length = len) (hc : CopyVTo vs len cs) : Vw w (some ⟨g, 0, none⟩) len vs := by
  have := hc.all hz hl
  subst this
  exact ⟨hl, fun _ => ⟨g, 0, rfl, hr.lt, fun i v hv => by rw [hr.cell, List.getElem?_toArray, Nat.zero_add]; exact hv⟩⟩
set_option maxHeartbeats 1000000 in
theorem cpyStrs (a : Option Addr) (len cap : Nat) (zs : List ByteArray) (w : World) (h : Vw w a len (strV zs)) (hl : len ≤ 1048576) : Calls Try.prog 11 #[.slice a len cap] w (CpyOut w a.isSome len (strV zs)) := by
  have hnil := fun W => Lib.run_eql_slice_nil (P := Try.prog) W 24 9 a len cap 0 0 Try.underlying24
  have hmk := fun W => run_make_row' (P := Try.prog) 24 9 (.string ByteArray.empty) 16 Try.underlying24 info9 rfl .i64 .i64 len (by omega) (by omega) W
  have H := Lib.hid h
  clear h
  rcases a with _ | x
  · obtain rfl : len = 0 := by
      rcases Nat.eq_zero_or_pos len with h0 | h0
      · exact h0
      · obtain ⟨b, o, hx, _⟩ := H.out.2 h0
        cases hx
    have HZ := Lib.hid (show strV zs = [] from List.eq_nil_of_length_eq_zero H.out.1)
    clear hmk
    go_enter Try.func11, Try.ntmps11
    go_wp2
    go_ret
    exact ⟨none, 0, rfl, rfl, by rw [HZ.out]; exact Vw.nil _ _, Below.refl _ _, fun y q => by cases q⟩
  · go_enter Try.func11, Try.ntmps11
    go_wp2
    go_loopw [4] (fun i wr => ∃ (j : Nat) (cs : Array Value), j ≤ len ∧ i = .int .i64 j ∧ Row wr w.heap.size 9 cs ∧ cs.size = len ∧ CopyVTo (strV zs) j cs ∧ Below w.heap.size w wr) (fun i _ => len - (intOf i).toNat)
    case atStart => exact ⟨0, _, Nat.zero_le _, rfl, Row.made _ _ _, size_madeCells _ _, fun j hj => absurd hj (by omega), (Below.refl _ _).alloc (Nat.le_refl _) _⟩
    case round =>
      obtain ⟨j, cs, hj, rfl, hr, hz, hC, hb⟩ := hrel
      have HR := Lib.hid hr
      have HZ := Lib.hid hz
      have HC := Lib.hid hC
      have HB := Lib.hid hb
      by_cases hlt : j < len
      · obtain ⟨b, o, s, hx, hbl, hxs, hcell⟩ := H.out.str hlt
        injection hx with hx
        subst hx
        obtain ⟨v, hc⟩ := hr.has j (by omega)
        have hf := hr.free j
        have cx := (hb.cell (p := ⟨b, o + j, none⟩) hbl).trans hcell
        have HXS := Lib.hid hxs
        clear hr hz hC hb hcell hxs
        go_wp2
        exact ⟨⟨j + 1, _, by omega, by go_num, HR.out.put _ _, by simpa using HZ.out, HC.out.step (by rw [HZ.out]; exact hlt) (by simp [strV, HXS.out]), HB.out.setCell (Nat.le_refl _) _⟩, by simp [intOf]; omega⟩
      · obtain rfl : j = len := by omega
        clear hr hz hC hb
        go_wp2
        go_ret
        exact ⟨_, _, rfl, rfl, vw_row HR.out HZ.out H.out.1 HC.out, HB.out, fun y q => by cases q; exact Nat.le_refl _⟩
set_option maxHeartbeats 1000000 in
theorem cpyInts (a : Option Addr) (len cap : Nat) (zs : List Int) (w : World) (h : Vw w a len (intsV zs)) (hl : len ≤ 1048576) : Calls Try.prog 12 #[.slice a len cap] w (CpyOut w a.isSome len (intsV zs)) := by
  have hnil := fun W => Lib.run_eql_slice_nil (P := Try.prog) W 29 3 a len cap 0 0 Try.underlying29
  have hmk := fun W => run_make_row' (P := Try.prog) 29 3 (.int .i64 0) 8 Try.underlying29 info3 rfl .i64 .i64 len (by omega) (by omega) W
  have H := Lib.hid h
  clear h
  rcases a with _ | x
  · obtain rfl : len = 0 := by
      rcases Nat.eq_zero_or_pos len with h0 | h0
      · exact h0
      · obtain ⟨b, o, hx, _⟩ := H.out.2 h0
        cases hx
    have HZ := Lib.hid (show intsV zs = [] from List.eq_nil_of_length_eq_zero H.out.1)
    clear hmk
    go_enter Try.func12, Try.ntmps12
    go_wp2
    go_ret
    exact ⟨none, 0, rfl, rfl, by rw [HZ.out]; exact Vw.nil _ _, Below.refl _ _, fun y q => by cases q⟩
  · go_enter Try.func12, Try.ntmps12
    go_wp2
    go_loopw [4] (fun i wr => ∃ (j : Nat) (cs : Array Value), j ≤ len ∧ i = .int .i64 j ∧ Row wr w.heap.size 3 cs ∧ cs.size = len ∧ CopyVTo (intsV zs) j cs ∧ Below w.heap.size w wr) (fun i _ => len - (intOf i).toNat)
    case atStart => exact ⟨0, _, Nat.zero_le _, rfl, Row.made _ _ _, size_madeCells _ _, fun j hj => absurd hj (by omega), (Below.refl _ _).alloc (Nat.le_refl _) _⟩
    case round =>
      obtain ⟨j, cs, hj, rfl, hr, hz, hC, hb⟩ := hrel
      have HR := Lib.hid hr
      have HZ := Lib.hid hz
      have HC := Lib.hid hC
      have HB := Lib.hid hb
      by_cases hlt : j < len
      · obtain ⟨b, o, s, hx, hbl, hxs, hcell⟩ := H.out.int hlt
        injection hx with hx
        subst hx
        obtain ⟨v, hc⟩ := hr.has j (by omega)
        have hf := hr.free j
        have cx := (hb.cell (p := ⟨b, o + j, none⟩) hbl).trans hcell
        have HXS := Lib.hid hxs
        clear hr hz hC hb hcell hxs
        go_wp2
        exact ⟨⟨j + 1, _, by omega, by go_num, HR.out.put _ _, by simpa using HZ.out, HC.out.step (by rw [HZ.out]; exact hlt) (by simp [intsV, HXS.out]), HB.out.setCell (Nat.le_refl _) _⟩, by simp [intOf]; omega⟩
      · obtain rfl : j = len := by omega
        clear hr hz hC hb
        go_wp2
        go_ret
        exact ⟨_, _, rfl, rfl, vw_row HR.out HZ.out H.out.1 HC.out, HB.out, fun y q => by cases q; exact Nat.le_refl _⟩
def CpysOut (w : World) (len : Nat) (xs : List (Bool × List Value)) (e : Ending) (w' : World) : Prop := ∃ A c us, e = .returned (.slice A len c) ∧ Vw w' A len us ∧ NV w' us xs ∧ Below w.heap.size w w'
/-- The first j rows are copied: each its own slice, none at g. -/
structure CpyTo (w : World) (g e n : Nat) (xs : List (Bool × List Value)) (j : Nat) (us : List Value) (cs : Array Value) : Prop where
  len : us.length = j
  row : Row w g e cs
  size : cs.size = n
  at_ : ∀ i, i < j → cs[i]? = us[i]?
  vw : ∀ (i : Nat) (u : Value) (x : Bool × List Value), us[i]? = some u → xs[i]? = some x → ∃ a c, u = .slice a x.2.length c ∧ a.isSome = x.1 ∧ Vw w a x.2.length x.2 ∧ ∀ y, a = some y → y.block ≠ g
theorem CpyTo.step {w w3 : World} {g e n : Nat} {xs : List (Bool × List Value)} {j : Nat} {us : List Value} {cs : Array Value} {a : Option Addr} {c : Nat} {x : Bool × List Value} (h : CpyTo w g e n xs j us cs) (hb : Below w.heap.size w w3) (hj : j < n) (hx : xs[j]? = some x)
    (hs : a.isSome = x.1) (hv : Vw w3 a x.2.length x.2) (hg : ∀ y, a = some y → w.heap.size ≤ y.block) : CpyTo (w3.setCell ⟨g, j, none⟩ (.slice a x.2.length c)) g e n xs (j + 1) (us ++ [.slice a x.2.length c]) (cs.setIfInBounds j (.slice a x.2.length c)) := by
  have hgl := h.row.lt
  have ts : Touch (fun k => k = g) w3 (w3.setCell ⟨g, j, none⟩ (.slice a x.2.length c)) := (Touch.refl (fun k => k = g) w3).setCell (fun _ => rfl) _
  refine ⟨by simp [h.len], (h.row.keep hb hgl).put j _, by simpa using h.size, fun i hi => ?_, fun i u x' hu hx' => ?_⟩
  · rw [Array.getElem?_setIfInBounds]
    by_cases he : j = i
    · subst he
      rw [if_pos rfl, if_pos (by rw [h.size]; exact hj), List.getElem?_append_right (by rw [h.len]; exact Nat.le_refl _), h.len, Nat.sub_self]
      rfl
    · rw [if_neg he, List.getElem?_append_left (by rw [h.len]; omega)]
      exact h.at_ i (by omega)
  · by_cases he : i < j
    · rw [List.getElem?_append_left (by rw [h.len]; exact he)] at hu
      obtain ⟨a', c', h1, h2, h3, h4⟩ := h.vw i u x' hu hx'
      exact ⟨a', c', h1, h2, (h3.keep hb).touch ts (fun _ y hy _ q => h4 y hy q), h4⟩
    · have hl := (List.getElem?_eq_some_iff.1 hu).1
      rw [List.length_append, h.len, List.length_singleton] at hl
      have : i = j := by omega
      subst this
      rw [hx] at hx'
      injection hx' with hx'
      subst hx'
      rw [List.getElem?_append_right (by rw [h.len]; exact Nat.le_refl _), h.len, Nat.sub_self] at hu
      simp only [List.getElem?_cons_zero, Option.some.injEq] at hu
      exact ⟨a, c, hu.symm, hs, hv.touch ts (fun _ y hy _ q => by have := hg y hy; omega), fun y hy q => by have := hg y hy; omega⟩
theorem CpyTo.stop {w : World} {g e n : Nat} {xs : List (Bool × List Value)} {us : List Value} {cs : Array Value} (h : CpyTo w g e n xs n us cs) (hx : xs.length = n) : Vw w (some ⟨g, 0, none⟩) n us ∧ NV w us xs := by
  refine ⟨⟨h.len, fun _ => ⟨g, 0, rfl, h.row.lt, fun i v hv => ?_⟩⟩, by rw [h.len, hx], fun i u x hu hx => ?_⟩
  · have hi := (List.getElem?_eq_some_iff.1 hv).1
    rw [h.row.cell, Nat.zero_add, h.at_ i (by rw [← h.len]; exact hi)]
    exact hv
  · obtain ⟨a, c, h1, h2, h3, _⟩ := h.vw i u x hu hx
    exact ⟨a, c, h1, h2, h3⟩
set_option maxHeartbeats 2000000 in
theorem cpyStrss (a : Option Addr) (len cap : Nat) (us0 : List Value) (nks : NK) (w : World) (h : Vw w a len us0) (hn : NV w us0 (nkV nks)) (hl : len ≤ 1048576) (hln : ∀ j, (nkAt nks j).2.length ≤ 1048576) : Calls Try.prog 13 #[.slice a len cap] w (CpysOut w len (nkV nks)) := by
  have hnil := fun W => Lib.run_eql_slice_nil (P := Try.prog) W 30 24 a len cap 0 0 Try.underlying30
  have hmk := fun W => run_make_row' (P := Try.prog) 30 24 (.slice none 0 0) 24 Try.underlying30 info24 rfl .i64 .i64 len (by omega) (by omega) W
  have H := Lib.hid h
  have HN := Lib.hid hn
  have HLN := Lib.hid hln
  have HLX := Lib.hid (show (nkV nks).length = len by rw [← hn.1, h.1])
  clear h hn hln
  rcases a with _ | x
  · obtain rfl : len = 0 := by
      rcases Nat.eq_zero_or_pos len with h0 | h0
      · exact h0
      · obtain ⟨b, o, hx, _⟩ := H.out.2 h0
        cases hx
    clear hmk
    go_enter Try.func13, Try.ntmps13
    go_wp2
    go_ret
    exact ⟨none, 0, us0, rfl, H.out, HN.out, Below.refl _ _⟩
  · go_enter Try.func13, Try.ntmps13
    go_wp2
    go_loopw [4] (fun i wr => ∃ (j : Nat) (us : List Value) (cs : Array Value), j ≤ len ∧ i = .int .i64 j ∧ CpyTo wr w.heap.size 24 len (nkV nks) j us cs ∧ Below w.heap.size w wr) (fun i _ => len - (intOf i).toNat)
    case atStart => exact ⟨0, [], _, Nat.zero_le _, rfl, ⟨rfl, Row.made _ _ _, size_madeCells _ _, fun j hj => absurd hj (by omega), fun i u x hu => by simp at hu⟩, (Below.refl _ _).alloc (Nat.le_refl _) _⟩
    case round =>
      obtain ⟨j, us, cs, hj, rfl, hcp, hb⟩ := hrel
      have HCP := Lib.hid hcp
      have HB := Lib.hid hb
      have hlg := hcp.row.lt
      have hsz := hb.size
      clear hcp hb
      by_cases hlt : j < len
      · obtain ⟨b, o, u, hx, hbl, hu, hc⟩ := (H.out.touch (Touch.of_below HB.out (fun _ => False)) (fun _ _ _ _ q => q)).get hlt
        cases hx
        obtain ⟨xx, hxx⟩ : ∃ xx, (nkV nks)[j]? = some xx := ⟨_, List.getElem?_eq_getElem (by rw [HLX.out]; exact hlt)⟩
        obtain ⟨a', c', rfl, hs', hv'⟩ := (HN.out.keep HB.out).2 j u xx hu hxx
        obtain ⟨y, hy, rfl⟩ : ∃ y, nks[j]? = some y ∧ (y.1, strV y.2) = xx := by
          unfold nkV at hxx
          rw [List.getElem?_map] at hxx
          exact Option.map_eq_some_iff.1 hxx
        have hL := HLN.out j
        have hat : nkAt nks j = y := by unfold nkAt; rw [hy]; rfl
        rw [hat] at hL
        obtain ⟨L, hL2⟩ : ∃ L, L = (strV y.2).length := ⟨_, rfl⟩
        simp only [← hL2] at hv' hc
        have hL3 : L ≤ 1048576 := by rw [hL2]; unfold strV; rw [List.length_map]; exact hL
        have HV := Lib.hid hv'
        have HS := Lib.hid hs'
        have HXX := Lib.hid hxx
        have HL2 := Lib.hid hL2
        clear hv' hs' hu hxx hy hL2 hL hat
        go_wp2_with fail
        refine (cpyStrs a' L c' y.2 _ HV.out hL3).mono ?_
        rintro e w3 ⟨A, c3, rfl, hsm, hvv, hb3, hgg⟩
        have hs3 := hb3.size
        obtain ⟨v0, hv0⟩ := (HCP.out.row.keep hb3 hlg).has j (by rw [HCP.out.size]; exact hlt)
        have hf0 := (HCP.out.row.keep hb3 hlg).free j
        have hl3 : w.heap.size < w3.heap.size := by omega
        have HSM := Lib.hid hsm
        have HVV := Lib.hid hvv
        have HB3 := Lib.hid hb3
        have HGG := Lib.hid hgg
        clear hsm hvv hb3 hgg
        go_wp2_with fail
        have hst := HCP.out.step (c := c3) HB3.out hlt HXX.out (HSM.out.trans HS.out) (by rw [← HL2.out]; exact HVV.out) HGG.out
        rw [← HL2.out] at hst
        exact ⟨⟨j + 1, _, _, by omega, by go_num, hst, HB.out.trans ((show Below w.heap.size wr w3 from HB3.out.mono (by omega)).setCell (Nat.le_refl _) _)⟩, by simp [intOf]; omega⟩
      · obtain rfl : j = len := by omega
        go_wp2_with fail
        go_ret
        obtain ⟨h1, h2⟩ := HCP.out.stop HLX.out
        exact ⟨_, _, us, rfl, h1, h2, HB.out⟩
set_option maxHeartbeats 2000000 in
theorem cpyIntss (a : Option Addr) (len cap : Nat) (us0 : List Value) (nks : NI) (w : World) (h : Vw w a len us0) (hn : NV w us0 (niV nks)) (hl : len ≤ 1048576) (hln : ∀ j, (niAt nks j).2.length ≤ 1048576) : Calls Try.prog 14 #[.slice a len cap] w (CpysOut w len (niV nks)) := by
  have hnil := fun W => Lib.run_eql_slice_nil (P := Try.prog) W 31 29 a len cap 0 0 Try.underlying31
  have hmk := fun W => run_make_row' (P := Try.prog) 31 29 (.slice none 0 0) 24 Try.underlying31 info29 rfl .i64 .i64 len (by omega) (by omega) W
  have H := Lib.hid h
  have HN := Lib.hid hn
  have HLN := Lib.hid hln
  have HLX := Lib.hid (show (niV nks).length = len by rw [← hn.1, h.1])
  clear h hn hln
  rcases a with _ | x
  · obtain rfl : len = 0 := by
      rcases Nat.eq_zero_or_pos len with h0 | h0
      · exact h0
      · obtain ⟨b, o, hx, _⟩ := H.out.2 h0
        cases hx
    clear hmk
    go_enter Try.func14, Try.ntmps14
    go_wp2
    go_ret
    exact ⟨none, 0, us0, rfl, H.out, HN.out, Below.refl _ _⟩
  · go_enter Try.func14, Try.ntmps14
    go_wp2
    go_loopw [4] (fun i wr => ∃ (j : Nat) (us : List Value) (cs : Array Value), j ≤ len ∧ i = .int .i64 j ∧ CpyTo wr w.heap.size 29 len (niV nks) j us cs ∧ Below w.heap.size w wr) (fun i _ => len - (intOf i).toNat)
    case atStart => exact ⟨0, [], _, Nat.zero_le _, rfl, ⟨rfl, Row.made _ _ _, size_madeCells _ _, fun j hj => absurd hj (by omega), fun i u x hu => by simp at hu⟩, (Below.refl _ _).alloc (Nat.le_refl _) _⟩
    case round =>
      obtain ⟨j, us, cs, hj, rfl, hcp, hb⟩ := hrel
      have HCP := Lib.hid hcp
      have HB := Lib.hid hb
      have hlg := hcp.row.lt
      have hsz := hb.size
      clear hcp hb
      by_cases hlt : j < len
      · obtain ⟨b, o, u, hx, hbl, hu, hc⟩ := (H.out.touch (Touch.of_below HB.out (fun _ => False)) (fun _ _ _ _ q => q)).get hlt
        cases hx
        obtain ⟨xx, hxx⟩ : ∃ xx, (niV nks)[j]? = some xx := ⟨_, List.getElem?_eq_getElem (by rw [HLX.out]; exact hlt)⟩
        obtain ⟨a', c', rfl, hs', hv'⟩ := (HN.out.keep HB.out).2 j u xx hu hxx
        obtain ⟨y, hy, rfl⟩ : ∃ y, nks[j]? = some y ∧ (y.1, intsV y.2) = xx := by
          unfold niV at hxx
          rw [List.getElem?_map] at hxx
          exact Option.map_eq_some_iff.1 hxx
        have hL := HLN.out j
        have hat : niAt nks j = y := by unfold niAt; rw [hy]; rfl
        rw [hat] at hL
        obtain ⟨L, hL2⟩ : ∃ L, L = (intsV y.2).length := ⟨_, rfl⟩
        simp only [← hL2] at hv' hc
        have hL3 : L ≤ 1048576 := by rw [hL2]; unfold intsV; rw [List.length_map]; exact hL
        have HV := Lib.hid hv'
        have HS := Lib.hid hs'
        have HXX := Lib.hid hxx
        have HL2 := Lib.hid hL2
        clear hv' hs' hu hxx hy hL2 hL hat
        go_wp2_with fail
        refine (cpyInts a' L c' y.2 _ HV.out hL3).mono ?_
        rintro e w3 ⟨A, c3, rfl, hsm, hvv, hb3, hgg⟩
        have hs3 := hb3.size
        obtain ⟨v0, hv0⟩ := (HCP.out.row.keep hb3 hlg).has j (by rw [HCP.out.size]; exact hlt)
        have hf0 := (HCP.out.row.keep hb3 hlg).free j
        have hl3 : w.heap.size < w3.heap.size := by omega
        have HSM := Lib.hid hsm
        have HVV := Lib.hid hvv
        have HB3 := Lib.hid hb3
        have HGG := Lib.hid hgg
        clear hsm hvv hb3 hgg
        go_wp2_with fail
        have hst := HCP.out.step (c := c3) HB3.out hlt HXX.out (HSM.out.trans HS.out) (by rw [← HL2.out]; exact HVV.out) HGG.out
        rw [← HL2.out] at hst
        exact ⟨⟨j + 1, _, _, by omega, by go_num, hst, HB.out.trans ((show Below w.heap.size wr w3 from HB3.out.mono (by omega)).setCell (Nat.le_refl _) _)⟩, by simp [intOf]; omega⟩
      · obtain rfl : j = len := by omega
        go_wp2_with fail
        go_ret
        obtain ⟨h1, h2⟩ := HCP.out.stop HLX.out
        exact ⟨_, _, us, rfl, h1, h2, HB.out⟩
end Go.Proofs.Ytdjebcejpachmaa
