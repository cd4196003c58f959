/-
  Contracts of cloneItems, arrLeaf, buildArray, arrModel (n001_84).
-/
import Derived.Test.YtebcjlgeppebgaaDoorItems
namespace Go.Proofs.YtebcjlgeppebgaaDoor
set_option linter.unusedVariables false
open Go.ChangeShapes Go.WideShapes Go.ChangeAt Go.RowKit M
def flatI : List Item → List Value
  | [] => []
  | x :: r => .bool x.1 :: .string x.2 :: flatI r
theorem flatI_length : ∀ l : List Item, (flatI l).length = l.length * 2
  | [] => rfl
  | x :: r => by simp only [flatI, List.length_cons, flatI_length r]; omega
theorem flatI_get : ∀ (l : List Item) (k : Nat) (x : Item), l[k]? = some x → (flatI l)[k * 2]? = some (.bool x.1) ∧ (flatI l)[k * 2 + 1]? = some (.string x.2)
  | [], _, _, h => by simp at h
  | a :: r, 0, x, h => by
    simp only [List.getElem?_cons_zero, Option.some.injEq] at h
    subst h
    exact ⟨rfl, rfl⟩
  | a :: r, k + 1, x, h => by
    rw [List.getElem?_cons_succ] at h
    have h2 := flatI_get r k x h
    rw [show (k + 1) * 2 = k * 2 + 1 + 1 by omega]
    simpa only [flatI, List.getElem?_cons_succ] using h2
theorem run_make_items (n : Nat) (hn : n ≤ 1048576) (w : World) : (Instr.makeSlice 30 (.int .i64 (n : Int)) (.int .i64 (n : Int))).run Tryd.prog w = .ok (.slice (some ⟨w.heap.size, 0, none⟩) n n) (w.alloc (.cells (madeCells (Value.agg #[.bool false, .string ⟨#[]⟩]).cells (n * 2)) 91)) := by
  obtain ⟨i0, hi, hz⟩ := Option.map_eq_some_iff.1 info91
  simp only [Prod.mk.injEq] at hz
  obtain ⟨hz0, hz1, hz2⟩ := hz
  have hr := run_make (P := Tryd.prog) w 30 91 i0 _ Tryd.underlying30 hi hz0 .i64 .i64 n n (by omega) (Int.le_refl _) (by rw [hz2]; omega) (by omega)
  simp only [Int.toNat_natCast, hz1] at hr
  exact hr
def CloneOut (w : World) (len : Nat) (zs : List Item) (e : Ending) (w' : World) : Prop := ∃ A c, e = .returned (.slice A len c) ∧ SliceOf 2 IsItem w' A len zs ∧ Below w.heap.size w w'
theorem items_of_row {w : World} {g : Nat} {zs : List Item} (hr : Row w g 91 (flatI zs).toArray) (hs : ∀ x ∈ zs, x.2.size ≤ maxLen) (hm : zs.length ≤ maxLen) : SliceOf 2 IsItem w (some ⟨g, 0, none⟩) zs.length zs := by
  refine ⟨rfl, hm, fun _ => ⟨g, 0, rfl, hr.lt, fun i x hx => ?_⟩⟩
  obtain ⟨f0, f1⟩ := flatI_get zs i x hx
  refine ⟨[.bool x.1, .string x.2], rfl, fun j v hv => ?_, rfl, hs x (List.mem_of_getElem? hx)⟩
  rw [hr.cell, List.getElem?_toArray, Nat.zero_add]
  match j, hv with
  | 0, hv => simp at hv; subst hv; exact f0
  | 1, hv => simp at hv; subst hv; exact f1
theorem items_sz {w : World} {a : Option Addr} {len : Nat} {zs : List Item} (h : SliceOf 2 IsItem w a len zs) : ∀ x ∈ zs, x.2.size ≤ maxLen := by
  intro x hx
  obtain ⟨i, hi⟩ := List.getElem?_of_mem hx
  have hl : i < len := by
    have := (List.getElem?_eq_some_iff.1 hi).1
    rw [h.lt.1] at this
    exact this
  obtain ⟨b, o, y, _, _, hy, hs, _⟩ := h.item hl
  rw [hi] at hy
  injection hy with hy
  rw [hy]
  exact hs
set_option maxHeartbeats 2000000 in
theorem cloneItems (a : Option Addr) (len cap : Nat) (zs : List Item) (w : World) (h : SliceOf 2 IsItem w a len zs) (hl : len ≤ 4096) :
    Calls Tryd.prog 18 #[.slice a len cap] w (CloneOut w len zs) := by
  have hnil := fun W => Lib.run_eql_slice_nil (P := Tryd.prog) W 30 91 a len cap 0 0 Tryd.underlying30
  have hmk := fun W => run_make_items len (by omega) W
  have H := Lib.hid h
  have HLZ := Lib.hid h.lt.1
  have HSZ := Lib.hid (items_sz h)
  have hml := h.lt.2
  unfold maxLen at hml
  clear h
  rcases a with _ | x
  · obtain rfl : len = 0 := by
      rcases Nat.eq_zero_or_pos len with h0 | h0
      · exact h0
      · obtain ⟨b, o, s, hx, _⟩ := H.out.item h0
        cases hx
    have hz : zs = [] := List.eq_nil_of_length_eq_zero HLZ.out
    clear hmk
    subst hz
    go_enter Tryd.func18, Tryd.ntmps18
    go_wp2_with fail
    go_ret
    exact ⟨none, 0, rfl, ⟨rfl, Nat.zero_le _, fun h => absurd h (by omega)⟩, Below.refl _ _⟩
  · go_enter Tryd.func18, Tryd.ntmps18
    go_wp2_with fail
    go_loopw [4] (fun i wr => ∃ (j : Nat) (cs : Array Value), j ≤ len ∧ i = .int .i64 j ∧ Row wr w.heap.size 91 cs ∧ cs.size = len * 2 ∧ CopyVTo (flatI zs) (j * 2) cs ∧ Below w.heap.size w wr) (fun i _ => len - (intOf i).toNat)
    case atStart => exact ⟨0, _, Nat.zero_le _, rfl, Row.made _ _ _, size_madeCells _ _, fun j hj => absurd hj (by omega), (Below.refl _ _).alloc (Nat.le_refl _) _⟩
    case round =>
      obtain ⟨j, cs, hj, rfl, hr, hz, hC, hb⟩ := hrel
      have HR := Lib.hid hr
      have HZ := Lib.hid hz
      have HC := Lib.hid hC
      have HB := Lib.hid hb
      by_cases hlt : j < len
      · obtain ⟨b, o, y, hx, hbl, hxs, _, c0, c1⟩ := H.out.item hlt
        injection hx with hx
        subst hx
        obtain ⟨v, hc⟩ := hr.has (j * 2) (by omega)
        obtain ⟨v1, hc1⟩ := hr.has (j * 2 + 1) (by omega)
        have hf := hr.free (j * 2)
        have hf1 := hr.free (j * 2 + 1)
        have cx := (hb.cell (p := ⟨b, o + j * 2, none⟩) hbl).trans c0
        have cx1 := (hb.cell (p := ⟨b, o + j * 2 + 1, none⟩) hbl).trans c1
        have HF := Lib.hid (flatI_get zs j y hxs)
        clear hr hz hC hb c0 c1 hxs
        go_wp2_with fail
        have hc9 := (HC.out.step (v := .bool y.1) (by rw [HZ.out]; omega) HF.out.1).step (v := .string y.2) (by rw [Array.size_setIfInBounds, HZ.out]; omega) HF.out.2
        exact ⟨⟨j + 1, _, by omega, by go_num, (HR.out.put _ _).put _ _, by simpa using HZ.out, by rw [show (j + 1) * 2 = j * 2 + 1 + 1 by omega]; exact hc9, (HB.out.setCell (Nat.le_refl _) _).setCell (Nat.le_refl _) _⟩, by simp [intOf]; omega⟩
      · obtain rfl : j = len := by omega
        clear hr hz hC hb
        go_wp2_with fail
        go_ret
        have hcs := HC.out.all HZ.out (by rw [flatI_length, HLZ.out])
        have hrow := HR.out
        rw [hcs] at hrow
        have h9 := items_of_row hrow HSZ.out (by rw [HLZ.out]; exact H.out.lt.2)
        rw [HLZ.out] at h9
        exact ⟨_, _, rfl, h9, HB.out⟩
set_option maxHeartbeats 1000000 in
theorem arrLeafC (x : Item) (w : World) :
    Calls Tryd.prog 38 #[.agg #[.bool x.1, .string x.2]] w fun e w' => ∃ n, e = .returned (pt n) ∧ IsQ w' n (leaf x) ∧ Below w.heap.size w w' := by
  obtain ⟨b, t⟩ := x
  by_cases hi : isIdx (b, t) = true
  · have hlf : leaf (b, t) = .idx t := if_pos hi
    unfold isIdx at hi
    simp only [Bool.and_eq_true, Bool.not_eq_true'] at hi
    obtain ⟨hb, ht⟩ := hi
    have HT := Lib.hid ht
    have HLF := Lib.hid hlf
    clear hlf
    dsimp only at hb ht ⊢
    subst hb
    go_enter Tryd.func38, Tryd.ntmps38
    go_wp2_with fail
    go_ret
    rw [HLF.out]
    exact ⟨_, rfl, ⟨_, _, Row.made' _ _ (by simp), (Row.made' _ _ (by simp)).alloc _, ((Row.made' _ _ (by simp)).alloc _).alloc _, HT.out⟩, ((((Below.refl _ _).alloc (Nat.le_refl _) _).alloc (by simp) _).alloc (by simp; omega) _).alloc (by simp; omega) _⟩
  · have hlf : leaf (b, t) = .num t := if_neg hi
    have HLF := Lib.hid hlf
    have hbt : b = false ∨ (b = true ∧ t.toList.isEmpty = true) := by
      unfold isIdx at hi
      cases b
      · exact .inl rfl
      · simp at hi
        exact .inr ⟨rfl, by simpa using hi⟩
    clear hlf hi
    rcases hbt with rfl | ⟨rfl, ht⟩
    all_goals
      dsimp only
      go_enter Tryd.func38, Tryd.ntmps38
      go_wp2_with fail
      refine (numQ _ t).mono ?_
      rintro e w2 ⟨n, rfl, hq, hb, hn⟩
      have HQ := Lib.hid hq
      have HB := Lib.hid hb
      clear hq hb
      go_wp2_with fail
      go_ret
      rw [HLF.out]
      exact ⟨_, rfl, HQ.out, ((Below.refl _ _).alloc (Nat.le_refl _) _).trans (HB.out.mono (by simp))⟩
end Go.Proofs.YtebcjlgeppebgaaDoor
