/-
  Contracts of buildArray and arrModel (n001_84).
-/
import Derived.Test.YtebcjlgeppebgaaDoorItemsB
namespace Go.Proofs.YtebcjlgeppebgaaDoor
set_option linter.unusedVariables false
open Go.ChangeShapes Go.WideShapes Go.ChangeAt Go.RowKit M
theorem wp_byteN {ops : Array Oper} {rest : List Oper} {o : Oper} {a : Act} {Q : Exit → Act → World → Prop} (hgd : o.guard = none) (sl x : Operand) (ho : o.op = .call { callee := .builtin .append, args := #[sl, x], argTypes := #[tBytes, tBytes] })
    (w : World) (N : Nat) (hN : w.heap.size = N) (B : Nat) (v : Value) (d : Option Nat) (l : List UInt8) (hs : a.eval sl = v) (hown : OwnB w B v d l) (c : UInt8) (n : Int) (hn : n = c.toNat) (hx : a.eval x = .slice (some ⟨N, 0, none⟩) 1 1)
    (hlen : l.length + 1 ≤ 140737488355328) (hB : B ≤ w.heap.size)
    (h : ∀ v' w', AOut w B d (l ++ [c]) v' w' → wpList Tryd.prog ops Q rest (a.put o.dst v') w') : wpList Tryd.prog ops Q (o :: rest) a (w.alloc (.cells #[.int .u8 n] tByte)) := by
  subst hN
  exact wp_byte hgd sl x ho w B v d l hs hown c n hn hx hlen hB h
def BuildOut (w : World) (o : Option Qy) (e : Ending) (w' : World) : Prop := ∃ n, e = .returned (.pointer (some ⟨n, 0, none⟩)) ∧ ArrAt w' n o ∧ Below w.heap.size w w'
theorem BuildOut.of {w w' : World} {o o2 : Option Qy} {e : Ending} (h : BuildOut w o e w') (he : o = o2) : BuildOut w o2 e w' := he ▸ h
set_option maxHeartbeats 2000000 in
theorem buildArr_true (a : Option Addr) (len cap : Nat) (zs : List Item) (w : World) (h : SliceOf 2 IsItem w a len zs) (hl : len ≤ 4096) :
    Calls Tryd.prog 19 #[.slice a len cap, .bool false] w (BuildOut w (arrQ true zs)) := by
  have H := Lib.hid h
  have HLZ := Lib.hid h.lt.1
  clear h
  by_cases h0 : len = 0
  · subst h0
    have hz : zs = [] := List.eq_nil_of_length_eq_zero HLZ.out
    subst hz
    go_enter Tryd.func19, Tryd.ntmps19
    go_wp2_with fail
    go_ret
    exact ⟨_, rfl, ⟨np, Row.made _ _ _, rfl⟩, (Below.refl _ _).alloc (Nat.le_refl _) _⟩
  · have h1 : 0 < len := by omega
    obtain ⟨b, o, x0, rfl, hbl, hxs, _, c0, c1⟩ := H.out.item h1
    have HX0 := Lib.hid (show arrQ true (zs.take 1) = some (leaf x0) by
      have := take_snoc_item hxs
      rw [this]
      rfl)
    simp only [Nat.zero_mul, Nat.add_zero] at c0 c1
    clear hxs
    go_enter Tryd.func19, Tryd.ntmps19
    go_wp2_with fail
    refine (arrLeafC x0 _).mono ?_
    rintro e w2 ⟨n, rfl, hq, hb⟩
    have HQ := Lib.hid hq
    have HB := Lib.hid hb
    have hz2 := hb.size
    clear hq hb c0 c1
    go_wp2_with fail
    go_loopw [6, 7] (fun p i wr => ∃ (k n : Nat) (q : Qy), 1 ≤ k ∧ k ≤ len ∧ p = .pointer (some ⟨n, 0, none⟩) ∧ i = .int .i64 k ∧ arrQ true (zs.take k) = some q ∧ IsQ wr n q ∧ Below w.heap.size w wr) (fun _ i _ => len - (intOf i).toNat)
    case atStart => exact ⟨1, n, _, Nat.le_refl _, h1, rfl, rfl, HX0.out, HQ.out, HB.out⟩
    case round =>
      obtain ⟨k, n2, q, hk1, hk, rfl, rfl, ha, hq, hb⟩ := hrel
      have HA := Lib.hid ha
      have HQ2 := Lib.hid hq
      have HB2 := Lib.hid hb
      have hz3 := hb.size
      clear ha hq
      by_cases hlt : k < len
      · obtain ⟨b', o', x, hx, hbl', hxs, _, c0, c1⟩ := H.out.item hlt
        injection hx with hx
        injection hx with hx1 hx2
        subst hx1 hx2
        have cx := (hb.cell (p := ⟨b, o + k * 2, none⟩) hbl).trans c0
        have cx1 := (hb.cell (p := ⟨b, o + k * 2 + 1, none⟩) hbl).trans c1
        have HT := Lib.hid (show arrQ true (zs.take (k + 1)) = some (.bin true q (leaf x)) by rw [take_snoc_item hxs]; exact arrQ_snoc true HA.out x)
        clear c0 c1 hxs hb
        go_wp2_with fail
        refine (arrLeafC x _).mono ?_
        rintro e w4 ⟨n4, rfl, hq, hb⟩
        have HQ4 := Lib.hid hq
        have HB4 := Lib.hid hb
        have hz4 := hb.size
        clear hq hb cx cx1
        go_wp2_with fail
        have hq2 := HQ2.out.keep (KeepN.below (HB4.out.trans ((Below.refl _ w4).alloc hz4 (.cells (queryCells np (pt n2) (pt n4) 2) 73))))
        have hq4 := HQ4.out.keep (KeepN.below ((Below.refl _ w4).alloc (Nat.le_refl _) (.cells (queryCells np (pt n2) (pt n4) 2) 73)))
        exact ⟨⟨k + 1, _, _, by omega, by omega, rfl, by go_num, HT.out, ⟨n2, n4, Row.made _ _ _, hq2, hq4⟩, HB2.out.trans ((HB4.out.mono hz3).trans ((Below.refl _ _).alloc (by omega) _))⟩, by simp [intOf]; omega⟩
      · obtain rfl : k = len := by omega
        clear hb
        go_wp2_with fail
        go_ret
        have ha := HA.out
        rw [szSum_all HLZ.out] at ha
        rw [ha]
        exact ⟨_, rfl, ⟨_, Row.made _ _ _, _, rfl, HQ2.out.keep (KeepN.below ((Below.refl _ _).alloc (Nat.le_refl _) _))⟩, HB2.out.trans ((Below.refl _ _).alloc hz3 _)⟩
set_option maxHeartbeats 2000000 in
theorem buildArr_false (a : Option Addr) (len cap : Nat) (zs : List Item) (w : World) (h : SliceOf 2 IsItem w a len zs) (hl : len ≤ 4096) :
    Calls Tryd.prog 19 #[.slice a len cap, .bool true] w (BuildOut w (arrQ false zs)) := by
  have H := Lib.hid h
  have HLZ := Lib.hid h.lt.1
  clear h
  by_cases h0 : len = 0
  · subst h0
    have hz : zs = [] := List.eq_nil_of_length_eq_zero HLZ.out
    subst hz
    go_enter Tryd.func19, Tryd.ntmps19
    go_wp2_with fail
    go_ret
    exact ⟨_, rfl, ⟨np, Row.made _ _ _, rfl⟩, (Below.refl _ _).alloc (Nat.le_refl _) _⟩
  · have h1 : 0 < len := by omega
    obtain ⟨b, o, x0, rfl, hbl, hxs, _, c0, c1⟩ := H.out.item h1
    have HX0 := Lib.hid (show arrQ false (zs.take 1) = some (leaf x0) by
      have := take_snoc_item hxs
      rw [this]
      rfl)
    simp only [Nat.zero_mul, Nat.add_zero] at c0 c1
    clear hxs
    go_enter Tryd.func19, Tryd.ntmps19
    go_wp2_with fail
    refine (arrLeafC x0 _).mono ?_
    rintro e w2 ⟨n, rfl, hq, hb⟩
    have HQ := Lib.hid hq
    have HB := Lib.hid hb
    have hz2 := hb.size
    clear hq hb c0 c1
    go_wp2_with fail
    go_loopw [6, 7] (fun p i wr => ∃ (k n : Nat) (q : Qy), 1 ≤ k ∧ k ≤ len ∧ p = .pointer (some ⟨n, 0, none⟩) ∧ i = .int .i64 k ∧ arrQ false (zs.take k) = some q ∧ IsQ wr n q ∧ Below w.heap.size w wr) (fun _ i _ => len - (intOf i).toNat)
    case atStart => exact ⟨1, n, _, Nat.le_refl _, h1, rfl, rfl, HX0.out, HQ.out, HB.out⟩
    case round =>
      obtain ⟨k, n2, q, hk1, hk, rfl, rfl, ha, hq, hb⟩ := hrel
      have HA := Lib.hid ha
      have HQ2 := Lib.hid hq
      have HB2 := Lib.hid hb
      have hz3 := hb.size
      clear ha hq
      by_cases hlt : k < len
      · obtain ⟨b', o', x, hx, hbl', hxs, _, c0, c1⟩ := H.out.item hlt
        injection hx with hx
        injection hx with hx1 hx2
        subst hx1 hx2
        have cx := (hb.cell (p := ⟨b, o + k * 2, none⟩) hbl).trans c0
        have cx1 := (hb.cell (p := ⟨b, o + k * 2 + 1, none⟩) hbl).trans c1
        have HT := Lib.hid (show arrQ false (zs.take (k + 1)) = some (.bin false q (leaf x)) by rw [take_snoc_item hxs]; exact arrQ_snoc false HA.out x)
        clear c0 c1 hxs hb
        go_wp2_with fail
        refine (arrLeafC x _).mono ?_
        rintro e w4 ⟨n4, rfl, hq, hb⟩
        have HQ4 := Lib.hid hq
        have HB4 := Lib.hid hb
        have hz4 := hb.size
        clear hq hb cx cx1
        go_wp2_with fail
        have hq2 := HQ2.out.keep (KeepN.below (HB4.out.trans ((Below.refl _ w4).alloc hz4 (.cells (queryCells np (pt n2) (pt n4) 1) 73))))
        have hq4 := HQ4.out.keep (KeepN.below ((Below.refl _ w4).alloc (Nat.le_refl _) (.cells (queryCells np (pt n2) (pt n4) 1) 73)))
        exact ⟨⟨k + 1, _, _, by omega, by omega, rfl, by go_num, HT.out, ⟨n2, n4, Row.made _ _ _, hq2, hq4⟩, HB2.out.trans ((HB4.out.mono hz3).trans ((Below.refl _ _).alloc (by omega) _))⟩, by simp [intOf]; omega⟩
      · obtain rfl : k = len := by omega
        clear hb
        go_wp2_with fail
        go_ret
        have ha := HA.out
        rw [szSum_all HLZ.out] at ha
        rw [ha]
        exact ⟨_, rfl, ⟨_, Row.made _ _ _, _, rfl, HQ2.out.keep (KeepN.below ((Below.refl _ _).alloc (Nat.le_refl _) _))⟩, HB2.out.trans ((Below.refl _ _).alloc hz3 _)⟩
theorem buildArr (a : Option Addr) (len cap : Nat) (zs : List Item) (pipe : Bool) (w : World) (h : SliceOf 2 IsItem w a len zs) (hl : len ≤ 4096) :
    Calls Tryd.prog 19 #[.slice a len cap, .bool pipe] w (BuildOut w (arrQ (!pipe) zs)) := by
  cases pipe
  · exact buildArr_true a len cap zs w h hl
  · exact buildArr_false a len cap zs w h hl
theorem OwnB.form {w : World} {B : Nat} {v : Value} {d : Option Nat} {l : List UInt8} (h : OwnB w B v d l) : ∃ A c, v = .slice A l.length c := own_form h.1
theorem AOut.parts {w w' : World} {B : Nat} {d : Option Nat} {l : List UInt8} {v : Value} {w0 : World} (ho : AOut w B d l v w') (hB : B = w0.heap.size) (hd : ∀ g, d = some g → B ≤ g) (hb : Below w0.heap.size w0 w) : ∃ d', Hid (OwnB w' B v d' l) ∧ Hid (Below w0.heap.size w0 w') ∧ w0.heap.size ≤ w'.heap.size := by
  have h1 := hb.trans (ho.below (B' := w0.heap.size) hb.size (by rw [← hB]; exact hd))
  obtain ⟨d', x1, _, _⟩ := ho
  exact ⟨d', Lib.hid x1, Lib.hid h1, h1.size⟩
/-- A slice of bytes made since w0, behind names that the walk leaves alone. -/
def BN (w0 : World) (l : List UInt8) (v : Value) (w' : World) : Prop := ∃ A n c d', v = .slice A n c ∧ Hid (n = l.length) ∧ Hid (OwnB w' w0.heap.size (.slice A n c) d' l) ∧ Hid (Below w0.heap.size w0 w') ∧ w0.heap.size ≤ w'.heap.size
theorem AOut.partsN {w w' w0 : World} {B : Nat} {d : Option Nat} {l : List UInt8} {v : Value} (ho : AOut w B d l v w') (hB : B = w0.heap.size) (hd : ∀ g, d = some g → B ≤ g) (hb : Below w0.heap.size w0 w) : BN w0 l v w' := by
  obtain ⟨d', h1, h2, h3⟩ := ho.parts hB hd hb
  obtain ⟨A, c, rfl⟩ := h1.out.form
  subst hB
  exact ⟨A, _, c, d', rfl, Lib.hid rfl, h1, h2, h3⟩
theorem appendS (w w0 : World) (v : Value) (d : Option Nat) (l : List UInt8) (s : ByteArray) (h : OwnB w w0.heap.size v d l) (hb : Below w0.heap.size w0 w) (hl : l.length + s.size ≤ 1073741824) :
    Calls Tryd.prog 28 #[v, .string s] w fun e w' => ∃ v', e = .returned v' ∧ BN w0 (l ++ s.data.toList) v' w' := by
  refine (appendStr w w0.heap.size v d l s h hl hb.size).mono ?_
  rintro e w' ⟨A, c, rfl, ho⟩
  exact ⟨_, rfl, ho.partsN rfl (fun g hg => (h.lt g hg).1) hb⟩
set_option maxRecDepth 100000 in
set_option maxHeartbeats 1000000 in
theorem arrMod_true (a : Option Addr) (len cap : Nat) (zs : List Item) (w : World) (h : SliceOf 2 IsItem w a len zs) (hl : len ≤ 4096) (hs : itemSum zs ≤ 1048576) :
    Calls Tryd.prog 21 #[.slice a len cap, .bool false] w fun e w' => e = .returned (.string ⟨(mt true zs ++ [93]).toArray⟩) ∧ Below w.heap.size w w' := by
  have H := Lib.hid h
  have HLZ := Lib.hid h.lt.1
  clear h
  have hmk : ∀ W, (Instr.makeSlice 39 (.int .i64 0) (.int .i64 2)).run Tryd.prog W = .ok (.slice (some ⟨W.heap.size, 0, none⟩) 0 2) (W.alloc (.cells (madeCells #[.int .u8 0] 2) 5)) := fun W => run_make_cap 2 (by omega) W
  go_enter Tryd.func21, Tryd.ntmps21
  go_wp2_with (at_builtin; refine wp_byteN rfl _ _ rfl _ (w.heap.size + 1) (by simp) w.heap.size _ _ _ rfl (OwnB.made w 2 (Nat.le_refl _) (by unfold maxLen; omega)) 91 _ rfl rfl (by simp) (by simp) ?_)
  intro v' w2 ho
  obtain ⟨A2, n2, c2, d2, rfl, hn2, ho2, hb2, hz2⟩ := ho.partsN (w0 := w) rfl (fun g hg => by injection hg with hg; omega) ((Below.refl _ _).alloc (Nat.le_refl _) _)
  clear ho hmk
  go_wp2_with fail
  go_loopw [6, 7] (fun v i wr => ∃ (k : Nat) (A : Option Addr) (c n : Nat) (l : List UInt8) (d : Option Nat), k ≤ len ∧ i = .int .i64 k ∧ v = .slice A n c ∧ l = mt true (zs.take k) ∧ (OwnB wr w.heap.size (.slice A n c) d l) ∧ Below w.heap.size w wr) (fun _ i _ => len - (intOf i).toNat)
  case atStart => exact ⟨0, A2, c2, n2, _, d2, Nat.zero_le _, rfl, rfl, rfl, ho2.out, hb2.out⟩
  case round =>
    obtain ⟨k, A, c, n, l0, d, hk, rfl, rfl, hl0, ho, hb⟩ := hrel
    have HL0 := Lib.hid hl0
    have HO := Lib.hid ho
    have HB2 := Lib.hid hb
    have hz3 := hb.size
    have hbnd : l0.length ≤ itemSum (zs.take k) + 1 := by rw [hl0]; exact mt_le _ _
    clear hl0 ho
    by_cases hlt : k < len
    · obtain ⟨b, o, x, rfl, hbl, hxs, _, c0, c1⟩ := H.out.item hlt
      have cx := (hb.cell (p := ⟨b, o + k * 2, none⟩) hbl).trans c0
      have cx1 := (hb.cell (p := ⟨b, o + k * 2 + 1, none⟩) hbl).trans c1
      have C0 := Lib.hid c0
      have C1 := Lib.hid c1
      have hsum : itemSum (zs.take k) + (24 + x.2.size) ≤ 1048576 := by
        have h1 := itemSum_take zs (k + 1)
        rw [take_snoc_item hxs, itemSum_append] at h1
        have h2 : itemSum [x] = 24 + x.2.size := rfl
        omega
      have HTK := Lib.hid (take_snoc_item hxs)
      clear c0 c1 hxs hb
      obtain ⟨xb, xt⟩ := x
      dsimp only at *
      by_cases h0 : k = 0
      · have h1 : (k : Int) ≤ 0 := by omega
        have HM : Hid (mt true (zs.take (k + 1)) = l0 ++ elemText (xb, xt)) := Lib.hid (by rw [HTK.out, HL0.out]; subst h0; exact mt_snoc0 true (xb, xt))
        clear h0
        rcases xb with _ | _
        · have HSTEP := Lib.hid (show mt true (zs.take (k + 1)) = l0 ++ xt.data.toList by rw [HM.out]; rfl)
          clear HM
          go_wp2_with fail
          refine (appendS _ w _ _ _ xt HO.out HB2.out (by first | omega | (simp; omega))).mono ?_
          rintro e w7 ⟨_, rfl, A7, n7, c7, d7, rfl, hn7, ho7, hb7, hz7⟩
          clear cx cx1
          go_wp2_with fail
          exact ⟨⟨k + 1, A7, c7, n7, _, d7, by omega, by go_num, rfl, HSTEP.out.symm, ho7.out, hb7.out⟩, by simp [intOf]; omega⟩
        · cases ht : xt.toList.isEmpty
          · have HSTEP := Lib.hid (show mt true (zs.take (k + 1)) = l0 ++ [46] ++ xt.data.toList by rw [HM.out]; simp [elemText, isIdx, ht])
            clear HM
            go_wp2_with (at_builtin; refine wp_byte rfl _ _ rfl _ w.heap.size _ _ _ rfl HO.out 46 _ rfl rfl (by first | omega | (simp; omega)) hz3 ?_)
            intro v' w6 ho
            obtain ⟨A6, n6, c6, d6, rfl, hn6, ho6, hb6, hz6⟩ := ho.partsN rfl (fun g hg => (HO.out.lt g hg).1) HB2.out
            clear ho cx cx1
            have cx := (hb6.out.cell (p := ⟨b, o + k * 2, none⟩) hbl).trans C0.out
            have cx1 := (hb6.out.cell (p := ⟨b, o + k * 2 + 1, none⟩) hbl).trans C1.out
            go_wp2_with fail
            refine (appendS _ w _ _ _ xt ho6.out hb6.out (by first | omega | (simp; omega))).mono ?_
            rintro e w7 ⟨_, rfl, A7, n7, c7, d7, rfl, hn7, ho7, hb7, hz7⟩
            clear cx cx1
            go_wp2_with fail
            exact ⟨⟨k + 1, A7, c7, n7, _, d7, by omega, by go_num, rfl, HSTEP.out.symm, ho7.out, hb7.out⟩, by simp [intOf]; omega⟩
          · have HSTEP := Lib.hid (show mt true (zs.take (k + 1)) = l0 ++ xt.data.toList by rw [HM.out]; simp [elemText, isIdx, ht])
            clear HM
            go_wp2_with fail
            refine (appendS _ w _ _ _ xt HO.out HB2.out (by first | omega | (simp; omega))).mono ?_
            rintro e w7 ⟨_, rfl, A7, n7, c7, d7, rfl, hn7, ho7, hb7, hz7⟩
            clear cx cx1
            go_wp2_with fail
            exact ⟨⟨k + 1, A7, c7, n7, _, d7, by omega, by go_num, rfl, HSTEP.out.symm, ho7.out, hb7.out⟩, by simp [intOf]; omega⟩
      · have h1 : 0 < k := by omega
        have hne : zs.take k ≠ [] := by
          intro e
          have := congrArg List.length e
          rw [List.length_take, HLZ.out] at this
          simp at this
          omega
        have HM : Hid (mt true (zs.take (k + 1)) = l0 ++ sepText true ++ elemText (xb, xt)) := Lib.hid (by rw [HTK.out, HL0.out]; exact mt_snoc true hne (xb, xt))
        clear hne
        rcases xb with _ | _
        · have HSTEP := Lib.hid (show mt true (zs.take (k + 1)) = l0 ++ [44, 32] ++ xt.data.toList by rw [HM.out]; rfl)
          clear HM
          go_wp2_with fail
          refine (appendS _ w _ _ _ ⟨([44, 32] : List UInt8).toArray⟩ HO.out HB2.out (by simp [ByteArray.size]; omega)).mono ?_
          rintro e w5 ⟨_, rfl, A5, n5, c5, d5, rfl, hn5, ho5, hb5, hz5⟩
          have cx := (hb5.out.cell (p := ⟨b, o + k * 2, none⟩) hbl).trans C0.out
          have cx1 := (hb5.out.cell (p := ⟨b, o + k * 2 + 1, none⟩) hbl).trans C1.out
          go_wp2_with fail
          refine (appendS _ w _ _ _ xt ho5.out hb5.out (by first | omega | (simp; omega))).mono ?_
          rintro e w7 ⟨_, rfl, A7, n7, c7, d7, rfl, hn7, ho7, hb7, hz7⟩
          clear cx cx1
          go_wp2_with fail
          exact ⟨⟨k + 1, A7, c7, n7, _, d7, by omega, by go_num, rfl, HSTEP.out.symm, ho7.out, hb7.out⟩, by simp [intOf]; omega⟩
        · cases ht : xt.toList.isEmpty
          · have HSTEP := Lib.hid (show mt true (zs.take (k + 1)) = l0 ++ [44, 32, 46] ++ xt.data.toList by rw [HM.out]; simp [elemText, isIdx, ht, sepText])
            clear HM
            go_wp2_with fail
            refine (appendS _ w _ _ _ ⟨([44, 32] : List UInt8).toArray⟩ HO.out HB2.out (by simp [ByteArray.size]; omega)).mono ?_
            rintro e w5 ⟨_, rfl, A5, n5, c5, d5, rfl, hn5, ho5, hb5, hz5⟩
            have cx := (hb5.out.cell (p := ⟨b, o + k * 2, none⟩) hbl).trans C0.out
            have cx1 := (hb5.out.cell (p := ⟨b, o + k * 2 + 1, none⟩) hbl).trans C1.out
            go_wp2_with (at_builtin; refine wp_byte rfl _ _ rfl _ w.heap.size _ _ _ rfl ho5.out 46 _ rfl rfl (by first | omega | (simp; omega)) hz5 ?_)
            intro v' w6 ho
            obtain ⟨A6, n6, c6, d6, rfl, hn6, ho6, hb6, hz6⟩ := ho.partsN rfl (fun g hg => (ho5.out.lt g hg).1) hb5.out
            clear ho cx cx1
            have cx := (hb6.out.cell (p := ⟨b, o + k * 2, none⟩) hbl).trans C0.out
            have cx1 := (hb6.out.cell (p := ⟨b, o + k * 2 + 1, none⟩) hbl).trans C1.out
            go_wp2_with fail
            refine (appendS _ w _ _ _ xt ho6.out hb6.out (by first | omega | (simp; omega))).mono ?_
            rintro e w7 ⟨_, rfl, A7, n7, c7, d7, rfl, hn7, ho7, hb7, hz7⟩
            clear cx cx1
            go_wp2_with fail
            exact ⟨⟨k + 1, A7, c7, n7, _, d7, by omega, by go_num, rfl, HSTEP.out.symm, ho7.out, hb7.out⟩, by simp [intOf]; omega⟩
          · have HSTEP := Lib.hid (show mt true (zs.take (k + 1)) = l0 ++ [44, 32] ++ xt.data.toList by rw [HM.out]; simp [elemText, isIdx, ht, sepText])
            clear HM
            go_wp2_with fail
            refine (appendS _ w _ _ _ ⟨([44, 32] : List UInt8).toArray⟩ HO.out HB2.out (by simp [ByteArray.size]; omega)).mono ?_
            rintro e w5 ⟨_, rfl, A5, n5, c5, d5, rfl, hn5, ho5, hb5, hz5⟩
            have cx := (hb5.out.cell (p := ⟨b, o + k * 2, none⟩) hbl).trans C0.out
            have cx1 := (hb5.out.cell (p := ⟨b, o + k * 2 + 1, none⟩) hbl).trans C1.out
            go_wp2_with fail
            refine (appendS _ w _ _ _ xt ho5.out hb5.out (by first | omega | (simp; omega))).mono ?_
            rintro e w7 ⟨_, rfl, A7, n7, c7, d7, rfl, hn7, ho7, hb7, hz7⟩
            clear cx cx1
            go_wp2_with fail
            exact ⟨⟨k + 1, A7, c7, n7, _, d7, by omega, by go_num, rfl, HSTEP.out.symm, ho7.out, hb7.out⟩, by simp [intOf]; omega⟩
    · obtain rfl : k = len := by omega
      have hn : l0.length ≤ 1048577 := by
        have := itemSum_take zs k
        omega
      go_wp2_with (at_builtin; refine wp_byte rfl _ _ rfl _ w.heap.size _ _ _ rfl HO.out 93 _ rfl rfl (by omega) hz3 ?_)
      intro v' w6 ho
      obtain ⟨A6, n6, c6, d6, rfl, hn6, ho6, hb6, hz6⟩ := ho.partsN rfl (fun g hg => (HO.out.lt g hg).1) HB2.out
      have hcv := ho6.out.conv
      clear ho hb
      go_wp2_with fail
      go_ret
      have hl0 := HL0.out
      rw [szSum_all HLZ.out] at hl0
      exact ⟨ret_s (by rw [← hl0]), hb6.out⟩
set_option maxRecDepth 100000 in
set_option maxHeartbeats 1000000 in
theorem arrMod_false (a : Option Addr) (len cap : Nat) (zs : List Item) (w : World) (h : SliceOf 2 IsItem w a len zs) (hl : len ≤ 4096) (hs : itemSum zs ≤ 1048576) :
    Calls Tryd.prog 21 #[.slice a len cap, .bool true] w fun e w' => e = .returned (.string ⟨(mt false zs ++ [93]).toArray⟩) ∧ Below w.heap.size w w' := by
  have H := Lib.hid h
  have HLZ := Lib.hid h.lt.1
  clear h
  have hmk : ∀ W, (Instr.makeSlice 39 (.int .i64 0) (.int .i64 2)).run Tryd.prog W = .ok (.slice (some ⟨W.heap.size, 0, none⟩) 0 2) (W.alloc (.cells (madeCells #[.int .u8 0] 2) 5)) := fun W => run_make_cap 2 (by omega) W
  go_enter Tryd.func21, Tryd.ntmps21
  go_wp2_with (at_builtin; refine wp_byteN rfl _ _ rfl _ (w.heap.size + 1) (by simp) w.heap.size _ _ _ rfl (OwnB.made w 2 (Nat.le_refl _) (by unfold maxLen; omega)) 91 _ rfl rfl (by simp) (by simp) ?_)
  intro v' w2 ho
  obtain ⟨A2, n2, c2, d2, rfl, hn2, ho2, hb2, hz2⟩ := ho.partsN (w0 := w) rfl (fun g hg => by injection hg with hg; omega) ((Below.refl _ _).alloc (Nat.le_refl _) _)
  clear ho hmk
  go_wp2_with fail
  go_loopw [6, 7] (fun v i wr => ∃ (k : Nat) (A : Option Addr) (c n : Nat) (l : List UInt8) (d : Option Nat), k ≤ len ∧ i = .int .i64 k ∧ v = .slice A n c ∧ l = mt false (zs.take k) ∧ (OwnB wr w.heap.size (.slice A n c) d l) ∧ Below w.heap.size w wr) (fun _ i _ => len - (intOf i).toNat)
  case atStart => exact ⟨0, A2, c2, n2, _, d2, Nat.zero_le _, rfl, rfl, rfl, ho2.out, hb2.out⟩
  case round =>
    obtain ⟨k, A, c, n, l0, d, hk, rfl, rfl, hl0, ho, hb⟩ := hrel
    have HL0 := Lib.hid hl0
    have HO := Lib.hid ho
    have HB2 := Lib.hid hb
    have hz3 := hb.size
    have hbnd : l0.length ≤ itemSum (zs.take k) + 1 := by rw [hl0]; exact mt_le _ _
    clear hl0 ho
    by_cases hlt : k < len
    · obtain ⟨b, o, x, rfl, hbl, hxs, _, c0, c1⟩ := H.out.item hlt
      have cx := (hb.cell (p := ⟨b, o + k * 2, none⟩) hbl).trans c0
      have cx1 := (hb.cell (p := ⟨b, o + k * 2 + 1, none⟩) hbl).trans c1
      have C0 := Lib.hid c0
      have C1 := Lib.hid c1
      have hsum : itemSum (zs.take k) + (24 + x.2.size) ≤ 1048576 := by
        have h1 := itemSum_take zs (k + 1)
        rw [take_snoc_item hxs, itemSum_append] at h1
        have h2 : itemSum [x] = 24 + x.2.size := rfl
        omega
      have HTK := Lib.hid (take_snoc_item hxs)
      clear c0 c1 hxs hb
      obtain ⟨xb, xt⟩ := x
      dsimp only at *
      by_cases h0 : k = 0
      · have h1 : (k : Int) ≤ 0 := by omega
        have HM : Hid (mt false (zs.take (k + 1)) = l0 ++ elemText (xb, xt)) := Lib.hid (by rw [HTK.out, HL0.out]; subst h0; exact mt_snoc0 false (xb, xt))
        clear h0
        rcases xb with _ | _
        · have HSTEP := Lib.hid (show mt false (zs.take (k + 1)) = l0 ++ xt.data.toList by rw [HM.out]; rfl)
          clear HM
          go_wp2_with fail
          refine (appendS _ w _ _ _ xt HO.out HB2.out (by first | omega | (simp; omega))).mono ?_
          rintro e w7 ⟨_, rfl, A7, n7, c7, d7, rfl, hn7, ho7, hb7, hz7⟩
          clear cx cx1
          go_wp2_with fail
          exact ⟨⟨k + 1, A7, c7, n7, _, d7, by omega, by go_num, rfl, HSTEP.out.symm, ho7.out, hb7.out⟩, by simp [intOf]; omega⟩
        · cases ht : xt.toList.isEmpty
          · have HSTEP := Lib.hid (show mt false (zs.take (k + 1)) = l0 ++ [46] ++ xt.data.toList by rw [HM.out]; simp [elemText, isIdx, ht])
            clear HM
            go_wp2_with (at_builtin; refine wp_byte rfl _ _ rfl _ w.heap.size _ _ _ rfl HO.out 46 _ rfl rfl (by first | omega | (simp; omega)) hz3 ?_)
            intro v' w6 ho
            obtain ⟨A6, n6, c6, d6, rfl, hn6, ho6, hb6, hz6⟩ := ho.partsN rfl (fun g hg => (HO.out.lt g hg).1) HB2.out
            clear ho cx cx1
            have cx := (hb6.out.cell (p := ⟨b, o + k * 2, none⟩) hbl).trans C0.out
            have cx1 := (hb6.out.cell (p := ⟨b, o + k * 2 + 1, none⟩) hbl).trans C1.out
            go_wp2_with fail
            refine (appendS _ w _ _ _ xt ho6.out hb6.out (by first | omega | (simp; omega))).mono ?_
            rintro e w7 ⟨_, rfl, A7, n7, c7, d7, rfl, hn7, ho7, hb7, hz7⟩
            clear cx cx1
            go_wp2_with fail
            exact ⟨⟨k + 1, A7, c7, n7, _, d7, by omega, by go_num, rfl, HSTEP.out.symm, ho7.out, hb7.out⟩, by simp [intOf]; omega⟩
          · have HSTEP := Lib.hid (show mt false (zs.take (k + 1)) = l0 ++ xt.data.toList by rw [HM.out]; simp [elemText, isIdx, ht])
            clear HM
            go_wp2_with fail
            refine (appendS _ w _ _ _ xt HO.out HB2.out (by first | omega | (simp; omega))).mono ?_
            rintro e w7 ⟨_, rfl, A7, n7, c7, d7, rfl, hn7, ho7, hb7, hz7⟩
            clear cx cx1
            go_wp2_with fail
            exact ⟨⟨k + 1, A7, c7, n7, _, d7, by omega, by go_num, rfl, HSTEP.out.symm, ho7.out, hb7.out⟩, by simp [intOf]; omega⟩
      · have h1 : 0 < k := by omega
        have hne : zs.take k ≠ [] := by
          intro e
          have := congrArg List.length e
          rw [List.length_take, HLZ.out] at this
          simp at this
          omega
        have HM : Hid (mt false (zs.take (k + 1)) = l0 ++ sepText false ++ elemText (xb, xt)) := Lib.hid (by rw [HTK.out, HL0.out]; exact mt_snoc false hne (xb, xt))
        clear hne
        rcases xb with _ | _
        · have HSTEP := Lib.hid (show mt false (zs.take (k + 1)) = l0 ++ [32, 124, 32] ++ xt.data.toList by rw [HM.out]; rfl)
          clear HM
          go_wp2_with fail
          refine (appendS _ w _ _ _ ⟨([32, 124, 32] : List UInt8).toArray⟩ HO.out HB2.out (by simp [ByteArray.size]; omega)).mono ?_
          rintro e w5 ⟨_, rfl, A5, n5, c5, d5, rfl, hn5, ho5, hb5, hz5⟩
          have cx := (hb5.out.cell (p := ⟨b, o + k * 2, none⟩) hbl).trans C0.out
          have cx1 := (hb5.out.cell (p := ⟨b, o + k * 2 + 1, none⟩) hbl).trans C1.out
          go_wp2_with fail
          refine (appendS _ w _ _ _ xt ho5.out hb5.out (by first | omega | (simp; omega))).mono ?_
          rintro e w7 ⟨_, rfl, A7, n7, c7, d7, rfl, hn7, ho7, hb7, hz7⟩
          clear cx cx1
          go_wp2_with fail
          exact ⟨⟨k + 1, A7, c7, n7, _, d7, by omega, by go_num, rfl, HSTEP.out.symm, ho7.out, hb7.out⟩, by simp [intOf]; omega⟩
        · cases ht : xt.toList.isEmpty
          · have HSTEP := Lib.hid (show mt false (zs.take (k + 1)) = l0 ++ [32, 124, 32, 46] ++ xt.data.toList by rw [HM.out]; simp [elemText, isIdx, ht, sepText])
            clear HM
            go_wp2_with fail
            refine (appendS _ w _ _ _ ⟨([32, 124, 32] : List UInt8).toArray⟩ HO.out HB2.out (by simp [ByteArray.size]; omega)).mono ?_
            rintro e w5 ⟨_, rfl, A5, n5, c5, d5, rfl, hn5, ho5, hb5, hz5⟩
            have cx := (hb5.out.cell (p := ⟨b, o + k * 2, none⟩) hbl).trans C0.out
            have cx1 := (hb5.out.cell (p := ⟨b, o + k * 2 + 1, none⟩) hbl).trans C1.out
            go_wp2_with (at_builtin; refine wp_byte rfl _ _ rfl _ w.heap.size _ _ _ rfl ho5.out 46 _ rfl rfl (by first | omega | (simp; omega)) hz5 ?_)
            intro v' w6 ho
            obtain ⟨A6, n6, c6, d6, rfl, hn6, ho6, hb6, hz6⟩ := ho.partsN rfl (fun g hg => (ho5.out.lt g hg).1) hb5.out
            clear ho cx cx1
            have cx := (hb6.out.cell (p := ⟨b, o + k * 2, none⟩) hbl).trans C0.out
            have cx1 := (hb6.out.cell (p := ⟨b, o + k * 2 + 1, none⟩) hbl).trans C1.out
            go_wp2_with fail
            refine (appendS _ w _ _ _ xt ho6.out hb6.out (by first | omega | (simp; omega))).mono ?_
            rintro e w7 ⟨_, rfl, A7, n7, c7, d7, rfl, hn7, ho7, hb7, hz7⟩
            clear cx cx1
            go_wp2_with fail
            exact ⟨⟨k + 1, A7, c7, n7, _, d7, by omega, by go_num, rfl, HSTEP.out.symm, ho7.out, hb7.out⟩, by simp [intOf]; omega⟩
          · have HSTEP := Lib.hid (show mt false (zs.take (k + 1)) = l0 ++ [32, 124, 32] ++ xt.data.toList by rw [HM.out]; simp [elemText, isIdx, ht, sepText])
            clear HM
            go_wp2_with fail
            refine (appendS _ w _ _ _ ⟨([32, 124, 32] : List UInt8).toArray⟩ HO.out HB2.out (by simp [ByteArray.size]; omega)).mono ?_
            rintro e w5 ⟨_, rfl, A5, n5, c5, d5, rfl, hn5, ho5, hb5, hz5⟩
            have cx := (hb5.out.cell (p := ⟨b, o + k * 2, none⟩) hbl).trans C0.out
            have cx1 := (hb5.out.cell (p := ⟨b, o + k * 2 + 1, none⟩) hbl).trans C1.out
            go_wp2_with fail
            refine (appendS _ w _ _ _ xt ho5.out hb5.out (by first | omega | (simp; omega))).mono ?_
            rintro e w7 ⟨_, rfl, A7, n7, c7, d7, rfl, hn7, ho7, hb7, hz7⟩
            clear cx cx1
            go_wp2_with fail
            exact ⟨⟨k + 1, A7, c7, n7, _, d7, by omega, by go_num, rfl, HSTEP.out.symm, ho7.out, hb7.out⟩, by simp [intOf]; omega⟩
    · obtain rfl : k = len := by omega
      have hn : l0.length ≤ 1048577 := by
        have := itemSum_take zs k
        omega
      go_wp2_with (at_builtin; refine wp_byte rfl _ _ rfl _ w.heap.size _ _ _ rfl HO.out 93 _ rfl rfl (by omega) hz3 ?_)
      intro v' w6 ho
      obtain ⟨A6, n6, c6, d6, rfl, hn6, ho6, hb6, hz6⟩ := ho.partsN rfl (fun g hg => (HO.out.lt g hg).1) HB2.out
      have hcv := ho6.out.conv
      clear ho hb
      go_wp2_with fail
      go_ret
      have hl0 := HL0.out
      rw [szSum_all HLZ.out] at hl0
      exact ⟨ret_s (by rw [← hl0]), hb6.out⟩
theorem arrMod (a : Option Addr) (len cap : Nat) (zs : List Item) (pipe : Bool) (w : World) (h : SliceOf 2 IsItem w a len zs) (hl : len ≤ 4096) (hs : itemSum zs ≤ 1048576) :
    Calls Tryd.prog 21 #[.slice a len cap, .bool pipe] w fun e w' => e = .returned (.string ⟨(mt (!pipe) zs ++ [93]).toArray⟩) ∧ Below w.heap.size w w' := by
  cases pipe
  · exact arrMod_true a len cap zs w h hl hs
  · exact arrMod_false a len cap zs w h hl hs
end Go.Proofs.YtebcjlgeppebgaaDoor
