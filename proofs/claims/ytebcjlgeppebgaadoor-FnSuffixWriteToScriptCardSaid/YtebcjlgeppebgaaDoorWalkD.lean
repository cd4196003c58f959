/-
  The walk of the law FnSuffixWriteToAfterPrefix (n001_84): it returns true for every input.
-/
import Derived.Test.YtebcjlgeppebgaaDoorWalkC
namespace Go.Proofs.YtebcjlgeppebgaaDoor
set_option linter.unusedVariables false
open Go.ChangeShapes Go.WideShapes Go.ChangeAt Go.RowKit Go.Deep M
theorem zSufTo (w : World) (B b : Nat) (d : Option Nat) (acc : List UInt8) (n : Nat) (x : Suf) (hi : IsSufM w n x) (hx : x.refused = false) (hb : Bld w B b d acc) (hl : acc.length + x.size + 4 ≤ 140737488355328) (hB : B ≤ w.heap.size) :
    Calls Tryd.prog 30 #[.pointer (some ⟨n, 0, none⟩), .pointer (some ⟨b, 0, none⟩)] w (POut w B b d (prSuf x acc)) := by
  have HI := Lib.hid hi
  have HX := Lib.hid hx
  have HB := Lib.hid hb
  clear hi hx hb
  go_enter Tryd.func30, Tryd.ntmps30
  go_wp2_with fail
  refine (sufTo _ B b d acc n x HI.out HX.out HB.out hl hB).mono ?_
  rintro e w1 ⟨rfl, ho⟩
  have HO := Lib.hid ho
  clear ho
  unfold NoEnd
  go_wp2_with fail
  go_end0
  exact POut.mk HO.out
set_option maxHeartbeats 1000000 in
theorem spaceB (x : Suf) (has : Bool) (c : UInt8) (w : World) : Calls Tryd.prog 31 #[.agg (sufVals x), .bool has, .int .u8 c.toNat] w (BoolIs (x.hasIndex && !x.name.toList.isEmpty && (has && sp [c])) w) := by
  obtain ⟨ix, nm, sl, hs, st, he, en, it, op⟩ := x
  cases ix
  · go_enter Tryd.func31, Tryd.ntmps31
    go_wp2_with fail
    go_ret
    exact ⟨rfl, (Below.refl _ _).alloc (Nat.le_refl _) _⟩
  · cases hn : nm.toList.isEmpty
    · cases has
      · go_enter Tryd.func31, Tryd.ntmps31
        go_wp2_with fail
        go_ret
        exact ⟨ret_b (by simp), (Below.refl _ _).alloc (Nat.le_refl _) _⟩
      · rcases sp_cases (acc := [c]) (c := c) rfl with ⟨hsp, hcase⟩ | ⟨hsp, hcase⟩
        · have HS := Lib.hid hsp
          clear hsp
          rcases hcase with rfl | ⟨q1, q2, q3⟩
          all_goals
            go_enter Tryd.func31, Tryd.ntmps31
            go_wp2_with fail
            go_ret
            exact ⟨ret_b (by rw [HS.out]; simp), (Below.refl _ _).alloc (Nat.le_refl _) _⟩
        · have HS := Lib.hid hsp
          clear hsp
          rcases hcase with ⟨q1, q2⟩ | ⟨q1, q2, q3⟩
          · go_enter Tryd.func31, Tryd.ntmps31
            go_wp2_with fail
            go_ret
            exact ⟨ret_b (by rw [HS.out]), (Below.refl _ _).alloc (Nat.le_refl _) _⟩
          · go_enter Tryd.func31, Tryd.ntmps31
            go_wp2_with fail
            go_ret
            exact ⟨ret_b (by rw [HS.out]; simp; omega), (Below.refl _ _).alloc (Nat.le_refl _) _⟩
    · go_enter Tryd.func31, Tryd.ntmps31
      go_wp2_with fail
      go_ret
      exact ⟨ret_b (by simp), (Below.refl _ _).alloc (Nat.le_refl _) _⟩
theorem sp_last {l : List UInt8} {c : UInt8} (h : l.getLast? = some c) : sp l = sp [c] := by
  unfold sp
  rw [h]
  rfl
theorem last_str {p : ByteArray} (h : 0 < p.size) : ∃ c, p[p.size - 1]'(by omega) = c ∧ p.data.toList.getLast? = some c := by
  refine ⟨_, rfl, ?_⟩
  rw [List.getLast?_eq_getElem?, toList_len, List.getElem?_eq_getElem (by rw [toList_len]; omega)]
  rfl
theorem text_le {x : Suf} (h : x.size ≤ 1048576) : x.text.length ≤ 2097152 := by
  obtain ⟨ix, nm, sl, hs, st, he, en, it, op⟩ := x
  unfold Suf.size at h
  unfold Suf.text
  dsimp only at h ⊢
  have e1 : nm.data.toList.length = nm.size := rfl
  have e2 : st.data.toList.length = st.size := rfl
  have e3 : en.data.toList.length = en.size := rfl
  cases ix <;> cases nm.toList.isEmpty <;> cases sl <;> cases hs <;> cases he <;> cases it <;> cases op <;> simp only [List.length_append, List.length_cons, List.length_nil, if_true, if_false, Bool.false_eq_true, e1, e2, e3] <;> omega
theorem cat_eq2 (l : List UInt8) (a : ByteArray) (m : List UInt8) (h : l = a.data.toList ++ m) : (l == (a ++ (⟨m.toArray⟩ : ByteArray)).toList) = true := by
  subst h
  exact cat_eq a m
set_option maxRecDepth 100000 in
set_option maxHeartbeats 4000000 in
theorem sufAfter.main (p : ByteArray) (z0 : Suf) (w : World) (hp2 : p.size ≤ 1048576) (hs1 : z0.name.size ≤ maxLen) (hs2 : z0.start.size ≤ maxLen) (hs3 : z0.stop.size ≤ maxLen) :
    Calls Tryd.prog 7 #[.string p, .agg (sufVals z0)] w fun e w' => e = .returned (.bool true) ∧ Below w.heap.size w w' := by
  go_enter Tryd.func7, Tryd.ntmps7
  go_wp2_with fail
  refine (zz29 p (by unfold maxLen; omega) z0 _ ⟨hs1, hs2, hs3⟩).mono ?_
  rintro e w1 ⟨b, rfl, hbp, hb⟩
  have hr := (Row.made w 23 (sufVals z0)).keep hb (Row.made w 23 (sufVals z0)).lt
  have hbb := ((Below.refl w.heap.size w).alloc (Nat.le_refl _) (.cells (sufVals z0) 23)).trans (hb.mono (by simp))
  obtain ⟨q0, q1, q2, q3, q4, q5, q6, q7, q8⟩ := box_cells hr
  have hgl1 := hr.lt
  have HR1 := Lib.hid hr
  have HB1 := Lib.hid hbb
  have hz1 := hbb.size
  clear hr hb hbb
  cases b
  · clear hbp
    go_wp2_with fail
    go_ret
    exact ⟨rfl, HB1.out⟩
  have hsz := hbp rfl
  clear hbp
  go_wp2_with fail
  refine (sufBytesC z0 _ hsz).mono ?_
  rintro e w2 ⟨rfl, hb⟩
  have hr := HR1.out.keep hb HR1.out.lt
  have hbb := HB1.out.trans (hb.mono hz1)
  clear q0 q1 q2 q3 q4 q5 q6 q7 q8
  obtain ⟨q0, q1, q2, q3, q4, q5, q6, q7, q8⟩ := box_cells hr
  have hgl2 := hr.lt
  have HR2 := Lib.hid hr
  have HB2 := Lib.hid hbb
  have hz2 := hbb.size
  clear hr hbb
  clear hb
  by_cases hs : ¬ 64 + z0.size ≤ 1048576
  · go_wp2_with fail
    go_ret
    exact ⟨rfl, HB2.out⟩
  have hs' : 64 + z0.size ≤ 1048576 := by omega
  clear hs
  go_wp2_with fail
  refine (sufBytesC z0 _ hsz).mono ?_
  rintro e w3 ⟨rfl, hb⟩
  have hr := HR2.out.keep hb HR2.out.lt
  have hbb := HB2.out.trans (hb.mono hz2)
  clear q0 q1 q2 q3 q4 q5 q6 q7 q8
  obtain ⟨q0, q1, q2, q3, q4, q5, q6, q7, q8⟩ := box_cells hr
  have hgl3 := hr.lt
  have HR3 := Lib.hid hr
  have HB3 := Lib.hid hbb
  have hz3 := hbb.size
  clear hr hbb
  clear hb
  by_cases hs : ¬ p.size + (64 + z0.size) ≤ 1048576
  · go_wp2_with fail
    go_ret
    exact ⟨rfl, HB3.out⟩
  have hs'' : p.size + (64 + z0.size) ≤ 1048576 := by omega
  clear hs
  go_wp2_with fail
  refine (sufRefusedC z0 _).mono ?_
  rintro e w4 ⟨rfl, hb⟩
  have hr := HR3.out.keep hb HR3.out.lt
  have hbb := HB3.out.trans (hb.mono hz3)
  clear q0 q1 q2 q3 q4 q5 q6 q7 q8
  obtain ⟨q0, q1, q2, q3, q4, q5, q6, q7, q8⟩ := box_cells hr
  have hgl4 := hr.lt
  have HR4 := Lib.hid hr
  have HB4 := Lib.hid hbb
  have hz4 := hbb.size
  clear hr hbb
  clear hb
  cases hrf : z0.refused
  rotate_left
  · go_wp2_with fail
    go_ret
    exact ⟨rfl, HB4.out⟩
  have HRF := Lib.hid hrf
  clear hrf
  go_wp2_with fail
  have hfr := Bld.fresh w4 (Nat.le_refl _)
  have hal : Below w4.heap.size w4 (w4.alloc (.cells #[.pointer none, .slice none 0 0] tBld)) := (Below.refl _ _).alloc (Nat.le_refl _) _
  have HFR := Lib.hid hfr
  have HAL := Lib.hid hal
  clear hfr hal
  refine (bstrP _ w4.heap.size w4.heap.size none [] p HFR.out (by simp; omega) (by simp)).mono ?_
  rintro e w5 ⟨rfl, d5, hb5, hd5, ht5, hk5, hz5'⟩
  have hb := HAL.out.trans ((BOut.then hd5.out ht5.out (BOut.refl hb5.out)).below HFR.out (Nat.le_refl _))
  have hr := HR4.out.keep hb HR4.out.lt
  have hbb := HB4.out.trans (hb.mono hz4)
  clear q0 q1 q2 q3 q4 q5 q6 q7 q8
  obtain ⟨q0, q1, q2, q3, q4, q5, q6, q7, q8⟩ := box_cells hr
  have hgl5 := hr.lt
  have HR5 := Lib.hid hr
  have HB5 := Lib.hid hbb
  have hz5 := hbb.size
  clear hr hbb
  have hy5 : w4.heap.size ≤ w5.heap.size := hb.size
  have HW5 := Lib.hid hb
  clear hb
  go_wp2_with fail
  refine (buildSuf z0 _).mono ?_
  rintro e w6 ⟨n, rfl, hq, hb⟩
  have hr := HR5.out.keep hb HR5.out.lt
  have hbb := HB5.out.trans (hb.mono hz5)
  clear q0 q1 q2 q3 q4 q5 q6 q7 q8
  obtain ⟨q0, q1, q2, q3, q4, q5, q6, q7, q8⟩ := box_cells hr
  have hgl6 := hr.lt
  have HR6 := Lib.hid hr
  have HB6 := Lib.hid hbb
  have hz6 := hbb.size
  clear hr hbb
  have hy6 : w4.heap.size ≤ w6.heap.size := Nat.le_trans hy5 hb.size
  have HQ6 := Lib.hid hq
  have HBB6 := Lib.hid (hb5.out.below hb)
  have HW6 := Lib.hid (HW5.out.trans (hb.mono hy5))
  clear hq hb
  go_wp2_with fail
  refine (zSufTo _ w4.heap.size w4.heap.size d5 _ n z0 HQ6.out HRF.out HBB6.out (by simp; omega) hy6).mono ?_
  rintro e w7 ⟨rfl, ho⟩
  obtain ⟨d7, hb7, hd7, ht7, hk7, hz7'⟩ := POut.parts HBB6.out ho
  have hb := ho.below HBB6.out (Nat.le_refl _)
  have hbw := HW6.out.trans hb
  have hy7 : w4.heap.size ≤ w7.heap.size := hbw.size
  have hr := hk7.out _ _ _ HR6.out (by decide) (by decide)
  have hbb := HB4.out.trans (hbw.mono hz4)
  clear q0 q1 q2 q3 q4 q5 q6 q7 q8
  obtain ⟨q0, q1, q2, q3, q4, q5, q6, q7, q8⟩ := box_cells hr
  have hgl7 := hr.lt
  have HR7 := Lib.hid hr
  have HB7 := Lib.hid hbb
  have hz7 := hbb.size
  clear hr hbb ho hb hbw
  unfold NoEnd
  by_cases hp0 : p.size = 0
  · have hpz : (p.size : Int) ≤ 0 := by omega
    have hsp : sp p.data.toList = false := by
      have : p.data.toList = [] := List.eq_nil_of_length_eq_zero (by rw [toList_len]; exact hp0)
      rw [this]
      rfl
    have hsv : z0.space p.data.toList = (z0.hasIndex && !z0.name.toList.isEmpty && (false && sp [0])) := by
      unfold Suf.space
      rw [hsp]
      simp
    have HSV := Lib.hid hsv
    clear hp0 hsp hsv
    go_wp2_with fail
    refine (spaceB z0 false 0 _).mono ?_
    rintro e w8 ⟨rfl, hb⟩
    rw [← HSV.out]
    have hr := HR7.out.keep hb HR7.out.lt
    have hbb := HB7.out.trans (hb.mono hz7)
    clear q0 q1 q2 q3 q4 q5 q6 q7 q8
    obtain ⟨q0, q1, q2, q3, q4, q5, q6, q7, q8⟩ := box_cells hr
    have hgl8 := hr.lt
    have HR8 := Lib.hid hr
    have HB8 := Lib.hid hbb
    have hz8 := hbb.size
    clear hr hbb
    have HBB8 := Lib.hid (hb7.out.below hb)
    have hy8 : w4.heap.size ≤ w8.heap.size := Nat.le_trans hy7 hb.size
    clear hb
    cases hspc : z0.space p.data.toList
    · have HP := Lib.hid (show prSuf z0 ([] ++ p.data.toList) = p.data.toList ++ z0.text by rw [List.nil_append]; unfold prSuf; rw [hspc]; simp)
      clear hspc
      have HBP := Lib.hid (show Bld w8 w4.heap.size w4.heap.size d7 (p.data.toList ++ z0.text) by rw [← HP.out]; exact HBB8.out)
      have htl : z0.text.length ≤ 2097152 := text_le hsz
      have hcc : p.size + z0.text.length ≤ 9223372036854775807 := by omega
      have hcc2 : p.size + 1 + z0.text.length ≤ 9223372036854775807 := by omega
      go_wp2_with fail
      have hB : Below w8.heap.size w8 w8.drew := Below.drew (Below.refl _ w8)
      have HX : Hid (Row w8.drew w.heap.size 23 (sufVals z0)) := Lib.hid HR8.out
      have HBQ : Hid (Bld w8.drew w4.heap.size w4.heap.size d7 (p.data.toList ++ z0.text)) := Lib.hid HBP.out
      have hyq : w4.heap.size ≤ w8.drew.heap.size := hy8
      have hbt : Below w.heap.size w w8.drew := HB8.out.drew
      have hbtz : w.heap.size ≤ w8.drew.heap.size := hz8
      go_region_with (first
        | (go_at_call 25; refine (bstring _ w4.heap.size w4.heap.size d7 _ HBQ.out).mono ?_; rintro e w9 ⟨rfl, hs9⟩; have hb := hs9.out.below HBQ.out (Nat.le_refl _); have hbt := hbt.trans (hb.mono hz4); have hbtz := hbt.size; have HX := Lib.hid (HX.out.touch hs9.2 (fun e => HBQ.out.ne HX.out (by decide) (by decide) (.inr e))); obtain ⟨q0, q1, q2, q3, q4, q5, q6, q7, q8⟩ := box_cells HX.out; clear hs9 hb)
        | (go_at_call 15; refine (sufModelC z0 _ hsz).mono ?_; rintro e w10 ⟨rfl, hb⟩; have hbt := hbt.trans (hb.mono hbtz); have hbtz := hbt.size; have HX := Lib.hid (HX.out.keep hb HX.out.lt); obtain ⟨q0, q1, q2, q3, q4, q5, q6, q7, q8⟩ := box_cells HX.out; (try (have HBQ := Lib.hid (HBQ.out.below hb))); clear hb))
      all_goals go_wp2_with fail
      all_goals go_ret
      all_goals exact ⟨ret_b (cat_eq2 _ _ _ (by simp)), hbt⟩
    · have HP := Lib.hid (show prSuf z0 ([] ++ p.data.toList) = p.data.toList ++ [32] ++ z0.text by rw [List.nil_append]; unfold prSuf; rw [hspc]; simp)
      clear hspc
      have HBP := Lib.hid (show Bld w8 w4.heap.size w4.heap.size d7 (p.data.toList ++ [32] ++ z0.text) by rw [← HP.out]; exact HBB8.out)
      have hcc0 : p.size + 1 ≤ 9223372036854775807 := by omega
      have htl : z0.text.length ≤ 2097152 := text_le hsz
      have hcc : p.size + z0.text.length ≤ 9223372036854775807 := by omega
      have hcc2 : p.size + 1 + z0.text.length ≤ 9223372036854775807 := by omega
      go_wp2_with fail
      have hB : Below w8.heap.size w8 w8.drew := Below.drew (Below.refl _ w8)
      have HX : Hid (Row w8.drew w.heap.size 23 (sufVals z0)) := Lib.hid HR8.out
      have HBQ : Hid (Bld w8.drew w4.heap.size w4.heap.size d7 (p.data.toList ++ [32] ++ z0.text)) := Lib.hid HBP.out
      have hyq : w4.heap.size ≤ w8.drew.heap.size := hy8
      have hbt : Below w.heap.size w w8.drew := HB8.out.drew
      have hbtz : w.heap.size ≤ w8.drew.heap.size := hz8
      go_region_with (first
        | (go_at_call 25; refine (bstring _ w4.heap.size w4.heap.size d7 _ HBQ.out).mono ?_; rintro e w9 ⟨rfl, hs9⟩; have hb := hs9.out.below HBQ.out (Nat.le_refl _); have hbt := hbt.trans (hb.mono hz4); have hbtz := hbt.size; have HX := Lib.hid (HX.out.touch hs9.2 (fun e => HBQ.out.ne HX.out (by decide) (by decide) (.inr e))); obtain ⟨q0, q1, q2, q3, q4, q5, q6, q7, q8⟩ := box_cells HX.out; clear hs9 hb)
        | (go_at_call 15; refine (sufModelC z0 _ hsz).mono ?_; rintro e w10 ⟨rfl, hb⟩; have hbt := hbt.trans (hb.mono hbtz); have hbtz := hbt.size; have HX := Lib.hid (HX.out.keep hb HX.out.lt); obtain ⟨q0, q1, q2, q3, q4, q5, q6, q7, q8⟩ := box_cells HX.out; (try (have HBQ := Lib.hid (HBQ.out.below hb))); clear hb))
      all_goals go_wp2_with fail
      all_goals go_ret
      all_goals exact ⟨ret_b (cat_eq2 _ _ _ (by simp [ByteArray.data_append])), hbt⟩
  · have hpz : 0 < p.size := by omega
    obtain ⟨c, hc, hlast⟩ := last_str hpz
    have hsv : z0.space p.data.toList = (z0.hasIndex && !z0.name.toList.isEmpty && (true && sp [c])) := by
      unfold Suf.space
      rw [sp_last hlast, Bool.true_and]
    have HSV := Lib.hid hsv
    clear hp0 hlast hsv
    go_wp2_with fail
    refine (spaceB z0 true c _).mono ?_
    rintro e w8 ⟨rfl, hb⟩
    rw [← HSV.out]
    have hr := HR7.out.keep hb HR7.out.lt
    have hbb := HB7.out.trans (hb.mono hz7)
    clear q0 q1 q2 q3 q4 q5 q6 q7 q8
    obtain ⟨q0, q1, q2, q3, q4, q5, q6, q7, q8⟩ := box_cells hr
    have hgl8 := hr.lt
    have HR8 := Lib.hid hr
    have HB8 := Lib.hid hbb
    have hz8 := hbb.size
    clear hr hbb
    have HBB8 := Lib.hid (hb7.out.below hb)
    have hy8 : w4.heap.size ≤ w8.heap.size := Nat.le_trans hy7 hb.size
    clear hb
    cases hspc : z0.space p.data.toList
    · have HP := Lib.hid (show prSuf z0 ([] ++ p.data.toList) = p.data.toList ++ z0.text by rw [List.nil_append]; unfold prSuf; rw [hspc]; simp)
      clear hspc
      have HBP := Lib.hid (show Bld w8 w4.heap.size w4.heap.size d7 (p.data.toList ++ z0.text) by rw [← HP.out]; exact HBB8.out)
      have htl : z0.text.length ≤ 2097152 := text_le hsz
      have hcc : p.size + z0.text.length ≤ 9223372036854775807 := by omega
      have hcc2 : p.size + 1 + z0.text.length ≤ 9223372036854775807 := by omega
      go_wp2_with fail
      have hB : Below w8.heap.size w8 w8.drew := Below.drew (Below.refl _ w8)
      have HX : Hid (Row w8.drew w.heap.size 23 (sufVals z0)) := Lib.hid HR8.out
      have HBQ : Hid (Bld w8.drew w4.heap.size w4.heap.size d7 (p.data.toList ++ z0.text)) := Lib.hid HBP.out
      have hyq : w4.heap.size ≤ w8.drew.heap.size := hy8
      have hbt : Below w.heap.size w w8.drew := HB8.out.drew
      have hbtz : w.heap.size ≤ w8.drew.heap.size := hz8
      go_region_with (first
        | (go_at_call 25; refine (bstring _ w4.heap.size w4.heap.size d7 _ HBQ.out).mono ?_; rintro e w9 ⟨rfl, hs9⟩; have hb := hs9.out.below HBQ.out (Nat.le_refl _); have hbt := hbt.trans (hb.mono hz4); have hbtz := hbt.size; have HX := Lib.hid (HX.out.touch hs9.2 (fun e => HBQ.out.ne HX.out (by decide) (by decide) (.inr e))); obtain ⟨q0, q1, q2, q3, q4, q5, q6, q7, q8⟩ := box_cells HX.out; clear hs9 hb)
        | (go_at_call 15; refine (sufModelC z0 _ hsz).mono ?_; rintro e w10 ⟨rfl, hb⟩; have hbt := hbt.trans (hb.mono hbtz); have hbtz := hbt.size; have HX := Lib.hid (HX.out.keep hb HX.out.lt); obtain ⟨q0, q1, q2, q3, q4, q5, q6, q7, q8⟩ := box_cells HX.out; (try (have HBQ := Lib.hid (HBQ.out.below hb))); clear hb))
      all_goals go_wp2_with fail
      all_goals go_ret
      all_goals exact ⟨ret_b (cat_eq2 _ _ _ (by simp)), hbt⟩
    · have HP := Lib.hid (show prSuf z0 ([] ++ p.data.toList) = p.data.toList ++ [32] ++ z0.text by rw [List.nil_append]; unfold prSuf; rw [hspc]; simp)
      clear hspc
      have HBP := Lib.hid (show Bld w8 w4.heap.size w4.heap.size d7 (p.data.toList ++ [32] ++ z0.text) by rw [← HP.out]; exact HBB8.out)
      have hcc0 : p.size + 1 ≤ 9223372036854775807 := by omega
      have htl : z0.text.length ≤ 2097152 := text_le hsz
      have hcc : p.size + z0.text.length ≤ 9223372036854775807 := by omega
      have hcc2 : p.size + 1 + z0.text.length ≤ 9223372036854775807 := by omega
      go_wp2_with fail
      have hB : Below w8.heap.size w8 w8.drew := Below.drew (Below.refl _ w8)
      have HX : Hid (Row w8.drew w.heap.size 23 (sufVals z0)) := Lib.hid HR8.out
      have HBQ : Hid (Bld w8.drew w4.heap.size w4.heap.size d7 (p.data.toList ++ [32] ++ z0.text)) := Lib.hid HBP.out
      have hyq : w4.heap.size ≤ w8.drew.heap.size := hy8
      have hbt : Below w.heap.size w w8.drew := HB8.out.drew
      have hbtz : w.heap.size ≤ w8.drew.heap.size := hz8
      go_region_with (first
        | (go_at_call 25; refine (bstring _ w4.heap.size w4.heap.size d7 _ HBQ.out).mono ?_; rintro e w9 ⟨rfl, hs9⟩; have hb := hs9.out.below HBQ.out (Nat.le_refl _); have hbt := hbt.trans (hb.mono hz4); have hbtz := hbt.size; have HX := Lib.hid (HX.out.touch hs9.2 (fun e => HBQ.out.ne HX.out (by decide) (by decide) (.inr e))); obtain ⟨q0, q1, q2, q3, q4, q5, q6, q7, q8⟩ := box_cells HX.out; clear hs9 hb)
        | (go_at_call 15; refine (sufModelC z0 _ hsz).mono ?_; rintro e w10 ⟨rfl, hb⟩; have hbt := hbt.trans (hb.mono hbtz); have hbtz := hbt.size; have HX := Lib.hid (HX.out.keep hb HX.out.lt); obtain ⟨q0, q1, q2, q3, q4, q5, q6, q7, q8⟩ := box_cells HX.out; (try (have HBQ := Lib.hid (HBQ.out.below hb))); clear hb))
      all_goals go_wp2_with fail
      all_goals go_ret
      all_goals exact ⟨ret_b (cat_eq2 _ _ _ (by simp [ByteArray.data_append])), hbt⟩
theorem fnSuffixWriteToAfterPrefix.walk (a0 : ByteArray) (c1 : Array Value) (z1 : Suf) (w : World) (w0 : a0.size ≤ maxLen) (w1 : IsSufA c1 z1) :
    Calls Tryd.prog 7 #[.string a0, .agg c1] w fun e w' => e = .returned (.bool true) ∧ Below w.heap.size w w' := by
  obtain ⟨rfl, hs1, hs2, hs3⟩ := w1
  by_cases hp2 : a0.size ≤ 1048576
  · exact sufAfter.main a0 z1 w hp2 hs1 hs2 hs3
  · have hp := w0
    unfold maxLen at hp
    go_enter Tryd.func7, Tryd.ntmps7
    go_wp2_with fail
    refine (zz29 a0 w0 z1 _ ⟨hs1, hs2, hs3⟩).mono ?_
    rintro e w1 ⟨b, rfl, hbp, hb⟩
    have hbb := ((Below.refl w.heap.size w).alloc (Nat.le_refl _) (.cells (sufVals z1) 23)).trans (hb.mono (by simp))
    have HB1 := Lib.hid hbb
    clear hb hbb hbp
    cases b
    all_goals
      go_wp2_with fail
      go_ret
      exact ⟨rfl, HB1.out⟩
end Go.Proofs.YtebcjlgeppebgaaDoor
