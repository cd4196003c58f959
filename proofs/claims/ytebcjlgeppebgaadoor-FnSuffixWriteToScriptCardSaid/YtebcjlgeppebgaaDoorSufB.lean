/-
  Contracts over suffixes given by value (n001_84): buildSuffix, Suffix.String, sufModel, sufBytes, sufRefused, the byte counts.
-/
import Derived.Test.YtebcjlgeppebgaaDoorSuf
namespace Go.Proofs.YtebcjlgeppebgaaDoor
set_option linter.unusedVariables false
open Go.ChangeShapes Go.WideShapes Go.ChangeAt Go.RowKit M
theorem buildSuf (x : Suf) (w : World) : Calls Tryd.prog 13 #[.agg (sufVals x)] w (SufOut w x) := by
  obtain ⟨ix, nm, sl, hs, st, he, en, it, op⟩ := x
  cases ix
  · go_enter Tryd.func13, Tryd.ntmps13
    go_wp2_with fail
    go_ret
    exact ⟨_, rfl, Row.made' _ _ (by simp), ((Below.refl _ _).alloc (Nat.le_refl _) _).alloc (by simp) _⟩
  · cases hs <;> cases he
    · exact bs_false_false w nm st en sl it op
    · exact bs_false_true w nm st en sl it op
    · exact bs_true_false w nm st en sl it op
    · exact bs_true_true w nm st en sl it op
theorem prSuf_nil (x : Suf) : prSuf x [] = x.text := by
  unfold prSuf Suf.space
  have : sp [] = false := rfl
  rw [this]
  simp
theorem sufStr (w : World) (n : Nat) (x : Suf) (hi : IsSufM w n x) (hx : x.refused = false) (hl : x.size ≤ 1048576) :
    Calls Tryd.prog 14 #[.pointer (some ⟨n, 0, none⟩)] w fun e w' => e = .returned (.string ⟨x.text.toArray⟩) ∧ Below w.heap.size w w' := by
  have HI := Lib.hid hi
  have HX := Lib.hid hx
  clear hi hx
  have hb0 := Bld.fresh w (Nat.le_refl _)
  have hbelow : Below w.heap.size w (w.alloc (.cells #[.pointer none, .slice none 0 0] tBld)) := (Below.refl _ _).alloc (Nat.le_refl _) _
  have hc := sufTo _ _ _ _ _ n x (HI.out.keep (KeepN.below hbelow)) HX.out hb0 (by simp; omega) (by simp)
  rw [prSuf_nil] at hc
  have HC := Lib.hid hc
  have HB0 := Lib.hid hb0
  have HBL := Lib.hid hbelow
  clear hc hb0 hbelow
  go_enter Tryd.func14, Tryd.ntmps14
  go_wp2_with fail
  refine HC.out.mono ?_
  rintro e w1 ⟨rfl, ho⟩
  obtain ⟨d1, hb1, hd1, ht1, hk1, hz1⟩ := POut.parts HB0.out ho
  have HB1 := Lib.hid (HBL.out.trans (ho.below HB0.out (Nat.le_refl _)))
  clear ho
  unfold NoEnd
  go_wp2_with fail
  refine (bstring _ _ _ d1 _ hb1.out).mono ?_
  rintro e w2 ⟨rfl, hs⟩
  have HB2 := Lib.hid (HB1.out.trans (hs.out.below hb1.out (Nat.le_refl _)))
  clear hs
  go_wp2_with fail
  go_ret
  exact ⟨rfl, HB2.out⟩
theorem str_of {s : ByteArray} {l : List UInt8} (h : s.data.toList = l) : s = ⟨l.toArray⟩ := by
  subst h
  cases s
  simp
set_option maxHeartbeats 1000000 in
theorem sufBytesC (x : Suf) (w : World) (hl : x.size ≤ 1048576) : Calls Tryd.prog 11 #[.agg (sufVals x)] w fun e w' => e = .returned (.int .i64 (64 + x.size : Nat)) ∧ Below w.heap.size w w' := by
  obtain ⟨ix, nm, sl, hs, st, he, en, it, op⟩ := x
  unfold Suf.size at hl ⊢
  dsimp only at hl ⊢
  go_enter Tryd.func11, Tryd.ntmps11
  go_wp2_with fail
  go_ret
  exact ⟨ret_i (by omega), (Below.refl _ _).alloc (Nat.le_refl _) _⟩
def BoolIs (b : Bool) (w : World) (e : Ending) (w' : World) : Prop := e = .returned (.bool b) ∧ Below w.heap.size w w'
set_option maxHeartbeats 1000000 in
theorem sufRefusedC (x : Suf) (w : World) : Calls Tryd.prog 12 #[.agg (sufVals x)] w (BoolIs x.refused w) := by
  obtain ⟨ix, nm, sl, hs, st, he, en, it, op⟩ := x
  cases ix
  · have HP := Lib.hid (show Suf.refused ⟨false, nm, sl, hs, st, he, en, it, op⟩ = false from rfl)
    go_enter Tryd.func12, Tryd.ntmps12
    go_wp2_with fail
    go_ret
    exact ⟨by rw [HP.out]; rfl, (Below.refl _ _).alloc (Nat.le_refl _) _⟩
  · cases hn : nm.toList.isEmpty
    · have HP := Lib.hid (show Suf.refused ⟨true, nm, sl, hs, st, he, en, it, op⟩ = false by simp [Suf.refused, hn])
      go_enter Tryd.func12, Tryd.ntmps12
      go_wp2_with fail
      go_ret
      exact ⟨by rw [HP.out]; rfl, (Below.refl _ _).alloc (Nat.le_refl _) _⟩
    · cases sl
      · cases hs
        · have HP := Lib.hid (show Suf.refused ⟨true, nm, false, false, st, he, en, it, op⟩ = true by simp [Suf.refused, hn])
          go_enter Tryd.func12, Tryd.ntmps12
          go_wp2_with fail
          go_ret
          exact ⟨by rw [HP.out]; rfl, (Below.refl _ _).alloc (Nat.le_refl _) _⟩
        · have HP := Lib.hid (show Suf.refused ⟨true, nm, false, true, st, he, en, it, op⟩ = false by simp [Suf.refused, hn])
          go_enter Tryd.func12, Tryd.ntmps12
          go_wp2_with fail
          go_ret
          exact ⟨by rw [HP.out]; rfl, (Below.refl _ _).alloc (Nat.le_refl _) _⟩
      · have HP := Lib.hid (show Suf.refused ⟨true, nm, true, hs, st, he, en, it, op⟩ = false by simp [Suf.refused, hn])
        go_enter Tryd.func12, Tryd.ntmps12
        go_wp2_with fail
        go_ret
        exact ⟨by rw [HP.out]; rfl, (Below.refl _ _).alloc (Nat.le_refl _) _⟩
def BoolIfB (p : Prop) (w : World) (e : Ending) (w' : World) : Prop := ∃ b : Bool, e = .returned (.bool b) ∧ (b = true → p) ∧ Below w.heap.size w w'
set_option maxHeartbeats 2000000 in
theorem zz10 (x : Suf) (w : World) (hx : x.name.size ≤ maxLen ∧ x.start.size ≤ maxLen ∧ x.stop.size ≤ maxLen) : Calls Tryd.prog 10 #[.agg (sufVals x)] w (BoolIfB (x.size ≤ 1048576) w) := by
  obtain ⟨ix, nm, sl, hs, st, he, en, it, op⟩ := x
  unfold Suf.size
  obtain ⟨h1, h2, h3⟩ := hx
  unfold maxLen at *
  dsimp only at *
  by_cases g0 : nm.size ≤ 1048576
  · by_cases g1 : st.size ≤ 1048576
    · by_cases k1 : nm.size + st.size ≤ 1048576
      · by_cases g2 : en.size ≤ 1048576
        · by_cases k2 : nm.size + st.size + en.size ≤ 1048576
          · go_enter Tryd.func10, Tryd.ntmps10
            go_wp2_with fail
            all_goals go_ret
            all_goals exact ⟨_, rfl, (fun h => by first | (cases h; done) | omega), (Below.refl _ _).alloc (Nat.le_refl _) _⟩
          · go_enter Tryd.func10, Tryd.ntmps10
            go_wp2_with fail
            all_goals go_ret
            all_goals exact ⟨_, rfl, (fun h => by first | (cases h; done) | omega), (Below.refl _ _).alloc (Nat.le_refl _) _⟩
        · go_enter Tryd.func10, Tryd.ntmps10
          go_wp2_with fail
          all_goals go_ret
          all_goals exact ⟨_, rfl, (fun h => by first | (cases h; done) | omega), (Below.refl _ _).alloc (Nat.le_refl _) _⟩
      · go_enter Tryd.func10, Tryd.ntmps10
        go_wp2_with fail
        all_goals go_ret
        all_goals exact ⟨_, rfl, (fun h => by first | (cases h; done) | omega), (Below.refl _ _).alloc (Nat.le_refl _) _⟩
    · go_enter Tryd.func10, Tryd.ntmps10
      go_wp2_with fail
      all_goals go_ret
      all_goals exact ⟨_, rfl, (fun h => by first | (cases h; done) | omega), (Below.refl _ _).alloc (Nat.le_refl _) _⟩
  · go_enter Tryd.func10, Tryd.ntmps10
    go_wp2_with fail
    all_goals go_ret
    all_goals exact ⟨_, rfl, (fun h => by first | (cases h; done) | omega), (Below.refl _ _).alloc (Nat.le_refl _) _⟩
set_option maxHeartbeats 2000000 in
theorem zz29 (p : ByteArray) (hp : p.size ≤ maxLen) (x : Suf) (w : World) (hx : x.name.size ≤ maxLen ∧ x.start.size ≤ maxLen ∧ x.stop.size ≤ maxLen) : Calls Tryd.prog 29 #[.string p, .agg (sufVals x)] w (BoolIfB (x.size ≤ 1048576) w) := by
  obtain ⟨ix, nm, sl, hs, st, he, en, it, op⟩ := x
  unfold Suf.size
  obtain ⟨h1, h2, h3⟩ := hx
  unfold maxLen at *
  dsimp only at *
  by_cases g0 : p.size ≤ 1048576
  · by_cases g1 : nm.size ≤ 1048576
    · by_cases k1 : p.size + nm.size ≤ 1048576
      · by_cases g2 : st.size ≤ 1048576
        · by_cases k2 : p.size + nm.size + st.size ≤ 1048576
          · by_cases g3 : en.size ≤ 1048576
            · by_cases k3 : p.size + nm.size + st.size + en.size ≤ 1048576
              · go_enter Tryd.func29, Tryd.ntmps29
                go_wp2_with fail
                all_goals go_ret
                all_goals exact ⟨_, rfl, (fun h => by first | (cases h; done) | omega), (Below.refl _ _).alloc (Nat.le_refl _) _⟩
              · go_enter Tryd.func29, Tryd.ntmps29
                go_wp2_with fail
                all_goals go_ret
                all_goals exact ⟨_, rfl, (fun h => by first | (cases h; done) | omega), (Below.refl _ _).alloc (Nat.le_refl _) _⟩
            · go_enter Tryd.func29, Tryd.ntmps29
              go_wp2_with fail
              all_goals go_ret
              all_goals exact ⟨_, rfl, (fun h => by first | (cases h; done) | omega), (Below.refl _ _).alloc (Nat.le_refl _) _⟩
          · go_enter Tryd.func29, Tryd.ntmps29
            go_wp2_with fail
            all_goals go_ret
            all_goals exact ⟨_, rfl, (fun h => by first | (cases h; done) | omega), (Below.refl _ _).alloc (Nat.le_refl _) _⟩
        · go_enter Tryd.func29, Tryd.ntmps29
          go_wp2_with fail
          all_goals go_ret
          all_goals exact ⟨_, rfl, (fun h => by first | (cases h; done) | omega), (Below.refl _ _).alloc (Nat.le_refl _) _⟩
      · go_enter Tryd.func29, Tryd.ntmps29
        go_wp2_with fail
        all_goals go_ret
        all_goals exact ⟨_, rfl, (fun h => by first | (cases h; done) | omega), (Below.refl _ _).alloc (Nat.le_refl _) _⟩
    · go_enter Tryd.func29, Tryd.ntmps29
      go_wp2_with fail
      all_goals go_ret
      all_goals exact ⟨_, rfl, (fun h => by first | (cases h; done) | omega), (Below.refl _ _).alloc (Nat.le_refl _) _⟩
  · go_enter Tryd.func29, Tryd.ntmps29
    go_wp2_with fail
    all_goals go_ret
    all_goals exact ⟨_, rfl, (fun h => by first | (cases h; done) | omega), (Below.refl _ _).alloc (Nat.le_refl _) _⟩
set_option maxHeartbeats 2000000 in
theorem sufModelC (x : Suf) (w : World) (hl : x.size ≤ 1048576) : Calls Tryd.prog 15 #[.agg (sufVals x)] w fun e w' => e = .returned (.string ⟨x.text.toArray⟩) ∧ Below w.heap.size w w' := by
  obtain ⟨ix, nm, sl, hs, st, he, en, it, op⟩ := x
  unfold Suf.size at hl
  dsimp only at hl
  cases ix
  · cases it
    · cases op
      all_goals
        go_enter Tryd.func15, Tryd.ntmps15
        go_wp2_with fail
        go_ret
        exact ⟨rfl, (Below.refl _ _).alloc (Nat.le_refl _) _⟩
    · go_enter Tryd.func15, Tryd.ntmps15
      go_wp2_with fail
      go_ret
      exact ⟨rfl, (Below.refl _ _).alloc (Nat.le_refl _) _⟩
  · cases hn : nm.toList.isEmpty
    · have HP := Lib.hid (show Suf.text ⟨true, nm, sl, hs, st, he, en, it, op⟩ = [46] ++ nm.data.toList by simp [Suf.text, hn])
      go_enter Tryd.func15, Tryd.ntmps15
      go_wp2_with fail
      go_ret
      exact ⟨by rw [HP.out]; exact ret_s (str_of (by simp [ByteArray.data_append])), (Below.refl _ _).alloc (Nat.le_refl _) _⟩
    · cases sl
      · have HP := Lib.hid (show Suf.text ⟨true, nm, false, hs, st, he, en, it, op⟩ = [91] ++ st.data.toList ++ [93] by simp [Suf.text, hn])
        go_enter Tryd.func15, Tryd.ntmps15
        go_wp2_with fail
        go_ret
        exact ⟨by rw [HP.out]; exact ret_s (str_of (by simp [ByteArray.data_append])), (Below.refl _ _).alloc (Nat.le_refl _) _⟩
      · have HP := Lib.hid (show Suf.text ⟨true, nm, true, hs, st, he, en, it, op⟩ = [91] ++ (if hs then st.data.toList else []) ++ [58] ++ (if he then en.data.toList else []) ++ [93] by simp [Suf.text, hn])
        cases hs <;> cases he
        all_goals
          go_enter Tryd.func15, Tryd.ntmps15
          go_wp2_with fail
          go_ret
          exact ⟨by rw [HP.out]; exact ret_s (str_of (by simp [ByteArray.data_append])), (Below.refl _ _).alloc (Nat.le_refl _) _⟩
end Go.Proofs.YtebcjlgeppebgaaDoor
