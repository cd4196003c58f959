/-
  The contract of the law's textModel with letters raised (n001_98).
-/
import Derived.Test.YtjflnoghecnigaaDoorApp
import Derived.Test.YtjflnoghecnigaaDoorWid
import Derived.Test.YtjflnoghecnigaaDoorUpm
namespace Go.Proofs.YtjflnoghecnigaaDoor
set_option linter.unusedVariables false
open Go.ChangeShapes Go.WideShapes Go.ChangeAt Go.RowKit M
theorem OwnB.form {w : World} {B : Nat} {v : Value} {d : Option Nat} {l : List UInt8} (h : OwnB w B v d l) : ∃ A c, v = .slice A l.length c := own_form h.1
/-- A slice of bytes made since w0, behind names that the walk leaves alone. -/
def BN (w0 : World) (l : List UInt8) (v : Value) (w' : World) : Prop := ∃ A n c d', v = .slice A n c ∧ Hid (n = l.length) ∧ Hid (OwnB w' w0.heap.size (.slice A n c) d' l) ∧ Hid (Below w0.heap.size w0 w') ∧ w0.heap.size ≤ w'.heap.size
theorem AOut.partsN {w w' w0 : World} {B : Nat} {d : Option Nat} {l : List UInt8} {v : Value} (ho : AOut w B d l v w') (hB : B = w0.heap.size) (hd : ∀ g, d = some g → B ≤ g) (hb : Below w0.heap.size w0 w) : BN w0 l v w' := by
  have h1 := hb.trans (ho.below (B' := w0.heap.size) hb.size (by rw [← hB]; exact hd))
  obtain ⟨d', x1, _, _⟩ := ho
  obtain ⟨A, c, rfl⟩ := x1.form
  subst hB
  exact ⟨A, _, c, d', rfl, Lib.hid rfl, Lib.hid x1, Lib.hid h1, h1.size⟩
theorem cutN_snoc (s : ByteArray) (i n : Nat) (h : i + n < s.size) : cutN s i (n + 1) = cutN s i n ++ [s[i + n]] := by
  unfold cutN
  have hl : n < (s.data.toList.drop i).length := by rw [List.length_drop, Array.length_toList]; have : s.data.size = s.size := rfl; omega
  rw [List.take_succ_eq_append_getElem hl, List.getElem_drop]
  rfl
theorem makeB (n : Nat) (hn : n ≤ 1073741824) (W : World) : (Instr.makeSlice 27 (.int .i64 0) (.int .i64 (n : Int))).run Tryd.prog W = .ok (.slice (some ⟨W.heap.size, 0, none⟩) 0 n) (W.alloc (.cells (madeCells #[.int .u8 0] n) 5)) := by
  obtain ⟨i, hi, hz0, hz1, hz2⟩ := info_parts infoByte
  have hr := run_make (P := Tryd.prog) W 27 5 i (.int .u8 0) Tryd.underlying27 hi hz0 .i64 .i64 0 (n : Int) (by omega) (by omega) (by rw [hz2]; omega) (by omega)
  rw [hz1] at hr
  simp only [Int.toNat_zero, Int.toNat_natCast, Nat.mul_one] at hr
  exact hr
/-- What is still to be written from place i on. -/
def rest (s : ByteArray) (i : Nat) : List UInt8 := Lib.mapD up (s.data.toList.drop i)
theorem drop_cons (s : ByteArray) (i : Nat) (hi : i < s.size) : s.data.toList.drop i = s[i] :: s.data.toList.drop (i + 1) := by
  have h : i < s.data.toList.length := by rw [Array.length_toList]; exact hi
  rw [List.drop_eq_getElem_cons h]
  rfl
theorem rest_ascii (s : ByteArray) (i : Nat) (hi : i < s.size) (h : s[i].toNat < 128) : rest s i = mapB up s[i] :: rest s (i + 1) := by
  unfold rest
  rw [drop_cons s i hi, mapD_ascii up_asc _ _ h]
theorem rest_bad (s : ByteArray) (i : Nat) (hi : i < s.size) (h : ¬ s[i].toNat < 128) (h0 : seqS s i = 0) : rest s i = badB ++ rest s (i + 1) := by
  have hg := get_bang s i hi
  rcases seq_decode s i hi (by rw [hg]; omega) with ⟨_, hd⟩ | ⟨h2, _⟩
  · unfold rest
    rw [mapD_bad up_asc _ (by rw [drop_cons s i hi]; simp) (by rw [Lib.decodeL_drop]; exact hd), List.drop_drop]
  · omega
theorem rest_run (s : ByteArray) (i : Nat) (hi : i < s.size) (h : ¬ s[i].toNat < 128) (h0 : seqS s i ≠ 0) : i + seqS s i ≤ s.size ∧ rest s i = cutN s i (seqS s i) ++ rest s (i + seqS s i) := by
  have hg := get_bang s i hi
  rcases seq_decode s i hi (by rw [hg]; omega) with ⟨h1, _⟩ | ⟨h2, h3, _, h4⟩
  · exact absurd h1 h0
  · refine ⟨h3, ?_⟩
    have hd := Lib.decodeL_drop s i
    rw [← hd] at h4
    rcases start_cases (s.data.toList.drop i) (by rw [drop_cons s i hi]; simp) with ⟨b, t, hbt, hb⟩ | hx | ⟨p, t, hpt, hv, hpl⟩
    · rw [drop_cons s i hi] at hbt
      injection hbt with e1 e2
      exact absurd (by rw [e1]; exact hb) h
    · rw [hx] at h4
      have : (1 : Nat) = seqS s i := h4
      omega
    · rw [h4] at hpl
      have e1 : cutN s i (seqS s i) = p := by
        unfold cutN
        rw [hpt, ← hpl]
        exact List.take_left
      have e2 : s.data.toList.drop (i + seqS s i) = t := by
        rw [← List.drop_drop, hpt, ← hpl]
        exact List.drop_left
      unfold rest
      rw [hpt, mapD_val up_asc p t hv, e1, e2]
def TI (w0 : World) (s : ByteArray) (v i : Value) (wr : World) : Prop := ∃ (k : Nat) (l : List UInt8), k ≤ s.size ∧ i = .int .i64 k ∧ Hid (l.length ≤ 3 * k) ∧ Hid (l ++ rest s k = rest s 0) ∧ BN w0 l v wr
theorem TI.step {w0 : World} {s : ByteArray} {v : Value} {wr : World} {k : Nat} (l p : List UInt8) (m : Nat) (hp : rest s k = p ++ rest s (k + m)) (hk : k + m ≤ s.size) (hl : l.length ≤ 3 * k) (ht : l ++ rest s k = rest s 0) (hpl : p.length ≤ 3 * m) (h : BN w0 (l ++ p) v wr) (I : Int) (hI : I = ↑(k + m)) : TI w0 s v (.int .i64 I) wr := by
  rw [hp, ← List.append_assoc] at ht
  exact ⟨k + m, l ++ p, hk, by rw [hI], Lib.hid (by rw [List.length_append]; omega), Lib.hid ht, h⟩
set_option maxRecDepth 100000 in
set_option maxHeartbeats 8000000 in
theorem modelC (w : World) (s : ByteArray) (hs : s.size ≤ 1048576) :
    Calls Tryd.prog 7 #[.string s, .bool true] w fun e w' => e = .returned (.string ⟨(Lib.mapD up s.data.toList).toArray⟩) ∧ Below w.heap.size w w' := by
  have hmk : ∀ W, (Instr.makeSlice 27 (.int .i64 0) (.int .i64 (3 * (s.size : Int)))).run Tryd.prog W = .ok (.slice (some ⟨W.heap.size, 0, none⟩) 0 (3 * s.size)) (W.alloc (.cells (madeCells #[.int .u8 0] (3 * s.size)) 5)) := fun W => by
    rw [show (3 * (s.size : Int)) = ((3 * s.size : Nat) : Int) by omega]
    exact makeB _ (by omega) W
  have hbn0 : BN w [] (.slice (some ⟨w.heap.size, 0, none⟩) 0 (3 * s.size)) (w.alloc (.cells (madeCells #[.int .u8 0] (3 * s.size)) 5)) :=
    ⟨_, _, _, _, rfl, Lib.hid rfl, Lib.hid (OwnB.made w _ (Nat.le_refl _) (by unfold maxLen; omega)), Lib.hid ((Below.refl _ _).alloc (Nat.le_refl _) _), by rw [World.size_alloc]; omega⟩
  have HBN0 := Lib.hid hbn0
  clear hbn0
  go_enter Tryd.func7, Tryd.ntmps7
  go_wp2_with fail
  clear hmk
  go_loopw [5, 6] (fun v i wr => TI w s v i wr) (fun _ i _ => s.size - (intOf i).toNat)
  case atStart => exact ⟨0, [], Nat.zero_le _, rfl, Lib.hid (by simp), Lib.hid rfl, HBN0.out⟩
  case round =>
    obtain ⟨k, l, hk, rfl, HL, HT, hbn⟩ := hrel
    obtain ⟨A2, n2, c2, d2, rfl, HN2, HO2, HB2, hz2⟩ := hbn
    by_cases hlt : k < s.size
    · have hg := get_bang s k hlt
      obtain ⟨m, hm⟩ : ∃ m, m = wid s k := ⟨_, rfl⟩
      have HW : WidIs s k m := by rw [hm]; exact widC s k hlt (by omega)
      unfold wid at hm
      rw [hg] at hm
      have HM := Lib.hid hm
      clear hm hg
      go_wp2_with fail
      refine (HW _).mono ?_
      rintro e w2 ⟨rfl, rfl⟩
      by_cases h128 : s[k].toNat < 128
      · obtain rfl : m = 1 := by rw [HM.out, if_pos h128]
        have hp := rest_ascii s k hlt h128
        have hmb := mapB_nat up_asc h128
        by_cases q1 : 97 ≤ s[k].toNat ∧ s[k].toNat ≤ 122
        · obtain ⟨q1, q2⟩ := q1
          have hv : ((mapB up s[k]).toNat : Int) = (s[k].toNat : Int) - 32 := by rw [hmb]; unfold up; rw [if_pos (by omega)]
          have HP := Lib.hid hp
          have HV := Lib.hid hv
          clear hp hmb hv
          go_wp2_with (at_builtin; (refine wp_byte rfl _ _ rfl w2 w.heap.size (.slice A2 n2 c2) d2 l (by rfl) HO2.out (mapB up s[k]) _ HV.out.symm (by rfl) (by have := HL.out; omega) hz2 ?_))
          intro v3 w3 ho
          have HBN3 := Lib.hid (ho.partsN rfl (fun g hg => (HO2.out.lt g hg).1) HB2.out)
          clear ho
          go_wp2_with fail
          exact ⟨TI.step l [mapB up s[k]] 1 HP.out hlt HL.out HT.out (by simp) HBN3.out _ (by simp), by simp [intOf]; omega⟩
        · have hv : ((mapB up s[k]).toNat : Int) = (s[k].toNat : Int) := by rw [hmb]; unfold up; rw [if_neg (by omega)]
          have HP := Lib.hid hp
          have HV := Lib.hid hv
          have p1 : (decide (97 ≤ (s[k].toNat : Int)) && decide ((s[k].toNat : Int) ≤ 122)) = false := by
            simp
            omega
          clear hp hmb hv
          go_wp2_with (at_builtin; (refine wp_byte rfl _ _ rfl w2 w.heap.size (.slice A2 n2 c2) d2 l (by rfl) HO2.out (mapB up s[k]) _ HV.out.symm (by rfl) (by have := HL.out; omega) hz2 ?_))
          all_goals
            intro v3 w3 ho
            have HBN3 := Lib.hid (ho.partsN rfl (fun g hg => (HO2.out.lt g hg).1) HB2.out)
            clear ho
            go_wp2_with fail
            exact ⟨TI.step l [mapB up s[k]] 1 HP.out hlt HL.out HT.out (by simp) HBN3.out _ (by simp), by simp [intOf]; omega⟩
      · by_cases h0 : seqS s k = 0
        · obtain rfl : m = 0 := by rw [HM.out, if_neg h128, h0]
          have HP := Lib.hid (rest_bad s k hlt h128 h0)
          go_wp2_with (at_builtin; refine wp_bytes rfl _ _ rfl w2 _ _ rfl w.heap.size (.slice A2 n2 c2) d2 l (by rfl) HO2.out [239, 191, 189] _ (by rfl) (by rfl) 3 (by rfl) (by rfl) (by have := HL.out; simp; omega) (by simp) (by simp) hz2 ?_)
          intro v3 w3 ho
          have HBN3 := Lib.hid (ho.partsN rfl (fun g hg => (HO2.out.lt g hg).1) HB2.out)
          clear ho
          go_wp2_with fail
          exact ⟨TI.step l _ 1 HP.out hlt HL.out HT.out (by decide) HBN3.out _ (by simp), by simp [intOf]; omega⟩
        · obtain ⟨hle, hp⟩ := rest_run s k hlt h128 h0
          have hms : m = seqS s k := by rw [HM.out, if_neg h128]
          have hm2 : 2 ≤ seqS s k := by
            rcases seq_decode s k hlt (by rw [get_bang s k hlt]; omega) with ⟨h1, _⟩ | ⟨h1, _⟩
            · exact absurd h1 h0
            · exact h1
          rw [← hms] at hle hp hm2
          have HP := Lib.hid hp
          have hmz : ((m : Int) == 0) = false := by simp; omega
          have hm1 : ((m : Int) == 1) = false := by simp; omega
          clear hp hms h0
          go_wp2_with fail
          go_loopw [5, 9] (fun v i wr => ∃ j : Nat, j ≤ m ∧ i = .int .i64 j ∧ BN w (l ++ cutN s k j) v wr) (fun _ i _ => m - (intOf i).toNat)
          case atStart => exact ⟨0, Nat.zero_le _, rfl, by simpa [cutN] using ⟨A2, n2, c2, d2, rfl, HN2, HO2, HB2, hz2⟩⟩
          case round =>
            obtain ⟨j, hj, rfl, hbn⟩ := hrel
            obtain ⟨A3, n3, c3, d3, rfl, HN3, HO3, HB3, hz3⟩ := hbn
            have HJ := Lib.hid (show (cutN s k j).length ≤ j by unfold cutN; rw [List.length_take]; omega)
            by_cases hjm : j < m
            · have hin : k + j < s.size := by omega
              go_wp2_with (at_builtin; refine wp_bytes rfl _ _ rfl wr _ _ rfl w.heap.size (.slice A3 n3 c3) d3 _ (by rfl) HO3.out [s[k + j]] _ (by rfl) (by rfl) 1 (by rfl) (by rfl) (by have := HL.out; have := HJ.out; simp; omega) (by simp) (by simp) hz3 ?_)
              intro v4 w4 ho
              have hbn4 := ho.partsN rfl (fun g hg => (HO3.out.lt g hg).1) HB3.out
              rw [← cutN_snoc s k j hin] at hbn4
              have HBN4 := Lib.hid hbn4
              clear ho hbn4
              go_wp2_with fail
              exact ⟨⟨j + 1, by omega, by go_num, HBN4.out⟩, by simp [intOf]; omega⟩
            · obtain rfl : j = m := by omega
              go_wp2_with fail
              exact ⟨TI.step l _ j HP.out hle HL.out HT.out (by have := HJ.out; omega) ⟨A3, n3, c3, d3, rfl, HN3, HO3, HB3, hz3⟩ _ (by simp), by simp [intOf]; omega⟩
    · obtain rfl : k = s.size := by omega
      have hl : l = Lib.mapD up s.data.toList := by
        have h := HT.out
        unfold rest at h
        rw [List.drop_of_length_le (by rw [Array.length_toList]; exact Nat.le_refl _), Lib.mapD_nil, List.append_nil, List.drop_zero] at h
        exact h
      have hc := HO2.out.conv
      rw [hl] at hc
      go_wp2_with fail
      go_ret
      exact ⟨rfl, HB2.out⟩
end Go.Proofs.YtjflnoghecnigaaDoor
