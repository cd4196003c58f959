/-
  The contract of zzAppendQuote (n001_83).
-/
import Derived.Test.YtfbpffgcofdciaaDoorEsc
import Derived.Test.YtfbpffgcofdciaaDoorApp
namespace Go.Proofs.YtfbpffgcofdciaaDoor
set_option linter.unusedVariables false
open Go.ChangeShapes Go.WideShapes Go.ChangeAt Go.RowKit M
theorem OwnB.form {w : World} {B : Nat} {v : Value} {d : Option Nat} {l : List UInt8} (h : OwnB w B v d l) : ∃ A c, v = .slice A l.length c := own_form h.1
/-- A slice of bytes made since w0, behind names that the walk leaves alone. -/
def BN (w0 : World) (l : List UInt8) (v : Value) (w' : World) : Prop := ∃ A n c d', v = .slice A n c ∧ Hid (n = l.length) ∧ Hid (OwnB w' w0.heap.size (.slice A n c) d' l) ∧ Hid (Below w0.heap.size w0 w') ∧ w0.heap.size ≤ w'.heap.size
theorem AOut.partsN {w w' w0 : World} {B : Nat} {d : Option Nat} {l : List UInt8} {v : Value} (ho : AOut w B d l v w') (hB : B = w0.heap.size) (hd : ∀ g, d = some g → B ≤ g) (hb : Below w0.heap.size w0 w) : BN w0 l v w' := by
  have h1 := hb.trans (ho.below (B' := w0.heap.size) hb.size (by rw [← hB]; exact hd))
  obtain ⟨d', x1, _, _⟩ := ho
  obtain ⟨A, c, rfl⟩ := x1.form
  subst hB
  exact ⟨A, _, c, d', rfl, Lib.hid rfl, Lib.hid x1, Lib.hid h1, h1.size⟩
theorem cells_of (bs : List UInt8) : (Lib.byteCells bs).toArray.toList = Lib.byteCells bs := by simp
theorem piece_esc {s : ByteArray} {i : Nat} (hi : i < s.size) (h : s[i].toNat < 128) : piece s i = ((escA s[i].toNat).map UInt8.ofNat, 1) := by
  unfold piece
  rw [get_bang s i hi, if_pos h]
theorem piece_bad {s : ByteArray} {i : Nat} (hi : i < s.size) (h : ¬ s[i].toNat < 128) (h0 : seqS s i = 0) : piece s i = ([92, 117, 102, 102, 102, 100], 1) := by
  unfold piece
  rw [get_bang s i hi, if_neg h, if_pos h0]
theorem piece_run {s : ByteArray} {i : Nat} (hi : i < s.size) (h : ¬ s[i].toNat < 128) (h0 : seqS s i ≠ 0) : piece s i = (cutN s i (seqS s i), seqS s i) := by
  unfold piece
  rw [get_bang s i hi, if_neg h, if_neg h0]
theorem cutN_snoc (s : ByteArray) (i n : Nat) (h : i + n < s.size) : cutN s i (n + 1) = cutN s i n ++ [s[i + n]] := by
  unfold cutN
  have hl : n < (s.data.toList.drop i).length := by rw [List.length_drop, Array.length_toList]; have : s.data.size = s.size := rfl; omega
  rw [List.take_succ_eq_append_getElem hl, List.getElem_drop]
  rfl
theorem hexI (D : Int) (d : Nat) (h : D = d) (hd : d < 16) (w : World) : Calls Tryd.prog 14 #[.int .u8 D] w fun e w' => e = .returned (.int .u8 (hexOf d)) ∧ w' = w := by
  subst h
  exact hexC d hd w
theorem hexB (d : Nat) (hd : d < 16) : ∃ b : UInt8, b.toNat = hexOf d := by
  refine ⟨UInt8.ofNat (hexOf d), ?_⟩
  have : hexOf d < 256 := by unfold hexOf; split <;> omega
  simp
  omega
def QI (w0 : World) (l0 : List UInt8) (s : ByteArray) (v i : Value) (wr : World) : Prop := ∃ (k : Nat) (l : List UInt8), k ≤ s.size ∧ i = .int .i64 k ∧ Hid (l.length ≤ l0.length + 1 + 6 * k) ∧ Hid (l ++ tail s k = l0 ++ [34] ++ tail s 0) ∧ BN w0 l v wr
theorem QI.step {w0 : World} {l0 : List UInt8} {s : ByteArray} {v : Value} {wr : World} {k : Nat} (l p : List UInt8) (m : Nat) (hp : piece s k = (p, m)) (hk : k < s.size) (hl : l.length ≤ l0.length + 1 + 6 * k) (ht : l ++ tail s k = l0 ++ [34] ++ tail s 0) (hpl : p.length ≤ 6 * m) (h : BN w0 (l ++ p) v wr) (I : Int) (hI : I = ↑(k + m)) : QI w0 l0 s v (.int .i64 I) wr := by
  have h1 := piece_le s k hk
  rw [hp] at h1
  have h2 := tail_step s k hk
  rw [hp] at h2
  rw [h2, ← List.append_assoc] at ht
  exact ⟨k + m, l ++ p, h1, by rw [hI], Lib.hid (by rw [List.length_append]; omega), Lib.hid ht, h⟩
set_option maxRecDepth 100000 in
set_option maxHeartbeats 4000000 in
theorem quoteC (w w0 : World) (A : Option Addr) (n c : Nat) (d : Option Nat) (l0 : List UInt8) (s : ByteArray) (h : OwnB w w0.heap.size (.slice A n c) d l0) (hn : n = l0.length) (hb : Below w0.heap.size w0 w) (hl : l0.length ≤ 1048576) (hs : s.size ≤ 1048576) :
    Calls Tryd.prog 7 #[.slice A n c, .string s] w fun e w' => ∃ v', e = .returned v' ∧ BN w0 (l0 ++ quoted s) v' w' := by
  have H := Lib.hid h
  have HB := Lib.hid hb
  have HN := Lib.hid hn
  have hz := hb.size
  clear h hb hn
  go_enter Tryd.func7, Tryd.ntmps7
  go_wp2_with (at_builtin; refine wp_bytes rfl _ _ rfl w _ _ rfl w0.heap.size (.slice A n c) d l0 (by rfl) H.out [34] _ (by rfl) (by rfl) 1 (by rfl) (by rfl) (by simp; omega) (by simp) (by simp) hz ?_)
  intro v1 w1 ho
  have hbn := ho.partsN rfl (fun g hg => (H.out.lt g hg).1) HB.out
  clear ho
  have HBN := Lib.hid hbn
  clear hbn
  go_wp2_with fail
  go_loopw [0, 5] (fun v i wr => QI w0 l0 s v i wr) (fun _ i _ => s.size - (intOf i).toNat)
  case atStart => exact ⟨0, l0 ++ [34], Nat.zero_le _, rfl, Lib.hid (by simp), Lib.hid rfl, HBN.out⟩
  case round =>
    obtain ⟨k, l, hk, rfl, HL, HT, hbn⟩ := hrel
    obtain ⟨A2, n2, c2, d2, rfl, HN2, HO2, HB2, hz2⟩ := hbn
    by_cases hlt : k < s.size
    · by_cases h128 : s[k].toNat < 128
      · have hp := piece_esc hlt h128
        have HP := Lib.hid hp
        clear hp
        rcases (show s[k].toNat = 34 ∨ s[k].toNat = 92 ∨ s[k].toNat = 8 ∨ s[k].toNat = 12 ∨ s[k].toNat = 10 ∨ s[k].toNat = 13 ∨ s[k].toNat = 9 ∨ (s[k].toNat < 32 ∧ s[k].toNat ≠ 8 ∧ s[k].toNat ≠ 12 ∧ s[k].toNat ≠ 10 ∧ s[k].toNat ≠ 13 ∧ s[k].toNat ≠ 9) ∨ s[k].toNat = 127 ∨ (32 ≤ s[k].toNat ∧ s[k].toNat ≠ 127 ∧ s[k].toNat ≠ 34 ∧ s[k].toNat ≠ 92) by omega) with q | q | q | q | q | q | q | ⟨q, q1, q2, q3, q4, q5⟩ | q | ⟨q, q1, q2, q3⟩
        · go_wp2_with (at_builtin; refine wp_bytes rfl _ _ rfl wr _ _ rfl w0.heap.size (.slice A2 n2 c2) d2 l (by rfl) HO2.out [92, 34] _ (by rfl) (by rfl) 2 (by rfl) (by rfl) (by have := HL.out; simp; omega) (by simp) (by simp) hz2 ?_)
          intro v3 w3 ho
          have HBN3 := Lib.hid (ho.partsN rfl (fun g hg => (HO2.out.lt g hg).1) HB2.out)
          clear ho
          go_wp2_with fail
          exact ⟨QI.step l [92, 34] 1 (by rw [HP.out, q]; rfl) hlt HL.out HT.out (by decide) HBN3.out _ (by simp), by simp [intOf]; omega⟩
        · go_wp2_with (at_builtin; refine wp_bytes rfl _ _ rfl wr _ _ rfl w0.heap.size (.slice A2 n2 c2) d2 l (by rfl) HO2.out [92, 92] _ (by rfl) (by rfl) 2 (by rfl) (by rfl) (by have := HL.out; simp; omega) (by simp) (by simp) hz2 ?_)
          intro v3 w3 ho
          have HBN3 := Lib.hid (ho.partsN rfl (fun g hg => (HO2.out.lt g hg).1) HB2.out)
          clear ho
          go_wp2_with fail
          exact ⟨QI.step l [92, 92] 1 (by rw [HP.out, q]; rfl) hlt HL.out HT.out (by decide) HBN3.out _ (by simp), by simp [intOf]; omega⟩
        · go_wp2_with (at_builtin; refine wp_bytes rfl _ _ rfl wr _ _ rfl w0.heap.size (.slice A2 n2 c2) d2 l (by rfl) HO2.out [92, 98] _ (by rfl) (by rfl) 2 (by rfl) (by rfl) (by have := HL.out; simp; omega) (by simp) (by simp) hz2 ?_)
          intro v3 w3 ho
          have HBN3 := Lib.hid (ho.partsN rfl (fun g hg => (HO2.out.lt g hg).1) HB2.out)
          clear ho
          go_wp2_with fail
          exact ⟨QI.step l [92, 98] 1 (by rw [HP.out, q]; rfl) hlt HL.out HT.out (by decide) HBN3.out _ (by simp), by simp [intOf]; omega⟩
        · go_wp2_with (at_builtin; refine wp_bytes rfl _ _ rfl wr _ _ rfl w0.heap.size (.slice A2 n2 c2) d2 l (by rfl) HO2.out [92, 102] _ (by rfl) (by rfl) 2 (by rfl) (by rfl) (by have := HL.out; simp; omega) (by simp) (by simp) hz2 ?_)
          intro v3 w3 ho
          have HBN3 := Lib.hid (ho.partsN rfl (fun g hg => (HO2.out.lt g hg).1) HB2.out)
          clear ho
          go_wp2_with fail
          exact ⟨QI.step l [92, 102] 1 (by rw [HP.out, q]; rfl) hlt HL.out HT.out (by decide) HBN3.out _ (by simp), by simp [intOf]; omega⟩
        · go_wp2_with (at_builtin; refine wp_bytes rfl _ _ rfl wr _ _ rfl w0.heap.size (.slice A2 n2 c2) d2 l (by rfl) HO2.out [92, 110] _ (by rfl) (by rfl) 2 (by rfl) (by rfl) (by have := HL.out; simp; omega) (by simp) (by simp) hz2 ?_)
          intro v3 w3 ho
          have HBN3 := Lib.hid (ho.partsN rfl (fun g hg => (HO2.out.lt g hg).1) HB2.out)
          clear ho
          go_wp2_with fail
          exact ⟨QI.step l [92, 110] 1 (by rw [HP.out, q]; rfl) hlt HL.out HT.out (by decide) HBN3.out _ (by simp), by simp [intOf]; omega⟩
        · go_wp2_with (at_builtin; refine wp_bytes rfl _ _ rfl wr _ _ rfl w0.heap.size (.slice A2 n2 c2) d2 l (by rfl) HO2.out [92, 114] _ (by rfl) (by rfl) 2 (by rfl) (by rfl) (by have := HL.out; simp; omega) (by simp) (by simp) hz2 ?_)
          intro v3 w3 ho
          have HBN3 := Lib.hid (ho.partsN rfl (fun g hg => (HO2.out.lt g hg).1) HB2.out)
          clear ho
          go_wp2_with fail
          exact ⟨QI.step l [92, 114] 1 (by rw [HP.out, q]; rfl) hlt HL.out HT.out (by decide) HBN3.out _ (by simp), by simp [intOf]; omega⟩
        · go_wp2_with (at_builtin; refine wp_bytes rfl _ _ rfl wr _ _ rfl w0.heap.size (.slice A2 n2 c2) d2 l (by rfl) HO2.out [92, 116] _ (by rfl) (by rfl) 2 (by rfl) (by rfl) (by have := HL.out; simp; omega) (by simp) (by simp) hz2 ?_)
          intro v3 w3 ho
          have HBN3 := Lib.hid (ho.partsN rfl (fun g hg => (HO2.out.lt g hg).1) HB2.out)
          clear ho
          go_wp2_with fail
          exact ⟨QI.step l [92, 116] 1 (by rw [HP.out, q]; rfl) hlt HL.out HT.out (by decide) HBN3.out _ (by simp), by simp [intOf]; omega⟩
        · have HE := Lib.hid (show escA s[k].toNat = [92, 117, 48, 48, hexOf (s[k].toNat / 16), hexOf (s[k].toNat % 16)] by unfold escA; rw [if_neg (by omega), if_neg (by omega), if_neg (by omega), if_neg (by omega), if_neg (by omega), if_neg (by omega), if_neg (by omega), if_pos (by omega)])
          go_wp2_with fail
          refine (hexI _ (s[k].toNat / 16) (by omega) (by omega) _).mono ?_
          rintro e w' ⟨rfl, rfl⟩
          obtain ⟨x1, hx1⟩ := hexB (s[k].toNat / 16) (by omega)
          rw [← hx1]
          have X1 := Lib.hid hx1
          clear hx1
          go_wp2_with fail
          refine (hexI _ (s[k].toNat % 16) (by omega) (by omega) _).mono ?_
          rintro e w' ⟨rfl, rfl⟩
          obtain ⟨x2, hx2⟩ := hexB (s[k].toNat % 16) (by omega)
          rw [← hx2]
          have X2 := Lib.hid hx2
          clear hx2
          go_wp2_with (at_builtin; refine wp_bytes rfl _ _ rfl w' _ _ rfl w0.heap.size (.slice A2 n2 c2) d2 l (by rfl) HO2.out [92, 117, 48, 48, x1, x2] _ (by rfl) (by rfl) 6 (by rfl) (by rfl) (by have := HL.out; simp; omega) (by simp) (by simp) hz2 ?_)
          intro v3 w3 ho
          have HBN3 := Lib.hid (ho.partsN rfl (fun g hg => (HO2.out.lt g hg).1) HB2.out)
          clear ho
          go_wp2_with fail
          exact ⟨QI.step l _ 1 (by rw [HP.out, HE.out, ← X1.out, ← X2.out]; simp) hlt HL.out HT.out (by simp) HBN3.out _ (by simp), by simp [intOf]; omega⟩
        · have HE := Lib.hid (show escA s[k].toNat = [92, 117, 48, 48, hexOf (7), hexOf (15)] by unfold escA; rw [q]; rfl)
          go_wp2_with fail
          refine (hexI _ (7) (by omega) (by omega) _).mono ?_
          rintro e w' ⟨rfl, rfl⟩
          obtain ⟨x1, hx1⟩ := hexB (7) (by omega)
          rw [← hx1]
          have X1 := Lib.hid hx1
          clear hx1
          go_wp2_with fail
          refine (hexI _ (15) (by omega) (by omega) _).mono ?_
          rintro e w' ⟨rfl, rfl⟩
          obtain ⟨x2, hx2⟩ := hexB (15) (by omega)
          rw [← hx2]
          have X2 := Lib.hid hx2
          clear hx2
          go_wp2_with (at_builtin; refine wp_bytes rfl _ _ rfl w' _ _ rfl w0.heap.size (.slice A2 n2 c2) d2 l (by rfl) HO2.out [92, 117, 48, 48, x1, x2] _ (by rfl) (by rfl) 6 (by rfl) (by rfl) (by have := HL.out; simp; omega) (by simp) (by simp) hz2 ?_)
          intro v3 w3 ho
          have HBN3 := Lib.hid (ho.partsN rfl (fun g hg => (HO2.out.lt g hg).1) HB2.out)
          clear ho
          go_wp2_with fail
          exact ⟨QI.step l _ 1 (by rw [HP.out, HE.out, ← X1.out, ← X2.out]; simp) hlt HL.out HT.out (by simp) HBN3.out _ (by simp), by simp [intOf]; omega⟩
        · have HE := Lib.hid (show escA s[k].toNat = [s[k].toNat] by unfold escA; rw [if_neg (by omega), if_neg (by omega), if_neg (by omega), if_neg (by omega), if_neg (by omega), if_neg (by omega), if_neg (by omega), if_neg (by omega)])
          have p32 : decide ((s[k].toNat : Int) < 32) = false := decide_eq_false (by omega)
          go_wp2_with (at_builtin; refine wp_bytes rfl _ _ rfl wr _ _ rfl w0.heap.size (.slice A2 n2 c2) d2 l (by rfl) HO2.out [s[k]] _ (by rfl) (by rfl) 1 (by rfl) (by rfl) (by have := HL.out; simp; omega) (by simp) (by simp) hz2 ?_)
          intro v3 w3 ho
          have HBN3 := Lib.hid (ho.partsN rfl (fun g hg => (HO2.out.lt g hg).1) HB2.out)
          clear ho
          go_wp2_with fail
          exact ⟨QI.step l [s[k]] 1 (by rw [HP.out, HE.out]; simp) hlt HL.out HT.out (by simp) HBN3.out _ (by simp), by simp [intOf]; omega⟩
      · obtain ⟨m, hm⟩ : ∃ m, m = seqS s k := ⟨_, rfl⟩
        have HS : SeqIs s k m := by rw [hm]; exact seqC s k hlt (by omega)
        have HM := Lib.hid hm
        clear hm
        go_wp2_with fail
        refine (HS _).mono ?_
        rintro e w' ⟨rfl, rfl⟩
        by_cases h0 : m = 0
        · subst h0
          have HP := Lib.hid (piece_bad hlt h128 HM.out.symm)
          go_wp2_with (at_builtin; refine wp_bytes rfl _ _ rfl w' _ _ rfl w0.heap.size (.slice A2 n2 c2) d2 l (by rfl) HO2.out [92, 117, 102, 102, 102, 100] _ (by rfl) (by rfl) 6 (by rfl) (by rfl) (by have := HL.out; simp; omega) (by simp) (by simp) hz2 ?_)
          intro v3 w3 ho
          have HBN3 := Lib.hid (ho.partsN rfl (fun g hg => (HO2.out.lt g hg).1) HB2.out)
          clear ho
          go_wp2_with fail
          exact ⟨QI.step l _ 1 HP.out hlt HL.out HT.out (by decide) HBN3.out _ (by simp), by simp [intOf]; omega⟩
        · have hp := piece_run hlt h128 (by rw [← HM.out]; exact h0)
          rw [← HM.out] at hp
          have hle := piece_le s k hlt
          rw [hp] at hle
          have HLE := Lib.hid (show k + m ≤ s.size from hle)
          have HP := Lib.hid hp
          clear hp hle
          have hkm : k + m ≤ s.size := HLE.out
          have hmz : ((m : Int) == 0) = false := by simpa using h0
          go_wp2_with fail
          go_loopw [0, 8] (fun v i wr => ∃ j : Nat, j ≤ m ∧ i = .int .i64 j ∧ BN w0 (l ++ cutN s k j) v wr) (fun _ i _ => m - (intOf i).toNat)
          case atStart => exact ⟨0, Nat.zero_le _, rfl, by simpa [cutN] using ⟨A2, n2, c2, d2, rfl, HN2, HO2, HB2, hz2⟩⟩
          case round =>
            obtain ⟨j, hj, rfl, hbn⟩ := hrel
            obtain ⟨A3, n3, c3, d3, rfl, HN3, HO3, HB3, hz3⟩ := hbn
            have HJ := Lib.hid (show (cutN s k j).length ≤ j by unfold cutN; rw [List.length_take]; omega)
            by_cases hjm : j < m
            · have hin : k + j < s.size := by omega
              go_wp2_with (at_builtin; refine wp_bytes rfl _ _ rfl wr _ _ rfl w0.heap.size (.slice A3 n3 c3) d3 _ (by rfl) HO3.out [s[k + j]] _ (by rfl) (by rfl) 1 (by rfl) (by rfl) (by have := HL.out; have := HJ.out; simp; omega) (by simp) (by simp) hz3 ?_)
              intro v4 w4 ho
              have hbn4 := ho.partsN rfl (fun g hg => (HO3.out.lt g hg).1) HB3.out
              rw [← cutN_snoc s k j hin] at hbn4
              have HBN4 := Lib.hid hbn4
              clear ho hbn4
              go_wp2_with fail
              exact ⟨⟨j + 1, by omega, by go_num, HBN4.out⟩, by simp [intOf]; omega⟩
            · obtain rfl : j = m := by omega
              go_wp2_with fail
              exact ⟨QI.step l _ j HP.out hlt HL.out HT.out (by have := HJ.out; omega) ⟨A3, n3, c3, d3, rfl, HN3, HO3, HB3, hz3⟩ _ (by simp), by simp [intOf]; omega⟩
    · obtain rfl : k = s.size := by omega
      go_wp2_with (at_builtin; refine wp_bytes rfl _ _ rfl wr _ _ rfl w0.heap.size (.slice A2 n2 c2) d2 l (by rfl) HO2.out [34] _ (by rfl) (by rfl) 1 (by rfl) (by rfl) (by have := HL.out; simp; omega) (by simp) (by simp) hz2 ?_)
      intro v3 w3 ho
      have HBN3 := Lib.hid (ho.partsN rfl (fun g hg => (HO2.out.lt g hg).1) HB2.out)
      clear ho
      go_wp2_with fail
      go_ret
      refine ⟨_, rfl, ?_⟩
      have ht := HT.out
      rw [tail_end, List.append_nil] at ht
      have h3 := HBN3.out
      rw [ht] at h3
      unfold quoted
      rw [← List.append_assoc, ← List.append_assoc]
      exact h3
end Go.Proofs.YtfbpffgcofdciaaDoor
