/-
  The contract of the law's reader zUnquoteAt on the escaped text (n001_1001).
-/
import Derived.Test.YtgbkjdndbjaeoaaDoorRune
import Derived.Test.YtgbkjdndbjaeoaaDoorUq
namespace Go.Proofs.YtgbkjdndbjaeoaaDoor
set_option linter.unusedVariables false
open Go.ChangeShapes Go.WideShapes Go.ChangeAt Go.RowKit M
theorem drop_at {r : ByteArray} {j t : Nat} {L : List UInt8} {b : UInt8} (h : r.data.toList.drop j = L) (hb : L[t]? = some b) : ∃ hx : j + t < r.size, r[j + t] = b := by
  rw [← h, List.getElem?_drop] at hb
  have hlt := (List.getElem?_eq_some_iff.1 hb).1
  rw [Array.length_toList] at hlt
  have hlt' : j + t < r.size := hlt
  refine ⟨hlt', ?_⟩
  have h2 := (List.getElem?_eq_some_iff.1 hb).2
  rw [← h2]
  rfl
theorem drop_next {r : ByteArray} {j : Nat} {A L : List UInt8} (h : r.data.toList.drop j = A ++ L) : r.data.toList.drop (j + A.length) = L := by
  rw [← List.drop_drop, h, List.drop_left]
def val (dg : Nat → Nat) : Nat → Nat
  | 0 => 0
  | t + 1 => val dg t * 16 + dg t
theorem val_le (dg : Nat → Nat) (h : ∀ t, dg t < 16) : ∀ t, val dg t < 16 ^ t
  | 0 => Nat.one_pos
  | t + 1 => by
    have h1 := val_le dg h t
    have h2 := h t
    show val dg t * 16 + dg t < 16 ^ (t + 1)
    rw [Nat.pow_succ]
    omega
def TU (Z : List UInt8) (w0 : World) (r : ByteArray) (FX : List UInt8) (i v : Value) (wr : World) : Prop := ∃ (j f : Nat) (l R : List UInt8), i = .int .i64 j ∧ j ≤ r.size ∧ Hid (uq Z f (r.data.toList.drop j) R) ∧ Hid (l ++ R = FX) ∧ Hid (l.length ≤ 3 * j) ∧ BN w0 l v wr
theorem TU.step {Z : List UInt8} {w0 : World} {r : ByteArray} {FX : List UInt8} {v : Value} {wr : World} {j : Nat} (f : Nat) (l R A p t : List UInt8) (m : Nat) (hA : A.length = m) (hT : r.data.toList.drop j = A ++ t) (hu : uq Z f t R) (hl : l.length ≤ 3 * j) (hp : p.length ≤ 3 * m) (hF : l ++ (p ++ R) = FX) (hm : j + m ≤ r.size) (h : BN w0 (l ++ p) v wr) (I : Int) (hI : I = ↑(j + m)) : TU Z w0 r FX (.int .i64 I) v wr := by
  subst hA
  refine ⟨j + A.length, f, l ++ p, R, by rw [hI], hm, Lib.hid ?_, Lib.hid (by rw [List.append_assoc]; exact hF), Lib.hid (by rw [List.length_append]; omega), h⟩
  rw [drop_next hT]
  exact hu
set_option maxRecDepth 100000 in
set_option maxHeartbeats 8000000 in
theorem unqC (w : World) (r : ByteArray) (FX Z : List UInt8) (i0 E f0 : Nat) (hs : r.size ≤ 1099511627776) (h0 : i0 < r.size) (hq : r[i0] = 34) (hE : E + Z.length = r.size) (hu : uq Z f0 (r.data.toList.drop (i0 + 1)) FX) :
    Calls Tryd.prog 26 #[.string r, .int .i64 i0] w fun e w' => e = .returned (.tuple #[.string ⟨FX.toArray⟩, .int .i64 E, .bool true]) ∧ Below w.heap.size w w' := by
  have n0 : r[i0].toNat = 34 := by rw [hq]; rfl
  have HU0 := Lib.hid hu
  clear hu hq
  have HB0 : Hid (BN w [] (.slice none 0 0) w) := Lib.hid ⟨none, 0, 0, none, rfl, Lib.hid rfl, Lib.hid ⟨⟨rfl, .inl ⟨rfl, rfl⟩⟩, rfl⟩, Lib.hid (Below.refl _ _), Nat.le_refl _⟩
  have HE := Lib.hid hE
  clear hE
  have pz2 : decide (r.size ≤ i0) = false := decide_eq_false (by omega)
  go_enter Tryd.func26, Tryd.ntmps26
  go_wp2_with fail
  go_loopw [1, 7] (fun i v wr => TU Z w r FX i v wr) (fun i _ _ => r.size - (intOf i).toNat)
  case atStart => exact ⟨i0 + 1, f0, [], FX, by go_num, h0, HU0, Lib.hid rfl, Lib.hid (by simp), HB0.out⟩
  case round =>
    obtain ⟨j, f, l, R, rfl, hjs, HU, HF, HL, hbn⟩ := hrel
    obtain ⟨A2, n2, c2, d2, rfl, HN2, HO2, HB2, hz2⟩ := hbn
    cases f with
    | zero => exact absurd HU.out (fun h => h)
    | succ f =>
    have hu := HU.out
    rcases hu with ⟨hT, rfl⟩ | ⟨c, t, R', hT, rfl, q1, q2, q3, hu2⟩ | ⟨e, x, t, R', hT, rfl, he, hu2⟩ | ⟨a, b, x, t, R', hT, rfl, hx, ha, hb, hu2⟩ | ⟨t, R', hT, rfl, hu2⟩
    · obtain ⟨hin, hc⟩ := drop_at (t := 0) hT rfl
      simp only [Nat.add_zero] at hin hc
      have hlen := congrArg List.length hT
      rw [List.length_drop, Array.length_toList] at hlen
      have hj1 : E = j + 1 := by
        have h3 : r.size - j = Z.length + 1 := hlen
        have := HE.out
        omega
      have nc : r[j].toNat = 34 := by rw [hc]; rfl
      have hlf : l = FX := by have h := HF.out; rw [List.append_nil] at h; exact h
      have hcv := HO2.out.conv
      rw [hlf] at hcv
      clear hc hlen hT
      go_wp2_with fail
      (try simp only [Exit.inBlock, Exit.then])
      refine bodyPost_ret (results_tmp3 rfl _ _ _) rfl ?_
      refine ⟨?_, HB2.out⟩
      have e1 : (E : Int) = (j : Int) + 1 := by omega
      rw [e1]
      rfl
    · obtain ⟨hin, hc⟩ := drop_at (t := 0) hT rfl
      simp only [Nat.add_zero] at hin hc
      subst hc
      have p1 : ((r[j].toNat : Int) == 34) = false := by simp; omega
      have p2 : decide ((r[j].toNat : Int) < 32) = false := decide_eq_false (by omega)
      have p3 : ((r[j].toNat : Int) != 92) = true := by simp; omega
      have HT := Lib.hid hT
      have HV := Lib.hid hu2
      clear hT hu2
      go_wp2_with (at_builtin; refine wp_bytes rfl _ _ rfl wr _ _ rfl w.heap.size (.slice A2 n2 c2) d2 l (by rfl) HO2.out [r[j]] _ (by rfl) (by rfl) 1 (by rfl) (by rfl) (by have := HL.out; simp; omega) (by simp) (by simp) hz2 ?_)
      intro v3 w3 ho
      have HBN3 := Lib.hid (ho.partsN rfl (fun g hg => (HO2.out.lt g hg).1) HB2.out)
      clear ho
      go_wp2_with fail
      exact ⟨TU.step f l R' [r[j]] [r[j]] t 1 rfl HT.out HV.out HL.out (by simp) HF.out hin HBN3.out _ (by simp), by simp [intOf]; omega⟩
    · obtain ⟨hin, hc⟩ := drop_at (t := 0) hT rfl
      obtain ⟨hin1, hc1⟩ := drop_at (t := 1) hT rfl
      simp only [Nat.add_zero] at hin hc
      have nc : r[j].toNat = 92 := by rw [hc]; rfl
      have HT := Lib.hid hT
      have HV := Lib.hid hu2
      clear hT hu2 hc
      rcases he with ⟨rfl, rfl⟩ | ⟨rfl, rfl⟩ | ⟨rfl, rfl⟩ | ⟨rfl, rfl⟩ | ⟨rfl, rfl⟩ | ⟨rfl, rfl⟩ | ⟨rfl, rfl⟩
      · have nd : r[j + 1].toNat = 34 := by rw [hc1]; rfl
        clear hc1
        go_wp2_with (at_builtin; refine wp_bytes rfl _ _ rfl wr _ _ rfl w.heap.size (.slice A2 n2 c2) d2 l (by rfl) HO2.out [34] _ (by rfl) (by rfl) 1 (by rfl) (by rfl) (by have := HL.out; simp; omega) (by simp) (by simp) hz2 ?_)
        intro v3 w3 ho
        have HBN3 := Lib.hid (ho.partsN rfl (fun g hg => (HO2.out.lt g hg).1) HB2.out)
        clear ho
        go_wp2_with fail
        exact ⟨TU.step f l R' [92, 34] [34] t 2 rfl HT.out HV.out HL.out (by simp) HF.out (by omega) HBN3.out _ (by simp), by simp [intOf]; omega⟩
      · have nd : r[j + 1].toNat = 92 := by rw [hc1]; rfl
        clear hc1
        go_wp2_with (at_builtin; refine wp_bytes rfl _ _ rfl wr _ _ rfl w.heap.size (.slice A2 n2 c2) d2 l (by rfl) HO2.out [92] _ (by rfl) (by rfl) 1 (by rfl) (by rfl) (by have := HL.out; simp; omega) (by simp) (by simp) hz2 ?_)
        intro v3 w3 ho
        have HBN3 := Lib.hid (ho.partsN rfl (fun g hg => (HO2.out.lt g hg).1) HB2.out)
        clear ho
        go_wp2_with fail
        exact ⟨TU.step f l R' [92, 92] [92] t 2 rfl HT.out HV.out HL.out (by simp) HF.out (by omega) HBN3.out _ (by simp), by simp [intOf]; omega⟩
      · have nd : r[j + 1].toNat = 98 := by rw [hc1]; rfl
        clear hc1
        go_wp2_with (at_builtin; refine wp_bytes rfl _ _ rfl wr _ _ rfl w.heap.size (.slice A2 n2 c2) d2 l (by rfl) HO2.out [8] _ (by rfl) (by rfl) 1 (by rfl) (by rfl) (by have := HL.out; simp; omega) (by simp) (by simp) hz2 ?_)
        intro v3 w3 ho
        have HBN3 := Lib.hid (ho.partsN rfl (fun g hg => (HO2.out.lt g hg).1) HB2.out)
        clear ho
        go_wp2_with fail
        exact ⟨TU.step f l R' [92, 98] [8] t 2 rfl HT.out HV.out HL.out (by simp) HF.out (by omega) HBN3.out _ (by simp), by simp [intOf]; omega⟩
      · have nd : r[j + 1].toNat = 102 := by rw [hc1]; rfl
        clear hc1
        go_wp2_with (at_builtin; refine wp_bytes rfl _ _ rfl wr _ _ rfl w.heap.size (.slice A2 n2 c2) d2 l (by rfl) HO2.out [12] _ (by rfl) (by rfl) 1 (by rfl) (by rfl) (by have := HL.out; simp; omega) (by simp) (by simp) hz2 ?_)
        intro v3 w3 ho
        have HBN3 := Lib.hid (ho.partsN rfl (fun g hg => (HO2.out.lt g hg).1) HB2.out)
        clear ho
        go_wp2_with fail
        exact ⟨TU.step f l R' [92, 102] [12] t 2 rfl HT.out HV.out HL.out (by simp) HF.out (by omega) HBN3.out _ (by simp), by simp [intOf]; omega⟩
      · have nd : r[j + 1].toNat = 110 := by rw [hc1]; rfl
        clear hc1
        go_wp2_with (at_builtin; refine wp_bytes rfl _ _ rfl wr _ _ rfl w.heap.size (.slice A2 n2 c2) d2 l (by rfl) HO2.out [10] _ (by rfl) (by rfl) 1 (by rfl) (by rfl) (by have := HL.out; simp; omega) (by simp) (by simp) hz2 ?_)
        intro v3 w3 ho
        have HBN3 := Lib.hid (ho.partsN rfl (fun g hg => (HO2.out.lt g hg).1) HB2.out)
        clear ho
        go_wp2_with fail
        exact ⟨TU.step f l R' [92, 110] [10] t 2 rfl HT.out HV.out HL.out (by simp) HF.out (by omega) HBN3.out _ (by simp), by simp [intOf]; omega⟩
      · have nd : r[j + 1].toNat = 114 := by rw [hc1]; rfl
        clear hc1
        go_wp2_with (at_builtin; refine wp_bytes rfl _ _ rfl wr _ _ rfl w.heap.size (.slice A2 n2 c2) d2 l (by rfl) HO2.out [13] _ (by rfl) (by rfl) 1 (by rfl) (by rfl) (by have := HL.out; simp; omega) (by simp) (by simp) hz2 ?_)
        intro v3 w3 ho
        have HBN3 := Lib.hid (ho.partsN rfl (fun g hg => (HO2.out.lt g hg).1) HB2.out)
        clear ho
        go_wp2_with fail
        exact ⟨TU.step f l R' [92, 114] [13] t 2 rfl HT.out HV.out HL.out (by simp) HF.out (by omega) HBN3.out _ (by simp), by simp [intOf]; omega⟩
      · have nd : r[j + 1].toNat = 116 := by rw [hc1]; rfl
        clear hc1
        go_wp2_with (at_builtin; refine wp_bytes rfl _ _ rfl wr _ _ rfl w.heap.size (.slice A2 n2 c2) d2 l (by rfl) HO2.out [9] _ (by rfl) (by rfl) 1 (by rfl) (by rfl) (by have := HL.out; simp; omega) (by simp) (by simp) hz2 ?_)
        intro v3 w3 ho
        have HBN3 := Lib.hid (ho.partsN rfl (fun g hg => (HO2.out.lt g hg).1) HB2.out)
        clear ho
        go_wp2_with fail
        exact ⟨TU.step f l R' [92, 116] [9] t 2 rfl HT.out HV.out HL.out (by simp) HF.out (by omega) HBN3.out _ (by simp), by simp [intOf]; omega⟩
    · have HT := Lib.hid hT
      have HV := Lib.hid hu2
      obtain ⟨i0, c0⟩ := drop_at (t := 0) hT rfl
      obtain ⟨i1, c1⟩ := drop_at (t := 1) hT rfl
      obtain ⟨i2, c2'⟩ := drop_at (t := 2) hT rfl
      obtain ⟨i3, c3⟩ := drop_at (t := 3) hT rfl
      obtain ⟨i4, c4⟩ := drop_at (t := 4) hT rfl
      obtain ⟨i5, c5⟩ := drop_at (t := 5) hT rfl
      simp only [Nat.add_zero] at i0 c0
      obtain ⟨dg, hdg⟩ : ∃ dg : Nat → Nat, dg = fun t => if t = 2 then x.toNat / 16 else if t = 3 then x.toNat % 16 else 0 := ⟨_, rfl⟩
      have hd16 : ∀ t, dg t < 16 := by
        intro t
        rw [hdg]
        show (if t = 2 then x.toNat / 16 else if t = 3 then x.toNat % 16 else 0) < 16
        repeat' split
        all_goals omega
      have hD : ∀ t, t < 4 → ∃ hi : j + 2 + t < r.size, r[j + 2 + t].toNat = hexOf (dg t) := by
        intro t ht
        rw [hdg]
        match t, ht with
        | 0, _ => exact ⟨i2, by show r[j + 2].toNat = hexOf 0; rw [c2']; rfl⟩
        | 1, _ => exact ⟨i3, by show r[j + 3].toNat = hexOf 0; rw [c3]; rfl⟩
        | 2, _ => exact ⟨i4, by show r[j + 4].toNat = hexOf (x.toNat / 16); rw [c4]; exact ha⟩
        | 3, _ => exact ⟨i5, by show r[j + 5].toNat = hexOf (x.toNat % 16); rw [c5]; exact hb⟩
      have hV : val dg 4 = x.toNat := by
        rw [hdg]
        show (((0 * 16 + 0) * 16 + 0) * 16 + x.toNat / 16) * 16 + x.toNat % 16 = x.toNat
        omega
      have nc : r[j].toNat = 92 := by rw [c0]; rfl
      have nd : r[j + 1].toNat = 117 := by rw [c1]; rfl
      have hj6 : j + 6 ≤ r.size := by omega
      have HD := Lib.hid hD
      have HVL := Lib.hid (val_le dg hd16)
      have H4 := Lib.hid hV
      clear hT hu2 c0 c1 c2' c3 c4 c5 hD hdg hV
      go_wp2_with fail
      go_loopw [9, 10] (fun v i wr2 => ∃ t : Nat, t ≤ 4 ∧ v = .int .i64 (val dg t) ∧ i = .int .i64 ((j : Int) + 2 + (t : Int)) ∧ wr2 = wr) (fun _ i _ => j + 6 - (intOf i).toNat)
      case atStart => exact ⟨0, Nat.zero_le _, rfl, by simp, rfl⟩
      case round =>
        obtain ⟨k, hk, rfl, rfl, rfl⟩ := hrel
        by_cases hk4 : k < 4
        · obtain ⟨hi, hb1⟩ := HD.out k hk4
          have hv1 := HVL.out k
          have hp : (16 : Nat) ^ k ≤ 65536 := Nat.le_trans (Nat.pow_le_pow_right (by omega) hk) (by decide)
          have HN := Lib.hid (show (val dg k : Int) * 16 + (dg k : Int) = ((val dg (k + 1) : Nat) : Int) by show _ = ((val dg k * 16 + dg k : Nat) : Int); omega)
          obtain ⟨vk, hvk⟩ : ∃ vk, vk = val dg k := ⟨_, rfl⟩
          obtain ⟨dk, hdk⟩ : ∃ dk, dk = dg k := ⟨_, rfl⟩
          have hd1 := hd16 k
          rw [← hdk] at hd1
          have hz := zhexC (dg k) (hd16 k) r[j + 2 + k] hb1
          rw [← hdk] at hz
          have HZ := Lib.hid hz
          have hn2 := HN.out
          rw [← hvk, ← hdk] at hn2
          have HN2 := Lib.hid hn2
          have hvb : vk < 65536 := by rw [hvk]; omega
          rw [← hvk]
          clear hn2 hz hv1 hp hb1 hvk hdk
          have pd : decide ((dk : Int) < 0) = false := decide_eq_false (by omega)
          go_wp2_with fail
          refine (HZ.out _).mono ?_
          rintro e w' ⟨rfl, rfl⟩
          go_wp2_with fail
          exact ⟨⟨k + 1, by omega, by rw [← HN2.out], by go_num, trivial⟩, by simp [intOf]; omega⟩
        · obtain rfl : k = 4 := by omega
          rw [H4.out]
          go_wp2_with fail
          refine (appA wr w A2 n2 c2 d2 l x _ rfl hx HO2.out HB2.out (by have := HL.out; omega)).mono ?_
          rintro e w3 ⟨v', rfl, h3⟩
          have H3 := Lib.hid h3
          clear h3
          go_wp2_with fail
          exact ⟨TU.step f l R' [92, 117, 48, 48, a, b] [x] t 6 rfl HT.out HV.out HL.out (by simp) HF.out hj6 H3.out _ (by simp), by simp [intOf]; omega⟩
    · have HT := Lib.hid hT
      have HV := Lib.hid hu2
      obtain ⟨i0, c0⟩ := drop_at (t := 0) hT rfl
      obtain ⟨i1, c1⟩ := drop_at (t := 1) hT rfl
      obtain ⟨i2, c2'⟩ := drop_at (t := 2) hT rfl
      obtain ⟨i3, c3⟩ := drop_at (t := 3) hT rfl
      obtain ⟨i4, c4⟩ := drop_at (t := 4) hT rfl
      obtain ⟨i5, c5⟩ := drop_at (t := 5) hT rfl
      simp only [Nat.add_zero] at i0 c0
      obtain ⟨dg, hdg⟩ : ∃ dg : Nat → Nat, dg = fun t => if t = 3 then 13 else 15 := ⟨_, rfl⟩
      have hd16 : ∀ t, dg t < 16 := by
        intro t
        rw [hdg]
        show (if t = 3 then 13 else 15) < 16
        split <;> omega
      have hD : ∀ t, t < 4 → ∃ hi : j + 2 + t < r.size, r[j + 2 + t].toNat = hexOf (dg t) := by
        intro t ht
        rw [hdg]
        match t, ht with
        | 0, _ => exact ⟨i2, by show r[j + 2].toNat = hexOf 15; rw [c2']; rfl⟩
        | 1, _ => exact ⟨i3, by show r[j + 3].toNat = hexOf 15; rw [c3]; rfl⟩
        | 2, _ => exact ⟨i4, by show r[j + 4].toNat = hexOf 15; rw [c4]; rfl⟩
        | 3, _ => exact ⟨i5, by show r[j + 5].toNat = hexOf 13; rw [c5]; rfl⟩
      have hV : val dg 4 = 65533 := by
        rw [hdg]
        rfl
      have nc : r[j].toNat = 92 := by rw [c0]; rfl
      have nd : r[j + 1].toNat = 117 := by rw [c1]; rfl
      have hj6 : j + 6 ≤ r.size := by omega
      have HD := Lib.hid hD
      have HVL := Lib.hid (val_le dg hd16)
      have H4 := Lib.hid hV
      clear hT hu2 c0 c1 c2' c3 c4 c5 hD hdg hV
      go_wp2_with fail
      go_loopw [9, 10] (fun v i wr2 => ∃ t : Nat, t ≤ 4 ∧ v = .int .i64 (val dg t) ∧ i = .int .i64 ((j : Int) + 2 + (t : Int)) ∧ wr2 = wr) (fun _ i _ => j + 6 - (intOf i).toNat)
      case atStart => exact ⟨0, Nat.zero_le _, rfl, by simp, rfl⟩
      case round =>
        obtain ⟨k, hk, rfl, rfl, rfl⟩ := hrel
        by_cases hk4 : k < 4
        · obtain ⟨hi, hb1⟩ := HD.out k hk4
          have hv1 := HVL.out k
          have hp : (16 : Nat) ^ k ≤ 65536 := Nat.le_trans (Nat.pow_le_pow_right (by omega) hk) (by decide)
          have HN := Lib.hid (show (val dg k : Int) * 16 + (dg k : Int) = ((val dg (k + 1) : Nat) : Int) by show _ = ((val dg k * 16 + dg k : Nat) : Int); omega)
          obtain ⟨vk, hvk⟩ : ∃ vk, vk = val dg k := ⟨_, rfl⟩
          obtain ⟨dk, hdk⟩ : ∃ dk, dk = dg k := ⟨_, rfl⟩
          have hd1 := hd16 k
          rw [← hdk] at hd1
          have hz := zhexC (dg k) (hd16 k) r[j + 2 + k] hb1
          rw [← hdk] at hz
          have HZ := Lib.hid hz
          have hn2 := HN.out
          rw [← hvk, ← hdk] at hn2
          have HN2 := Lib.hid hn2
          have hvb : vk < 65536 := by rw [hvk]; omega
          rw [← hvk]
          clear hn2 hz hv1 hp hb1 hvk hdk
          have pd : decide ((dk : Int) < 0) = false := decide_eq_false (by omega)
          go_wp2_with fail
          refine (HZ.out _).mono ?_
          rintro e w' ⟨rfl, rfl⟩
          go_wp2_with fail
          exact ⟨⟨k + 1, by omega, by rw [← HN2.out], by go_num, trivial⟩, by simp [intOf]; omega⟩
        · obtain rfl : k = 4 := by omega
          rw [H4.out]
          go_wp2_with fail
          refine (appF wr w A2 n2 c2 d2 l HO2.out HB2.out (by have := HL.out; omega)).mono ?_
          rintro e w3 ⟨v', rfl, h3⟩
          have H3 := Lib.hid h3
          clear h3
          go_wp2_with fail
          exact ⟨TU.step f l R' [92, 117, 102, 102, 102, 100] [239, 191, 189] t 6 rfl HT.out HV.out HL.out (by simp) HF.out hj6 H3.out _ (by simp), by simp [intOf]; omega⟩
end Go.Proofs.YtgbkjdndbjaeoaaDoor
