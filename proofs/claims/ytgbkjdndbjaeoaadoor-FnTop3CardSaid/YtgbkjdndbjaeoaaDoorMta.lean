/-
  The law's reader of a text (n001_1001): zMatchTerm's arrays. Printed by genMta.py.
-/
import Derived.Test.YtgbkjdndbjaeoaaDoorMtt
namespace Go.Proofs.YtgbkjdndbjaeoaaDoor
set_option linter.unusedVariables false
set_option linter.unusedSimpArgs false
open Go.ChangeShapes Go.WideShapes Go.ChangeAt Go.RowKit M
theorem jr_head (f : T → List UInt8) (ts : List T) (x : UInt8) (L : List UInt8) (hx : stp.contains x = true) : ∀ c, (jr f true ts ++ (x :: L)).head? = some c → stp.contains c = true := by
  intro c hc
  cases ts with
  | nil =>
    simp [jr] at hc
    rw [← hc]
    exact hx
  | cons t ts =>
    simp [jr] at hc
    rw [← hc]
    decide
set_option maxRecDepth 100000 in
set_option maxHeartbeats 4000000 in
theorem mT_arr (n : Nat) (IH : MT n) (nn : Bool) (ts : List T) (hl : ts.length ≤ 3) (hk : ∀ t ∈ ts, WT n t) (w : World) (pb : Nat) (S : ByteArray) (L : List UInt8) (p : Nat) (ha : At (fun k => k < pb) (n + 2) w p (termF none (some (.nd 59 [.l nn ts])) E0 E0 false false false)) (hz : ZP w pb S (txt (n + 2) (termF none (some (.nd 59 [.l nn ts])) E0 E0 false false false) ++ L)) (hs : S.size ≤ 1099511627776) (hL : ∀ c, L.head? = some c → stp.contains c = true) : Calls Tryd.prog 18 #[.pointer (some ⟨pb, 0, none⟩), .pointer (some ⟨p, 0, none⟩)] w (MOut w pb S L) := by
  have HZ : Hid (ZP w pb S ((⟨#[91]⟩ : ByteArray).data.toList ++ (jr (txt n) false ts ++ (93 :: L)))) := Lib.hid (by
    rw [txt_a, txt_arr, List.append_assoc, List.append_assoc] at hz
    exact hz)
  clear hz hL
  rw [show E0 = (⟨#[]⟩ : ByteArray) from rfl] at ha
  obtain ⟨vo, va, hr, ho, hv, hp⟩ := ha.term
  have ev : vo = .pointer none := ho
  obtain ⟨q, eu, hq⟩ := hv
  subst ev eu
  obtain ⟨A, c, us, hr2, hv2, hab, he, hp2⟩ := hq.list
  obtain ⟨N, hN⟩ : ∃ N, N = ts.length := ⟨_, rfl⟩
  rw [← hN] at hr2 hv2 hab hl
  have HN := Lib.hid hN
  have y0 := hr.cell 0
  have y1 := hr.cell 1
  have HR := Lib.hid hr
  have HR2 := Lib.hid hr2
  have HV := Lib.hid hv2
  have HAB := Lib.hid hab
  have HE := Lib.hid he
  have hpl := hr.lt
  clear ha hr ho hq hr2 hv2 hab he hN
  go_enter Tryd.func18, Tryd.ntmps18
  go_wp2_with fail
  refine (litC _ pb S _ _ HZ.out hs).mono ?_
  rintro e w1 ⟨rfl, hz1, ht1⟩
  have HZ1 := Lib.hid hz1
  have HT1 := Lib.hid ht1
  have r1 := HR.out.touch ht1 (by omega)
  have r2 := HR2.out.touch ht1 (by omega)
  have z0 := r1.cell 0
  have z1 := r1.cell 1
  have x0 := r2.cell 0
  clear hz1 ht1 r1 r2
  go_wp2_with fail
  go_loopw [36] (fun t wr => ∃ j : Nat, j ≤ N ∧ t = .int .i64 j ∧ ZP wr pb S (jr (txt n) (decide (0 < j)) (ts.drop j) ++ (93 :: L)) ∧ Touch (fun k => k = pb) w wr) (fun t _ => N - (intOf t).toNat)
  case atStart => exact ⟨0, Nat.zero_le _, rfl, HZ1.out, HT1.out⟩
  case round =>
    obtain ⟨j, hj, rfl, hzr, htr⟩ := hrel
    have HZR := Lib.hid hzr
    have HTR := Lib.hid htr
    clear hzr htr
    by_cases hlt : j < N
    · have HVR := Lib.hid (HV.out.touch HTR.out (fun h0 x hx _ e => by have := HAB.out x hx h0; omega))
      obtain ⟨ab, ao, q0, t0, hA, hab1, hcell, ht0, hmem, hat⟩ := kid HVR.out HN.out.symm (fun i t u hi hu => by obtain ⟨q, h1, h2⟩ := HE.out i t u hi hu; exact ⟨q, h1, At.turn HTR.out (fun k hk _ e => by omega) (fun k hk _ => hk) n h2⟩) hlt
      subst hA
      have HAT := Lib.hid hat
      have HWK := Lib.hid (hk t0 hmem)
      have HZJ := Lib.hid (show ZP wr pb S ((if 0 < j then [44, 32] else []) ++ (txt n t0 ++ (jr (txt n) true (ts.drop (j + 1)) ++ (93 :: L)))) by have := HZR.out; rw [jr_drop (txt n) ts j t0 ht0] at this; simpa using this)
      clear hat ht0 hmem
      by_cases hj0 : 0 < j
      · have HZK := Lib.hid (show ZP wr pb S ((⟨#[44, 32]⟩ : ByteArray).data.toList ++ (txt n t0 ++ (jr (txt n) true (ts.drop (j + 1)) ++ (93 :: L)))) by have := HZJ.out; rw [if_pos hj0] at this; exact this)
        go_wp2_with fail
        refine (litC _ pb S _ _ HZK.out hs).mono ?_
        rintro e w2 ⟨rfl, hz2, ht2⟩
        have HZ2 := Lib.hid hz2
        have HT2 := Lib.hid (HTR.out.trans ht2)
        have HAT2 := Lib.hid (At.turn (ok' := fun k => k < pb) ht2 (fun k hk _ e => by omega) (fun k hk _ => hk) n HAT.out)
        clear hz2 ht2
        go_wp2_with fail
        refine (IH _ pb S _ q0 t0 HWK.out HAT2.out HZ2.out hs (jr_head _ _ _ _ (by decide))).mono ?_
        rintro e w3 ⟨rfl, hz3, ht3⟩
        have HZ3 := Lib.hid hz3
        have HT3 := Lib.hid (HT2.out.trans ht3)
        clear hz3 ht3
        go_wp2_with fail
        exact ⟨⟨j + 1, by omega, by go_num, by simpa using HZ3.out, HT3.out⟩, by simp [intOf]; omega⟩
      · obtain rfl : j = 0 := by omega
        have hcell0 : wr.cell? ⟨ab, ao, none⟩ = some (.pointer (some ⟨q0, 0, none⟩)) := by simpa using hcell
        clear hcell
        have HZK := Lib.hid (show ZP wr pb S (txt n t0 ++ (jr (txt n) true (ts.drop 1) ++ (93 :: L))) by have := HZJ.out; rw [if_neg hj0] at this; exact this)
        go_wp2_with fail
        refine (IH _ pb S _ q0 t0 HWK.out HAT.out HZK.out hs (jr_head _ _ _ _ (by decide))).mono ?_
        rintro e w3 ⟨rfl, hz3, ht3⟩
        have HZ3 := Lib.hid hz3
        have HT3 := Lib.hid (HTR.out.trans ht3)
        clear hz3 ht3
        go_wp2_with fail
        exact ⟨⟨1, by omega, by go_num, by simpa using HZ3.out, HT3.out⟩, by simp [intOf]; omega⟩
    · obtain rfl : N = j := by omega
      have HZK := Lib.hid (show ZP wr pb S ((⟨#[93]⟩ : ByteArray).data.toList ++ L) by have := HZR.out; rw [List.drop_eq_nil_of_le (by rw [HN.out]; exact Nat.le_refl _)] at this; simpa [jr] using this)
      go_wp2_with fail
      refine (litC _ pb S _ _ HZK.out hs).mono ?_
      rintro e w2 ⟨rfl, hz2, ht2⟩
      have HZ2 := Lib.hid hz2
      have HT2 := Lib.hid (HTR.out.trans ht2)
      clear hz2 ht2
      go_wp2_with fail
      go_ret
      exact ⟨rfl, HZ2.out, HT2.out⟩
end Go.Proofs.YtgbkjdndbjaeoaaDoor
