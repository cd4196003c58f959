/-
  The contracts of the bounds: nestedFit, objBytes, mergeInputsFit, zzBytes (n001_79). Printed by genF.py.
-/
import Derived.Test.YtdjebcejpachmaaMrg
namespace Go.Proofs.Ytdjebcejpachmaa
set_option linter.unusedVariables false
set_option linter.unusedSimpArgs false
open Go.ChangeShapes Go.WideShapes Go.ChangeAt Go.RowKit M
theorem nv_str {w : World} {a : Option Addr} {len : Nat} {us : List Value} {nks : NK} (h : Vw w a len us) (hn : NV w us (nkV nks)) {i : Nat} (hi : i < len) :
    ∃ b o a' L c' zs, a = some ⟨b, o, none⟩ ∧ b < w.heap.size ∧ w.cell? ⟨b, o + i, none⟩ = some (.slice a' L c') ∧ Vw w a' L (strV zs) ∧ nkAt nks i = (a'.isSome, zs) ∧ zs.length = L := by
  obtain ⟨b, o, u, ha, hb, hu, hc⟩ := h.get hi
  have hl : i < (nkV nks).length := by rw [← hn.1, h.1]; exact hi
  obtain ⟨x, hx⟩ : ∃ x, (nkV nks)[i]? = some x := ⟨_, List.getElem?_eq_getElem hl⟩
  obtain ⟨a', c', rfl, hs', hv'⟩ := hn.2 i u x hu hx
  unfold nkV at hx
  rw [List.getElem?_map] at hx
  obtain ⟨y, hy, rfl⟩ := Option.map_eq_some_iff.1 hx
  refine ⟨b, o, a', _, c', y.2, ha, hb, hc, hv', ?_, by simp [strV]⟩
  unfold nkAt
  rw [hy, hs']
  rfl
theorem nv_int {w : World} {a : Option Addr} {len : Nat} {us : List Value} {nvs : NI} (h : Vw w a len us) (hn : NV w us (niV nvs)) {i : Nat} (hi : i < len) :
    ∃ b o a' L c' zs, a = some ⟨b, o, none⟩ ∧ b < w.heap.size ∧ w.cell? ⟨b, o + i, none⟩ = some (.slice a' L c') ∧ Vw w a' L (intsV zs) ∧ niAt nvs i = (a'.isSome, zs) ∧ zs.length = L := by
  obtain ⟨b, o, u, ha, hb, hu, hc⟩ := h.get hi
  have hl : i < (niV nvs).length := by rw [← hn.1, h.1]; exact hi
  obtain ⟨x, hx⟩ : ∃ x, (niV nvs)[i]? = some x := ⟨_, List.getElem?_eq_getElem hl⟩
  obtain ⟨a', c', rfl, hs', hv'⟩ := hn.2 i u x hu hx
  unfold niV at hx
  rw [List.getElem?_map] at hx
  obtain ⟨y, hy, rfl⟩ := Option.map_eq_some_iff.1 hx
  refine ⟨b, o, a', _, c', y.2, ha, hb, hc, hv', ?_, by simp [intsV]⟩
  unfold niAt
  rw [hy, hs']
  rfl
theorem nk_out {w : World} {a : Option Addr} {len : Nat} {us : List Value} {nks : NK} (h : Vw w a len us) (hn : NV w us (nkV nks)) (hi : ∀ i, i < len → (nkAt nks i).2.length ≤ 4096) (j : Nat) : (nkAt nks j).2.length ≤ 4096 := by
  by_cases hj : j < len
  · exact hi j hj
  · have : nks.length = len := by have := hn.1; rw [h.1] at this; simpa [nkV] using this.symm
    unfold nkAt
    rw [List.getElem?_eq_none (by omega)]
    simp
theorem ni_out {w : World} {a : Option Addr} {len : Nat} {us : List Value} {nvs : NI} (h : Vw w a len us) (hn : NV w us (niV nvs)) (hi : ∀ i, i < len → (niAt nvs i).2.length ≤ 4096) (j : Nat) : (niAt nvs j).2.length ≤ 4096 := by
  by_cases hj : j < len
  · exact hi j hj
  · have : nvs.length = len := by have := hn.1; rw [h.1] at this; simpa [niV] using this.symm
    unfold niAt
    rw [List.getElem?_eq_none (by omega)]
    simp
def NestOut (w : World) (nks : NK) (nvs : NI) (e : Ending) (w' : World) : Prop := ∃ b : Bool, e = .returned (.bool b) ∧ w = w' ∧ (b = true → (∀ j, (nkAt nks j).2.length ≤ 4096) ∧ ∀ j, (niAt nvs j).2.length ≤ 4096)
theorem nestC (a2 : Option Addr) (len2 cap2 : Nat) (us2 : List Value) (nks : NK) (a3 : Option Addr) (len3 cap3 : Nat) (us3 : List Value) (nvs : NI) (w : World) (h2 : Vw w a2 len2 us2) (n2 : NV w us2 (nkV nks)) (h3 : Vw w a3 len3 us3) (n3 : NV w us3 (niV nvs)) (l2 : len2 ≤ 4096) (l3 : len3 ≤ 4096) :
    Calls Try.prog 25 #[.slice a2 len2 cap2, .slice a3 len3 cap3] w (NestOut w nks nvs) := by
  have H2 := Lib.hid h2
  have N2 := Lib.hid n2
  have H3 := Lib.hid h3
  have N3 := Lib.hid n3
  clear h2 n2 h3 n3
  go_enter Try.func25, Try.ntmps25
  go_wp2_with fail
  go_loop [5] (fun i => ∃ k : Nat, k ≤ len2 ∧ i = .int .i64 k ∧ Hid (∀ i, i < k → (nkAt nks i).2.length ≤ 4096)) (fun i => len2 - (intOf i).toNat)
  case atStart => exact ⟨0, Nat.zero_le _, rfl, Lib.hid (fun (i : Nat) (hi : i < 0) => absurd hi (Nat.not_lt_zero i))⟩
  case round =>
    obtain ⟨k, hk, rfl, HK⟩ := hrel
    by_cases hlt : k < len2
    · obtain ⟨b, o, a', L, c', zs, rfl, hb, hc, hv, hat, hzl⟩ := nv_str H2.out N2.out hlt
      by_cases hL : L ≤ 4096
      · have HK2 := Lib.hid (show ∀ i, i < k + 1 → (nkAt nks i).2.length ≤ 4096 from fun i hi => by
          by_cases hik : i = k
          · subst hik
            rw [hat]
            show zs.length ≤ 4096
            omega
          · exact HK.out i (by omega))
        clear hv hat hzl
        go_wp2_with fail
        exact ⟨⟨k + 1, by omega, by go_num, HK2⟩, by simp [intOf]; omega⟩
      · clear hv hat hzl
        go_wp2_with fail
        go_ret
        exact ⟨_, rfl, rfl, by simp⟩
    · obtain rfl : len2 = k := by omega
      go_wp2_with fail
      go_loop [6] (fun i => ∃ k : Nat, k ≤ len3 ∧ i = .int .i64 k ∧ Hid (∀ i, i < k → (niAt nvs i).2.length ≤ 4096)) (fun i => len3 - (intOf i).toNat)
      case atStart => exact ⟨0, Nat.zero_le _, rfl, Lib.hid (fun (i : Nat) (hi : i < 0) => absurd hi (Nat.not_lt_zero i))⟩
      case round =>
        obtain ⟨k3, hk3, rfl, HK3⟩ := hrel
        by_cases hlt3 : k3 < len3
        · obtain ⟨b, o, a', L, c', zs, rfl, hb, hc, hv, hat, hzl⟩ := nv_int H3.out N3.out hlt3
          by_cases hL : L ≤ 4096
          · have HK2 := Lib.hid (show ∀ i, i < k3 + 1 → (niAt nvs i).2.length ≤ 4096 from fun i hi => by
              by_cases hik : i = k3
              · subst hik
                rw [hat]
                show zs.length ≤ 4096
                omega
              · exact HK3.out i (by omega))
            clear hv hat hzl
            go_wp2_with fail
            exact ⟨⟨k3 + 1, by omega, by go_num, HK2⟩, by simp [intOf]; omega⟩
          · clear hv hat hzl
            go_wp2_with fail
            go_ret
            exact ⟨_, rfl, rfl, by simp⟩
        · obtain rfl : len3 = k3 := by omega
          go_wp2_with fail
          go_ret
          exact ⟨_, rfl, rfl, fun _ => ⟨nk_out H2.out N2.out HK.out, ni_out H3.out N3.out HK3.out⟩⟩
set_option maxRecDepth 100000 in
set_option maxHeartbeats 4000000 in
theorem objBytesC (a0 : Option Addr) (len0 cap0 : Nat) (ks : List ByteArray) (a1 : Option Addr) (len1 cap1 : Nat) (vs : List Int) (a2 : Option Addr) (len2 cap2 : Nat) (us2 : List Value) (nks : NK) (a3 : Option Addr) (len3 cap3 : Nat) (us3 : List Value) (nvs : NI) (w : World)
    (h0 : Vw w a0 len0 (strV ks)) (h1 : Vw w a1 len1 (intsV vs)) (h2 : Vw w a2 len2 us2) (n2 : NV w us2 (nkV nks)) (h3 : Vw w a3 len3 us3) (n3 : NV w us3 (niV nvs)) (l0 : len0 ≤ 4096) (l1 : len1 ≤ 4096) (l2 : len2 ≤ 4096) (l3 : len3 ≤ 4096)
    (q2 : ∀ j, (nkAt nks j).2.length ≤ 4096) (q3 : ∀ j, (niAt nvs j).2.length ≤ 4096) :
    Calls Try.prog 26 #[.slice a0 len0 cap0, .slice a1 len1 cap1, .slice a2 len2 cap2, .slice a3 len3 cap3] w (SomeInt w) := by
  have H0 := Lib.hid h0
  have H2 := Lib.hid h2
  have N2 := Lib.hid n2
  have H3 := Lib.hid h3
  have N3 := Lib.hid n3
  have Q2 := Lib.hid q2
  have Q3 := Lib.hid q3
  clear h0 h1 h2 n2 h3 n3 q2 q3
  go_enter Try.func26, Try.ntmps26
  go_wp2_with fail
  go_loop [9, 10] (fun t i => ∃ (n : Int) (k : Nat), k ≤ len0 ∧ t = .int .i64 n ∧ i = .int .i64 k) (fun _ i => len0 - (intOf i).toNat)
  case atStart => exact ⟨_, 0, Nat.zero_le _, rfl, rfl⟩
  case round =>
    obtain ⟨n, k, hk, rfl, rfl⟩ := hrel
    by_cases hlt : k < len0
    · obtain ⟨b, o, s, rfl, hb, hs, hc⟩ := H0.out.str hlt
      clear hs
      go_wp2_with fail
      exact ⟨⟨_, k + 1, by omega, rfl, by go_num⟩, by simp [intOf]; omega⟩
    · obtain rfl : len0 = k := by omega
      go_wp2_with fail
      go_loop [9, 11] (fun t i => ∃ (n : Int) (k : Nat), k ≤ len2 ∧ t = .int .i64 n ∧ i = .int .i64 k) (fun _ i => len2 - (intOf i).toNat)
      case atStart => exact ⟨_, 0, Nat.zero_le _, rfl, rfl⟩
      case round =>
        obtain ⟨n, k, hk, rfl, rfl⟩ := hrel
        by_cases hlt : k < len2
        · obtain ⟨b, o, a', L, c', zs, rfl, hb, hc, hv, hat, hzl⟩ := nv_str H2.out N2.out hlt
          have hL : L ≤ 4096 := by rw [← hzl]; have := Q2.out k; rw [hat] at this; exact this
          have HV := Lib.hid hv
          clear hv hat hzl
          go_wp2_with fail
          go_loop [9, 12] (fun t i => ∃ (n : Int) (k : Nat), k ≤ L ∧ t = .int .i64 n ∧ i = .int .i64 k) (fun _ i => L - (intOf i).toNat)
          case atStart => exact ⟨_, 0, Nat.zero_le _, rfl, rfl⟩
          case round =>
            obtain ⟨n, k5, hk5, rfl, rfl⟩ := hrel
            by_cases hlt5 : k5 < L
            · obtain ⟨b5, o5, s5, rfl, hb5, hs5, hc5⟩ := HV.out.str hlt5
              clear hs5
              go_wp2_with fail
              exact ⟨⟨_, k5 + 1, by omega, rfl, by go_num⟩, by simp [intOf]; omega⟩
            · obtain rfl : L = k5 := by omega
              by_cases hn : n ≤ 2097152
              · go_wp2_with fail
                exact ⟨⟨_, k + 1, by omega, rfl, by go_num⟩, by simp [intOf]; omega⟩
              · go_wp2_with fail
                go_ret
                exact ⟨_, rfl, rfl⟩
        · obtain rfl : len2 = k := by omega
          go_wp2_with fail
          go_loop [9, 13] (fun t i => ∃ (n : Int) (k : Nat), k ≤ len3 ∧ t = .int .i64 n ∧ i = .int .i64 k) (fun _ i => len3 - (intOf i).toNat)
          case atStart => exact ⟨_, 0, Nat.zero_le _, rfl, rfl⟩
          case round =>
            obtain ⟨n, k, hk, rfl, rfl⟩ := hrel
            by_cases hlt : k < len3
            · obtain ⟨b, o, a', L, c', zs, rfl, hb, hc, hv, hat, hzl⟩ := nv_int H3.out N3.out hlt
              have hL : L ≤ 4096 := by rw [← hzl]; have := Q3.out k; rw [hat] at this; exact this
              clear hv hat hzl
              go_wp2_with fail
              all_goals first
                | exact ⟨⟨_, k + 1, by omega, rfl, by go_num⟩, by simp [intOf]; omega⟩
                | (go_ret; exact ⟨_, rfl, rfl⟩)
            · obtain rfl : len3 = k := by omega
              go_wp2_with fail
              go_ret
              exact ⟨_, rfl, rfl⟩
def FitOut (w : World) (len0 len1 len2 len3 len4 len5 len6 len7 : Nat) (z2 : NK) (z3 : NI) (z6 : NK) (z7 : NI) (e : Ending) (w' : World) : Prop := ∃ b : Bool, e = .returned (.bool b) ∧ w = w' ∧ (b = true → (len0 ≤ 4096 ∧ len1 ≤ 4096 ∧ len2 ≤ 4096 ∧ len3 ≤ 4096) ∧ (len4 ≤ 4096 ∧ len5 ≤ 4096 ∧ len6 ≤ 4096 ∧ len7 ≤ 4096) ∧ ((∀ j, (nkAt z2 j).2.length ≤ 4096) ∧ ∀ j, (niAt z3 j).2.length ≤ 4096) ∧ (∀ j, (nkAt z6 j).2.length ≤ 4096) ∧ ∀ j, (niAt z7 j).2.length ≤ 4096)
set_option maxRecDepth 100000 in
set_option maxHeartbeats 4000000 in
theorem fitC (a0 : Option Addr) (len0 cap0 : Nat) (z0 : List ByteArray) (a1 : Option Addr) (len1 cap1 : Nat) (z1 : List Int) (a2 : Option Addr) (len2 cap2 : Nat) (us2 : List Value) (z2 : NK) (a3 : Option Addr) (len3 cap3 : Nat) (us3 : List Value) (z3 : NI) (a4 : Option Addr) (len4 cap4 : Nat) (z4 : List ByteArray) (a5 : Option Addr) (len5 cap5 : Nat) (z5 : List Int) (a6 : Option Addr) (len6 cap6 : Nat) (us6 : List Value) (z6 : NK) (a7 : Option Addr) (len7 cap7 : Nat) (us7 : List Value) (z7 : NI) (w : World) (h0 : Vw w a0 len0 (strV z0)) (h1 : Vw w a1 len1 (intsV z1)) (h2 : Vw w a2 len2 us2) (n2 : NV w us2 (nkV z2)) (h3 : Vw w a3 len3 us3) (n3 : NV w us3 (niV z3)) (h4 : Vw w a4 len4 (strV z4)) (h5 : Vw w a5 len5 (intsV z5)) (h6 : Vw w a6 len6 us6) (n6 : NV w us6 (nkV z6)) (h7 : Vw w a7 len7 us7) (n7 : NV w us7 (niV z7)) (b0 : len0 ≤ 9223372036854775807) (b1 : len1 ≤ 9223372036854775807) (b2 : len2 ≤ 9223372036854775807) (b3 : len3 ≤ 9223372036854775807) (b4 : len4 ≤ 9223372036854775807) (b5 : len5 ≤ 9223372036854775807) (b6 : len6 ≤ 9223372036854775807) (b7 : len7 ≤ 9223372036854775807) :
    Calls Try.prog 10 #[.slice a0 len0 cap0, .slice a1 len1 cap1, .slice a2 len2 cap2, .slice a3 len3 cap3, .slice a4 len4 cap4, .slice a5 len5 cap5, .slice a6 len6 cap6, .slice a7 len7 cap7] w (FitOut w len0 len1 len2 len3 len4 len5 len6 len7 z2 z3 z6 z7) := by
  have H0 := Lib.hid h0
  have H1 := Lib.hid h1
  have H2 := Lib.hid h2
  have H3 := Lib.hid h3
  have H4 := Lib.hid h4
  have H5 := Lib.hid h5
  have H6 := Lib.hid h6
  have H7 := Lib.hid h7
  have N2 := Lib.hid n2
  have N3 := Lib.hid n3
  have N6 := Lib.hid n6
  have N7 := Lib.hid n7
  clear h0 h1 h2 h3 h4 h5 h6 h7 n2 n3 n6 n7
  by_cases p0 : len0 ≤ 4096 ∧ len1 ≤ 4096 ∧ len2 ≤ 4096 ∧ len3 ≤ 4096
  · obtain ⟨p0, p1, p2, p3⟩ := p0
    by_cases p4 : len4 ≤ 4096 ∧ len5 ≤ 4096 ∧ len6 ≤ 4096 ∧ len7 ≤ 4096
    · obtain ⟨p4, p5, p6, p7⟩ := p4
      go_enter Try.func10, Try.ntmps10
      go_wp2_with fail
      refine (nestC a2 len2 cap2 us2 z2 a3 len3 cap3 us3 z3 _ H2.out N2.out H3.out N3.out p2 p3).mono ?_
      rintro e w' ⟨b, rfl, rfl, hb⟩
      have HB := Lib.hid hb
      clear hb
      cases b
      · go_wp2_with fail
        go_ret
        exact ⟨_, rfl, rfl, by simp⟩
      · go_wp2_with fail
        refine (nestC a6 len6 cap6 us6 z6 a7 len7 cap7 us7 z7 _ H6.out N6.out H7.out N7.out p6 p7).mono ?_
        rintro e w' ⟨b, rfl, rfl, hb2⟩
        have HB2 := Lib.hid hb2
        clear hb2
        cases b
        · go_wp2_with fail
          go_ret
          exact ⟨_, rfl, rfl, by simp⟩
        · obtain ⟨q2, q3⟩ := HB.out (by simp)
          obtain ⟨q6, q7⟩ := HB2.out (by simp)
          have Q2 := Lib.hid q2
          have Q3 := Lib.hid q3
          have Q6 := Lib.hid q6
          have Q7 := Lib.hid q7
          clear q2 q3 q6 q7
          go_wp2_with fail
          refine (objBytesC a0 len0 cap0 z0 a1 len1 cap1 z1 a2 len2 cap2 us2 z2 a3 len3 cap3 us3 z3 _ H0.out H1.out H2.out N2.out H3.out N3.out p0 p1 p2 p3 Q2.out Q3.out).mono ?_
          rintro e w' ⟨x, rfl, rfl⟩
          go_wp2_with fail
          refine (objBytesC a4 len4 cap4 z4 a5 len5 cap5 z5 a6 len6 cap6 us6 z6 a7 len7 cap7 us7 z7 _ H4.out H5.out H6.out N6.out H7.out N7.out p4 p5 p6 p7 Q6.out Q7.out).mono ?_
          rintro e w' ⟨y, rfl, rfl⟩
          go_wp2_with fail
          go_ret
          exact ⟨_, rfl, rfl, fun _ => ⟨⟨p0, p1, p2, p3⟩, ⟨p4, p5, p6, p7⟩, ⟨Q2.out, Q3.out⟩, Q6.out, Q7.out⟩⟩
    · rcases (show 4096 < len4 ∨ (len4 ≤ 4096 ∧ 4096 < len5) ∨ (len4 ≤ 4096 ∧ len5 ≤ 4096 ∧ 4096 < len6) ∨ (len4 ≤ 4096 ∧ len5 ≤ 4096 ∧ len6 ≤ 4096 ∧ 4096 < len7) by omega) with q | ⟨q, r⟩ | ⟨q, r, s⟩ | ⟨q, r, s, t⟩
      all_goals
        clear p4
        go_enter Try.func10, Try.ntmps10
        go_wp2_with fail
        go_ret
        exact ⟨_, rfl, rfl, by simp⟩
  · rcases (show 4096 < len0 ∨ (len0 ≤ 4096 ∧ 4096 < len1) ∨ (len0 ≤ 4096 ∧ len1 ≤ 4096 ∧ 4096 < len2) ∨ (len0 ≤ 4096 ∧ len1 ≤ 4096 ∧ len2 ≤ 4096 ∧ 4096 < len3) by omega) with q | ⟨q, r⟩ | ⟨q, r, s⟩ | ⟨q, r, s, t⟩
    all_goals
      clear p0
      go_enter Try.func10, Try.ntmps10
      go_wp2_with fail
      go_ret
      exact ⟨_, rfl, rfl, by simp⟩
set_option maxRecDepth 100000 in
set_option maxHeartbeats 16000000 in
theorem zzC (a0 : Option Addr) (len0 cap0 : Nat) (z0 : List ByteArray) (a1 : Option Addr) (len1 cap1 : Nat) (z1 : List Int) (a2 : Option Addr) (len2 cap2 : Nat) (us2 : List Value) (z2 : NK) (a3 : Option Addr) (len3 cap3 : Nat) (us3 : List Value) (z3 : NI) (a4 : Option Addr) (len4 cap4 : Nat) (z4 : List ByteArray) (a5 : Option Addr) (len5 cap5 : Nat) (z5 : List Int) (a6 : Option Addr) (len6 cap6 : Nat) (us6 : List Value) (z6 : NK) (a7 : Option Addr) (len7 cap7 : Nat) (us7 : List Value) (z7 : NI) (w : World) (h0 : Vw w a0 len0 (strV z0)) (h1 : Vw w a1 len1 (intsV z1)) (h2 : Vw w a2 len2 us2) (n2 : NV w us2 (nkV z2)) (h3 : Vw w a3 len3 us3) (n3 : NV w us3 (niV z3)) (h4 : Vw w a4 len4 (strV z4)) (h5 : Vw w a5 len5 (intsV z5)) (h6 : Vw w a6 len6 us6) (n6 : NV w us6 (nkV z6)) (h7 : Vw w a7 len7 us7) (n7 : NV w us7 (niV z7)) (b0 : len0 ≤ 9223372036854775807) (b1 : len1 ≤ 9223372036854775807) (b2 : len2 ≤ 9223372036854775807) (b3 : len3 ≤ 9223372036854775807) (b4 : len4 ≤ 9223372036854775807) (b5 : len5 ≤ 9223372036854775807) (b6 : len6 ≤ 9223372036854775807) (b7 : len7 ≤ 9223372036854775807) :
    Calls Try.prog 9 #[.slice a0 len0 cap0, .slice a1 len1 cap1, .slice a2 len2 cap2, .slice a3 len3 cap3, .slice a4 len4 cap4, .slice a5 len5 cap5, .slice a6 len6 cap6, .slice a7 len7 cap7] w (SomeBool w) := by
  have H0 := Lib.hid h0
  have H1 := Lib.hid h1
  have H2 := Lib.hid h2
  have H3 := Lib.hid h3
  have H4 := Lib.hid h4
  have H5 := Lib.hid h5
  have H6 := Lib.hid h6
  have H7 := Lib.hid h7
  have N2 := Lib.hid n2
  have N3 := Lib.hid n3
  have N6 := Lib.hid n6
  have N7 := Lib.hid n7
  clear h0 h1 h2 h3 h4 h5 h6 h7 n2 n3 n6 n7
  go_enter Try.func9, Try.ntmps9
  by_cases q0a : len0 ≤ 1048576
  · skip
    by_cases q0b : (0 : Int) + len0 ≤ 1048576
    · skip
      go_wp2
      go_loop [17, 18] (fun t i => ∃ (n : Int) (k : Nat), k ≤ len0 ∧ 0 ≤ n ∧ n ≤ 1048576 ∧ t = .int .i64 n ∧ i = .int .i64 k) (fun _ i => len0 - (intOf i).toNat)
      case atStart => exact ⟨_, 0, Nat.zero_le _, by omega, by omega, rfl, rfl⟩
      case round =>
        obtain ⟨xn0, k0, hk0k, xn00, xn01, rfl, rfl⟩ := hrel
        by_cases hlt0 : k0 < len0
        · obtain ⟨b, o, s, rfl, hb, hs, hc⟩ := H0.out.str hlt0
          clear hs
          by_cases hs1 : s.size ≤ 1048576
          · by_cases hs2 : xn0 + s.size ≤ 1048576
            · go_wp2
              exact ⟨⟨_, k0 + 1, by omega, by omega, by omega, rfl, by go_num⟩, by simp [intOf]; omega⟩
            · go_wp2
              go_ret
              exact ⟨_, rfl, rfl⟩
          · go_wp2
            go_ret
            exact ⟨_, rfl, rfl⟩
        · obtain rfl : len0 = k0 := by omega
          by_cases q1a : len1 ≤ 1048576
          · skip
            by_cases q1b : xn0 + len1 ≤ 1048576
            · skip
              by_cases q2a : len2 ≤ 1048576
              · skip
                by_cases q2b : xn0 + len1 + len2 ≤ 1048576
                · skip
                  go_wp2
                  go_loop [17, 19] (fun t i => ∃ (n : Int) (k : Nat), k ≤ len2 ∧ 0 ≤ n ∧ n ≤ 1048576 ∧ t = .int .i64 n ∧ i = .int .i64 k) (fun _ i => len2 - (intOf i).toNat)
                  case atStart => exact ⟨_, 0, Nat.zero_le _, by omega, by omega, rfl, rfl⟩
                  case round =>
                    obtain ⟨xn2, k2, hk2k, xn20, xn21, rfl, rfl⟩ := hrel
                    by_cases hlt2 : k2 < len2
                    · obtain ⟨b, o, a', L, c', zs, rfl, hb, hc, hv, hat, hzl⟩ := nv_str H2.out N2.out hlt2
                      have HV := Lib.hid hv
                      clear hv hat hzl
                      by_cases hs1 : L ≤ 1048576
                      · by_cases hs2 : xn2 + L ≤ 1048576
                        · go_wp2
                          go_loop [17, 20] (fun t i => ∃ (n : Int) (k : Nat), k ≤ L ∧ 0 ≤ n ∧ n ≤ 1048576 ∧ t = .int .i64 n ∧ i = .int .i64 k) (fun _ i => L - (intOf i).toNat)
                          case atStart => exact ⟨_, 0, Nat.zero_le _, by omega, by omega, rfl, rfl⟩
                          case round =>
                            obtain ⟨y, m, hm, y0, y1, rfl, rfl⟩ := hrel
                            by_cases hlm : m < L
                            · obtain ⟨b5, o5, s5, rfl, hb5, hs5, hc5⟩ := HV.out.str hlm
                              clear hs5
                              by_cases hs3 : s5.size ≤ 1048576
                              · by_cases hs4 : y + s5.size ≤ 1048576
                                · go_wp2
                                  exact ⟨⟨_, m + 1, by omega, by omega, by omega, rfl, by go_num⟩, by simp [intOf]; omega⟩
                                · go_wp2
                                  go_ret
                                  exact ⟨_, rfl, rfl⟩
                              · go_wp2
                                go_ret
                                exact ⟨_, rfl, rfl⟩
                            · obtain rfl : L = m := by omega
                              go_wp2
                              exact ⟨⟨_, k2 + 1, by omega, by omega, by omega, rfl, by go_num⟩, by simp [intOf]; omega⟩
                        · go_wp2
                          go_ret
                          exact ⟨_, rfl, rfl⟩
                      · go_wp2
                        go_ret
                        exact ⟨_, rfl, rfl⟩
                    · obtain rfl : len2 = k2 := by omega
                      by_cases q3a : len3 ≤ 1048576
                      · skip
                        by_cases q3b : xn2 + len3 ≤ 1048576
                        · skip
                          go_wp2
                          go_loop [17, 21] (fun t i => ∃ (n : Int) (k : Nat), k ≤ len3 ∧ 0 ≤ n ∧ n ≤ 1048576 ∧ t = .int .i64 n ∧ i = .int .i64 k) (fun _ i => len3 - (intOf i).toNat)
                          case atStart => exact ⟨_, 0, Nat.zero_le _, by omega, by omega, rfl, rfl⟩
                          case round =>
                            obtain ⟨xn3, k3, hk3k, xn30, xn31, rfl, rfl⟩ := hrel
                            by_cases hlt3 : k3 < len3
                            · obtain ⟨b, o, a', L, c', zs, rfl, hb, hc, hv, hat, hzl⟩ := nv_int H3.out N3.out hlt3
                              clear hv hat hzl
                              by_cases hs1 : L ≤ 1048576
                              · by_cases hs2 : xn3 + L ≤ 1048576
                                · go_wp2
                                  exact ⟨⟨_, k3 + 1, by omega, by omega, by omega, rfl, by go_num⟩, by simp [intOf]; omega⟩
                                · go_wp2
                                  go_ret
                                  exact ⟨_, rfl, rfl⟩
                              · go_wp2
                                go_ret
                                exact ⟨_, rfl, rfl⟩
                            · obtain rfl : len3 = k3 := by omega
                              by_cases q4a : len4 ≤ 1048576
                              · skip
                                by_cases q4b : xn3 + len4 ≤ 1048576
                                · skip
                                  go_wp2
                                  go_loop [17, 22] (fun t i => ∃ (n : Int) (k : Nat), k ≤ len4 ∧ 0 ≤ n ∧ n ≤ 1048576 ∧ t = .int .i64 n ∧ i = .int .i64 k) (fun _ i => len4 - (intOf i).toNat)
                                  case atStart => exact ⟨_, 0, Nat.zero_le _, by omega, by omega, rfl, rfl⟩
                                  case round =>
                                    obtain ⟨xn4, k4, hk4k, xn40, xn41, rfl, rfl⟩ := hrel
                                    by_cases hlt4 : k4 < len4
                                    · obtain ⟨b, o, s, rfl, hb, hs, hc⟩ := H4.out.str hlt4
                                      clear hs
                                      by_cases hs1 : s.size ≤ 1048576
                                      · by_cases hs2 : xn4 + s.size ≤ 1048576
                                        · go_wp2
                                          exact ⟨⟨_, k4 + 1, by omega, by omega, by omega, rfl, by go_num⟩, by simp [intOf]; omega⟩
                                        · go_wp2
                                          go_ret
                                          exact ⟨_, rfl, rfl⟩
                                      · go_wp2
                                        go_ret
                                        exact ⟨_, rfl, rfl⟩
                                    · obtain rfl : len4 = k4 := by omega
                                      by_cases q5a : len5 ≤ 1048576
                                      · skip
                                        by_cases q5b : xn4 + len5 ≤ 1048576
                                        · skip
                                          by_cases q6a : len6 ≤ 1048576
                                          · skip
                                            by_cases q6b : xn4 + len5 + len6 ≤ 1048576
                                            · skip
                                              go_wp2
                                              go_loop [17, 23] (fun t i => ∃ (n : Int) (k : Nat), k ≤ len6 ∧ 0 ≤ n ∧ n ≤ 1048576 ∧ t = .int .i64 n ∧ i = .int .i64 k) (fun _ i => len6 - (intOf i).toNat)
                                              case atStart => exact ⟨_, 0, Nat.zero_le _, by omega, by omega, rfl, rfl⟩
                                              case round =>
                                                obtain ⟨xn6, k6, hk6k, xn60, xn61, rfl, rfl⟩ := hrel
                                                by_cases hlt6 : k6 < len6
                                                · obtain ⟨b, o, a', L, c', zs, rfl, hb, hc, hv, hat, hzl⟩ := nv_str H6.out N6.out hlt6
                                                  have HV := Lib.hid hv
                                                  clear hv hat hzl
                                                  by_cases hs1 : L ≤ 1048576
                                                  · by_cases hs2 : xn6 + L ≤ 1048576
                                                    · go_wp2
                                                      go_loop [17, 24] (fun t i => ∃ (n : Int) (k : Nat), k ≤ L ∧ 0 ≤ n ∧ n ≤ 1048576 ∧ t = .int .i64 n ∧ i = .int .i64 k) (fun _ i => L - (intOf i).toNat)
                                                      case atStart => exact ⟨_, 0, Nat.zero_le _, by omega, by omega, rfl, rfl⟩
                                                      case round =>
                                                        obtain ⟨y, m, hm, y0, y1, rfl, rfl⟩ := hrel
                                                        by_cases hlm : m < L
                                                        · obtain ⟨b5, o5, s5, rfl, hb5, hs5, hc5⟩ := HV.out.str hlm
                                                          clear hs5
                                                          by_cases hs3 : s5.size ≤ 1048576
                                                          · by_cases hs4 : y + s5.size ≤ 1048576
                                                            · go_wp2
                                                              exact ⟨⟨_, m + 1, by omega, by omega, by omega, rfl, by go_num⟩, by simp [intOf]; omega⟩
                                                            · go_wp2
                                                              go_ret
                                                              exact ⟨_, rfl, rfl⟩
                                                          · go_wp2
                                                            go_ret
                                                            exact ⟨_, rfl, rfl⟩
                                                        · obtain rfl : L = m := by omega
                                                          go_wp2
                                                          exact ⟨⟨_, k6 + 1, by omega, by omega, by omega, rfl, by go_num⟩, by simp [intOf]; omega⟩
                                                    · go_wp2
                                                      go_ret
                                                      exact ⟨_, rfl, rfl⟩
                                                  · go_wp2
                                                    go_ret
                                                    exact ⟨_, rfl, rfl⟩
                                                · obtain rfl : len6 = k6 := by omega
                                                  by_cases q7a : len7 ≤ 1048576
                                                  · skip
                                                    by_cases q7b : xn6 + len7 ≤ 1048576
                                                    · skip
                                                      go_wp2
                                                      go_loop [17, 25] (fun t i => ∃ (n : Int) (k : Nat), k ≤ len7 ∧ 0 ≤ n ∧ n ≤ 1048576 ∧ t = .int .i64 n ∧ i = .int .i64 k) (fun _ i => len7 - (intOf i).toNat)
                                                      case atStart => exact ⟨_, 0, Nat.zero_le _, by omega, by omega, rfl, rfl⟩
                                                      case round =>
                                                        obtain ⟨xn7, k7, hk7k, xn70, xn71, rfl, rfl⟩ := hrel
                                                        by_cases hlt7 : k7 < len7
                                                        · obtain ⟨b, o, a', L, c', zs, rfl, hb, hc, hv, hat, hzl⟩ := nv_int H7.out N7.out hlt7
                                                          clear hv hat hzl
                                                          by_cases hs1 : L ≤ 1048576
                                                          · by_cases hs2 : xn7 + L ≤ 1048576
                                                            · go_wp2
                                                              exact ⟨⟨_, k7 + 1, by omega, by omega, by omega, rfl, by go_num⟩, by simp [intOf]; omega⟩
                                                            · go_wp2
                                                              go_ret
                                                              exact ⟨_, rfl, rfl⟩
                                                          · go_wp2
                                                            go_ret
                                                            exact ⟨_, rfl, rfl⟩
                                                        · obtain rfl : len7 = k7 := by omega
                                                          go_wp2
                                                          go_ret
                                                          exact ⟨_, rfl, rfl⟩
                                                    · go_wp2
                                                      all_goals (go_ret; exact ⟨_, rfl, rfl⟩)
                                                  · go_wp2
                                                    go_ret
                                                    exact ⟨_, rfl, rfl⟩
                                            · go_wp2
                                              all_goals (go_ret; exact ⟨_, rfl, rfl⟩)
                                          · go_wp2
                                            go_ret
                                            exact ⟨_, rfl, rfl⟩
                                        · go_wp2
                                          all_goals (go_ret; exact ⟨_, rfl, rfl⟩)
                                      · go_wp2
                                        go_ret
                                        exact ⟨_, rfl, rfl⟩
                                · go_wp2
                                  all_goals (go_ret; exact ⟨_, rfl, rfl⟩)
                              · go_wp2
                                go_ret
                                exact ⟨_, rfl, rfl⟩
                        · go_wp2
                          all_goals (go_ret; exact ⟨_, rfl, rfl⟩)
                      · go_wp2
                        go_ret
                        exact ⟨_, rfl, rfl⟩
                · go_wp2
                  all_goals (go_ret; exact ⟨_, rfl, rfl⟩)
              · go_wp2
                go_ret
                exact ⟨_, rfl, rfl⟩
            · go_wp2
              all_goals (go_ret; exact ⟨_, rfl, rfl⟩)
          · go_wp2
            go_ret
            exact ⟨_, rfl, rfl⟩
    · go_wp2
      all_goals (go_ret; exact ⟨_, rfl, rfl⟩)
  · go_wp2
    go_ret
    exact ⟨_, rfl, rfl⟩
end Go.Proofs.Ytdjebcejpachmaa
