/-
  What the law's reader makes of the code (n001_1001): zConstTerm. Printed by genDct.py.
-/
import Derived.Test.YtgbkjdndbjaeoaaDoorDco
import Derived.IntWalk
namespace Go.Proofs.YtgbkjdndbjaeoaaDoor
set_option linter.unusedVariables false
set_option linter.unusedSimpArgs false
open Go.ChangeShapes Go.WideShapes Go.ChangeAt Go.RowKit M
def PV (ok : Nat → Prop) (n : Nat) (w : World) (t : Option T) (v : Value) : Prop := FV (At ok n w) ok w (.p t) v
theorem PV_none (ok : Nat → Prop) (n : Nat) (w : World) : PV ok n w none (.pointer none) := rfl
theorem PV_some {ok : Nat → Prop} {n : Nat} {w : World} {q : Nat} {t : T} (h : At ok n w q t) : PV ok n w (some t) (.pointer (some ⟨q, 0, none⟩)) := ⟨q, rfl, h⟩
theorem tm_at {ok : Nat → Prop} {w : World} {p n : Nat} {o a : Option T} {vo va : Value} {x y : ByteArray} {b c d : Bool} (h : Row w p 32 #[vo, va, .string x, .string y, .bool b, .bool c, .bool d]) (hp : ok p) (ho : PV ok n w o vo) (ha : PV ok n w a va) : At ok (n + 1) w p (termF o a x y b c d) :=
  Row.at1 h hp rfl (fun i f v hf hv => by
    match i with
    | 0 => simp at hf hv; subst hf hv; exact ho
    | 1 => simp at hf hv; subst hf hv; exact ha
    | 2 => simp at hf hv; subst hf hv; rfl
    | 3 => simp at hf hv; subst hf hv; rfl
    | 4 => simp at hf hv; subst hf hv; rfl
    | 5 => simp at hf hv; subst hf hv; rfl
    | 6 => simp at hf hv; subst hf hv; rfl
    | i + 7 => simp at hf)
theorem RD.off' {w W : World} {rb : Nat} {a : Option Addr} {len cap : Nat} {z : List Int} {i : Nat} (h : RD w rb a len cap z i) : 0 < len → ∀ x, a = some x → x.block < w.heap.size := by
  intro h0 x hx
  obtain ⟨b', o', ha', hb', _⟩ := h.code.2 h0
  rw [hx] at ha'
  cases ha'
  exact hb'
def zt : Array Value := #[.pointer none, .pointer none, .string ByteArray.empty, .string ByteArray.empty, .bool false, .bool false, .bool false]
theorem conT_0 (z : List Int) : ConT z 0 := by
  intro w rb a len cap i d h hl hd
  obtain rfl : d = 40 := by omega
  have H := Lib.hid h
  have hb0 := h.b1 i
  have hlr := h.row.lt
  clear h
  go_enter Tryd.func11, Tryd.ntmps11
  go_wp2_with fail
  refine (byte1C _ rb a len cap z i H.out hl).mono ?_
  rintro e w1 ⟨rfl, hr1, ht1⟩
  have HR1 := Lib.hid hr1
  have HT1 := Lib.hid ht1
  have hs1 := ht1.size
  clear hr1 ht1
  go_wp2_with fail
  go_ret
  refine ⟨w1.heap.size, rfl, HR1.out.keep ((Below.refl _ _).alloc (Nat.le_refl _) _), ?_, HT1.out.alloc _⟩
  exact tm_at (Row.made w1 32 _) hs1 (PV_none _ _ _) (PV_none _ _ _)
set_option maxRecDepth 100000 in
set_option maxHeartbeats 4000000 in
theorem conT_s (z : List Int) (m : Nat) (IHO : ConO z m) (IH : ConT z m) : ConT z (m + 1) := by
  intro w rb a len cap i d h hl hd
  have H := Lib.hid h
  have hb0 := h.b1 i
  have hlr := h.row.lt
  clear h
  have hd40 : d < 40 := by omega
  have hsl := H.out.off' (W := w)
  have HSL := Lib.hid hsl
  clear hsl
  have hc : b1 z i % 7 = 0 ∨ b1 z i % 7 = 1 ∨ b1 z i % 7 = 2 ∨ b1 z i % 7 = 3 ∨ b1 z i % 7 = 4 ∨ b1 z i % 7 = 5 ∨ b1 z i % 7 = 6 := by omega
  rcases hc with h7 | h7 | h7 | h7 | h7 | h7 | h7
  · have HC := Lib.hid (show (decs z (m + 1)).2 i = (termF none none ByteArray.empty (strB z (adv z i)) false false false, strE z (adv z i)) by
      show trmD z (decs z m).1 (decs z m).2 i = _
      unfold trmD
      rw [if_pos h7])
    obtain ⟨x0, hx0⟩ : ∃ x0, x0 = b1 z i := ⟨_, rfl⟩
    rw [← hx0] at hb0 h7
    go_enter Tryd.func11, Tryd.ntmps11
    go_wp2_with fail
    refine (byte1C _ rb a len cap z i H.out hl).mono ?_
    rintro e w1 ⟨rfl, hr1, ht1⟩
    rw [← hx0]
    have HR1 := Lib.hid hr1
    have HT1 := Lib.hid ht1
    have hs1 := ht1.size
    have HRA := Lib.hid (hr1.keep ((Below.refl _ _).alloc (Nat.le_refl _) (.cells #[.pointer none, .pointer none, .string ByteArray.empty, .string ByteArray.empty, .bool false, .bool false, .bool false] 32)))
    have HPA := Lib.hid (Row.made w1 32 #[.pointer none, .pointer none, .string ByteArray.empty, .string ByteArray.empty, .bool false, .bool false, .bool false])
    have HX0 := Lib.hid hx0
    clear hr1 ht1 hx0
    go_wp2_with fail
    refine (zStrC _ rb a len cap z _ HRA.out hl).mono ?_
    rintro e w2 ⟨rfl, hr2, ht2⟩
    obtain ⟨nm, hnm⟩ : ∃ nm, nm = strB z (adv z i) := ⟨_, rfl⟩
    rw [← hnm]
    have HNM := Lib.hid hnm
    clear hnm
    have hrow2 := HPA.out.touch ht2 (by omega)
    have HPB := Lib.hid hrow2
    have c2 := hrow2.cell 3
    have f2 := hrow2.free 3
    have l2 := hrow2.lt
    have HR2 := Lib.hid hr2
    have HT2 := Lib.hid ((HT1.out.alloc (.cells #[.pointer none, .pointer none, .string ByteArray.empty, .string ByteArray.empty, .bool false, .bool false, .bool false] 32)).trans' ht2 (fun k _ x => x))
    clear hrow2 hr2 ht2
    go_upto_region 26 with fail
    obtain ⟨w3, hw3⟩ : ∃ w3, w3 = w2.setCell ⟨w1.heap.size, 3, none⟩ (.string nm) := ⟨_, rfl⟩
    rw [← hw3]
    have HPC : Hid (Row w3 w1.heap.size 32 #[.pointer none, .pointer none, .string ByteArray.empty, .string nm, .bool false, .bool false, .bool false]) := Lib.hid (by rw [hw3]; exact HPB.out.put 3 _)
    have ts3 : Touch (fun k => k = w1.heap.size) w2 w3 := by rw [hw3]; exact (Touch.refl (fun k => k = w1.heap.size) w2).setCell (fun _ => rfl) _
    have HTW := Lib.hid (HT2.out.trans' ts3 (fun k hk x => by omega))
    have HRW := Lib.hid (HR2.out.touch ts3 (by omega) (fun h0 x hx => by have := HSL.out h0 x hx; intro e0; omega))
    clear hw3 ts3 c2 f2
    go_wp2_with fail
    go_ret
    rw [HC.out]
    refine ⟨w1.heap.size, rfl, HRW.out, ?_, HTW.out⟩
    rw [← HNM.out]; exact tm_at HPC.out hs1 (PV_none _ _ _) (PV_none _ _ _)
  · have HC := Lib.hid (show (decs z (m + 1)).2 i = (nilT, adv z i) by
      show trmD z (decs z m).1 (decs z m).2 i = _
      unfold trmD
      rw [if_neg (by omega), if_pos h7])
    obtain ⟨x0, hx0⟩ : ∃ x0, x0 = b1 z i := ⟨_, rfl⟩
    rw [← hx0] at hb0 h7
    go_enter Tryd.func11, Tryd.ntmps11
    go_wp2_with fail
    refine (byte1C _ rb a len cap z i H.out hl).mono ?_
    rintro e w1 ⟨rfl, hr1, ht1⟩
    rw [← hx0]
    have HR1 := Lib.hid hr1
    have HT1 := Lib.hid ht1
    have hs1 := ht1.size
    have HRA := Lib.hid (hr1.keep ((Below.refl _ _).alloc (Nat.le_refl _) (.cells #[.pointer none, .pointer none, .string ByteArray.empty, .string ByteArray.empty, .bool false, .bool false, .bool false] 32)))
    have HPA := Lib.hid (Row.made w1 32 #[.pointer none, .pointer none, .string ByteArray.empty, .string ByteArray.empty, .bool false, .bool false, .bool false])
    have HX0 := Lib.hid hx0
    clear hr1 ht1 hx0
    go_wp2_with fail
    go_ret
    rw [HC.out]
    refine ⟨w1.heap.size, rfl, HR1.out.keep ((Below.refl _ _).alloc (Nat.le_refl _) _), ?_, HT1.out.alloc _⟩
    exact tm_at (Row.made w1 32 _) hs1 (PV_none _ _ _) (PV_none _ _ _)
  · have HC := Lib.hid (show (decs z (m + 1)).2 i = (termF none none ByteArray.empty ByteArray.empty false true false, adv z i) by
      show trmD z (decs z m).1 (decs z m).2 i = _
      unfold trmD
      rw [if_neg (by omega), if_neg (by omega), if_pos h7])
    obtain ⟨x0, hx0⟩ : ∃ x0, x0 = b1 z i := ⟨_, rfl⟩
    rw [← hx0] at hb0 h7
    go_enter Tryd.func11, Tryd.ntmps11
    go_wp2_with fail
    refine (byte1C _ rb a len cap z i H.out hl).mono ?_
    rintro e w1 ⟨rfl, hr1, ht1⟩
    rw [← hx0]
    have HR1 := Lib.hid hr1
    have HT1 := Lib.hid ht1
    have hs1 := ht1.size
    have HRA := Lib.hid (hr1.keep ((Below.refl _ _).alloc (Nat.le_refl _) (.cells #[.pointer none, .pointer none, .string ByteArray.empty, .string ByteArray.empty, .bool false, .bool false, .bool false] 32)))
    have HPA := Lib.hid (Row.made w1 32 #[.pointer none, .pointer none, .string ByteArray.empty, .string ByteArray.empty, .bool false, .bool false, .bool false])
    have HX0 := Lib.hid hx0
    clear hr1 ht1 hx0
    go_wp2_with fail
    go_ret
    rw [HC.out]
    refine ⟨w1.heap.size, rfl, HR1.out.keep ((Below.refl _ _).alloc (Nat.le_refl _) _), ?_, HT1.out.alloc _⟩
    exact tm_at (Row.made w1 32 _) hs1 (PV_none _ _ _) (PV_none _ _ _)
  · have HC := Lib.hid (show (decs z (m + 1)).2 i = (termF none none ByteArray.empty ByteArray.empty false false true, adv z i) by
      show trmD z (decs z m).1 (decs z m).2 i = _
      unfold trmD
      rw [if_neg (by omega), if_neg (by omega), if_neg (by omega), if_pos h7])
    obtain ⟨x0, hx0⟩ : ∃ x0, x0 = b1 z i := ⟨_, rfl⟩
    rw [← hx0] at hb0 h7
    go_enter Tryd.func11, Tryd.ntmps11
    go_wp2_with fail
    refine (byte1C _ rb a len cap z i H.out hl).mono ?_
    rintro e w1 ⟨rfl, hr1, ht1⟩
    rw [← hx0]
    have HR1 := Lib.hid hr1
    have HT1 := Lib.hid ht1
    have hs1 := ht1.size
    have HRA := Lib.hid (hr1.keep ((Below.refl _ _).alloc (Nat.le_refl _) (.cells #[.pointer none, .pointer none, .string ByteArray.empty, .string ByteArray.empty, .bool false, .bool false, .bool false] 32)))
    have HPA := Lib.hid (Row.made w1 32 #[.pointer none, .pointer none, .string ByteArray.empty, .string ByteArray.empty, .bool false, .bool false, .bool false])
    have HX0 := Lib.hid hx0
    clear hr1 ht1 hx0
    go_wp2_with fail
    go_ret
    rw [HC.out]
    refine ⟨w1.heap.size, rfl, HR1.out.keep ((Below.refl _ _).alloc (Nat.le_refl _) _), ?_, HT1.out.alloc _⟩
    exact tm_at (Row.made w1 32 _) hs1 (PV_none _ _ _) (PV_none _ _ _)
  · have HC := Lib.hid (show (decs z (m + 1)).2 i = (termF none none (numT (b1 z i / 8 % 8)) ByteArray.empty false false false, adv z i) by
      show trmD z (decs z m).1 (decs z m).2 i = _
      unfold trmD
      rw [if_neg (by omega), if_neg (by omega), if_neg (by omega), if_neg (by omega), if_pos h7])
    obtain ⟨x0, hx0⟩ : ∃ x0, x0 = b1 z i := ⟨_, rfl⟩
    rw [← hx0] at hb0 h7
    go_enter Tryd.func11, Tryd.ntmps11
    go_wp2_with fail
    refine (byte1C _ rb a len cap z i H.out hl).mono ?_
    rintro e w1 ⟨rfl, hr1, ht1⟩
    rw [← hx0]
    have HR1 := Lib.hid hr1
    have HT1 := Lib.hid ht1
    have hs1 := ht1.size
    have HRA := Lib.hid (hr1.keep ((Below.refl _ _).alloc (Nat.le_refl _) (.cells #[.pointer none, .pointer none, .string ByteArray.empty, .string ByteArray.empty, .bool false, .bool false, .bool false] 32)))
    have HPA := Lib.hid (Row.made w1 32 #[.pointer none, .pointer none, .string ByteArray.empty, .string ByteArray.empty, .bool false, .bool false, .bool false])
    have HX0 := Lib.hid hx0
    clear hr1 ht1 hx0
    go_wp2_with fail
    refine (zNumC _ _ (by omega) (by omega)).mono ?_
    rintro e w2 ⟨rfl, rfl⟩
    obtain ⟨nm, hnm⟩ : ∃ nm, nm = numT (x0 / 8 % 8) := ⟨_, rfl⟩
    rw [← hnm]
    have HNM := Lib.hid hnm
    clear hnm
    go_wp2_with fail
    go_ret
    rw [HC.out, ← HX0.out, ← HNM.out]
    refine ⟨w1.heap.size, rfl, HR1.out.keep ((Below.refl _ _).alloc (Nat.le_refl _) _), ?_, HT1.out.alloc _⟩
    exact tm_at (Row.made w1 32 _) hs1 (PV_none _ _ _) (PV_none _ _ _)
  · have HC := Lib.hid (show (decs z (m + 1)).2 i = (termF none (some (.nd 59 [.l (decide (0 < (b1 z (adv z i) % 4).toNat)) (rep (decs z m).2 (b1 z (adv z i) % 4).toNat (adv z (adv z i))).1])) ByteArray.empty ByteArray.empty false false false, (rep (decs z m).2 (b1 z (adv z i) % 4).toNat (adv z (adv z i))).2) by
      show trmD z (decs z m).1 (decs z m).2 i = _
      unfold trmD
      rw [if_neg (by omega), if_neg (by omega), if_neg (by omega), if_neg (by omega), if_neg (by omega), if_pos h7])
    obtain ⟨x0, hx0⟩ : ∃ x0, x0 = b1 z i := ⟨_, rfl⟩
    rw [← hx0] at hb0 h7
    go_enter Tryd.func11, Tryd.ntmps11
    go_wp2_with fail
    refine (byte1C _ rb a len cap z i H.out hl).mono ?_
    rintro e w1 ⟨rfl, hr1, ht1⟩
    rw [← hx0]
    have HR1 := Lib.hid hr1
    have HT1 := Lib.hid ht1
    have hs1 := ht1.size
    have HRA := Lib.hid (hr1.keep ((Below.refl _ _).alloc (Nat.le_refl _) (.cells #[.pointer none, .pointer none, .string ByteArray.empty, .string ByteArray.empty, .bool false, .bool false, .bool false] 32)))
    have HPA := Lib.hid (Row.made w1 32 #[.pointer none, .pointer none, .string ByteArray.empty, .string ByteArray.empty, .bool false, .bool false, .bool false])
    have HX0 := Lib.hid hx0
    clear hr1 ht1 hx0
    go_wp2_with fail
    refine (byte1C _ rb a len cap z (adv z i) (HRA.out.keep ((Below.refl _ _).alloc (Nat.le_refl _) (.cells #[.slice none 0 0] 59))) hl).mono ?_
    rintro e w2 ⟨rfl, hr2, ht2⟩
    have hb2 := H.out.b1 (adv z i)
    obtain ⟨x2, hx2⟩ : ∃ x2, x2 = b1 z (adv z i) := ⟨_, rfl⟩
    rw [← hx2] at hb2 ⊢
    obtain ⟨n, hn⟩ : ∃ n : Nat, (n : Int) = x2 % 4 := ⟨(x2 % 4).toNat, by omega⟩
    have hn4 : n < 4 := by omega
    have HN := Lib.hid (show (b1 z (adv z i) % 4).toNat = n by rw [← hx2, ← hn]; rfl)
    have hrp := (HPA.out.alloc (.cells #[.slice none 0 0] 59)).touch ht2 (by omega)
    have hrq : Row w2 (w1.heap.size + 1) 59 #[.slice none 0 0] := by have := (Row.made (w1.alloc (.cells #[.pointer none, .pointer none, .string ByteArray.empty, .string ByteArray.empty, .bool false, .bool false, .bool false] 32)) 59 #[.slice none 0 0]).touch ht2 (by simp only [World.size_alloc]; omega); simpa using this
    have HPB := Lib.hid hrp
    have HQB := Lib.hid hrq
    have HR2 := Lib.hid hr2
    have HT2 := Lib.hid (((HT1.out.alloc (.cells #[.pointer none, .pointer none, .string ByteArray.empty, .string ByteArray.empty, .bool false, .bool false, .bool false] 32)).alloc (.cells #[.slice none 0 0] 59)).trans' ht2 (fun k _ x => x))
    have hs2 := hrq.lt
    clear hr2 ht2 hrp hrq hx2
    go_wp2_with fail
    go_loopw [9] (fun t wr => ∃ (j : Nat) (v : Value) (us : List Value), j ≤ n ∧ t = .int .i64 j ∧ Lst wr (w1.heap.size + 1) (w1.heap.size + 1) 59 29 j (2 * m + 1) v us (rep (decs z m).2 j (adv z (adv z i))).1 ∧ RD wr rb a len cap z (rep (decs z m).2 j (adv z (adv z i))).2 ∧ Touch (fun k => k = rb) w wr ∧ Row wr w1.heap.size 32 #[.pointer none, .pointer none, .string ByteArray.empty, .string ByteArray.empty, .bool false, .bool false, .bool false]) (fun t _ => n - (intOf t).toNat)
    case atStart =>
      refine ⟨0, .slice none 0 0, [], Nat.zero_le _, rfl, ⟨HQB.out, Nat.le_refl _, ⟨by simp, .inl ⟨rfl, rfl⟩⟩, ⟨rfl, fun i t u hi hu => by cases hu⟩, rfl, rfl⟩, HR2.out, HT2.out, HPB.out⟩
    case round =>
      obtain ⟨j, v, us, hj, rfl, hls, hrd, htt, hrow⟩ := hrel
      obtain ⟨A, c, rfl⟩ := own_form hls.own
      have HLS := Lib.hid hls
      have HRD := Lib.hid hrd
      have HTT := Lib.hid htt
      have HPR := Lib.hid hrow
      have hsz := htt.size
      have hls0 := hls.row.lt
      by_cases hlt : j < n
      · have y0 := (show Row wr.drew (w1.heap.size + 1) 59 #[.slice A j c] from hls.row).cell 0
        have z0 := (show Row wr.drew (w1.heap.size + 1) 59 #[.slice A j c] from hls.row).free 0
        have y00 := hls.row.cell 0
        have z00 := hls.row.free 0
        have HRW := Lib.hid (hrd.touch ((Touch.refl (fun _ => False) wr).drew) (fun q => q) (fun _ _ _ q => q))
        clear hls hrd htt hrow
        have hwd : IntKind.i64.wrap ((d : Int) + 1) = ((d + 1 : Nat) : Int) := by rw [IntWalk.i64_in _ (by omega)]; rfl
        have hw : wr.heap.size ≤ wr.drew.heap.size := Nat.le_refl _
        go_upto_region 24 with fail
        go_region_law (first
          | (go_loud (refine step_app1 _ (by rfl) (.tmp 75) (.tmp 80) 57 (by rfl) (w1.heap.size + 1) 29 (.pointer none) 8 Tryd.underlying57 infoTm rfl (by decide) (.slice A j c) j us (by simp [Act.eval]) (HL4.out.own.alloc _) w4.heap.size (.pointer (some ⟨qt, 0, none⟩)) (by simp [Act.eval]) (Row.made _ _ _) (by simp [Value.oneCell']) (by omega) (by simp only [World.size_alloc]; omega) ?_; intro g6 c6 w6 ho ht ha hlg; have r6 := (HL4.out.row.alloc (.cells #[.pointer (some ⟨qt, 0, none⟩)] 29)).touch ht (own_ne HL4.out.own HL4.out.row (by decide)); have y6 := r6.cell 0; have z6 := r6.free 0; have P6 := Lib.hid (HLS.out.push (w := wr) (by decide) (by omega) HT4.out (fun k hk x => by omega) HA4.out ho ht ha); clear ho ht ha r6))
          | (go_simp; go_wp2_with (go_at_call 11; go_loud (refine (IH _ rb a len cap _ (d + 1) HRW.out hl (by omega)).mono ?_; rintro e w4 ⟨qt, rfl, hr4, ha4, ht4⟩; have HR4 := Lib.hid hr4; have HA4 := Lib.hid (show At (fun k => wr.heap.size ≤ k) (2 * m + 1) w4 qt _ from ha4); have HT4 := Lib.hid (((Touch.refl (fun k => k = rb) wr).drew).trans ht4); have HL4 := Lib.hid (HLS.out.touch HT4.out (fun k hk x => by omega)); have y4 := HL4.out.row.cell 0; have z4 := HL4.out.row.free 0; have l4 := HL4.out.row.lt; clear hr4 ha4 ht4))))
        all_goals go_wp2_with fail
        all_goals (refine ⟨⟨j + 1, _, _, by omega, by go_num, P6.out.1, ?_, HTT.out.trans' P6.out.2.1 (fun k hk x => by omega), ?_⟩, by simp [intOf]; omega⟩)
        all_goals first
          | exact HR4.out.touch P6.out.2.2 (fun x => x.elim (fun x => by omega) (fun x => by have := (HLS.out.own.lt _ x).1; omega)) (fun h0 x hx q => by have hb9 := HSL.out h0 x hx; exact q.elim (fun q => by omega) (fun q => by have := (HLS.out.own.lt _ q).1; omega))
          | exact HPR.out.touch P6.out.2.1 (fun x => x.elim (fun x => by omega) (fun x => by omega))
      · obtain rfl : n = j := by omega
        have c1 := hrow.cell 1
        have f1 := hrow.free 1
        have l1 := hrow.lt
        clear hls hrd htt hrow
        go_upto_region 26 with fail
        obtain ⟨w3, hw3⟩ : ∃ w3, w3 = wr.setCell ⟨w1.heap.size, 1, none⟩ (.pointer (some ⟨w1.heap.size + 1, 0, none⟩)) := ⟨_, rfl⟩
        rw [← hw3]
        have HPC : Hid (Row w3 w1.heap.size 32 #[.pointer none, .pointer (some ⟨w1.heap.size + 1, 0, none⟩), .string ByteArray.empty, .string ByteArray.empty, .bool false, .bool false, .bool false]) := Lib.hid (by rw [hw3]; exact HPR.out.put 1 _)
        have ts3 : Touch (fun k => k = w1.heap.size) wr w3 := by rw [hw3]; exact (Touch.refl (fun k => k = w1.heap.size) wr).setCell (fun _ => rfl) _
        have HTW := Lib.hid (HTT.out.trans' ts3 (fun k hk x => by omega))
        have HRW := Lib.hid (HRD.out.touch ts3 (by omega) (fun h0 x hx => by have := HSL.out h0 x hx; intro e0; omega))
        have HTR := Lib.hid (At.turn (ok' := fun k => w.heap.size ≤ k) ts3 (fun k hk _ x => by omega) (fun k hk _ => by omega) (2 * m + 2) HLS.out.node)
        clear hw3 ts3 c1 f1
        go_wp2_with fail
        go_ret
        rw [HC.out, HN.out]
        refine ⟨w1.heap.size, rfl, HRW.out, ?_, HTW.out⟩
        exact tm_at HPC.out hs1 (PV_none _ _ _) (PV_some HTR.out)
  · have HC := Lib.hid (show (decs z (m + 1)).2 i = (termF (some ((decs z m).1 (adv z i)).1) none ByteArray.empty ByteArray.empty false false false, ((decs z m).1 (adv z i)).2) by
      show trmD z (decs z m).1 (decs z m).2 i = _
      unfold trmD
      rw [if_neg (by omega), if_neg (by omega), if_neg (by omega), if_neg (by omega), if_neg (by omega), if_neg (by omega)])
    obtain ⟨x0, hx0⟩ : ∃ x0, x0 = b1 z i := ⟨_, rfl⟩
    rw [← hx0] at hb0 h7
    go_enter Tryd.func11, Tryd.ntmps11
    go_wp2_with fail
    refine (byte1C _ rb a len cap z i H.out hl).mono ?_
    rintro e w1 ⟨rfl, hr1, ht1⟩
    rw [← hx0]
    have HR1 := Lib.hid hr1
    have HT1 := Lib.hid ht1
    have hs1 := ht1.size
    have HRA := Lib.hid (hr1.keep ((Below.refl _ _).alloc (Nat.le_refl _) (.cells #[.pointer none, .pointer none, .string ByteArray.empty, .string ByteArray.empty, .bool false, .bool false, .bool false] 32)))
    have HPA := Lib.hid (Row.made w1 32 #[.pointer none, .pointer none, .string ByteArray.empty, .string ByteArray.empty, .bool false, .bool false, .bool false])
    have HX0 := Lib.hid hx0
    clear hr1 ht1 hx0
    go_wp2_with fail
    refine (IHO _ rb a len cap _ (d + 1) HRA.out hl (by omega)).mono ?_
    rintro e w2 ⟨q, rfl, hr2, ha2, ht2⟩
    have HA2 := Lib.hid ha2
    have hql := ha2.lt
    clear ha2
    have hql2 : w1.heap.size ≠ q := by have := hql.2; simp only [World.size_alloc] at this; omega
    have hrow2 := HPA.out.touch ht2 (by omega)
    have HPB := Lib.hid hrow2
    have c2 := hrow2.cell 0
    have f2 := hrow2.free 0
    have l2 := hrow2.lt
    have HR2 := Lib.hid hr2
    have HT2 := Lib.hid ((HT1.out.alloc (.cells #[.pointer none, .pointer none, .string ByteArray.empty, .string ByteArray.empty, .bool false, .bool false, .bool false] 32)).trans' ht2 (fun k _ x => x))
    clear hrow2 hr2 ht2
    go_upto_region 26 with fail
    obtain ⟨w3, hw3⟩ : ∃ w3, w3 = w2.setCell ⟨w1.heap.size, 0, none⟩ (.pointer (some ⟨q, 0, none⟩)) := ⟨_, rfl⟩
    rw [← hw3]
    have HPC : Hid (Row w3 w1.heap.size 32 #[.pointer (some ⟨q, 0, none⟩), .pointer none, .string ByteArray.empty, .string ByteArray.empty, .bool false, .bool false, .bool false]) := Lib.hid (by rw [hw3]; exact HPB.out.put 0 _)
    have ts3 : Touch (fun k => k = w1.heap.size) w2 w3 := by rw [hw3]; exact (Touch.refl (fun k => k = w1.heap.size) w2).setCell (fun _ => rfl) _
    have HTW := Lib.hid (HT2.out.trans' ts3 (fun k hk x => by omega))
    have HRW := Lib.hid (HR2.out.touch ts3 (by omega) (fun h0 x hx => by have := HSL.out h0 x hx; intro e0; omega))
    have HTR := Lib.hid (At.turn (ok' := fun k => w.heap.size ≤ k) ts3 (fun k hk _ x => by simp only [World.size_alloc] at hk; omega) (fun k hk _ => by simp only [World.size_alloc] at hk; omega) (2 * m + 1) HA2.out)
    clear hw3 ts3 c2 f2
    go_wp2_with fail
    go_ret
    rw [HC.out]
    refine ⟨w1.heap.size, rfl, HRW.out, ?_, HTW.out⟩
    exact tm_at HPC.out hs1 (PV_some (At.succ _ HTR.out)) (PV_none _ _ _)
end Go.Proofs.YtgbkjdndbjaeoaaDoor
