/-
  What the law's reader makes of the code (n001_1001): zConstObject, zConstTerm.
-/
import Derived.Test.YtgbkjdndbjaeoaaDoorDtr
import Derived.Deep.CutRange
namespace Go.Proofs.YtgbkjdndbjaeoaaDoor
set_option linter.unusedVariables false
set_option linter.unusedSimpArgs false
open Go.ChangeShapes Go.WideShapes Go.ChangeAt Go.RowKit M
def termF (o a : Option T) (num str : ByteArray) (nu tr fa : Bool) : T := .nd 32 [.p o, .p a, .s num, .s str, .b nu, .b tr, .b fa]
def kvF (k ks : ByteArray) (v : T) : T := .nd 44 [.s k, .s ks, .p (some v)]
/-- k reads of f, from place i on. -/
def rep (f : Nat → T × Nat) : Nat → Nat → List T × Nat
  | 0, i => ([], i)
  | k + 1, i => ((rep f k i).1 ++ [(f (rep f k i).2).1], (f (rep f k i).2).2)
def kvD (z : List Int) (fT : Nat → T × Nat) (i : Nat) : T × Nat :=
  if b1 z i % 2 = 0 then (kvF (nameT (b1 z i / 2 % 8)) ByteArray.empty (fT (adv z i)).1, (fT (adv z i)).2)
  else (kvF ByteArray.empty (strB z (adv z i)) (fT (strE z (adv z i))).1, (fT (strE z (adv z i))).2)
def objD (z : List Int) (fT : Nat → T × Nat) (n i : Nat) : T × Nat := (.nd 40 [.l (decide (0 < n)) (rep (kvD z fT) n (adv z i)).1], (rep (kvD z fT) n (adv z i)).2)
def nilT : T := termF none none ByteArray.empty ByteArray.empty true false false
def trmD (z : List Int) (fO fT : Nat → T × Nat) (i : Nat) : T × Nat :=
  if b1 z i % 7 = 0 then (termF none none ByteArray.empty (strB z (adv z i)) false false false, strE z (adv z i))
  else if b1 z i % 7 = 1 then (nilT, adv z i)
  else if b1 z i % 7 = 2 then (termF none none ByteArray.empty ByteArray.empty false true false, adv z i)
  else if b1 z i % 7 = 3 then (termF none none ByteArray.empty ByteArray.empty false false true, adv z i)
  else if b1 z i % 7 = 4 then (termF none none (numT (b1 z i / 8 % 8)) ByteArray.empty false false false, adv z i)
  else if b1 z i % 7 = 5 then
    (termF none (some (.nd 59 [.l (decide (0 < (b1 z (adv z i) % 4).toNat)) (rep fT (b1 z (adv z i) % 4).toNat (adv z (adv z i))).1])) ByteArray.empty ByteArray.empty false false false, (rep fT (b1 z (adv z i) % 4).toNat (adv z (adv z i))).2)
  else (termF (some (fO (adv z i)).1) none ByteArray.empty ByteArray.empty false false false, (fO (adv z i)).2)
/-- The object and the term at place i, with m levels left. -/
def decs (z : List Int) : Nat → (Nat → T × Nat) × (Nat → T × Nat)
  | 0 => (fun i => objD z (fun j => (nilT, j)) 0 i, fun i => (nilT, adv z i))
  | m + 1 => (fun i => objD z (decs z m).2 (b1 z i % 4).toNat i, fun i => trmD z (decs z m).1 (decs z m).2 i)
def DOut (w : World) (rb : Nat) (a : Option Addr) (len cap : Nat) (z : List Int) (h : Nat) (r : T × Nat) (e : Ending) (w' : World) : Prop :=
  ∃ q, e = .returned (.pointer (some ⟨q, 0, none⟩)) ∧ RD w' rb a len cap z r.2 ∧ At (fun k => w.heap.size ≤ k) h w' q r.1 ∧ Touch (fun k => k = rb) w w'
def ConO (z : List Int) (m : Nat) : Prop := ∀ (w : World) (rb : Nat) (a : Option Addr) (len cap i d : Nat), RD w rb a len cap z i → len ≤ 1048576 → d + m = 40 → Calls Tryd.prog 4 #[.pointer (some ⟨rb, 0, none⟩), .int .i64 d] w (DOut w rb a len cap z (2 * m + 1) ((decs z m).1 i))
def ConT (z : List Int) (m : Nat) : Prop := ∀ (w : World) (rb : Nat) (a : Option Addr) (len cap i d : Nat), RD w rb a len cap z i → len ≤ 1048576 → d + m = 40 → Calls Tryd.prog 11 #[.pointer (some ⟨rb, 0, none⟩), .int .i64 d] w (DOut w rb a len cap z (2 * m + 1) ((decs z m).2 i))
theorem Row.at1 {ok : Nat → Prop} {w : World} {q k : Nat} {cs : Array Value} {fs : List F} {n : Nat} (h : Row w q k cs) (hq : ok q) (hs : cs.size = fs.length) (hf : ∀ (i : Nat) (f : F) (v : Value), fs[i]? = some f → cs[i]? = some v → FV (At ok n w) ok w f v) : At ok (n + 1) w q (.nd k fs) := ⟨cs, h, hq, hs, hf⟩
theorem conO_0 (z : List Int) : ConO z 0 := by
  intro w rb a len cap i d h hl hd
  obtain rfl : d = 40 := by omega
  have H := Lib.hid h
  have hb0 := h.b1 i
  have hlr := h.row.lt
  have H1 := Lib.hid (h.keep ((Below.refl _ _).alloc (Nat.le_refl _) (.cells #[.slice none 0 0] 40)))
  clear h
  go_enter Tryd.func4, Tryd.ntmps4
  go_wp2_with fail
  refine (byte1C _ rb a len cap z i H1.out hl).mono ?_
  rintro e w1 ⟨rfl, hr1, ht1⟩
  obtain ⟨x0, hx0⟩ : ∃ x0, x0 = b1 z i := ⟨_, rfl⟩
  rw [← hx0] at hb0 ⊢
  have HRD1 := Lib.hid hr1
  have hrow := (Row.made w 40 #[.slice none 0 0]).touch ht1 (by omega)
  have HROW := Lib.hid hrow
  have HT1 := Lib.hid (((Touch.refl (fun k => k = rb) w).alloc (.cells #[.slice none 0 0] 40)).trans' ht1 (fun j _ x => x))
  clear hr1 ht1 hrow
  go_wp2_with fail
  go_loopw [7] (fun t wr => t = .int .i64 0 ∧ wr = w1) (fun _ _ => 0)
  case atStart => exact ⟨rfl, rfl⟩
  case round =>
    obtain ⟨rfl, rfl⟩ := hrel
    go_wp2_with fail
    go_ret
    refine ⟨w.heap.size, rfl, HRD1.out, ?_, HT1.out⟩
    refine Row.at1 HROW.out (Nat.le_refl _) rfl (fun i f v hf hv => ?_)
    match i with
    | 0 =>
      simp at hf hv
      subst hf hv
      refine ⟨none, 0, [], rfl, rfl, Vw.nil _ _, ?_, ?_⟩
      · intro x hx
        cases hx
      · intro i t u hi hu
        cases hu
    | i + 1 => simp at hf
theorem bit1_all : (List.range 256).all (fun n => (bits BinOp.and IntKind.i64 (n : Int) 1 == 0) == decide ((n : Int) % 2 = 0)) = true := by kernel_rfl
theorem bit1 {x : Int} (h0 : 0 ≤ x) (h1 : x < 256) : (bits BinOp.and IntKind.i64 x 1 == 0) = decide (x % 2 = 0) := by
  have h := List.all_eq_true.1 bit1_all x.toNat (List.mem_range.2 (by omega))
  rw [Int.toNat_of_nonneg h0] at h
  exact eq_of_beq h
theorem rep_succ (f : Nat → T × Nat) (k i : Nat) : rep f (k + 1) i = ((rep f k i).1 ++ [(f (rep f k i).2).1], (f (rep f k i).2).2) := rfl
theorem kv_at {ok : Nat → Prop} {w : World} {p n q : Nat} {k ks : ByteArray} {t : T} (h : Row w p 44 #[.string k, .string ks, .pointer (some ⟨q, 0, none⟩)]) (hp : ok p) (ht : At ok n w q t) : At ok (n + 1) w p (kvF k ks t) :=
  Row.at1 h hp rfl (fun i f v hf hv => by
    match i with
    | 0 => simp at hf hv; subst hf hv; rfl
    | 1 => simp at hf hv; subst hf hv; rfl
    | 2 => simp at hf hv; subst hf hv; exact ⟨q, rfl, ht⟩
    | i + 3 => simp at hf)
set_option maxRecDepth 100000 in
set_option maxHeartbeats 4000000 in
theorem conO_s (z : List Int) (m : Nat) (IH : ConT z m) : ConO z (m + 1) := by
  intro w rb a len cap i d h hl hd
  have H := Lib.hid h
  have hb0 := h.b1 i
  have hlr := h.row.lt
  have H1 := Lib.hid (h.keep ((Below.refl _ _).alloc (Nat.le_refl _) (.cells #[.slice none 0 0] 40)))
  clear h
  have hd40 : d < 40 := by omega
  go_enter Tryd.func4, Tryd.ntmps4
  go_wp2_with fail
  refine (byte1C _ rb a len cap z i H1.out hl).mono ?_
  rintro e w1 ⟨rfl, hr1, ht1⟩
  have HR1 := Lib.hid hr1
  have hrow := (Row.made w 40 #[.slice none 0 0]).touch ht1 (by omega)
  have HROW := Lib.hid hrow
  have HT1 := Lib.hid (((Touch.refl (fun k => k = rb) w).alloc (.cells #[.slice none 0 0] 40)).trans' ht1 (fun j _ x => x))
  have hs1 := HT1.out.size
  obtain ⟨n, hn⟩ : ∃ n : Nat, (n : Int) = b1 z i % 4 := ⟨(b1 z i % 4).toNat, by omega⟩
  have hn4 : n < 4 := by omega
  have HN := Lib.hid (show (decs z (m + 1)).1 i = objD z (decs z m).2 n i by
    show objD z (decs z m).2 (b1 z i % 4).toNat i = _
    rw [← hn]; rfl)
  obtain ⟨x0, hx0⟩ : ∃ x0, x0 = b1 z i := ⟨_, rfl⟩
  rw [← hx0] at hb0 hn ⊢
  clear hr1 ht1 hrow hx0
  go_wp2_with fail
  go_loopw [7] (fun t wr => ∃ (j : Nat) (v : Value) (us : List Value), j ≤ n ∧ t = .int .i64 j ∧ Lst wr w.heap.size w.heap.size 40 42 j (2 * m + 2) v us (rep (kvD z (decs z m).2) j (adv z i)).1 ∧ RD wr rb a len cap z (rep (kvD z (decs z m).2) j (adv z i)).2 ∧ Touch (fun k => k = rb) w wr) (fun t _ => n - (intOf t).toNat)
  case atStart =>
    refine ⟨0, .slice none 0 0, [], Nat.zero_le _, rfl, ⟨HROW.out, Nat.le_refl _, ⟨by simp, .inl ⟨rfl, rfl⟩⟩, ⟨rfl, fun i t u hi hu => by cases hu⟩, rfl, rfl⟩, HR1.out, HT1.out⟩
  case round =>
    obtain ⟨j, v, us, hj, rfl, hls, hrd, htt⟩ := hrel
    obtain ⟨A, c, rfl⟩ := own_form hls.own
    have HLS := Lib.hid hls
    have HRD := Lib.hid hrd
    have HTT := Lib.hid htt
    have hsz := htt.size
    clear hls hrd htt
    by_cases hlt : j < n
    · obtain ⟨i2, hi2⟩ : ∃ i2, i2 = (rep (kvD z (decs z m).2) j (adv z i)).2 := ⟨_, rfl⟩
      rw [← hi2] at HRD
      have HI2 := Lib.hid hi2
      have hb1 := HRD.out.b1 i2
      clear hi2
      go_wp2_with fail
      refine (byte1C _ rb a len cap z i2 HRD.out hl).mono ?_
      rintro e w2 ⟨rfl, hr2, ht2⟩
      obtain ⟨x1, hx1⟩ : ∃ x1, x1 = b1 z i2 := ⟨_, rfl⟩
      rw [← hx1] at hb1 ⊢
      have HX1 := Lib.hid hx1
      have HR2 := Lib.hid hr2
      have HT2 := Lib.hid ht2
      have hs2 := ht2.size
      clear hr2 ht2 hx1
      by_cases hev : x1 % 2 = 0
      · have hbit : (bits BinOp.and IntKind.i64 x1 1 == 0) = true := by rw [bit1 hb1.1 hb1.2]; simp [hev]
        have HEV := Lib.hid hev
        clear hev
        go_wp2_with fail
        refine (zNameC _ _ (by omega) (by omega)).mono ?_
        rintro e w3 ⟨rfl, rfl⟩
        obtain ⟨nm, hnm⟩ : ∃ nm, nm = nameT (x1 / 2 % 8) := ⟨_, rfl⟩
        rw [← hnm]
        have HNM := Lib.hid hnm
        clear hnm hbit
        have HRW := Lib.hid (HR2.out.keep ((Below.refl _ _).alloc (Nat.le_refl _) (.cells #[.string nm, .string ByteArray.empty, .pointer none] 44)))
        have HKV := Lib.hid (Row.made w2 44 #[.string nm, .string ByteArray.empty, .pointer none])
        have HTW := Lib.hid (HT2.out.alloc (.cells #[.string nm, .string ByteArray.empty, .pointer none] 44))
        go_wp2_with fail
        refine (IH _ rb a len cap _ (d + 1) HRW.out hl (by omega)).mono ?_
        rintro e w4 ⟨qt, rfl, hr4, ha4, ht4⟩
        have hrow4 := HKV.out.touch ht4 (by omega)
        have HKV4 := Lib.hid hrow4
        have HR4 := Lib.hid hr4
        have HA4 := Lib.hid ha4
        have HT4 := Lib.hid (HTW.out.trans ht4)
        have hs4 := HT4.out.size
        have f4 := hrow4.free 2
        have c4 := hrow4.cell 2
        have l4 := hrow4.lt
        clear hr4 ha4 ht4 hrow4
        go_upto_region 14 with fail
        obtain ⟨w5, hw5⟩ : ∃ w5, w5 = w4.setCell ⟨w2.heap.size, 2, none⟩ (.pointer (some ⟨qt, 0, none⟩)) := ⟨_, rfl⟩
        rw [← hw5]
        have hrow5 : Row w5 w2.heap.size 44 #[.string nm, .string ByteArray.empty, .pointer (some ⟨qt, 0, none⟩)] := by rw [hw5]; exact HKV4.out.put 2 _
        have ts5 : Touch (fun k => k = w2.heap.size) w4 w5 := by rw [hw5]; exact (Touch.refl (fun k => k = w2.heap.size) w4).setCell (fun _ => rfl) _
        have HT5 := Lib.hid (HT4.out.trans' ts5 (fun k hk x => by omega))
        have hs5 := HT5.out.size
        have HTR : Hid (At (fun k => wr.heap.size ≤ k) (2 * m + 2) w5 w2.heap.size (kvF nm ByteArray.empty ((decs z m).2 (adv z i2)).1)) := Lib.hid (kv_at hrow5 hs2 (At.turn ts5 (fun k hk _ x => by (try simp only [World.size_alloc] at hk); omega) (fun k hk _ => by (try simp only [World.size_alloc] at hk); omega) (2 * m + 1) HA4.out))
        have HR5 := Lib.hid (HR4.out.touch ts5 (by omega) (fun h0 x hx => by obtain ⟨b', o', ha', hb', _⟩ := HRD.out.code.2 h0; rw [hx] at ha'; cases ha'; have : b' < wr.heap.size := hb'; intro e0; have e1 : b' = w2.heap.size := e0; omega))
        have HL5 := Lib.hid (HLS.out.touch HT5.out (fun k hk x => by omega))
        have y5 := HL5.out.row.cell 0
        have z5 := HL5.out.row.free 0
        have l5 := HL5.out.row.lt
        clear hw5 hrow5 ts5 f4 c4 l4 hs4
        go_wp2_with (at_builtin; go_loud (refine wpList_app1 _ rfl (.tmp 51) (.tmp 53) 38 rfl w.heap.size 42 (.pointer none) 8 Tryd.underlying38 infoKv rfl (by decide) (.slice A j c) j us rfl (HL5.out.own.alloc _) w5.heap.size (.pointer (some ⟨w2.heap.size, 0, none⟩)) rfl (Row.made _ _ _) (by simp [Value.oneCell']) (by omega) (by simp only [World.size_alloc]; omega) ?_; intro g6 c6 w6 ho ht ha hlg; have r6 := (HL5.out.row.alloc (.cells #[.pointer (some ⟨w2.heap.size, 0, none⟩)] 42)).touch ht (own_ne HL5.out.own HL5.out.row (by decide)); have y6 := r6.cell 0; have z6 := r6.free 0; have P6 := Lib.hid (HLS.out.push (by decide) (by omega) HT5.out (fun k hk x => by omega) HTR.out ho ht ha); clear ho ht ha r6))
        have HREP := Lib.hid (show rep (kvD z (decs z m).2) (j + 1) (adv z i) = ((rep (kvD z (decs z m).2) j (adv z i)).1 ++ [kvF nm ByteArray.empty ((decs z m).2 (adv z i2)).1], ((decs z m).2 (adv z i2)).2) by rw [rep_succ, ← HI2.out]; unfold kvD; rw [← HX1.out, if_pos HEV.out]; simp only [HNM.out])
        refine ⟨⟨j + 1, _, _, by omega, by go_num, by rw [HREP.out]; exact P6.out.1, ?_, ?_⟩, by simp [intOf]; omega⟩
        · rw [HREP.out]
          exact HR5.out.touch P6.out.2.2 (fun x => x.elim (fun x => by omega) (fun x => by have := (HLS.out.own.lt _ x).1; omega)) (fun h0 x hx q => by obtain ⟨b', o', ha', hb', _⟩ := H.out.code.2 h0; rw [hx] at ha'; cases ha'; have hb2 : b' < w.heap.size := hb'; exact q.elim (fun q => by have e1 : b' = w.heap.size := q; omega) (fun q => by have e1 : w.heap.size ≤ b' := (HLS.out.own.lt _ q).1; omega))
        · exact HTT.out.trans' P6.out.2.1 (fun k hk x => by omega)
      · have hbit : (bits BinOp.and IntKind.i64 x1 1 == 0) = false := by rw [bit1 hb1.1 hb1.2]; simp [hev]
        have HEV := Lib.hid hev
        clear hev
        have HRA := Lib.hid (HR2.out.keep ((Below.refl _ _).alloc (Nat.le_refl _) (.cells #[.string ByteArray.empty, .string ByteArray.empty, .pointer none] 44)))
        have HKA := Lib.hid (Row.made w2 44 #[.string ByteArray.empty, .string ByteArray.empty, .pointer none])
        go_wp2_with fail
        refine (zStrC _ rb a len cap z _ HRA.out hl).mono ?_
        rintro e w3 ⟨rfl, hr3, ht3⟩
        obtain ⟨nm, hnm⟩ : ∃ nm, nm = strB z (adv z i2) := ⟨_, rfl⟩
        rw [← hnm]
        have HNM := Lib.hid hnm
        have hrow3 := HKA.out.touch ht3 (by omega)
        have HKB := Lib.hid hrow3
        have c3 := hrow3.cell 1
        have f3 := hrow3.free 1
        have l3 := hrow3.lt
        have HR3 := Lib.hid hr3
        have HT3 := Lib.hid (((HT2.out.alloc (.cells #[.string ByteArray.empty, .string ByteArray.empty, .pointer none] 44))).trans' ht3 (fun k _ x => x))
        clear hnm hbit hrow3 hr3 ht3
        go_upto_region 13 with fail
        obtain ⟨w3s, hw3⟩ : ∃ w3s, w3s = w3.setCell ⟨w2.heap.size, 1, none⟩ (.string nm) := ⟨_, rfl⟩
        rw [← hw3]
        have HKV : Hid (Row w3s w2.heap.size 44 #[.string ByteArray.empty, .string nm, .pointer none]) := Lib.hid (by rw [hw3]; exact HKB.out.put 1 _)
        have ts3 : Touch (fun k => k = w2.heap.size) w3 w3s := by rw [hw3]; exact (Touch.refl (fun k => k = w2.heap.size) w3).setCell (fun _ => rfl) _
        have HTW := Lib.hid (HT3.out.trans' ts3 (fun k hk x => by omega))
        have HRW := Lib.hid (HR3.out.touch ts3 (by omega) (fun h0 x hx => by obtain ⟨b', o', ha', hb', _⟩ := HRD.out.code.2 h0; rw [hx] at ha'; cases ha'; have : b' < wr.heap.size := hb'; intro e0; have e1 : b' = w2.heap.size := e0; omega))
        have hs3 := ts3.size
        clear hw3 ts3 c3 f3
        go_wp2_with fail
        refine (IH _ rb a len cap _ (d + 1) HRW.out hl (by omega)).mono ?_
        rintro e w4 ⟨qt, rfl, hr4, ha4, ht4⟩
        have hrow4 := HKV.out.touch ht4 (by omega)
        have HKV4 := Lib.hid hrow4
        have HR4 := Lib.hid hr4
        have HA4 := Lib.hid ha4
        have HT4 := Lib.hid (HTW.out.trans ht4)
        have hs4 := HT4.out.size
        have f4 := hrow4.free 2
        have c4 := hrow4.cell 2
        have l4 := hrow4.lt
        clear hr4 ha4 ht4 hrow4
        go_upto_region 14 with fail
        obtain ⟨w5, hw5⟩ : ∃ w5, w5 = w4.setCell ⟨w2.heap.size, 2, none⟩ (.pointer (some ⟨qt, 0, none⟩)) := ⟨_, rfl⟩
        rw [← hw5]
        have hrow5 : Row w5 w2.heap.size 44 #[.string ByteArray.empty, .string nm, .pointer (some ⟨qt, 0, none⟩)] := by rw [hw5]; exact HKV4.out.put 2 _
        have ts5 : Touch (fun k => k = w2.heap.size) w4 w5 := by rw [hw5]; exact (Touch.refl (fun k => k = w2.heap.size) w4).setCell (fun _ => rfl) _
        have HT5 := Lib.hid (HT4.out.trans' ts5 (fun k hk x => by omega))
        have hs5 := HT5.out.size
        have HTR : Hid (At (fun k => wr.heap.size ≤ k) (2 * m + 2) w5 w2.heap.size (kvF ByteArray.empty nm ((decs z m).2 (strE z (adv z i2))).1)) := Lib.hid (kv_at hrow5 hs2 (At.turn ts5 (fun k hk _ x => by (try simp only [World.size_alloc] at hk); omega) (fun k hk _ => by (try simp only [World.size_alloc] at hk); omega) (2 * m + 1) HA4.out))
        have HR5 := Lib.hid (HR4.out.touch ts5 (by omega) (fun h0 x hx => by obtain ⟨b', o', ha', hb', _⟩ := HRD.out.code.2 h0; rw [hx] at ha'; cases ha'; have : b' < wr.heap.size := hb'; intro e0; have e1 : b' = w2.heap.size := e0; omega))
        have HL5 := Lib.hid (HLS.out.touch HT5.out (fun k hk x => by omega))
        have y5 := HL5.out.row.cell 0
        have z5 := HL5.out.row.free 0
        have l5 := HL5.out.row.lt
        clear hw5 hrow5 ts5 f4 c4 l4 hs4
        go_wp2_with (at_builtin; go_loud (refine wpList_app1 _ rfl (.tmp 51) (.tmp 53) 38 rfl w.heap.size 42 (.pointer none) 8 Tryd.underlying38 infoKv rfl (by decide) (.slice A j c) j us rfl (HL5.out.own.alloc _) w5.heap.size (.pointer (some ⟨w2.heap.size, 0, none⟩)) rfl (Row.made _ _ _) (by simp [Value.oneCell']) (by omega) (by simp only [World.size_alloc]; omega) ?_; intro g6 c6 w6 ho ht ha hlg; have r6 := (HL5.out.row.alloc (.cells #[.pointer (some ⟨w2.heap.size, 0, none⟩)] 42)).touch ht (own_ne HL5.out.own HL5.out.row (by decide)); have y6 := r6.cell 0; have z6 := r6.free 0; have P6 := Lib.hid (HLS.out.push (by decide) (by omega) HT5.out (fun k hk x => by omega) HTR.out ho ht ha); clear ho ht ha r6))
        have HREP := Lib.hid (show rep (kvD z (decs z m).2) (j + 1) (adv z i) = ((rep (kvD z (decs z m).2) j (adv z i)).1 ++ [kvF ByteArray.empty nm ((decs z m).2 (strE z (adv z i2))).1], ((decs z m).2 (strE z (adv z i2))).2) by rw [rep_succ, ← HI2.out]; unfold kvD; rw [← HX1.out, if_neg HEV.out]; simp only [HNM.out])
        refine ⟨⟨j + 1, _, _, by omega, by go_num, by rw [HREP.out]; exact P6.out.1, ?_, ?_⟩, by simp [intOf]; omega⟩
        · rw [HREP.out]
          exact HR5.out.touch P6.out.2.2 (fun x => x.elim (fun x => by omega) (fun x => by have := (HLS.out.own.lt _ x).1; omega)) (fun h0 x hx q => by obtain ⟨b', o', ha', hb', _⟩ := H.out.code.2 h0; rw [hx] at ha'; cases ha'; have hb2 : b' < w.heap.size := hb'; exact q.elim (fun q => by have e1 : b' = w.heap.size := q; omega) (fun q => by have e1 : w.heap.size ≤ b' := (HLS.out.own.lt _ q).1; omega))
        · exact HTT.out.trans' P6.out.2.1 (fun k hk x => by omega)
    · obtain rfl : n = j := by omega
      go_wp2_with fail
      go_ret
      refine ⟨w.heap.size, rfl, ?_, ?_, HTT.out⟩
      · rw [HN.out]
        exact HRD.out
      · rw [HN.out]
        exact HLS.out.node
end Go.Proofs.YtgbkjdndbjaeoaaDoor
