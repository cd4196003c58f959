/-
  The law's reader of the code: byte1, zName, zNum, zStr (n001_1001).
-/
import Derived.Test.YtghcggagpagfoaaGreatDoorTre
import Derived.Test.YtghcggagpagfoaaGreatDoorRef
import Derived.Outline
import Derived.Deep.QuietTactic
import Derived.RegionTactic
import Derived.BigQuiet
namespace Go.Proofs.YtghcggagpagfoaaGreatDoor
set_option linter.unusedVariables false
set_option linter.unusedSimpArgs false
open Go.ChangeShapes Go.WideShapes Go.ChangeAt Go.RowKit M
def bytV (z : List Int) : List Value := z.map (.int .u8)
def b1 (z : List Int) (i : Nat) : Int := (z[i]?).getD 0
def adv (z : List Int) (i : Nat) : Nat := if i < z.length then i + 1 else i
/-- The law's reader at block rb, over the code z, at place i. -/
structure RD (w : World) (rb : Nat) (a : Option Addr) (len cap : Nat) (z : List Int) (i : Nat) : Prop where
 row : Row w rb 25 #[.slice a len cap, .int .i64 i]
 code : Vw w a len (bytV z)
 off : 0 < len → ∀ x, a = some x → x.block ≠ rb
 le : i ≤ len
 wf : ∀ (j : Nat) (x : Int), z[j]? = some x → 0 ≤ x ∧ x < 256
theorem RD.zlen {w : World} {rb : Nat} {a : Option Addr} {len cap : Nat} {z : List Int} {i : Nat} (h : RD w rb a len cap z i) : z.length = len := by have := h.code.1; simpa [bytV] using this
theorem RD.b1 {w : World} {rb : Nat} {a : Option Addr} {len cap : Nat} {z : List Int} {i : Nat} (h : RD w rb a len cap z i) (j : Nat) : 0 ≤ b1 z j ∧ b1 z j < 256 := by
 unfold Go.Proofs.YtghcggagpagfoaaGreatDoor.b1
 cases hz : z[j]? with
 | none => simp
 | some x => exact h.wf j x hz
theorem RD.touch {S : Nat → Prop} {w w' : World} {rb : Nat} {a : Option Addr} {len cap : Nat} {z : List Int} {i : Nat} (h : RD w rb a len cap z i) (ht : Touch S w w') (hr : ¬ S rb) (hs : 0 < len → ∀ x, a = some x → ¬ S x.block) : RD w' rb a len cap z i :=
 ⟨h.row.touch ht hr, h.code.touch ht (fun hl x hx _ => hs hl x hx), h.off, h.le, h.wf⟩
theorem RD.keep {w w' : World} {rb : Nat} {a : Option Addr} {len cap : Nat} {z : List Int} {i : Nat} (h : RD w rb a len cap z i) (hb : Below w.heap.size w w') : RD w' rb a len cap z i := h.touch (Touch.of_below hb (fun _ => False)) (fun q => q) (fun _ _ _ q => q)
/-- Behind a step of the reader. -/
def RdOut (w : World) (rb : Nat) (a : Option Addr) (len cap : Nat) (z : List Int) (i : Nat) (v : Value) (e : Ending) (w' : World) : Prop := e = .returned v ∧ RD w' rb a len cap z i ∧ Touch (fun k => k = rb) w w'
theorem adv_le {z : List Int} {i len : Nat} (hz : z.length = len) (h : i ≤ len) : adv z i ≤ len := by
 unfold adv; split <;> omega
theorem RD.stepC {w W : World} {rb : Nat} {a : Option Addr} {len cap : Nat} {z : List Int} {i : Nat} (h : RD w rb a len cap z i) (hlt : i < len) (hb : Below w.heap.size w W) : RD (W.setCell ⟨rb, 1, none⟩ (.int .i64 ((i : Int) + 1))) rb a len cap z (i + 1) ∧ Touch (fun k => k = rb) w (W.setCell ⟨rb, 1, none⟩ (.int .i64 ((i : Int) + 1))) := by
 have hk := h.keep hb; have ts : Touch (fun k => k = rb) W (W.setCell ⟨rb, 1, none⟩ (.int .i64 ((i : Int) + 1))) := (Touch.refl (fun k => k = rb) W).setCell (fun _ => rfl) _; refine ⟨⟨?_, hk.code.touch ts (fun hl x hx _ => hk.off hl x hx), h.off, by omega, h.wf⟩, (Touch.of_below hb _).trans ts⟩; have := hk.row.put 1 (.int .i64 ((i : Int) + 1)); exact this
theorem byte1C (w : World) (rb : Nat) (a : Option Addr) (len cap : Nat) (z : List Int) (i : Nat) (h : RD w rb a len cap z i) (hl : len ≤ 1048576) : Calls Tryz.prog 9 #[.pointer (some ⟨rb, 0, none⟩)] w (RdOut w rb a len cap z (adv z i) (.int .i64 (b1 z i))) := by
 have H := Lib.hid h; have y0 := h.row.cell 0; have y1 := h.row.cell 1; have f1 := h.row.free 1; have hi := h.le; have hz := h.zlen; have HZ := Lib.hid hz
 by_cases hlt : i < len
 ·
  obtain ⟨b, o, v, rfl, hb, hv, hc⟩ := h.code.get hlt
  obtain ⟨x, hx, rfl⟩ : ∃ x, z[i]? = some x ∧ .int .u8 x = v := by
   unfold bytV at hv; rw [List.getElem?_map] at hv; exact Option.map_eq_some_iff.1 hv
  obtain ⟨x0, x1⟩ := h.wf i x hx
  have hb1 : b1 z i = x := by unfold b1; rw [hx]; rfl
  have had : adv z i = i + 1 := by unfold adv; rw [if_pos (by omega)]
  have HB1 := Lib.hid hb1; have HAD := Lib.hid had; clear h hv hx hz hb1 had; go_enter Tryz.func9, Tryz.ntmps9; go_wp2_with fail; go_quiet (fail); go_wp2_with fail; obtain ⟨nq1, hnq1⟩ : ∃ m, m = nq := ⟨_, rfl⟩; subst hnq1; go_quiet (fail); go_wp2_with fail; go_ret; have hst := H.out.stepC hlt (W := w.drewN (nq1 + nq)) (below_drewN (Below.refl _ _) _); refine ⟨by rw [HB1.out]; rfl, by rw [HAD.out]; exact hst.1, hst.2⟩
 ·
  have hb1 : b1 z i = 0 := by unfold b1; rw [List.getElem?_eq_none (by omega)]; rfl
  have had : adv z i = i := by unfold adv; rw [if_neg (by omega)]
  have HB1 := Lib.hid hb1; have HAD := Lib.hid had; clear h hz hb1 had; go_enter Tryz.func9, Tryz.ntmps9; go_wp2_with fail; go_quiet (fail); go_wp2_with fail; go_ret; refine ⟨by rw [HB1.out]; rfl, ?_, (Touch.refl _ _).drewN _⟩; rw [HAD.out]; exact H.out.keep (below_drewN (Below.refl _ _) _)
/-- The law's names. -/
def nameT (m : Int) : ByteArray :=
 if m = 0 then ⟨#[97]⟩ else
 if m = 1 then ⟨#[102, 111, 111]⟩ else
 if m = 2 then ⟨#[36, 120]⟩ else
 if m = 3 then ⟨#[95, 98, 49]⟩ else
 if m = 4 then ⟨#[120, 50]⟩ else
 if m = 5 then ⟨#[102]⟩ else
 if m = 6 then ⟨#[36, 95, 95, 108, 111, 99, 95, 95]⟩ else
 ⟨#[118]⟩
/-- The law's number texts. -/
def numT (m : Int) : ByteArray :=
 if m = 0 then ⟨#[48]⟩ else
 if m = 1 then ⟨#[49]⟩ else
 if m = 2 then ⟨#[49, 46, 53]⟩ else
 if m = 3 then ⟨#[49, 48]⟩ else
 if m = 4 then ⟨#[49, 101, 51]⟩ else
 if m = 5 then ⟨#[46, 53]⟩ else
 if m = 6 then ⟨#[48, 48, 55]⟩ else
 ⟨#[45, 49]⟩
theorem zNameC (c : Int) (w : World) (h0 : 0 ≤ c) (h1 : c < 65536) : Calls Tryz.prog 30 #[.int .i64 c] w fun e w' => e = .returned (.string (nameT (c % 8))) ∧ w = w' := by
 have hc : c % 8 = 0 ∨ c % 8 = 1 ∨ c % 8 = 2 ∨ c % 8 = 3 ∨ c % 8 = 4 ∨ c % 8 = 5 ∨ c % 8 = 6 ∨ c % 8 = 7 := by omega
 rcases hc with h | h | h | h | h | h | h | h
 ·
  have HN := Lib.hid (show nameT (c % 8) = ⟨#[97]⟩ by rw [h]; rfl); go_enter Tryz.func30, Tryz.ntmps30; go_wp2_with fail; go_ret; exact ⟨by rw [HN.out]; rfl, rfl⟩
 ·
  have HN := Lib.hid (show nameT (c % 8) = ⟨#[102, 111, 111]⟩ by rw [h]; rfl); go_enter Tryz.func30, Tryz.ntmps30; go_wp2_with fail; go_ret; exact ⟨by rw [HN.out]; rfl, rfl⟩
 ·
  have HN := Lib.hid (show nameT (c % 8) = ⟨#[36, 120]⟩ by rw [h]; rfl); go_enter Tryz.func30, Tryz.ntmps30; go_wp2_with fail; go_ret; exact ⟨by rw [HN.out]; rfl, rfl⟩
 ·
  have HN := Lib.hid (show nameT (c % 8) = ⟨#[95, 98, 49]⟩ by rw [h]; rfl); go_enter Tryz.func30, Tryz.ntmps30; go_wp2_with fail; go_ret; exact ⟨by rw [HN.out]; rfl, rfl⟩
 ·
  have HN := Lib.hid (show nameT (c % 8) = ⟨#[120, 50]⟩ by rw [h]; rfl); go_enter Tryz.func30, Tryz.ntmps30; go_wp2_with fail; go_ret; exact ⟨by rw [HN.out]; rfl, rfl⟩
 ·
  have HN := Lib.hid (show nameT (c % 8) = ⟨#[102]⟩ by rw [h]; rfl); go_enter Tryz.func30, Tryz.ntmps30; go_wp2_with fail; go_ret; exact ⟨by rw [HN.out]; rfl, rfl⟩
 ·
  have HN := Lib.hid (show nameT (c % 8) = ⟨#[36, 95, 95, 108, 111, 99, 95, 95]⟩ by rw [h]; rfl); go_enter Tryz.func30, Tryz.ntmps30; go_wp2_with fail; go_ret; exact ⟨by rw [HN.out]; rfl, rfl⟩
 ·
  have HN := Lib.hid (show nameT (c % 8) = ⟨#[118]⟩ by rw [h]; rfl); go_enter Tryz.func30, Tryz.ntmps30; go_wp2_with fail; go_ret; exact ⟨by rw [HN.out]; rfl, rfl⟩
theorem zNumC (c : Int) (w : World) (h0 : 0 ≤ c) (h1 : c < 65536) : Calls Tryz.prog 29 #[.int .i64 c] w fun e w' => e = .returned (.string (numT (c % 8))) ∧ w = w' := by
 have hc : c % 8 = 0 ∨ c % 8 = 1 ∨ c % 8 = 2 ∨ c % 8 = 3 ∨ c % 8 = 4 ∨ c % 8 = 5 ∨ c % 8 = 6 ∨ c % 8 = 7 := by omega
 rcases hc with h | h | h | h | h | h | h | h
 ·
  have HN := Lib.hid (show numT (c % 8) = ⟨#[48]⟩ by rw [h]; rfl); go_enter Tryz.func29, Tryz.ntmps29; go_wp2_with fail; go_ret; exact ⟨by rw [HN.out]; rfl, rfl⟩
 ·
  have HN := Lib.hid (show numT (c % 8) = ⟨#[49]⟩ by rw [h]; rfl); go_enter Tryz.func29, Tryz.ntmps29; go_wp2_with fail; go_ret; exact ⟨by rw [HN.out]; rfl, rfl⟩
 ·
  have HN := Lib.hid (show numT (c % 8) = ⟨#[49, 46, 53]⟩ by rw [h]; rfl); go_enter Tryz.func29, Tryz.ntmps29; go_wp2_with fail; go_ret; exact ⟨by rw [HN.out]; rfl, rfl⟩
 ·
  have HN := Lib.hid (show numT (c % 8) = ⟨#[49, 48]⟩ by rw [h]; rfl); go_enter Tryz.func29, Tryz.ntmps29; go_wp2_with fail; go_ret; exact ⟨by rw [HN.out]; rfl, rfl⟩
 ·
  have HN := Lib.hid (show numT (c % 8) = ⟨#[49, 101, 51]⟩ by rw [h]; rfl); go_enter Tryz.func29, Tryz.ntmps29; go_wp2_with fail; go_ret; exact ⟨by rw [HN.out]; rfl, rfl⟩
 ·
  have HN := Lib.hid (show numT (c % 8) = ⟨#[46, 53]⟩ by rw [h]; rfl); go_enter Tryz.func29, Tryz.ntmps29; go_wp2_with fail; go_ret; exact ⟨by rw [HN.out]; rfl, rfl⟩
 ·
  have HN := Lib.hid (show numT (c % 8) = ⟨#[48, 48, 55]⟩ by rw [h]; rfl); go_enter Tryz.func29, Tryz.ntmps29; go_wp2_with fail; go_ret; exact ⟨by rw [HN.out]; rfl, rfl⟩
 ·
  have HN := Lib.hid (show numT (c % 8) = ⟨#[45, 49]⟩ by rw [h]; rfl); go_enter Tryz.func29, Tryz.ntmps29; go_wp2_with fail; go_ret; exact ⟨by rw [HN.out]; rfl, rfl⟩
/-- The length of a string of the code, and the place of its first byte. -/
def strN (z : List Int) (i : Nat) : Int × Nat := if b1 z i % 12 = 11 then (b1 z (adv z i), adv z (adv z i)) else (b1 z i % 12, adv z i)
def rdL (z : List Int) (i k : Nat) : List UInt8 := (List.range k).map fun t => UInt8.ofNat (b1 z (i + t)).toNat
def strB (z : List Int) (i : Nat) : ByteArray := ⟨(rdL z (strN z i).2 (strN z i).1.toNat).toArray⟩
def strE (z : List Int) (i : Nat) : Nat := min ((strN z i).2 + (strN z i).1.toNat) z.length
theorem rdL_snoc (z : List Int) (i k : Nat) : rdL z i (k + 1) = rdL z i k ++ [UInt8.ofNat (b1 z (i + k)).toNat] := by
 unfold rdL; rw [List.range_succ, List.map_append]; rfl
theorem adv_min (z : List Int) (i k : Nat) : adv z (min (i + k) z.length) = min (i + (k + 1)) z.length := by
 unfold adv; split <;> omega
theorem b1_min (z : List Int) (i k : Nat) : b1 z (min (i + k) z.length) = b1 z (i + k) := by
 unfold b1
 by_cases h : i + k < z.length
 ·
  rw [Nat.min_eq_left (by omega)]
 ·
  rw [Nat.min_eq_right (by omega), List.getElem?_eq_none (by omega), List.getElem?_eq_none (by omega)]
theorem mk_bytes (k : Nat) (hk : k ≤ 255) (W : World) : (Instr.makeSlice 22 (.int .i64 0) (.int .i64 (k : Int))).run Tryz.prog W = .ok (.slice (some ⟨W.heap.size, 0, none⟩) 0 k) (W.alloc (.cells (madeCells #[.int .u8 0] k) 5)) := by
 obtain ⟨i0, hi, hz0, hz1, hz2⟩ := info_parts infoByte; have hr := run_make (P := Tryz.prog) W 22 5 i0 (.int .u8 0) Tryz.underlying22 hi hz0 .i64 .i64 0 k (by omega) (by omega) (by rw [hz2]; omega) (by omega); rw [hz1, Nat.mul_one] at hr; exact hr
theorem bytes1 {y : Int} (h : y = ((UInt8.ofNat y.toNat).toNat : Int)) : (#[Value.int .u8 y] : Array Value).toList = Lib.byteCells [UInt8.ofNat y.toNat] := by
 have : Lib.byteCells [UInt8.ofNat y.toNat] = [Value.int .u8 ((UInt8.ofNat y.toNat).toNat : Int)] := rfl; rw [this, ← h]
/-- Bytes of the call's own under way: B: its base. -/
def SB (wr : World) (B : Nat) (l : List UInt8) (v : Value) : Prop := ∃ A n c d, v = .slice A n c ∧ Hid (n = l.length) ∧ Hid (OwnB wr B (.slice A n c) d l) ∧ Hid (∀ g, d = some g → B ≤ g)
theorem SB.keep {w w' : World} {B : Nat} {l : List UInt8} {v : Value} {S : Nat → Prop} (h : SB w B l v) (ht : Touch S w w') (hS : ∀ k, B ≤ k → ¬ S k) : SB w' B l v := by
 obtain ⟨A, n, c, d, h1, h2, h3, h4⟩ := h; exact ⟨A, n, c, d, h1, h2, Lib.hid (h3.out.touch ht (fun g hg => hS g (h4.out g hg))), h4⟩
theorem u8_conv (x : Int) (h0 : 0 ≤ x) (h1 : x < 256) (w : World) : (convert 3 5 (.int .i64 x)).run Tryz.prog w = .ok (.int .u8 x) w := by
 have : IntKind.u8.wrap x = x := by rw [IntKind.wrap_u8]; omega
 have h2 : (convert 3 5 (.int .i64 x)).run Tryz.prog w = .ok (.int .u8 (IntKind.u8.wrap x)) w := by kernel_rfl
 rw [h2, this]
set_option maxRecDepth 100000 in
set_option maxHeartbeats 4000000 in
/-- From the place where the bytes begin. -/
theorem zStrC (w : World) (rb : Nat) (a : Option Addr) (len cap : Nat) (z : List Int) (i : Nat) (h : RD w rb a len cap z i) (hl : len ≤ 1048576) : Calls Tryz.prog 38 #[.pointer (some ⟨rb, 0, none⟩)] w (RdOut w rb a len cap z (strE z i) (.string (strB z i))) := by
 have hz := h.zlen; have H := Lib.hid h; have HZ := Lib.hid hz; have hb0 := h.b1 i; have hlr := h.row.lt; clear h hz; go_enter Tryz.func38, Tryz.ntmps38; go_wp2_with fail; refine (byte1C w rb a len cap z i H.out hl).mono ?_; rintro e w1 ⟨rfl, hr1, ht1⟩; have HR1 := Lib.hid hr1; have HT1 := Lib.hid ht1; clear hr1 ht1; obtain ⟨x0, hx0⟩ : ∃ x0, x0 = b1 z i := ⟨_, rfl⟩; rw [← hx0] at hb0 ⊢; have HX0 := Lib.hid hx0; clear hx0
 by_cases h11 : x0 % 12 = 11
 ·
  go_wp2_with fail; refine (byte1C _ rb a len cap z _ HR1.out hl).mono ?_; rintro e w2 ⟨rfl, hr2, ht2⟩; have HR2 := Lib.hid hr2; have HT2 := Lib.hid (HT1.out.trans ht2); obtain ⟨n0, n1⟩ := H.out.b1 (adv z i); obtain ⟨k, hk⟩ : ∃ k : Nat, b1 z (adv z i) = (k : Int) := ⟨(b1 z (adv z i)).toNat, by omega⟩
  have hkl : k ≤ 255 := by omega
  have HFIN := Lib.hid (show strB z i = ⟨(rdL z (adv z (adv z i)) k).toArray⟩ ∧ strE z i = min (adv z (adv z i) + k) z.length by
   unfold strB strE strN; rw [← HX0.out, if_pos h11, hk]
   exact ⟨rfl, rfl⟩)
  rw [hk]; clear hr2 ht2 n0 n1 hk h11; have hmk : ∀ W, (Instr.makeSlice 22 (.int .i64 0) (.int .i64 (k : Int))).run Tryz.prog W = .ok (.slice (some ⟨W.heap.size, 0, none⟩) 0 k) (W.alloc (.cells (madeCells #[.int .u8 0] k) 5)) := mk_bytes k hkl
  have hlr2 : rb < w2.heap.size := by have := HT2.out.size; omega
  go_wp2_with fail; go_loopw [4, 5] (fun v t wr => ∃ (j : Nat), j ≤ k ∧ t = .int .i64 j ∧ SB wr w.heap.size (rdL z (adv z (adv z i)) j) v ∧ RD wr rb a len cap z (min (adv z (adv z i) + j) z.length) ∧ Touch (fun m => m = rb) w wr) (fun _ t _ => k - (intOf t).toNat)
  case atStart =>
   refine ⟨0, Nat.zero_le _, rfl, ⟨_, _, _, _, rfl, Lib.hid rfl, Lib.hid (OwnB.made w2 k (B := w.heap.size) (by have := HT2.out.size; omega) (by unfold maxLen; omega)), Lib.hid (fun g hg => by have := Option.some.inj hg; have := HT2.out.size; omega)⟩, ?_, HT2.out.trans ((Touch.refl _ _).alloc _)⟩
   have hle : adv z (adv z i) ≤ z.length := by rw [HZ.out]; exact HR2.out.le
   rw [Nat.add_zero, Nat.min_eq_left hle]; exact HR2.out.keep ((Below.refl _ _).alloc (Nat.le_refl _) _)
  case round =>
   obtain ⟨j, hj, rfl, ⟨A, n, c, d, rfl, HN, HO, HD⟩, hrd, htt⟩ := hrel; have HRD := Lib.hid hrd; have HTT := Lib.hid htt; have hszw := htt.size; clear hrd htt hmk
   by_cases hlt : j < k
   ·
    go_wp2_with fail; refine (byte1C _ rb a len cap z _ HRD.out hl).mono ?_; rintro e w5 ⟨rfl, hr5, ht5⟩; rw [b1_min]; rw [adv_min] at hr5; obtain ⟨y0, y1⟩ := HRD.out.b1 (adv z (adv z i) + j); obtain ⟨y, hy⟩ : ∃ y, y = b1 z (adv z (adv z i) + j) := ⟨_, rfl⟩; rw [← hy] at y0 y1 ⊢; have HY := Lib.hid hy; have hcv := u8_conv y y0 y1; have HO5 := Lib.hid (HO.out.touch ht5 (fun g hg e => by have := HD.out g hg; omega)); have HR5 := Lib.hid hr5; have HT5 := Lib.hid (HTT.out.trans ht5); have hs5 := HT5.out.size; have HYU := Lib.hid (show (y : Int) = ((UInt8.ofNat y.toNat).toNat : Int) by simp; omega); clear hy hr5 ht5; go_wp2_with (at_builtin; refine wp_bytes rfl _ _ rfl w5 _ _ rfl w.heap.size (.slice A n c) d (rdL z (adv z (adv z i)) j) (by rfl) HO5.out [UInt8.ofNat y.toNat] _ (bytes1 HYU.out) (by rfl) 1 (by rfl) (by rfl) (by rw [show (rdL z (adv z (adv z i)) j).length = j by simp [rdL]]; simp; omega) (by simp) (by simp) hs5 ?_); intro v6 w6 ho; obtain ⟨d6, o6, d6', t6⟩ := ho; obtain ⟨A6, c6, rfl⟩ := own_form o6.1; obtain ⟨n6, hn6⟩ : ∃ n6, n6 = (rdL z (adv z (adv z i)) j ++ [UInt8.ofNat y.toNat]).length := ⟨_, rfl⟩; rw [← hn6] at o6 ⊢
    have HSB : SB w6 w.heap.size (rdL z (adv z (adv z i)) (j + 1)) (.slice A6 n6 c6) := by
     rw [rdL_snoc, ← HY.out]; exact ⟨A6, _, c6, d6, rfl, Lib.hid hn6, Lib.hid o6, Lib.hid (fun g hg => (o6.lt g hg).1)⟩
    clear hn6; have HRD6 := HR5.out.touch t6 (fun e => by have := HD.out _ e; omega) (fun hl x hx e => by obtain ⟨b', o', ha', hb', _⟩ := H.out.code.2 hl; rw [hx] at ha'; cases ha'; have : w.heap.size ≤ b' := HD.out _ e; omega); have HTT6 := HT5.out.trans' t6 (fun m hm e => by have := HD.out _ e; omega); have HSB6 := Lib.hid HSB; have HRD6' := Lib.hid HRD6; have HTT6' := Lib.hid HTT6; clear HSB HRD6 HTT6 o6 t6 d6'; go_wp2_with fail; exact ⟨⟨j + 1, by omega, by go_num, HSB6.out, HRD6'.out, HTT6'.out⟩, by simp [intOf]; omega⟩
   ·
    obtain rfl : k = j := by omega
    have hcv := HO.out.conv; go_wp2_with fail; go_ret; refine ⟨by rw [HFIN.out.1]; rfl, by rw [HFIN.out.2]; exact HRD.out, HTT.out⟩
 ·
  obtain ⟨k, hk⟩ : ∃ k : Nat, x0 % 12 = (k : Int) := ⟨(x0 % 12).toNat, by omega⟩
  have hkl : k ≤ 255 := by omega
  have HFIN := Lib.hid (show strB z i = ⟨(rdL z (adv z i) k).toArray⟩ ∧ strE z i = min (adv z i + k) z.length by
   unfold strB strE strN; rw [← HX0.out, if_neg h11, hk]
   exact ⟨rfl, rfl⟩)
  have hk11 : ((k : Int) == 11) = false := by simp; omega
  clear h11; have hmk : ∀ W, (Instr.makeSlice 22 (.int .i64 0) (.int .i64 (k : Int))).run Tryz.prog W = .ok (.slice (some ⟨W.heap.size, 0, none⟩) 0 k) (W.alloc (.cells (madeCells #[.int .u8 0] k) 5)) := mk_bytes k hkl
  have hlr2 : rb < w1.heap.size := by have := HT1.out.size; omega
  go_wp2_with fail; go_loopw [4, 5] (fun v t wr => ∃ (j : Nat), j ≤ k ∧ t = .int .i64 j ∧ SB wr w.heap.size (rdL z (adv z i) j) v ∧ RD wr rb a len cap z (min (adv z i + j) z.length) ∧ Touch (fun m => m = rb) w wr) (fun _ t _ => k - (intOf t).toNat)
  case atStart =>
   refine ⟨0, Nat.zero_le _, rfl, ⟨_, _, _, _, rfl, Lib.hid rfl, Lib.hid (OwnB.made w1 k (B := w.heap.size) (by have := HT1.out.size; omega) (by unfold maxLen; omega)), Lib.hid (fun g hg => by have := Option.some.inj hg; have := HT1.out.size; omega)⟩, ?_, HT1.out.trans ((Touch.refl _ _).alloc _)⟩
   have hle : adv z i ≤ z.length := by rw [HZ.out]; exact HR1.out.le
   rw [Nat.add_zero, Nat.min_eq_left hle]; exact HR1.out.keep ((Below.refl _ _).alloc (Nat.le_refl _) _)
  case round =>
   obtain ⟨j, hj, rfl, ⟨A, n, c, d, rfl, HN, HO, HD⟩, hrd, htt⟩ := hrel; have HRD := Lib.hid hrd; have HTT := Lib.hid htt; have hszw := htt.size; clear hrd htt hmk
   by_cases hlt : j < k
   ·
    go_wp2_with fail; refine (byte1C _ rb a len cap z _ HRD.out hl).mono ?_; rintro e w5 ⟨rfl, hr5, ht5⟩; rw [b1_min]; rw [adv_min] at hr5; obtain ⟨y0, y1⟩ := HRD.out.b1 (adv z i + j); obtain ⟨y, hy⟩ : ∃ y, y = b1 z (adv z i + j) := ⟨_, rfl⟩; rw [← hy] at y0 y1 ⊢; have HY := Lib.hid hy; have hcv := u8_conv y y0 y1; have HO5 := Lib.hid (HO.out.touch ht5 (fun g hg e => by have := HD.out g hg; omega)); have HR5 := Lib.hid hr5; have HT5 := Lib.hid (HTT.out.trans ht5); have hs5 := HT5.out.size; have HYU := Lib.hid (show (y : Int) = ((UInt8.ofNat y.toNat).toNat : Int) by simp; omega); clear hy hr5 ht5; go_wp2_with (at_builtin; refine wp_bytes rfl _ _ rfl w5 _ _ rfl w.heap.size (.slice A n c) d (rdL z (adv z i) j) (by rfl) HO5.out [UInt8.ofNat y.toNat] _ (bytes1 HYU.out) (by rfl) 1 (by rfl) (by rfl) (by rw [show (rdL z (adv z i) j).length = j by simp [rdL]]; simp; omega) (by simp) (by simp) hs5 ?_); intro v6 w6 ho; obtain ⟨d6, o6, d6', t6⟩ := ho; obtain ⟨A6, c6, rfl⟩ := own_form o6.1; obtain ⟨n6, hn6⟩ : ∃ n6, n6 = (rdL z (adv z i) j ++ [UInt8.ofNat y.toNat]).length := ⟨_, rfl⟩; rw [← hn6] at o6 ⊢
    have HSB : SB w6 w.heap.size (rdL z (adv z i) (j + 1)) (.slice A6 n6 c6) := by
     rw [rdL_snoc, ← HY.out]; exact ⟨A6, _, c6, d6, rfl, Lib.hid hn6, Lib.hid o6, Lib.hid (fun g hg => (o6.lt g hg).1)⟩
    clear hn6; have HRD6 := HR5.out.touch t6 (fun e => by have := HD.out _ e; omega) (fun hl x hx e => by obtain ⟨b', o', ha', hb', _⟩ := H.out.code.2 hl; rw [hx] at ha'; cases ha'; have : w.heap.size ≤ b' := HD.out _ e; omega); have HTT6 := HT5.out.trans' t6 (fun m hm e => by have := HD.out _ e; omega); have HSB6 := Lib.hid HSB; have HRD6' := Lib.hid HRD6; have HTT6' := Lib.hid HTT6; clear HSB HRD6 HTT6 o6 t6 d6'; go_wp2_with fail; rw [hk]; exact ⟨⟨_, _, _, _, _, _, _, _, _, _, _, _, _, ⟨j + 1, by omega, by go_num, HSB6.out, HRD6'.out, HTT6'.out⟩, rfl⟩, by simp [intOf]; omega⟩
   ·
    obtain rfl : k = j := by omega
    have hcv := HO.out.conv; go_wp2_with fail; go_ret; refine ⟨by rw [HFIN.out.1]; rfl, by rw [HFIN.out.2]; exact HRD.out, HTT.out⟩
/-- A byte read. -/
theorem byteX (w : World) (rb : Nat) (a : Option Addr) (len cap : Nat) (z : List Int) (i : Nat) (h : RD w rb a len cap z i) (hl : len ≤ 1048576) : Calls Tryz.prog 9 #[.pointer (some ⟨rb, 0, none⟩)] w fun e w' => ∃ x i', e = .returned (.int .i64 x) ∧ 0 ≤ x ∧ x < 256 ∧ i ≤ i' ∧ (x ≠ 0 → i + 1 ≤ i') ∧ RD w' rb a len cap z i' ∧ Touch (fun k => k = rb) w w' := by
 refine (byte1C w rb a len cap z i h hl).mono ?_; rintro e w' ⟨rfl, h1, h2⟩; obtain ⟨x0, x1⟩ := h.b1 i; refine ⟨_, _, rfl, x0, x1, ?_, ?_, h1, h2⟩
 ·
  unfold adv; split <;> omega
 ·
  intro hx; unfold adv; split
  ·
   omega
  ·
   rename_i hn
   exfalso
   apply hx; unfold b1; rw [List.getElem?_eq_none (by omega)]; rfl
theorem strX (w : World) (rb : Nat) (a : Option Addr) (len cap : Nat) (z : List Int) (i : Nat) (h : RD w rb a len cap z i) (hl : len ≤ 1048576) : Calls Tryz.prog 38 #[.pointer (some ⟨rb, 0, none⟩)] w fun e w' => ∃ s i', e = .returned (.string s) ∧ s.size ≤ 255 ∧ i ≤ i' ∧ RD w' rb a len cap z i' ∧ Touch (fun k => k = rb) w w' := by
 refine (zStrC w rb a len cap z i h hl).mono ?_; rintro e w' ⟨rfl, h1, h2⟩; have hz := h.zlen; have hi := h.le; refine ⟨_, _, rfl, ?_, ?_, h1, h2⟩
 ·
  obtain ⟨x0, x1⟩ := h.b1 i; obtain ⟨y0, y1⟩ := h.b1 (adv z i)
  have hN : (strN z i).1.toNat ≤ 255 := by
   unfold strN; split <;> simp <;> omega
  show (rdL z (strN z i).2 (strN z i).1.toNat).toArray.size ≤ 255; simp [rdL]; omega
 ·
  have ha : ∀ j, j ≤ adv z j := fun j => by unfold adv; split <;> omega
  have h3 : i ≤ (strN z i).2 := by
   unfold strN; split
   ·
    exact Nat.le_trans (ha i) (ha _)
   ·
    exact ha i
  unfold strE; omega
theorem nameX (c : Int) (w : World) (h0 : 0 ≤ c) (h1 : c < 65536) : Calls Tryz.prog 30 #[.int .i64 c] w fun e w' => ∃ s : ByteArray, e = .returned (.string s) ∧ s.toList.isEmpty = false ∧ s.size ≠ 0 ∧ s.size ≤ 8 ∧ w = w' := by
 refine (zNameC c w h0 h1).mono ?_; rintro e w' ⟨rfl, rfl⟩; refine ⟨_, rfl, ?_⟩
 have : ∀ m : Int, (nameT m).toList.isEmpty = false ∧ (nameT m).size ≠ 0 ∧ (nameT m).size ≤ 8 ∧ w = w := by
  intro m; unfold nameT
  repeat' split
  all_goals exact ⟨by kernel_rfl, by decide, by decide, rfl⟩
 exact this _
theorem numX (c : Int) (w : World) (h0 : 0 ≤ c) (h1 : c < 65536) : Calls Tryz.prog 29 #[.int .i64 c] w fun e w' => ∃ s : ByteArray, e = .returned (.string s) ∧ s.toList.isEmpty = false ∧ s.size ≠ 0 ∧ s.size ≤ 8 ∧ w = w' := by
 refine (zNumC c w h0 h1).mono ?_; rintro e w' ⟨rfl, rfl⟩; refine ⟨_, rfl, ?_⟩
 have : ∀ m : Int, (numT m).toList.isEmpty = false ∧ (numT m).size ≠ 0 ∧ (numT m).size ≤ 8 ∧ w = w := by
  intro m; unfold numT
  repeat' split
  all_goals exact ⟨by kernel_rfl, by decide, by decide, rfl⟩
 exact this _
theorem fmtX (c : Int) (w : World) (h0 : 0 ≤ c) (h1 : c < 65536) : Calls Tryz.prog 33 #[.int .i64 c] w fun e w' => ∃ s : ByteArray, e = .returned (.string s) ∧ s.toList.isEmpty = false ∧ s.size ≠ 0 ∧ s.size ≤ 8 ∧ w = w' := by
 have hc : c % 4 = 0 ∨ c % 4 = 1 ∨ c % 4 = 2 ∨ c % 4 = 3 := by omega
 rcases hc with h | h | h | h
 ·
  go_enter Tryz.func33, Tryz.ntmps33; go_wp2_with fail; go_ret; exact ⟨⟨#[64, 98, 97, 115, 101, 54, 52]⟩, rfl, by kernel_rfl, by decide, by decide, rfl⟩
 ·
  go_enter Tryz.func33, Tryz.ntmps33; go_wp2_with fail; go_ret; exact ⟨⟨#[64, 116, 101, 120, 116]⟩, rfl, by kernel_rfl, by decide, by decide, rfl⟩
 ·
  go_enter Tryz.func33, Tryz.ntmps33; go_wp2_with fail; go_ret; exact ⟨⟨#[64, 106, 115, 111, 110]⟩, rfl, by kernel_rfl, by decide, by decide, rfl⟩
 ·
  go_enter Tryz.func33, Tryz.ntmps33; go_wp2_with fail; go_ret; exact ⟨⟨#[64, 115, 104]⟩, rfl, by kernel_rfl, by decide, by decide, rfl⟩
end Go.Proofs.YtghcggagpagfoaaGreatDoor
