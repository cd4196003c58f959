/-
  The decoders: terms' parts (n001_1001). Printed by genDd.py.
-/
import Derived.Test.YtghcggagpagfoaaGreatDoorDdA
import Derived.Test.YtghcggagpagfoaaGreatDoorDdE
namespace Go.Proofs.YtghcggagpagfoaaGreatDoor
set_option linter.unusedVariables false
set_option linter.unusedSimpArgs false
open Go.ChangeShapes Go.WideShapes Go.ChangeAt Go.RowKit M
theorem byteY (w : World) (rb : Nat) (a : Option Addr) (len cap : Nat) (z : List Int) (i : Nat) (h : RD w rb a len cap z i) (hl : len ≤ 1048576) : Calls Tryz.prog 9 #[.pointer (some ⟨rb, 0, none⟩)] w fun e w' => ∃ x i', e = .returned (.int .i64 x) ∧ 0 ≤ x ∧ x < 256 ∧ i ≤ i' ∧ (x ≠ 0 → i + 1 ≤ i') ∧ x = b1 z i ∧ RD w' rb a len cap z i' ∧ Touch (fun k => k = rb) w w' := by
  refine (byte1C w rb a len cap z i h hl).mono ?_
  rintro e w' ⟨rfl, h1, h2⟩
  obtain ⟨x0, x1⟩ := h.b1 i
  refine ⟨_, _, rfl, x0, x1, ?_, ?_, rfl, h1, h2⟩
  · unfold adv; split <;> omega
  · intro hx
    unfold adv
    split
    · omega
    · rename_i hn
      exfalso
      apply hx
      unfold b1
      rw [List.getElem?_eq_none (by omega)]
      rfl
theorem W.tm {ty : Int} {ix fn ob ar : Option T} {num : ByteArray} {un : Option T} {fmt : ByteArray} {str ie tr rd fe lb : Option T} {brk : ByteArray} {q : Option T} (h1 : 1 ≤ ty) (h2 : ty ≤ 20) (h3 : tyOK ty ix fn ob ar un str ie tr rd fe lb q)
    (o1 : ∀ t, ix = some t → W .ix t) (o2 : ∀ t, fn = some t → W .fn t) (o3 : ∀ t, ob = some t → W .ob t) (o4 : ∀ t, ar = some t → W .ar t) (o5 : ∀ t, un = some t → W .un t) (o6 : ∀ t, str = some t → W .st t) (o7 : ∀ t, ie = some t → W .ife t) (o8 : ∀ t, tr = some t → W .tr t) (o9 : ∀ t, rd = some t → W .rd t) (o10 : ∀ t, fe = some t → W .fe t) (o11 : ∀ t, lb = some t → W .lb t) (o12 : ∀ t, q = some t → W .q t) :
    ∀ (a : Bool) (sl : List T), sl.length ≤ 3 → (∀ t ∈ sl, W .sf t) → W .t (.nd 74 (tFs ty ix fn ob ar num un fmt str ie tr rd fe lb brk q a sl)) := fun a sl hl hs => .t ty ix fn ob ar num un fmt str ie tr rd fe lb brk q a sl h1 h2 h3 o1 o2 o3 o4 o5 o6 o7 o8 o9 o10 o11 o12 hl hs
/-- The terms' contract, for the types from lo to hi (less one). -/
def TD (lo hi : Int) (m : Nat) : Prop := ∀ (w : World) (rb : Nat) (a : Option Addr) (len cap : Nat) (z : List Int) (i d : Nat), RD w rb a len cap z i → len ≤ 1048576 → 40 ≤ d + m → d ≤ 100 → (lo ≤ b1 z i % 20 ∧ b1 z i % 20 ≤ hi) →
  Calls Tryz.prog 11 #[.pointer (some ⟨rb, 0, none⟩), .int .i64 d] w (DOut w rb a len cap z i .t 200 (8 * m + 8))
/-- Behind the switch: a term but for its suffixes. -/
def TS (b : Nat) (w wc : World) (rb : Nat) (a : Option Addr) (len cap : Nat) (z : List Int) (i p h : Nat) : Prop :=
  ∃ (ty : Int) (ix fn ob ar : Option T) (num : ByteArray) (un : Option T) (fmt : ByteArray) (str ie tr rd fe lb : Option T) (brk : ByteArray) (q : Option T) (k0 k1 k2 k3 k4 k5 k6 k7 k8 k9 k10 k11 k12 k13 k14 k15 : Value) (i' : Nat), Hid (Und b (fun _ => False) wc p 74 h (tFs ty ix fn ob ar num un fmt str ie tr rd fe lb brk q false []) [k0, k1, k2, k3, k4, k5, k6, k7, k8, k9, k10, k11, k12, k13, k14, k15, .slice none 0 0]) ∧ Hid (RD wc rb a len cap z i') ∧ Hid (Touch (fun k => k = rb) w wc) ∧ Hid (∀ (a : Bool) (sl : List T), sl.length ≤ 3 → (∀ t ∈ sl, W .sf t) → W .t (.nd 74 (tFs ty ix fn ob ar num un fmt str ie tr rd fe lb brk q a sl))) ∧ Hid (T.wt (.nd 74 (tFs ty ix fn ob ar num un fmt str ie tr rd fe lb brk q false [])) + 40000 * i + 30000 ≤ 40000 * i')
theorem TS.of {b : Nat} {w wc : World} {rb : Nat} {a : Option Addr} {len cap : Nat} {z : List Int} {i i' p h : Nat} {ty : Int} {ix fn ob ar : Option T} {num : ByteArray} {un : Option T} {fmt : ByteArray} {str ie tr rd fe lb : Option T} {brk : ByteArray} {q : Option T} {k0 k1 k2 k3 k4 k5 k6 k7 k8 k9 k10 k11 k12 k13 k14 k15 : Value} (u : Hid (Und b (fun _ => False) wc p 74 h (tFs ty ix fn ob ar num un fmt str ie tr rd fe lb brk q false []) [k0, k1, k2, k3, k4, k5, k6, k7, k8, k9, k10, k11, k12, k13, k14, k15, .slice none 0 0])) (r : Hid (RD wc rb a len cap z i')) (t : Hid (Touch (fun k => k = rb) w wc)) (hw : ∀ (a : Bool) (sl : List T), sl.length ≤ 3 → (∀ t ∈ sl, W .sf t) → W .t (.nd 74 (tFs ty ix fn ob ar num un fmt str ie tr rd fe lb brk q a sl))) (hq : T.wt (.nd 74 (tFs ty ix fn ob ar num un fmt str ie tr rd fe lb brk q false [])) + 40000 * i + 30000 ≤ 40000 * i') : TS b w wc rb a len cap z i p h := ⟨ty, ix, fn, ob, ar, num, un, fmt, str, ie, tr, rd, fe, lb, brk, q, k0, k1, k2, k3, k4, k5, k6, k7, k8, k9, k10, k11, k12, k13, k14, k15, i', u, r, t, Lh hw, Lh hq⟩
end Go.Proofs.YtghcggagpagfoaaGreatDoor
