/-
  What the law's reader makes of the code (n001_1001): the decoders' contracts and their parts.
-/
import Derived.Test.YtghcggagpagfoaaGreatDoorRd
import Derived.Test.YtghcggagpagfoaaGreatDoorWt
import Derived.Deep.RegionLaw
import Derived.Deep.CutRange
import Derived.Deep.CutBlock
import Derived.Deep.DeepCutAuto
import Derived.IntWalk
namespace Go.Proofs.YtghcggagpagfoaaGreatDoor
set_option linter.unusedVariables false
set_option linter.unusedSimpArgs false
open Go.ChangeShapes Go.WideShapes Go.ChangeAt Go.RowKit M
theorem wpList_app1 {ops : Array Oper} {rest : List Oper} {o : Oper} {a : Act} {Q : Exit → Act → World → Prop} (w : World) (hgd : o.guard = none) (s x : Operand) (t : TypeId)
    (ho : o.op = .call { callee := .builtin .append, args := #[s, x], argTypes := #[t, t] }) (B : Nat) (e : TypeId) (z : Value) (bytes : Nat) (ht : Tryz.prog.underlying t = some (.slice e))
    (hi : (Tryz.prog.info? e).map (fun i => (i.zero, i.size, i.bytes)) = some (some z, 1, bytes)) (hzs : z.cells.size = 1) (hby : bytes ≤ 24) (v : Value) (n : Nat) (xs : List Value) (hs : a.eval s = v) (hown : w.ownsRow B e 1 v n xs)
    (k : Nat) (u : Value) (hx : a.eval x = .slice (some ⟨k, 0, none⟩) 1 1) (hr : Row w k e #[u]) (h1 : u.oneCell' = true) (hn : n ≤ 1048576) (hB : B ≤ w.heap.size)
    (h : ∀ g cap w', w'.ownsRow B e 1 (.slice (some ⟨g, 0, none⟩) (n + 1) cap) (n + 1) (xs ++ [u]) → Touch (fun j => v.ownBlock = some j) w w' → (v.ownBlock = some g ∨ g = w.heap.size) → g < w'.heap.size →
      wpList Tryz.prog ops Q rest (a.put o.dst (.slice (some ⟨g, 0, none⟩) (n + 1) cap)) w') : wpList Tryz.prog ops Q (o :: rest) a w := by
  obtain ⟨i0, hi0, hz0, hz1, hz2⟩ := info_parts hi
  refine wpList_append_lies w hgd s x t ho B e i0 z 1 bytes ht hi0 hz0 hz1 hz2 hzs (by omega) v n xs hs hown ⟨k, 0, none⟩ 1 1 [u] hx rfl (World.news_of_block hr) (by simpa using h1) (by omega) (by unfold maxLen; omega) ?_ hB _ rfl ?_
  · have : (n + 1) * bytes ≤ (n + 1) * 24 := Nat.mul_le_mul_left _ hby
    omega
  · intro g cap w' h2 h3 h4 h5
    exact h g cap w' h2 ((Touch.refl _ _).grown h3 (fun k hk _ => hk)) h4 h5
theorem step_app1 {ops : Array Oper} {o : Oper} {a : Act} {K : Act → World → Prop} {Q : Exit → Act → World → Prop} {E : Prop} (w : World) (hgd : o.guard = none) (s x : Operand) (t : TypeId)
    (ho : o.op = .call { callee := .builtin .append, args := #[s, x], argTypes := #[t, t] }) (B : Nat) (e : TypeId) (z : Value) (bytes : Nat) (ht : Tryz.prog.underlying t = some (.slice e))
    (hi : (Tryz.prog.info? e).map (fun i => (i.zero, i.size, i.bytes)) = some (some z, 1, bytes)) (hzs : z.cells.size = 1) (hby : bytes ≤ 24) (v : Value) (n : Nat) (xs : List Value) (hs : a.eval s = v) (hown : w.ownsRow B e 1 v n xs)
    (k : Nat) (u : Value) (hx : a.eval x = .slice (some ⟨k, 0, none⟩) 1 1) (hr : Row w k e #[u]) (h1 : u.oneCell' = true) (hn : n ≤ 1048576) (hB : B ≤ w.heap.size)
    (h : ∀ g cap w', w'.ownsRow B e 1 (.slice (some ⟨g, 0, none⟩) (n + 1) cap) (n + 1) (xs ++ [u]) → Touch (fun j => v.ownBlock = some j) w w' → (v.ownBlock = some g ∨ g = w.heap.size) → g < w'.heap.size →
      K (a.put o.dst (.slice (some ⟨g, 0, none⟩) (n + 1) cap)) w') : if Region.wanted o (yielded ops a.tmps) = true then Oper.wp Tryz.prog o a w K Q else E := by
  obtain ⟨i0, hi0, hz0, hz1, hz2⟩ := info_parts hi
  refine step_append_lies w hgd s x t ho B e i0 z 1 bytes ht hi0 hz0 hz1 hz2 hzs (by omega) v n xs hs hown ⟨k, 0, none⟩ 1 1 [u] hx rfl (World.news_of_block hr) (by simpa using h1) (by omega) (by unfold maxLen; omega) ?_ hB _ rfl ?_
  · have : (n + 1) * bytes ≤ (n + 1) * 24 := Nat.mul_le_mul_left _ hby
    omega
  · intro g cap w' h2 h3 h4 h5
    exact h g cap w' h2 ((Touch.refl _ _).grown h3 (fun k hk _ => hk)) h4 h5
theorem bit_all (m : Nat) (hm : m = 1 ∨ m = 2 ∨ m = 4 ∨ m = 8 ∨ m = 16) : (List.range 256).all (fun n => (bits BinOp.and IntKind.i64 (n : Int) m == 0) == decide ((n : Int) / m % 2 = 0)) = true := by
  rcases hm with rfl | rfl | rfl | rfl | rfl <;> kernel_rfl
theorem bitN (m : Nat) (hm : m = 1 ∨ m = 2 ∨ m = 4 ∨ m = 8 ∨ m = 16) {x : Int} (h0 : 0 ≤ x) (h1 : x < 256) : (bits BinOp.and IntKind.i64 x m == 0) = decide (x / m % 2 = 0) := by
  have h := List.all_eq_true.1 (bit_all m hm) x.toNat (List.mem_range.2 (by omega))
  rw [Int.toNat_of_nonneg h0] at h
  exact eq_of_beq h
/-- A decoder's outcome: a tree of kind K at block q, of height at most h, no heavier than what was read pays for. -/
def DOut (w : World) (rb : Nat) (a : Option Addr) (len cap : Nat) (z : List Int) (i : Nat) (K : Kd) (C h : Nat) (e : Ending) (w' : World) : Prop :=
  ∃ q t i', e = .returned (.pointer (some ⟨q, 0, none⟩)) ∧ RD w' rb a len cap z i' ∧ At (fun k => w.heap.size ≤ k) h w' q t ∧ W K t ∧ t.wt + 40000 * i ≤ 40000 * i' + C ∧ Touch (fun k => k = rb) w w'
/-- The decoder's contract, with m levels left. -/
def DC (fn : Nat) (K : Kd) (C h m : Nat) : Prop := ∀ (w : World) (rb : Nat) (a : Option Addr) (len cap : Nat) (z : List Int) (i d : Nat), RD w rb a len cap z i → len ≤ 1048576 → 40 ≤ d + m → d ≤ 100 →
  Calls Tryz.prog fn #[.pointer (some ⟨rb, 0, none⟩), .int .i64 d] w (DOut w rb a len cap z i K C h)
theorem RD.apart {w W : World} {rb : Nat} {a : Option Addr} {len cap : Nat} {z : List Int} {i i' : Nat} (h : RD W rb a len cap z i) (h0 : RD w rb a len cap z i') {p : Nat} (hp : w.heap.size ≤ p) (v : Value) (j : Nat) : RD (W.setCell ⟨p, j, none⟩ v) rb a len cap z i :=
  h.touch ((Touch.refl (fun k => k = p) W).setCell (p := ⟨p, j, none⟩) (fun _ => rfl) v) (by have := h0.row.lt; intro e; omega) (fun hl x hx e => by
    obtain ⟨b, o, ha, hb, _⟩ := h0.code.2 hl
    rw [hx] at ha
    cases ha
    have e' : b = p := e
    omega)
theorem Touch.put {w W : World} {rb p : Nat} (h : Touch (fun k => k = rb) w W) (hp : w.heap.size ≤ p) (v : Value) (j : Nat) : Touch (fun k => k = rb) w (W.setCell ⟨p, j, none⟩ v) :=
  h.trans' ((Touch.refl (fun k => k = p) W).setCell (p := ⟨p, j, none⟩) (fun _ => rfl) v) (fun i hi e => by have e' : i = p := e; omega)
abbrev tFs (ty : Int) (ix fn ob ar : Option T) (num : ByteArray) (un : Option T) (fmt : ByteArray) (str ie tr rd fe lb : Option T) (brk : ByteArray) (q : Option T) (a : Bool) (sl : List T) : List F := [.i ty, .p ix, .p fn, .p ob, .p ar, .s num, .p un, .s fmt, .p str, .p ie, .p tr, .p rd, .p fe, .p lb, .s brk, .p q, .l a sl]
theorem nil_fv {P : Nat → T → Prop} {ok : Nat → Prop} {w : World} : FV P ok w (.l false []) (.slice none 0 0) := ⟨none, 0, [], rfl, rfl, Vw.nil _ _, (fun _ x _ => by cases x), (fun _ _ _ x _ => by cases x)⟩
theorem nilS_fv {P : Nat → T → Prop} {ok : Nat → Prop} {w : World} : FV P ok w (.ss []) (.slice none 0 0) := ⟨none, 0, rfl, Nat.le_refl _, Vw.nil _ _, (fun _ x _ => by cases x)⟩
end Go.Proofs.YtghcggagpagfoaaGreatDoor
