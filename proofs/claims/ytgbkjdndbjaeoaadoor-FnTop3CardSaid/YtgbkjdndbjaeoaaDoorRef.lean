/-
  Words for bytes of the call's own, appended to (n001_1001).
-/
import Derived.Test.YtgbkjdndbjaeoaaDoorApp
import Derived.Test.YtgbkjdndbjaeoaaDoorEsc
import Derived.Test.YtgbkjdndbjaeoaaDoorEnc
import Derived.Lib.MapLaws
import Derived.Deep.RegionLaw
namespace Go.Proofs.YtgbkjdndbjaeoaaDoor
set_option linter.unusedVariables false
open Go.ChangeShapes Go.WideShapes Go.ChangeAt Go.RowKit M
theorem wp_str {ops : Array Oper} {rest : List Oper} {o : Oper} {a : Act} {Q : Exit → Act → World → Prop} (hgd : o.guard = none) (sl x : Operand) (ho : o.op = .call { callee := .builtin .append, args := #[sl, x], argTypes := #[tBytes, 9] })
    (w : World) (B : Nat) (v : Value) (d : Option Nat) (l : List UInt8) (hs : a.eval sl = v) (hown : OwnB w B v d l) (t : ByteArray) (hx : a.eval x = .string t)
    (hlen : l.length + t.size ≤ 140737488355328) (hB : B ≤ w.heap.size)
    (h : ∀ v' w', AOut w B d (l ++ t.data.toList) v' w' → wpList Tryd.prog ops Q rest (a.put o.dst v') w') : wpList Tryd.prog ops Q (o :: rest) a w := by
  obtain ⟨i0, hi, hz0, hz1, hz2⟩ := info_parts infoByte
  refine wpList_plain hgd fun K hK => ?_
  obtain ⟨v', w', hr, h2, h3, _⟩ := Lib.run_append_own_string (P := Tryd.prog) w B tBytes 9 o.type tByte i0 Tryd.underlying22 Tryd.underlying9 hi hz0 hz1 hz2 v l.length (Lib.byteCells l) hown.1 t (by unfold maxLen; omega) hlen hB
  obtain ⟨v2, w2, hr2, _, _, h4, _⟩ := run_append_strF (P := Tryd.prog) w B tBytes 9 o.type tByte i0 Tryd.underlying22 Tryd.underlying9 hi hz0 hz1 hz2 v l.length (Lib.byteCells l) (World.ownsRowF_of hown.1) t hlen hB
  rw [hr] at hr2
  injection hr2 with e1 e2
  subst e1 e2
  unfold Oper.wp execOp
  simp only [ho, resolve, invoke, builtin, Sem.run_bind, Sem.run_pure, Result.andThen_ok, List.map_toArray, List.map_cons, List.map_nil, hs, hx, hr]
  refine hK _ _ (h v' w' ⟨v'.ownBlock, ⟨?_, rfl⟩, ?_, ?_⟩)
  · rw [bytes_app] at h2
    simpa using h2
  · rcases h4 with h | h
    · exact .inl (h.trans hown.2)
    · exact .inr h
  · exact (Touch.refl _ w).grown h3 (fun k hk _ => hown.2.symm.trans hk)
theorem step_bytes {ops : Array Oper} {o : Oper} {a : Act} {K : Act → World → Prop} {Q : Exit → Act → World → Prop} {E : Prop} (hgd : o.guard = none) (sl x : Operand) (ho : o.op = .call { callee := .builtin .append, args := #[sl, x], argTypes := #[tBytes, tBytes] })
    (w W : World) (N : Nat) (hN : N = w.heap.size) (B : Nat) (v : Value) (d : Option Nat) (l : List UInt8) (hs : a.eval sl = v) (hown : OwnB w B v d l) (bs : List UInt8) (cs : Array Value) (hcs : cs.toList = Lib.byteCells bs) (hW : W = w.alloc (.cells cs tByte)) (m : Nat) (hm : m = bs.length) (hx : a.eval x = .slice (some ⟨N, 0, none⟩) m m)
    (hlen : l.length + bs.length ≤ 140737488355328) (hb : bs.length ≤ 1048576) (hb0 : 0 < bs.length) (hB : B ≤ w.heap.size)
    (h : ∀ v' w', AOut w B d (l ++ bs) v' w' → K (a.put o.dst v') w') : if Region.wanted o (yielded ops a.tmps) = true then Oper.wp Tryd.prog o a W K Q else E := by
  subst hW hN hm
  obtain ⟨i0, hi, hz0, hz1, hz2⟩ := info_parts infoByte
  have hbl : (Lib.byteCells bs).length = bs.length := by simp [Lib.byteCells]
  refine step_append_lies _ hgd sl x tBytes ho B tByte i0 (.int .u8 0) 1 1 Tryd.underlying22 hi hz0 hz1 hz2 rfl (by decide) v l.length (Lib.byteCells l) hs (hown.1.alloc _) ⟨w.heap.size, 0, none⟩ bs.length bs.length (Lib.byteCells bs) hx (by rw [hbl, Nat.mul_one]) ?_ ?_ (by omega) (by unfold maxLen; omega) (by omega) (by simp; omega) _ rfl ?_
  · intro j u hj
    rw [Go.WideShapes.add_plain, (Row.made w tByte cs).cell, Nat.zero_add, ← Array.getElem?_toList, hcs]
    exact hj
  · intro u hu
    simp [Lib.byteCells] at hu
    obtain ⟨b, _, rfl⟩ := hu
    rfl
  · intro g cap w' hown' hgrow hat hlt
    refine h _ w' ⟨some g, ⟨?_, rfl⟩, ?_, ?_⟩
    · have he : Lib.byteCells l ++ Lib.byteCells bs = Lib.byteCells (l ++ bs) := by simp [Lib.byteCells]
      rw [he] at hown'
      simpa using hown'
    · rcases hat with h | h
      · exact .inl (h.symm.trans hown.2)
      · refine .inr ⟨g, rfl, ?_⟩
        rw [h, World.size_alloc]
        omega
    · exact ((Touch.refl _ w).alloc _).grown hgrow (fun k hk _ => hown.2.symm.trans hk)
theorem OwnB.form {w : World} {B : Nat} {v : Value} {d : Option Nat} {l : List UInt8} (h : OwnB w B v d l) : ∃ A c, v = .slice A l.length c := own_form h.1
/-- A slice of bytes made since w0, behind names that the walk leaves alone. -/
def BN (w0 : World) (l : List UInt8) (v : Value) (w' : World) : Prop := ∃ A n c d', v = .slice A n c ∧ Hid (n = l.length) ∧ Hid (OwnB w' w0.heap.size (.slice A n c) d' l) ∧ Hid (Below w0.heap.size w0 w') ∧ w0.heap.size ≤ w'.heap.size
theorem AOut.partsN {w w' w0 : World} {B : Nat} {d : Option Nat} {l : List UInt8} {v : Value} (ho : AOut w B d l v w') (hB : B = w0.heap.size) (hd : ∀ g, d = some g → B ≤ g) (hb : Below w0.heap.size w0 w) : BN w0 l v w' := by
  have h1 := hb.trans (ho.below (B' := w0.heap.size) hb.size (by rw [← hB]; exact hd))
  obtain ⟨d', x1, _, _⟩ := ho
  obtain ⟨A, c, rfl⟩ := x1.form
  subst hB
  exact ⟨A, _, c, d', rfl, Lib.hid rfl, Lib.hid x1, Lib.hid h1, h1.size⟩
theorem i32_and15 (n : Int) : bits .and .i32 n 15 = n % 16 := by
  have h15 : (BitVec.ofInt 32 15).toNat = 2 ^ 4 - 1 := by decide
  have key : (BitVec.ofInt 32 n &&& BitVec.ofInt 32 15).toNat = (n % ((2 ^ 32 : Nat) : Int)).toNat % 2 ^ 4 := by
    rw [BitVec.toNat_and, BitVec.toNat_ofInt, h15, Nat.and_two_pow_sub_one_eq_mod]
  show IntKind.i32.wrap ((BitVec.ofInt 32 n &&& BitVec.ofInt 32 15).toNat : Nat) = n % 16
  rw [key, IntKind.wrap_i32]
  omega
theorem dec_ascii (s : ByteArray) (i : Nat) (hi : i < s.size) (h : s[i].toNat < 128) : Utf8.decode s i = (s[i].toNat, 1) := by
  rw [Lib.decode_at, get_bang s i hi]
  exact Lib.decodeN_ascii _ _ _ _ _ h
theorem dec_big (s : ByteArray) (i : Nat) (hi : i < s.size) (h : ¬ s[i].toNat < 128) : 128 ≤ (Utf8.decode s i).1 := by
  rw [Lib.decode_at, get_bang s i hi]
  rcases Lib.decodeN_shape (s.size - i) s[i].toNat (s.get! (i + 1)).toNat (s.get! (i + 2)).toNat (s.get! (i + 3)).toNat with ⟨c, e⟩ | ⟨c1, c2, c3, cv, e⟩ | ⟨c1, c2, c3, c4, cv, cs, e⟩ | ⟨c1, c2, c3, c4, c5, cv, cw, e⟩ | e
  · exact absurd c h
  all_goals (rw [e]; dsimp only; omega)
def QI (w0 : World) (l0 : List UInt8) (s : ByteArray) (v i : Value) (wr : World) : Prop := ∃ (k : Nat) (l : List UInt8), k ≤ s.size ∧ i = .int .i64 k ∧ Hid (l.length ≤ l0.length + 1 + 6 * k) ∧ Hid (l ++ tail s k = l0 ++ [34] ++ tail s 0) ∧ BN w0 l v wr
theorem QI.step {w0 : World} {l0 : List UInt8} {s : ByteArray} {v : Value} {wr : World} {k : Nat} (l p : List UInt8) (m : Nat) (hp : piece s k = (p, m)) (hk : k < s.size) (hl : l.length ≤ l0.length + 1 + 6 * k) (ht : l ++ tail s k = l0 ++ [34] ++ tail s 0) (hpl : p.length ≤ 6 * m) (h : BN w0 (l ++ p) v wr) (I : Int) (hI : I = ↑(k + m)) : QI w0 l0 s v (.int .i64 I) wr := by
  have h1 := piece_le s k hk
  rw [hp] at h1
  have h2 := tail_step s k hk
  rw [hp] at h2
  rw [h2, ← List.append_assoc] at ht
  exact ⟨k + m, l ++ p, h1, by rw [hI], Lib.hid (by rw [List.length_append]; omega), Lib.hid ht, h⟩
end Go.Proofs.YtgbkjdndbjaeoaaDoor
