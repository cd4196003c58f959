/-
  'append(b, c0, c1, ..)', the bytes' array just laid (n001_1001).
-/
import Derived.Test.YtghcggagpagfoaaGreatDoorByt
namespace Go.Proofs.YtghcggagpagfoaaGreatDoor
set_option linter.unusedVariables false
open Go.ChangeShapes Go.WideShapes Go.ChangeAt Go.RowKit M
theorem wp_bytes {ops : Array Oper} {rest : List Oper} {o : Oper} {a : Act} {Q : Exit → Act → World → Prop} (hgd : o.guard = none) (sl x : Operand) (ho : o.op = .call { callee := .builtin .append, args := #[sl, x], argTypes := #[tBytes, tBytes] })
    (w W : World) (N : Nat) (hN : N = w.heap.size) (B : Nat) (v : Value) (d : Option Nat) (l : List UInt8) (hs : a.eval sl = v) (hown : OwnB w B v d l) (bs : List UInt8) (cs : Array Value) (hcs : cs.toList = Lib.byteCells bs) (hW : W = w.alloc (.cells cs tByte)) (m : Nat) (hm : m = bs.length) (hx : a.eval x = .slice (some ⟨N, 0, none⟩) m m)
    (hlen : l.length + bs.length ≤ 140737488355328) (hb : bs.length ≤ 1048576) (hb0 : 0 < bs.length) (hB : B ≤ w.heap.size)
    (h : ∀ v' w', AOut w B d (l ++ bs) v' w' → wpList Tryz.prog ops Q rest (a.put o.dst v') w') : wpList Tryz.prog ops Q (o :: rest) a W := by
  subst hW hN hm
  obtain ⟨i0, hi, hz0, hz1, hz2⟩ := info_parts infoByte
  have hbl : (Lib.byteCells bs).length = bs.length := by simp [Lib.byteCells]
  refine wpList_append_lies _ hgd sl x tBytes ho B tByte i0 (.int .u8 0) 1 1 Tryz.underlying22 hi hz0 hz1 hz2 rfl (by decide) v l.length (Lib.byteCells l) hs (hown.1.alloc _) ⟨w.heap.size, 0, none⟩ bs.length bs.length (Lib.byteCells bs) hx (by rw [hbl, Nat.mul_one]) ?_ ?_ (by omega) (by unfold maxLen; omega) (by omega) (by simp; omega) _ rfl ?_
  · intro j u hj
    rw [Go.WideShapes.add_plain, (Row.made w tByte cs).cell, Nat.zero_add, ← Array.getElem?_toList, hcs]
    exact hj
  · intro u hu
    simp [Lib.byteCells] at hu
    obtain ⟨b, _, rfl⟩ := hu
    rfl
  · intro g cap w' hown' hgrow hat hlt
    refine h _ w' ⟨some g, ⟨?_, rfl⟩, ?_, ?_⟩
    · have he : Lib.byteCells l ++ Lib.byteCells bs = Lib.byteCells (l ++ bs) := by simp [Lib.byteCells]
      rw [he] at hown'
      simpa using hown'
    · rcases hat with h | h
      · exact .inl (h.symm.trans hown.2)
      · refine .inr ⟨g, rfl, ?_⟩
        rw [h, World.size_alloc]
        omega
    · exact ((Touch.refl _ w).alloc _).grown hgrow (fun k hk _ => hown.2.symm.trans hk)
end Go.Proofs.YtghcggagpagfoaaGreatDoor
