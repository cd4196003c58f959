/-
  A slice of bytes of the call's own ('OwnB'): one byte appended, a string appended by a loop (law helper appendStr), string(b).
-/
import Derived.Test.YtghcggagpagfoaaGreatDoorBld
import Derived.Deep.OwnRows
import Derived.Lib.BufferRead
import Derived.Laws.IdiomStrings
import Derived.Deep.QuietTactic
import Derived.Deep.RegionWith
import Derived.BigQuiet
import Derived.Deep.AppendLies
import Derived.Laws.OwnMore
namespace Go.Proofs.YtghcggagpagfoaaGreatDoor
set_option linter.unusedVariables false
open Go.ChangeShapes Go.WideShapes Go.ChangeAt Go.RowKit M
abbrev tBytes : TypeId := 22
/-- v is a slice of bytes of the call's own (from block B on) that holds l; its row is block d, if it has one. -/
def OwnB (w : World) (B : Nat) (v : Value) (d : Option Nat) (l : List UInt8) : Prop := w.ownsRow B tByte 1 v l.length (Lib.byteCells l) ∧ v.ownBlock = d
theorem OwnB.touch {S : Nat → Prop} {w w' : World} {B : Nat} {v : Value} {d : Option Nat} {l : List UInt8} (h : OwnB w B v d l) (ht : Touch S w w') (hd : ∀ g, d = some g → ¬ S g) : OwnB w' B v d l :=
  ⟨own_touch h.1 ht (by rw [h.2]; exact hd), h.2⟩
theorem OwnB.below {w w' : World} {B : Nat} {v : Value} {d : Option Nat} {l : List UInt8} (h : OwnB w B v d l) (hb : Below w.heap.size w w') : OwnB w' B v d l := h.touch (Touch.of_below hb (fun _ => False)) (fun _ _ h => h)
theorem OwnB.lt {w : World} {B : Nat} {v : Value} {d : Option Nat} {l : List UInt8} (h : OwnB w B v d l) : ∀ g, d = some g → B ≤ g ∧ g < w.heap.size := fun g hg => h.1.lt g (h.2.trans hg)
theorem OwnB.ne {w : World} {B : Nat} {v : Value} {d : Option Nat} {l : List UInt8} (h : OwnB w B v d l) {g : Nat} {t : TypeId} {cs : Array Value} (hr : Row w g t cs) (h2 : tByte ≠ t) : d ≠ some g := by
  rw [← h.2]
  exact own_ne h.1 hr h2
theorem OwnB.made (w : World) (n : Nat) {B : Nat} (hB : B ≤ w.heap.size) (hn : n ≤ maxLen) : OwnB (w.alloc (.cells (madeCells #[.int .u8 0] n) tByte)) B (.slice (some ⟨w.heap.size, 0, none⟩) 0 n) (some w.heap.size) [] :=
  ⟨World.ownsRow_made w _ n hB hn (by rw [size_madeCells]; simp), rfl⟩
theorem OwnB.conv {w : World} {B : Nat} {v : Value} {d : Option Nat} {l : List UInt8} (h : OwnB w B v d l) : (convert tBytes 9 v).run Tryz.prog w = .ok (.string ⟨l.toArray⟩) w := by
  rcases h.1.2 with ⟨rfl, h0⟩ | ⟨g, cap, cur, rfl, _, hg, _, _, _, htake⟩
  · have : l = [] := List.eq_nil_of_length_eq_zero h0
    subst this
    exact Lib.run_convert_nil_bytes w _ _ tByte 0 Tryz.underlying22 Tryz.underlying5 Tryz.underlying9
  · exact run_convert_bytes_back (P := Tryz.prog) w _ _ tByte ⟨g, 0, none⟩ cap l Tryz.underlying22 Tryz.underlying5 Tryz.underlying9 (Lib.bytes_of_row hg (by simpa using htake))
/-- What an append leaves: the slice holds l now; nothing turned but its own row. -/
def AOut (w : World) (B : Nat) (d : Option Nat) (l : List UInt8) (v : Value) (w' : World) : Prop :=
  ∃ d', OwnB w' B v d' l ∧ (d' = d ∨ ∃ g, d' = some g ∧ w.heap.size ≤ g) ∧ Touch (fun k => d = some k) w w'
theorem AOut.refl {w : World} {B : Nat} {v : Value} {d : Option Nat} {l : List UInt8} (h : OwnB w B v d l) : AOut w B d l v w := ⟨d, h, .inl rfl, Touch.refl _ _⟩
theorem AOut.form {w w' : World} {B : Nat} {d : Option Nat} {l : List UInt8} {v : Value} (h : AOut w B d l v w') : ∃ A c, v = .slice A l.length c := by
  obtain ⟨d', h1, _⟩ := h
  exact own_form h1.1
theorem AOut.then {w w1 w2 : World} {B : Nat} {d d1 : Option Nat} {l : List UInt8} {v : Value} (hd : d1 = d ∨ ∃ g, d1 = some g ∧ w.heap.size ≤ g) (ht : Touch (fun k => d = some k) w w1) (h : AOut w1 B d1 l v w2) : AOut w B d l v w2 := by
  obtain ⟨d2, hb, hd2, ht2⟩ := h
  refine ⟨d2, hb, ?_, ht.trans' ht2 ?_⟩
  · rcases hd2 with rfl | ⟨g, rfl, hg⟩
    · exact hd
    · exact .inr ⟨g, rfl, Nat.le_trans ht.size hg⟩
  · intro i hi h
    rcases hd with rfl | ⟨g, rfl, hg⟩
    · exact h
    · injection h with h
      omega
theorem AOut.below {w w' : World} {B : Nat} {d : Option Nat} {l : List UInt8} {v : Value} (h : AOut w B d l v w') {B' : Nat} (hB : B' ≤ w.heap.size) (hd : ∀ g, d = some g → B' ≤ g) : Below B' w w' := by
  obtain ⟨_, _, _, ht⟩ := h
  exact ht.below hB (fun k hk h => by have := hd k h; omega)
theorem bytes_snoc (l : List UInt8) (c : UInt8) (n : Int) (hn : n = c.toNat) : Lib.byteCells l ++ [.int .u8 n] = Lib.byteCells (l ++ [c]) := by simp [Lib.byteCells, hn]
/-- 'append(b, c)', the byte's array just laid. -/
theorem wp_byte {ops : Array Oper} {rest : List Oper} {o : Oper} {a : Act} {Q : Exit → Act → World → Prop} (hgd : o.guard = none) (sl x : Operand) (ho : o.op = .call { callee := .builtin .append, args := #[sl, x], argTypes := #[tBytes, tBytes] })
    (w : World) (B : Nat) (v : Value) (d : Option Nat) (l : List UInt8) (hs : a.eval sl = v) (hown : OwnB w B v d l) (c : UInt8) (n : Int) (hn : n = c.toNat) (hx : a.eval x = .slice (some ⟨w.heap.size, 0, none⟩) 1 1)
    (hlen : l.length + 1 ≤ 140737488355328) (hB : B ≤ w.heap.size)
    (h : ∀ v' w', AOut w B d (l ++ [c]) v' w' → wpList Tryz.prog ops Q rest (a.put o.dst v') w') : wpList Tryz.prog ops Q (o :: rest) a (w.alloc (.cells #[.int .u8 n] tByte)) := by
  obtain ⟨i0, hi, hz0, hz1, hz2⟩ := info_parts infoByte
  refine wpList_append_lies _ hgd sl x tBytes ho B tByte i0 (.int .u8 0) 1 1 Tryz.underlying22 hi hz0 hz1 hz2 rfl (by decide) v l.length (Lib.byteCells l) hs (hown.1.alloc _) ⟨w.heap.size, 0, none⟩ 1 1 [.int .u8 n] hx rfl ?_ ?_ (by omega) (by unfold maxLen; omega) (by omega) (by simp; omega) _ rfl ?_
  · intro j u hj
    match j, hj with
    | 0, hj => simp at hj; subst hj; simp [Addr.add]
  · intro u hu
    simp at hu
    subst hu
    rfl
  · intro g cap w' hown' hgrow hat hlt
    refine h _ w' ⟨some g, ⟨?_, rfl⟩, ?_, ?_⟩
    · rw [bytes_snoc l c n hn] at hown'
      simpa using hown'
    · rcases hat with h | h
      · exact .inl (h.symm.trans hown.2)
      · refine .inr ⟨g, rfl, ?_⟩
        rw [h, World.size_alloc]
        omega
    · exact ((Touch.refl _ w).alloc _).grown hgrow (fun k hk _ => hown.2.symm.trans hk)
def AEnd (w : World) (B : Nat) (d : Option Nat) (l : List UInt8) (e : Ending) (w' : World) : Prop := ∃ A c, e = .returned (.slice A l.length c) ∧ AOut w B d l (.slice A l.length c) w'
theorem str_take (s : ByteArray) (k : Nat) (h : k < s.size) : s.data.toList.take (k + 1) = s.data.toList.take k ++ [s[k]] := by
  rw [List.take_succ_eq_append_getElem (by simpa using h)]
  rfl
end Go.Proofs.YtghcggagpagfoaaGreatDoor
