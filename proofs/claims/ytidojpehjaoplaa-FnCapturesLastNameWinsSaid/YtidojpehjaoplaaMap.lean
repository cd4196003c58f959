/-
  Maps of strings to interface values in memory: 'MMap' (the entries in order), lookup, store, length.
-/
import Derived.Test.YtidojpehjaoplaaStrs
import Derived.Test.YtidojpehjaoplaaRows
import Derived.Maps.Own
import Derived.Maps.OwnOps
import Derived.Outline
import Derived.Deep.QuietTactic
import Derived.RegionTactic
import Derived.BigQuiet
namespace Go.Proofs.Ytidojpehjaoplaa
set_option linter.unusedVariables false
set_option linter.unusedSimpArgs false
open Go.ChangeShapes Go.WideShapes Go.ChangeAt Go.RowKit M
abbrev ES := List (ByteArray × Value)
def mget : ES → ByteArray → Option Value
  | [], _ => none
  | e :: r, s => if e.1 = s then some e.2 else mget r s
def mset : ES → ByteArray → Value → ES
  | [], s, v => [(s, v)]
  | e :: r, s, v => if e.1 = s then (s, v) :: r else e :: mset r s v
theorem mget_mset_same : ∀ (es : ES) (s : ByteArray) (v : Value), mget (mset es s v) s = some v
  | [], s, v => by simp [mset, mget]
  | e :: r, s, v => by
    unfold mset
    split
    · simp [mget]
    · rename_i h
      rw [mget, if_neg h]
      exact mget_mset_same r s v
theorem mget_mset_other : ∀ (es : ES) {s t : ByteArray} (v : Value), s ≠ t → mget (mset es s v) t = mget es t
  | [], s, t, v, h => by simp [mset, mget, h]
  | e :: r, s, t, v, h => by
    unfold mset
    split
    · rename_i h1
      rw [mget, mget, if_neg h, if_neg (fun q => h (h1.symm.trans q))]
    · rw [mget, mget]
      split
      · rfl
      · exact mget_mset_other r v h
theorem mset_length : ∀ (es : ES) (s : ByteArray) (v : Value), (mset es s v).length = if (mget es s).isSome then es.length else es.length + 1
  | [], s, v => by simp [mset, mget]
  | e :: r, s, v => by
    unfold mset
    rw [mget]
    split
    · simp
    · rw [List.length_cons, mset_length r s v]
      split <;> simp
def kv (e : MapEntry) : Value × Value := (e.key, e.val)
def sv (p : ByteArray × Value) : Value × Value := (.string p.1, p.2)
/-- Block b is a map with exactly the entries es, in that order. -/
def MMap (w : World) (b : Nat) (es : ES) : Prop := ∃ (ents : Array MapEntry) (clock : Nat), w.heap[b]? = some (.map ents clock) ∧ ents.toList.map kv = es.map sv
theorem MMap.lt {w : World} {b : Nat} {es : ES} (h : MMap w b es) : b < w.heap.size := by
  obtain ⟨ents, clock, h1, _⟩ := h
  exact (Array.getElem?_eq_some_iff.1 h1).1
theorem MMap.touch {S : Nat → Prop} {w w' : World} {b : Nat} {es : ES} (h : MMap w b es) (ht : Touch S w w') (hn : ¬ S b) : MMap w' b es := by
  have hl := h.lt
  obtain ⟨ents, clock, h1, h2⟩ := h
  exact ⟨ents, clock, (ht.block b hl hn).trans h1, h2⟩
theorem MMap.keep {w w' : World} {b : Nat} {es : ES} (h : MMap w b es) (hb : Below w.heap.size w w') : MMap w' b es := h.touch (Touch.of_below hb (fun _ => False)) (fun h => h)
theorem MMap.made (w : World) : MMap (w.alloc (.map #[] 0)) w.heap.size [] := ⟨#[], 0, (MapKept.heap_alloc w _).1, rfl⟩
theorem MMap.ne {w : World} {b g : Nat} {es : ES} {t : TypeId} {cs : Array Value} (h : MMap w b es) (hr : Row w g t cs) : g ≠ b := by
  rintro rfl
  obtain ⟨ents, clock, h1, _⟩ := h
  unfold Row at hr
  rw [h1] at hr
  cases hr
theorem find_spec (s : ByteArray) : ∀ (l : List MapEntry) (es : ES) (i : Nat), l.map kv = es.map sv →
    (mget es s = none ∧ Instr.findNow .string (.string s) l i = some none ∧ ∀ v', mset es s v' = es ++ [(s, v')]) ∨
    (∃ v j e, mget es s = some v ∧ Instr.findNow .string (.string s) l i = some (some (i + j, v)) ∧ l[j]? = some e ∧ e.key = .string s ∧ ∀ v', (l.modify j fun e => { e with key := .string s, val := v' }).map kv = (mset es s v').map sv)
  | [], [], i, _ => .inl ⟨rfl, rfl, fun _ => rfl⟩
  | [], p :: es, i, h => by simp at h
  | e :: l, [], i, h => by simp at h
  | e :: l, p :: es, i, h => by
    simp only [List.map_cons, List.cons.injEq] at h
    obtain ⟨h1, h2⟩ := h
    have hk : e.key = .string p.1 := congrArg Prod.fst h1
    have hv : e.val = p.2 := congrArg Prod.snd h1
    by_cases hp : p.1 = s
    · refine .inr ⟨p.2, 0, e, by rw [mget, if_pos hp], ?_, rfl, by rw [hk, hp], fun v' => ?_⟩
      · have : Instr.sameNow .string (.string s) (.string p.1) = some true := by simp [Instr.sameNow, hp, (MapKept.bytes_beq s s).2 rfl]
        simp [Instr.findNow, hk, this, hv]
      · rw [mset, if_pos hp]
        simp only [List.modify_zero_cons, List.map_cons, h2]
        rfl
    · have hs : Instr.sameNow .string (.string s) (.string p.1) = some false := by
        have : (s == p.1) = false := by
          cases hb : s == p.1
          · rfl
          · exact absurd ((MapKept.bytes_beq s p.1).1 hb).symm hp
        simp [Instr.sameNow, this]
      rcases find_spec s l es (i + 1) h2 with ⟨a1, a2, a3⟩ | ⟨v, j, e', a1, a2, a3, a4, a5⟩
      · exact .inl ⟨by rw [mget, if_neg hp, a1], by simp [Instr.findNow, hk, hs, a2], fun v' => by rw [mset, if_neg hp, a3]; rfl⟩
      · refine .inr ⟨v, j + 1, e', by rw [mget, if_neg hp, a1], ?_, by simpa using a3, a4, fun v' => ?_⟩
        · simp [Instr.findNow, hk, hs, a2]
          omega
        · rw [mset, if_neg hp]
          simp only [List.modify_succ_cons, List.map_cons, a5 v']
          rw [h1]
theorem key_str (s : ByteArray) (W : World) (b : Bool) : (Instr.checkKey b 10000 9 (.string s)).run Try.prog W = .ok () W := MapKept.run_checkKey (k := .string s) Try.underlying9 (by simp [MapKept.IsKey]) b 9999
theorem stays_str (s : ByteArray) (W : World) : (Instr.keyThatStays (.string s) (.string s)).run Try.prog W = .ok (.string s) W := by
  have : Instr.sameBits 10000 (.string s) (.string s) = true := by simp [Instr.sameBits, (MapKept.bytes_beq s s).2 rfl]
  simp [Instr.keyThatStays, this]
theorem run_upd {w : World} {b : Nat} {es : ES} (h : MMap w b es) (s : ByteArray) (v : Value) :
    ∃ w', (Instr.mapUpdate 28 (.map (some b)) (.string s) v).run Try.prog w = .ok () w' ∧ MMap w' b (mset es s v) ∧ Touch (· = b) w w' := by
  have hl := h.lt
  obtain ⟨ents, clock, h1, h2⟩ := h
  have tou : ∀ o, Touch (· = b) w { w with heap := w.heap.setIfInBounds b o } := fun o => ⟨rfl, rfl, rfl, by simp, fun k hk hn => (MapKept.heap_set h1).2 k hn⟩
  rcases find_spec s ents.toList es 0 h2 with ⟨a1, a2, a3⟩ | ⟨x, j, e, a1, a2, a3, a4, a5⟩
  · refine ⟨{ w with heap := w.heap.setIfInBounds b (.map (ents.push { key := .string s, val := v, born := clock }) (clock + 1)) }, ?_, ⟨_, _, (MapKept.heap_set h1).1, ?_⟩, tou _⟩
    · simp [Instr.mapUpdate, run_underlying Try.underlying28, MapKept.run_getObj_map h1, key_str, MapKept.run_findKey Try.underlying9 a2, MapKept.run_setObj_map _ h1, Result.andThen]
    · rw [a3]
      simp [h2]
      rfl
  · have hg : ents[j]? = some e := by simpa using a3
    refine ⟨{ w with heap := w.heap.setIfInBounds b (.map (ents.modify j fun e => { e with key := .string s, val := v }) clock) }, ?_, ⟨_, _, (MapKept.heap_set h1).1, ?_⟩, tou _⟩
    · simp [Instr.mapUpdate, run_underlying Try.underlying28, MapKept.run_getObj_map h1, key_str, MapKept.run_findKey Try.underlying9 a2, MapKept.run_setObj_map _ h1, Result.andThen, hg, a4, stays_str]
    · rw [Array.toList_modify]
      exact a5 v
theorem run_look {w : World} {b : Nat} {es : ES} (h : MMap w b es) (s : ByteArray) :
    (Instr.lookup 28 (.map (some b)) (.string s) false).run Try.prog w = .ok ((mget es s).getD .nilIface) w ∧
    (Instr.lookup 28 (.map (some b)) (.string s) true).run Try.prog w = .ok (.tuple #[(mget es s).getD .nilIface, .bool (mget es s).isSome]) w := by
  obtain ⟨ents, clock, h1, h2⟩ := h
  have hz : (zeroValue 20).run Try.prog w = .ok .nilIface w := by kernel_rfl
  rcases find_spec s ents.toList es 0 h2 with ⟨a1, a2, a3⟩ | ⟨x, j, e, a1, a2, a3, a4, a5⟩
  · constructor <;> simp [Instr.lookup, run_underlying Try.underlying28, MapKept.run_getObj_map h1, key_str, MapKept.run_findKey Try.underlying9 a2, Result.andThen, a1, hz]
  · constructor <;> simp [Instr.lookup, run_underlying Try.underlying28, MapKept.run_getObj_map h1, key_str, MapKept.run_findKey Try.underlying9 a2, Result.andThen, a1]
theorem wpList_upd (w : World) {ops : Array Oper} {rest : List Oper} {o : Oper} {a : Act} {Q : Exit → Act → World → Prop} (hg : o.guard = none) (m x v : Operand) (hop : o.op = Op.mapUpdate 28 m x v) (b : Nat) (es : ES) (s : ByteArray) (val : Value)
    (hm : a.eval m = .map (some b)) (hx : a.eval x = .string s) (hv : a.eval v = val) (h : MMap w b es)
    (hK : ∀ w', MMap w' b (mset es s val) → Touch (· = b) w w' → wpList Try.prog ops Q rest (a.put o.dst undef) w') : wpList Try.prog ops Q (o :: rest) a w := by
  refine wpList_plain hg fun K' hK' => ?_
  obtain ⟨w', hrun, r1, r2⟩ := run_upd h s val
  unfold Oper.wp
  simp [execOp, hop, hm, hx, hv, hrun, Result.andThen]
  exact hK' _ _ (hK w' r1 r2)
end Go.Proofs.Ytidojpehjaoplaa
