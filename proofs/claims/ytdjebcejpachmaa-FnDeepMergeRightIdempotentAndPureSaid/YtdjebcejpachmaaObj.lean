/-
  Maps of strings to interface values in memory (n001_79): association lists, 'MMap' (the entries), store, lookup, length, and a range over a map ('Rng': the entries that are still to come).
-/
import Derived.Test.YtdjebcejpachmaaStrs
import Derived.Test.YtdjebcejpachmaaRows
import Derived.Maps.Range
import Derived.Maps.RangeWalk
import Derived.Outline
import Derived.Deep.QuietTactic
import Derived.RegionTactic
import Derived.BigQuiet
namespace Go.Proofs.Ytdjebcejpachmaa
set_option linter.unusedVariables false
set_option linter.unusedSimpArgs false
open Go.ChangeShapes Go.WideShapes Go.ChangeAt Go.RowKit M
section
variable {α : Type}
def aget : List (ByteArray × α) → ByteArray → Option α
  | [], _ => none
  | e :: r, s => if e.1 = s then some e.2 else aget r s
def aset : List (ByteArray × α) → ByteArray → α → List (ByteArray × α)
  | [], s, v => [(s, v)]
  | e :: r, s, v => if e.1 = s then (s, v) :: r else e :: aset r s v
def adel (l : List (ByteArray × α)) (s : ByteArray) : List (ByteArray × α) := l.filter fun e => !decide (e.1 = s)
def Nd (l : List (ByteArray × α)) : Prop := (l.map Prod.fst).Nodup
theorem aget_aset_same : ∀ (es : List (ByteArray × α)) (s : ByteArray) (v : α), aget (aset es s v) s = some v
  | [], s, v => by simp [aset, aget]
  | e :: r, s, v => by
    unfold aset
    split
    · simp [aget]
    · rename_i h
      rw [aget, if_neg h]
      exact aget_aset_same r s v
theorem aget_aset_other : ∀ (es : List (ByteArray × α)) {s t : ByteArray} (v : α), s ≠ t → aget (aset es s v) t = aget es t
  | [], s, t, v, h => by simp [aset, aget, h]
  | e :: r, s, t, v, h => by
    unfold aset
    split
    · rename_i h1
      rw [aget, aget, if_neg h, if_neg (fun q => h (h1.symm.trans q))]
    · rw [aget, aget]
      split
      · rfl
      · exact aget_aset_other r v h
theorem aget_aset (es : List (ByteArray × α)) (s t : ByteArray) (v : α) : aget (aset es s v) t = if s = t then some v else aget es t := by
  by_cases h : s = t
  · subst h
    rw [if_pos rfl, aget_aset_same]
  · rw [if_neg h, aget_aset_other _ _ h]
theorem aset_length : ∀ (es : List (ByteArray × α)) (s : ByteArray) (v : α), (aset es s v).length = if (aget es s).isSome then es.length else es.length + 1
  | [], s, v => by simp [aset, aget]
  | e :: r, s, v => by
    unfold aset
    rw [aget]
    split
    · simp
    · rw [List.length_cons, aset_length r s v]
      split <;> simp
theorem aget_none_iff : ∀ (es : List (ByteArray × α)) (s : ByteArray), aget es s = none ↔ s ∉ es.map Prod.fst
  | [], s => by simp [aget]
  | e :: r, s => by
    rw [aget]
    by_cases h : e.1 = s
    · rw [if_pos h]
      simp [h]
    · rw [if_neg h, aget_none_iff r s]
      simp only [List.map_cons, List.mem_cons, not_or]
      exact ⟨fun q => ⟨fun e => h e.symm, q⟩, fun q => q.2⟩
theorem aget_some_mem : ∀ (es : List (ByteArray × α)) {s : ByteArray} {v : α}, aget es s = some v → (s, v) ∈ es
  | [], s, v, h => by simp [aget] at h
  | e :: r, s, v, h => by
    rw [aget] at h
    split at h
    · rename_i h1
      injection h with h
      subst h1 h
      simp
    · exact List.mem_cons_of_mem _ (aget_some_mem r h)
theorem aget_of_mem : ∀ {es : List (ByteArray × α)} {s : ByteArray} {v : α}, Nd es → (s, v) ∈ es → aget es s = some v
  | [], s, v, _, h => by simp at h
  | e :: r, s, v, hn, h => by
    unfold Nd at hn
    rw [List.map_cons, List.nodup_cons] at hn
    rcases List.mem_cons.1 h with rfl | h
    · simp [aget]
    · have : e.1 ≠ s := by
        intro q
        rw [q] at hn
        exact hn.1 (List.mem_map_of_mem (f := Prod.fst) h)
      rw [aget, if_neg this]
      exact aget_of_mem hn.2 h
theorem keys_aset : ∀ (es : List (ByteArray × α)) (s : ByteArray) (v : α), (aset es s v).map Prod.fst = if (aget es s).isSome then es.map Prod.fst else es.map Prod.fst ++ [s]
  | [], s, v => by simp [aset, aget]
  | e :: r, s, v => by
    unfold aset
    rw [aget]
    split
    · rename_i h
      simp [h]
    · rw [List.map_cons, keys_aset r s v]
      split <;> simp
theorem Nd.aset {es : List (ByteArray × α)} (h : Nd es) (s : ByteArray) (v : α) : Nd (aset es s v) := by
  unfold Nd at h ⊢
  rw [keys_aset]
  split
  · exact h
  · rename_i hs
    rw [List.nodup_append]
    refine ⟨h, by simp, fun a ha b hb => ?_⟩
    simp only [List.mem_singleton] at hb
    subst hb
    rintro rfl
    have : aget es a = none := by simpa using hs
    exact (aget_none_iff es a).1 this ha
theorem Nd.adel {es : List (ByteArray × α)} (h : Nd es) (s : ByteArray) : Nd (adel es s) := by
  unfold Nd at h ⊢
  exact h.sublist (List.filter_sublist.map _)
theorem aget_adel : ∀ (es : List (ByteArray × α)) (s t : ByteArray), aget (adel es s) t = if s = t then none else aget es t
  | [], s, t => by simp [adel, aget]
  | e :: r, s, t => by
    have ih := aget_adel r s t
    unfold adel at ih ⊢
    by_cases h : e.1 = s
    · rw [List.filter_cons_of_neg (by simp [h]), ih, aget]
      by_cases h2 : s = t
      · simp [h2]
      · rw [if_neg h2, if_neg h2, if_neg (by rw [h]; exact h2)]
    · rw [List.filter_cons_of_pos (by simp [h]), aget, aget, ih]
      by_cases h2 : e.1 = t
      · rw [if_pos h2, if_pos h2, if_neg (fun q => h (h2.trans q.symm))]
      · rw [if_neg h2, if_neg h2]
theorem adel_lt {es : List (ByteArray × α)} {s : ByteArray} (h : (aget es s).isSome = true) : (adel es s).length < es.length := by
  obtain ⟨v, hv⟩ := Option.isSome_iff_exists.1 h
  have hm := aget_some_mem es hv
  unfold adel
  exact List.length_filter_lt_length_iff_exists.2 ⟨_, hm, by simp⟩
theorem nodup_len : ∀ (a b : List ByteArray), a.Nodup → a ⊆ b → a.length ≤ b.length
  | [], b, _, _ => Nat.zero_le _
  | x :: a, b, hn, hs => by
    rw [List.nodup_cons] at hn
    have hx : x ∈ b := hs (by simp)
    have ih := nodup_len a (b.filter fun y => !decide (y = x)) hn.2 fun y hy => List.mem_filter.2 ⟨hs (List.mem_cons_of_mem _ hy), by simpa using fun (q : y = x) => hn.1 (q ▸ hy)⟩
    have : (b.filter fun y => !decide (y = x)).length < b.length := List.length_filter_lt_length_iff_exists.2 ⟨x, hx, by simp⟩
    rw [List.length_cons]
    omega
theorem nodup_string {l : List ByteArray} (h : l.Nodup) : (l.map Value.string).Nodup := List.pairwise_map.2 (h.imp fun hne q => hne (by injection q))
theorem len_le_of_keys {β : Type} {a : List (ByteArray × α)} {b : List (ByteArray × β)} (ha : Nd a) (h : ∀ s, (aget a s).isSome = true → (aget b s).isSome = true) : a.length ≤ b.length := by
  have h1 : (a.map Prod.fst) ⊆ (b.map Prod.fst) := by
    intro s hs
    by_cases h2 : s ∈ b.map Prod.fst
    · exact h2
    · have h3 := (aget_none_iff b s).2 h2
      have h4 : aget a s ≠ none := fun q => (aget_none_iff a s).1 q hs
      have := h s (Option.isSome_iff_ne_none.2 h4)
      rw [h3] at this
      cases this
  have := nodup_len _ _ ha h1
  simpa using this
theorem len_of_keys {β : Type} {a : List (ByteArray × α)} {b : List (ByteArray × β)} (ha : Nd a) (hb : Nd b) (h : ∀ s, (aget a s).isSome = (aget b s).isSome) : a.length = b.length :=
  Nat.le_antisymm (len_le_of_keys ha fun s q => by rw [← h]; exact q) (len_le_of_keys hb fun s q => by rw [h]; exact q)
theorem inj_of_nodup_map {β γ : Type} {f : β → γ} : ∀ {l : List β}, (l.map f).Nodup → ∀ {a b : β}, a ∈ l → b ∈ l → f a = f b → a = b
  | [], _, _, _, h, _, _ => by simp at h
  | x :: l, hn, a, b, ha, hb, he => by
    rw [List.map_cons, List.nodup_cons] at hn
    rcases List.mem_cons.1 ha with h1 | h1 <;> rcases List.mem_cons.1 hb with h2 | h2
    · rw [h1, h2]
    · exact absurd (by rw [← h1, he]; exact List.mem_map_of_mem h2) hn.1
    · exact absurd (by rw [← h2, ← he]; exact List.mem_map_of_mem h1) hn.1
    · exact inj_of_nodup_map hn.2 h1 h2 he
end
abbrev ES := List (ByteArray × Value)
def kv (e : MapEntry) : Value × Value := (e.key, e.val)
def sv (p : ByteArray × Value) : Value × Value := (.string p.1, p.2)
/-- Block b is a map with exactly the entries es, in that order; no key stands twice. -/
def MMap (w : World) (b : Nat) (es : ES) : Prop :=
  Nd es ∧ ∃ (ents : Array MapEntry) (clock : Nat), w.heap[b]? = some (.map ents clock) ∧ ents.toList.map kv = es.map sv ∧ (∀ e ∈ ents.toList, e.born < clock) ∧ (ents.toList.map (·.born)).Nodup
theorem MMap.lt {w : World} {b : Nat} {es : ES} (h : MMap w b es) : b < w.heap.size := by
  obtain ⟨_, ents, clock, h1, _⟩ := h
  exact (Array.getElem?_eq_some_iff.1 h1).1
theorem MMap.touch {S : Nat → Prop} {w w' : World} {b : Nat} {es : ES} (h : MMap w b es) (ht : Touch S w w') (hn : ¬ S b) : MMap w' b es := by
  have hl := h.lt
  obtain ⟨h0, ents, clock, h1, h2⟩ := h
  exact ⟨h0, ents, clock, (ht.block b hl hn).trans h1, h2⟩
theorem MMap.keep {w w' : World} {b : Nat} {es : ES} (h : MMap w b es) (hb : Below w.heap.size w w') : MMap w' b es := h.touch (Touch.of_below hb (fun _ => False)) (fun h => h)
theorem MMap.made (w : World) : MMap (w.alloc (.map #[] 0)) w.heap.size [] := ⟨by simp [Nd], #[], 0, (MapKept.heap_alloc w _).1, rfl, by simp, by simp⟩
theorem MMap.ne {w : World} {b g : Nat} {es : ES} {t : TypeId} {cs : Array Value} (h : MMap w b es) (hr : Row w g t cs) : g ≠ b := by
  rintro rfl
  obtain ⟨_, ents, clock, h1, _⟩ := h
  unfold Row at hr
  rw [h1] at hr
  cases hr
theorem find_spec (s : ByteArray) : ∀ (l : List MapEntry) (es : ES) (i : Nat), l.map kv = es.map sv →
    (aget es s = none ∧ Instr.findNow .string (.string s) l i = some none ∧ ∀ v', aset es s v' = es ++ [(s, v')]) ∨
    (∃ v j e, aget es s = some v ∧ Instr.findNow .string (.string s) l i = some (some (i + j, v)) ∧ l[j]? = some e ∧ e.key = .string s ∧ ∀ v', (l.modify j fun e => { e with key := .string s, val := v' }).map kv = (aset es s v').map sv)
  | [], [], i, _ => .inl ⟨rfl, rfl, fun _ => rfl⟩
  | [], p :: es, i, h => by simp at h
  | e :: l, [], i, h => by simp at h
  | e :: l, p :: es, i, h => by
    simp only [List.map_cons, List.cons.injEq] at h
    obtain ⟨h1, h2⟩ := h
    have hk : e.key = .string p.1 := congrArg Prod.fst h1
    have hv : e.val = p.2 := congrArg Prod.snd h1
    by_cases hp : p.1 = s
    · refine .inr ⟨p.2, 0, e, by rw [aget, if_pos hp], ?_, rfl, by rw [hk, hp], fun v' => ?_⟩
      · have : Instr.sameNow .string (.string s) (.string p.1) = some true := by simp [Instr.sameNow, hp, (MapKept.bytes_beq s s).2 rfl]
        simp [Instr.findNow, hk, this, hv]
      · rw [aset, if_pos hp]
        simp only [List.modify_zero_cons, List.map_cons, h2]
        rfl
    · have hs : Instr.sameNow .string (.string s) (.string p.1) = some false := by
        have : (s == p.1) = false := by
          cases hb : s == p.1
          · rfl
          · exact absurd ((MapKept.bytes_beq s p.1).1 hb).symm hp
        simp [Instr.sameNow, this]
      rcases find_spec s l es (i + 1) h2 with ⟨a1, a2, a3⟩ | ⟨v, j, e', a1, a2, a3, a4, a5⟩
      · exact .inl ⟨by rw [aget, if_neg hp, a1], by simp [Instr.findNow, hk, hs, a2], fun v' => by rw [aset, if_neg hp, a3]; rfl⟩
      · refine .inr ⟨v, j + 1, e', by rw [aget, if_neg hp, a1], ?_, by simpa using a3, a4, fun v' => ?_⟩
        · simp [Instr.findNow, hk, hs, a2]
          omega
        · rw [aset, if_neg hp]
          simp only [List.modify_succ_cons, List.map_cons, a5 v']
          rw [h1]
theorem key_str (s : ByteArray) (W : World) (b : Bool) : (Instr.checkKey b 10000 9 (.string s)).run Try.prog W = .ok () W := MapKept.run_checkKey (k := .string s) Try.underlying9 (by simp [MapKept.IsKey]) b 9999
theorem stays_str (s : ByteArray) (W : World) : (Instr.keyThatStays (.string s) (.string s)).run Try.prog W = .ok (.string s) W := by
  have : Instr.sameBits 10000 (.string s) (.string s) = true := by simp [Instr.sameBits, (MapKept.bytes_beq s s).2 rfl]
  simp [Instr.keyThatStays, this]
theorem map_modify_born (l : List MapEntry) (s : ByteArray) (v : Value) : ∀ j, (l.modify j fun e => { e with key := .string s, val := v }).map (·.born) = l.map (·.born) := by
  induction l with
  | nil => intro j; cases j <;> simp
  | cons a l ih =>
    intro j
    cases j with
    | zero => simp
    | succ j => simpa using ih j
theorem run_upd {w : World} {b : Nat} {es : ES} (h : MMap w b es) (s : ByteArray) (v : Value) :
    ∃ w', (Instr.mapUpdate 42 (.map (some b)) (.string s) v).run Try.prog w = .ok () w' ∧ MMap w' b (aset es s v) ∧ Touch (· = b) w w' ∧ w'.heap.size = w.heap.size := by
  have hl := h.lt
  obtain ⟨h0, ents, clock, h1, h2, h3, h4⟩ := h
  have tou : ∀ o, Touch (· = b) w { w with heap := w.heap.setIfInBounds b o } := fun o => ⟨rfl, rfl, rfl, by simp, fun k hk hn => (MapKept.heap_set h1).2 k hn⟩
  rcases find_spec s ents.toList es 0 h2 with ⟨a1, a2, a3⟩ | ⟨x, j, e, a1, a2, a3, a4, a5⟩
  · refine ⟨{ w with heap := w.heap.setIfInBounds b (.map (ents.push { key := .string s, val := v, born := clock }) (clock + 1)) }, ?_, ⟨h0.aset s v, _, _, (MapKept.heap_set h1).1, ?_, ?_, ?_⟩, tou _, by simp⟩
    · simp [Instr.mapUpdate, run_underlying Try.underlying42, MapKept.run_getObj_map h1, key_str, MapKept.run_findKey Try.underlying9 a2, MapKept.run_setObj_map _ h1, Result.andThen]
    · rw [a3]
      simp [h2]
      rfl
    · intro e he
      simp only [Array.toList_push, List.mem_append, List.mem_singleton] at he
      rcases he with he | rfl
      · have := h3 e he; omega
      · simp
    · simp only [Array.toList_push, List.map_append, List.map_cons, List.map_nil]
      rw [List.nodup_append]
      refine ⟨h4, by simp, fun a ha b hb => ?_⟩
      simp only [List.mem_singleton] at hb
      subst hb
      obtain ⟨e, he, rfl⟩ := List.mem_map.1 ha
      have := h3 e he
      omega
  · have hg : ents[j]? = some e := by simpa using a3
    refine ⟨{ w with heap := w.heap.setIfInBounds b (.map (ents.modify j fun e => { e with key := .string s, val := v }) clock) }, ?_, ⟨h0.aset s v, _, _, (MapKept.heap_set h1).1, ?_, ?_, ?_⟩, tou _, by simp⟩
    · simp [Instr.mapUpdate, run_underlying Try.underlying42, MapKept.run_getObj_map h1, key_str, MapKept.run_findKey Try.underlying9 a2, MapKept.run_setObj_map _ h1, Result.andThen, hg, a4, stays_str]
    · rw [Array.toList_modify]
      exact a5 v
    · intro e' he'
      rw [Array.toList_modify] at he'
      have hm : e'.born ∈ ents.toList.map (·.born) := by
        rw [← map_modify_born ents.toList s v j]
        exact List.mem_map_of_mem he'
      obtain ⟨e2, he2, h5⟩ := List.mem_map.1 hm
      have := h3 e2 he2
      omega
    · rw [Array.toList_modify, map_modify_born]
      exact h4
theorem run_look {w : World} {b : Nat} {es : ES} (h : MMap w b es) (s : ByteArray) :
    (Instr.lookup 42 (.map (some b)) (.string s) true).run Try.prog w = .ok (.tuple #[(aget es s).getD .nilIface, .bool (aget es s).isSome]) w := by
  obtain ⟨_, ents, clock, h1, h2, _⟩ := h
  have hz : (zeroValue 20).run Try.prog w = .ok .nilIface w := by kernel_rfl
  rcases find_spec s ents.toList es 0 h2 with ⟨a1, a2, a3⟩ | ⟨x, j, e, a1, a2, a3, a4, a5⟩
  · simp [Instr.lookup, run_underlying Try.underlying42, MapKept.run_getObj_map h1, key_str, MapKept.run_findKey Try.underlying9 a2, Result.andThen, a1, hz]
  · simp [Instr.lookup, run_underlying Try.underlying42, MapKept.run_getObj_map h1, key_str, MapKept.run_findKey Try.underlying9 a2, Result.andThen, a1]
theorem und42 : Try.prog.underlying 42 = some (.map (Try.prog.mapKeyOf 42) (Try.prog.mapElemOf 42)) := by kernel_rfl
theorem run_len {w : World} {b n : Nat} {es : ES} (h : MMap w b es) (hn : es.length = n) (ty : TypeId) : (Builtin.len_ #[42] ty #[.map (some b)]).run Try.prog w = .ok (.int .i64 n) w := by
  subst hn
  obtain ⟨_, ents, clock, h1, h2, _⟩ := h
  rw [run_len_map (P := Try.prog) (w := w) 42 ty b ents clock und42 h1]
  have := congrArg List.length h2
  simp only [List.length_map, Array.length_toList] at this
  rw [this]
  rfl
theorem wpList_upd (w : World) {ops : Array Oper} {rest : List Oper} {o : Oper} {a : Act} {Q : Exit → Act → World → Prop} (hg : o.guard = none) (m x v : Operand) (hop : o.op = Op.mapUpdate 42 m x v) (b : Nat) (es : ES) (s : ByteArray) (val : Value)
    (hm : a.eval m = .map (some b)) (hx : a.eval x = .string s) (hv : a.eval v = val) (h : MMap w b es)
    (hK : ∀ w', MMap w' b (aset es s val) → Touch (· = b) w w' → w'.heap.size = w.heap.size → wpList Try.prog ops Q rest (a.put o.dst undef) w') : wpList Try.prog ops Q (o :: rest) a w := by
  refine wpList_plain hg fun K' hK' => ?_
  obtain ⟨w', hrun, r1, r2, r3⟩ := run_upd h s val
  unfold Oper.wp
  simp [execOp, hop, hm, hx, hv, hrun, Result.andThen]
  exact hK' _ _ (hK w' r1 r2 r3)
/-- Block r ranges over the map at b, whose entries are es; rem: those that are still to come. -/
def Rng (w : World) (r b : Nat) (es rem : ES) : Prop :=
  Nd es ∧ (∀ s v, aget rem s = some v → aget es s = some v) ∧ ∃ (ents : Array MapEntry) (clock since c0 : Nat) (seen : Array Nat), w.heap[b]? = some (.map ents clock) ∧ w.heap[r]? = some (.mapIter (some b) since seen c0) ∧
    ents.toList.map kv = es.map sv ∧ (∀ e ∈ ents.toList, e.born < since) ∧ since ≤ c0 ∧ since ≤ clock ∧ (ents.toList.map (·.born)).Nodup ∧ (leftOf ents seen).toList.map kv = rem.map sv
theorem Rng.ltR {w : World} {r b : Nat} {es rem : ES} (h : Rng w r b es rem) : r < w.heap.size := by
  obtain ⟨_, _, ents, clock, since, c0, seen, h1, h2, _⟩ := h
  exact (Array.getElem?_eq_some_iff.1 h2).1
theorem Rng.ltB {w : World} {r b : Nat} {es rem : ES} (h : Rng w r b es rem) : b < w.heap.size := by
  obtain ⟨_, _, ents, clock, since, c0, seen, h1, h2, _⟩ := h
  exact (Array.getElem?_eq_some_iff.1 h1).1
theorem Rng.left {w : World} {r b : Nat} {es rem : ES} (h : Rng w r b es rem) : w.rangeLeft b r = rem.length := by
  obtain ⟨_, _, ents, clock, since, c0, seen, h1, h2, _, _, _, _, _, h3⟩ := h
  simp only [World.rangeLeft, h1, h2]
  have := congrArg List.length h3
  simpa using this
theorem Rng.touch {S : Nat → Prop} {w w' : World} {r b : Nat} {es rem : ES} (h : Rng w r b es rem) (ht : Touch S w w') (hr : ¬ S r) (hb : ¬ S b) : Rng w' r b es rem := by
  have l1 := h.ltR
  have l2 := h.ltB
  obtain ⟨h01, h02, ents, clock, since, c0, seen, h1, h2, h3⟩ := h
  exact ⟨h01, h02, ents, clock, since, c0, seen, (ht.block b l2 hb).trans h1, (ht.block r l1 hr).trans h2, h3⟩
theorem Rng.keep {w w' : World} {r b : Nat} {es rem : ES} (h : Rng w r b es rem) (hb : Below w.heap.size w w') : Rng w' r b es rem := h.touch (Touch.of_below hb (fun _ => False)) (fun h => h) (fun h => h)
/-- A map's block is not the range's. -/
theorem Rng.ne {w : World} {r b m : Nat} {es rem fs : ES} (h : Rng w r b es rem) (hm : MMap w m fs) : r ≠ m := by
  rintro rfl
  obtain ⟨_, _, ents, clock, since, c0, seen, h1, h2, _⟩ := h
  obtain ⟨_, ents', clock', h3, _⟩ := hm
  rw [h2] at h3
  cases h3
theorem leftOf_none (ents : Array MapEntry) : leftOf ents #[] = ents := by
  unfold leftOf
  simp
theorem wpList_rng (w : World) {ops : Array Oper} {rest : List Oper} {o : Oper} {a : Act} {Q : Exit → Act → World → Prop} (hg : o.guard = none) (m : Operand) (hop : o.op = Op.range 42 m) (b : Nat) (es : ES) (hm : a.eval m = .map (some b)) (h : MMap w b es)
    (hK : ∀ ob, Rng (w.alloc ob) w.heap.size b es es → wpList Try.prog ops Q rest (a.put o.dst (.pointer (some ⟨w.heap.size, 0, none⟩))) (w.alloc ob)) : wpList Try.prog ops Q (o :: rest) a w := by
  have hl := h.lt
  obtain ⟨h0, ents, clock, h1, h2, h3, h4⟩ := h
  refine wpList_plain hg fun K' hK' => ?_
  have hrun := run_range_map (P := Try.prog) w 42 9 20 b ents clock Try.underlying42 h1
  unfold Oper.wp
  simp [execOp, hop, hm, hrun, Result.andThen]
  refine hK' _ _ (hK _ ⟨h0, fun s v q => q, ents, clock, clock, clock, #[], ?_, heap_alloc_new w _, h2, h3, Nat.le_refl _, Nat.le_refl _, h4, by rw [leftOf_none]; exact h2⟩)
  rw [heap_alloc_old w _ hl]
  exact h1
theorem filter_born {b : Nat} {s : ByteArray} : ∀ {L : List MapEntry} {rem : ES}, L.map kv = rem.map sv → (∀ e ∈ L, e.born = b ↔ e.key = .string s) → (L.filter fun e => !decide (e.born = b)).map kv = (adel rem s).map sv
  | [], [], _, _ => rfl
  | [], p :: rem, h, _ => by simp at h
  | e :: L, [], h, _ => by simp at h
  | e :: L, p :: rem, h, hi => by
    simp only [List.map_cons, List.cons.injEq] at h
    obtain ⟨h1, h2⟩ := h
    have hk : e.key = .string p.1 := congrArg Prod.fst h1
    have ih := filter_born h2 (fun e' he' => hi e' (List.mem_cons_of_mem _ he'))
    have h3 := hi e (by simp)
    rw [hk] at h3
    unfold adel at ih ⊢
    by_cases hp : p.1 = s
    · rw [List.filter_cons_of_neg (by simp [h3, hp]), List.filter_cons_of_neg (by simp [hp])]
      exact ih
    · have : ¬ e.born = b := fun q => by
        have := h3.1 q
        injection this with this
        exact hp this
      rw [List.filter_cons_of_pos (by simp [this]), List.filter_cons_of_pos (by simp [hp]), List.map_cons, List.map_cons, ih, h1]
theorem leftOf_push (ents : Array MapEntry) (seen : Array Nat) (b : Nat) : (leftOf ents (seen.push b)).toList = (leftOf ents seen).toList.filter fun e => !decide (e.born = b) := by
  unfold leftOf
  rw [Array.toList_filter, Array.toList_filter, List.filter_filter]
  congr 1
  funext e
  simp only [Array.contains_push, Bool.not_or]
  rw [Bool.and_comm]
  congr 1
theorem mem_sv {rem : ES} {e : MapEntry} {L : List MapEntry} (h : L.map kv = rem.map sv) (he : e ∈ L) : ∃ s, e.key = .string s ∧ (s, e.val) ∈ rem := by
  have : kv e ∈ rem.map sv := by
    rw [← h]
    exact List.mem_map_of_mem he
  obtain ⟨p, hp, h2⟩ := List.mem_map.1 this
  have hk : Value.string p.1 = e.key := congrArg Prod.fst h2
  have hv : p.2 = e.val := congrArg Prod.snd h2
  exact ⟨p.1, hk.symm, by rw [← hv]; exact hp⟩
theorem Rng.nd {w : World} {r b : Nat} {es rem : ES} (h : Rng w r b es rem) : Nd rem := by
  obtain ⟨h0, _, ents, clock, since, c0, seen, h1, h2, h3, h4, h5, h6, h7, h8⟩ := h
  have hs : (leftOf ents seen).toList.Sublist ents.toList := by
    unfold leftOf
    rw [Array.toList_filter]
    exact List.filter_sublist
  have e1 : ∀ {l : List MapEntry} {m : ES}, l.map kv = m.map sv → l.map (·.key) = (m.map Prod.fst).map Value.string := by
    intro l m h
    have := congrArg (List.map Prod.fst) h
    simpa [kv, sv, Function.comp_def] using this
  have n1 : (ents.toList.map (·.key)).Nodup := by
    rw [e1 h3]
    exact nodup_string h0
  have n2 : ((leftOf ents seen).toList.map (·.key)).Nodup := n1.sublist (hs.map _)
  rw [e1 h8] at n2
  exact (List.pairwise_map.1 n2).imp fun hne q => hne (congrArg _ q)
theorem wpList_nxt (w : World) {ops : Array Oper} {rest : List Oper} {o : Oper} {a : Act} {Q : Exit → Act → World → Prop} (hg : o.guard = none) (it : Operand) (hop : o.op = Op.next it false) (r b : Nat) (es rem : ES)
    (hit : a.eval it = .pointer (some ⟨r, 0, none⟩)) (h : Rng w r b es rem)
    (hDone : rem = [] → wpList Try.prog ops Q rest (a.put o.dst (.tuple #[.bool false])) w)
    (hMore : ∀ (s : ByteArray) (v : Value) (w' : World), aget rem s = some v → aget es s = some v → Rng w' r b es (adel rem s) → (adel rem s).length < rem.length → Touch (· = r) w w' → w'.heap.size = w.heap.size →
      (Instr.entry (.pointer (some ⟨r, 0, none⟩))).run Try.prog w' = .ok (.tuple #[.string s, v]) w' → wpList Try.prog ops Q rest (a.put o.dst (.tuple #[.bool true, .string s, v])) w') :
    wpList Try.prog ops Q (o :: rest) a w := by
  have hnd := h.nd
  obtain ⟨h0, h00, ents, clock, since, c0, seen, h1, h2, h3, h4, h5, h6, h7, h8⟩ := h
  refine wpList_plain hg fun K' hK' => ?_
  unfold Oper.wp
  have hsub : ∀ e, e ∈ (leftOf ents seen).toList → e ∈ ents.toList := by
    unfold leftOf
    intro e he
    rw [Array.toList_filter] at he
    exact (List.mem_filter.1 he).1
  rcases run_next_at (P := Try.prog) w o.type r b since c0 seen ents clock h2 h1 h4 h5 with ⟨hz, hrun⟩ | ⟨e, he, w1, hw1, hrun⟩
  · simp [execOp, hop, hit, hrun, Result.andThen]
    refine hK' _ _ (hDone ?_)
    have := congrArg List.length h8
    simp only [List.length_map, Array.length_toList, hz] at this
    exact List.eq_nil_of_length_eq_zero this.symm
  · obtain ⟨s, hk, hm⟩ := mem_sv h8 he
    have hget := aget_of_mem hnd hm
    have h1' : w1.heap[b]? = some (.map ents clock) := by rcases hw1 with rfl | rfl <;> exact h1
    have h2' : w1.heap[r]? = some (.mapIter (some b) since seen c0) := by rcases hw1 with rfl | rfl <;> exact h2
    have hne : b ≠ r := by
      rintro rfl
      rw [h1] at h2
      cases h2
    have hrl : r < w1.heap.size := (Array.getElem?_eq_some_iff.1 h2').1
    have hsz : w1.heap.size = w.heap.size := by rcases hw1 with rfl | rfl <;> rfl
    have b1 : (Go.ChangeMaps.setBlock w1 r (.mapIter (some b) since (seen.push e.born) clock)).heap[b]? = some (.map ents clock) := by
      show (w1.heap.setIfInBounds r _)[b]? = _
      rw [Array.getElem?_setIfInBounds_ne (fun q => hne q.symm)]
      exact h1'
    have b2 : (Go.ChangeMaps.setBlock w1 r (.mapIter (some b) since (seen.push e.born) clock)).heap[r]? = some (.mapIter (some b) since (seen.push e.born) clock) := by
      show (w1.heap.setIfInBounds r _)[r]? = _
      rw [Array.getElem?_setIfInBounds, if_pos rfl, if_pos hrl]
    have hen := run_entry_at (P := Try.prog) (Go.ChangeMaps.setBlock w1 r (.mapIter (some b) since (seen.push e.born) clock)) r b since seen ents clock e b2 b1 (hsub e he) h7
    have e1 : ents.toList.map (·.key) = (es.map Prod.fst).map Value.string := by
      have := congrArg (List.map Prod.fst) h3
      simpa [kv, sv, Function.comp_def] using this
    have n1 : (ents.toList.map (·.key)).Nodup := by
      rw [e1]
      exact nodup_string h0
    have hiff : ∀ e' ∈ (leftOf ents seen).toList, e'.born = e.born ↔ e'.key = .string s := by
      intro e' he'
      constructor
      · intro q
        rw [inj_of_nodup_map h7 (hsub e' he') (hsub e he) q, hk]
      · intro q
        rw [inj_of_nodup_map n1 (hsub e' he') (hsub e he) (q.trans hk.symm)]
    simp [execOp, hop, hit, hrun, Result.andThen]
    rw [hk] at hen ⊢
    refine hK' _ _ (hMore s e.val _ hget (h00 s _ hget) ⟨h0, fun s' v' q => ?_, ents, clock, since, clock, seen.push e.born, b1, b2, h3, h4, h6, h6, h7, ?_⟩ (adel_lt (by rw [hget]; rfl)) ?_ ?_ hen)
    · rw [aget_adel] at q
      split at q
      · cases q
      · exact h00 _ _ q
    · rw [leftOf_push]
      exact filter_born h8 hiff
    · refine ⟨by rcases hw1 with rfl | rfl <;> rfl, by rcases hw1 with rfl | rfl <;> rfl, by rcases hw1 with rfl | rfl <;> rfl, ?_, fun k hk hn => ?_⟩
      · show w.heap.size ≤ (w1.heap.setIfInBounds r _).size
        rw [Array.size_setIfInBounds, hsz]
        exact Nat.le_refl _
      · show (w1.heap.setIfInBounds r _)[k]? = _
        rw [Array.getElem?_setIfInBounds_ne (fun q => hn q.symm)]
        rcases hw1 with rfl | rfl <;> rfl
    · show (w1.heap.setIfInBounds r _).size = _
      rw [Array.size_setIfInBounds, hsz]
end Go.Proofs.Ytdjebcejpachmaa
