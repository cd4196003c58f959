/-
  Contracts of strings.Builder's methods (WriteString, WriteByte, Len, String) over a builder of the call's own, the head of whose buffer may be frozen (String() has read it); precise on which blocks turn.
  The walks follow the shelf's own (Derived/Shelf/Strings/Builder1, BuilderF).
-/
import Derived.Test.YtghcggagpagfoaaGreatDoorTouch
import Derived.Test.YtghcggagpagfoaaGreatDoorRows
import Derived.Lib.FrozenHead
import Derived.Lib.Builder
import Derived.Lib.AppendStr
import Derived.Lib.UnsafeStr
import Derived.Lib.Walk
import Derived.Laws.Externs
import Derived.WalkKit
import Derived.IntWalk
import Derived.ProofKit
import Derived.WalkSpells
import Derived.WalkLawsBesides
import Derived.RegionTactic
import Derived.Outline
namespace Go.Proofs.YtghcggagpagfoaaGreatDoor
set_option linter.unusedVariables false
open Go.ChangeShapes Go.WideShapes Go.ChangeAt Go.RowKit M
section
variable {P : Program} (w : World)
theorem run_append_roomF (t ty e : TypeId) (i : TypeInfo) (ht : P.underlying t = some (.slice e)) (hi : P.info? e = some i) (hs1 : i.size = 1)
    (g sLen sCap : Nat) (cur : Array Value) (fz : Nat × Nat) (hg : w.heap[g]? = some (.cells cur e fz)) (hfz : fz.2 ≤ sLen)
    (a : Addr) (m c : Nat) (news : List Value) (hl : news.length = m) (hnews : ∀ j u, news[j]? = some u → w.cell? (a.add j) = some u) (h1 : ∀ u ∈ news, u.oneCell' = true)
    (hroom : sLen + m ≤ sCap) (hfit : sLen + m ≤ cur.size) :
    (Builtin.append_ #[t, t] ty #[.slice (some ⟨g, 0, none⟩) sLen sCap, .slice (some a) m c]).run P w =
      .ok (.slice (some ⟨g, 0, none⟩) (sLen + m) sCap) (w.setRow g (cur.toList.take sLen ++ news ++ cur.toList.drop (sLen + m)).toArray) := by
  have hf := run_firstCells_some (P := P) w 1 m a m c news (by simpa using hl) hnews
  have hst := run_storeCells_atF P g sLen e fz news 0 cur w hg (by simpa using hfz) (by simpa [hl] using hfit) h1
  simp only [Nat.add_zero, hl] at hst
  simp [Builtin.append_, run_underlying ht, sizeOf, typeInfo, hi, hs1, Builtin.lenOf, hroom, hf, Addr.add_lit, hst]
theorem run_append_ownF (base : Nat) (t ty e : TypeId) (i : TypeInfo) (z : Value) (ht : P.underlying t = some (.slice e)) (hi : P.info? e = some i) (hz : i.zero = some z)
    (hsize : i.size = 1) (hby : i.bytes = 1) (hzs : z.cells.size = 1)
    (v : Value) (n : Nat) (xs : List Value) (hown : w.ownsRowF base e 1 v n xs)
    (a : Addr) (m c : Nat) (news : List Value) (hl : news.length = m) (hm0 : 0 < m) (hnews : ∀ j u, news[j]? = some u → w.cell? (a.add j) = some u) (h1 : ∀ u ∈ news, u.oneCell' = true)
    (hbytes : n + m ≤ 140737488355328) (hbase : base ≤ w.heap.size) :
    ∃ v' w', (Builtin.append_ #[t, t] ty #[v, .slice (some a) m c]).run P w = .ok v' w' ∧ w'.ownsRowF base e 1 v' (n + m) (xs ++ news) ∧ w.grownBy w' v.ownBlock ∧ (v'.ownBlock = v.ownBlock ∨ ∃ g, v'.ownBlock = some g ∧ w.heap.size ≤ g) := by
  have h63 : n + m ≤ maxLen := by unfold maxLen; omega
  have hsmall : n + m ≤ 9223372036854775807 := by simp only [maxLen] at h63; omega
  have hxl : xs.length = n := by simpa using hown.1
  have hlen : (xs ++ news).length = (n + m) * 1 := by rw [List.length_append, hxl, hl, Nat.mul_one]
  have grown : ∀ (old : Nat) (row : Option Nat),
      (w.drew.alloc (.cells (xs.toArray ++ news.toArray ++ Builtin.zeroCells z.cells (grownCap w (n + m) old e - (n + m))) e)).ownsRowF base e 1
        (.slice (some ⟨w.heap.size, 0, none⟩) (n + m) (grownCap w (n + m) old e)) (n + m) (xs ++ news) ∧
      w.grownBy (w.drew.alloc (.cells (xs.toArray ++ news.toArray ++ Builtin.zeroCells z.cells (grownCap w (n + m) old e - (n + m))) e)) row := by
    intro old row
    have hge := grownCap_ge w (n + m) old e
    have hcm : grownCap w (n + m) old e ≤ maxLen := grownCap_le_maxLen w (n + m) old e h63
    refine ⟨⟨hlen, .inr ⟨w.heap.size, _, _, (0, 0), rfl, hbase, heap_alloc_new w.drew _, Nat.zero_le _, hge, hcm, ?_, ?_⟩⟩, ⟨rfl, rfl, rfl, by simp, fun k hk _ => Lib.alloc_old w.drew _ k hk⟩⟩
    · simp only [Array.size_append, List.size_toArray, size_zeroCells, hzs, hxl, hl]
      omega
    · simp only [Array.toList_append, List.append_assoc]
      rw [← List.append_assoc, ← hlen]
      exact List.take_left
  rcases hown.2 with ⟨rfl, rfl⟩ | ⟨g, cap, cur, fz, rfl, hbg, hg, hfz, hnc, hcm, hcs, htake⟩
  · have hx : xs = [] := List.eq_nil_of_length_eq_zero (by simpa using hown.1)
    subst hx
    have hr := run_append_nil (P := P) w t ty e i z ht hi hz a m c news (by rw [hsize]; simpa using hl) hnews (by omega) (by omega) (by rw [hby]; omega)
    have hgr := grown 0 (Value.ownBlock (.slice none 0 0))
    simp only [Nat.zero_add, List.nil_append, Array.empty_append] at hgr ⊢
    exact ⟨_, _, hr, hgr.1, hgr.2, .inr ⟨_, rfl, Nat.le_refl _⟩⟩
  · by_cases hroom : n + m ≤ cap
    · have hcs' : cur.size = cap := by simpa using hcs
      have hr := run_append_roomF (P := P) w t ty e i ht hi hsize g n cap cur fz hg (by simpa using hfz) a m c news hl hnews h1 hroom (by omega)
      refine ⟨_, _, hr, ⟨hlen, .inr ⟨g, cap, _, fz, rfl, hbg, setRow_heap w g cur _ e _ hg, by omega, hroom, hcm, ?_, ?_⟩⟩, ⟨rfl, rfl, rfl, by simp, fun k _ hk => setRow_other w g k _ (fun e => hk (by simp [Value.ownBlock, e]))⟩, .inl rfl⟩
      · simp only [List.size_toArray, List.length_append, List.length_take, List.length_drop, Array.length_toList]
        omega
      · have ht' : cur.toList.take n = xs := by simpa using htake
        rw [ht', ← hlen]
        exact List.take_left
    · have holds : ∀ j u, xs[j]? = some u → w.cell? ((⟨g, 0, none⟩ : Addr).add j) = some u := hown.cells (g := g) rfl
      have hr := run_append_grow (P := P) w t ty e i z ht hi hz ⟨g, 0, none⟩ n cap xs (by rw [hsize]; simpa using hown.1) holds a m c news (by rw [hsize]; simpa using hl) hnews (by omega) (by omega) (growslice_fits (by omega) (by rw [hby]; omega))
      have hgr := grown cap (Value.ownBlock (.slice (some ⟨g, 0, none⟩) n cap))
      exact ⟨_, _, hr, hgr.1, hgr.2, .inr ⟨_, rfl, Nat.le_refl _⟩⟩
theorem wpList_append_ownF {ops : Array Oper} {rest : List Oper} {o : Oper} {a : Act} {Q : Exit → Act → World → Prop} (hgd : o.guard = none) (s x : Operand) (t : TypeId)
    (ho : o.op = .call { callee := .builtin .append, args := #[s, x], argTypes := #[t, t] })
    (base : Nat) (e : TypeId) (i : TypeInfo) (z : Value) (ht : P.underlying t = some (.slice e)) (hi : P.info? e = some i) (hz : i.zero = some z)
    (hsize : i.size = 1) (hby : i.bytes = 1) (hzs : z.cells.size = 1)
    (v : Value) (n : Nat) (xs : List Value) (hs : a.eval s = v) (hown : w.ownsRowF base e 1 v n xs)
    (ad : Addr) (m c : Nat) (news : List Value) (hx : a.eval x = .slice (some ad) m c) (hl : news.length = m) (hm0 : 0 < m) (hnews : ∀ j u, news[j]? = some u → w.cell? (ad.add j) = some u) (h1 : ∀ u ∈ news, u.oneCell' = true)
    (hbytes : n + m ≤ 140737488355328) (hbase : base ≤ w.heap.size)
    (h : ∀ v' w', w'.ownsRowF base e 1 v' (n + m) (xs ++ news) → w.grownBy w' v.ownBlock → (v'.ownBlock = v.ownBlock ∨ ∃ g, v'.ownBlock = some g ∧ w.heap.size ≤ g) → wpList P ops Q rest (a.put o.dst v') w') : wpList P ops Q (o :: rest) a w := by
  refine wpList_plain hgd fun K hK => ?_
  obtain ⟨v', w', hr, h2, h3, h4⟩ := run_append_ownF (P := P) w base t o.type e i z ht hi hz hsize hby hzs v n xs hown ad m c news hl hm0 hnews h1 hbytes hbase
  unfold Oper.wp execOp
  simp only [ho, resolve, invoke, builtin, Sem.run_bind, Sem.run_pure, Result.andThen_ok, List.map_toArray, List.map_cons, List.map_nil, hs, hx, hr]
  exact hK _ _ (h v' w' h2 h3 h4)
/-- 'append(v, s...)': the new row is the old one or a new block. -/
theorem run_append_strF (base : Nat) (t u ty e : TypeId) (i : TypeInfo) (ht : P.underlying t = some (.slice e)) (hu : P.underlying u = some .string) (hi : P.info? e = some i) (hz : i.zero = some (.int .u8 0))
    (hsize : i.size = 1) (hby : i.bytes = 1)
    (v : Value) (n : Nat) (xs : List Value) (hown : w.ownsRowF base e 1 v n xs) (s : ByteArray)
    (hbytes : n + s.size ≤ 140737488355328) (hbase : base ≤ w.heap.size) :
    ∃ v' w', (Builtin.append_ #[t, u] ty #[v, .string s]).run P w = .ok v' w' ∧ w'.ownsRowF base e 1 v' (n + s.size) (xs ++ Lib.strCells s) ∧ w.grownBy w' v.ownBlock ∧ (v'.ownBlock = v.ownBlock ∨ ∃ g, v'.ownBlock = some g ∧ w.heap.size ≤ g) ∧ (v = .slice none 0 0 → s.size = 0 → v' = .slice none 0 0) := by
  have h63 : n + s.size ≤ maxLen := by unfold maxLen; omega
  have hsmall : n + s.size ≤ 9223372036854775807 := by simp only [maxLen] at h63; omega
  rcases hown.2 with ⟨rfl, rfl⟩ | ⟨g, cap, cur, fz, rfl, hbg, hg, hfz, hnc, hcm, hcs, htake⟩
  · have h0 : w.ownsRow w.heap.size e 1 (.slice none 0 0) 0 xs := ⟨hown.1, .inl ⟨rfl, rfl⟩⟩
    obtain ⟨v', w', h1, h2, h3, h4⟩ := Lib.run_append_own_string (P := P) w w.heap.size t u ty e i ht hu hi hz hsize hby (.slice none 0 0) 0 xs h0 s h63 hbytes (Nat.le_refl _)
    refine ⟨v', w', h1, World.ownsRowF_of (own_base h2 hbase), h3, ?_, fun _ hs0 => h4.2 ⟨rfl, hs0⟩⟩
    rcases h2.2 with ⟨hv, hz⟩ | ⟨g, cap, cur, hv, hbg, hg, _⟩
    · left
      rw [hv]
    · right
      exact ⟨g, by rw [hv]; rfl, hbg⟩
  · have hxl : xs.length = n := by simpa using hown.1
    have hlen : (xs ++ Lib.strCells s).length = (n + s.size) * 1 := by rw [List.length_append, hxl, Lib.strCells_length, Nat.mul_one]
    by_cases hroom : n + s.size ≤ cap
    · have hcs' : cur.size = cap := by simpa using hcs
      have hr := Lib.run_append_room_stringF (P := P) w t u ty e i ht hu hi hsize g n cap cur fz hg (by simpa using hfz) s hroom (by omega)
      refine ⟨_, _, hr, ⟨hlen, .inr ⟨g, cap, _, fz, rfl, hbg, setRow_heap w g cur _ e _ hg, by omega, hroom, hcm, ?_, ?_⟩⟩, ⟨rfl, rfl, rfl, by simp, fun k _ hk => setRow_other w g k _ (fun e => hk (by simp [Value.ownBlock, e]))⟩, .inl rfl, fun h => by cases h⟩
      · simp only [List.size_toArray, List.length_append, List.length_take, List.length_drop, Array.length_toList, Lib.strCells_length]
        omega
      · have ht' : cur.toList.take n = xs := by simpa using htake
        rw [ht', ← hlen]
        exact List.take_left
    · have holds : ∀ j u, xs[j]? = some u → w.cell? ((⟨g, 0, none⟩ : Addr).add j) = some u := hown.cells (g := g) rfl
      have hr := Lib.run_append_grow_string (P := P) w t u ty e i (.int .u8 0) ht hu hi hz ⟨g, 0, none⟩ n cap xs (by rw [hsize]; simpa using hxl) holds s (by omega) (by omega) (by rw [hby]; exact growslice_fits (by omega) (by omega))
      have hge := grownCap_ge w (n + s.size) cap e
      have hcm2 : grownCap w (n + s.size) cap e ≤ maxLen := grownCap_le_maxLen w (n + s.size) cap e h63
      refine ⟨_, _, hr, ⟨hlen, .inr ⟨w.heap.size, _, _, (0, 0), rfl, hbase, heap_alloc_new w.drew _, Nat.zero_le _, hge, hcm2, ?_, ?_⟩⟩, ⟨rfl, rfl, rfl, by simp, fun k hk _ => Lib.alloc_old w.drew _ k hk⟩, .inr ⟨_, rfl, Nat.le_refl _⟩, fun h => by cases h⟩
      · have hz1 : (Value.int IntKind.u8 0).cells.size = 1 := rfl
        simp only [Array.size_append, List.size_toArray, size_zeroCells, hz1, hxl, Lib.strCells_length]
        omega
      · simp only [Array.toList_append, List.append_assoc]
        rw [← List.append_assoc, ← hlen]
        exact List.take_left
theorem wpList_append_strF {ops : Array Oper} {rest : List Oper} {o : Oper} {a : Act} {Q : Exit → Act → World → Prop} (hgd : o.guard = none) (sl x : Operand) (t u : TypeId)
    (ho : o.op = .call { callee := .builtin .append, args := #[sl, x], argTypes := #[t, u] })
    (base : Nat) (e : TypeId) (i : TypeInfo) (ht : P.underlying t = some (.slice e)) (hu : P.underlying u = some .string) (hi : P.info? e = some i) (hz : i.zero = some (.int .u8 0))
    (hsize : i.size = 1) (hby : i.bytes = 1)
    (v : Value) (n : Nat) (xs : List Value) (hs : a.eval sl = v) (hown : w.ownsRowF base e 1 v n xs) (s : ByteArray) (hx : a.eval x = .string s)
    (hbytes : n + s.size ≤ 140737488355328) (hbase : base ≤ w.heap.size)
    (h : ∀ v' w', w'.ownsRowF base e 1 v' (n + s.size) (xs ++ Lib.strCells s) → w.grownBy w' v.ownBlock → (v'.ownBlock = v.ownBlock ∨ ∃ g, v'.ownBlock = some g ∧ w.heap.size ≤ g) → (v = .slice none 0 0 → s.size = 0 → v' = .slice none 0 0) → wpList P ops Q rest (a.put o.dst v') w') : wpList P ops Q (o :: rest) a w := by
  refine wpList_plain hgd fun K hK => ?_
  obtain ⟨v', w', hr, h2, h3, h4, h5⟩ := run_append_strF (P := P) w base t u o.type e i ht hu hi hz hsize hby v n xs hown s hbytes hbase
  unfold Oper.wp execOp
  simp only [ho, resolve, invoke, builtin, Sem.run_bind, Sem.run_pure, Result.andThen_ok, List.map_toArray, List.map_cons, List.map_nil, hs, hx, hr]
  exact hK _ _ (h v' w' h2 h3 h4 h5)
end
abbrev tBld : TypeId := 53
abbrev tByte : TypeId := 5
theorem bytes_app (l : List UInt8) (s : ByteArray) : Lib.byteCells l ++ Lib.strCells s = Lib.byteCells (l ++ s.data.toList) := by
  simp [Lib.byteCells, Lib.strCells]
/-- A strings.Builder at block b, of the call's own from B on, holding the bytes l; its buffer lies in block d, if it has one. -/
def Bld (w : World) (B b : Nat) (d : Option Nat) (l : List UInt8) : Prop :=
  B ≤ b ∧ ∃ p v, (p = .pointer none ∨ p = .pointer (some ⟨b, 0, none⟩)) ∧ Row w b tBld #[p, v] ∧ w.ownsRowF B tByte 1 v l.length (Lib.byteCells l) ∧ v.ownBlock = d ∧ (l = [] → v = .slice none 0 0)
theorem Bld.lt {w : World} {B b : Nat} {d : Option Nat} {l : List UInt8} (h : Bld w B b d l) : B ≤ b ∧ b < w.heap.size ∧ ∀ g, d = some g → B ≤ g ∧ g < w.heap.size := by
  obtain ⟨hB, p, v, _, hr, ho, rfl, _⟩ := h
  exact ⟨hB, hr.lt, ho.lt⟩
theorem Bld.ne {w : World} {B b : Nat} {d : Option Nat} {l : List UInt8} (h : Bld w B b d l) {g : Nat} {t : TypeId} {cs : Array Value} (hr : Row w g t cs) (h1 : tBld ≠ t) (h2 : tByte ≠ t) : ¬ (g = b ∨ d = some g) := by
  obtain ⟨hB, p, v, _, hb, ho, rfl, _⟩ := h
  rintro (rfl | he)
  · exact Row.ne_ hb hr h1 rfl
  · exact ownF_ne ho hr h2 he
theorem Bld.dne {w : World} {B b : Nat} {d : Option Nat} {l : List UInt8} (h : Bld w B b d l) : d ≠ some b := by
  obtain ⟨hB, p, v, _, hb, ho, rfl, _⟩ := h
  exact ownF_ne ho hb (by decide)
theorem Bld.touch {S : Nat → Prop} {w w' : World} {B b : Nat} {d : Option Nat} {l : List UInt8} (h : Bld w B b d l) (ht : Touch S w w') (hb : ¬ S b) (hd : ∀ g, d = some g → ¬ S g) : Bld w' B b d l := by
  obtain ⟨hB, p, v, hp, hr, ho, rfl, h0⟩ := h
  exact ⟨hB, p, v, hp, hr.touch ht hb, ownF_touch ho ht hd, rfl, h0⟩
theorem Bld.below {w w' : World} {B b : Nat} {d : Option Nat} {l : List UInt8} (h : Bld w B b d l) (hb : Below w.heap.size w w') : Bld w' B b d l :=
  h.touch (Touch.of_below hb (fun _ => False)) (fun h => h) (fun _ _ h => h)
/-- A builder just laid. -/
theorem Bld.fresh (w : World) {B : Nat} (hB : B ≤ w.heap.size) : Bld (w.alloc (.cells #[.pointer none, .slice none 0 0] tBld)) B w.heap.size none [] :=
  ⟨hB, _, _, .inl rfl, Row.made _ _ _, World.ownsRowF_nil _ _ _ _, rfl, fun _ => rfl⟩
/-- What a writing method leaves: the builder holds l now; nothing turned but its own block and its buffer's. -/
def BOut (w : World) (B b : Nat) (d : Option Nat) (l : List UInt8) (w' : World) : Prop :=
  ∃ d', Bld w' B b d' l ∧ (d' = d ∨ ∃ g, d' = some g ∧ w.heap.size ≤ g) ∧ Touch (fun k => k = b ∨ d = some k) w w'
theorem BOut.refl {w : World} {B b : Nat} {d : Option Nat} {l : List UInt8} (h : Bld w B b d l) : BOut w B b d l w := ⟨d, h, .inl rfl, Touch.refl _ _⟩
theorem BOut.size {w w' : World} {B b : Nat} {d : Option Nat} {l : List UInt8} (h : BOut w B b d l w') : w.heap.size ≤ w'.heap.size := by
  obtain ⟨_, _, _, ht⟩ := h
  exact ht.size
theorem BOut.then {w w1 w2 : World} {B b : Nat} {d d1 : Option Nat} {l : List UInt8} (hd : d1 = d ∨ ∃ g, d1 = some g ∧ w.heap.size ≤ g) (ht : Touch (fun k => k = b ∨ d = some k) w w1) (h : BOut w1 B b d1 l w2) : BOut w B b d l w2 := by
  obtain ⟨d2, hb, hd2, ht2⟩ := h
  refine ⟨d2, hb, ?_, ht.trans' ht2 ?_⟩
  · rcases hd2 with rfl | ⟨g, rfl, hg⟩
    · exact hd
    · exact .inr ⟨g, rfl, Nat.le_trans ht.size hg⟩
  · rintro i hi (h | h)
    · exact .inl h
    · rcases hd with rfl | ⟨g, rfl, hg⟩
      · exact .inr h
      · injection h with h
        omega
theorem BOut.row {w w' : World} {B b : Nat} {d : Option Nat} {l l0 : List UInt8} (h : BOut w B b d l w') (h0 : Bld w B b d l0) {g : Nat} {t : TypeId} {cs : Array Value} (hr : Row w g t cs) (h1 : tBld ≠ t) (h2 : tByte ≠ t) : Row w' g t cs := by
  obtain ⟨_, _, _, ht⟩ := h
  exact hr.touch ht (h0.ne hr h1 h2)
theorem BOut.below {w w' : World} {B b : Nat} {d : Option Nat} {l l0 : List UInt8} (h : BOut w B b d l w') (h0 : Bld w B b d l0) {B' : Nat} (hB : B' ≤ B) : Below B' w w' := by
  obtain ⟨_, _, _, ht⟩ := h
  obtain ⟨h1, h2, h3⟩ := h0.lt
  refine ht.below (by omega) ?_
  rintro k hk (rfl | h)
  · omega
  · have := (h3 k h).1
    omega
theorem BOut.drewN {w w' : World} {B b : Nat} {d : Option Nat} {l : List UInt8} (h : BOut w B b d l w') (n : Nat) : BOut w B b d l (w'.drewN n) := by
  obtain ⟨d', h1, h2, ht⟩ := h
  exact ⟨d', h1.touch ((Touch.refl (fun _ => False) w').drewN n) (fun h => h) (fun _ _ h => h), h2, ht.drewN n⟩
theorem infoByte : (Tryz.prog.info? 5).map (fun i => (i.zero, i.size, i.bytes)) = some (some (.int .u8 0), 1, 1) := by kernel_rfl
theorem sizeBuilder : (Tryz.prog.info? 53).map (·.size) = some 2 := by kernel_rfl
theorem liesBuilder : liesAt Tryz.prog Tryz.prog.depth 53 (2 / Tryz.prog.cellsOf 53) 0 53 1 = true := by kernel_rfl
set_option maxHeartbeats 1000000 in
set_option maxRecDepth 100000 in
theorem copyCheck_used (b : Nat) (w : World) (h0 : w.cell? ⟨b, 0, none⟩ = some (.pointer (some ⟨b, 0, none⟩))) :
    Calls Tryz.prog 65 #[.pointer (some ⟨b, 0, none⟩)] w fun e w' => e = .returned (.tuple #[]) ∧ w' = w := by
  obtain ⟨j, hj, _⟩ := Option.map_eq_some_iff.1 sizeBuilder
  go_enter Tryz.func65, Tryz.ntmps65
  go_wp2
  rw [Lib.run_neq_ptr_same w _ Tryz.underlying51 hj]
  go_wp2
  go_end0
  exact ⟨rfl, rfl⟩
set_option maxHeartbeats 1000000 in
set_option maxRecDepth 100000 in
theorem copyCheck_fresh (b : Nat) (w : World) (h0 : w.cell? ⟨b, 0, none⟩ = some (.pointer none)) (hsh : w.shape? b = some (53, 2)) (hfz : w.frozen? ⟨b, 0, none⟩ = false) :
    Calls Tryz.prog 65 #[.pointer (some ⟨b, 0, none⟩)] w fun e w' => e = .returned (.tuple #[]) ∧ w' = w.setCell ⟨b, 0, none⟩ (.pointer (some ⟨b, 0, none⟩)) := by
  obtain ⟨j, hj, hjs⟩ := Option.map_eq_some_iff.1 sizeBuilder
  go_enter Tryz.func65, Tryz.ntmps65
  go_wp2
  rw [Lib.run_to_unsafe w ⟨b, 0, none⟩ Tryz.underlying51 Tryz.underlying164 hj (by rw [hjs]; decide) hsh (Nat.zero_lt_succ 1)]
  simp only [Result.andThen]
  rw [Oper.upon_value]
  go_wp2
  rw [run_callFunc_extern Tryz.func77 (by kernel_rfl) (by kernel_rfl) (by kernel_rfl) (e := Extern.AbiNoEscape.same) (by kernel_rfl)]
  rw [Lib.run_noEscape]
  simp only [Result.andThen]
  rw [Oper.upon_value]
  go_wp2
  rw [Lib.run_from_unsafe w ⟨b, 0, none⟩ Tryz.underlying164 Tryz.underlying51 hj hsh liesBuilder]
  simp only [Result.andThen]
  rw [Oper.upon_value]
  go_wp2
  go_end0
  exact ⟨rfl, rfl⟩
/-- Behind copyCheck the builder bears its own address. -/
def Used (w : World) (B b : Nat) (d : Option Nat) (l : List UInt8) (w' : World) : Prop :=
  B ≤ b ∧ (∃ v, Row w' b tBld #[.pointer (some ⟨b, 0, none⟩), v] ∧ w'.ownsRowF B tByte 1 v l.length (Lib.byteCells l) ∧ v.ownBlock = d ∧ (l = [] → v = .slice none 0 0)) ∧ Touch (fun k => k = b) w w'
theorem copyCheck (w : World) (B b : Nat) (d : Option Nat) (l : List UInt8) (h : Bld w B b d l) :
    Calls Tryz.prog 65 #[.pointer (some ⟨b, 0, none⟩)] w fun e w' => e = .returned (.tuple #[]) ∧ Used w B b d l w' := by
  have hdn := h.dne
  obtain ⟨hB, p, v, hp, hr, ho, rfl, h0⟩ := h
  rcases hp with rfl | rfl
  · refine (copyCheck_fresh b w (by rw [hr.cell]; rfl) (by unfold Row at hr; simp [World.shape?, hr]) (hr.free 0)).mono ?_
    rintro e w' ⟨rfl, rfl⟩
    have ht := (Touch.refl (fun k => k = b) w).setCell (p := ⟨b, 0, none⟩) (fun _ => rfl) (.pointer (some ⟨b, 0, none⟩))
    refine ⟨rfl, hB, ⟨v, ?_, ownF_touch ho ht (fun k hk hkb => hdn (by rw [hk, hkb])), rfl, h0⟩, ht⟩
    have := hr.put 0 (.pointer (some ⟨b, 0, none⟩))
    simpa using this
  · refine (copyCheck_used b w (by rw [hr.cell]; rfl)).mono ?_
    rintro e w' ⟨rfl, rfl⟩
    exact ⟨rfl, hB, ⟨v, hr, ho, rfl, h0⟩, Touch.refl _ _⟩
theorem ownF_form {w : World} {base : Nat} {e : TypeId} {size n : Nat} {v : Value} {xs : List Value} (h : w.ownsRowF base e size v n xs) : ∃ A c, v = .slice A n c := by
  rcases h.2 with ⟨rfl, rfl⟩ | ⟨g', cap, cur, fz, rfl, _⟩
  · exact ⟨_, _, rfl⟩
  · exact ⟨_, _, rfl⟩
/-- A new buffer laid into the builder. -/
theorem bout_put {w w1 w2 : World} {B b : Nat} {v v' : Value} {l l' : List UInt8} (hB : B ≤ b) (ht : Touch (fun k => k = b) w w1) (hr : Row w1 b tBld #[.pointer (some ⟨b, 0, none⟩), v]) (ho1 : w1.ownsRowF B tByte 1 v l.length (Lib.byteCells l))
    (hg : Touch (fun k => v.ownBlock = some k) w1 w2) (ho : w2.ownsRowF B tByte 1 v' l'.length (Lib.byteCells l')) (hn : v'.ownBlock = v.ownBlock ∨ ∃ g, v'.ownBlock = some g ∧ w.heap.size ≤ g) (h0 : l' = [] → v' = .slice none 0 0) :
    BOut w B b v.ownBlock l' (w2.setCell ⟨b, 1, none⟩ v') := by
  have hne := ownF_ne ho1 hr (by decide)
  have hr2 : Row w2 b tBld #[.pointer (some ⟨b, 0, none⟩), v] := hr.touch hg hne
  have hne2 := ownF_ne ho hr2 (by decide)
  have ht2 := (Touch.refl (fun k => k = b) w2).setCell (p := ⟨b, 1, none⟩) (fun _ => rfl) v'
  refine ⟨v'.ownBlock, ⟨hB, _, v', .inr rfl, by simpa using hr2.put 1 v', ownF_touch ho ht2 (fun k hk hkb => hne2 (by rw [hk, hkb])), rfl, h0⟩, hn, ?_⟩
  refine ((ht.mono (fun k _ h => .inl h)).trans' hg (fun k _ h => .inr h)).trans' ht2 (fun k _ h => .inl h)
set_option maxHeartbeats 2000000 in
set_option maxRecDepth 100000 in
theorem bstr (w : World) (B b : Nat) (d : Option Nat) (l : List UInt8) (s : ByteArray) (h : Bld w B b d l) (hlen : l.length + s.size ≤ 140737488355328) (hBw : B ≤ w.heap.size) :
    Calls Tryz.prog 40 #[.pointer (some ⟨b, 0, none⟩), .string s] w fun e w' => e = .returned (.tuple #[.int .i64 s.size, .nilIface]) ∧ BOut w B b d (l ++ s.data.toList) w' := by
  obtain ⟨i0, hi, hz0, hz1, hz2⟩ := info_parts infoByte
  have HLEN := Lib.hid hlen
  clear hlen
  go_enter Tryz.func40, Tryz.ntmps40
  go_wp2_with fail
  refine (copyCheck _ B b d l h).mono ?_
  rintro e w1 ⟨rfl, hB, ⟨v, hr, hown, rfl, h0⟩, ht⟩
  have c0 : w1.cell? ⟨b, 0, none⟩ = some (.pointer (some ⟨b, 0, none⟩)) := by rw [hr.cell]; rfl
  have c1 : w1.cell? ⟨b, 1, none⟩ = some v := by rw [hr.cell]; rfl
  have HR := Lib.hid hr
  have HT := Lib.hid ht
  have H0 := Lib.hid h0
  have hsz := ht.size
  clear hr ht h0
  go_wp2_with (at_builtin; refine wpList_append_strF _ rfl _ _ 22 9 rfl B tByte i0 Tryz.underlying22 Tryz.underlying9 hi hz0 hz1 hz2 _ _ _ rfl hown s rfl ?c4 ?c5 ?_)
  case c4 => exact HLEN.out
  case c5 => omega
  intro v' w2 hown' hgrow hblk hnil
  have HN := Lib.hid hnil
  clear hnil
  have htg : Touch (fun k => v.ownBlock = some k) w1 w2 := (Touch.refl _ w1).grown hgrow (fun k hk _ => hk)
  have hne := ownF_ne hown HR.out (by decide)
  have hr2 : Row w2 b tBld #[.pointer (some ⟨b, 0, none⟩), v] := HR.out.touch htg hne
  have d0 : w2.cell? ⟨b, 0, none⟩ = some (.pointer (some ⟨b, 0, none⟩)) := by rw [hr2.cell]; rfl
  have d1 : w2.cell? ⟨b, 1, none⟩ = some v := by rw [hr2.cell]; rfl
  have f1 : w2.frozen? ⟨b, 1, none⟩ = false := hr2.free 1
  obtain ⟨ao, cap, rfl⟩ := ownF_form hown'
  go_wp2
  go_ret2
  refine ⟨rfl, ?_⟩
  refine bout_put hB HT.out HR.out hown htg (by rw [bytes_app] at hown'; simpa using hown') ?_ ?_
  · rcases hblk with h | ⟨g, h, hg⟩
    · exact .inl h
    · exact .inr ⟨g, h, by omega⟩
  · intro hl
    have hs0 : s = ByteArray.empty := by
      have := congrArg List.length hl
      simp at this
      cases s
      simp_all [ByteArray.empty, ByteArray.emptyWithCapacity]
    have hl0 : l = [] := by
      have := congrArg List.length hl
      simp at this
      exact this.1
    exact HN.out (H0.out hl0) hs0
set_option maxHeartbeats 2000000 in
set_option maxRecDepth 100000 in
theorem bbyte (w : World) (B b : Nat) (d : Option Nat) (l : List UInt8) (c : UInt8) (n : Int) (hn : n = c.toNat) (h : Bld w B b d l) (hlen : l.length + 1 ≤ 140737488355328) (hBw : B ≤ w.heap.size) :
    Calls Tryz.prog 44 #[.pointer (some ⟨b, 0, none⟩), .int .u8 n] w fun e w' => e = .returned .nilIface ∧ BOut w B b d (l ++ [c]) w' := by
  obtain ⟨i0, hi, hz0, hz1, hz2⟩ := info_parts infoByte
  have HLEN := Lib.hid hlen
  have HN := Lib.hid hn
  clear hlen hn
  go_enter Tryz.func44, Tryz.ntmps44
  go_wp2_with fail
  refine (copyCheck _ B b d l h).mono ?_
  rintro e w1 ⟨rfl, hB, ⟨v, hr, hown, rfl, h0⟩, ht⟩
  have c0 : w1.cell? ⟨b, 0, none⟩ = some (.pointer (some ⟨b, 0, none⟩)) := by rw [hr.cell]; rfl
  have c1 : w1.cell? ⟨b, 1, none⟩ = some v := by rw [hr.cell]; rfl
  have HR := Lib.hid hr
  have HT := Lib.hid ht
  have H0 := Lib.hid h0
  have hsz := ht.size
  clear hr ht h0
  go_wp2_with (at_builtin; refine wpList_append_ownF _ rfl _ _ 22 rfl B tByte i0 (.int .u8 0) Tryz.underlying22 hi hz0 hz1 hz2 rfl _ _ _ rfl (ownF_touch hown ((Touch.refl (fun _ => False) w1).alloc _) (fun _ _ h => h)) ⟨w1.heap.size, 0, none⟩ 1 1 [.int .u8 n] rfl rfl (by decide) ?c1 ?c2 ?c4 ?c5 ?_)
  case c1 =>
    intro j u hj
    match j, hj with
    | 0, hj => simp at hj; subst hj; simp [Addr.add]
  case c2 => intro u hu; simp at hu; subst hu; rfl
  case c4 => exact HLEN.out
  case c5 => have := hB; simp; omega
  intro v' w2 hown' hgrow hblk
  have htg : Touch (fun k => v.ownBlock = some k) w1 w2 := ((Touch.refl _ w1).alloc _).grown hgrow (fun k hk _ => hk)
  have hne := ownF_ne hown HR.out (by decide)
  have hr2 : Row w2 b tBld #[.pointer (some ⟨b, 0, none⟩), v] := HR.out.touch htg hne
  have d0 : w2.cell? ⟨b, 0, none⟩ = some (.pointer (some ⟨b, 0, none⟩)) := by rw [hr2.cell]; rfl
  have d1 : w2.cell? ⟨b, 1, none⟩ = some v := by rw [hr2.cell]; rfl
  have f1 : w2.frozen? ⟨b, 1, none⟩ = false := hr2.free 1
  obtain ⟨ao, cap, rfl⟩ := ownF_form hown'
  go_wp2
  go_ret
  refine ⟨rfl, ?_⟩
  refine bout_put hB HT.out HR.out hown htg (by have := hown'; rw [show Lib.byteCells l ++ [.int .u8 n] = Lib.byteCells (l ++ [c]) by simp [Lib.byteCells, HN.out]] at this; simpa using this) ?_ (fun hl => by simp at hl)
  rcases hblk with h | ⟨g, h, hg⟩
  · exact .inl h
  · exact .inr ⟨g, h, by first | omega | (rw [World.size_alloc] at hg; omega)⟩
set_option maxHeartbeats 1000000 in
set_option maxRecDepth 100000 in
theorem blen (w : World) (B b : Nat) (d : Option Nat) (l : List UInt8) (h : Bld w B b d l) :
    Calls Tryz.prog 73 #[.pointer (some ⟨b, 0, none⟩)] w fun e w' => e = .returned (.int .i64 l.length) ∧ w = w' := by
  obtain ⟨hB, p, v, hp, hr, ho, hd, h0⟩ := h
  obtain ⟨ao, cap, rfl⟩ := ownF_form ho
  have c1 : w.cell? ⟨b, 1, none⟩ = some (.slice ao l.length cap) := by rw [hr.cell]; rfl
  clear hp hr ho hd h0
  go_enter Tryz.func73, Tryz.ntmps73
  go_wp2
  go_ret
  exact ⟨rfl, rfl⟩
/-- What String() leaves: the same builder; its buffer's head may be frozen now. -/
def SOut (w : World) (B b : Nat) (d : Option Nat) (l : List UInt8) (w' : World) : Prop := Bld w' B b d l ∧ Touch (fun k => d = some k) w w'
theorem SOut.out {w w' : World} {B b : Nat} {d : Option Nat} {l : List UInt8} (h : SOut w B b d l w') : BOut w B b d l w' := ⟨d, h.1, .inl rfl, h.2.mono (fun k _ h => .inr h)⟩
theorem touch_freeze {S : Nat → Prop} {a w : World} (h : Touch S a w) {p : Addr} (hp : S p.block) (n : Nat) : Touch S a (w.freeze p n) := by
  unfold World.freeze
  split
  · exact h
  · refine ⟨h.os, h.tape, h.output, by simpa using h.size, fun k hk hn => ?_⟩
    simp only [Array.getElem?_modify]
    rw [if_neg (fun e => hn (by rw [← e]; exact hp))]
    exact h.block k hk hn
theorem bld_froze {w : World} {B b g cap : Nat} {l : List UInt8} (h : Bld w B b (some g) l) (hc : w.cell? ⟨b, 1, none⟩ = some (.slice (some ⟨g, 0, none⟩) l.length cap)) : SOut w B b (some g) l (w.drew.freeze ⟨g, 0, none⟩ l.length) := by
  have hdn := h.dne
  obtain ⟨hB, p, v, hp, hr, ho, hd, h0⟩ := h
  have ht : Touch (fun k => some g = some k) w (w.drew.freeze ⟨g, 0, none⟩ l.length) := touch_freeze (Touch.refl (fun k => some g = some k) w).drew (p := ⟨g, 0, none⟩) rfl l.length
  have hv : v = .slice (some ⟨g, 0, none⟩) l.length cap := by
    rw [hr.cell] at hc
    simpa using hc
  subst hv
  refine ⟨⟨hB, p, _, hp, hr.touch ht hdn, ⟨ho.1, ?_⟩, rfl, h0⟩, ht⟩
  rcases ho.2 with ⟨hv, _⟩ | ⟨g', cap', cur, fz, hv, hbg, hg, hfz, rest⟩
  · cases hv
  · injection hv with ha _ hcap
    injection ha with ha
    injection ha with hgg _ _
    subst hgg
    subst hcap
    unfold World.freeze
    split
    · exact .inr ⟨g, _, cur, fz, rfl, hbg, hg, hfz, rest⟩
    · obtain ⟨lo, hi⟩ := fz
      have hg' : w.drew.heap[g]? = some (.cells cur tByte (lo, hi)) := hg
      refine .inr ⟨g, _, cur, (if lo == hi then (0, 0 + l.length) else (min lo 0, max hi (0 + l.length))), rfl, hbg, ?_, ?_, rest⟩
      · simp [Array.getElem?_modify, hg']
      · simp only at hfz
        split <;> simp <;> omega
set_option maxHeartbeats 2000000 in
set_option maxRecDepth 100000 in
theorem bstring_some (w : World) (B b : Nat) (d : Option Nat) (l : List UInt8) (h : Bld w B b d l) (h0 : l ≠ []) :
    Calls Tryz.prog 17 #[.pointer (some ⟨b, 0, none⟩)] w fun e w' => e = .returned (.string ⟨l.toArray⟩) ∧ SOut w B b d l w' := by
  have hl0 : l.length ≠ 0 := by simpa using h0
  have hB0 := Lib.hid h
  obtain ⟨hB, p, v, hp, hr, ho, hd, hn⟩ := h
  obtain ⟨g, cap, cur, fz, rfl, hbg, hg, hfz, hnc, hcm, hcs, htake⟩ : ∃ g cap cur fz, v = .slice (some ⟨g, 0, none⟩) l.length cap ∧ B ≤ g ∧ w.heap[g]? = some (.cells cur tByte fz) ∧ fz.2 ≤ l.length * 1 ∧ l.length ≤ cap ∧ cap ≤ maxLen ∧ cur.size = cap * 1 ∧ cur.toList.take (l.length * 1) = Lib.byteCells l := by
    rcases ho.2 with ⟨_, hz⟩ | ⟨g, cap, cur, fz, hv, r⟩
    · exact absurd hz hl0
    · exact ⟨g, cap, cur, fz, hv, r⟩
  obtain rfl : some g = d := hd
  have c1 : w.drew.cell? ⟨b, 1, none⟩ = some (.slice (some ⟨g, 0, none⟩) l.length cap) := by
    have := hr.cell 1
    exact this
  have hSD : (Builtin.unsafeSliceData_ #[22] 126 #[.slice (some ⟨g, 0, none⟩) l.length cap]).run Tryz.prog w.drew = .ok (.pointer (some ⟨g, 0, none⟩)) w.drew :=
    Lib.run_unsafeSliceData_row _ _ _ _ _ _ (by omega)
  have hUS : (Builtin.unsafeString_ #[126, 3] 9 #[.pointer (some ⟨g, 0, none⟩), .int .i64 l.length]).run Tryz.prog w.drew = .ok (.string ⟨l.toArray⟩) (w.drew.freeze ⟨g, 0, none⟩ l.length) := by
    refine Lib.run_unsafeString_row w.drew 126 3 9 tByte Tryz.underlying126 (by kernel_rfl) g cur.size (by have hg' : w.drew.heap[g]? = some (.cells cur tByte fz) := hg; simp [World.shape?, hg']) l h0 (by omega) (by unfold maxLen at hcm; omega) ?_
    intro j x hx
    have := ho.cells (g := g) rfl j (.int .u8 x.toNat) (by simp [Lib.byteCells, hx])
    exact this
  have hkeep := Lib.hid (bld_froze hB0.out c1)
  clear hr ho hg hfz hcs htake hp hn hl0 h0
  go_enter Tryz.func17, Tryz.ntmps17
  go_wp2
  go_region
  all_goals (go_wp2; go_ret; exact ⟨rfl, hkeep.out⟩)
set_option maxHeartbeats 2000000 in
set_option maxRecDepth 100000 in
theorem bstring_nil (w : World) (B b : Nat) (d : Option Nat) (h : Bld w B b d []) :
    Calls Tryz.prog 17 #[.pointer (some ⟨b, 0, none⟩)] w fun e w' => e = .returned (.string ⟨#[]⟩) ∧ SOut w B b d [] w' := by
  have hB0 := Lib.hid h
  obtain ⟨hB, p, v, hp, hr, ho, hd, hn⟩ := h
  obtain rfl := hn rfl
  have hUS := fun W => Lib.run_unsafeString_none (P := Tryz.prog) W 126 3 9 none
  have c1 : w.drew.cell? ⟨b, 1, none⟩ = some (.slice none 0 0) := by
    have := hr.cell 1
    exact this
  have hSD : (Builtin.unsafeSliceData_ #[22] 126 #[.slice none 0 0]).run Tryz.prog w.drew = .ok (.pointer none) w.drew := rfl
  have hkeep : Hid (SOut w B b d [] w.drew) := Lib.hid ⟨hB0.out.touch ((Touch.refl (fun _ => False) w).drew) (fun h => h) (fun _ _ h => h), (Touch.refl _ w).drew⟩
  clear hr ho hp hn
  go_enter Tryz.func17, Tryz.ntmps17
  go_wp2
  go_region
  all_goals (go_wp2; go_ret; exact ⟨rfl, hkeep.out⟩)
theorem bstring (w : World) (B b : Nat) (d : Option Nat) (l : List UInt8) (h : Bld w B b d l) :
    Calls Tryz.prog 17 #[.pointer (some ⟨b, 0, none⟩)] w fun e w' => e = .returned (.string ⟨l.toArray⟩) ∧ SOut w B b d l w' := by
  by_cases h0 : l = []
  · subst h0
    exact bstring_nil w B b d h
  · exact bstring_some w B b d l h h0
end Go.Proofs.YtghcggagpagfoaaGreatDoor
