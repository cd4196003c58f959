/-
  The contract of mergeModels (n001_79): words and plain laws.
-/
import Derived.Test.YtdjebcejpachmaaMod
import Derived.StillTailTactics
namespace Go.Proofs.Ytdjebcejpachmaa
set_option linter.unusedVariables false
set_option linter.unusedSimpArgs false
open Go.ChangeShapes Go.WideShapes Go.ChangeAt Go.RowKit M
/-- Append of any number of elements onto an empty slice that has just been made. -/
theorem wpList_appN {ops : Array Oper} {rest : List Oper} {o : Oper} {a : Act} {Q : Exit → Act → World → Prop} (w : World) (hgd : o.guard = none) (s x : Operand) (t : TypeId)
    (ho : o.op = .call { callee := .builtin .append, args := #[s, x], argTypes := #[t, t] }) (B : Nat) (e : TypeId) (z : Value) (bytes : Nat) (ht : Try.prog.underlying t = some (.slice e))
    (hi : (Try.prog.info? e).map (fun i => (i.zero, i.size, i.bytes)) = some (some z, 1, bytes)) (hzs : z.cells.size = 1) (hby : bytes ≤ 24) (k : Nat) (hk : Row w k e #[]) (hkB : B ≤ k) (hs : a.eval s = .slice (some ⟨k, 0, none⟩) 0 0)
    (g m c : Nat) (news : List Value) (hx : a.eval x = .slice (some ⟨g, 0, none⟩) m c) (hv : Vw w (some ⟨g, 0, none⟩) m news) (h1 : ∀ u ∈ news, u.oneCell' = true) (hm : m ≤ 1048576) (hB : B ≤ w.heap.size)
    (h : ∀ g' cap w', w'.ownsRow B e 1 (.slice (some ⟨g', 0, none⟩) m cap) m news → Touch (fun j => j = k) w w' → (g' = k ∨ g' = w.heap.size) → wpList Try.prog ops Q rest (a.put o.dst (.slice (some ⟨g', 0, none⟩) m cap)) w') : wpList Try.prog ops Q (o :: rest) a w := by
  obtain ⟨i0, hi0, hz0, hz1, hz2⟩ := info_parts hi
  have hown : w.ownsRow B e 1 (.slice (some ⟨k, 0, none⟩) 0 0) 0 [] := ⟨rfl, .inr ⟨k, 0, #[], rfl, hkB, hk, Nat.le_refl _, Nat.zero_le _, rfl, rfl⟩⟩
  rcases Nat.eq_zero_or_pos m with h0 | h0
  · subst h0
    have hnews : news = [] := List.eq_nil_of_length_eq_zero hv.1
    subst hnews
    refine wpList_append_fits w hgd s x t ho B e i0 1 ht hi0 hz1 k 0 0 [] hs hown ⟨g, 0, none⟩ 0 c [] hx rfl (fun j u hj => by simp at hj) (fun u hu => by simp at hu) (Nat.le_refl _) ?_
    intro w' ho' hg'
    exact h k 0 w' ho' ((Touch.refl _ _).grown hg' (fun j hj _ => (Option.some.inj hj).symm)) (.inl rfl)
  · refine wpList_append_lies w hgd s x t ho B e i0 z 1 bytes ht hi0 hz0 hz1 hz2 hzs (by omega) _ 0 [] hs hown ⟨g, 0, none⟩ m c news hx (by rw [hv.1, Nat.mul_one]) (fun j u hj => ?_) h1 h0 (by unfold maxLen; omega) ?_ hB _ rfl ?_
    · obtain ⟨b, o', hb, _, hc⟩ := hv.2 h0
      cases hb
      have := hc j u hj
      rw [Go.WideShapes.add_plain]
      simpa using this
    · have : (0 + m) * bytes ≤ (0 + m) * 24 := Nat.mul_le_mul_left _ hby
      omega
    · intro g' cap w' h2 h3 h4 h5
      rw [Nat.zero_add] at h2 ⊢
      refine h g' cap w' h2 ((Touch.refl _ _).grown h3 (fun j hj _ => (Option.some.inj hj).symm)) ?_
      rcases h4 with q | q
      · exact .inl (Option.some.inj q).symm
      · exact .inr q
def mfl (f g : Flat) : Nat → Flat
  | 0 => f
  | j + 1 => match g[j]? with
    | none => mfl f g j
    | some e => aset (mfl f g j) e.1 e.2
def mrgEnt (x : Option Ent) (y : Ent) : Ent := match x, y with
  | some (.inr f), .inr g => .inr (mfl f g g.length)
  | _, y => y
def mrgF (a b : OML) : Nat → OML
  | 0 => a
  | j + 1 => match b[j]? with
    | none => mrgF a b j
    | some e => aset (mrgF a b j) e.1 (mrgEnt (aget (mrgF a b j) e.1) e.2)
theorem mfl_step {f g : Flat} {j : Nat} {e : ByteArray × Int} (h : g[j]? = some e) : mfl f g (j + 1) = aset (mfl f g j) e.1 e.2 := by rw [mfl, h]
theorem mrgF_step {a b : OML} {j : Nat} {e : ByteArray × Ent} (h : b[j]? = some e) : mrgF a b (j + 1) = aset (mrgF a b j) e.1 (mrgEnt (aget (mrgF a b j) e.1) e.2) := by rw [mrgF, h]
theorem mfl_len (f g : Flat) : ∀ j, (mfl f g j).length ≤ f.length + j
  | 0 => Nat.le_refl _
  | j + 1 => by
    have := mfl_len f g j
    rw [mfl]
    split
    · omega
    · rw [aset_length]
      split <;> omega
theorem mrgF_len (a b : OML) : ∀ j, (mrgF a b j).length ≤ a.length + j
  | 0 => Nat.le_refl _
  | j + 1 => by
    have := mrgF_len a b j
    rw [mrgF]
    split
    · omega
    · rw [aset_length]
      split <;> omega
theorem take_aset {α : Type} {a : List (ByteArray × α)} (hn : Nd a) {j : Nat} {e : ByteArray × α} (h : a[j]? = some e) : aset (a.take j) e.1 e.2 = a.take (j + 1) := by
  obtain ⟨h1, h2⟩ := List.getElem?_eq_some_iff.1 h
  have hp : pos ((a.take j).map Prod.fst) e.1 = none := pos_out fun i z hz q => by
    subst q
    rw [List.getElem?_map, List.getElem?_take] at hz
    split at hz
    · rename_i hij
      obtain ⟨e', he', hq⟩ := Option.map_eq_some_iff.1 hz
      have i1 : (a.map Prod.fst)[i]? = some e.1 := by rw [List.getElem?_map, he', Option.map_some, hq]
      have i2 : (a.map Prod.fst)[j]? = some e.1 := by rw [List.getElem?_map, h]; rfl
      have := (List.getElem?_inj (by rw [List.length_map]; omega) hn).1 (i1.trans i2.symm)
      omega
    · cases hz
  rw [pos_none hp, List.take_succ_eq_append_getElem h1, h2]
theorem aget_take_none {α : Type} {b : List (ByteArray × α)} (hn : Nd b) {j : Nat} {e : ByteArray × α} (h : b[j]? = some e) : aget (b.take j) e.1 = none := by
  have h1 := take_aset hn h
  rw [aget_none_iff]
  intro hm
  obtain ⟨e', he', hq⟩ := List.mem_map.1 hm
  obtain ⟨i, hi⟩ := List.getElem?_of_mem he'
  rw [List.getElem?_take] at hi
  split at hi
  · rename_i hij
    have i1 : (b.map Prod.fst)[i]? = some e.1 := by rw [List.getElem?_map, hi, Option.map_some, hq]
    have i2 : (b.map Prod.fst)[j]? = some e.1 := by rw [List.getElem?_map, h]; rfl
    have := (List.getElem?_inj (by rw [List.length_map]; have := (List.getElem?_eq_some_iff.1 hi).1; exact this) hn).1 (i1.trans i2.symm)
    omega
  · cases hi
theorem aget_mfl (f g : Flat) (hn : Nd g) : ∀ (j : Nat) (s : ByteArray), aget (mfl f g j) s = match aget (g.take j) s with | none => aget f s | some v => some v
  | 0, s => rfl
  | j + 1, s => by
    rw [mfl]
    cases h : g[j]? with
    | none =>
      have hl : g.length ≤ j := by simpa using h
      rw [List.take_of_length_le (by omega : g.length ≤ j + 1), ← List.take_of_length_le hl]
      have := aget_mfl f g hn j s
      rw [List.take_of_length_le hl] at this ⊢
      exact this
    | some e =>
      show aget (aset (mfl f g j) e.1 e.2) s = _
      rw [← take_aset hn h, aget_aset, aget_aset, aget_mfl f g hn j s]
      split <;> rfl
theorem aget_mrgF (a b : OML) (hn : Nd b) : ∀ (j : Nat) (s : ByteArray), aget (mrgF a b j) s = match aget (b.take j) s with | none => aget a s | some e => some (mrgEnt (aget a s) e)
  | 0, s => rfl
  | j + 1, s => by
    rw [mrgF]
    cases h : b[j]? with
    | none =>
      have hl : b.length ≤ j := by simpa using h
      have := aget_mrgF a b hn j s
      rw [List.take_of_length_le hl] at this
      rw [List.take_of_length_le (by omega : b.length ≤ j + 1)]
      exact this
    | some e =>
      show aget (aset (mrgF a b j) e.1 (mrgEnt (aget (mrgF a b j) e.1) e.2)) s = _
      have h2 : aget (mrgF a b j) e.1 = aget a e.1 := by rw [aget_mrgF a b hn j e.1, aget_take_none hn h]
      rw [← take_aset hn h, aget_aset, aget_aset, aget_mrgF a b hn j s, h2]
      by_cases hs : e.1 = s
      · subst hs
        rw [if_pos rfl, if_pos rfl]
      · rw [if_neg hs, if_neg hs]
/-- An entry of each kind, small enough. -/
def Small (om : OML) (N : Nat) : Prop := ∀ s fl, aget om s = some (.inr fl) → fl.length ≤ N
theorem Small.aset {om : OML} {N : Nat} (h : Small om N) {s : ByteArray} {e : Ent} (he : ∀ fl, e = .inr fl → fl.length ≤ N) : Small (aset om s e) N := by
  intro t fl hq
  rw [aget_aset] at hq
  split at hq
  · injection hq with hq
    exact he fl hq
  · exact h t fl hq
/-- The struct of the call's own in mergeModels, beside the two boxes. -/
structure MM (w wr : World) (v0 v1 v2 v3 v4 u0 u1 u2 u3 u4 : Value) (n : Nat) (om : OML) : Prop where
  mdl : Mdl wr (w.heap.size + 3) wr.heap.size (w.heap.size + 3) n om
  res : Row wr (w.heap.size + 2) 39 nil5
  ba : Row wr w.heap.size 39 #[v0, v1, v2, v3, v4]
  bb : Row wr (w.heap.size + 1) 39 #[u0, u1, u2, u3, u4]
  bel : Below w.heap.size w wr
  big : w.heap.size + 3 < wr.heap.size
section
variable {w wr w' : World} {v0 v1 v2 v3 v4 u0 u1 u2 u3 u4 : Value} {n : Nat} {om om' : OML}
theorem MM.keep (h : MM w wr v0 v1 v2 v3 v4 u0 u1 u2 u3 u4 n om) (hb : Below wr.heap.size wr w') : MM w w' v0 v1 v2 v3 v4 u0 u1 u2 u3 u4 n om :=
  ⟨(h.mdl.keep hb).mono hb.size, h.res.keep hb h.res.lt, h.ba.keep hb h.ba.lt, h.bb.keep hb h.bb.lt, h.bel.trans (hb.mono h.bel.size), by have := hb.size; have := h.big; omega⟩
theorem MM.put {e : Ending} (h : MM w wr v0 v1 v2 v3 v4 u0 u1 u2 u3 u4 n om) (hp : PutOut wr (w.heap.size + 3) (w.heap.size + 3) om' e w') : ∃ n', MM w w' v0 v1 v2 v3 v4 u0 u1 u2 u3 u4 n' om' := by
  obtain ⟨_, ⟨n', hm⟩, hb⟩ := hp
  exact ⟨n', hm, h.res.keep hb (by omega), h.ba.keep hb (by omega), h.bb.keep hb (by omega), h.bel.trans (hb.mono (by omega)), by have := hb.size; have := h.big; omega⟩
end
/-- One entry of a model by value: its five cells. -/
theorem MdlV.get {w : World} {n : Nat} {v0 v1 v2 v3 v4 : Value} {om : OML} (h : MdlV w n v0 v1 v2 v3 v4 om) {j : Nat} (hj : j < n) :
    ∃ b0 o0 k0 b1 o1 k1 b2 o2 k2 b3 o3 k3 b4 o4 k4 s e u x, v0 = .slice (some ⟨b0, o0, none⟩) n k0 ∧ v1 = .slice (some ⟨b1, o1, none⟩) n k1 ∧ v2 = .slice (some ⟨b2, o2, none⟩) n k2 ∧ v3 = .slice (some ⟨b3, o3, none⟩) n k3 ∧ v4 = .slice (some ⟨b4, o4, none⟩) n k4 ∧
      om[j]? = some (s, e) ∧ w.cell? ⟨b0, o0 + j, none⟩ = some (.string s) ∧ w.cell? ⟨b1, o1 + j, none⟩ = some (.int .i64 (entI e)) ∧ w.cell? ⟨b2, o2 + j, none⟩ = some (.bool (entB e)) ∧ w.cell? ⟨b3, o3 + j, none⟩ = some u ∧ w.cell? ⟨b4, o4 + j, none⟩ = some x ∧ EntIn w (fun _ => False) e u x ∧
      (b0 < w.heap.size ∧ b1 < w.heap.size ∧ b2 < w.heap.size ∧ b3 < w.heap.size ∧ b4 < w.heap.size) := by
  obtain ⟨hl, A0, k0, A1, k1, A2, k2, A3, k3, A4, k4, us, ws, rfl, rfl, rfl, rfl, rfl, a0, a1, a2, a3, a4, he⟩ := h
  obtain ⟨b0, o0, w0, rfl, q0, g0, c0⟩ := a0.get hj
  obtain ⟨b1, o1, w1, rfl, q1, g1, c1⟩ := a1.get hj
  obtain ⟨b2, o2, w2, rfl, q2, g2, c2⟩ := a2.get hj
  obtain ⟨b3, o3, w3, rfl, q3, g3, c3⟩ := a3.get hj
  obtain ⟨b4, o4, w4, rfl, q4, g4, c4⟩ := a4.get hj
  obtain ⟨⟨s, e⟩, hoe⟩ : ∃ e, om[j]? = some e := ⟨_, List.getElem?_eq_getElem (by omega)⟩
  obtain ⟨u, x, hu, hx, hen⟩ := he j _ hoe
  rw [g3] at hu
  rw [g4] at hx
  cases hu
  cases hx
  have e0 : w0 = .string s := by simpa [ok, strV, hoe] using g0.symm
  have e1 : w1 = .int .i64 (entI e) := by simpa [oi, intsV, hoe] using g1.symm
  have e2 : w2 = .bool (entB e) := by simpa [ob, hoe] using g2.symm
  subst e0 e1 e2
  exact ⟨b0, o0, k0, b1, o1, k1, b2, o2, k2, b3, o3, k3, b4, o4, k4, s, e, _, _, rfl, rfl, rfl, rfl, rfl, hoe, c0, c1, c2, c3, c4, hen, q0, q1, q2, q3, q4⟩
/-- The inner slices of an entry that was there before the call, put into a struct of the call's own. -/
theorem EntIn.old {w wr : World} {B H : Nat} {e : Ent} {u x : Value} (h : EntIn w (fun _ => False) e u x) (hb : Below w.heap.size w wr) (hB : w.heap.size ≤ B) : EntIn wr (fun k => B ≤ k ∧ k < H) e u x :=
  h.turn (Touch.of_below hb (fun _ => False)) (fun _ q => q) (fun k q => .inr (by omega))
def MrgOut (w : World) (om : OML) (e : Ending) (w' : World) : Prop := (∃ n v0 v1 v2 v3 v4, e = .returned (.agg #[v0, v1, v2, v3, v4]) ∧ MdlV w' n v0 v1 v2 v3 v4 om) ∧ Below w.heap.size w w'
end Go.Proofs.Ytdjebcejpachmaa
