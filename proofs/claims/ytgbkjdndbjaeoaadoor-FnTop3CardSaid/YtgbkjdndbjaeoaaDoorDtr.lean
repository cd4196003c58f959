/-
  What the law's reader makes of the code (n001_1001): the tree, and lists under way.
-/
import Derived.Test.YtgbkjdndbjaeoaaDoorRd
import Derived.Deep.RegionLaw
namespace Go.Proofs.YtgbkjdndbjaeoaaDoor
set_option linter.unusedVariables false
set_option linter.unusedSimpArgs false
open Go.ChangeShapes Go.WideShapes Go.ChangeAt Go.RowKit M
theorem infoKv : (Tryd.prog.info? 42).map (fun i => (i.zero, i.size, i.bytes)) = some (some (.pointer none), 1, 8) := by kernel_rfl
theorem infoTm : (Tryd.prog.info? 29).map (fun i => (i.zero, i.size, i.bytes)) = some (some (.pointer none), 1, 8) := by kernel_rfl
theorem wpList_app1 {ops : Array Oper} {rest : List Oper} {o : Oper} {a : Act} {Q : Exit → Act → World → Prop} (w : World) (hgd : o.guard = none) (s x : Operand) (t : TypeId)
    (ho : o.op = .call { callee := .builtin .append, args := #[s, x], argTypes := #[t, t] }) (B : Nat) (e : TypeId) (z : Value) (bytes : Nat) (ht : Tryd.prog.underlying t = some (.slice e))
    (hi : (Tryd.prog.info? e).map (fun i => (i.zero, i.size, i.bytes)) = some (some z, 1, bytes)) (hzs : z.cells.size = 1) (hby : bytes ≤ 24) (v : Value) (n : Nat) (xs : List Value) (hs : a.eval s = v) (hown : w.ownsRow B e 1 v n xs)
    (k : Nat) (u : Value) (hx : a.eval x = .slice (some ⟨k, 0, none⟩) 1 1) (hr : Row w k e #[u]) (h1 : u.oneCell' = true) (hn : n ≤ 1048576) (hB : B ≤ w.heap.size)
    (h : ∀ g cap w', w'.ownsRow B e 1 (.slice (some ⟨g, 0, none⟩) (n + 1) cap) (n + 1) (xs ++ [u]) → Touch (fun j => v.ownBlock = some j) w w' → (v.ownBlock = some g ∨ g = w.heap.size) → g < w'.heap.size →
      wpList Tryd.prog ops Q rest (a.put o.dst (.slice (some ⟨g, 0, none⟩) (n + 1) cap)) w') : wpList Tryd.prog ops Q (o :: rest) a w := by
  obtain ⟨i0, hi0, hz0, hz1, hz2⟩ := info_parts hi
  refine wpList_append_lies w hgd s x t ho B e i0 z 1 bytes ht hi0 hz0 hz1 hz2 hzs (by omega) v n xs hs hown ⟨k, 0, none⟩ 1 1 [u] hx rfl (World.news_of_block hr) (by simpa using h1) (by omega) (by unfold maxLen; omega) ?_ hB _ rfl ?_
  · have : (n + 1) * bytes ≤ (n + 1) * 24 := Nat.mul_le_mul_left _ hby
    omega
  · intro g cap w' h2 h3 h4 h5
    exact h g cap w' h2 ((Touch.refl _ _).grown h3 (fun k hk _ => hk)) h4 h5
theorem step_app1 {ops : Array Oper} {o : Oper} {a : Act} {K : Act → World → Prop} {Q : Exit → Act → World → Prop} {E : Prop} (w : World) (hgd : o.guard = none) (s x : Operand) (t : TypeId)
    (ho : o.op = .call { callee := .builtin .append, args := #[s, x], argTypes := #[t, t] }) (B : Nat) (e : TypeId) (z : Value) (bytes : Nat) (ht : Tryd.prog.underlying t = some (.slice e))
    (hi : (Tryd.prog.info? e).map (fun i => (i.zero, i.size, i.bytes)) = some (some z, 1, bytes)) (hzs : z.cells.size = 1) (hby : bytes ≤ 24) (v : Value) (n : Nat) (xs : List Value) (hs : a.eval s = v) (hown : w.ownsRow B e 1 v n xs)
    (k : Nat) (u : Value) (hx : a.eval x = .slice (some ⟨k, 0, none⟩) 1 1) (hr : Row w k e #[u]) (h1 : u.oneCell' = true) (hn : n ≤ 1048576) (hB : B ≤ w.heap.size)
    (h : ∀ g cap w', w'.ownsRow B e 1 (.slice (some ⟨g, 0, none⟩) (n + 1) cap) (n + 1) (xs ++ [u]) → Touch (fun j => v.ownBlock = some j) w w' → (v.ownBlock = some g ∨ g = w.heap.size) → g < w'.heap.size →
      K (a.put o.dst (.slice (some ⟨g, 0, none⟩) (n + 1) cap)) w') : if Region.wanted o (yielded ops a.tmps) = true then Oper.wp Tryd.prog o a w K Q else E := by
  obtain ⟨i0, hi0, hz0, hz1, hz2⟩ := info_parts hi
  refine step_append_lies w hgd s x t ho B e i0 z 1 bytes ht hi0 hz0 hz1 hz2 hzs (by omega) v n xs hs hown ⟨k, 0, none⟩ 1 1 [u] hx rfl (World.news_of_block hr) (by simpa using h1) (by omega) (by unfold maxLen; omega) ?_ hB _ rfl ?_
  · have : (n + 1) * bytes ≤ (n + 1) * 24 := Nat.mul_le_mul_left _ hby
    omega
  · intro g cap w' h2 h3 h4 h5
    exact h g cap w' h2 ((Touch.refl _ _).grown h3 (fun k hk _ => hk)) h4 h5
/-- A list under way at the node q, of type k, whose one field it is; e: the elements' type. -/
structure Lst (w : World) (B q k e n h : Nat) (v : Value) (us : List Value) (ts : List T) : Prop where
  row : Row w q k #[v]
  base : B ≤ q
  own : w.ownsRow B e 1 v n us
  kids : Kids w (fun j => j = q ∨ v.ownBlock = some j) B h us ts
  len : ts.length = n
  nz : v.ownBlock.isSome = decide (0 < n)
theorem Lst.touch {S : Nat → Prop} {w w' : World} {B q k e n h : Nat} {v : Value} {us : List Value} {ts : List T} (hl : Lst w B q k e n h v us ts) (ht : Touch S w w') (hS : ∀ j, B ≤ j → ¬ S j) : Lst w' B q k e n h v us ts :=
  ⟨hl.row.touch ht (hS q hl.base), hl.base, own_touch hl.own ht (fun j hj => hS j (hl.own.lt j hj).1), hl.kids.turn ht (fun j hj hs => absurd hs (hS j hj)) (fun j hj => .inl hj), hl.len, hl.nz⟩
theorem Lst.push {S : Nat → Prop} {w w1 w2 : World} {B q k e n h g cap p : Nat} {v : Value} {us : List Value} {ts : List T} {t : T} (hl : Lst w B q k e n h v us ts) (hne : e ≠ k) (hB : B ≤ w.heap.size) (ht : Touch S w w1) (hS : ∀ j, B ≤ j → ¬ S j)
    (hT : At (fun j => w.heap.size ≤ j) h w1 p t) (ho : w2.ownsRow B e 1 (.slice (some ⟨g, 0, none⟩) (n + 1) cap) (n + 1) (us ++ [.pointer (some ⟨p, 0, none⟩)])) (h2 : Touch (fun j => v.ownBlock = some j) (w1.alloc (.cells #[.pointer (some ⟨p, 0, none⟩)] e)) w2)
    (hg : v.ownBlock = some g ∨ g = (w1.alloc (.cells #[.pointer (some ⟨p, 0, none⟩)] e)).heap.size) :
    Lst (w2.setCell ⟨q, 0, none⟩ (.slice (some ⟨g, 0, none⟩) (n + 1) cap)) B q k e (n + 1) h (.slice (some ⟨g, 0, none⟩) (n + 1) cap) (us ++ [.pointer (some ⟨p, 0, none⟩)]) (ts ++ [t]) ∧ Touch (fun j => B ≤ j ∨ S j) w (w2.setCell ⟨q, 0, none⟩ (.slice (some ⟨g, 0, none⟩) (n + 1) cap)) ∧ Touch (fun j => j = q ∨ v.ownBlock = some j) w1 (w2.setCell ⟨q, 0, none⟩ (.slice (some ⟨g, 0, none⟩) (n + 1) cap)) := by
  have h1 := hl.touch ht hS
  have ta : Touch (fun j => v.ownBlock = some j) w1 w2 := ((Touch.refl _ _).alloc (.cells #[.pointer (some ⟨p, 0, none⟩)] e)).trans' h2 (fun j hj q => q)
  have hqo : v.ownBlock ≠ some q := own_ne h1.own h1.row hne
  have hr2 : Row w2 q k #[v] := h1.row.touch ta hqo
  have ts : Touch (fun j => j = q) w2 (w2.setCell ⟨q, 0, none⟩ (.slice (some ⟨g, 0, none⟩) (n + 1) cap)) := (Touch.refl (fun j => j = q) w2).setCell (fun _ => rfl) _
  have hgq : g ≠ q := by
    intro e0
    subst e0
    rcases hg with x | x
    · exact hqo x
    · have := h1.row.lt
      simp only [World.size_alloc] at x
      omega
  have tall : Touch (fun j => j = q ∨ v.ownBlock = some j) w1 (w2.setCell ⟨q, 0, none⟩ (.slice (some ⟨g, 0, none⟩) (n + 1) cap)) := (ta.mono (fun j _ x => .inr x)).trans (ts.mono (fun j _ x => .inl x))
  refine ⟨⟨?_, hl.base, own_touch ho ts (fun j hj e0 => ?_), ?_, by rw [List.length_append, hl.len]; rfl, by simp [Value.ownBlock]⟩, ?_, tall⟩
  · have := hr2.put 0 (.slice (some ⟨g, 0, none⟩) (n + 1) cap)
    exact this
  · have hj' : g = j := Option.some.inj hj
    omega
  · have hk := h1.kids.snoc (t := t) (q := p) (At.turn (ok' := fun j => B ≤ j ∧ ¬ (j = q ∨ v.ownBlock = some j)) (Touch.refl (fun _ => False) w1) (fun _ _ _ x => x) (fun j hj _ => ⟨by omega, fun x => by
      rcases x with x | x
      · have := hl.row.lt; omega
      · have := (hl.own.lt j x).2; omega⟩) h hT)
    refine hk.turn tall (fun j _ x => x) (fun j x => ?_)
    rcases x with x | x
    · exact .inl (.inl x)
    · have hj : g = j := Option.some.inj x
      subst hj
      rcases hg with y | y
      · exact .inl (.inr y)
      · exact .inr (by rw [y]; simp)
  · refine (ht.mono (fun j _ x => .inr x)).trans' tall (fun j hj x => ?_)
    rcases x with x | x
    · exact .inl (by rw [x]; exact hl.base)
    · exact .inl (hl.own.lt j x).1
theorem Lst.node {w : World} {B q k e n h : Nat} {v : Value} {us : List Value} {ts : List T} (hl : Lst w B q k e n h v us ts) : At (fun j => B ≤ j) (h + 1) w q (.nd k [.l (decide (0 < n)) ts]) := by
  have hlen := hl.len
  obtain ⟨A, c, rfl, hv, hb⟩ := own_vw hl.own
  refine ⟨_, hl.row, hl.base, rfl, fun i f x hf hx => ?_⟩
  match i with
  | 0 =>
    simp only [List.getElem?_cons_zero, Option.some.injEq] at hf
    have hx' : Value.slice A n c = x := by simpa using hx
    subst hf hx'
    have hnn : A.isSome = decide (0 < n) := by
      rw [← hl.nz]
      cases A <;> rfl
    refine ⟨A, c, us, by rw [hlen], hnn, by rw [hlen]; exact hv, fun x hx _ => hb x hx, fun i t u hi hu => ?_⟩
    obtain ⟨p, h1, h2⟩ := hl.kids.2 i t u hi hu
    exact ⟨p, h1, At.turn (Touch.refl (fun _ => False) w) (fun _ _ _ x => x) (fun j hj _ => hj.1) h h2⟩
  | i + 1 => simp at hf
end Go.Proofs.YtgbkjdndbjaeoaaDoor
