/-
  Own rows: append of one element, a store; the contracts of setFlat and flatOf (n001_79).
-/
import Derived.Test.YtdjebcejpachmaaVec
import Derived.Deep.AppendLies
import Derived.OwnWalk
import Derived.Deep.RegionWith
namespace Go.Proofs.Ytdjebcejpachmaa
set_option linter.unusedVariables false
set_option linter.unusedSimpArgs false
open Go.ChangeShapes Go.WideShapes Go.ChangeAt Go.RowKit M
theorem own_apart {w : World} {b e s n b' e' s' n' : Nat} {v v' : Value} {xs xs' : List Value} (h : w.ownsRow b e s v n xs) (h' : w.ownsRow b' e' s' v' n' xs') (hne : e ≠ e') : ∀ k, v.ownBlock = some k → v'.ownBlock ≠ some k := by
  rcases h.2 with ⟨rfl, _⟩ | ⟨g', cap, cur, rfl, _, hg, _⟩
  · intro k hk; cases hk
  · intro k hk
    obtain rfl : g' = k := by simpa [Value.ownBlock] using hk
    exact own_ne h' (show Row w g' e cur from hg) (Ne.symm hne)
theorem wpList_app1 {ops : Array Oper} {rest : List Oper} {o : Oper} {a : Act} {Q : Exit → Act → World → Prop} (w : World) (hgd : o.guard = none) (s x : Operand) (t : TypeId)
    (ho : o.op = .call { callee := .builtin .append, args := #[s, x], argTypes := #[t, t] }) (B : Nat) (e : TypeId) (z : Value) (bytes : Nat) (ht : Try.prog.underlying t = some (.slice e))
    (hi : (Try.prog.info? e).map (fun i => (i.zero, i.size, i.bytes)) = some (some z, 1, bytes)) (hzs : z.cells.size = 1) (hby : bytes ≤ 24) (v : Value) (n : Nat) (xs : List Value) (hs : a.eval s = v) (hown : w.ownsRow B e 1 v n xs)
    (k : Nat) (u : Value) (hx : a.eval x = .slice (some ⟨k, 0, none⟩) 1 1) (hr : Row w k e #[u]) (h1 : u.oneCell' = true) (hn : n ≤ 1048576) (hB : B ≤ w.heap.size)
    (h : ∀ g cap w', w'.ownsRow B e 1 (.slice (some ⟨g, 0, none⟩) (n + 1) cap) (n + 1) (xs ++ [u]) → Touch (fun j => v.ownBlock = some j) w w' → (v.ownBlock = some g ∨ g = w.heap.size) → g < w'.heap.size →
      wpList Try.prog ops Q rest (a.put o.dst (.slice (some ⟨g, 0, none⟩) (n + 1) cap)) w') : wpList Try.prog ops Q (o :: rest) a w := by
  obtain ⟨i0, hi0, hz0, hz1, hz2⟩ := info_parts hi
  refine wpList_append_lies w hgd s x t ho B e i0 z 1 bytes ht hi0 hz0 hz1 hz2 hzs (by omega) v n xs hs hown ⟨k, 0, none⟩ 1 1 [u] hx rfl (World.news_of_block hr) (by simpa using h1) (by omega) (by unfold maxLen; omega) ?_ hB _ rfl ?_
  · have : (n + 1) * bytes ≤ (n + 1) * 24 := Nat.mul_le_mul_left _ hby
    omega
  · intro g cap w' h2 h3 h4 h5
    exact h g cap w' h2 ((Touch.refl _ _).grown h3 (fun k hk _ => hk)) h4 h5
/-- A store to an own row. -/
theorem own_store {w : World} {B e n : Nat} {v : Value} {xs : List Value} (h : w.ownsRow B e 1 v n xs) {i : Nat} (hi : i < n) : ∃ g cap, v = .slice (some ⟨g, 0, none⟩) n cap ∧ B ≤ g ∧ g < w.heap.size ∧
    (∃ u, w.cell? ⟨g, i, none⟩ = some u) ∧ w.frozen? ⟨g, i, none⟩ = false ∧ ∀ u, (w.setCell ⟨g, i, none⟩ u).ownsRow B e 1 v n (xs.set i u) := by
  have hl := h.1
  rcases h.2 with ⟨rfl, rfl⟩ | ⟨g, cap, cur, rfl, hb, hg, hn, hc, hs, ht⟩
  · exact absurd hi (by omega)
  · have hr : Row w g e cur := hg
    refine ⟨g, cap, rfl, hb, hr.lt, ?_, hr.free i, fun u => ⟨by simpa using hl, .inr ⟨g, cap, cur.setIfInBounds i u, rfl, hb, hr.put i u, hn, hc, by simpa using hs, ?_⟩⟩⟩
    · obtain ⟨u, hu⟩ := hr.has i (by omega)
      exact ⟨u, hu⟩
    · rw [Array.toList_setIfInBounds, List.take_set, ht]
def pt (g n c : Nat) : Value := .slice (some ⟨g, 0, none⟩) n c
/-- Two rows of the call's own, from B on: the keys and the ints of a flat object. -/
abbrev Flat := List (ByteArray × Int)
def fk (fl : Flat) : List Value := strV (fl.map Prod.fst)
def fv (fl : Flat) : List Value := intsV (fl.map Prod.snd)
structure Own2 (w : World) (B n g1 c1 g2 c2 : Nat) (fl : Flat) : Prop where
  len : fl.length = n
  keys : w.ownsRow B 9 1 (.slice (some ⟨g1, 0, none⟩) n c1) n (fk fl)
  ints : w.ownsRow B 3 1 (.slice (some ⟨g2, 0, none⟩) n c2) n (fv fl)
theorem Own2.touch {S : Nat → Prop} {w w' : World} {B n g1 c1 g2 c2 : Nat} {fl : Flat} (h : Own2 w B n g1 c1 g2 c2 fl) (ht : Touch S w w') (h1 : ¬ S g1) (h2 : ¬ S g2) : Own2 w' B n g1 c1 g2 c2 fl :=
  ⟨h.len, own_touch h.keys ht (fun k q => by cases q; exact h1), own_touch h.ints ht (fun k q => by cases q; exact h2)⟩
theorem Own2.keep {w w' : World} {B n g1 c1 g2 c2 : Nat} {fl : Flat} (h : Own2 w B n g1 c1 g2 c2 fl) (hb : Below w.heap.size w w') : Own2 w' B n g1 c1 g2 c2 fl := h.touch (Touch.of_below hb (fun _ => False)) (fun q => q) (fun q => q)
theorem Own2.vk {w : World} {B n g1 c1 g2 c2 : Nat} {fl : Flat} (h : Own2 w B n g1 c1 g2 c2 fl) : Vw w (some ⟨g1, 0, none⟩) n (fk fl) := by
  obtain ⟨a, c, he, hv, _⟩ := own_vw h.keys
  cases he
  exact hv
theorem Own2.vi {w : World} {B n g1 c1 g2 c2 : Nat} {fl : Flat} (h : Own2 w B n g1 c1 g2 c2 fl) : Vw w (some ⟨g2, 0, none⟩) n (fv fl) := by
  obtain ⟨a, c, he, hv, _⟩ := own_vw h.ints
  cases he
  exact hv
theorem Own2.low {w : World} {B n g1 c1 g2 c2 : Nat} {fl : Flat} (h : Own2 w B n g1 c1 g2 c2 fl) : B ≤ g1 ∧ B ≤ g2 ∧ g1 < w.heap.size ∧ g2 < w.heap.size := by
  obtain ⟨h1, h2⟩ := h.keys.lt g1 rfl
  obtain ⟨h3, h4⟩ := h.ints.lt g2 rfl
  exact ⟨h1, h3, h2, h4⟩
theorem info9 : (Try.prog.info? 9).map (fun i => (i.zero, i.size, i.bytes)) = some (some (.string ByteArray.empty), 1, 16) := by kernel_rfl
theorem info3 : (Try.prog.info? 3).map (fun i => (i.zero, i.size, i.bytes)) = some (some (.int .i64 0), 1, 8) := by kernel_rfl
def SetF (w : World) (B : Nat) (fl : Flat) (e : Ending) (w' : World) : Prop :=
  ∃ n g1 c1 g2 c2, e = .returned (.tuple #[.slice (some ⟨g1, 0, none⟩) n c1, .slice (some ⟨g2, 0, none⟩) n c2]) ∧ Own2 w' B n g1 c1 g2 c2 fl ∧ Below B w w'
theorem map_fst_set {l : Flat} {i : Nat} {s : ByteArray} {x v : Int} (h : l[i]? = some (s, x)) : (l.set i (s, v)).map Prod.fst = l.map Prod.fst := by
  obtain ⟨hi, hx⟩ := List.getElem?_eq_some_iff.1 h
  rw [List.map_set]
  apply List.ext_getElem?
  intro j
  rw [List.getElem?_set]
  by_cases hj : i = j
  · subst hj
    rw [if_pos rfl, if_pos (by rw [List.length_map]; exact hi), List.getElem?_map, h]
    rfl
  · rw [if_neg hj]
set_option maxHeartbeats 2000000 in
theorem setFlatC (w : World) (B n g1 c1 g2 c2 : Nat) (fl : Flat) (s : ByteArray) (v : Int) (h : Own2 w B n g1 c1 g2 c2 fl) (hn : n ≤ 1048576) (hB : B ≤ w.heap.size) :
    Calls Try.prog 33 #[.slice (some ⟨g1, 0, none⟩) n c1, .slice (some ⟨g2, 0, none⟩) n c2, .string s, .int .i64 v] w (SetF w B (aset fl s v)) := by
  have H := Lib.hid h
  have HL := Lib.hid h.len
  obtain ⟨lb1, lb2, lt1, lt2⟩ := h.low
  cases hp : pos (fl.map Prod.fst) s with
  | some i =>
    obtain ⟨x, hx, _, hset⟩ := pos_some hp
    have hi : i < n := by have := (List.getElem?_eq_some_iff.1 hx).1; have := h.len; omega
    obtain ⟨g, cap, he, hbg, hlg, ⟨u, hu⟩, hfr, hst⟩ := own_store h.ints hi
    cases he
    have hk : (w.setCell ⟨g2, i, none⟩ (.int .i64 v)).ownsRow B 9 1 (.slice (some ⟨g1, 0, none⟩) n c1) n (fk fl) :=
      own_touch h.keys ((Touch.refl (· = g2) w).setCell (fun _ => rfl) _) (fun k q => by
        have := own_apart h.keys h.ints (by decide) k q
        exact fun e => this (by rw [e]; rfl))
    have HP := Lib.hid (show posI (fl.map Prod.fst) s = (i : Int) by unfold posI; rw [hp])
    have HFIN := Lib.hid (show Own2 (w.setCell ⟨g2, i, none⟩ (.int .i64 v)) B n g1 c1 g2 c2 (aset fl s v) from
      ⟨by rw [hset, List.length_set]; exact h.len, by rw [hset]; unfold fk; rw [map_fst_set hx]; exact hk, by rw [hset]; unfold fv intsV; rw [List.map_set, List.map_set]; exact hst (.int .i64 v)⟩)
    have HB2 := Lib.hid (show Below B w (w.setCell ⟨g2, i, none⟩ (.int .i64 v)) from (Below.refl _ _).setCell hbg _)
    clear hp hx hset hst hk h
    go_enter Try.func33, Try.ntmps33
    go_wp2_with fail
    refine (indexC _ (some ⟨g1, 0, none⟩) n c1 (fl.map Prod.fst) s H.out.vk hn).mono ?_
    rintro e w' ⟨rfl, rfl⟩
    rw [HP.out]
    go_wp2_with fail
    go_ret2
    exact ⟨n, g1, c1, g2, c2, rfl, HFIN.out, HB2.out⟩
  | none =>
    have HP := Lib.hid (show posI (fl.map Prod.fst) s = -1 by unfold posI; rw [hp])
    have HSET := Lib.hid (pos_none hp v)
    clear hp h
    go_enter Try.func33, Try.ntmps33
    go_wp2_with fail
    refine (indexC _ (some ⟨g1, 0, none⟩) n c1 (fl.map Prod.fst) s H.out.vk hn).mono ?_
    rintro e w' ⟨rfl, rfl⟩
    rw [HP.out]
    go_wp2_with (first
      | (at_builtin; refine wpList_app1 _ rfl (.tmp 22) (.tmp 24) 24 rfl B 9 (.string ByteArray.empty) 16 Try.underlying24 info9 rfl (by decide) (.slice (some ⟨g1, 0, none⟩) n c1) n (fk fl) rfl (H.out.keys.alloc _) w.heap.size (.string s) rfl (Row.made _ _ _) (by simp [Value.oneCell']) hn (by simp; omega) ?_; intro g3 c3 w3 ho3 ht3 ha3 hl3; have HO3 := Lib.hid ho3; have HT3 := Lib.hid ht3; have HA3 := Lib.hid ha3; have hs3 := ht3.size; simp only [World.size_alloc] at hs3; clear ho3 ht3 ha3)
      | (at_builtin; refine wpList_app1 _ rfl (.tmp 26) (.tmp 28) 29 rfl B 3 (.int .i64 0) 8 Try.underlying29 info3 rfl (by decide) (.slice (some ⟨g2, 0, none⟩) n c2) n (fv fl) rfl ((own_touch (H.out.ints.alloc (.cells #[.string s] 9)) HT3.out (fun k q e => own_apart H.out.ints H.out.keys (by decide) k q e)).alloc _) w3.heap.size (.int .i64 v) rfl (Row.made _ _ _) (by simp [Value.oneCell']) hn (by simp; omega) ?_; intro g4 c4 w4 ho4 ht4 ha4 hl4; have HO4 := Lib.hid ho4; have HT4 := Lib.hid ht4; clear ho4 ht4 ha4))
    go_ret2
    have hb3 : Below B w w3 := ((Below.refl B w).alloc hB (.cells #[.string s] 9)).trans (HT3.out.below (by simp; omega) (fun k hk e => by have e' : g1 = k := Option.some.inj e; omega))
    have hb4 : Below B w w4 := hb3.trans (((Below.refl B w3).alloc (by omega) (.cells #[.int .i64 v] 3)).trans (HT4.out.below (by simp; omega) (fun k hk e => by have e' : g2 = k := Option.some.inj e; omega)))
    refine ⟨n + 1, g3, c3, g4, c4, rfl, ⟨by rw [HSET.out, List.length_append, HL.out]; rfl, ?_, ?_⟩, hb4⟩
    · rw [HSET.out]
      unfold fk strV
      rw [List.map_append, List.map_append]
      refine own_touch (HO3.out.alloc (.cells #[.int .i64 v] 3)) HT4.out (fun k q e => ?_)
      exact own_apart (HO3.out.alloc (.cells #[.int .i64 v] 3)) ((own_touch (H.out.ints.alloc (.cells #[.string s] 9)) HT3.out (fun k q e => own_apart H.out.ints H.out.keys (by decide) k q e)).alloc (.cells #[.int .i64 v] 3)) (by decide) k q e
    · rw [HSET.out]
      unfold fv intsV
      rw [List.map_append, List.map_append]
      exact HO4.out
def flatF (ks : List ByteArray) (vs : List Int) : Nat → Flat
  | 0 => []
  | j + 1 => match ks[j]? with
    | none => flatF ks vs j
    | some s => aset (flatF ks vs j) s (intAtL vs j)
theorem flatF_step {ks : List ByteArray} {vs : List Int} {j : Nat} {s : ByteArray} (h : ks[j]? = some s) : flatF ks vs (j + 1) = aset (flatF ks vs j) s (intAtL vs j) := by rw [flatF, h]
theorem flatF_len (ks : List ByteArray) (vs : List Int) : ∀ j, (flatF ks vs j).length ≤ j
  | 0 => Nat.zero_le _
  | j + 1 => by
    have := flatF_len ks vs j
    rw [flatF]
    split
    · omega
    · rw [aset_length]
      split <;> omega
theorem flatF_nd (ks : List ByteArray) (vs : List Int) : ∀ j, Nd (flatF ks vs j)
  | 0 => by simp [flatF, Nd]
  | j + 1 => by
    rw [flatF]
    split
    · exact flatF_nd ks vs j
    · exact (flatF_nd ks vs j).aset _ _
theorem Own2.start {w : World} {B g1 g2 : Nat} (h1 : Row w g1 9 #[]) (h2 : Row w g2 3 #[]) (b1 : B ≤ g1) (b2 : B ≤ g2) : Own2 w B 0 g1 0 g2 0 [] :=
  ⟨rfl, ⟨rfl, .inr ⟨g1, 0, #[], rfl, b1, h1, Nat.le_refl _, Nat.zero_le _, rfl, rfl⟩⟩, ⟨rfl, .inr ⟨g2, 0, #[], rfl, b2, h2, Nat.le_refl _, Nat.zero_le _, rfl, rfl⟩⟩⟩
theorem intAtQ (w : World) (a : Option Addr) (len cap : Nat) (zs : List Int) (j : Nat) (n : Nat) (h : Vw w a len (intsV zs)) (hj : j ≤ 1048576) :
    Calls Try.prog 31 #[.slice a len cap, .int .i64 j] (w.drewN n) fun e w' => e = .returned (.int .i64 (intAtL zs j)) ∧ w' = w.drewN n :=
  (intAtC _ a len cap zs j (h.keep (below_drewN (Below.refl _ _) n)) hj).mono fun _ _ ⟨a, b⟩ => ⟨a, b.symm⟩
set_option maxHeartbeats 2000000 in
theorem flatOfC (w : World) (a0 : Option Addr) (len0 cap0 : Nat) (ks : List ByteArray) (a1 : Option Addr) (len1 cap1 : Nat) (vs : List Int) (h0 : Vw w a0 len0 (strV ks)) (h1 : Vw w a1 len1 (intsV vs)) (hl : len0 ≤ 4096) :
    Calls Try.prog 28 #[.slice a0 len0 cap0, .slice a1 len1 cap1] w (SetF w w.heap.size (flatF ks vs len0)) := by
  have H0 := Lib.hid h0
  have H1 := Lib.hid h1
  have HL := Lib.hid (show ks.length = len0 by have := h0.1; simpa [strV] using this)
  clear h0 h1
  go_enter Try.func28, Try.ntmps28
  go_wp2_with fail
  go_loopw [6, 7, 8] (fun k v i wr => ∃ (j n g1 c1 g2 c2 : Nat), j ≤ len0 ∧ i = .int .i64 j ∧ k = .slice (some ⟨g1, 0, none⟩) n c1 ∧ v = .slice (some ⟨g2, 0, none⟩) n c2 ∧ Own2 wr w.heap.size n g1 c1 g2 c2 (flatF ks vs j) ∧ Below w.heap.size w wr) (fun _ _ i _ => len0 - (intOf i).toNat)
  case atStart =>
    refine ⟨0, 0, w.heap.size, 0, w.heap.size + 1, 0, Nat.zero_le _, rfl, rfl, by simp, Own2.start ((Row.made w 9 #[]).alloc _) (Row.made' 3 #[] (by simp)) (Nat.le_refl _) (by omega), ((Below.refl _ _).alloc (Nat.le_refl _) _).alloc (by simp) _⟩
  case round =>
    obtain ⟨j, n, g1, c1, g2, c2, hj, rfl, rfl, rfl, ho, hb⟩ := hrel
    have HO := Lib.hid ho
    have HB := Lib.hid hb
    have hsz := hb.size
    have hnj : n ≤ j := by have := flatF_len ks vs j; rw [ho.len] at this; exact this
    clear ho hb
    by_cases hlt : j < len0
    · obtain ⟨b, o, s, rfl, hbl, hs, hc⟩ := (H0.out.touch (Touch.of_below HB.out (fun _ => False)) (fun _ _ _ _ q => q)).str hlt
      have HS := Lib.hid hs
      clear hs
      go_wp2_with fail
      go_region_with (first
        | (go_at_call 31; refine (intAtC _ a1 len1 cap1 vs j (H1.out.touch (Touch.of_below (by first | exact HB.out | exact HB.out.drew) (fun _ => False)) (fun _ _ _ _ q => q)) (by omega)).mono ?_; rintro e w' ⟨rfl, rfl⟩)
        | (go_at_call 33; refine (setFlatC _ w.heap.size n g1 c1 g2 c2 (flatF ks vs j) s (intAtL vs j) (by first | exact HO.out | exact HO.out.keep (Below.refl _ _).drew) (by omega) (by first | omega | (simp; omega))).mono ?_; rintro e w3 ⟨n3, g3, c3, g4, c4, rfl, ho3, hb3⟩; have HO3 := Lib.hid ho3; have HB3 := Lib.hid hb3; clear ho3 hb3))
      all_goals go_wp2_with fail
      all_goals exact ⟨⟨j + 1, n3, g3, c3, g4, c4, by omega, by go_num, rfl, rfl, by rw [flatF_step HS.out]; exact HO3.out, HB.out.drew.trans HB3.out⟩, by simp [intOf]; omega⟩
    · obtain rfl : j = len0 := by omega
      go_wp2_with fail
      go_ret2
      exact ⟨n, g1, c1, g2, c2, rfl, HO.out, HB.out⟩
end Go.Proofs.Ytdjebcejpachmaa
