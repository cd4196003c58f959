/-
  Contracts of gojq's compiler's scopes (n001_78): the top scope's variables as a list of names.
-/
import Derived.Test.YtdlckialndahhaaBase
import Derived.Deep.AppendLies
import Derived.Deep.RegionLaw
import Derived.Laws.OwnMore
import Derived.OwnWalk
import Derived.BigRegion
namespace Go.Proofs.Ytdlckialndahhaa
set_option linter.unusedVariables false
open Go.ChangeShapes Go.WideShapes Go.ChangeAt Go.RowKit M
def ptr (b : Nat) : Value := .pointer (some ⟨b, 0, none⟩)
/-- The compiler at block c: its one scope's pointer in row s, the scope at block p; its variables' names ns (variable i: slot {1, i}, depth 0). -/
def Cmp (w : World) (B c s p : Nat) (ns : List ByteArray) : Prop :=
  ∃ (cc : Array Value) (A : Option Addr) (cap : Nat) (qs : List Nat) (fv : Value), Row w c 82 cc ∧ cc[8]? = some (.slice (some ⟨s, 0, none⟩) 1 1) ∧ Row w s 58 #[ptr p] ∧
    Row w p 99 #[.slice A ns.length cap, fv, .int .i64 1, .int .i64 0, .int .i64 ns.length] ∧ B ≤ p ∧ qs.length = ns.length ∧
    w.ownsRow B 103 1 (.slice A ns.length cap) ns.length (qs.map ptr) ∧ ∀ (i q : Nat) (n : ByteArray), qs[i]? = some q → ns[i]? = some n → Row w q 105 #[.string n, .int .i64 1, .int .i64 (i : Nat), .int .i64 0]
set_option maxHeartbeats 1000000 in
theorem newCmp (w : World) : Calls Try.prog 24 #[] w fun e w' => (∃ c s p, e = .returned (ptr c) ∧ Cmp w' w.heap.size c s p []) ∧ Below w.heap.size w w' := by
  go_enter Try.func24, Try.ntmps24
  go_wp2
  go_ret
  exact ⟨⟨_, _, _, rfl, _, none, 0, [], .slice none 0 0, (((Row.made' _ _ rfl).alloc _).alloc _).alloc _, rfl, Row.made' _ _ (by simp), (Row.made' _ _ (by simp)).alloc _, by omega, rfl, World.ownsRow_nil _ _ _ _, fun i q n hq => by simp at hq⟩,
    ((((Below.refl _ _).alloc (Nat.le_refl _) _).alloc (by simp) _).alloc (by simp; omega) _).alloc (by simp; omega) _⟩
theorem far2 {w2 w3 : World} {p : Nat} {cs es fs : Array Value} {t e f : TypeId} {row : Option Nat} (r : Row w2 p t cs) (hg : ((w2.alloc (.cells es e)).alloc (.cells fs f)).drew.grownBy w3 row) (hne : row ≠ some p) : Row w3 p t cs := by
  have h1 : Row ((w2.alloc (.cells es e)).alloc (.cells fs f)).drew p t cs := ((r.alloc _).alloc _).drew
  exact (hg.block p h1.lt (Ne.symm hne)).trans h1
theorem bptr_info : (Try.prog.info? 103).map (fun i => (i.zero, i.size, i.bytes)) = some (some (.pointer none), 1, 8) := by kernel_rfl
theorem touch_set2 {S : Nat → Prop} {w w3 : World} {p r : Nat} (ht : Touch S w w3) (hp : S p) (hr : r < w.heap.size → S r) (u v1 v2 : Value) :
    Touch S w (((w3.setCell ⟨p, 0, none⟩ u).setCell ⟨r, 0, none⟩ v1).setCell ⟨r, 1, none⟩ v2) :=
  ((ht.setCell (p := ⟨p, 0, none⟩) (fun _ => hp) _).setCell (p := ⟨r, 0, none⟩) (fun h => hr h) _).setCell (p := ⟨r, 1, none⟩) (fun h => hr h) _
/-- Every block that is neither a scope nor a row of variables is as it was. -/
def KeepR (w w' : World) : Prop := ∀ (g : Nat) (t : TypeId) (cs : Array Value), Row w g t cs → t ≠ 99 → t ≠ 103 → Row w' g t cs
theorem createVar_end {w w2 w3 : World} {B c s p r g2 cap2 cap : Nat} {ns : List ByteArray} {nm : ByteArray} {cc : Array Value} {A : Option Addr} {qs : List Nat} {fv : Value} {u1 u2 : Value}
    (hc : Row w c 82 cc) (hc8 : cc[8]? = some (.slice (some ⟨s, 0, none⟩) 1 1)) (hs : Row w s 58 #[ptr p])
    (hp : Row w p 99 #[.slice A ns.length cap, fv, .int .i64 1, .int .i64 0, .int .i64 ns.length]) (hBp : B ≤ p) (hB : B ≤ w.heap.size) (hql : qs.length = ns.length)
    (ho : w.ownsRow B 103 1 (.slice A ns.length cap) ns.length (qs.map ptr)) (hq : ∀ (i q : Nat) (n : ByteArray), qs[i]? = some q → ns[i]? = some n → Row w q 105 #[.string n, .int .i64 1, .int .i64 (i : Nat), .int .i64 0])
    (t2 : Touch (· = p) w w2) (r2 : Row w2 p 99 #[.slice A ns.length cap, fv, .int .i64 1, .int .i64 0, .int .i64 (↑ns.length + 1)]) (a2 : Row w2 r 28 #[u1, u2]) (hr : w.heap.size ≤ r) (hsz : w.heap.size ≤ w2.heap.size)
    (o2 : w2.ownsRow B 103 1 (.slice A ns.length cap) ns.length (qs.map ptr))
    (hown : w3.ownsRow B 103 1 (.slice (some ⟨g2, 0, none⟩) (ns.length + 1) cap2) (ns.length + 1) (qs.map ptr ++ [ptr w2.heap.size]))
    (hgrow : ((w2.alloc (.cells #[.string nm, .int .i64 1, .int .i64 ns.length, .int .i64 0] 105)).alloc (.cells #[ptr w2.heap.size] 103)).drew.grownBy w3 (Value.slice A ns.length cap).ownBlock) :
    Cmp (((w3.setCell ⟨p, 0, none⟩ (.slice (some ⟨g2, 0, none⟩) (ns.length + 1) cap2)).setCell ⟨r, 0, none⟩ (.int .i64 1)).setCell ⟨r, 1, none⟩ (.int .i64 ns.length)) B c s p (ns ++ [nm]) ∧
    Below B w (((w3.setCell ⟨p, 0, none⟩ (.slice (some ⟨g2, 0, none⟩) (ns.length + 1) cap2)).setCell ⟨r, 0, none⟩ (.int .i64 1)).setCell ⟨r, 1, none⟩ (.int .i64 ns.length)) ∧
    KeepR w (((w3.setCell ⟨p, 0, none⟩ (.slice (some ⟨g2, 0, none⟩) (ns.length + 1) cap2)).setCell ⟨r, 0, none⟩ (.int .i64 1)).setCell ⟨r, 1, none⟩ (.int .i64 ns.length)) := by
  have hd : ∀ k, (Value.slice A ns.length cap).ownBlock = some k → B ≤ k := fun k hk => (ho.lt k hk).1
  have hnp : (Value.slice A ns.length cap).ownBlock ≠ some p := own_ne ho hp (by decide)
  have t3 : Touch (fun k => k = p ∨ (Value.slice A ns.length cap).ownBlock = some k) w w3 := (((t2.mono (fun k _ h => .inl h)).alloc _).alloc _).drew.grown hgrow (fun k hk _ => .inr hk)
  have tf := touch_set2 (r := r) t3 (.inl rfl) (fun h => absurd h (by omega)) (.slice (some ⟨g2, 0, none⟩) (ns.length + 1) cap2) (.int .i64 1) (.int .i64 ns.length)
  have hrp : r ≠ p := by have := hp.lt; omega
  have hnr : (Value.slice (some ⟨g2, 0, none⟩) (ns.length + 1) cap2).ownBlock ≠ some r := own_ne hown (far2 a2 hgrow (own_ne o2 a2 (by decide))) (by decide)
  have hnp2 : (Value.slice (some ⟨g2, 0, none⟩) (ns.length + 1) cap2).ownBlock ≠ some p := own_ne hown (far2 r2 hgrow (own_ne o2 r2 (by decide))) (by decide)
  have keep : ∀ {g : Nat} {t : TypeId} {cs : Array Value}, Row w g t cs → t ≠ 99 → t ≠ 103 → Row (((w3.setCell ⟨p, 0, none⟩ (.slice (some ⟨g2, 0, none⟩) (ns.length + 1) cap2)).setCell ⟨r, 0, none⟩ (.int .i64 1)).setCell ⟨r, 1, none⟩ (.int .i64 ns.length)) g t cs := by
    intro g t cs hrow h1 h2
    refine hrow.touch tf ?_
    rintro (rfl | h)
    · exact Row.ne_ hrow hp h1 rfl
    · exact own_ne ho hrow (Ne.symm h2) h
  refine ⟨⟨cc, some ⟨g2, 0, none⟩, cap2, qs ++ [w2.heap.size], fv, keep hc (by decide) (by decide), hc8, keep hs (by decide) (by decide), ?_, hBp, by simp [hql], ?_, ?_⟩, ?_, fun g t cs h h1 h2 => keep h h1 h2⟩
  · have h := (far2 r2 hgrow (own_ne o2 r2 (by decide))).put 0 (.slice (some ⟨g2, 0, none⟩) (ns.length + 1) cap2)
    have h2 := (h.other (p := ⟨r, 0, none⟩) (Ne.symm hrp) (.int .i64 1)).other (p := ⟨r, 1, none⟩) (Ne.symm hrp) (.int .i64 ns.length)
    simpa using h2
  · have h := own_touch hown (touch_set2 (r := r) (S := fun k => k = p ∨ k = r) (Touch.refl _ w3) (.inl rfl) (fun _ => .inr rfl) (.slice (some ⟨g2, 0, none⟩) (ns.length + 1) cap2) (.int .i64 1) (.int .i64 ns.length)) (fun k hk h => by
        rcases h with rfl | rfl
        · exact hnp2 hk
        · exact hnr hk)
    simpa using h
  · intro i q n hi hn
    by_cases hlt : i < qs.length
    · rw [List.getElem?_append_left hlt] at hi
      rw [List.getElem?_append_left (by omega)] at hn
      exact keep (hq i q n hi hn) (by decide) (by decide)
    · rw [List.getElem?_append_right (by omega)] at hi
      rw [List.getElem?_append_right (by omega)] at hn
      have hi0 : i - qs.length = 0 := by
        have := (List.getElem?_eq_some_iff.1 hi).1
        simp at this
        omega
      have hn0 : i - ns.length = 0 := by omega
      rw [hi0] at hi
      rw [hn0] at hn
      simp at hi hn
      subst hi hn
      obtain rfl : i = ns.length := by omega
      have h0 : Row ((w2.alloc (.cells #[.string nm, .int .i64 1, .int .i64 ns.length, .int .i64 0] 105)).alloc (.cells #[ptr w2.heap.size] 103)).drew w2.heap.size 105 #[.string nm, .int .i64 1, .int .i64 ns.length, .int .i64 0] := ((Row.made _ _ _).alloc _).drew
      have h1 : Row w3 w2.heap.size 105 #[.string nm, .int .i64 1, .int .i64 ns.length, .int .i64 0] := (hgrow.block _ h0.lt (fun e => absurd (o2.lt _ e.symm).2 (by omega))).trans h0
      have lp := r2.lt
      have lr := a2.lt
      exact ((h1.other (p := ⟨p, 0, none⟩) (by show w2.heap.size ≠ p; omega) _).other (p := ⟨r, 0, none⟩) (by show w2.heap.size ≠ r; omega) _).other (p := ⟨r, 1, none⟩) (by show w2.heap.size ≠ r; omega) _
  · refine tf.below hB ?_
    rintro k hk (rfl | h)
    · omega
    · have := hd k h
      omega
set_option maxRecDepth 100000 in
set_option maxHeartbeats 2000000 in
theorem createVar (w : World) (B c s p : Nat) (ns : List ByteArray) (nm : ByteArray) (h : Cmp w B c s p ns) (hn : ns.length ≤ 1048576) (hB : B ≤ w.heap.size) :
    Calls Try.prog 29 #[ptr c, .string nm] w fun e w' => e = .returned (.agg #[.int .i64 1, .int .i64 ns.length]) ∧ Cmp w' B c s p (ns ++ [nm]) ∧ Below B w w' ∧ KeepR w w' := by
  obtain ⟨cc, A, cap, qs, fv, hc, hc8, hs, hp, hBp, hql, ho, hq⟩ := h
  obtain ⟨i0, hi0, hz0, hz1, hz2⟩ := info_parts bptr_info
  have k8 := (hc.cell 8).trans hc8
  have s0 := hs.cell 0
  have p2 := hp.cell 2
  have p3 := hp.cell 3
  have p4 := hp.cell 4
  simp only [List.getElem?_toArray, List.getElem?_cons_succ, List.getElem?_cons_zero] at s0 p2 p3 p4
  have z4 := hp.free 4
  have z0 := hp.free 0
  have lc := hc.lt
  have ls := hs.lt
  have lp := hp.lt
  have HC := Lib.hid hc
  have HC8 := Lib.hid hc8
  have HS := Lib.hid hs
  have HP := Lib.hid hp
  have HO := Lib.hid ho
  have HQ := Lib.hid hq
  have HQL := Lib.hid hql
  have HI := Lib.hid hi0
  have HZ0 := Lib.hid hz0
  have HZ1 := Lib.hid hz1
  have HZ2 := Lib.hid hz2
  unfold ptr at *
  clear hc hc8 hs hp ho hq hql hi0 hz0 hz1 hz2
  go_enter Try.func29, Try.ntmps29
  go_wp2
  go_quiet (fail)
  go_wp2
  go_region
  all_goals go_wp2
  have hsz : ((((w.alloc (.cells #[.int .i64 0, .int .i64 0] 28)).drewN (nq + 1)).setCell ⟨p, 4, none⟩ (.int .i64 (↑ns.length + 1))).alloc (.cells #[.int .i64 1, .int .i64 ns.length] 28)).heap.size = w.heap.size + 2 := by simp [World.setCell]
  have r2 : Row ((((w.alloc (.cells #[.int .i64 0, .int .i64 0] 28)).drewN (nq + 1)).setCell ⟨p, 4, none⟩ (.int .i64 (↑ns.length + 1))).alloc (.cells #[.int .i64 1, .int .i64 ns.length] 28)) p 99 #[.slice A ns.length cap, fv, .int .i64 1, .int .i64 0, .int .i64 (↑ns.length + 1)] := (((HP.out.alloc _).drewN _).put 4 _).alloc _
  have a2 : Row ((((w.alloc (.cells #[.int .i64 0, .int .i64 0] 28)).drewN (nq + 1)).setCell ⟨p, 4, none⟩ (.int .i64 (↑ns.length + 1))).alloc (.cells #[.int .i64 1, .int .i64 ns.length] 28)) w.heap.size 28 #[.int .i64 0, .int .i64 0] := (((Row.made' _ _ rfl).drewN _).other (p := ⟨p, 4, none⟩) (by show w.heap.size ≠ p; omega) _).alloc _
  have b2 : Row ((((w.alloc (.cells #[.int .i64 0, .int .i64 0] 28)).drewN (nq + 1)).setCell ⟨p, 4, none⟩ (.int .i64 (↑ns.length + 1))).alloc (.cells #[.int .i64 1, .int .i64 ns.length] 28)) (w.heap.size + 1) 28 #[.int .i64 1, .int .i64 ns.length] := Row.made' _ _ (by simp [World.setCell])
  have t2 : Touch (· = p) w ((((w.alloc (.cells #[.int .i64 0, .int .i64 0] 28)).drewN (nq + 1)).setCell ⟨p, 4, none⟩ (.int .i64 (↑ns.length + 1))).alloc (.cells #[.int .i64 1, .int .i64 ns.length] 28)) := (((((Touch.refl (· = p) w).alloc _).drewN _).setCell (p := ⟨p, 4, none⟩) (fun _ => rfl) _).alloc _)
  obtain ⟨w2, hw2⟩ : ∃ w2, w2 = ((((w.alloc (.cells #[.int .i64 0, .int .i64 0] 28)).drewN (nq + 1)).setCell ⟨p, 4, none⟩ (.int .i64 (↑ns.length + 1))).alloc (.cells #[.int .i64 1, .int .i64 ns.length] 28)) := ⟨_, rfl⟩
  rw [← hw2] at hsz r2 a2 b2 t2 ⊢
  clear hw2 k8 s0 p2 p3 p4 z4 z0
  have o2 := own_touch HO.out t2 (fun k hk hkp => own_ne HO.out HP.out (by decide) (by rw [hk, hkp]))
  have p0 := r2.cell 0
  have p3 := r2.cell 3
  have v0 := b2.cell 0
  have v1 := b2.cell 1
  simp only [List.getElem?_toArray, List.getElem?_cons_succ, List.getElem?_cons_zero] at p0 p3 v0 v1
  have z0 := r2.free 0
  have lp2 := r2.lt
  have la2 := a2.lt
  have lb2 := b2.lt
  have HSZ := Lib.hid hsz
  have R2 := Lib.hid r2
  have A2 := Lib.hid a2
  have B2 := Lib.hid b2
  have O2 := Lib.hid o2
  have T2 := Lib.hid t2
  have hBs : B ≤ w2.heap.size := by omega
  clear hsz r2 a2 b2 o2 t2
  go_region_law ((refine step_append_lies _ (by rfl) (.tmp 39) (.tmp 48) 96 (by rfl) B 103 i0 _ 1 8 Try.underlying96 HI.out HZ0.out HZ1.out HZ2.out rfl (by omega) (.slice A ns.length cap) ns.length (qs.map fun b => .pointer (some ⟨b, 0, none⟩)) (by simp [Act.eval]) ((O2.out.drew.alloc _).alloc _) ⟨w2.heap.size + 1, 0, none⟩ 1 1 [.pointer (some ⟨w2.heap.size, 0, none⟩)] (by simp [Act.eval]) rfl (World.news_of_block (cs := #[.pointer (some ⟨w2.heap.size, 0, none⟩)]) (t := 103) (fr := (0, 0)) (Row.made' 103 #[.pointer (some ⟨w2.heap.size, 0, none⟩)] (by simp))) (by simp [Value.oneCell']) (by omega) (by simp only [maxLen]; omega) (by omega) (Nat.le_trans hBs (by simp; omega)) _ rfl ?_); intro g2 cap2 w3 hown hgrow hat hlt3; have d0 := far2 R2.out hgrow (own_ne O2.out R2.out (by decide)); have z3 := d0.free 0; have d1 := d0.cell 0; have D0 := Lib.hid d0; have HOWN := Lib.hid hown; have HGROW := Lib.hid hgrow; have HAT := Lib.hid hat; have a3 := far2 A2.out hgrow (own_ne O2.out A2.out (by decide)); have b3 := far2 B2.out hgrow (own_ne O2.out B2.out (by decide)); have x0 := a3.cell 0; have x1 := a3.cell 1; have y0 := b3.cell 0; have y1 := b3.cell 1; have x2 := a3.free 0; have x3 := a3.free 1; have A3 := Lib.hid a3; clear d0 hown hgrow hat a3 b3)
  all_goals go_wp2
  all_goals
    have hrp : w.heap.size ≠ p := by omega
    have h1 := (A3.out.other (p := ⟨p, 0, none⟩) hrp (.slice (some ⟨g2, 0, none⟩) (ns.length + 1) cap2)).put 0 (.int .i64 1)
    have h2 := h1.put 1 (.int .i64 ns.length)
    have e0 := h1.cell 0
    have e1 := h2.cell 1
    clear h1 h2
    simp only [List.setIfInBounds_toArray, List.set_cons_zero, List.set_cons_succ, List.getElem?_toArray, List.getElem?_cons_succ, List.getElem?_cons_zero] at e0 e1
    exact bodyPost_ret (v := .agg #[.int .i64 1, .int .i64 ns.length]) (by simp [results, Try.results29, go_sem, e0, e1]) rfl ⟨rfl, createVar_end HC.out HC8.out HS.out HP.out hBp hB HQL.out HO.out HQ.out T2.out R2.out A2.out (Nat.le_refl _) (by omega) O2.out HOWN.out HGROW.out⟩
end Go.Proofs.Ytdlckialndahhaa
