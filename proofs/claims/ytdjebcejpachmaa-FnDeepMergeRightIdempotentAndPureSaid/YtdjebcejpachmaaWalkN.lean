/-
  The walk of the law FnDeepMergeRightIdempotentAndPure (n001_79), the arguments as they come in.
-/
import Derived.Test.YtdjebcejpachmaaWalkM
namespace Go.Proofs.Ytdjebcejpachmaa
set_option linter.unusedVariables false
set_option linter.unusedSimpArgs false
open Go.ChangeShapes Go.WideShapes Go.ChangeAt Go.RowKit Go.Deep M
def RS (w : World) (cs : List Value) (x : Bool × List ByteArray) : Prop := ∃ a c, cs = [.slice a x.2.length c] ∧ a.isSome = x.1 ∧ SliceOf 1 IsStr w a x.2.length x.2
def RI (w : World) (cs : List Value) (x : Bool × List Int) : Prop := ∃ a c, cs = [.slice a x.2.length c] ∧ a.isSome = x.1 ∧ SliceOf 1 (IsInt .i64) w a x.2.length x.2
section
variable {H : Type} {enc : TypeId × Value → H} {P : Program} {w : World} {base : Nat} {spare : Nat → Bool} {held : Bool}
theorem read_strs {t e : TypeId} (ht : P.underlying t = some (.slice e)) (hc : P.cellsOf e = 1) (he : P.underlying e = some .string) (n : Nat) (cs : List Value) (y : DataW H × List MemPlace) (h : DataW.trod enc P w base spare held n t cs = some y) : ∃ x : Bool × List ByteArray, RS w cs x := by
  rcases open_slice ht h with ⟨hcs, _⟩ | ⟨ad, l, c, m, n', D, Pl, hcs, _⟩
  · exact ⟨(false, []), none, 0, hcs, rfl, rfl, Nat.zero_le _, fun q => absurd q (Nat.lt_irrefl 0)⟩
  · subst hcs
    obtain ⟨xs, hx⟩ := open_sliceOf ht hc (by decide) (read_str he) h
    exact ⟨(true, xs), some ad, c, by rw [hx.lt.1], rfl, by rw [hx.lt.1]; exact hx⟩
theorem read_ints {t e : TypeId} (ht : P.underlying t = some (.slice e)) (hc : P.cellsOf e = 1) (he : P.underlying e = some (.int .i64)) (n : Nat) (cs : List Value) (y : DataW H × List MemPlace) (h : DataW.trod enc P w base spare held n t cs = some y) : ∃ x : Bool × List Int, RI w cs x := by
  rcases open_slice ht h with ⟨hcs, _⟩ | ⟨ad, l, c, m, n', D, Pl, hcs, _⟩
  · exact ⟨(false, []), none, 0, hcs, rfl, rfl, Nat.zero_le _, fun q => absurd q (Nat.lt_irrefl 0)⟩
  · subst hcs
    obtain ⟨xs, hx⟩ := open_sliceOf ht hc (by decide) (read_int he) h
    exact ⟨(true, xs), some ad, c, by rw [hx.lt.1], rfl, by rw [hx.lt.1]; exact hx⟩
end
theorem nest_of {α : Type} {R : List Value → α → Prop} {w : World} {a : Option Addr} {len : Nat} {zs : List α} (h : SliceOf 1 R w a len zs) : ∃ us : List Value, Vw w a len us ∧ ∀ (i : Nat) (u : Value) (x : α), us[i]? = some u → zs[i]? = some x → R [u] x := by
  obtain ⟨us, hl, hu⟩ := choose_list (p := fun i (u : Value) => ∃ b o x, a = some ⟨b, o, none⟩ ∧ b < w.heap.size ∧ zs[i]? = some x ∧ w.cell? ⟨b, o + i, none⟩ = some u ∧ R [u] x) len (fun i hi => by
    obtain ⟨b, o, x, cs, ha, hb, hx, hc, hcell, hR⟩ := h.get hi
    obtain ⟨u, rfl⟩ : ∃ u, cs = [u] := by
      match cs, hc with
      | [u], _ => exact ⟨u, rfl⟩
    have := hcell 0 u rfl
    rw [Nat.mul_one, Nat.add_zero] at this
    exact ⟨u, b, o, x, ha, hb, hx, this, hR⟩)
  refine ⟨us, ⟨hl, fun hlen => ?_⟩, fun i u x hui hx => ?_⟩
  · obtain ⟨b, o, x, ha, hb, _⟩ := hu 0 us[0] (List.getElem?_eq_getElem (by omega))
    refine ⟨b, o, ha, hb, fun i v hv => ?_⟩
    obtain ⟨b', o', x', ha', _, _, hc, _⟩ := hu i v hv
    rw [ha] at ha'
    injection ha' with ha'
    injection ha' with h1 h2
    subst h1 h2
    exact hc
  · obtain ⟨b, o, x', _, _, hx', _, hR⟩ := hu i u hui
    rw [hx] at hx'
    injection hx' with hx'
    subst hx'
    exact hR
theorem nest_strs {w : World} {a : Option Addr} {len : Nat} {zs : NK} (h : SliceOf 1 (RS w) w a len zs) : ∃ us : List Value, Vw w a len us ∧ NV w us (nkV zs) := by
  obtain ⟨us, hv, hR⟩ := nest_of h
  refine ⟨us, hv, by rw [hv.1]; simp [nkV, h.lt.1], fun i u x hu hx => ?_⟩
  unfold nkV at hx
  rw [List.getElem?_map] at hx
  obtain ⟨y, hy, rfl⟩ := Option.map_eq_some_iff.1 hx
  obtain ⟨a', c, he, hs, hsl⟩ := hR i u y hu hy
  injection he with he
  have hlen : (strV y.2).length = y.2.length := by simp [strV]
  refine ⟨a', c, by rw [hlen]; exact he, hs, ?_⟩
  rw [hlen]
  exact Vw.of_strs hsl
theorem nest_ints {w : World} {a : Option Addr} {len : Nat} {zs : NI} (h : SliceOf 1 (RI w) w a len zs) : ∃ us : List Value, Vw w a len us ∧ NV w us (niV zs) := by
  obtain ⟨us, hv, hR⟩ := nest_of h
  refine ⟨us, hv, by rw [hv.1]; simp [niV, h.lt.1], fun i u x hu hx => ?_⟩
  unfold niV at hx
  rw [List.getElem?_map] at hx
  obtain ⟨y, hy, rfl⟩ := Option.map_eq_some_iff.1 hx
  obtain ⟨a', c, he, hs, hsl⟩ := hR i u y hu hy
  injection he with he
  have hlen : (intsV y.2).length = y.2.length := by simp [intsV]
  refine ⟨a', c, by rw [hlen]; exact he, hs, ?_⟩
  rw [hlen]
  exact Vw.of_ints hsl
theorem fnDeepMergeRightIdempotentAndPure.walk (a0 : Option Addr) (len0 cap0 : Nat) (z0 : List (ByteArray)) (a1 : Option Addr) (len1 cap1 : Nat) (z1 : List (Int)) (a2 : Option Addr) (len2 cap2 : Nat) (z2 : List (Bool × List ByteArray)) (a3 : Option Addr) (len3 cap3 : Nat) (z3 : List (Bool × List Int)) (a4 : Option Addr) (len4 cap4 : Nat) (z4 : List (ByteArray)) (a5 : Option Addr) (len5 cap5 : Nat) (z5 : List (Int)) (a6 : Option Addr) (len6 cap6 : Nat) (z6 : List (Bool × List ByteArray)) (a7 : Option Addr) (len7 cap7 : Nat) (z7 : List (Bool × List Int)) (w : World) (w0 : SliceOf 1 (IsStr) w a0 len0 z0) (w1 : SliceOf 1 (IsInt .i64) w a1 len1 z1) (w2 : SliceOf 1 (RS w) w a2 len2 z2) (w3 : SliceOf 1 (RI w) w a3 len3 z3) (w4 : SliceOf 1 (IsStr) w a4 len4 z4) (w5 : SliceOf 1 (IsInt .i64) w a5 len5 z5) (w6 : SliceOf 1 (RS w) w a6 len6 z6) (w7 : SliceOf 1 (RI w) w a7 len7 z7) :
    Calls Try.prog 4 #[.slice a0 len0 cap0, .slice a1 len1 cap1, .slice a2 len2 cap2, .slice a3 len3 cap3, .slice a4 len4 cap4, .slice a5 len5 cap5, .slice a6 len6 cap6, .slice a7 len7 cap7] w fun e w' => e = .returned (.bool true) ∧ Below w.heap.size w w'
 := by
  obtain ⟨us2, v2, n2⟩ := nest_strs w2
  obtain ⟨us3, v3, n3⟩ := nest_ints w3
  obtain ⟨us6, v6, n6⟩ := nest_strs w6
  obtain ⟨us7, v7, n7⟩ := nest_ints w7
  have l0 := w0.lt.2
  have l1 := w1.lt.2
  have l2 := w2.lt.2
  have l3 := w3.lt.2
  have l4 := w4.lt.2
  have l5 := w5.lt.2
  have l6 := w6.lt.2
  have l7 := w7.lt.2
  unfold maxLen at l0 l1 l2 l3 l4 l5 l6 l7
  exact merge_main a0 len0 cap0 z0 a1 len1 cap1 z1 a2 len2 cap2 us2 z2 a3 len3 cap3 us3 z3 a4 len4 cap4 z4 a5 len5 cap5 z5 a6 len6 cap6 us6 z6 a7 len7 cap7 us7 z7 w ⟨Vw.of_strs w0, Vw.of_ints w1, v2, n2, v3, n3⟩ ⟨Vw.of_strs w4, Vw.of_ints w5, v6, n6, v7, n7⟩ (by omega) (by omega) (by omega) (by omega) (by omega) (by omega) (by omega) (by omega)
end Go.Proofs.Ytdjebcejpachmaa
