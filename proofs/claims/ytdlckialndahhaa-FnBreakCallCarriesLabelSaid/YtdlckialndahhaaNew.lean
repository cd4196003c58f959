/-
  zzlNewWith: the compiler with the names pushed (n001_78).
-/
import Derived.Test.YtdlckialndahhaaVars
namespace Go.Proofs.Ytdlckialndahhaa
set_option linter.unusedVariables false
open Go.ChangeShapes Go.WideShapes Go.ChangeAt Go.RowKit M
theorem zpush2 (w : World) (B c s p i : Nat) (ns ns' : List ByteArray) (nm : ByteArray) (h : Cmp w B c s p ns) (hn : ns.length ≤ 1048576) (hB : B ≤ w.heap.size) (hi : idx nm ns = i) (hp : pushNs ns nm = ns') :
    Calls Try.prog 9 #[.pointer (some ⟨c, 0, none⟩), .string nm] w (VarOut w B c s p i ns') := by
  subst hi hp
  exact zpush w B c s p ns nm h hn hB
theorem newCmp2 (w : World) : Calls Try.prog 24 #[] w fun e w' => (∃ c s p, e = .returned (.pointer (some ⟨c, 0, none⟩)) ∧ Cmp w' w.heap.size c s p []) ∧ Below w.heap.size w w' := newCmp w
/-- The copy of the names, and: nothing that was there has turned. -/
def Ctx (w : World) (C : Nat) (A : Option Addr) (xs : List ByteArray) (wr : World) : Prop := CopyV 9 wr C A (xs.map Value.string) ∧ Below w.heap.size w wr
theorem Ctx.step {w wr w' : World} {C B : Nat} {A : Option Addr} {xs : List ByteArray} (h : Ctx w C A xs wr) (hB : w.heap.size ≤ B) (hb : Below B wr w') (hk : KeepR wr w') : Ctx w C A xs w' :=
  ⟨h.1.keep fun g cs hr => hk g 9 cs hr (by decide) (by decide), h.2.trans (hb.mono hB)⟩
theorem Ctx.drewN {w wr : World} {C : Nat} {A : Option Addr} {xs : List ByteArray} (h : Ctx w C A xs wr) (n : Nat) : Ctx w C A xs (wr.drewN n) := ⟨h.1.keep fun g cs hr => hr.drewN n, below_drewN h.2 n⟩
theorem Ctx.get {w wr : World} {C : Nat} {A : Option Addr} {xs : List ByteArray} (h : Ctx w C A xs wr) {k : Nat} (hk : k < xs.length) : ∃ g, A = some ⟨g, 0, none⟩ ∧ ∀ j s, xs[j]? = some s → wr.cell? ⟨g, j, none⟩ = some (.string s) := by
  obtain ⟨g, hA, _, _, hc⟩ := h.1.get (i := k) (by simpa using hk)
  exact ⟨g, hA, fun j s hj => hc j _ (strs_get hj)⟩
theorem VarOut.cmp {w w' : World} {B c s p i : Nat} {ns : List ByteArray} {e : Ending} (h : VarOut w B c s p i ns e w') : Cmp w' B c s p ns := h.2.1
def dd (l : List ByteArray) : List ByteArray := l.foldl pushNs []
theorem dd_snoc (l : List ByteArray) (x : ByteArray) : dd (l ++ [x]) = pushNs (dd l) x := by simp [dd, List.foldl_append]
theorem mem_pushNs {l : List ByteArray} {x y : ByteArray} : x ∈ pushNs l y ↔ x ∈ l ∨ x = y := by
  by_cases h : y ∈ l
  · rw [pushNs_in h]
    constructor
    · exact .inl
    · rintro (h1 | rfl)
      · exact h1
      · exact h
  · rw [pushNs_out h]
    simp
theorem mem_dd_aux : ∀ (l : List ByteArray) (a : List ByteArray) (x : ByteArray), x ∈ l.foldl pushNs a ↔ x ∈ a ∨ x ∈ l
  | [], a, x => by simp
  | y :: r, a, x => by
    rw [List.foldl_cons, mem_dd_aux r, mem_pushNs, List.mem_cons, or_assoc]
theorem mem_dd {l : List ByteArray} {x : ByteArray} : x ∈ dd l ↔ x ∈ l := by
  unfold dd
  rw [mem_dd_aux]
  simp
theorem len_pushNs (l : List ByteArray) (x : ByteArray) : (pushNs l x).length ≤ l.length + 1 := by
  unfold pushNs
  split <;> simp
theorem len_dd_aux : ∀ (l : List ByteArray) (a : List ByteArray), (l.foldl pushNs a).length ≤ a.length + l.length
  | [], a => by simp
  | y :: r, a => by
    have h1 := len_dd_aux r (pushNs a y)
    have h2 := len_pushNs a y
    rw [List.foldl_cons, List.length_cons]
    omega
theorem len_dd (l : List ByteArray) : (dd l).length ≤ l.length := by
  have := len_dd_aux l []
  simpa [dd] using this
theorem dd_step_in {z : List ByteArray} {k : Nat} {x : ByteArray} (hx : z[k]? = some x) (h : x ∈ z.take k) : dd (z.take (k + 1)) = dd (z.take k) ∧ pushNs (dd (z.take k)) x = dd (z.take (k + 1)) := by
  obtain ⟨h1, h2⟩ := List.getElem?_eq_some_iff.1 hx
  rw [List.take_succ_eq_append_getElem h1, h2, dd_snoc]
  exact ⟨pushNs_in (mem_dd.2 h), rfl⟩
theorem dd_step_out {z : List ByteArray} {k : Nat} {x : ByteArray} (hx : z[k]? = some x) (h : x ∉ z.take k) : (dd (z.take (k + 1))).length = (dd (z.take k)).length + 1 := by
  obtain ⟨h1, h2⟩ := List.getElem?_eq_some_iff.1 hx
  rw [List.take_succ_eq_append_getElem h1, h2, dd_snoc, pushNs_out (fun e => h (mem_dd.1 e))]
  simp
theorem dd_push {z : List ByteArray} {k : Nat} {x : ByteArray} (hx : z[k]? = some x) : pushNs (dd (z.take k)) x = dd (z.take (k + 1)) := by
  obtain ⟨h1, h2⟩ := List.getElem?_eq_some_iff.1 hx
  rw [List.take_succ_eq_append_getElem h1, h2, dd_snoc]
theorem mem_take_of {z : List ByteArray} {j k : Nat} {x : ByteArray} (hj : z[j]? = some x) (hlt : j < k) : x ∈ z.take k := by
  apply List.mem_of_getElem? (i := j)
  rw [List.getElem?_take_of_lt hlt, hj]
set_option maxRecDepth 100000 in
set_option maxHeartbeats 4000000 in
theorem newWith (w w1 : World) (A : Option Addr) (len0 cp : Nat) (z0 : List ByteArray) (hcx : Ctx w w.heap.size A z0 w1) (hl : z0.length = len0) (hle : len0 ≤ 65536) (hs1 : w.heap.size ≤ w1.heap.size) :
    Calls Try.prog 8 #[.slice A len0 cp] w1 fun e w' => (∃ c s p, e = .returned (.pointer (some ⟨c, 0, none⟩)) ∧ Cmp w' w1.heap.size c s p (dd z0)) ∧ Ctx w w.heap.size A z0 w' ∧ w1.heap.size ≤ w'.heap.size := by
  have HX1 := Lib.hid hcx
  have HXL := Lib.hid hl
  clear hcx hl
  go_enter Try.func8, Try.ntmps8
  go_wp2_with fail
  refine (newCmp2 _).mono ?_
  rintro e w2 ⟨⟨c, s, p, rfl, hcm⟩, hb2⟩
  have hs2 := hb2.size
  have HC2 := Lib.hid (HX1.out.step hs1 hb2 (KeepR.below hb2))
  have HM2 := Lib.hid hcm
  clear hcm hb2
  go_wp2_with fail
  go_loopw [4] (fun i wr => ∃ k : Nat, k ≤ len0 ∧ i = .int .i64 k ∧ Cmp wr w1.heap.size c s p (dd (z0.take k)) ∧ Ctx w w.heap.size A z0 wr ∧ w1.heap.size ≤ wr.heap.size) (fun i _ => len0 - (intOf i).toNat)
  case atStart => exact ⟨0, Nat.zero_le _, rfl, HM2.out, HC2.out, hs2⟩
  case round =>
    obtain ⟨k, hk, rfl, hcm, hcx, hsz⟩ := hrel
    have HM := Lib.hid hcm
    have HX := Lib.hid hcx
    have hdl := len_dd (z0.take k)
    have htl : (z0.take k).length ≤ k := by rw [List.length_take]; omega
    clear hcm hcx
    by_cases hlt : k < len0
    · obtain ⟨g, hA, hcell⟩ := HX.out.get (k := k) (by rw [HXL.out]; exact hlt)
      obtain ⟨x, hx⟩ : ∃ x, z0[k]? = some x := ⟨_, List.getElem?_eq_getElem (by rw [HXL.out]; exact hlt)⟩
      have cx := hcell k x hx
      subst hA
      have HX0 := Lib.hid hx
      clear hcell hx
      go_wp2_with fail
      refine (zpush2 _ _ c s p _ _ _ x HM.out (by omega) hsz rfl rfl).mono ?_
      rintro e w4 ⟨rfl, hcm, hb4, hk4⟩
      have hs4 := hb4.size
      rw [dd_push HX0.out] at hcm
      have HM4 := Lib.hid hcm
      have HX4 := Lib.hid (HX.out.step hs1 hb4 hk4)
      clear hcm hb4 hk4 cx
      go_wp2_with fail
      exact ⟨⟨k + 1, by omega, by go_num, HM4.out, HX4.out, by omega⟩, by simp [intOf]; omega⟩
    · obtain rfl : k = len0 := by omega
      have htk : z0.take k = z0 := List.take_of_length_le (by rw [HXL.out]; exact Nat.le_refl _)
      have HM5 := Lib.hid (by rw [htk] at HM; exact HM.out : Cmp wr w1.heap.size c s p (dd z0))
      clear htk
      go_wp2_with fail
      go_ret
      exact ⟨⟨c, s, p, rfl, HM5.out⟩, HX.out, hsz⟩
end Go.Proofs.Ytdlckialndahhaa
