/-
  zzlNewWith with no codes yet (n001_78).
-/
import Derived.Test.YtdlckialndahhaaRd
import Derived.Test.YtdlckialndahhaaMod
namespace Go.Proofs.Ytdlckialndahhaa
set_option linter.unusedVariables false
set_option linter.unusedSimpArgs false
open Go.ChangeShapes Go.WideShapes Go.ChangeAt Go.RowKit M
/-- No code yet. -/
def Cod0 (w : World) (B c : Nat) : Prop := ∃ cc : Array Value, Row w c 82 cc ∧ cc[5]? = some (.slice none 0 0) ∧ B ≤ c
theorem Cod0.cod {w : World} {B c : Nat} (h : Cod0 w B c) : Cod w B c [] := by
  obtain ⟨cc, hr, h5, hB⟩ := h
  exact ⟨cc, none, 0, hr, h5, hB, World.ownsRow_nil _ _ _ _⟩
theorem Cod0.keep {w w' : World} {B c : Nat} (h : Cod0 w B c) (hk : KeepR w w') : Cod0 w' B c := by
  obtain ⟨cc, hr, h5, hB⟩ := h
  exact ⟨cc, hk _ _ _ hr (by decide) (by decide), h5, hB⟩
set_option maxHeartbeats 1000000 in
theorem newCmp3 (w : World) : Calls Try.prog 24 #[] w fun e w' => (∃ c s p, e = .returned (.pointer (some ⟨c, 0, none⟩)) ∧ Cmp w' w.heap.size c s p [] ∧ Cod0 w' w.heap.size c) ∧ Below w.heap.size w w' := by
  go_enter Try.func24, Try.ntmps24
  go_wp2
  go_ret
  exact ⟨⟨_, _, _, rfl, ⟨_, none, 0, [], .slice none 0 0, (((Row.made' _ _ rfl).alloc _).alloc _).alloc _, rfl, Row.made' _ _ (by simp), (Row.made' _ _ (by simp)).alloc _, by omega, rfl, World.ownsRow_nil _ _ _ _, fun i q n hq => by simp at hq⟩, ⟨_, (((Row.made' _ _ rfl).alloc _).alloc _).alloc _, rfl, Nat.le_refl _⟩⟩,
    ((((Below.refl _ _).alloc (Nat.le_refl _) _).alloc (by simp) _).alloc (by simp; omega) _).alloc (by simp; omega) _⟩
set_option maxRecDepth 100000 in
set_option maxHeartbeats 4000000 in
theorem newWith3 (w w1 : World) (A : Option Addr) (len0 cp : Nat) (z0 : List ByteArray) (hcx : Ctx w w.heap.size A z0 w1) (hl : z0.length = len0) (hle : len0 ≤ 65536) (hs1 : w.heap.size ≤ w1.heap.size) :
    Calls Try.prog 8 #[.slice A len0 cp] w1 fun e w' => (∃ c s p, e = .returned (.pointer (some ⟨c, 0, none⟩)) ∧ Cmp w' w1.heap.size c s p (dd z0) ∧ Cod0 w' w1.heap.size c) ∧ Ctx w w.heap.size A z0 w' ∧ w1.heap.size ≤ w'.heap.size := by
  have HX1 := Lib.hid hcx
  have HXL := Lib.hid hl
  clear hcx hl
  go_enter Try.func8, Try.ntmps8
  go_wp2_with fail
  refine (newCmp3 _).mono ?_
  rintro e w2 ⟨⟨c, s, p, rfl, hcm, hc0⟩, hb2⟩
  have hs2 := hb2.size
  have HC2 := Lib.hid (HX1.out.step hs1 hb2 (KeepR.below hb2))
  have HM2 := Lib.hid hcm
  have HK2 := Lib.hid hc0
  clear hcm hb2 hc0
  go_wp2_with fail
  go_loopw [4] (fun i wr => ∃ k : Nat, k ≤ len0 ∧ i = .int .i64 k ∧ Cmp wr w1.heap.size c s p (dd (z0.take k)) ∧ Ctx w w.heap.size A z0 wr ∧ w1.heap.size ≤ wr.heap.size ∧ Cod0 wr w1.heap.size c) (fun i _ => len0 - (intOf i).toNat)
  case atStart => exact ⟨0, Nat.zero_le _, rfl, HM2.out, HC2.out, hs2, HK2.out⟩
  case round =>
    obtain ⟨k, hk, rfl, hcm, hcx, hsz, hc0⟩ := hrel
    have HM := Lib.hid hcm
    have HX := Lib.hid hcx
    have HK := Lib.hid hc0
    have hdl := len_dd (z0.take k)
    have htl : (z0.take k).length ≤ k := by rw [List.length_take]; omega
    clear hcm hcx hc0
    by_cases hlt : k < len0
    · obtain ⟨g, hA, hcell⟩ := HX.out.get (k := k) (by rw [HXL.out]; exact hlt)
      obtain ⟨x, hx⟩ : ∃ x, z0[k]? = some x := ⟨_, List.getElem?_eq_getElem (by rw [HXL.out]; exact hlt)⟩
      have cx := hcell k x hx
      subst hA
      have HX0 := Lib.hid hx
      clear hcell hx
      go_wp2_with fail
      refine (zpush2 _ _ c s p _ _ _ x HM.out (by omega) hsz rfl rfl).mono ?_
      rintro e w4 ⟨rfl, hcm, hb4, hk4⟩
      have hs4 := hb4.size
      rw [dd_push HX0.out] at hcm
      have HM4 := Lib.hid hcm
      have HX4 := Lib.hid (HX.out.step hs1 hb4 hk4)
      have HK4 := Lib.hid (HK.out.keep hk4)
      clear hcm hb4 hk4 cx
      go_wp2_with fail
      exact ⟨⟨k + 1, by omega, by go_num, HM4.out, HX4.out, by omega, HK4.out⟩, by simp [intOf]; omega⟩
    · obtain rfl : k = len0 := by omega
      have htk : z0.take k = z0 := List.take_of_length_le (by rw [HXL.out]; exact Nat.le_refl _)
      have HM5 := Lib.hid (by rw [htk] at HM; exact HM.out : Cmp wr w1.heap.size c s p (dd z0))
      clear htk
      go_wp2_with fail
      go_ret
      exact ⟨⟨c, s, p, rfl, HM5.out, HK.out⟩, HX.out, hsz⟩
end Go.Proofs.Ytdlckialndahhaa
