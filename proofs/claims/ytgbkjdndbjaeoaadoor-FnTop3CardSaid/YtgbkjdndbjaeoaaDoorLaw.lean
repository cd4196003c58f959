/-
  The law's walk (n001_1001 FnTop3).
-/
import Derived.Test.YtgbkjdndbjaeoaaDoorLem
import Derived.Test.YtgbkjdndbjaeoaaDoorRows
import Derived.MakeChecks
import Derived.Lib.LaidU8
namespace Go.Proofs.YtgbkjdndbjaeoaaDoor
set_option linter.unusedVariables false
set_option linter.unusedSimpArgs false
open Go.ChangeShapes Go.WideShapes Go.ChangeAt Go.RowKit M
theorem vw_of {w : World} {a : Option Addr} {len : Nat} {z : List Int} (h : SliceOf 1 (IsInt .u8) w a len z) : Vw w a len (bytV z) ∧ ∀ (j : Nat) (x : Int), z[j]? = some x → 0 ≤ x ∧ x < 256 := by
  obtain ⟨h1, h2, h3⟩ := h
  refine ⟨⟨by simpa [bytV] using h1, fun hl => ?_⟩, fun j x hx => ?_⟩
  · obtain ⟨b, o, ha, hlt, hc⟩ := h3 hl
    refine ⟨b, o, ha, hlt, fun i v hv => ?_⟩
    unfold bytV at hv
    rw [List.getElem?_map] at hv
    obtain ⟨x, hx, rfl⟩ := Option.map_eq_some_iff.1 hv
    obtain ⟨cs, c1, c2, c3⟩ := hc i x hx
    obtain ⟨rfl, _⟩ := c3
    have := c2 0 _ rfl
    simpa using this
  · have hl : 0 < len := by have := (List.getElem?_eq_some_iff.1 hx).1; omega
    obtain ⟨b, o, ha, hlt, hc⟩ := h3 hl
    obtain ⟨cs, c1, c2, c3⟩ := hc j x hx
    have := c3.2
    simp [Lit.wf, IntKind.min, IntKind.max, IntKind.bits, IntKind.signed] at this
    omega
theorem tabs_of_laid {w : World} (h : laidMetH Tryd.prog Rows.fnTop3Row.laid w) : Lib.Utf8Tabs 1 2 w := by
  rw [MakeChecks.laidMetH_plain _ _ _ (by kernel_rfl)] at h
  have e : Rows.fnTop3Row.laid = [("unicode/utf8.acceptRanges", Lib.acceptData), ("unicode/utf8.first", Lib.firstData)] := by kernel_rfl
  have h' : laidMet Tryd.prog [("unicode/utf8.acceptRanges", Lib.acceptData), ("unicode/utf8.first", Lib.firstData)] w := by rw [← e]; exact h
  exact utf8Tabs_of_reads (ρ := lays260_ren) lays260 ⟨by kernel_rfl, by kernel_rfl, by kernel_rfl, by kernel_rfl, by kernel_rfl, by kernel_rfl, by kernel_rfl⟩ (Lib.laidMet.reads h' (.tail _ (.head _))) (Lib.laidMet.reads h' (.head _))
theorem below_low {B C : Nat} {w w' : World} (h : Below B w w') (hc : C ≤ B) : Below C w w' := ⟨h.os, h.tape, h.output, h.size, fun k hk => h.block k (Nat.lt_of_lt_of_le hk hc)⟩
set_option maxRecDepth 100000 in
set_option maxHeartbeats 8000000 in
theorem fnTop3.walk (a : Option Addr) (len cap : Nat) (z : List Int) (w : World) (hT : Lib.Utf8Tabs 1 2 w) (hz : SliceOf 1 (IsInt .u8) w a len z) :
    Calls Tryd.prog 3 #[.slice a len cap] w fun e w' => e = .returned (.bool true) ∧ Below w.heap.size w w' := by
  have hlm := hz.2.1
  obtain ⟨hv, hwf⟩ := vw_of hz
  have hzl := hz.1
  have h3 := tabs_size hT
  have HT := Lib.hid hT
  clear hT
  by_cases hbig : 1048576 < len
  · go_enter Tryd.func3, Tryd.ntmps3
    go_wp2_with fail
    go_ret
    exact ⟨rfl, Below.refl _ _⟩
  · have hl : len ≤ 1048576 := by omega
    have hb1 : Below w.heap.size w (w.alloc (.cells #[.slice a len cap, .int .i64 0] 25)) := (Below.refl _ _).alloc (Nat.le_refl _) _
    have HRD : Hid (RD (w.alloc (.cells #[.slice a len cap, .int .i64 0] 25)) w.heap.size a len cap z 0) := Lib.hid ⟨Row.made w 25 _, hv.keep hb1, fun h0 x hx e => by
      obtain ⟨b, o, ha, hb, _⟩ := hv.2 h0
      rw [hx] at ha
      cases ha
      have e' : b = w.heap.size := e
      omega, Nat.zero_le _, hwf⟩
    have hw : ∀ j, 0 ≤ b1 z j ∧ b1 z j < 256 := HRD.out.b1
    have HW := Lib.hid (decW z hw 40 0).1
    have HLB := Lib.hid ((decL z hw 40).1 81 0 (Nat.zero_le _))
    have HB1 := Lib.hid hb1
    have HC : Hid (Calls Tryd.prog 4 #[.pointer (some ⟨w.heap.size, 0, none⟩), .int .i64 0] (w.alloc (.cells #[.slice a len cap, .int .i64 0] 25)) (DOut (w.alloc (.cells #[.slice a len cap, .int .i64 0] 25)) w.heap.size a len cap z 81 ((decs z 40).1 0))) := Lib.hid ((decAll z 40).1 _ w.heap.size a len cap 0 0 HRD.out hl rfl)
    obtain ⟨r, hr⟩ : ∃ r, r = (decs z 40).1 0 := ⟨_, rfl⟩
    rw [← hr] at HW HLB HC
    clear hr hv hwf hb1 hw HRD hz
    have hlen : (txt 81 r.1).length ≤ 1099511627776 := by
      obtain ⟨x1, x2, x3⟩ := HLB.out
      omega
    clear HLB
    go_enter Tryd.func3, Tryd.ntmps3
    go_wp2_with fail
    refine HC.out.mono ?_
    rintro e w2 ⟨q, rfl, _, ha2, ht2⟩
    have HT2 := Lib.hid (HB1.out.trans (ht2.below (by simp) (fun k hk e => by omega)))
    have hs2 := HT2.out.size
    have HA2 := Lib.hid (At.turn (ok' := fun k => k < w2.heap.size) (Touch.refl (fun _ => False) w2) (fun _ _ _ x => x) (fun k _ h => h) 81 ha2)
    have HU2 := Lib.hid (tabs_low HT.out (below_low HT2.out h3))
    clear ha2 ht2
    go_wp2_with fail
    refine (strO w2 81 q r.1 HW.out HA2.out HU2.out hlen).mono ?_
    rintro e w3 ⟨rfl, hb3⟩
    obtain ⟨X, hX⟩ : ∃ X, X = (⟨(txt 81 r.1).toArray⟩ : ByteArray) := ⟨_, rfl⟩
    rw [← hX]
    have HX := Lib.hid hX
    have HB3 := Lib.hid hb3
    have hs3 := hb3.size
    have HA3 := Lib.hid (At.turn (ok' := fun k => k < w3.heap.size) (Touch.of_below hb3 (fun _ => False)) (fun _ _ _ x => x) (fun k _ h => by omega) 81 HA2.out)
    have HU3 := Lib.hid (tabs_low HU2.out (below_low hb3 (by omega)))
    clear hb3 hX
    have HA4 := Lib.hid (tm_at (o := some r.1) (a := none) (Row.made w3 32 #[.pointer (some ⟨q, 0, none⟩), .pointer none, .string E0, .string E0, .bool false, .bool false, .bool false]) (ok := fun k => k < (w3.alloc (.cells #[.pointer (some ⟨q, 0, none⟩), .pointer none, .string E0, .string E0, .bool false, .bool false, .bool false] 32)).heap.size) (by simp) (PV_some (At.turn (Touch.of_below ((Below.refl _ _).alloc (Nat.le_refl _) _) (fun _ => False)) (fun _ _ _ x => x) (fun k hk _ => by simp; omega) 81 HA3.out)) (PV_none _ _ _))
    have HU4 := Lib.hid (tabs_low HU3.out ((Below.refl 3 w3).alloc (by omega) (.cells #[.pointer (some ⟨q, 0, none⟩), .pointer none, .string E0, .string E0, .bool false, .bool false, .bool false] 32)))
    go_wp2_with fail
    refine (strT _ 82 w3.heap.size _ (.obj 81 r.1 HW.out) HA4.out HU4.out hlen).mono ?_
    rintro e w4 ⟨rfl, hb4⟩
    rw [show (⟨(txt 82 (termF (some r.1) none E0 E0 false false false)).toArray⟩ : ByteArray) = X from HX.out.symm]
    have hs4 := hb4.size
    simp only [World.size_alloc] at hs4
    have hb34 : Below w3.heap.size w3 w4 := ((Below.refl w3.heap.size w3).alloc (Nat.le_refl _) _).trans (below_low hb4 (by simp))
    have HB4 := Lib.hid hb34
    have HXS : Hid (X.size = (txt 81 r.1).length) := Lib.hid (by rw [HX.out]; rfl)
    have HXL : Hid (X.data.toList = txt 81 r.1) := Lib.hid (by rw [HX.out])
    have HZ := Lib.hid (show ZP (w4.alloc (.cells #[.string X, .int .i64 0] 35)) w4.heap.size X (txt 81 r.1 ++ []) from ⟨by
      have := Row.made w4 35 #[.string X, .int .i64 0]
      have e : ((X.size : Int) - (txt 81 r.1 ++ []).length) = 0 := by rw [List.append_nil, HXS.out]; omega
      rw [e]
      exact this, [], by rw [HXL.out, List.append_nil, List.nil_append]⟩)
    have HA5 := Lib.hid (At.turn (ok' := fun k => k < w4.heap.size) (Touch.of_below (hb34.trans ((Below.refl _ _).alloc (by omega) (.cells #[.string X, .int .i64 0] 35))) (fun _ => False)) (fun _ _ _ x => x) (fun k hk _ => by omega) 81 HA3.out)
    clear hb4 hb34
    go_wp2_with fail
    refine ((mAll 81).1.1 _ w4.heap.size X [] q r.1 HW.out HA5.out HZ.out (by rw [HXS.out]; exact hlen)).mono ?_
    rintro e w5 ⟨rfl, hz5, ht5⟩
    have r5 := hz5.row
    rw [show ((X.size : Int) - ([] : List UInt8).length) = (X.size : Int) by simp] at r5
    have y5 := r5.cell 1
    have HT5 := Lib.hid (((Touch.refl (fun k => k = w4.heap.size) w4).alloc (.cells #[.string X, .int .i64 0] 35)).trans' ht5 (fun k _ x => x))
    clear hz5 ht5 r5
    go_wp2_with fail
    go_ret
    exact ⟨rfl, HT2.out.trans ((below_low HB3.out hs2).trans ((below_low HB4.out (by omega)).trans (HT5.out.below (by omega) (fun k hk e => by omega))))⟩
end Go.Proofs.YtgbkjdndbjaeoaaDoor
