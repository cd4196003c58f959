/-
  The walk of the law FnCapturesLastNameWins (n001_90): it returns true for every input.
-/
import Derived.Test.YtidojpehjaoplaaBnd
import Derived.Deep.CutRange
import Derived.Deep.RegionWith
import Derived.Deep.QuietTactic
import Derived.BigQuiet
namespace Go.Proofs.Ytidojpehjaoplaa
set_option linter.unusedVariables false
set_option linter.unusedSimpArgs false
open Go.ChangeShapes Go.WideShapes Go.ChangeAt Go.RowKit M
def itemsOf (z0 : List Int) (z1 z2 : List ByteArray) : List Item := z0.zip (z1.zip z2)
theorem itemsOf_get {z0 : List Int} {z1 z2 : List ByteArray} {j : Nat} {kd : Int} {nm st : ByteArray} (h0 : z0[j]? = some kd) (h1 : z1[j]? = some nm) (h2 : z2[j]? = some st) : (itemsOf z0 z1 z2)[j]? = some (kd, nm, st) := by
  unfold itemsOf
  rw [List.getElem?_zip_eq_some, List.getElem?_zip_eq_some]
  exact ⟨h0, h1, h2⟩
theorem itemsOf_len (z0 : List Int) (z1 z2 : List ByteArray) : (itemsOf z0 z1 z2).length = min z0.length (min z1.length z2.length) := by simp [itemsOf]
def Wfs (z0 : List Int) : Prop := ∀ (j : Nat) (kd : Int), z0[j]? = some kd → 0 ≤ kd ∧ kd < 256
theorem wfs_of {w : World} {a : Option Addr} {len : Nat} {z0 : List Int} (h : SliceOf 1 (IsInt .u8) w a len z0) : Wfs z0 := by
  intro j kd hj
  have hl : j < len := by have := (List.getElem?_eq_some_iff.1 hj).1; have := h.lt.1; omega
  obtain ⟨_, _, s, _, _, hs, hw, _⟩ := h.int hl
  rw [hj] at hs
  injection hs with hs
  subst hs
  have h1 : IntKind.u8.min = 0 := by decide
  have h2 : IntKind.u8.max = 255 := by decide
  simp only [Lit.wf, Bool.and_eq_true, decide_eq_true_eq, h1, h2] at hw
  omega
/-- The copies of the arguments, and: nothing that was there has turned. -/
structure CX (w : World) (A0 A1 A2 : Option Addr) (z0 : List Int) (z1 z2 : List ByteArray) (wr : World) : Prop where
  c0 : CopyV 5 wr w.heap.size A0 (z0.map (Value.int .u8))
  c1 : CopyV 9 wr w.heap.size A1 (z1.map Value.string)
  c2 : CopyV 9 wr w.heap.size A2 (z2.map Value.string)
  bel : Below w.heap.size w wr
section
variable {w : World} {A0 A1 A2 : Option Addr} {z0 : List Int} {z1 z2 : List ByteArray} {wr w' : World}
theorem _root_.Go.Proofs.Ytidojpehjaoplaa.CopyV.base {t : TypeId} {w : World} {B B' : Nat} {A : Option Addr} {vs : List Value} (h : CopyV t w B A vs) (hb : B' ≤ B) : CopyV t w B' A vs := by
  rcases h with h | ⟨g, h1, h2, h3⟩
  · exact .inl h
  · exact .inr ⟨g, h1, by omega, h3⟩
theorem CX.keep (h : CX w A0 A1 A2 z0 z1 z2 wr) (hb : Below wr.heap.size wr w') : CX w A0 A1 A2 z0 z1 z2 w' :=
  ⟨h.c0.below hb, h.c1.below hb, h.c2.below hb, h.bel.trans (hb.mono h.bel.size)⟩
theorem CX.store (h : CX w A0 A1 A2 z0 z1 z2 wr) {b k : Nat} {cs : Array Value} (hr : Row wr b 20 cs) (hB : w.heap.size ≤ b) (u : Value) : CX w A0 A1 A2 z0 z1 z2 (wr.setCell ⟨b, k, none⟩ u) := by
  refine ⟨h.c0.keep fun g cs r => r.other (Row.ne_ r hr (by decide)) u, h.c1.keep fun g cs r => r.other (Row.ne_ r hr (by decide)) u, h.c2.keep fun g cs r => r.other (Row.ne_ r hr (by decide)) u, ?_⟩
  exact h.bel.setCell hB u
theorem CX.get (h : CX w A0 A1 A2 z0 z1 z2 wr) {n : Nat} (hl0 : n ≤ z0.length) (hl1 : n ≤ z1.length) (hl2 : n ≤ z2.length) (hw : Wfs z0) {j : Nat} (hj : j < n) :
    ∃ g0 g1 g2 kd nm st, A0 = some ⟨g0, 0, none⟩ ∧ A1 = some ⟨g1, 0, none⟩ ∧ A2 = some ⟨g2, 0, none⟩ ∧ g0 < wr.heap.size ∧ g1 < wr.heap.size ∧ g2 < wr.heap.size ∧ z1[j]? = some nm ∧ z2[j]? = some st ∧
      wr.cell? ⟨g0, j, none⟩ = some (.int .u8 kd) ∧ wr.cell? ⟨g1, j, none⟩ = some (.string nm) ∧ wr.cell? ⟨g2, j, none⟩ = some (.string st) ∧ (itemsOf z0 z1 z2)[j]? = some (kd, nm, st) ∧ 0 ≤ kd ∧ kd < 256 := by
  obtain ⟨kd, hk⟩ : ∃ kd, z0[j]? = some kd := ⟨_, List.getElem?_eq_getElem (by omega)⟩
  obtain ⟨nm, hn⟩ : ∃ nm, z1[j]? = some nm := ⟨_, List.getElem?_eq_getElem (by omega)⟩
  obtain ⟨st, hs⟩ : ∃ st, z2[j]? = some st := ⟨_, List.getElem?_eq_getElem (by omega)⟩
  obtain ⟨g0, e0, _, r0, d0⟩ := h.c0.get (i := j) (by simp; omega)
  obtain ⟨g1, e1, _, r1, d1⟩ := h.c1.get (i := j) (by simp; omega)
  obtain ⟨g2, e2, _, r2, d2⟩ := h.c2.get (i := j) (by simp; omega)
  exact ⟨g0, g1, g2, kd, nm, st, e0, e1, e2, r0.lt, r1.lt, r2.lt, hn, hs, d0 j _ (by simp [hk]), d1 j _ (by simp [hn]), d2 j _ (by simp [hs]), itemsOf_get hk hn hs, hw j kd hk⟩
theorem XS.put {b n k : Nat} {items : List Item} {it : Item} {v : Value} (h : XS wr b n items k) (hb : Below wr.heap.size wr w') (hk : k < n) (hit : items[k]? = some it) (hi : Itm w' k it v) : XS (w'.setCell ⟨b, k, none⟩ v) b n items (k + 1) := by
  obtain ⟨cs, hr, hs, hx⟩ := h.keep hb
  have keep : ∀ m es, MMap w' m es → MMap (w'.setCell ⟨b, k, none⟩ v) m es := fun m es hm =>
    hm.touch ((Touch.refl (· = b) w').setCell (fun _ => rfl) v) (fun e => hm.ne hr (Eq.symm e))
  refine ⟨cs.setIfInBounds k v, hr.put k v, by simp [hs], fun j it' hj hit' => ?_⟩
  by_cases he : j = k
  · subst he
    rw [hit] at hit'
    injection hit' with hit'
    subst hit'
    exact ⟨v, by rw [Array.getElem?_setIfInBounds, if_pos rfl, if_pos (by omega)], hi.keep keep⟩
  · obtain ⟨v', h1, h2⟩ := hx j it' (by omega) hit'
    exact ⟨v', by rw [Array.getElem?_setIfInBounds, if_neg (fun e => he e.symm)]; exact h1, h2.keep keep⟩
theorem swap (w : World) (o : Obj) (p : Addr) (v : Value) (h : p.block < w.heap.size) : (w.alloc o).setCell p v = (w.setCell p v).alloc o := by
  unfold World.setCell
  show ({ w with heap := (w.heap.push o).modify p.block _ } : World) = { w with heap := (w.heap.modify p.block _).push o }
  congr 1
  apply Array.ext_getElem?
  intro i
  simp only [Array.getElem?_modify, Array.getElem?_push, Array.size_modify]
  by_cases hi : p.block = i
  · subst hi
    rw [if_pos rfl, if_pos rfl, if_neg (by omega), if_neg (by omega)]
  · rw [if_neg hi, if_neg hi]
/-- A round that makes a map and stores it at k. -/
theorem XS.putM {b n k : Nat} {items : List Item} {it : Item} (o : Obj) (h : XS wr b n items k) (hk : k < n) (hit : items[k]? = some it) (hi : Itm (wr.alloc o) k it (.iface 28 (.map (some wr.heap.size)))) : XS ((wr.setCell ⟨b, k, none⟩ (.iface 28 (.map (some wr.heap.size)))).alloc o) b n items (k + 1) := by
  have := h.put ((Below.refl _ _).alloc (Nat.le_refl _) o) hk hit hi
  rwa [swap _ _ _ _ h.choose_spec.1.lt] at this
theorem CX.putM (h : CX w A0 A1 A2 z0 z1 z2 wr) (o : Obj) {b k : Nat} {cs : Array Value} (hr : Row wr b 20 cs) (hB : w.heap.size ≤ b) (u : Value) : CX w A0 A1 A2 z0 z1 z2 ((wr.setCell ⟨b, k, none⟩ u).alloc o) := by
  have := (h.keep ((Below.refl _ _).alloc (Nat.le_refl _) o)).store (k := k) (hr.alloc o) hB u
  rwa [swap _ _ _ _ hr.lt] at this
theorem XS.drew {b n k : Nat} {items : List Item} (h : XS wr b n items k) : XS wr.drew b n items k := h.keep (Below.refl _ _).drew
theorem CX.drew (h : CX w A0 A1 A2 z0 z1 z2 wr) : CX w A0 A1 A2 z0 z1 z2 wr.drew := h.keep (Below.refl _ _).drew
theorem XS.row {b n k : Nat} {items : List Item} (h : XS wr b n items k) : ∃ cs, Row wr b 20 cs := ⟨_, h.choose_spec.1⟩
theorem XS.room {b n k : Nat} {items : List Item} (h : XS wr b n items k) (hk : k < n) : ∃ u, wr.cell? ⟨b, k, none⟩ = some u ∧ wr.frozen? ⟨b, k, none⟩ = false ∧ b < wr.heap.size := by
  obtain ⟨cs, hr, hs, hx⟩ := h
  obtain ⟨u, hu⟩ := hr.has k (by omega)
  exact ⟨u, hu, hr.free k, hr.lt⟩
theorem XS.made (w : World) (n : Nat) (items : List Item) : XS (w.alloc (.cells (madeCells #[.nilIface] n) 20)) w.heap.size n items 0 :=
  ⟨_, Row.made w 20 _, by simp [size_madeCells], fun j it hj => absurd hj (by omega)⟩
end
theorem info20 : (Try.prog.info? 20).map (fun i => (i.zero, i.size, i.bytes)) = some (some .nilIface, 1, 16) := by kernel_rfl
theorem namedT (kd : Int) (w : World) (h0 : 0 ≤ kd) (h1 : kd < 256) (h : nmd kd = true) : Calls Try.prog 8 #[.int .u8 kd] w fun e w' => e = .returned (.bool true) ∧ w = w' := by
  have := named kd w h0 h1
  rwa [h] at this
theorem namedF (kd : Int) (w : World) (h0 : 0 ≤ kd) (h1 : kd < 256) (h : nmd kd = false) : Calls Try.prog 8 #[.int .u8 kd] w fun e w' => e = .returned (.bool false) ∧ w = w' := by
  have := named kd w h0 h1
  rwa [h] at this
theorem namedTq (kd : Int) (w : World) (h0 : 0 ≤ kd) (h1 : kd < 256) (h : nmd kd = true) : Calls Try.prog 8 #[.int .u8 kd] w fun e w' => e = .returned (.bool true) ∧ w' = w := (namedT kd w h0 h1 h).mono fun _ _ ⟨a, b⟩ => ⟨a, b.symm⟩
theorem namedFq (kd : Int) (w : World) (h0 : 0 ≤ kd) (h1 : kd < 256) (h : nmd kd = false) : Calls Try.prog 8 #[.int .u8 kd] w fun e w' => e = .returned (.bool false) ∧ w' = w := (namedF kd w h0 h1 h).mono fun _ _ ⟨a, b⟩ => ⟨a, b.symm⟩
theorem MMap.drewN {w : World} {m : Nat} {es : ES} (h : MMap w m es) (n : Nat) : MMap (w.drewN n) m es := h.keep (below_drewN (Below.refl _ _) n)
theorem CX.drewN {w : World} {A0 A1 A2 : Option Addr} {z0 : List Int} {z1 z2 : List ByteArray} {wr : World} (h : CX w A0 A1 A2 z0 z1 z2 wr) (n : Nat) : CX w A0 A1 A2 z0 z1 z2 (wr.drewN n) := h.keep (below_drewN (Below.refl _ _) n)
theorem len28 : Try.prog.underlying 28 = some (.map (Try.prog.mapKeyOf 28) (Try.prog.mapElemOf 28)) := by kernel_rfl
@[go_sem] theorem run_mk0 (W : World) : (Instr.makeMap 28 none).run Try.prog W = .ok (.map (some W.heap.size)) (W.alloc (.map #[] 0)) := by
  simp [Instr.makeMap, run_underlying Try.underlying28, Result.andThen]
set_option maxRecDepth 100000 in
set_option maxHeartbeats 8000000 in
theorem fnCapturesLastNameWins.main (a0 : Option Addr) (len0 cap0 : Nat) (z0 : List Int) (a1 : Option Addr) (len1 cap1 : Nat) (z1 : List ByteArray) (a2 : Option Addr) (len2 cap2 : Nat) (z2 : List ByteArray) (w : World)
    (w0 : SliceOf 1 (IsInt .u8) w a0 len0 z0) (w1 : SliceOf 1 IsStr w a1 len1 z1) (w2 : SliceOf 1 IsStr w a2 len2 z2) (q0 : len0 ≤ 1048576) (q1 : len1 ≤ 65536) (q2 : len2 ≤ 65536) :
    Calls Try.prog 3 #[.slice a0 len0 cap0, .slice a1 len1 cap1, .slice a2 len2 cap2] w fun e w' => e = .returned (.bool true) ∧ Below w.heap.size w w' := by
  have W0 := Lib.hid w0
  have W1 := Lib.hid w1
  have W2 := Lib.hid w2
  have HWF := Lib.hid (wfs_of w0)
  have HL0 := Lib.hid w0.lt.1
  have HL1 := Lib.hid w1.lt.1
  have HL2 := Lib.hid w2.lt.1
  clear w0 w1 w2
  go_enter Try.func3, Try.ntmps3
  go_wp2_with fail
  refine (zz4 a0 len0 cap0 z0 a1 len1 cap1 z1 a2 len2 cap2 z2 _ W0.out W1.out W2.out).mono ?_
  rintro e w' ⟨b, rfl, rfl⟩
  cases b
  · go_wp2_with fail
    go_ret
    exact ⟨rfl, Below.refl _ _⟩
  by_cases ht : len0 + 16 * len1 + 16 * len2 ≤ 1048576
  · go_wp2_with fail
    go_loop [7, 8] (fun t i => ∃ (x : Int) (k : Nat), k ≤ len1 ∧ t = .int .i64 x ∧ i = .int .i64 k) (fun _ i => len1 - (intOf i).toNat)
    case atStart => exact ⟨_, 0, Nat.zero_le _, rfl, rfl⟩
    case round =>
      obtain ⟨x, k, hk, rfl, rfl⟩ := hrel
      by_cases hlt : k < len1
      · obtain ⟨b, o, s, rfl, hbl, hxs, hsz, hcell⟩ := W1.out.str hlt
        clear hxs
        have hs' := hsz
        unfold maxLen at hs'
        go_wp2_with fail
        exact ⟨⟨_, k + 1, by omega, rfl, by go_num⟩, by simp [intOf]; omega⟩
      · obtain rfl : k = len1 := by omega
        clear hlt hk
        go_wp2_with fail
        go_loop [7, 9] (fun t i => ∃ (x : Int) (k : Nat), k ≤ len2 ∧ t = .int .i64 x ∧ i = .int .i64 k) (fun _ i => len2 - (intOf i).toNat)
        case atStart => exact ⟨_, 0, Nat.zero_le _, rfl, rfl⟩
        case round =>
          obtain ⟨x, k2, hk, rfl, rfl⟩ := hrel
          by_cases hlt : k2 < len2
          · obtain ⟨b, o, s, rfl, hbl, hxs, hsz, hcell⟩ := W2.out.str hlt
            clear hxs
            have hs' := hsz
            unfold maxLen at hs'
            go_wp2_with fail
            exact ⟨⟨_, k2 + 1, by omega, rfl, by go_num⟩, by simp [intOf]; omega⟩
          · obtain rfl : k2 = len2 := by omega
            clear hlt hk
            by_cases hx : x ≤ 1048576
            · go_upto_if 88 with fail
              go_cut [10] from 85 to 98 (fun v wc => Hid (∃ m : Nat, v = .int .i64 m ∧ m ≤ len0 ∧ m ≤ k ∧ (m = len0 ∨ m = k) ∧ w = wc))
              case first =>
                by_cases h1 : k < len0
                · go_wp2_with fail
                  go_meet
                  exact Lib.hid ⟨k, rfl, by omega, by omega, by omega, rfl⟩
                · go_wp2_with fail
                  go_meet
                  exact Lib.hid ⟨len0, rfl, by omega, by omega, by omega, rfl⟩
              case rest =>
              obtain ⟨m, rfl, m1, m2, m3, rfl⟩ := hcut.out
              clear hcut
              go_upto_if 94 with fail
              go_cut [10] from 85 to 98 (fun v wc => Hid (∃ n : Nat, v = .int .i64 n ∧ n ≤ len0 ∧ n ≤ k ∧ n ≤ k2 ∧ (n = len0 ∨ n = k ∨ n = k2) ∧ w = wc))
              case first =>
                by_cases h1 : k2 < m
                · go_wp2_with fail
                  go_meet
                  exact Lib.hid ⟨k2, rfl, by omega, by omega, by omega, by omega, rfl⟩
                · go_wp2_with fail
                  go_meet
                  exact Lib.hid ⟨m, rfl, by omega, by omega, by omega, by omega, rfl⟩
              case rest =>
              obtain ⟨n, rfl, n1, n2, n3, n4, rfl⟩ := hcut.out
              clear hcut m1 m2 m3
              by_cases hn : n ≤ 4096
              · have hmk := fun W => run_make_row' (P := Try.prog) 27 20 .nilIface 16 Try.underlying27 info20 rfl .i64 .i64 n (by omega) (by omega) W
                go_wp2_with fail
                refine (clone_bytes a0 len0 cap0 z0 _ W0.out q0).mono ?_
                rintro e wa ⟨A0, cp0, rfl, hA0, hba⟩
                have HA0 := Lib.hid hA0
                have HBA := Lib.hid hba
                have hsa := hba.size
                clear hA0 hba
                go_wp2_with fail
                refine (clone_strs a1 k cap1 z1 _ (W1.out.keep HBA.out) (by omega)).mono ?_
                rintro e wb ⟨A1, cp1, rfl, hA1, hbb⟩
                have HA1 := Lib.hid hA1
                have HBB := Lib.hid hbb
                have hsb := hbb.size
                clear hA1 hbb
                go_wp2_with fail
                refine (clone_strs a2 k2 cap2 z2 _ ((W2.out.keep HBA.out).keep HBB.out) (by omega)).mono ?_
                rintro e wc ⟨A2, cp2, rfl, hA2, hbc⟩
                have hsc := hbc.size
                have HC := Lib.hid (show CX w A0 A1 A2 z0 z1 z2 wc from
                  ⟨((HA0.out.below HBB.out).below hbc), ((HA1.out.below hbc).base hsa), hA2.base (by omega), HBA.out.trans ((HBB.out.mono hsa).trans (hbc.mono (by omega)))⟩)
                clear hA2 hbc HA0 HA1 HBA HBB
                have HLI := Lib.hid (show n ≤ z0.length ∧ n ≤ z1.length ∧ n ≤ z2.length by rw [HL0.out, HL1.out, HL2.out]; omega)
                have HNI := Lib.hid (show (itemsOf z0 z1 z2).length = n by rw [itemsOf_len, HL0.out, HL1.out, HL2.out]; omega)
                obtain ⟨items, hit⟩ : ∃ items, items = itemsOf z0 z1 z2 := ⟨_, rfl⟩
                have HI := Lib.hid hit
                clear hit
                go_wp2_with fail
                go_loopw [12] (fun i wr => ∃ j : Nat, j ≤ n ∧ i = .int .i64 j ∧ XS wr wc.heap.size n items j ∧ CX w A0 A1 A2 z0 z1 z2 wr) (fun i _ => n - (intOf i).toNat)
                case atStart => exact ⟨0, Nat.zero_le _, rfl, XS.made wc n items, HC.out.keep ((Below.refl _ _).alloc (Nat.le_refl _) _)⟩
                case round =>
                  obtain ⟨j, hj, rfl, hxs, hcx⟩ := hrel
                  have HX := Lib.hid hxs
                  have HCX := Lib.hid hcx
                  clear hxs hcx
                  by_cases hlt : j < n
                  · obtain ⟨g0, g1, g2, kd, nm, st, rfl, rfl, rfl, b0, b1, b2, hnm, hst, c0, c1, c2, hit, kd0, kd1⟩ := HCX.out.get HLI.out.1 HLI.out.2.1 HLI.out.2.2 HWF.out hlt
                    obtain ⟨u, cr, fr, br⟩ := HX.out.room hlt
                    obtain ⟨cs, hrow⟩ := HX.out.row
                    have HIT := Lib.hid (show items[j]? = some (kd, nm, st) by rw [HI.out]; exact hit)
                    have HR := Lib.hid hrow
                    clear hnm hst hit hrow hmk
                    by_cases h0 : kd % 5 = 0
                    · go_wp2_with fail
                      exact ⟨⟨j + 1, by omega, by go_num, HX.out.put (Below.refl _ _) hlt HIT.out (.inl ⟨h0, rfl⟩), HCX.out.store HR.out (by omega) _⟩, by simp [intOf]; omega⟩
                    · by_cases h1 : kd % 5 = 1
                      · have i1 := run_insN
                        have i3 := run_insNS
                        go_wp2_with fail
                        exact ⟨⟨j + 1, by omega, by go_num, HX.out.putM _ hlt HIT.out (itm1 h1 (ML.madeNS _ _ _)), HCX.out.putM _ HR.out (by omega) _⟩, by simp [intOf]; omega⟩
                      · by_cases h2 : kd % 5 = 2
                        · have i1 := run_insNd
                          have i2 := run_insSd
                          have i3 := run_insNSd
                          have i4 := run_insSNd
                          go_wp2_with fail
                          go_region
                          all_goals go_wp2_with fail
                          · exact ⟨⟨j + 1, by omega, by go_num, (HX.out.putM _ hlt HIT.out (itm2 h2 (ML.madeNS _ _ _))).drew, (HCX.out.putM _ HR.out (by omega) _).drew⟩, by simp [intOf]; omega⟩
                          · exact ⟨⟨j + 1, by omega, by go_num, (HX.out.putM _ hlt HIT.out (itm2 h2 (ML.madeSN _ _ _))).drew, (HCX.out.putM _ HR.out (by omega) _).drew⟩, by simp [intOf]; omega⟩
                        · by_cases h3 : kd % 5 = 3
                          · have i1 := run_insN
                            have i3 := run_insNS
                            go_wp2_with fail
                            exact ⟨⟨j + 1, by omega, by go_num, HX.out.putM _ hlt HIT.out (itm3 h3 (ML.madeNS _ _ _)), HCX.out.putM _ HR.out (by omega) _⟩, by simp [intOf]; omega⟩
                          · have i1 := run_insS
                            go_wp2_with fail
                            exact ⟨⟨j + 1, by omega, by go_num, HX.out.putM _ hlt HIT.out (itm4 h0 h1 h2 h3 (ML.madeS _ _)), HCX.out.putM _ HR.out (by omega) _⟩, by simp [intOf]; omega⟩
                  · obtain rfl : j = n := by omega
                    clear hlt hj hmk
                    go_wp2_with fail
                    refine (zcaptures _ wc.heap.size j j items HX.out (by rw [HI.out]; exact HNI.out) (by omega)).mono ?_
                    rintro e wd ⟨⟨m, rfl, hm⟩, hbd⟩
                    have HM := Lib.hid hm
                    have HCD := Lib.hid (HCX.out.keep hbd)
                    have hbe := hbd.size
                    clear hm hbd HX HCX HC
                    go_wp2_with fail
                    go_loopw [16, 17] (fun d i we => ∃ k : Nat, k ≤ j ∧ i = .int .i64 k ∧ d = .int .i64 ((capW (items.take k)).length : Nat) ∧ MMap we m (capW items) ∧ CX w A0 A1 A2 z0 z1 z2 we) (fun _ i _ => j - (intOf i).toNat)
                    case atStart => exact ⟨0, Nat.zero_le _, rfl, rfl, HM.out, HCD.out⟩
                    case round =>
                      obtain ⟨k', hk', rfl, rfl, hm, hcx⟩ := hrel
                      have HM := Lib.hid hm
                      have HCX := Lib.hid hcx
                      clear hm hcx
                      by_cases hlt : k' < j
                      · obtain ⟨g0, g1, g2, kd, nm, st, rfl, rfl, rfl, b0, b1, b2, hnm, hst, c0, c1, c2, hit, kd0, kd1⟩ := HCX.out.get HLI.out.1 HLI.out.2.1 HLI.out.2.2 HWF.out hlt
                        have HIT := Lib.hid (show items[k']? = some (kd, nm, st) by rw [HI.out]; exact hit)
                        have hD := capW_len_le items k'
                        clear hnm hst hit
                        by_cases hno : nmd kd = true
                        · have HNO := Lib.hid hno
                          clear hno
                          go_wp2_with fail
                          refine (namedT kd _ kd0 kd1 HNO.out).mono ?_
                          rintro e w' ⟨rfl, rfl⟩
                          go_wp2_with fail
                          go_loopw [18, 19, 20] (fun fv lv i we => ∃ (i' L : Nat) (f : Bool), i' ≤ j ∧ fv = .bool f ∧ lv = .int .i64 L ∧ i = .int .i64 i' ∧ Srch items k' nm i' f L ∧ MMap we m (capW items) ∧ CX w (some ⟨g0, 0, none⟩) (some ⟨g1, 0, none⟩) (some ⟨g2, 0, none⟩) z0 z1 z2 we) (fun _ _ i _ => j - (intOf i).toNat)
                          case atStart => exact ⟨0, k', true, Nat.zero_le _, rfl, rfl, rfl, Srch.zero _ _ _, HM.out, HCX.out⟩
                          case round =>
                            clear c0 c1 c2 b0 b1 b2
                            obtain ⟨i', L, f, hi', rfl, rfl, rfl, hs, hm, hcx⟩ := hrel
                            have HM := Lib.hid hm
                            have HCX := Lib.hid hcx
                            have HS := Lib.hid hs
                            clear hs hm hcx
                            obtain ⟨_, _, _, _, _, _, e0', e1', e2', b0', b1', b2', hnm', hst', c0', c1', c2', hit', _, _⟩ := HCX.out.get HLI.out.1 HLI.out.2.1 HLI.out.2.2 HWF.out hlt
                            cases e0'
                            cases e1'
                            cases e2'
                            have HITE := HIT.out
                            rw [HI.out, hit'] at HITE
                            cases HITE
                            clear hnm' hst' hit' c0' c2' b0' b2'
                            by_cases hlt2 : i' < j
                            · obtain ⟨_, _, _, kd2, nm2, st2, e0, e1, e2, b0, b1, b2, hnm, hst, c0, c1, c2, hit, kd20, kd21⟩ := HCX.out.get HLI.out.1 HLI.out.2.1 HLI.out.2.2 HWF.out hlt2
                              cases e0
                              cases e1
                              cases e2
                              have HIT2 := Lib.hid (show items[i']? = some (kd2, nm2, st2) by rw [HI.out]; exact hit)
                              clear hnm hst hit
                              have x1 : i' < len0 := by omega
                              have x2 : i' < k := by omega
                              have x3 : k' < k := by omega
                              by_cases hk2 : nmd kd2 = true
                              · have HK2 := Lib.hid hk2
                                clear hk2
                                by_cases hnm : nm2 = nm
                                · subst hnm
                                  have HH := Lib.hid (show hits (kd2, nm2, st2) nm2 = true by simp [hits, HK2.out])
                                  rcases Nat.lt_trichotomy i' k' with hlt3 | heq | hgt
                                  · obtain rfl : L = k' := HS.out.low (by omega)
                                    go_wp2_with fail
                                    go_quiet ((go_at_call 8; exact Calls.quiet_of_same (namedTq kd2 _ kd20 kd21 HK2.out)))
                                    go_wp2_with fail
                                    exact ⟨⟨i' + 1, _, _, by omega, rfl, rfl, by go_num, HS.out.hitLow HIT2.out HH.out hlt3, HM.out.drewN _, HCX.out.drewN _⟩, by simp [intOf]; omega⟩
                                  · obtain rfl : L = k' := HS.out.low (by omega)
                                    subst heq
                                    go_wp2_with fail
                                    go_quiet ((go_at_call 8; exact Calls.quiet_of_same (namedTq kd2 _ kd20 kd21 HK2.out)))
                                    go_wp2_with fail
                                    exact ⟨⟨i' + 1, _, _, by omega, rfl, rfl, by go_num, HS.out.hitAt HIT2.out HH.out, HM.out.drewN _, HCX.out.drewN _⟩, by simp [intOf]; omega⟩
                                  · have hLi := (HS.out.high hgt).2.1
                                    go_wp2_with fail
                                    go_quiet ((go_at_call 8; exact Calls.quiet_of_same (namedTq kd2 _ kd20 kd21 HK2.out)))
                                    go_wp2_with fail
                                    exact ⟨⟨i' + 1, _, _, by omega, rfl, rfl, by go_num, HS.out.hitHigh HIT2.out HH.out hgt, HM.out.drewN _, HCX.out.drewN _⟩, by simp [intOf]; omega⟩
                                · have HH := Lib.hid (show hits (kd2, nm2, st2) nm = false by simp [hits, hnm])
                                  have hbq := str_beq_ne hnm
                                  have hne : i' ≠ k' := by
                                    rintro rfl
                                    have := HIT.out.symm.trans HIT2.out
                                    cases this
                                    exact hnm rfl
                                  clear hnm
                                  go_wp2_with fail
                                  go_quiet ((go_at_call 8; exact Calls.quiet_of_same (namedTq kd2 _ kd20 kd21 HK2.out)))
                                  go_wp2_with fail
                                  exact ⟨⟨i' + 1, _, _, by omega, rfl, rfl, by go_num, HS.out.miss HIT2.out HH.out hne, HM.out.drewN _, HCX.out.drewN _⟩, by simp [intOf]; omega⟩
                              · have HK2 := Lib.hid (show nmd kd2 = false by simpa using hk2)
                                clear hk2
                                have HH := Lib.hid (show hits (kd2, nm2, st2) nm = false by simp [hits, HK2.out])
                                have hne : i' ≠ k' := by
                                  rintro rfl
                                  have := HIT.out.symm.trans HIT2.out
                                  cases this
                                  have := HNO.out.symm.trans HK2.out
                                  cases this
                                go_wp2_with fail
                                go_quiet ((go_at_call 8; exact Calls.quiet_of_same (namedFq kd2 _ kd20 kd21 HK2.out)))
                                go_wp2_with fail
                                exact ⟨⟨i' + 1, _, _, by omega, rfl, rfl, by go_num, HS.out.miss HIT2.out HH.out hne, HM.out.drewN _, HCX.out.drewN _⟩, by simp [intOf]; omega⟩
                            · obtain rfl : i' = j := by omega
                              obtain ⟨hL1, hL2, it, hitL, hF⟩ := HS.out.high hlt
                              have HFS := Lib.hid HS.out.first
                              obtain ⟨_, _, _, kd2, nm2, st2, e0, e1, e2, b0, b1, b2, hnm, hst, c0, c1, c2, hit, kd20, kd21⟩ := HCX.out.get HLI.out.1 HLI.out.2.1 HLI.out.2.2 HWF.out hL2
                              cases e0
                              cases e1
                              cases e2
                              rw [HI.out, hit] at hitL
                              cases hitL
                              unfold FJ at hF
                              rw [List.take_of_length_le (by rw [HI.out, HNI.out]; exact Nat.le_refl _)] at hF
                              obtain ⟨_, l2⟩ := run_look HM.out nm
                              rw [hF] at l2
                              simp only [Option.getD_some, Option.isSome_some] at l2
                              clear hF hnm hst hit c1 b1 hlt2 hi' HS
                              by_cases h2 : kd2 % 5 = 2
                              · rw [show valOf (kd2, nm2, st2) = .iface 9 (.string st2) from if_pos h2] at l2
                                cases f
                                · have HLN := Lib.hid (capW_len_again HIT.out HNO.out (by have := HFS.out; rw [Nat.min_eq_right (by omega)] at this; simpa using this))
                                  clear HFS
                                  go_wp2_with fail
                                  exact ⟨⟨k' + 1, by omega, by go_num, by rw [HLN.out], HM.out, HCX.out⟩, by simp [intOf]; omega⟩
                                · have HLN := Lib.hid (capW_len_first HIT.out HNO.out (by have := HFS.out; rw [Nat.min_eq_right (by omega)] at this; simpa using this))
                                  clear HFS
                                  go_wp2_with fail
                                  exact ⟨⟨k' + 1, by omega, by go_num, by rw [HLN.out]; go_num, HM.out, HCX.out⟩, by simp [intOf]; omega⟩
                              · rw [show valOf (kd2, nm2, st2) = .nilIface from if_neg h2] at l2
                                cases f
                                · have HLN := Lib.hid (capW_len_again HIT.out HNO.out (by have := HFS.out; rw [Nat.min_eq_right (by omega)] at this; simpa using this))
                                  clear HFS
                                  go_wp2_with fail
                                  exact ⟨⟨k' + 1, by omega, by go_num, by rw [HLN.out], HM.out, HCX.out⟩, by simp [intOf]; omega⟩
                                · have HLN := Lib.hid (capW_len_first HIT.out HNO.out (by have := HFS.out; rw [Nat.min_eq_right (by omega)] at this; simpa using this))
                                  clear HFS
                                  go_wp2_with fail
                                  exact ⟨⟨k' + 1, by omega, by go_num, by rw [HLN.out]; go_num, HM.out, HCX.out⟩, by simp [intOf]; omega⟩
                        · have HNO := Lib.hid (show nmd kd = false by simpa using hno)
                          clear hno
                          go_wp2_with fail
                          refine (namedF kd _ kd0 kd1 HNO.out).mono ?_
                          rintro e w' ⟨rfl, rfl⟩
                          go_wp2_with fail
                          exact ⟨⟨k' + 1, by omega, by go_num, by rw [capW_len_no HIT.out HNO.out], HM.out, HCX.out⟩, by simp [intOf]; omega⟩
                      · obtain rfl : k' = j := by omega
                        obtain ⟨ents, clock, hh, he⟩ := HM.out
                        have hEq : ((ents.size : Int) == ((capW (items.take k')).length : Int)) = true := by
                          have h1 := congrArg List.length he
                          simp only [List.length_map, Array.length_toList] at h1
                          have h2 : items.length = k' := by rw [HI.out]; exact HNI.out
                          rw [List.take_of_length_le (by omega), h1]
                          simp
                        clear he
                        have hrl := fun ty => run_len_map (P := Try.prog) (w := wr) 28 ty m ents clock len28 hh
                        clear hh
                        go_wp2_with fail
                        go_ret
                        exact ⟨rfl, HCX.out.bel⟩
              · go_wp2_with fail
                go_ret
                exact ⟨rfl, Below.refl _ _⟩
            · go_wp2_with fail
              go_ret
              exact ⟨rfl, Below.refl _ _⟩
  · go_wp2_with fail
    go_ret
    exact ⟨rfl, Below.refl _ _⟩
end Go.Proofs.Ytidojpehjaoplaa
