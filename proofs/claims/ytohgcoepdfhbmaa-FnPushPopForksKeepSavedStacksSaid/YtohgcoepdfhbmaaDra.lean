/-
  Contracts of the seat n001_96: zzDrain and zzPopForkAndDrain over the law's linked list.
-/
import Derived.Test.YtohgcoepdfhbmaaPop
namespace Go.Proofs.Ytohgcoepdfhbmaa
set_option linter.unusedVariables false
set_option linter.unusedSimpArgs false
open Go.ChangeShapes Go.WideShapes Go.ChangeAt Go.RowKit M
/-- The law's list: node cur leads up to the list L. -/
def Mch (V U : List Int) : Int → List Int → Prop
  | cur, [] => cur = -1
  | cur, v :: r => ∃ k : Nat, cur = k ∧ V[k]? = some v ∧ ∃ u, U[k]? = some u ∧ u < cur ∧ Mch V U u r
theorem Mch.lo {V U : List Int} : ∀ {L : List Int} {c : Int}, Mch V U c L → -1 ≤ c
  | [], c, h => by unfold Mch at h; omega
  | v :: r, c, h => by
    obtain ⟨k, hk, _⟩ := h
    omega
theorem Mch.hi {V U : List Int} : ∀ {L : List Int} {c : Int}, Mch V U c L → c < V.length
  | [], c, h => by unfold Mch at h; omega
  | v :: r, c, h => by
    obtain ⟨k, hk, h1, _⟩ := h
    have := (List.getElem?_eq_some_iff.1 h1).1
    omega
theorem get_snoc {l : List Int} {k : Nat} {v x : Int} (h : l[k]? = some v) : (l ++ [x])[k]? = some v := by
  rw [List.getElem?_append_left (List.getElem?_eq_some_iff.1 h).1]
  exact h
theorem Mch.snoc {V U : List Int} (x u0 : Int) : ∀ {L : List Int} {c : Int}, Mch V U c L → Mch (V ++ [x]) (U ++ [u0]) c L
  | [], c, h => h
  | v :: r, c, h => by
    obtain ⟨k, hk, h1, u, h2, h3, h4⟩ := h
    exact ⟨k, hk, get_snoc h1, u, get_snoc h2, h3, h4.snoc x u0⟩
theorem Mch.neg {V U : List Int} {L : List Int} {c : Int} (h : Mch V U c L) : decide (c < 0) = L.isEmpty := by
  cases L with
  | nil => unfold Mch at h; subst h; rfl
  | cons v r =>
    obtain ⟨k, hk, _⟩ := h
    rw [decide_eq_false (by omega)]; rfl
theorem Chain.neg {D : List Ent} {l : List (Nat × Value)} {i : Int} (h : Chain D i l) : decide (i < 0) = l.isEmpty := by
  cases l with
  | nil => unfold Chain at h; subst h; rfl
  | cons v r =>
    obtain ⟨k, hk, _⟩ := h
    rw [decide_eq_false (by omega)]; rfl
/-- A slice of ints in block m, of element type t. -/
def OwnI (t : TypeId) (wr : World) (B m cap : Nat) (L : List Int) : Prop := wr.ownsRow B t 1 (.slice (some ⟨m, 0, none⟩) L.length cap) L.length (L.map (Value.int .i64))
theorem OwnI.row {t : TypeId} {wr : World} {B m cap : Nat} {L : List Int} (h : OwnI t wr B m cap L) : ∃ cs, Row wr m t cs := by
  rcases h.2 with ⟨h0, _⟩ | ⟨g', cap', cur, hv, hg, hh, _⟩
  · cases h0
  · injection hv with hv
    injection hv with hv
    injection hv with hv
    subst hv
    exact ⟨cur, hh⟩
theorem OwnI.touch {t : TypeId} {S : Nat → Prop} {wr w' : World} {B m cap : Nat} {L : List Int} (h : OwnI t wr B m cap L) (ht : Touch S wr w') (hn : ¬ S m) : OwnI t w' B m cap L :=
  own_touch h ht fun k hk => by injection hk with hk; subst hk; exact hn
theorem OwnI.cell {t : TypeId} {wr : World} {B m cap : Nat} {L : List Int} (h : OwnI t wr B m cap L) {k : Nat} {v : Int} (hv : L[k]? = some v) : wr.cell? ⟨m, k, none⟩ = some (.int .i64 v) := by
  have hk := (List.getElem?_eq_some_iff.1 hv).1
  rw [h.cellAt k (by omega), List.getElem?_map, hv]
  rfl
theorem OwnI.lt {t : TypeId} {wr : World} {B m cap : Nat} {L : List Int} (h : OwnI t wr B m cap L) : B ≤ m ∧ m < wr.heap.size := World.ownsRow.lt h m rfl
theorem OwnI.fkeep {t : TypeId} {wr w' : World} {B m cap : Nat} {L : List Int} (h : OwnI t wr B m cap L) (hk : FKeep wr w') (h1 : t ≠ 67) (h2 : t ≠ 78) (h3 : t ≠ 50) (h4 : t ≠ 69) (h5 : t ≠ 76) : OwnI t w' B m cap L := by
  refine ⟨h.1, ?_⟩
  rcases h.2 with h6 | ⟨g, cap, cur, hv, hb, hg, r⟩
  · exact .inl h6
  · exact .inr ⟨g, cap, cur, hv, hb, hk g t cur hg h1 h2 h3 h4 h5, r⟩
set_option maxHeartbeats 2000000 in
theorem fs_drain (ws : World) (pe p p2 p3 m1 m2 cap n : Nat) (d g : Option Nat) (D : List Ent) (idx lim : Int) (fr : List (Int × Int × Int)) (wr : World) (V U L : List Int) (cur : Int)
    (h : Fks ws pe p p2 p3 d g D idx lim fr wr) (hc : Chain D idx (i64s L)) (hm : Mch V U cur L) (h1 : OwnI 2 wr ws.heap.size m1 cap V) (h2 : OwnI 3 wr ws.heap.size m2 cap U) (hn : V.length = n) (hn2 : U.length = n) (hle : n ≤ 1048576) :
    Calls Try.prog 15 #[.pointer (some ⟨pe, 0, none⟩), .slice (some ⟨m1, 0, none⟩) n cap, .slice (some ⟨m2, 0, none⟩) n cap, .int .i64 cur] wr fun e w' => e = .returned (.bool true) ∧ (∃ idx', Fks ws pe p p2 p3 d g D idx' lim fr w') ∧ FKeep wr w' := by
  have H := Lib.hid h
  have HC := Lib.hid hc
  have HM := Lib.hid hm
  have H1 := Lib.hid h1
  have H2 := Lib.hid h2
  have HN := Lib.hid hn
  have HN2 := Lib.hid hn2
  clear h hc hm h1 h2 hn hn2
  go_enter Try.func15, Try.ntmps15
  go_wp2_with fail
  go_loopw [3] (fun cv wq => ∃ (L' : List Int) (idx' cur' : Int), cv = .int .i64 cur' ∧ Fks ws pe p p2 p3 d g D idx' lim fr wq ∧ FKeep wr wq ∧ Chain D idx' (i64s L') ∧ Mch V U cur' L') (fun cv _ => (intOf cv + 1).toNat)
  case atStart => exact ⟨L, idx, cur, rfl, H.out, FKeep.refl _, HC.out, HM.out⟩
  case round =>
    obtain ⟨L', idx', cur', rfl, hfs, hk, hc, hm⟩ := hrel
    have HF := Lib.hid hfs
    have HK := Lib.hid hk
    clear hfs hk
    rcases L' with _ | ⟨v, r⟩
    · have hcur : cur' = -1 := hm
      subst hcur
      clear hc hm
      go_wp2_with fail
      go_ret
      exact ⟨rfl, ⟨_, HF.out⟩, HK.out⟩
    · obtain ⟨kk, rfl, nx, hd, hnx, hc2⟩ := hc
      obtain ⟨k, rfl, hv, u, hu, hlt, hm2⟩ := hm
      have hkn : k < n := by have := (List.getElem?_eq_some_iff.1 hv).1; rw [HN.out] at this; exact this
      have hlo := hm2.lo
      have e1 : decide (nx < 0) = r.isEmpty := hc2.neg.trans (i64s_empty r)
      have e2 := hm2.neg
      have E1 := Lib.hid e1
      have E2 := Lib.hid e2
      have HC2 := Lib.hid hc2
      have HM2 := Lib.hid hm2
      have HD := Lib.hid hd
      have HV := Lib.hid hv
      have HU := Lib.hid hu
      clear e1 e2 hc2 hm2 hd hv hu
      go_wp2_with fail
      refine (fs_pop ws pe p p2 p3 d g D lim fr _ kk v nx HF.out HD.out).mono ?_
      rintro e w4 ⟨rfl, hf4, hk4⟩
      have HF4 := Lib.hid hf4
      have HK4 := Lib.hid (HK.out.trans hk4)
      clear hf4 hk4
      have O1 := H1.out.fkeep HK4.out (by decide) (by decide) (by decide) (by decide) (by decide)
      have O2 := H2.out.fkeep HK4.out (by decide) (by decide) (by decide) (by decide) (by decide)
      have c1 := O1.cell HV.out
      have c2 := O2.cell HU.out
      have l1 := O1.lt.2
      have l2 := O2.lt.2
      have hxx : (v != v) = false := by simp
      clear O1 O2
      go_wp2_with fail
      refine (fs_empty ws pe p p2 p3 d g D nx lim fr _ HF4.out).mono ?_
      rintro e w5 ⟨rfl, rfl⟩
      rw [E1.out]
      have e2 := E2.out
      have hbb : (r.isEmpty != r.isEmpty) = false := by simp
      go_wp2_with fail
      exact ⟨⟨r, nx, u, rfl, HF4.out, HK4.out, HC2.out, HM2.out⟩, by simp [intOf]; omega⟩
set_option maxHeartbeats 2000000 in
theorem fs_forkDrain (ws : World) (pe p p2 p3 m1 m2 cap n : Nat) (d g : Option Nat) (D : List Ent) (idx lim : Int) (fr : List (Int × Int × Int)) (wr : World) (V U L : List Int) (cur pc i0 m0 : Int)
    (h : Fks ws pe p p2 p3 d g D idx lim (fr ++ [(pc, i0, m0)]) wr) (hfr : fr.length ≤ 1048576) (hc : Chain D i0 (i64s L)) (hm : Mch V U cur L) (h1 : OwnI 2 wr ws.heap.size m1 cap V) (h2 : OwnI 3 wr ws.heap.size m2 cap U) (hn : V.length = n) (hn2 : U.length = n) (hle : n ≤ 1048576) :
    Calls Try.prog 14 #[.pointer (some ⟨pe, 0, none⟩), .slice (some ⟨m1, 0, none⟩) n cap, .slice (some ⟨m2, 0, none⟩) n cap, .int .i64 cur, .int .i64 pc] wr fun e w' => e = .returned (.bool true) ∧ Fks ws pe p p2 p3 d g D i0 m0 fr w' ∧ FKeep wr w' := by
  have H := Lib.hid h
  have HC := Lib.hid hc
  have HM := Lib.hid hm
  have H1 := Lib.hid h1
  have H2 := Lib.hid h2
  have HN := Lib.hid hn
  have HN2 := Lib.hid hn2
  have HFR := Lib.hid hfr
  have E1 : Hid (decide (i0 < 0) = L.isEmpty) := Lib.hid (hc.neg.trans (i64s_empty L))
  have e2 := hm.neg
  have hbb : (L.isEmpty != L.isEmpty) = false := by simp
  have hpp : (pc != pc) = false := by simp
  clear h hc hm h1 h2 hn hn2 hfr
  go_enter Try.func14, Try.ntmps14
  go_wp2_with fail
  refine (fs_popfork2 ws pe p p2 p3 d g D idx lim fr _ pc i0 m0 H.out HFR.out).mono ?_
  rintro e w2 ⟨rfl, hf2, hk2⟩
  have HF2 := Lib.hid hf2
  have HK2 := Lib.hid hk2
  clear hf2 hk2
  go_wp2_with fail
  refine (fs_empty ws pe p p2 p3 d g D i0 m0 fr _ HF2.out).mono ?_
  rintro e w3 ⟨rfl, rfl⟩
  rw [E1.out]
  go_wp2_with fail
  refine (fs_state ws pe p p2 p3 d g D i0 m0 fr _ HF2.out).mono ?_
  rintro e w3 ⟨rfl, n3, rfl⟩
  have HF3 := Lib.hid (HF2.out.other ((Touch.refl (fun _ => False) _).drewN n3) (fun k hk => hk.elim))
  have HK3 : Hid (FKeep wr (w2.drewN n3)) := Lib.hid (HK2.out.touch ((Touch.refl (fun _ => False) _).drewN n3) (fun k hk => hk.elim))
  go_wp2_with fail
  refine (fs_drain ws pe p p2 p3 m1 m2 cap n d g D i0 m0 fr _ V U L cur HF3.out HC.out HM.out (H1.out.fkeep HK3.out (by decide) (by decide) (by decide) (by decide) (by decide)) (H2.out.fkeep HK3.out (by decide) (by decide) (by decide) (by decide) (by decide)) HN.out HN2.out hle).mono ?_
  rintro e w4 ⟨rfl, ⟨i4, hf4⟩, hk4⟩
  have HF4 := Lib.hid hf4
  have HK4 := Lib.hid (HK3.out.trans hk4)
  clear hf4 hk4
  go_wp2_with fail
  refine (fs_restore ws pe p p2 p3 d g D i4 m0 fr _ i0 m0 HF4.out).mono ?_
  rintro e w5 ⟨rfl, hf5, hk5⟩
  have HF5 := Lib.hid hf5
  have HK5 := Lib.hid (HK4.out.trans hk5)
  clear hf5 hk5
  unfold NoEnd
  go_wp2_with fail
  go_ret
  exact ⟨rfl, HF5.out, HK5.out⟩
end Go.Proofs.Ytohgcoepdfhbmaa
