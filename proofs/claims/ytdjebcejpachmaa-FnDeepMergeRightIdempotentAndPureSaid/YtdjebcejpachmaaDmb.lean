/-
  Contract of deepMergeObjects (n001_79).
-/
import Derived.Test.YtdjebcejpachmaaDm
namespace Go.Proofs.Ytdjebcejpachmaa
set_option linter.unusedVariables false
set_option linter.unusedSimpArgs false
open Go.ChangeShapes Go.WideShapes Go.ChangeAt Go.RowKit M
def RecOK (N1 N2 : Nat) : Prop := ∀ (w : World) (b1 b2 : Nat) (f g : Fun1), FObj w b1 N1 f → FObj w b2 N2 g →
  Calls Try.prog 36 #[.map (some b1), .map (some b2)] w fun e w' => (∃ m, e = .returned (.iface 42 (.map (some m))) ∧ w.heap.size ≤ m ∧ FObj w' m (N1 + N2) (mrg1 f g)) ∧ Below w.heap.size w w'
def DmOut (w : World) (N1 N2 : Nat) (F G : Fun2) (e : Ending) (w' : World) : Prop :=
  (∃ m, e = .returned (.iface 42 (.map (some m))) ∧ w.heap.size ≤ m ∧ OObj w' m (N1 + N2) (mrg2 F G)) ∧ Below w.heap.size w w'
/-- The value of a name that the right object holds alone, or over something that is no pair of objects. -/
theorem right_val {w w' : World} {T N1 N2 : Nat} {F G : Fun2} {s : ByteArray} {v : Value} (hb : Below w.heap.size w w') (hT : w.heap.size ≤ T) (hG : VIs w (fun _ => True) N2 (some v) (G s)) (hn : ∀ f g, F s = some (.inr f) → G s = some (.inr g) → False) :
    VIs w' (· ≠ T) (N1 + N2) (some v) (mrg2 F G s) := by
  have h1 : mrg2 F G s = G s := by
    unfold mrg2 mrgE
    cases hg : G s with
    | none => rw [hg] at hG; exact absurd hG id
    | some x =>
      cases x with
      | inl n => rfl
      | inr g =>
        cases hf : F s with
        | none => rfl
        | some y =>
          cases y with
          | inl n => rfl
          | inr f => exact (hn f g hf hg).elim
  rw [h1]
  exact (hG.imp (ok' := (· ≠ T)) (fun b _ hl => by omega) (by omega)).touch (Touch.of_below hb (fun _ => False)) (fun _ _ _ q => q)
theorem run_mk (n1 n2 : Nat) (W : World) : (Instr.makeMap 42 (some (.int .i64 ((n1 : Int) + (n2 : Int))))).run Try.prog W = .ok (.map (some W.heap.size)) (W.alloc (.map #[] 0)) := by
  have : (n1 : Int) + (n2 : Int) = ((n1 + n2 : Nat) : Int) := by omega
  rw [this]
  simp [Instr.makeMap, run_underlying Try.underlying42, Result.andThen, asInt, asIntOf]
set_option maxHeartbeats 4000000 in
theorem dmGen (w : World) (b1 b2 N1 N2 : Nat) (F G : Fun2) (h1 : OObj w b1 N1 F) (h2 : OObj w b2 N2 G) (hN1 : N1 ≤ 100000) (hN2 : N2 ≤ 100000)
    (hrec : (∃ s f g, F s = some (.inr f) ∧ G s = some (.inr g)) → RecOK N1 N2) : Calls Try.prog 36 #[.map (some b1), .map (some b2)] w (DmOut w N1 N2 F G) := by
  obtain ⟨es, hm1, hl1, hF⟩ := h1
  obtain ⟨gs, hm2, hl2, hG⟩ := h2
  have H1 := Lib.hid hm1
  have H2 := Lib.hid hm2
  have HF := Lib.hid hF
  have HG := Lib.hid hG
  have HREC := Lib.hid hrec
  have lt1 := hm1.lt
  have lt2 := hm2.lt
  have rl1 := run_len hm1 rfl
  have rl2 := run_len hm2 rfl
  have hmk := run_mk es.length gs.length
  clear hm1 hm2 hF hG hrec
  go_enter Try.func36, Try.ntmps36
  go_wp2_with fail
  refine (copyC _ w.heap.size b1 es (MMap.made w) (H1.out.keep ((Below.refl _ _).alloc (Nat.le_refl _) _)) (by omega)).mono ?_
  rintro e w1 ⟨rfl, ⟨ts0, hmt, hcp⟩, ht1⟩
  have hs1 := ht1.size
  simp only [World.size_alloc] at hs1
  have HB1 := Lib.hid (show Below w.heap.size w w1 from ((Below.refl _ _).alloc (Nat.le_refl _) _).trans (ht1.below (by simp) (fun k hk e => by omega)))
  have HMT := Lib.hid hmt
  have HCP := Lib.hid hcp
  clear hmt hcp ht1 rl1 rl2 hmk
  go_wp2_with (at_range; refine wpList_rng w1 rfl _ rfl b2 gs rfl (H2.out.keep HB1.out) ?_; intro ob hr; have HR := Lib.hid hr; clear hr)
  go_frame
  go_loopw [25] (fun _ wr => ∃ rem ts, Rng wr w1.heap.size b2 gs rem ∧ MMap wr w.heap.size ts ∧ MrgTo wr w.heap.size (N1 + N2) F G es rem ts ∧ Below w.heap.size w wr ∧ w1.heap.size < wr.heap.size) (fun _ wr => wr.rangeLeft b2 w1.heap.size)
  case atStart =>
    refine ⟨gs, ts0, HR.out, HMT.out.keep ((Below.refl _ _).alloc (Nat.le_refl _) _), MrgTo.start (fun s => ?_) (fun s => (HG.out s).some_eq) HCP.out, HB1.out.trans ((Below.refl _ _).alloc (by omega) _), by simp⟩
    exact ((HF.out s).imp (ok' := (· ≠ w.heap.size)) (fun b _ hl => by omega) (Nat.le_add_right _ _)).touch (Touch.of_below (HB1.out.trans ((Below.refl _ _).alloc (by omega) _)) (fun _ => False)) (fun _ _ _ q => q)
  case round =>
    obtain ⟨rem, ts, hrg, hm, hmr, hbl, hsz⟩ := hrel
    have HRG := Lib.hid hrg
    have HM := Lib.hid hm
    have HMR := Lib.hid hmr
    have HBL := Lib.hid hbl
    clear hrg hm hmr hbl HR HMT HCP
    go_wp2_with (first | (at_next; refine wpList_nxt _ rfl _ rfl w1.heap.size b2 gs rem rfl HRG.out ?_ ?_) | go_in)
    · intro hz
      have HZ := Lib.hid hz
      clear hz
      go_wp2_with fail
      go_ret
      have hst := HMR.out
      rw [HZ.out] at hst
      refine ⟨⟨_, rfl, Nat.le_refl _, ts, HM.out, ?_, fun s => (hst.stop s).imp (fun _ _ _ => trivial) (Nat.le_refl _)⟩, HBL.out⟩
      have := len_union (b := es) (c := gs) HM.out.1 (fun s hs => by
        rw [(hst.stop s).some_eq] at hs
        rw [(HF.out s).some_eq, (HG.out s).some_eq]
        exact mrg_some hs)
      omega
    · intro s v w2 hg hg2 hr2 hlt2 ht2 hs2 hen
      have hvG := HG.out s
      rw [hg2] at hvG
      have hts := HMR.out s
      rw [if_pos (by rw [hg]; rfl)] at hts
      have hvF := HF.out s
      have hne : w.heap.size ≠ w1.heap.size := by omega
      have HM2 := Lib.hid (HM.out.touch ht2 hne)
      have HMR2 := Lib.hid (HMR.out.keepR ht2 (fun b fs q => HRG.out.ne q))
      have HBL2 := Lib.hid (HBL.out.trans (ht2.below (by omega) (fun k hk e => by omega)))
      have hlk := run_look HM2.out s
      rw [hts] at hlk
      have HR2 := Lib.hid hr2
      have HLT2 := Lib.hid hlt2
      have HVG := Lib.hid hvG
      have hsz2 : w1.heap.size < w2.heap.size := by omega
      clear hg hg2 hr2 hlt2 ht2 hs2 hts hvG
      cases hf : F s with
      | none =>
        rw [hf] at hvF
        have HFS := Lib.hid hf
        clear hf
        cases he : aget es s with
        | some u => rw [he] at hvF; exact absurd hvF id
        | none =>
          rw [he] at hlk
          simp only [Option.getD_none, Option.isSome_none] at hlk
          clear he hvF
          go_wp2_with (first | (refine wpList_upd _ rfl _ _ _ rfl w.heap.size ts s v rfl rfl rfl HM2.out ?_; intro w3 hm3 ht3 hs3; have HM3 := Lib.hid hm3; have HT3 := Lib.hid ht3; clear hm3 ht3; go_frame) | go_in)
          have hb3 : Below w.heap.size w w3 := HBL2.out.trans (HT3.out.below (by omega) (fun k hk e => by omega))
          have HR3 := HR2.out.touch HT3.out (fun q => by omega) (fun q => by omega)
          go_roundw
          case rel => exact ⟨_, _, HR3, HM3.out, HMR2.out.step HT3.out (right_val hb3 (Nat.le_refl _) HVG.out (fun f g h _ => by rw [HFS.out] at h; cases h)), hb3, by omega⟩
          case measure => rw [HR3.left, HRG.out.left]; exact HLT2.out
      | some y =>
        rw [hf] at hvF
        cases he : aget es s with
        | none => rw [he] at hvF; exact absurd hvF id
        | some u =>
          rw [he] at hvF hlk
          simp only [Option.getD_some, Option.isSome_some] at hlk
          clear he
          cases y with
          | inl n =>
            have HFS := Lib.hid hf
            obtain rfl : u = intV n := hvF
            simp only [intV] at hlk
            clear hf
            go_wp2_with (first | (refine wpList_upd _ rfl _ _ _ rfl w.heap.size ts s v rfl rfl rfl HM2.out ?_; intro w3 hm3 ht3 hs3; have HM3 := Lib.hid hm3; have HT3 := Lib.hid ht3; clear hm3 ht3; go_frame) | go_in)
            have hb3 : Below w.heap.size w w3 := HBL2.out.trans (HT3.out.below (by omega) (fun k hk e => by omega))
            have HR3 := HR2.out.touch HT3.out (fun q => by omega) (fun q => by omega)
            go_roundw
            case rel => exact ⟨_, _, HR3, HM3.out, HMR2.out.step HT3.out (right_val hb3 (Nat.le_refl _) HVG.out (fun f g h _ => by rw [HFS.out] at h; cases h)), hb3, by omega⟩
            case measure => rw [HR3.left, HRG.out.left]; exact HLT2.out
          | inr f =>
            obtain ⟨bf, rfl, _, hof⟩ := hvF
            have HFS := Lib.hid hf
            have HOF := Lib.hid hof
            clear hf hof
            cases hg : G s with
            | none => have := HVG.out; rw [hg] at this; exact absurd this id
            | some z =>
              have HGS := Lib.hid hg
              have hvg := HVG.out
              rw [hg] at hvg
              clear hg
              cases z with
              | inl n =>
                obtain rfl : v = intV n := hvg
                simp only [intV] at hen
                go_wp2_with (first | (refine wpList_upd _ rfl _ _ _ rfl w.heap.size ts s (intV n) rfl rfl rfl HM2.out ?_; intro w3 hm3 ht3 hs3; have HM3 := Lib.hid hm3; have HT3 := Lib.hid ht3; clear hm3 ht3; go_frame) | go_in)
                have hb3 : Below w.heap.size w w3 := HBL2.out.trans (HT3.out.below (by omega) (fun k hk e => by omega))
                have HR3 := HR2.out.touch HT3.out (fun q => by omega) (fun q => by omega)
                go_roundw
                case rel => exact ⟨_, _, HR3, HM3.out, HMR2.out.step HT3.out (right_val hb3 (Nat.le_refl _) HVG.out (fun f g _ h => by rw [HGS.out] at h; cases h)), hb3, by omega⟩
                case measure => rw [HR3.left, HRG.out.left]; exact HLT2.out
              | inr g =>
                obtain ⟨bg, rfl, _, hog⟩ := hvg
                have HOG := Lib.hid hog
                clear hog
                go_wp2_with fail
                refine (HREC.out ⟨s, f, g, HFS.out, HGS.out⟩ w2 bf bg f g (HOF.out.touch (Touch.of_below HBL2.out (fun _ => False)) (fun q => q)) (HOG.out.touch (Touch.of_below HBL2.out (fun _ => False)) (fun q => q))).mono ?_
                rintro e w4 ⟨⟨m, rfl, hmge, hobj⟩, hb4⟩
                have hs4 := hb4.size
                have HBJ := Lib.hid hobj
                have HM4 := Lib.hid (HM2.out.keep hb4)
                have HMR4 := Lib.hid (HMR2.out.keep hb4)
                have HR4 := Lib.hid (HR2.out.keep hb4)
                have HBL4 := Lib.hid (HBL2.out.trans (hb4.mono (by omega)))
                clear hobj hb4
                go_wp2_with (first | (refine wpList_upd _ rfl _ _ _ rfl w.heap.size ts s (.iface 42 (.map (some m))) rfl rfl rfl HM4.out ?_; intro w3 hm3 ht3 hs3; have HM3 := Lib.hid hm3; have HT3 := Lib.hid ht3; clear hm3 ht3; go_frame) | go_in)
                have hb3 : Below w.heap.size w w3 := HBL4.out.trans (HT3.out.below (by omega) (fun k hk e => by omega))
                have HR3 := HR4.out.touch HT3.out (fun q => by omega) (fun q => by omega)
                go_roundw
                case rel => exact ⟨_, _, HR3, HM3.out, HMR4.out.step HT3.out (by rw [show mrg2 F G s = some (.inr (mrg1 f g)) by unfold mrg2 mrgE; rw [HFS.out, HGS.out]]; exact ⟨m, rfl, by omega, HBJ.out.touch HT3.out (fun q => by omega)⟩), hb3, by omega⟩
                case measure => rw [HR3.left, HRG.out.left]; exact HLT2.out
theorem dmFlat (N1 N2 : Nat) (hN1 : N1 ≤ 100000) (hN2 : N2 ≤ 100000) : RecOK N1 N2 := by
  intro w b1 b2 f g h1 h2
  refine (dmGen w b1 b2 N1 N2 (lift1 f) (lift1 g) h1.lift h2.lift hN1 hN2 ?_).mono ?_
  · rintro ⟨s, f', g', h, _⟩
    unfold lift1 at h
    cases hf : f s <;> rw [hf] at h <;> cases h
  · rintro e w' ⟨⟨m, rfl, hm, ho⟩, hb⟩
    rw [mrg_lift] at ho
    exact ⟨⟨m, rfl, hm, ho.unlift⟩, hb⟩
/-- deepMergeObjects, whatever the objects hold. -/
theorem dmC (w : World) (b1 b2 N1 N2 : Nat) (F G : Fun2) (h1 : OObj w b1 N1 F) (h2 : OObj w b2 N2 G) (hN1 : N1 ≤ 100000) (hN2 : N2 ≤ 100000) : Calls Try.prog 36 #[.map (some b1), .map (some b2)] w (DmOut w N1 N2 F G) :=
  dmGen w b1 b2 N1 N2 F G h1 h2 hN1 hN2 (fun _ => dmFlat N1 N2 hN1 hN2)
def ZdmOut (w : World) (N1 N2 : Nat) (F G : Fun2) (e : Ending) (w' : World) : Prop :=
  (∃ m, e = .returned (.map (some m)) ∧ OObj w' m (N1 + N2) (mrg2 F G)) ∧ Below w.heap.size w w'
theorem zdmC (w : World) (b1 b2 N1 N2 : Nat) (F G : Fun2) (h1 : OObj w b1 N1 F) (h2 : OObj w b2 N2 G) (hN1 : N1 ≤ 100000) (hN2 : N2 ≤ 100000) : Calls Try.prog 18 #[.map (some b1), .map (some b2)] w (ZdmOut w N1 N2 F G) := by
  have H1 := Lib.hid h1
  have H2 := Lib.hid h2
  clear h1 h2
  go_enter Try.func18, Try.ntmps18
  go_wp2_with fail
  refine (dmC w b1 b2 N1 N2 F G H1.out H2.out hN1 hN2).mono ?_
  rintro e w1 ⟨⟨m, rfl, _, ho⟩, hb⟩
  have HO := Lib.hid ho
  have HB := Lib.hid hb
  clear ho hb
  go_wp2_with fail
  go_ret
  exact ⟨⟨m, rfl, HO.out⟩, HB.out⟩
@[go_sem] theorem run_mk0 (W : World) : (Instr.makeMap 42 none).run Try.prog W = .ok (.map (some W.heap.size)) (W.alloc (.map #[] 0)) := by
  simp [Instr.makeMap, run_underlying Try.underlying42, Result.andThen]
theorem newC (w : World) : Calls Try.prog 19 #[] w fun e w' => e = .returned (.map (some w.heap.size)) ∧ MMap w' w.heap.size [] ∧ Below w.heap.size w w' ∧ w'.heap.size = w.heap.size + 1 := by
  go_enter Try.func19, Try.ntmps19
  go_wp2_with fail
  go_ret
  exact ⟨rfl, MMap.made w, (Below.refl _ _).alloc (Nat.le_refl _) _, by simp⟩
def SetOut (w : World) (b : Nat) (es : ES) (s : ByteArray) (v : Value) (e : Ending) (w' : World) : Prop := e = .returned (.tuple #[]) ∧ MMap w' b (aset es s v) ∧ Touch (· = b) w w' ∧ w'.heap.size = w.heap.size
theorem setIntC (w : World) (b : Nat) (es : ES) (s : ByteArray) (n : Int) (h : MMap w b es) : Calls Try.prog 34 #[.map (some b), .string s, .int .i64 n] w (SetOut w b es s (intV n)) := by
  have H := Lib.hid h
  clear h
  go_enter Try.func34, Try.ntmps34
  go_wp2_with (first | (refine wpList_upd _ rfl _ _ _ rfl b es s (intV n) rfl rfl rfl H.out ?_; intro w3 hm3 ht3 hs3; have HM3 := Lib.hid hm3; have HT3 := Lib.hid ht3; have HS3 := Lib.hid hs3; clear hm3 ht3 hs3; go_frame) | go_in)
  (try simp only [Exit.inBlock, Exit.then])
  refine bodyPost_ret (results_none rfl _ _ _) rfl ?_
  exact ⟨rfl, HM3.out, HT3.out, HS3.out⟩
theorem setObjC (w : World) (b m : Nat) (es : ES) (s : ByteArray) (h : MMap w b es) : Calls Try.prog 35 #[.map (some b), .string s, .map (some m)] w (SetOut w b es s (.iface 42 (.map (some m)))) := by
  have H := Lib.hid h
  clear h
  go_enter Try.func35, Try.ntmps35
  go_wp2_with (first | (refine wpList_upd _ rfl _ _ _ rfl b es s (.iface 42 (.map (some m))) rfl rfl rfl H.out ?_; intro w3 hm3 ht3 hs3; have HM3 := Lib.hid hm3; have HT3 := Lib.hid ht3; have HS3 := Lib.hid hs3; clear hm3 ht3 hs3; go_frame) | go_in)
  (try simp only [Exit.inBlock, Exit.then])
  refine bodyPost_ret (results_none rfl _ _ _) rfl ?_
  exact ⟨rfl, HM3.out, HT3.out, HS3.out⟩
theorem getIntC (w : World) (b : Nat) (es : ES) (s : ByteArray) (n : Int) (h : MMap w b es) (hv : aget es s = some (intV n)) : Calls Try.prog 37 #[.map (some b), .string s] w fun e w' => e = .returned (.tuple #[.int .i64 1, .int .i64 n, .map none]) ∧ w = w' := by
  have hl := run_look h s
  rw [hv] at hl
  simp only [Option.getD_some, Option.isSome_some, intV] at hl
  clear h hv
  go_enter Try.func37, Try.ntmps37
  go_wp2_with fail
  exact bodyPost_ret (v := .tuple #[.int .i64 1, .int .i64 n, .map none]) (by simp [results, Try.results37, go_sem]) rfl ⟨rfl, rfl⟩
theorem getObjC (w : World) (b m : Nat) (es : ES) (s : ByteArray) (h : MMap w b es) (hv : aget es s = some (.iface 42 (.map (some m)))) : Calls Try.prog 37 #[.map (some b), .string s] w fun e w' => e = .returned (.tuple #[.int .i64 2, .int .i64 0, .map (some m)]) ∧ w = w' := by
  have hl := run_look h s
  rw [hv] at hl
  simp only [Option.getD_some, Option.isSome_some] at hl
  clear h hv
  go_enter Try.func37, Try.ntmps37
  go_wp2_with fail
  exact bodyPost_ret (v := .tuple #[.int .i64 2, .int .i64 0, .map (some m)]) (by simp [results, Try.results37, go_sem]) rfl ⟨rfl, rfl⟩
end Go.Proofs.Ytdjebcejpachmaa
