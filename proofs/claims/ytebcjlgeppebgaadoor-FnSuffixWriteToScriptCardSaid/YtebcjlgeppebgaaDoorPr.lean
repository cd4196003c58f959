/-
  The printer's contracts over queries (n001_84): Term.writeTo, Array.writeTo, Query.writeTo, by induction on the query.
-/
import Derived.Test.YtebcjlgeppebgaaDoorAst
namespace Go.Proofs.YtebcjlgeppebgaaDoor
set_option linter.unusedVariables false
open Go.ChangeShapes Go.WideShapes Go.ChangeAt Go.RowKit M
def WQ (q : Qy) : Prop := ∀ (w : World) (B b : Nat) (d : Option Nat) (acc : List UInt8) (n : Nat), IsQ w n q → Bld w B b d acc → (prQ q acc).length ≤ 140737488355328 → B ≤ w.heap.size → Calls Tryd.prog 44 #[pt n, pt b] w (POut w B b d (prQ q acc))
set_option maxRecDepth 100000 in
set_option maxHeartbeats 2000000 in
theorem termNum (w : World) (B b : Nat) (d : Option Nat) (acc : List UInt8) (m : Nat) (t : ByteArray) (hr : Row w m 66 (termCells 10 np np t))  (hb : Bld w B b d acc) (hl : acc.length + t.size ≤ 140737488355328) (hB : B ≤ w.heap.size) :
    Calls Tryd.prog 50 #[pt m, pt b] w (POut w B b d (acc ++ t.data.toList)) := by
  have c0 := hr.cell 0
  have c5 := hr.cell 5
  simp only [List.getElem?_toArray, List.getElem?_cons_succ, List.getElem?_cons_zero] at c0 c5
  have HR := Lib.hid hr
  have HB := Lib.hid hb
  clear hr hb
  go_enter Tryd.func50, Tryd.ntmps50
  go_wp2_with fail
  refine (bstrP _ B b d acc t HB.out hl hB).mono ?_
  rintro e w1 ⟨rfl, d1, hb1, hd1, ht1, hk1, hz1⟩
  have hr16 := hk1.out _ _ _ HR.out (by decide) (by decide)
  have e16 := hr16.cell 16
  simp only [List.getElem?_toArray, List.getElem?_cons_succ, List.getElem?_cons_zero] at e16
  clear hr16 c0 c5
  go_wp2_with fail
  go_loop [174] (fun i => i = .int .i64 0) (fun i => 0)
  case atStart => rfl
  case round =>
    subst hrel
    go_wp2_with fail
    go_end0
    exact POut.mk (BOut.then hd1.out ht1.out (BOut.refl hb1.out))
set_option maxRecDepth 100000 in
set_option maxHeartbeats 2000000 in
theorem termIdx (w : World) (B b : Nat) (d : Option Nat) (acc : List UInt8) (m : Nat) (k : Nat) (nm : ByteArray) (s e0 : Value) (sl : Bool) (hr : Row w m 66 (termCells 6 (pt k) np ⟨#[]⟩)) (hi : Row w k 88 (indexCells nm s e0 sl)) (hn : nm.toList.isEmpty = false) (hb : Bld w B b d acc) (hl : (prIdx nm acc).length ≤ 140737488355328) (hB : B ≤ w.heap.size) :
    Calls Tryd.prog 50 #[pt m, pt b] w (POut w B b d (prIdx nm acc)) := by
  have c0 := hr.cell 0
  have c1 := hr.cell 1
  simp only [List.getElem?_toArray, List.getElem?_cons_succ, List.getElem?_cons_zero] at c0 c1
  have HR := Lib.hid hr
  have HB := Lib.hid hb
  clear hr hb
  go_enter Tryd.func50, Tryd.ntmps50
  go_wp2_with fail
  refine (idxTo _ B b d acc k nm s e0 sl hi hn HB.out hl hB).mono ?_
  rintro e w1 ⟨rfl, ho⟩
  obtain ⟨d1, hb1, hd1, ht1, hk1, hz1⟩ := POut.parts HB.out ho
  clear ho
  have hr16 := hk1.out _ _ _ HR.out (by decide) (by decide)
  have e16 := hr16.cell 16
  simp only [List.getElem?_toArray, List.getElem?_cons_succ, List.getElem?_cons_zero] at e16
  clear hr16 c0 c1
  go_wp2_with fail
  go_loop [174] (fun i => i = .int .i64 0) (fun i => 0)
  case atStart => rfl
  case round =>
    subst hrel
    go_wp2_with fail
    go_end0
    exact POut.mk (BOut.then hd1.out ht1.out (BOut.refl hb1.out))
set_option maxHeartbeats 2000000 in
theorem arrNone (w : World) (B b : Nat) (d : Option Nat) (acc : List UInt8) (k : Nat) (hr : Row w k 51 #[np]) (hb : Bld w B b d acc) (hl : (prArr none acc).length ≤ 140737488355328) (hB : B ≤ w.heap.size) :
    Calls Tryd.prog 39 #[pt k, pt b] w (POut w B b d (prArr none acc)) := by
  have hl2 := prArr_le none acc
  have HR := Lib.hid hr
  have HB := Lib.hid hb
  clear hr hb
  go_enter Tryd.func39, Tryd.ntmps39
  go_wp2_with fail
  refine (bbyteP _ B b d acc 91 91 rfl HB.out (by omega) hB).mono ?_
  rintro e w1 ⟨rfl, d1, hb1, hd1, ht1, hk1, hz1⟩
  have hr := hk1.out _ _ _ HR.out (by decide) (by decide)
  have c0 := hr.cell 0
  simp only [List.getElem?_toArray, List.getElem?_cons_zero] at c0
  clear hr
  go_wp2_with fail
  refine (bbyteP _ B b d1 _ 93 93 rfl hb1.out (by simp; omega) (by omega)).mono ?_
  rintro e w2 ⟨rfl, d2, hb2, hd2, ht2, hk2, hz2⟩
  clear c0
  go_wp2_with fail
  go_end0
  exact POut.mk (BOut.then hd1.out ht1.out (BOut.then hd2.out ht2.out (BOut.refl hb2.out)))
set_option maxHeartbeats 2000000 in
theorem arrSome (q : Qy) (hq : WQ q) (w : World) (B b : Nat) (d : Option Nat) (acc : List UInt8) (k a : Nat) (hr : Row w k 51 #[pt a]) (hi : IsQ w a q) (hb : Bld w B b d acc) (hl : (prArr (some q) acc).length ≤ 140737488355328) (hB : B ≤ w.heap.size) :
    Calls Tryd.prog 39 #[pt k, pt b] w (POut w B b d (prArr (some q) acc)) := by
  have hl2 := prArr_le (some q) acc
  have HL3 := Lib.hid (show (prQ q (acc ++ [91])).length ≤ 140737488355328 by
    have : (prArr (some q) acc).length = (prQ q (acc ++ [91])).length + 1 := by simp [prArr]
    omega)
  have HR := Lib.hid hr
  have HB := Lib.hid hb
  have HI := Lib.hid hi
  have HQ := Lib.hid hq
  have HL := Lib.hid hl
  clear hr hb hi hq
  go_enter Tryd.func39, Tryd.ntmps39
  go_wp2_with fail
  refine (bbyteP _ B b d acc 91 91 rfl HB.out (by omega) hB).mono ?_
  rintro e w1 ⟨rfl, d1, hb1, hd1, ht1, hk1, hz1⟩
  have hr := hk1.out _ _ _ HR.out (by decide) (by decide)
  have c0 := hr.cell 0
  simp only [List.getElem?_toArray, List.getElem?_cons_zero] at c0
  clear hr
  go_wp2_with fail
  refine (HQ.out _ B b d1 _ a (HI.out.keep hk1.out) hb1.out HL3.out (by omega)).mono ?_
  rintro e w2 ⟨rfl, ho⟩
  obtain ⟨d2, hb2, hd2, ht2, hk2, hz2⟩ := POut.parts hb1.out ho
  clear ho c0
  go_wp2_with fail
  refine (bbyteP _ B b d2 _ 93 93 rfl hb2.out (by have : (prArr (some q) acc).length = (prQ q (acc ++ [91])).length + 1 := by simp [prArr]
                                                  omega) (by omega)).mono ?_
  rintro e w3 ⟨rfl, d3, hb3, hd3, ht3, hk3, hz3⟩
  go_wp2_with fail
  go_end0
  exact POut.mk (BOut.then hd1.out ht1.out (BOut.then hd2.out ht2.out (BOut.then hd3.out ht3.out (BOut.refl hb3.out))))
set_option maxRecDepth 100000 in
set_option maxHeartbeats 2000000 in
theorem termArr (w : World) (B b : Nat) (d : Option Nat) (acc : List UInt8) (m : Nat) (k a : Nat) (q : Qy) (hq : WQ q) (hr : Row w m 66 (termCells 9 np (pt k) ⟨#[]⟩)) (hi : Row w k 51 #[pt a]) (hj : IsQ w a q) (hb : Bld w B b d acc) (hl : (prArr (some q) acc).length ≤ 140737488355328) (hB : B ≤ w.heap.size) :
    Calls Tryd.prog 50 #[pt m, pt b] w (POut w B b d (prArr (some q) acc)) := by
  have c0 := hr.cell 0
  have c4 := hr.cell 4
  simp only [List.getElem?_toArray, List.getElem?_cons_succ, List.getElem?_cons_zero] at c0 c4
  have HR := Lib.hid hr
  have HB := Lib.hid hb
  clear hr hb
  go_enter Tryd.func50, Tryd.ntmps50
  go_wp2_with fail
  refine (arrSome q hq _ B b d acc k a hi hj HB.out hl hB).mono ?_
  rintro e w1 ⟨rfl, ho⟩
  obtain ⟨d1, hb1, hd1, ht1, hk1, hz1⟩ := POut.parts HB.out ho
  clear ho
  have hr16 := hk1.out _ _ _ HR.out (by decide) (by decide)
  have e16 := hr16.cell 16
  simp only [List.getElem?_toArray, List.getElem?_cons_succ, List.getElem?_cons_zero] at e16
  clear hr16 c0 c4
  go_wp2_with fail
  go_loop [174] (fun i => i = .int .i64 0) (fun i => 0)
  case atStart => rfl
  case round =>
    subst hrel
    go_wp2_with fail
    go_end0
    exact POut.mk (BOut.then hd1.out ht1.out (BOut.refl hb1.out))
theorem opStr (c : Bool) (w : World) : Calls Tryd.prog 52 #[.int .i64 (opNum c)] w fun e w' => e = .returned (.string ⟨(opText c).toArray⟩) ∧ w = w' := by
  cases c
  · show Calls Tryd.prog 52 #[.int .i64 1] w _
    go_enter Tryd.func52, Tryd.ntmps52
    go_wp2
    go_ret
    exact ⟨rfl, rfl⟩
  · show Calls Tryd.prog 52 #[.int .i64 2] w _
    go_enter Tryd.func52, Tryd.ntmps52
    go_wp2
    go_ret
    exact ⟨rfl, rfl⟩
set_option maxRecDepth 100000 in
set_option maxHeartbeats 2000000 in
theorem qNum (t : ByteArray) : WQ (.num t) := by
  intro w B b d acc n hi hb hl hB
  obtain ⟨m, hr, ht⟩ := hi
  have c0 := hr.cell 0
  have c1 := hr.cell 1
  have c2 := hr.cell 2
  have c3 := hr.cell 3
  simp only [List.getElem?_toArray, List.getElem?_cons_succ, List.getElem?_cons_zero] at c0 c1 c2 c3
  have HB := Lib.hid hb
  have HT := Lib.hid ht
  have hl2 : acc.length + t.size ≤ 140737488355328 := by have := hl; unfold prQ at this; rw [List.length_append] at this; exact this
  clear ht
  clear hr hb
  go_enter Tryd.func44, Tryd.ntmps44
  go_wp2_with fail
  go_loop [30] (fun i => i = .int .i64 0) (fun i => 0)
  case atStart => rfl
  case round =>
    subst hrel
    go_wp2_with fail
    go_loop [43] (fun i => i = .int .i64 0) (fun i => 0)
    case atStart => rfl
    case round =>
      subst hrel
      go_wp2_with fail
      refine (termNum _ B b d acc m t HT.out HB.out hl2 hB).mono ?_
      rintro e w1 ⟨rfl, ho⟩
      have HO := Lib.hid ho
      clear ho c0 c1 c2 c3
      go_wp2_with fail
      go_end0
      exact POut.mk HO.out
set_option maxRecDepth 100000 in
set_option maxHeartbeats 2000000 in
theorem qIdx (nm : ByteArray) : WQ (.idx nm) := by
  intro w B b d acc n hi hb hl hB
  obtain ⟨m, k, hr, ht, hx, hn⟩ := hi
  have c0 := hr.cell 0
  have c1 := hr.cell 1
  have c2 := hr.cell 2
  have c3 := hr.cell 3
  simp only [List.getElem?_toArray, List.getElem?_cons_succ, List.getElem?_cons_zero] at c0 c1 c2 c3
  have HB := Lib.hid hb
  have HT := Lib.hid ht
  have HX := Lib.hid hx
  have HN := Lib.hid hn
  have hlx := hl
  clear ht hx hn
  clear hr hb
  go_enter Tryd.func44, Tryd.ntmps44
  go_wp2_with fail
  go_loop [30] (fun i => i = .int .i64 0) (fun i => 0)
  case atStart => rfl
  case round =>
    subst hrel
    go_wp2_with fail
    go_loop [43] (fun i => i = .int .i64 0) (fun i => 0)
    case atStart => rfl
    case round =>
      subst hrel
      go_wp2_with fail
      refine (termIdx _ B b d acc m k nm _ _ _ HT.out HX.out HN.out HB.out hlx hB).mono ?_
      rintro e w1 ⟨rfl, ho⟩
      have HO := Lib.hid ho
      clear ho c0 c1 c2 c3
      go_wp2_with fail
      go_end0
      exact POut.mk HO.out
set_option maxRecDepth 100000 in
set_option maxHeartbeats 2000000 in
theorem qArr (q : Qy) (hq : WQ q) : WQ (.arr q) := by
  intro w B b d acc n hi hb hl hB
  obtain ⟨m, k, a, hr, ht, hx, hj⟩ := hi
  have c0 := hr.cell 0
  have c1 := hr.cell 1
  have c2 := hr.cell 2
  have c3 := hr.cell 3
  simp only [List.getElem?_toArray, List.getElem?_cons_succ, List.getElem?_cons_zero] at c0 c1 c2 c3
  have HB := Lib.hid hb
  have HT := Lib.hid ht
  have HX := Lib.hid hx
  have HJ := Lib.hid hj
  have HQ := Lib.hid hq
  have HL := Lib.hid hl
  clear ht hx hj hq hl
  clear hr hb
  go_enter Tryd.func44, Tryd.ntmps44
  go_wp2_with fail
  go_loop [30] (fun i => i = .int .i64 0) (fun i => 0)
  case atStart => rfl
  case round =>
    subst hrel
    go_wp2_with fail
    go_loop [43] (fun i => i = .int .i64 0) (fun i => 0)
    case atStart => rfl
    case round =>
      subst hrel
      go_wp2_with fail
      refine (termArr _ B b d acc m k a q HQ.out HT.out HX.out HJ.out HB.out HL.out hB).mono ?_
      rintro e w1 ⟨rfl, ho⟩
      have HO := Lib.hid ho
      clear ho c0 c1 c2 c3
      go_wp2_with fail
      go_end0
      exact POut.mk HO.out
set_option maxRecDepth 100000 in
set_option maxHeartbeats 4000000 in
theorem qBin_true (l r : Qy) (hq : WQ l) (hq2 : WQ r) : WQ (.bin true l r) := by
  intro w B b d acc n hi hb hl hB
  obtain ⟨a, a2, hr, hi1, hi2⟩ := hi
  have hop : opNum true = 2 := rfl
  rw [hop] at hr
  have c0 := hr.cell 0
  have c1 := hr.cell 1
  have c2 := hr.cell 2
  have c3 := hr.cell 3
  have c4 := hr.cell 4
  have c5 := hr.cell 5
  simp only [List.getElem?_toArray, List.getElem?_cons_succ, List.getElem?_cons_zero] at c0 c1 c2 c3 c4 c5
  have hle : (prQ r ((prQ l acc) ++ [44] ++ [32])).length ≤ 140737488355328 := hl
  have hlr := prQ_le r ((prQ l acc) ++ [44] ++ [32])
  simp only [List.length_append, List.length_singleton] at hlr
  have HLE := Lib.hid hle
  have HR := Lib.hid hr
  have HB := Lib.hid hb
  have HI1 := Lib.hid hi1
  have HI2 := Lib.hid hi2
  have HQ := Lib.hid hq
  have HQ2 := Lib.hid hq2
  clear hr hb hi1 hi2 hq hq2 hop hl
  go_enter Tryd.func44, Tryd.ntmps44
  go_wp2_with fail
  go_loop [30] (fun i => i = .int .i64 0) (fun i => 0)
  case atStart => rfl
  case round =>
    subst hrel
    go_wp2_with fail
    go_loop [43] (fun i => i = .int .i64 0) (fun i => 0)
    case atStart => rfl
    case round =>
      subst hrel
      go_wp2_with fail
      refine (HQ.out _ B b d acc a HI1.out HB.out (by omega) hB).mono ?_
      rintro e w1 ⟨rfl, ho⟩
      obtain ⟨d1, hb1, hd1, ht1, hk1, hz1⟩ := POut.parts HB.out ho
      have hr := hk1.out _ _ _ HR.out (by decide) (by decide)
      have e5 := hr.cell 5
      have e6 := hr.cell 6
      have e7 := hr.cell 7
      simp only [List.getElem?_toArray, List.getElem?_cons_succ, List.getElem?_cons_zero] at e5 e6 e7
      clear ho hr c0 c1 c2 c3 c4 c5
      go_wp2_with fail
      go_loop [87] (fun i => i = .int .i64 0) (fun i => 0)
      case atStart => rfl
      case round =>
        subst hrel
        go_wp2_with fail
        refine (opStr true _).mono ?_
        rintro e w' ⟨rfl, rfl⟩
        go_wp2_with fail
        refine (bstrP _ B b d1 _ ⟨(opText true).toArray⟩ hb1.out (by show _ + 1 ≤ _; simp; omega) (by omega)).mono ?_
        rintro e w3 ⟨rfl, d3, hb3, hd3, ht3, hk3, hz3⟩
        have hr := hk3.out _ _ _ (hk1.out _ _ _ HR.out (by decide) (by decide)) (by decide) (by decide)
        have g5 := hr.cell 5
        simp only [List.getElem?_toArray, List.getElem?_cons_succ, List.getElem?_cons_zero] at g5
        clear hr e5 e6 e7
        go_wp2_with fail
        refine (bbyteP _ B b d3 _ 32 32 rfl hb3.out (by simp [opText]; omega) (by omega)).mono ?_
        rintro e w4 ⟨rfl, d4, hb4, hd4, ht4, hk4, hz4⟩
        have hr := hk4.out _ _ _ (hk3.out _ _ _ (hk1.out _ _ _ HR.out (by decide) (by decide)) (by decide) (by decide)) (by decide) (by decide)
        have g5' := hr.cell 5
        simp only [List.getElem?_toArray, List.getElem?_cons_succ, List.getElem?_cons_zero] at g5'
        clear hr g5
        go_wp2_with fail
        refine (HQ2.out _ B b d4 _ a2 (HI2.out.keep (((hk1.out).trans hk3.out).trans hk4.out)) hb4.out HLE.out (by omega)).mono ?_
        rintro e w5 ⟨rfl, ho⟩
        have HO := Lib.hid ho
        clear ho g5'
        go_wp2_with fail
        go_end0
        exact POut.mk (BOut.then hd1.out ht1.out (BOut.then hd3.out ht3.out (BOut.then hd4.out ht4.out HO.out)))
set_option maxRecDepth 100000 in
set_option maxHeartbeats 4000000 in
theorem qBin_false (l r : Qy) (hq : WQ l) (hq2 : WQ r) : WQ (.bin false l r) := by
  intro w B b d acc n hi hb hl hB
  obtain ⟨a, a2, hr, hi1, hi2⟩ := hi
  have hop : opNum false = 1 := rfl
  rw [hop] at hr
  have c0 := hr.cell 0
  have c1 := hr.cell 1
  have c2 := hr.cell 2
  have c3 := hr.cell 3
  have c4 := hr.cell 4
  have c5 := hr.cell 5
  simp only [List.getElem?_toArray, List.getElem?_cons_succ, List.getElem?_cons_zero] at c0 c1 c2 c3 c4 c5
  have hle : (prQ r ((prQ l acc ++ [32]) ++ [124] ++ [32])).length ≤ 140737488355328 := hl
  have hlr := prQ_le r ((prQ l acc ++ [32]) ++ [124] ++ [32])
  simp only [List.length_append, List.length_singleton] at hlr
  have HLE := Lib.hid hle
  have HR := Lib.hid hr
  have HB := Lib.hid hb
  have HI1 := Lib.hid hi1
  have HI2 := Lib.hid hi2
  have HQ := Lib.hid hq
  have HQ2 := Lib.hid hq2
  clear hr hb hi1 hi2 hq hq2 hop hl
  go_enter Tryd.func44, Tryd.ntmps44
  go_wp2_with fail
  go_loop [30] (fun i => i = .int .i64 0) (fun i => 0)
  case atStart => rfl
  case round =>
    subst hrel
    go_wp2_with fail
    go_loop [43] (fun i => i = .int .i64 0) (fun i => 0)
    case atStart => rfl
    case round =>
      subst hrel
      go_wp2_with fail
      refine (HQ.out _ B b d acc a HI1.out HB.out (by omega) hB).mono ?_
      rintro e w1 ⟨rfl, ho⟩
      obtain ⟨d1, hb1, hd1, ht1, hk1, hz1⟩ := POut.parts HB.out ho
      have hr := hk1.out _ _ _ HR.out (by decide) (by decide)
      have e5 := hr.cell 5
      have e6 := hr.cell 6
      have e7 := hr.cell 7
      simp only [List.getElem?_toArray, List.getElem?_cons_succ, List.getElem?_cons_zero] at e5 e6 e7
      clear ho hr c0 c1 c2 c3 c4 c5
      go_wp2_with fail
      refine (bbyteP _ B b d1 _ 32 32 rfl hb1.out (by omega) (by omega)).mono ?_
      rintro e w2 ⟨rfl, d2, hb2, hd2, ht2, hk2, hz2⟩
      have hr := hk2.out _ _ _ (hk1.out _ _ _ HR.out (by decide) (by decide)) (by decide) (by decide)
      have f5 := hr.cell 5
      have f6 := hr.cell 6
      have f7 := hr.cell 7
      simp only [List.getElem?_toArray, List.getElem?_cons_succ, List.getElem?_cons_zero] at f5 f6 f7
      clear hr e5 e6 e7
      go_wp2_with fail
      go_loop [87] (fun i => i = .int .i64 0) (fun i => 0)
      case atStart => rfl
      case round =>
        subst hrel
        go_wp2_with fail
        refine (opStr false _).mono ?_
        rintro e w' ⟨rfl, rfl⟩
        go_wp2_with fail
        refine (bstrP _ B b d2 _ ⟨(opText false).toArray⟩ hb2.out (by show _ + 1 ≤ _; simp; omega) (by omega)).mono ?_
        rintro e w3 ⟨rfl, d3, hb3, hd3, ht3, hk3, hz3⟩
        have hr := hk3.out _ _ _ ((hk1.out.trans hk2.out) _ _ _ HR.out (by decide) (by decide)) (by decide) (by decide)
        have g5 := hr.cell 5
        simp only [List.getElem?_toArray, List.getElem?_cons_succ, List.getElem?_cons_zero] at g5
        clear hr f5 f6 f7
        go_wp2_with fail
        refine (bbyteP _ B b d3 _ 32 32 rfl hb3.out (by simp [opText]; omega) (by omega)).mono ?_
        rintro e w4 ⟨rfl, d4, hb4, hd4, ht4, hk4, hz4⟩
        have hr := hk4.out _ _ _ (hk3.out _ _ _ ((hk1.out.trans hk2.out) _ _ _ HR.out (by decide) (by decide)) (by decide) (by decide)) (by decide) (by decide)
        have g5' := hr.cell 5
        simp only [List.getElem?_toArray, List.getElem?_cons_succ, List.getElem?_cons_zero] at g5'
        clear hr g5
        go_wp2_with fail
        refine (HQ2.out _ B b d4 _ a2 (HI2.out.keep ((((hk1.out.trans hk2.out)).trans hk3.out).trans hk4.out)) hb4.out HLE.out (by omega)).mono ?_
        rintro e w5 ⟨rfl, ho⟩
        have HO := Lib.hid ho
        clear ho g5'
        go_wp2_with fail
        go_end0
        exact POut.mk (BOut.then hd1.out ht1.out (BOut.then hd2.out ht2.out (BOut.then hd3.out ht3.out (BOut.then hd4.out ht4.out HO.out))))
theorem wq : ∀ q : Qy, WQ q
  | .num t => qNum t
  | .idx nm => qIdx nm
  | .bin true l r => qBin_true l r (wq l) (wq r)
  | .bin false l r => qBin_false l r (wq l) (wq r)
  | .arr q => qArr q (wq q)
end Go.Proofs.YtebcjlgeppebgaaDoor
