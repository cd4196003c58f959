/-
  The contract of objMatches (n001_79): the walk.
-/
import Derived.Test.YtdjebcejpachmaaBuo
namespace Go.Proofs.Ytdjebcejpachmaa
set_option linter.unusedVariables false
set_option linter.unusedSimpArgs false
open Go.ChangeShapes Go.WideShapes Go.ChangeAt Go.RowKit M
theorem flat_get0 {f : Flat} {l : Nat} {s : ByteArray} {v : Int} (h1 : (f.map Prod.fst)[l]? = some s) (h2 : (f.map Prod.snd)[l]? = some v) : f[l]? = some (s, v) := by
  rw [List.getElem?_map] at h1 h2
  obtain ⟨e, he, rfl⟩ := Option.map_eq_some_iff.1 h1
  rw [he] at h2
  injection h2 with h2
  rw [he, ← h2]
def NdIn (om : OML) : Prop := ∀ s f, aget om s = some (.inr f) → Nd f
theorem OObj.look {w : World} {m N : Nat} {om : OML} (h : OObj w m N (fun2 om)) : ∃ es, MMap w m es ∧ es.length ≤ N ∧ (∀ s, (aget es s).isSome = (aget om s).isSome) ∧ ∀ s e, aget om s = some e → match e with
    | .inl n => aget es s = some (intV n)
    | .inr f => ∃ b, aget es s = some (.iface 42 (.map (some b))) ∧ FObj w b N (fun1 f) := by
  obtain ⟨es, h1, h2, h3⟩ := h
  refine ⟨es, h1, h2, fun s => ?_, fun s e he => ?_⟩
  · rw [(h3 s).some_eq]
    unfold fun2
    cases aget om s <;> rfl
  · have := h3 s
    unfold fun2 at this
    rw [he] at this
    cases h4 : aget es s with
    | none => rw [h4] at this; cases e <;> exact absurd this id
    | some v =>
      rw [h4] at this
      cases e with
      | inl n =>
        have hv : v = intV n := this
        rw [hv]
      | inr f =>
        obtain ⟨b, hv, _, hf⟩ := this
        exact ⟨b, by rw [hv], hf⟩
theorem FObj.look {w : World} {b N : Nat} {f : Flat} (h : FObj w b N (fun1 f)) (hn : Nd f) : ∃ fs, MMap w b fs ∧ fs.length = f.length ∧ ∀ s n, aget f s = some n → aget fs s = some (intV n) := by
  obtain ⟨fs, h1, _, h3⟩ := h
  refine ⟨fs, h1, len_of_keys h1.1 hn (fun s => ?_), fun s n hs => ?_⟩
  · rw [h3 s]
    unfold fun1
    cases aget f s <;> rfl
  · rw [h3 s]
    unfold fun1
    rw [hs]
    rfl
set_option maxRecDepth 100000 in
set_option maxHeartbeats 8000000 in
theorem matchC (w : World) (m N n : Nat) (v0 v1 v2 v3 v4 : Value) (om : OML) (hO : OObj w m N (fun2 om)) (hM : MdlV w n v0 v1 v2 v3 v4 om) (hn : n ≤ 100000) (hnd : Nd om) (hni : NdIn om) (hs : Small om 100000) :
    Calls Try.prog 20 #[.map (some m), .agg #[v0, v1, v2, v3, v4]] w fun e w' => e = .returned (.bool true) ∧ Below w.heap.size w w' := by
  have HM := Lib.hid hM
  obtain ⟨es, hm, hle, hdom, hval⟩ := hO.look
  obtain ⟨hlM, A0, ka0, A1, ka1, A2, ka2, A3, ka3, A4, ka4, _, _, rfl, rfl, rfl, rfl, rfl, _⟩ := hM
  have hen : es.length = n := by rw [← hlM]; exact len_of_keys hm.1 hnd hdom
  have HMM := Lib.hid hm
  have HVL := Lib.hid hval
  have HND := Lib.hid hnd
  have HNI := Lib.hid hni
  have HSM := Lib.hid hs
  have HLM := Lib.hid hlM
  have rl := fun ty => run_len (w := w.alloc (.cells #[.slice A0 n ka0, .slice A1 n ka1, .slice A2 n ka2, .slice A3 n ka3, .slice A4 n ka4] 39)) (hm.keep ((Below.refl _ _).alloc (Nat.le_refl _) _)) hen ty
  clear hm hle hdom hval hnd hni hs hlM hen hO
  go_enter Try.func20, Try.ntmps20
  go_wp2_with fail
  clear rl
  go_loopw [5] (fun i wr => ∃ j : Nat, j ≤ n ∧ i = .int .i64 j ∧ Row wr w.heap.size 39 #[.slice A0 n ka0, .slice A1 n ka1, .slice A2 n ka2, .slice A3 n ka3, .slice A4 n ka4] ∧ Below w.heap.size w wr) (fun i _ => n - (intOf i).toNat)
  case atStart => exact ⟨0, Nat.zero_le _, rfl, Row.made w 39 _, (Below.refl _ _).alloc (Nat.le_refl _) _⟩
  case round =>
    obtain ⟨j, hj, rfl, hr, hb⟩ := hrel
    have HR := Lib.hid hr
    have HB := Lib.hid hb
    have hlr := hr.lt
    have hsz := hb.size
    have z0 := hr.cell 0
    clear hr hb
    by_cases hlt : j < n
    · obtain ⟨b0, o0, k0, b1, o1, k1, b2, o2, k2, b3, o3, k3, b4, o4, k4, s, e, u, x, q0, q1, q2, q3, q4, hoe, c0', c1', c2', c3', c4', hen, l0', l1', l2', l3', l4'⟩ := HM.out.get hlt
      cases q0
      cases q1
      cases q2
      cases q3
      cases q4
      have c0 : wr.cell? ⟨b0, o0 + j, none⟩ = _ := (HB.out.cell (p := ⟨b0, o0 + j, none⟩) l0').trans c0'
      have c1 : wr.cell? ⟨b1, o1 + j, none⟩ = _ := (HB.out.cell (p := ⟨b1, o1 + j, none⟩) l1').trans c1'
      have c2 : wr.cell? ⟨b2, o2 + j, none⟩ = _ := (HB.out.cell (p := ⟨b2, o2 + j, none⟩) l2').trans c2'
      have c3 : wr.cell? ⟨b3, o3 + j, none⟩ = _ := (HB.out.cell (p := ⟨b3, o3 + j, none⟩) l3').trans c3'
      have c4 : wr.cell? ⟨b4, o4 + j, none⟩ = _ := (HB.out.cell (p := ⟨b4, o4 + j, none⟩) l4').trans c4'
      have z1 := HR.out.cell 1
      have z2 := HR.out.cell 2
      have z3 := HR.out.cell 3
      have z4 := HR.out.cell 4
      have hage := aget_of_mem HND.out (List.mem_of_getElem? hoe)
      have hve := HVL.out s e hage
      have HAG := Lib.hid hage
      have HEN := Lib.hid hen
      clear hoe hen c0' c1' c2' c3' c4' hage
      cases e with
      | inl iv =>
        simp only [entI, entB] at c1 c2
        have HVE := Lib.hid (show aget es s = some (intV iv) from hve)
        clear hve
        go_wp2_with fail
        refine (getIntC _ m es s iv (HMM.out.keep HB.out) HVE.out).mono ?_
        rintro e w' ⟨rfl, rfl⟩
        go_wp2_with fail
        exact ⟨⟨j + 1, by omega, by go_num, HR.out, HB.out⟩, by simp [intOf]; omega⟩
      | inr f =>
        simp only [entI, entB] at c1 c2
        obtain ⟨mb, hgm, hfo⟩ := (show ∃ b, aget es s = some (.iface 42 (.map (some b))) ∧ FObj w b N (fun1 f) from hve)
        obtain ⟨nf, gf, cf, gf', cf', hlf, rfl, rfl, vfk, vfi, ⟨_, lgf⟩, _, lgf'⟩ := HEN.out
        obtain ⟨fs, hfm, hfl, hfv⟩ := hfo.look (HNI.out s f HAG.out)
        have hnf : nf ≤ 100000 := by rw [← hlf]; exact HSM.out s f HAG.out
        have HGM := Lib.hid hgm
        have HFM := Lib.hid hfm
        have HFV := Lib.hid hfv
        have HLF := Lib.hid hlf
        have HNF := Lib.hid (HNI.out s f HAG.out)
        have HVK := Lib.hid vfk
        have HVI := Lib.hid vfi
        have rl2 := fun k ty => run_len (w := wr.drewN k) ((hfm.keep HB.out).keep (below_drewN (Below.refl _ _) k)) (hfl.trans hlf) ty
        clear hve hgm hfm hfl hfv hlf vfk vfi hfo
        go_wp2_with fail
        refine (getObjC _ m mb es s (HMM.out.keep HB.out) HGM.out).mono ?_
        rintro e w' ⟨rfl, rfl⟩
        go_wp2_with fail
        go_quiet (fail)
        go_wp2_with fail
        clear rl2
        go_loop [9] (fun i => ∃ q : Nat, q ≤ nf ∧ i = .int .i64 q) (fun i => nf - (intOf i).toNat)
        case atStart => exact ⟨0, Nat.zero_le _, rfl⟩
        case round =>
          obtain ⟨q, hq, rfl⟩ := hrel
          by_cases hlq : q < nf
          · obtain ⟨_, _, sk, e1, hbk, hsk, hck⟩ := ((HVK.out.keep HB.out).keep (below_drewN (Below.refl _ _) nq)).str hlq
            obtain ⟨_, _, si, e2, hbi, hsi, hci⟩ := ((HVI.out.keep HB.out).keep (below_drewN (Below.refl _ _) nq)).int hlq
            cases e1
            cases e2
            simp only [Nat.zero_add] at hck hci
            have HGV := Lib.hid (HFV.out sk si (aget_of_mem HNF.out (List.mem_of_getElem? (flat_get0 hsk hsi))))
            clear hsk hsi
            go_wp2_with fail
            refine (getIntC _ mb fs sk si ((HFM.out.keep HB.out).keep (below_drewN (Below.refl _ _) nq)) HGV.out).mono ?_
            rintro e w' ⟨rfl, rfl⟩
            go_wp2_with fail
            exact ⟨⟨q + 1, by omega, by go_num⟩, by simp [intOf]; omega⟩
          · obtain rfl : q = nf := by omega
            go_wp2_with fail
            exact ⟨⟨j + 1, by omega, by go_num, HR.out.drewN _, below_drewN HB.out _⟩, by simp [intOf]; omega⟩
    · obtain rfl : j = n := by omega
      go_wp2_with fail
      go_ret
      exact ⟨rfl, HB.out⟩
end Go.Proofs.Ytdjebcejpachmaa
