/-
  The contract of (*objModel).put (n001_79). Printed by genPut.py.
-/
import Derived.Test.YtdjebcejpachmaaMdl
import Derived.Deep.CutRange
namespace Go.Proofs.Ytdjebcejpachmaa
set_option linter.unusedVariables false
set_option linter.unusedSimpArgs false
open Go.ChangeShapes Go.WideShapes Go.ChangeAt Go.RowKit M
def PutOut (w : World) (B p : Nat) (om : OML) (e : Ending) (w' : World) : Prop := e = .returned (.tuple #[]) ∧ (∃ n, Mdl w' B w'.heap.size p n om) ∧ Below B w w'
theorem ok_snoc (om : OML) (s : ByteArray) (e : Ent) : ok (om ++ [(s, e)]) = ok om ++ [.string s] := by simp [ok, strV]
theorem oi_snoc (om : OML) (s : ByteArray) (e : Ent) : oi (om ++ [(s, e)]) = oi om ++ [.int .i64 (entI e)] := by simp [oi, intsV]
theorem ob_snoc (om : OML) (s : ByteArray) (e : Ent) : ob (om ++ [(s, e)]) = ob om ++ [.bool (entB e)] := by simp [ob]
theorem ok_set {om : OML} {k : Nat} {s : ByteArray} {x e : Ent} (h : om[k]? = some (s, x)) : ok (om.set k (s, e)) = ok om := by
  obtain ⟨hi, hx⟩ := List.getElem?_eq_some_iff.1 h
  unfold ok strV
  rw [List.map_map, List.map_map]
  apply List.ext_getElem?
  intro j
  rw [List.getElem?_map, List.getElem?_map, List.getElem?_set]
  by_cases hj : k = j
  · subst hj
    rw [if_pos rfl, if_pos hi, h]
    rfl
  · rw [if_neg hj]
theorem oi_set (om : OML) (k : Nat) (s : ByteArray) (e : Ent) : oi (om.set k (s, e)) = (oi om).set k (.int .i64 (entI e)) := by simp [oi, intsV, List.map_set]
theorem ob_set (om : OML) (k : Nat) (s : ByteArray) (e : Ent) : ob (om.set k (s, e)) = (ob om).set k (.bool (entB e)) := by simp [ob, List.map_set]
set_option maxRecDepth 100000 in
set_option maxHeartbeats 8000000 in
theorem putC (w : World) (B H p n : Nat) (om : OML) (s : ByteArray) (e : Ent) (iv : Int) (bv : Bool) (au : Option Addr) (nu cu : Nat) (ax : Option Addr) (nx cx : Nat) (hm : Mdl w B H p n om) (hn : n ≤ 100000) (hB : B ≤ w.heap.size) (hH : H ≤ w.heap.size)
    (hiv : iv = entI e) (hbv : bv = entB e) (he : EntIn w (fun k => B ≤ k ∧ k < H) e (.slice au nu cu) (.slice ax nx cx)) :
    Calls Try.prog 30 #[.pointer (some ⟨p, 0, none⟩), .string s, .int .i64 iv, .bool bv, .slice au nu cu, .slice ax nx cx] w (PutOut w B p (aset om s e)) := by
  obtain ⟨hl, v0, v1, v2, v3, v4, us, ws, hst, hen, hDH⟩ := hm
  have HE := Lib.hid (he.weak (D' := DM p v0 v1 v2 v3 v4) (fun k _ q => ⟨(hst.lowD k q).1, hDH k q⟩))
  have HEN := Lib.hid hen
  have HLW := Lib.hid hst.lowD
  have HIV := Lib.hid hiv
  have HBV := Lib.hid hbv
  have HL := Lib.hid hl
  obtain ⟨A0, k0, rfl⟩ := own_form hst.o0
  obtain ⟨A1, k1, rfl⟩ := own_form hst.o1
  obtain ⟨A2, k2, rfl⟩ := own_form hst.o2
  obtain ⟨A3, k3, rfl⟩ := own_form hst.o3
  obtain ⟨A4, k4, rfl⟩ := own_form hst.o4
  have HST := Lib.hid hst
  have hpl := hst.row.lt
  have y0 := hst.row.cell 0
  clear hen hDH hiv hbv he hl
  cases hp : pos (om.map Prod.fst) s with
  | none =>
    have HP := Lib.hid (show posI (om.map Prod.fst) s = -1 by unfold posI; rw [hp])
    have HSET := Lib.hid (pos_none hp e)
    have HVW := Lib.hid (show Vw w A0 n (ok om) by obtain ⟨a, c, h1, h2, _⟩ := own_vw hst.o0; cases h1; exact h2)
    clear hp hst
    go_enter Try.func30, Try.ntmps30
    go_wp2_with fail
    refine (indexC _ A0 n k0 (om.map Prod.fst) s HVW.out (by omega)).mono ?_
    rintro e w' ⟨rfl, rfl⟩
    rw [HP.out]
    go_upto_region 3 with (at_builtin; go_loud (refine wpList_app1 _ rfl (.tmp 25) (.tmp 27) 24 rfl B 9 (.string ByteArray.empty) 16 Try.underlying24 info9 rfl (by decide) (.slice A0 n k0) n (ok om) rfl (HST.out.o0.alloc _) w.heap.size (.string s) rfl (Row.made _ _ _) (by simp [Value.oneCell']) (by omega) (by simp only [World.size_alloc]; omega) ?_); intro g0 c0 w0' ho ht ha hlg; have r0 := (HST.out.row.alloc (.cells #[(.string s)] 9)).touch ht (fun q => HST.out.np0 p q rfl); have x0 := r0.cell 0; have f0 := r0.free 0; have S0 := Lib.hid (HST.out.app0 (.cells #[(.string s)] 9) ht ho); have TS0 := Lib.hid (HST.out.tapp0 (.slice (some ⟨g0, 0, none⟩) (n + 1) c0) (.cells #[(.string s)] 9) ht); have AS0 := Lib.hid ha; have hs0 := ht.size; simp only [World.size_alloc] at hs0; have lg0 := hlg; clear ho ht ha hlg r0 y0)
    obtain ⟨w0, hw0⟩ : ∃ w0, w0 = w0'.setCell ⟨p, 0, none⟩ (.slice (some ⟨g0, 0, none⟩) (n + 1) c0) := ⟨_, rfl⟩
    rw [← hw0]
    rw [← hw0] at S0 TS0
    have e0 : w0'.heap.size ≤ w0.heap.size := by rw [hw0]; simp [World.setCell]
    clear hw0 x0 f0
    have y0 := S0.out.row.cell 1
    have z0 := S0.out.row.free 1
    go_upto_region 4 with (at_builtin; go_loud (refine wpList_app1 _ rfl (.tmp 35) (.tmp 37) 29 rfl B 3 (.int .i64 0) 8 Try.underlying29 info3 rfl (by decide) (.slice A1 n k1) n (oi om) rfl (S0.out.o1.alloc _) w0.heap.size (.int .i64 iv) rfl (Row.made _ _ _) (by simp [Value.oneCell']) (by omega) (by simp only [World.size_alloc]; omega) ?_); intro g1 c1 w1' ho ht ha hlg; have r1 := (S0.out.row.alloc (.cells #[(.int .i64 iv)] 3)).touch ht (fun q => S0.out.np1 p q rfl); have x1 := r1.cell 1; have f1 := r1.free 1; have S1 := Lib.hid (S0.out.app1 (.cells #[(.int .i64 iv)] 3) ht ho); have TS1 := Lib.hid (S0.out.tapp1 (.slice (some ⟨g1, 0, none⟩) (n + 1) c1) (.cells #[(.int .i64 iv)] 3) ht); have AS1 := Lib.hid ha; have hs1 := ht.size; simp only [World.size_alloc] at hs1; have lg1 := hlg; clear ho ht ha hlg r1 y0)
    obtain ⟨w1, hw1⟩ : ∃ w1, w1 = w1'.setCell ⟨p, 1, none⟩ (.slice (some ⟨g1, 0, none⟩) (n + 1) c1) := ⟨_, rfl⟩
    rw [← hw1]
    rw [← hw1] at S1 TS1
    have e1 : w1'.heap.size ≤ w1.heap.size := by rw [hw1]; simp [World.setCell]
    clear hw1 x1 f1 z0
    have y0 := S1.out.row.cell 2
    have z0 := S1.out.row.free 2
    go_upto_region 5 with (at_builtin; go_loud (refine wpList_app1 _ rfl (.tmp 45) (.tmp 47) 37 rfl B 4 (.bool false) 1 Try.underlying37 info4 rfl (by decide) (.slice A2 n k2) n (ob om) rfl (S1.out.o2.alloc _) w1.heap.size (.bool bv) rfl (Row.made _ _ _) (by simp [Value.oneCell']) (by omega) (by simp only [World.size_alloc]; omega) ?_); intro g2 c2 w2' ho ht ha hlg; have r2 := (S1.out.row.alloc (.cells #[(.bool bv)] 4)).touch ht (fun q => S1.out.np2 p q rfl); have x2 := r2.cell 2; have f2 := r2.free 2; have S2 := Lib.hid (S1.out.app2 (.cells #[(.bool bv)] 4) ht ho); have TS2 := Lib.hid (S1.out.tapp2 (.slice (some ⟨g2, 0, none⟩) (n + 1) c2) (.cells #[(.bool bv)] 4) ht); have AS2 := Lib.hid ha; have hs2 := ht.size; simp only [World.size_alloc] at hs2; have lg2 := hlg; clear ho ht ha hlg r2 y0)
    obtain ⟨w2, hw2⟩ : ∃ w2, w2 = w2'.setCell ⟨p, 2, none⟩ (.slice (some ⟨g2, 0, none⟩) (n + 1) c2) := ⟨_, rfl⟩
    rw [← hw2]
    rw [← hw2] at S2 TS2
    have e2 : w2'.heap.size ≤ w2.heap.size := by rw [hw2]; simp [World.setCell]
    clear hw2 x2 f2 z0
    have y0 := S2.out.row.cell 3
    have z0 := S2.out.row.free 3
    go_upto_region 6 with (at_builtin; go_loud (refine wpList_app1 _ rfl (.tmp 55) (.tmp 57) 30 rfl B 24 (.slice none 0 0) 24 Try.underlying30 info24 rfl (by decide) (.slice A3 n k3) n us rfl (S2.out.o3.alloc _) w2.heap.size (.slice au nu cu) rfl (Row.made _ _ _) (by simp [Value.oneCell']) (by omega) (by simp only [World.size_alloc]; omega) ?_); intro g3 c3 w3' ho ht ha hlg; have r3 := (S2.out.row.alloc (.cells #[(.slice au nu cu)] 24)).touch ht (fun q => S2.out.np3 p q rfl); have x3 := r3.cell 3; have f3 := r3.free 3; have S3 := Lib.hid (S2.out.app3 (.cells #[(.slice au nu cu)] 24) ht ho); have TS3 := Lib.hid (S2.out.tapp3 (.slice (some ⟨g3, 0, none⟩) (n + 1) c3) (.cells #[(.slice au nu cu)] 24) ht); have AS3 := Lib.hid ha; have hs3 := ht.size; simp only [World.size_alloc] at hs3; have lg3 := hlg; clear ho ht ha hlg r3 y0)
    obtain ⟨w3, hw3⟩ : ∃ w3, w3 = w3'.setCell ⟨p, 3, none⟩ (.slice (some ⟨g3, 0, none⟩) (n + 1) c3) := ⟨_, rfl⟩
    rw [← hw3]
    rw [← hw3] at S3 TS3
    have e3 : w3'.heap.size ≤ w3.heap.size := by rw [hw3]; simp [World.setCell]
    clear hw3 x3 f3 z0
    have y0 := S3.out.row.cell 4
    have z0 := S3.out.row.free 4
    go_wp2_with (at_builtin; go_loud (refine wpList_app1 _ rfl (.tmp 65) (.tmp 67) 31 rfl B 29 (.slice none 0 0) 24 Try.underlying31 info29 rfl (by decide) (.slice A4 n k4) n ws rfl (S3.out.o4.alloc _) w3.heap.size (.slice ax nx cx) rfl (Row.made _ _ _) (by simp [Value.oneCell']) (by omega) (by simp only [World.size_alloc]; omega) ?_); intro g4 c4 w4' ho ht ha hlg; have r4 := (S3.out.row.alloc (.cells #[(.slice ax nx cx)] 29)).touch ht (fun q => S3.out.np4 p q rfl); have x4 := r4.cell 4; have f4 := r4.free 4; have S4 := Lib.hid (S3.out.app4 (.cells #[(.slice ax nx cx)] 29) ht ho); have TS4 := Lib.hid (S3.out.tapp4 (.slice (some ⟨g4, 0, none⟩) (n + 1) c4) (.cells #[(.slice ax nx cx)] 29) ht); have AS4 := Lib.hid ha; have hs4 := ht.size; simp only [World.size_alloc] at hs4; have lg4 := hlg; clear ho ht ha hlg r4 y0)
    (try simp only [Exit.inBlock, Exit.then])
    refine bodyPost_ret (results_none rfl _ _ _) rfl ?_
    have TT : Touch (DM p (.slice A0 n k0) (.slice A1 n k1) (.slice A2 n k2) (.slice A3 n k3) (.slice A4 n k4)) w _ := (TS0.out.mono (fun k _ q => q.elim .inl fun q => .inr (.inl q))).trans ((TS1.out.mono (fun k _ q => q.elim .inl fun q => .inr (.inr (.inl q)))).trans ((TS2.out.mono (fun k _ q => q.elim .inl fun q => .inr (.inr (.inr (.inl q))))).trans ((TS3.out.mono (fun k _ q => q.elim .inl fun q => .inr (.inr (.inr (.inr (.inl q)))))).trans (TS4.out.mono (fun k _ q => q.elim .inl fun q => .inr (.inr (.inr (.inr (.inr q)))))))))
    have hus : us.length = om.length := by rw [HL.out]; simpa using HST.out.o3.1
    have hws : ws.length = om.length := by rw [HL.out]; simpa using HST.out.o4.1
    have hS := S4.out
    rw [HIV.out, HBV.out, ← ok_snoc, ← oi_snoc, ← ob_snoc, ← HSET.out] at hS
    refine ⟨rfl, ⟨n + 1, by rw [HSET.out, List.length_append, HL.out]; rfl, _, _, _, _, _, _, _, hS, ?_, fun k q => (hS.lowD k q).2⟩, TT.below hB (fun k hk q => by have := (HLW.out k q).1; omega)⟩
    rw [HSET.out]
    refine (HEN.out.snoc hus hws HE.out).turn TT (fun k q => q) ?_
    rintro k (q | q | q | q | q | q)
    · exact .inl (.inl q)
    · have e' : g0 = k := Option.some.inj q
      subst e'
      rcases AS0.out with q | q
      · exact .inl (.inr (.inl q))
      · exact .inr (by rw [q]; simp only [World.size_alloc]; omega)
    · have e' : g1 = k := Option.some.inj q
      subst e'
      rcases AS1.out with q | q
      · exact .inl (.inr (.inr (.inl q)))
      · exact .inr (by rw [q]; simp only [World.size_alloc]; omega)
    · have e' : g2 = k := Option.some.inj q
      subst e'
      rcases AS2.out with q | q
      · exact .inl (.inr (.inr (.inr (.inl q))))
      · exact .inr (by rw [q]; simp only [World.size_alloc]; omega)
    · have e' : g3 = k := Option.some.inj q
      subst e'
      rcases AS3.out with q | q
      · exact .inl (.inr (.inr (.inr (.inr (.inl q)))))
      · exact .inr (by rw [q]; simp only [World.size_alloc]; omega)
    · have e' : g4 = k := Option.some.inj q
      subst e'
      rcases AS4.out with q | q
      · exact .inl (.inr (.inr (.inr (.inr (.inr q)))))
      · exact .inr (by rw [q]; simp only [World.size_alloc]; omega)
  | some i =>
    obtain ⟨e0, hx, _, hset⟩ := pos_some hp
    have hi : i < n := by have := (List.getElem?_eq_some_iff.1 hx).1; have := HL.out; omega
    have HX := Lib.hid hx
    have HSET := Lib.hid (hset e)
    have HP := Lib.hid (show posI (om.map Prod.fst) s = (i : Int) by unfold posI; rw [hp])
    have HVW := Lib.hid (show Vw w A0 n (ok om) by obtain ⟨a, c, h1, h2, _⟩ := own_vw hst.o0; cases h1; exact h2)
    clear hp hst hx hset
    go_enter Try.func30, Try.ntmps30
    go_wp2_with fail
    refine (indexC _ A0 n k0 (om.map Prod.fst) s HVW.out (by omega)).mono ?_
    rintro e w' ⟨rfl, rfl⟩
    rw [HP.out]
    clear y0
    have y0 := HST.out.row.cell 1
    obtain ⟨g1, c1, hq, ⟨u1, hu1⟩, hf1, hg1, hset⟩ := HST.out.set1 hi
    cases hq
    obtain ⟨hs, htt⟩ := hset (.int .i64 iv)
    have S1 := Lib.hid hs
    have TS1 := Lib.hid htt
    clear hset hs htt
    go_upto_region 8 with fail
    obtain ⟨w1, hw1⟩ : ∃ w1, w1 = w.setCell ⟨g1, i, none⟩ (.int .i64 iv) := ⟨_, rfl⟩
    rw [← hw1]
    rw [← hw1] at S1 TS1
    clear hw1 hu1 hf1 y0 u1
    have y0 := S1.out.row.cell 2
    obtain ⟨g2, c2, hq, ⟨u2, hu2⟩, hf2, hg2, hset⟩ := S1.out.set2 hi
    cases hq
    obtain ⟨hs, htt⟩ := hset (.bool bv)
    have S2 := Lib.hid hs
    have TS2 := Lib.hid htt
    clear hset hs htt
    go_upto_region 9 with fail
    obtain ⟨w2, hw2⟩ : ∃ w2, w2 = w1.setCell ⟨g2, i, none⟩ (.bool bv) := ⟨_, rfl⟩
    rw [← hw2]
    rw [← hw2] at S2 TS2
    clear hw2 hu2 hf2 y0 u2
    have y0 := S2.out.row.cell 3
    obtain ⟨g3, c3, hq, ⟨u3, hu3⟩, hf3, hg3, hset⟩ := S2.out.set3 hi
    cases hq
    obtain ⟨hs, htt⟩ := hset (.slice au nu cu)
    have S3 := Lib.hid hs
    have TS3 := Lib.hid htt
    clear hset hs htt
    go_upto_region 10 with fail
    obtain ⟨w3, hw3⟩ : ∃ w3, w3 = w2.setCell ⟨g3, i, none⟩ (.slice au nu cu) := ⟨_, rfl⟩
    rw [← hw3]
    rw [← hw3] at S3 TS3
    clear hw3 hu3 hf3 y0 u3
    have y0 := S3.out.row.cell 4
    obtain ⟨g4, c4, hq, ⟨u4, hu4⟩, hf4, hg4, hset⟩ := S3.out.set4 hi
    cases hq
    obtain ⟨hs, htt⟩ := hset (.slice ax nx cx)
    have S4 := Lib.hid hs
    have TS4 := Lib.hid htt
    clear hset hs htt
    go_wp2_with fail
    (try simp only [Exit.inBlock, Exit.then])
    refine bodyPost_ret (results_none rfl _ _ _) rfl ?_
    have TT := TS1.out.trans (TS2.out.trans (TS3.out.trans TS4.out))
    have hus : us.length = om.length := by rw [HL.out]; simpa using HST.out.o3.1
    have hws : ws.length = om.length := by rw [HL.out]; simpa using HST.out.o4.1
    have hS := S4.out
    rw [HIV.out, HBV.out, ← ok_set HX.out, ← oi_set, ← ob_set, ← HSET.out] at hS
    refine ⟨rfl, ⟨n, by rw [HSET.out, List.length_set, HL.out], _, _, _, _, _, _, _, hS, ?_, fun k q => (hS.lowD k q).2⟩, TT.below hB (fun k hk q => by have := (HLW.out k q).1; omega)⟩
    rw [HSET.out]
    exact (HEN.out.set (by rw [HL.out]; exact hi) hus hws HE.out).turn TT (fun k q => q) (fun k q => .inl q)
end Go.Proofs.Ytdjebcejpachmaa
