/-
  The walk of the law FnPushPopForksKeepSavedStacks (n001_96): it returns true for every input.
-/
import Derived.Test.YtohgcoepdfhbmaaFst
import Derived.StillTailTactics
namespace Go.Proofs.Ytohgcoepdfhbmaa
set_option linter.unusedVariables false
set_option linter.unusedSimpArgs false
open Go.ChangeShapes Go.WideShapes Go.ChangeAt Go.RowKit M
theorem ST.drew {ws wr : World} {pe p p2 p3 m1 m2 m3 m4 cap : Nat} {d g : Option Nat} {D : List Ent} {idx lim : Int} {fr : List (Int × Int × Int)} {V U C P : List Int} (h : ST ws pe p p2 p3 m1 m2 m3 m4 cap d g D idx lim fr V U C P wr) : ST ws pe p p2 p3 m1 m2 m3 m4 cap d g D idx lim fr V U C P wr.drew :=
  ⟨h.fs.keep (below_drewN (Below.refl _ _) 1), h.fm.fkeep (FKeep.below (below_drewN (Below.refl _ _) 1))⟩
theorem OwnI.own {t : TypeId} {wr : World} {B m cap n : Nat} {L : List Int} (h : OwnI t wr B m cap L) (hn : L.length = n) : wr.ownsRow B t 1 (.slice (some ⟨m, 0, none⟩) n cap) n (L.map (Value.int .i64)) := by
  subst hn
  exact h
set_option maxRecDepth 100000 in
set_option maxHeartbeats 16000000 in
theorem fnPushPopForksKeepSavedStacks.main (a0 : Option Addr) (len0 cap0 : Nat) (z0 : List Int) (a1 : Option Addr) (len1 cap1 : Nat) (z1 : List Int) (w : World) (w0 : IsRow .i8 w a0 len0 cap0 z0) (w1 : IsRow .i64 w a1 len1 cap1 z1) (hl : len0 ≤ 4096) (hl1 : len1 ≤ 4096) (hl2 : len0 + 8 * len1 ≤ 1048576) :
    Calls Try.prog 4 #[.slice a0 len0 cap0, .slice a1 len1 cap1] w fun e w' => e = .returned (.bool true) ∧ Below w.heap.size w w' := by
  have W0 := Lib.hid w0
  have W1 := Lib.hid w1
  have HXL := Lib.hid (show (z0.take len0).length = len0 by rw [List.length_take]; have := w0.len; omega)
  have HYL := Lib.hid (show (z1.take len1).length = len1 by rw [List.length_take]; have := w1.len; omega)
  clear w0 w1
  have q1 : decide ((4096 : Int) < (len0 : Int)) = false := decide_eq_false (by omega)
  have q2 : decide ((4096 : Int) < (len1 : Int)) = false := decide_eq_false (by omega)
  have q3 : decide ((1048576 : Int) < (len0 : Int) + 8 * (len1 : Int)) = false := decide_eq_false (by omega)
  have hmk := make0 len0 (by omega)
  have hmk3 := make3 len0 (by omega)
  obtain ⟨i2, hi2, _, hz2, _⟩ := info_parts info2
  obtain ⟨i3, hi3, _, hz3, _⟩ := info_parts info3
  have HI2 := Lib.hid hi2
  have HZ2 := Lib.hid hz2
  have HI3 := Lib.hid hi3
  have HZ3 := Lib.hid hz3
  clear hi2 hz2 hi3 hz3
  go_enter Try.func4, Try.ntmps4
  go_wp2_with (first | (go_at_call 12; go_in) | fail)
  refine (copy_ops a0 len0 cap0 z0 _ W0.out (by omega)).mono ?_
  rintro e v1 ⟨A1, c1, rfl, hcp, hb1⟩
  obtain ⟨os, hos⟩ : ∃ os, z0.take len0 = os := ⟨_, rfl⟩
  rw [hos] at hcp HXL
  have HCP := Lib.hid hcp
  have HB1 := Lib.hid hb1
  have hs1 := hb1.size
  have W2 := Lib.hid (W1.out.below hb1)
  clear hcp hb1 hos
  go_wp2_with fail
  refine (copy_vals a1 len1 cap1 z1 _ W2.out (by omega)).mono ?_
  rintro e ws ⟨A2, c2, rfl, hcp2, hb2⟩
  obtain ⟨vs, hvs⟩ : ∃ vs, z1.take len1 = vs := ⟨_, rfl⟩
  rw [hvs] at hcp2 HYL
  have HCX := Lib.hid (show CopyOf .i8 30 ws w.heap.size A1 os from HCP.out.keep fun g cs hr => hr.keep hb2 hr.lt)
  have HCV := Lib.hid hcp2
  have HBS := Lib.hid (HB1.out.trans (hb2.mono hs1))
  have hs2 : w.heap.size ≤ ws.heap.size := Nat.le_trans hs1 hb2.size
  clear hcp2 hb2 hvs HCP HB1 W0 W1 W2
  go_wp2_with fail
  refine (fs_new _).mono ?_
  rintro e v3 ⟨pe, p2, p3, rfl, hE⟩
  have HST := Lib.hid (st_start (n := len0) (by omega) hE)
  clear hE
  go_wp2_with fail
  obtain ⟨b, hb⟩ : ∃ b, v3.heap.size = b := ⟨_, rfl⟩
  rw [hb] at HST
  go_loopw [6, 7, 8, 9, 10, 11, 12] (fun nv nu cu fc fp vi i wr => ∃ (k q : Nat) (V U : List Int) (cur : Int) (F : List Fk) (d g : Option Nat) (D : List Ent) (idx lim : Int) (L : List Int), k ≤ len0 ∧ q ≤ len1 ∧ q ≤ k ∧ i = .int .i64 k ∧ vi = .int .i64 q ∧ cu = .int .i64 cur ∧ V.length ≤ k ∧ F.length ≤ k ∧ D.length ≤ k ∧
      nv = .slice (some ⟨b, 0, none⟩) V.length len0 ∧ nu = .slice (some ⟨b + 1, 0, none⟩) U.length len0 ∧ fc = .slice (some ⟨b + 2, 0, none⟩) F.length len0 ∧ fp = .slice (some ⟨b + 3, 0, none⟩) F.length len0 ∧
      ST ws pe ws.heap.size p2 p3 b (b + 1) (b + 2) (b + 3) len0 d g D idx lim (frOf F) V U (cOf F) (pOf F) wr ∧ RL D idx lim V U cur L F) (fun _ _ _ _ _ _ i _ => len0 - (intOf i).toNat)
  case atStart => exact ⟨0, 0, [], [], -1, [], none, none, [], -1, -1, [], Nat.zero_le _, Nat.zero_le _, Nat.zero_le _, rfl, rfl, rfl, Nat.zero_le _, Nat.zero_le _, Nat.zero_le _, by simp [hb], by simp [hb], by simp [hb], by simp [hb], HST.out, ⟨rfl, by omega, by simp, trivial, rfl, by simp, rfl⟩⟩
  case round =>
    clear hb
    obtain ⟨k, q, V, U, cur, F, d, g, D, idx, lim, L, hk, hq, hqk, rfl, rfl, rfl, hVk, hFk, hDk, rfl, rfl, rfl, rfl, hS, hR⟩ := hrel
    have HS := Lib.hid hS
    have HR := Lib.hid hR
    clear hS hR HST
    by_cases hlt : k < len0
    · obtain ⟨go, hA1, hgo, hro, hco⟩ := HCX.out.get (i := k) (by rw [HXL.out]; exact hlt)
      have co := (HS.out.fs.below.cell (p := ⟨go, k, none⟩) hro.lt).trans (hco k (by rw [HXL.out]; exact hlt))
      subst hA1
      clear hro hco
      obtain ⟨o, ho⟩ : ∃ o, os.getD k 0 = o := ⟨_, rfl⟩
      rw [ho] at co
      clear ho
      have hul := Lib.hid HR.out.len
      by_cases hop0 : (bits BinOp.and IntKind.i64 (wrap64 o) 3 == 0) = true
      · by_cases hqv : q < len1
        · obtain ⟨gv, hA2, hgv, hrv, hcv⟩ := HCV.out.get (i := q) (by rw [HYL.out]; exact hqv)
          have cv := (HS.out.fs.below.cell (p := ⟨gv, q, none⟩) hrv.lt).trans (hcv q (by rw [HYL.out]; exact hqv))
          subst hA2
          clear hrv hcv
          obtain ⟨v, hvv⟩ : ∃ v, vs.getD q 0 = v := ⟨_, rfl⟩
          rw [hvv] at cv
          clear hvv
          go_wp2_with fail
          refine (fs_push ws pe _ p2 p3 d g D idx lim _ _ HS.out.fs HR.out.ch.lo HR.out.l0 HR.out.ch.hi HR.out.l1 (by omega) v).mono ?_
          rintro e v5 ⟨rfl, ⟨d', hf5⟩, hk5⟩
          have HS5 := Lib.hid (ST.mk hf5 (HS.out.fm.fkeep hk5))
          have HR5 := Lib.hid (HR.out.push v)
          have hDl := (pushD_length (D := D) (i := (max idx lim + 1).toNat) (e := (2, .int .i64 v, idx))).2
          have HNG := Lib.hid (show decide (max idx lim + 1 < 0) = false by have := HR.out.l0; rw [decide_eq_false]; omega)
          clear hf5 hk5
          unfold NoEnd
          go_wp2_with (at_builtin; first | (refine wpList_append_fits _ rfl (.tmp 107) (.tmp 109) 23 rfl ws.heap.size 2 i2 1 Try.underlying23 HI2.out HZ2.out b _ len0 (List.map (Value.int .i64) V) rfl (World.ownsRow.alloc HS5.out.fm.v _) ⟨v5.heap.size, 0, none⟩ 1 1 [.int .i64 v] rfl rfl (World.news_of_block (Row.made v5 2 #[.int .i64 v])) (by simp [Value.oneCell']) (by omega) ?_; intro v6 hown6 hg6; have HS6 := Lib.hid (HS5.out.a1 hown6 hg6); clear hown6 hg6) | (refine wpList_append_fits _ rfl (.tmp 111) (.tmp 113) 34 rfl ws.heap.size 3 i3 1 Try.underlying34 HI3.out HZ3.out (b + 1) _ len0 (List.map (Value.int .i64) U) rfl (World.ownsRow.alloc HS6.out.fm.u _) ⟨v6.heap.size, 0, none⟩ 1 1 [.int .i64 cur] rfl rfl (World.news_of_block (Row.made v6 3 #[.int .i64 cur])) (by simp [Value.oneCell']) (by have := hul.out; omega) ?_; intro v7 hown7 hg7; have HS7 := Lib.hid (HS6.out.a2 hown7 hg7); clear hown7 hg7))
          refine (fs_empty ws pe _ p2 p3 d' g _ _ lim _ _ HS7.out.fs).mono ?_
          rintro e v8 ⟨rfl, rfl⟩
          rw [HNG.out]
          go_wp2_with fail
          exact ⟨⟨k + 1, q + 1, V ++ [v], U ++ [cur], V.length, F, d', g, _, _, lim, v :: L, by omega, by omega, by omega, by go_num, by go_num, by go_num, by simp; omega, by omega, by omega, by simp, by simp, rfl, rfl, HS7.out, HR5.out⟩, by simp [intOf]; omega⟩
        · go_wp2_with fail
          refine (fs_push ws pe _ p2 p3 d g D idx lim _ _ HS.out.fs HR.out.ch.lo HR.out.l0 HR.out.ch.hi HR.out.l1 (by omega) (k : Int)).mono ?_
          rintro e v5 ⟨rfl, ⟨d', hf5⟩, hk5⟩
          have HS5 := Lib.hid (ST.mk hf5 (HS.out.fm.fkeep hk5))
          have HR5 := Lib.hid (HR.out.push (k : Int))
          have hDl := (pushD_length (D := D) (i := (max idx lim + 1).toNat) (e := (2, .int .i64 (k : Int), idx))).2
          have HNG := Lib.hid (show decide (max idx lim + 1 < 0) = false by have := HR.out.l0; rw [decide_eq_false]; omega)
          clear hf5 hk5
          unfold NoEnd
          go_wp2_with (at_builtin; first | (refine wpList_append_fits _ rfl (.tmp 107) (.tmp 109) 23 rfl ws.heap.size 2 i2 1 Try.underlying23 HI2.out HZ2.out b _ len0 (List.map (Value.int .i64) V) rfl (World.ownsRow.alloc HS5.out.fm.v _) ⟨v5.heap.size, 0, none⟩ 1 1 [.int .i64 (k : Int)] rfl rfl (World.news_of_block (Row.made v5 2 #[.int .i64 (k : Int)])) (by simp [Value.oneCell']) (by omega) ?_; intro v6 hown6 hg6; have HS6 := Lib.hid (HS5.out.a1 hown6 hg6); clear hown6 hg6) | (refine wpList_append_fits _ rfl (.tmp 111) (.tmp 113) 34 rfl ws.heap.size 3 i3 1 Try.underlying34 HI3.out HZ3.out (b + 1) _ len0 (List.map (Value.int .i64) U) rfl (World.ownsRow.alloc HS6.out.fm.u _) ⟨v6.heap.size, 0, none⟩ 1 1 [.int .i64 cur] rfl rfl (World.news_of_block (Row.made v6 3 #[.int .i64 cur])) (by simp [Value.oneCell']) (by have := hul.out; omega) ?_; intro v7 hown7 hg7; have HS7 := Lib.hid (HS6.out.a2 hown7 hg7); clear hown7 hg7))
          refine (fs_empty ws pe _ p2 p3 d' g _ _ lim _ _ HS7.out.fs).mono ?_
          rintro e v8 ⟨rfl, rfl⟩
          rw [HNG.out]
          go_wp2_with fail
          exact ⟨⟨k + 1, q, V ++ [(k : Int)], U ++ [cur], V.length, F, d', g, _, _, lim, (k : Int) :: L, by omega, by omega, by omega, by go_num, by go_num, by go_num, by simp; omega, by omega, by omega, by simp, by simp, rfl, rfl, HS7.out, HR5.out⟩, by simp [intOf]; omega⟩
      · have hop0' : (bits BinOp.and IntKind.i64 (wrap64 o) 3 == 0) = false := by simpa using hop0
        by_cases hop1 : (bits BinOp.and IntKind.i64 (wrap64 o) 3 == 1) = true
        · rcases L with _ | ⟨v, r⟩
          · have hc1 : cur = -1 := HR.out.m
            have hc2 : idx = -1 := HR.out.ch
            subst hc1 hc2
            go_wp2_with fail
            refine (fs_empty ws pe _ p2 p3 d g _ _ lim _ _ HS.out.fs).mono ?_
            rintro e v8 ⟨rfl, rfl⟩
            go_wp2_with fail
            exact ⟨⟨k + 1, q, V, U, -1, F, d, g, D, -1, lim, [], by omega, by omega, by omega, by go_num, rfl, rfl, by omega, by omega, by omega, rfl, rfl, rfl, rfl, HS.out, HR.out⟩, by simp [intOf]; omega⟩
          · obtain ⟨kk, hkk, nx, hd, hnx, hc2⟩ := HR.out.ch
            obtain ⟨kc, hkc, hv, u, hu, hlt2, hm2⟩ := HR.out.m
            have hkn : kc < V.length := (List.getElem?_eq_some_iff.1 hv).1
            have hkn2 : kc < U.length := (List.getElem?_eq_some_iff.1 hu).1
            have hlo := hm2.lo
            have e2 := hm2.neg
            have E1 := Lib.hid (show decide (nx < 0) = r.isEmpty from hc2.neg.trans (i64s_empty r))
            have HR2 := Lib.hid (RL.mk hc2 HR.out.l0 HR.out.l1 HR.out.sv hm2 HR.out.mf HR.out.len)
            have HD := Lib.hid hd
            have HV := Lib.hid hv
            have HU := Lib.hid hu
            subst hkk hkc
            clear hc2 hm2 hd hv hu e2
            go_wp2_with fail
            refine (fs_pop ws pe _ p2 p3 d g D lim _ _ kk v nx HS.out.fs HD.out).mono ?_
            rintro e w4 ⟨rfl, hf4, hk4⟩
            have HS4 := Lib.hid (ST.mk hf4 (HS.out.fm.fkeep hk4))
            have c1 := HS4.out.fm.v.cell HV.out
            have c2 := HS4.out.fm.u.cell HU.out
            have l1 := HS4.out.fm.v.lt.2
            have l2 := HS4.out.fm.u.lt.2
            have hxx : (v != v) = false := by simp
            clear hf4 hk4
            go_wp2_with fail
            refine (fs_empty ws pe _ p2 p3 d g D nx lim _ _ HS4.out.fs).mono ?_
            rintro e w5 ⟨rfl, rfl⟩
            rw [E1.out]
            have e2 := HR2.out.m.neg
            have hbb : (r.isEmpty != r.isEmpty) = false := by simp
            go_wp2_with fail
            exact ⟨⟨k + 1, q, V, U, u, F, d, g, D, nx, lim, r, by omega, by omega, by omega, by go_num, rfl, rfl, by omega, by omega, by omega, rfl, rfl, rfl, rfl, HS4.out, HR2.out⟩, by simp [intOf]; omega⟩
        · have hop1' : (bits BinOp.and IntKind.i64 (wrap64 o) 3 == 1) = false := by simpa using hop1
          by_cases hop2 : (bits BinOp.and IntKind.i64 (wrap64 o) 3 == 2) = true
          · have e2 := HR.out.m.neg
            have E1 := Lib.hid (show decide (idx < 0) = L.isEmpty from HR.out.ch.neg.trans (i64s_empty L))
            have hbb : (L.isEmpty != L.isEmpty) = false := by simp
            clear e2
            go_wp2_with fail
            refine (fs_pushfork2 ws pe _ p2 p3 d g D idx lim _ _ k HS.out.fs (by rw [frOf_length]; omega)).mono ?_
            rintro e v5 ⟨rfl, ⟨g', hf5⟩, hk5⟩
            have HS5 := Lib.hid (ST.mk hf5 (HS.out.fm.fkeep hk5))
            clear hf5 hk5
            have hcl := cOf_length F
            have hpl := pOf_length F
            obtain ⟨n, hn⟩ : ∃ n, F.length = n := ⟨_, rfl⟩
            have HCL := Lib.hid (hcl.trans hn)
            have HPL := Lib.hid (hpl.trans hn)
            rw [hn] at hFk ⊢
            clear hcl hpl
            have hF1 : ∀ x : Int × Int × Int × Int × List Int, (x :: F).length = n + 1 := fun x => by simp [hn]
            have HF1 := Lib.hid hF1
            clear hF1 hn
            have e2 := HR.out.m.neg
            unfold NoEnd
            go_wp2_with (at_builtin; first | (refine wpList_append_fits _ rfl (.tmp 146) (.tmp 148) 34 rfl ws.heap.size 3 i3 1 Try.underlying34 HI3.out HZ3.out (b + 2) _ len0 (List.map (Value.int .i64) (cOf F)) rfl (World.ownsRow.alloc (HS5.out.fm.c.own HCL.out) _) ⟨v5.heap.size, 0, none⟩ 1 1 [.int .i64 cur] rfl rfl (World.news_of_block (Row.made v5 3 #[.int .i64 cur])) (by simp [Value.oneCell']) (by omega) ?_; intro v6 hown6 hg6; have HS6 := Lib.hid (HS5.out.a3 (by rw [HCL.out]; exact hown6) hg6); clear hown6 hg6) | (refine wpList_append_fits _ rfl (.tmp 150) (.tmp 152) 34 rfl ws.heap.size 3 i3 1 Try.underlying34 HI3.out HZ3.out (b + 3) _ len0 (List.map (Value.int .i64) (pOf F)) rfl (World.ownsRow.alloc (HS6.out.fm.p.own HPL.out) _) ⟨v6.heap.size, 0, none⟩ 1 1 [.int .i64 k] rfl rfl (World.news_of_block (Row.made v6 3 #[.int .i64 k])) (by simp [Value.oneCell']) (by omega) ?_; intro v7 hown7 hg7; have HS7 := Lib.hid (HS6.out.a4 (by rw [HPL.out]; exact hown7) hg7); clear hown7 hg7))
            refine (fs_empty ws pe _ p2 p3 d g' D idx _ _ _ HS7.out.fs).mono ?_
            rintro e v8 ⟨rfl, rfl⟩
            rw [E1.out]
            go_wp2_with fail
            exact ⟨⟨k + 1, q, V, U, cur, (k, idx, lim, cur, L) :: F, d, g', D, idx, _, L, by omega, by omega, by omega, by go_num, rfl, rfl, by omega, by rw [HF1.out]; omega, by omega, rfl, rfl, by rw [HF1.out], by rw [HF1.out], by rw [frOf_cons, cOf_cons, pOf_cons]; exact HS7.out, HR.out.fork _⟩, by simp [intOf]; omega⟩
          · have hop2' : (bits BinOp.and IntKind.i64 (wrap64 o) 3 == 2) = false := by simpa using hop2
            rcases F with _ | ⟨⟨pc, i0, m0, fc, fL⟩, F⟩
            · have e2 := HR.out.m.neg
              have E1 := Lib.hid (show decide (idx < 0) = L.isEmpty from HR.out.ch.neg.trans (i64s_empty L))
              have hbb : (L.isEmpty != L.isEmpty) = false := by simp
              simp only [List.length_nil] at hFk ⊢
              go_wp2_with fail
              refine (fs_empty ws pe _ p2 p3 d g D idx _ _ _ HS.out.fs).mono ?_
              rintro e v8 ⟨rfl, rfl⟩
              rw [E1.out]
              go_wp2_with fail
              exact ⟨⟨k + 1, q, V, U, cur, [], d, g, D, idx, lim, L, by omega, by omega, by omega, by go_num, rfl, rfl, by omega, by simp, by omega, rfl, rfl, rfl, rfl, HS.out, HR.out⟩, by simp [intOf]; omega⟩
            · obtain ⟨n, hn⟩ : ∃ n, F.length = n := ⟨_, rfl⟩
              simp only [List.length_cons] at hFk ⊢
              rw [hn] at hFk ⊢
              have HN := Lib.hid hn
              have hS' := HS.out
              rw [frOf_cons, cOf_cons, pOf_cons] at hS'
              have c3 := hS'.fm.c.cell (k := n) (v := fc) (by rw [List.getElem?_append_right (by rw [cOf_length]; omega), cOf_length, hn]; simp)
              have c4 := hS'.fm.p.cell (k := n) (v := pc) (by rw [List.getElem?_append_right (by rw [pOf_length]; omega), pOf_length, hn]; simp)
              have l3 := hS'.fm.c.lt.2
              have l4 := hS'.fm.p.lt.2
              have HS' := Lib.hid hS'
              have HB := Lib.hid HR.out.back
              have E1 := Lib.hid (show decide (i0 < 0) = fL.isEmpty from HB.out.ch.neg.trans (i64s_empty fL))
              clear hS' hn
              go_wp2_with fail
              rw [hul.out]
              refine (fs_forkDrain ws pe _ p2 p3 b (b + 1) len0 V.length d g D idx lim (frOf F) _ V U fL fc pc i0 m0 HS'.out.fs (by rw [frOf_length, HN.out]; omega) HB.out.ch HB.out.m HS'.out.fm.v HS'.out.fm.u rfl hul.out (by omega)).mono ?_
              rintro e v5 ⟨rfl, hf5, hk5⟩
              have fm5 := HS'.out.fm.fkeep hk5
              have HS5 := Lib.hid (ST.mk hf5 (FM.mk fm5.v fm5.u (ownI_pop fm5.c) (ownI_pop fm5.p) fm5.n23 fm5.n24 fm5.n34))
              clear hf5 hk5 fm5 c3 c4 l3 l4
              have e2 := HB.out.m.neg
              have hbb : (fL.isEmpty != fL.isEmpty) = false := by simp
              go_wp2_with fail
              refine (fs_empty ws pe _ p2 p3 d g D i0 _ _ _ HS5.out.fs).mono ?_
              rintro e v8 ⟨rfl, rfl⟩
              rw [E1.out]
              go_wp2_with fail
              exact ⟨⟨k + 1, q, V, U, fc, F, d, g, D, i0, m0, fL, by omega, by omega, by omega, by go_num, rfl, rfl, by omega, by rw [HN.out]; omega, by omega, rfl, by rw [hul.out], by rw [HN.out], by rw [HN.out], HS5.out, HB.out⟩, by simp [intOf]; omega⟩
    · obtain ⟨N, hN⟩ : ∃ N, F.length = N := ⟨_, rfl⟩
      rw [hN] at hFk ⊢
      have HN := Lib.hid hN
      have hul := Lib.hid HR.out.len
      clear hN
      go_wp2_with fail
      rw [hul.out]
      refine (fs_drain ws pe _ p2 p3 b (b + 1) len0 V.length d g D idx lim (frOf F) _ V U L cur HS.out.fs HR.out.ch HR.out.m HS.out.fm.v HS.out.fm.u rfl hul.out (by omega)).mono ?_
      rintro e v5 ⟨rfl, ⟨i5, hf5⟩, hk5⟩
      have HS5 := Lib.hid (ST.mk hf5 (HS.out.fm.fkeep hk5))
      clear hf5 hk5
      have hN9 : N ≤ 4096 := by omega
      go_wp2_with fail
      go_loopw [17] (fun kv wq => ∃ (F' : List Fk) (d g : Option Nat) (D : List Ent) (idx lim kk : Int), F'.length ≤ N ∧ kk = (F'.length : Int) - 1 ∧ kv = .int .i64 kk ∧ ST ws pe ws.heap.size p2 p3 b (b + 1) (b + 2) (b + 3) len0 d g D idx lim (frOf F') V U (cOf F') (pOf F') wq ∧ Saved D lim (svOf F') ∧ ∀ f ∈ F', Mch V U f.2.2.2.1 f.2.2.2.2) (fun kv _ => (intOf kv + 1).toNat)
      case atStart => exact ⟨F, d, g, D, i5, lim, _, by rw [HN.out]; exact Nat.le_refl _, by rw [HN.out], rfl, HS5.out, HR.out.sv, HR.out.mf⟩
      case round =>
        obtain ⟨F', d', g', D', idx', lim', kk, hF', hkk, rfl, hS', hsv, hmf⟩ := hrel
        rcases F' with _ | ⟨⟨pc, i0, m0, fc, fL⟩, F'⟩
        · obtain rfl : kk = -1 := by simpa using hkk
          have HS' := Lib.hid hS'
          clear hS' hsv hmf hkk
          go_wp2_with fail
          go_ret
          exact ⟨rfl, HBS.out.trans (HS'.out.fs.below.mono hs2)⟩
        · obtain ⟨n, hn⟩ : ∃ n, F'.length = n := ⟨_, rfl⟩
          simp only [List.length_cons, hn] at hF' hkk
          obtain rfl : kk = (n : Int) := by omega
          rw [frOf_cons, cOf_cons, pOf_cons] at hS'
          have c3 := hS'.fm.c.cell (k := n) (v := fc) (by rw [List.getElem?_append_right (by rw [cOf_length]; omega), cOf_length, hn]; simp)
          have c4 := hS'.fm.p.cell (k := n) (v := pc) (by rw [List.getElem?_append_right (by rw [pOf_length]; omega), pOf_length, hn]; simp)
          have l3 := hS'.fm.c.lt.2
          have l4 := hS'.fm.p.lt.2
          obtain ⟨s1, s2, s3, s4, s5⟩ := hsv
          have HCH := Lib.hid (show Chain D' i0 (i64s fL) from s4)
          have HSV := Lib.hid (show Saved D' m0 (svOf F') from s5)
          have HMC := Lib.hid (show Mch V U fc fL from hmf (pc, i0, m0, fc, fL) (by simp))
          have HMF := Lib.hid (show ∀ f ∈ F', Mch V U f.2.2.2.1 f.2.2.2.2 from fun f hf => hmf f (by simp [hf]))
          have HS' := Lib.hid hS'
          have HN' := Lib.hid hn
          clear hS' hmf s1 s2 s3 s4 s5 hn hkk
          have hnN : (n : Int) < (N : Int) := by omega
          have hn0 : (0 : Int) ≤ (n : Int) := by omega
          go_wp2_with fail
          go_still_tail 11, (by kernel_rfl)
          change wpList _ _ _ _ _ wr.drew
          go_wp2_with fail
          refine (fs_forkDrain ws pe _ p2 p3 b (b + 1) len0 V.length d' g' D' idx' lim' (frOf F') _ V U fL fc pc i0 m0 HS'.out.drew.fs (by rw [frOf_length, HN'.out]; omega) HCH.out HMC.out HS'.out.drew.fm.v HS'.out.drew.fm.u rfl hul.out (by omega)).mono ?_
          rintro e v6 ⟨rfl, hf6, hk6⟩
          have fm6 := HS'.out.drew.fm.fkeep hk6
          have HS6 := Lib.hid (ST.mk hf6 (FM.mk fm6.v fm6.u (ownI_pop fm6.c) (ownI_pop fm6.p) fm6.n23 fm6.n24 fm6.n34))
          clear hf6 hk6 fm6 c3 c4 l3 l4
          go_wp2_with fail
          exact ⟨⟨F', d', g', D', i0, m0, _, by rw [HN'.out]; omega, by rw [HN'.out], by go_num, HS6.out, HSV.out, HMF.out⟩, by simp [intOf]⟩
set_option maxRecDepth 100000 in
set_option maxHeartbeats 4000000 in
theorem fnPushPopForksKeepSavedStacks.walk (a0 : Option Addr) (len0 cap0 : Nat) (z0 : List Int) (a1 : Option Addr) (len1 cap1 : Nat) (z1 : List Int) (w : World) (w0 : IsRow .i8 w a0 len0 cap0 z0) (w1 : IsRow .i64 w a1 len1 cap1 z1) :
    Calls Try.prog 4 #[.slice a0 len0 cap0, .slice a1 len1 cap1] w fun e w' => e = .returned (.bool true) ∧ Below w.heap.size w w' := by
  have hm := w0.len.2
  have hm1 := w1.len.2
  unfold maxLen at hm hm1
  by_cases h0 : len0 ≤ 4096
  · by_cases h1 : len1 ≤ 4096
    · by_cases h2 : len0 + 8 * len1 ≤ 1048576
      · exact fnPushPopForksKeepSavedStacks.main a0 len0 cap0 z0 a1 len1 cap1 z1 w w0 w1 h0 h1 h2
      · omega
    · clear w0 w1
      go_enter Try.func4, Try.ntmps4
      go_wp2
      all_goals (go_ret; exact ⟨rfl, Below.refl _ _⟩)
  · clear w0 w1
    go_enter Try.func4, Try.ntmps4
    go_wp2
    all_goals (go_ret; exact ⟨rfl, Below.refl _ _⟩)
end Go.Proofs.Ytohgcoepdfhbmaa
