/-
  The contract of modelOf (n001_79); models by value ('MdlV').
-/
import Derived.Test.YtdjebcejpachmaaPut
namespace Go.Proofs.Ytdjebcejpachmaa
set_option linter.unusedVariables false
set_option linter.unusedSimpArgs false
open Go.ChangeShapes Go.WideShapes Go.ChangeAt Go.RowKit M
abbrev NK := List (Bool × List ByteArray)
abbrev NI := List (Bool × List Int)
def nkV (nks : NK) : List (Bool × List Value) := nks.map fun x => (x.1, strV x.2)
def niV (nvs : NI) : List (Bool × List Value) := nvs.map fun x => (x.1, intsV x.2)
def nkAt (nks : NK) (j : Nat) : Bool × List ByteArray := (nks[j]?).getD (false, [])
def niAt (nvs : NI) (j : Nat) : Bool × List Int := (nvs[j]?).getD (false, [])
theorem nAt_nk (nks : NK) (j : Nat) : nAt (nkV nks) j = ((nkAt nks j).1, strV (nkAt nks j).2) := by
  unfold nAt nkV nkAt
  rw [List.getElem?_map]
  cases nks[j]? <;> rfl
theorem nAt_ni (nvs : NI) (j : Nat) : nAt (niV nvs) j = ((niAt nvs j).1, intsV (niAt nvs j).2) := by
  unfold nAt niV niAt
  rw [List.getElem?_map]
  cases nvs[j]? <;> rfl
def flatAt (nks : NK) (nvs : NI) (j : Nat) : Flat := flatF (nkAt nks j).2 (niAt nvs j).2 (nkAt nks j).2.length
def entAt (vs : List Int) (nks : NK) (nvs : NI) (j : Nat) : Ent := if (nkAt nks j).1 then .inr (flatAt nks nvs j) else .inl (intAtL vs j)
def modF (ks : List ByteArray) (vs : List Int) (nks : NK) (nvs : NI) : Nat → OML
  | 0 => []
  | j + 1 => match ks[j]? with
    | none => modF ks vs nks nvs j
    | some s => aset (modF ks vs nks nvs j) s (entAt vs nks nvs j)
theorem modF_step {ks : List ByteArray} {vs : List Int} {nks : NK} {nvs : NI} {j : Nat} {s : ByteArray} (h : ks[j]? = some s) : modF ks vs nks nvs (j + 1) = aset (modF ks vs nks nvs j) s (entAt vs nks nvs j) := by rw [modF, h]
theorem modF_len (ks : List ByteArray) (vs : List Int) (nks : NK) (nvs : NI) : ∀ j, (modF ks vs nks nvs j).length ≤ j
  | 0 => Nat.zero_le _
  | j + 1 => by
    have := modF_len ks vs nks nvs j
    rw [modF]
    split
    · omega
    · rw [aset_length]
      split <;> omega
theorem modF_nd (ks : List ByteArray) (vs : List Int) (nks : NK) (nvs : NI) : ∀ j, Nd (modF ks vs nks nvs j)
  | 0 => by simp [modF, Nd]
  | j + 1 => by
    rw [modF]
    split
    · exact modF_nd ks vs nks nvs j
    · exact (modF_nd ks vs nks nvs j).aset _ _
/-- A model handed over by value: five slices to be read. -/
def MdlV (w : World) (n : Nat) (v0 v1 v2 v3 v4 : Value) (om : OML) : Prop := om.length = n ∧ ∃ A0 k0 A1 k1 A2 k2 A3 k3 A4 k4 us ws, v0 = .slice A0 n k0 ∧ v1 = .slice A1 n k1 ∧ v2 = .slice A2 n k2 ∧ v3 = .slice A3 n k3 ∧ v4 = .slice A4 n k4 ∧
  Vw w A0 n (ok om) ∧ Vw w A1 n (oi om) ∧ Vw w A2 n (ob om) ∧ Vw w A3 n us ∧ Vw w A4 n ws ∧ Ents w (fun _ => False) om us ws
theorem MdlV.keep {w w' : World} {n : Nat} {v0 v1 v2 v3 v4 : Value} {om : OML} (h : MdlV w n v0 v1 v2 v3 v4 om) (hb : Below w.heap.size w w') : MdlV w' n v0 v1 v2 v3 v4 om := by
  obtain ⟨hl, A0, k0, A1, k1, A2, k2, A3, k3, A4, k4, us, ws, h0, h1, h2, h3, h4, a0, a1, a2, a3, a4, he⟩ := h
  exact ⟨hl, A0, k0, A1, k1, A2, k2, A3, k3, A4, k4, us, ws, h0, h1, h2, h3, h4, a0.keep hb, a1.keep hb, a2.keep hb, a3.keep hb, a4.keep hb, he.turn (Touch.of_below hb (fun _ => False)) (fun _ q => q) (fun _ q => q.elim)⟩
theorem St.mdlV' {w : World} {B p n : Nat} {v0 v1 v2 v3 v4 : Value} {om : OML} {us ws : List Value} (h : St w B p v0 v1 v2 v3 v4 n n n n n (ok om) (oi om) (ob om) us ws) (hl : om.length = n) (he : Ents w (fun _ => False) om us ws) : MdlV w n v0 v1 v2 v3 v4 om := by
  obtain ⟨A0, k0, e0, h0, _⟩ := own_vw h.o0
  obtain ⟨A1, k1, e1, h1, _⟩ := own_vw h.o1
  obtain ⟨A2, k2, e2, h2, _⟩ := own_vw h.o2
  obtain ⟨A3, k3, e3, h3, _⟩ := own_vw h.o3
  obtain ⟨A4, k4, e4, h4, _⟩ := own_vw h.o4
  exact ⟨hl, A0, k0, A1, k1, A2, k2, A3, k3, A4, k4, us, ws, e0, e1, e2, e3, e4, h0, h1, h2, h3, h4, he⟩
theorem St.mdlV {w : World} {B p n : Nat} {v0 v1 v2 v3 v4 : Value} {om : OML} {us ws : List Value} (h : St w B p v0 v1 v2 v3 v4 n n n n n (ok om) (oi om) (ob om) us ws) (hl : om.length = n) (he : Ents w (DM p v0 v1 v2 v3 v4) om us ws) : MdlV w n v0 v1 v2 v3 v4 om := by
  obtain ⟨A0, k0, e0, h0, _⟩ := own_vw h.o0
  obtain ⟨A1, k1, e1, h1, _⟩ := own_vw h.o1
  obtain ⟨A2, k2, e2, h2, _⟩ := own_vw h.o2
  obtain ⟨A3, k3, e3, h3, _⟩ := own_vw h.o3
  obtain ⟨A4, k4, e4, h4, _⟩ := own_vw h.o4
  exact ⟨hl, A0, k0, A1, k1, A2, k2, A3, k3, A4, k4, us, ws, e0, e1, e2, e3, e4, h0, h1, h2, h3, h4, he.turn (Touch.refl (fun _ => False) w) (fun _ q => q.elim) (fun _ q => q.elim)⟩
/-- No string and no int lies in a block of slices. -/
theorem str_apart {w : World} {a : Option Addr} {n r : Nat} {zs : List ByteArray} {cs : Array Value} (h : Vw w a n (strV zs)) (hr : Row w r 39 cs) (hcs : ∀ (i : Nat) (v : Value), cs[i]? = some v → ∃ a n c, v = .slice a n c) : 0 < n → ∀ x, a = some x → x.block < w.heap.size → ¬ x.block = r := by
  intro hn x hx _ e
  obtain ⟨b, o, s, ha, _, _, hc⟩ := h.str hn
  rw [hx] at ha
  injection ha with ha
  subst ha
  subst e
  rw [hr.cell] at hc
  obtain ⟨_, _, _, q⟩ := hcs _ _ hc
  cases q
theorem int_apart {w : World} {a : Option Addr} {n r : Nat} {zs : List Int} {cs : Array Value} (h : Vw w a n (intsV zs)) (hr : Row w r 39 cs) (hcs : ∀ (i : Nat) (v : Value), cs[i]? = some v → ∃ a n c, v = .slice a n c) : 0 < n → ∀ x, a = some x → x.block < w.heap.size → ¬ x.block = r := by
  intro hn x hx _ e
  obtain ⟨b, o, s, ha, _, _, hc⟩ := h.int hn
  rw [hx] at ha
  injection ha with ha
  subst ha
  subst e
  rw [hr.cell] at hc
  obtain ⟨_, _, _, q⟩ := hcs _ _ hc
  cases q
theorem Ents.store {w w' : World} {D : Nat → Prop} {om : OML} {us ws : List Value} {r : Nat} {cs : Array Value} (h : Ents w D om us ws) (hr : Row w r 39 cs) (hcs : ∀ (i : Nat) (v : Value), cs[i]? = some v → ∃ a n c, v = .slice a n c) (ht : Touch (· = r) w w') : Ents w' (fun _ => False) om us ws := by
  intro i e he
  obtain ⟨u, x, h1, h2, h3⟩ := h i e he
  refine ⟨u, x, h1, h2, ?_⟩
  obtain ⟨s, e⟩ := e
  cases e with
  | inl n => exact h3
  | inr fl =>
    obtain ⟨n, g, c, g', c', hl, hu, hx, a1, a2, ⟨a3, a4⟩, a5, a6⟩ := h3
    exact ⟨n, g, c, g', c', hl, hu, hx, a1.touch ht (str_apart a1 hr hcs), a2.touch ht (int_apart a2 hr hcs), ⟨fun q => q, by have := ht.size; omega⟩, fun q => q, by have := ht.size; omega⟩
def nil5 : Array Value := #[.slice none 0 0, .slice none 0 0, .slice none 0 0, .slice none 0 0, .slice none 0 0]
theorem nil5_slice : ∀ (i : Nat) (v : Value), nil5[i]? = some v → ∃ a n c, v = .slice a n c := by
  intro i v h
  have hi := (Array.getElem?_eq_some_iff.1 h).1
  have h5 : i < 5 := hi
  have h0 : nil5[i]? = some (.slice none 0 0) := by
    rcases i with _ | _ | _ | _ | _ | i
    · rfl
    · rfl
    · rfl
    · rfl
    · rfl
    · omega
  rw [h0] at h
  injection h with h
  exact ⟨_, _, _, h.symm⟩
theorem Mdl.start {w : World} {B H p : Nat} (hr : Row w p 39 nil5) (hB : B ≤ p) (hH : p < H) : Mdl w B H p 0 [] := by
  refine ⟨rfl, _, _, _, _, _, [], [], ⟨hr, hB, ⟨rfl, .inl ⟨rfl, rfl⟩⟩, ⟨rfl, .inl ⟨rfl, rfl⟩⟩, ⟨rfl, .inl ⟨rfl, rfl⟩⟩, ⟨rfl, .inl ⟨rfl, rfl⟩⟩, ⟨rfl, .inl ⟨rfl, rfl⟩⟩⟩, fun i e h => by simp at h, ?_⟩
  rintro k (rfl | q | q | q | q | q)
  · exact hH
  all_goals cases q
/-- The struct of the call's own while entries are put. -/
def MSt (w wr : World) (n : Nat) (om : OML) : Prop := Mdl wr (w.heap.size + 1) wr.heap.size (w.heap.size + 1) n om ∧ Row wr w.heap.size 39 nil5 ∧ Below w.heap.size w wr ∧ w.heap.size + 1 < wr.heap.size
theorem MSt.keep {w wr w' : World} {n : Nat} {om : OML} (h : MSt w wr n om) (hb : Below wr.heap.size wr w') : MSt w w' n om := by
  obtain ⟨h1, h2, h3, h4⟩ := h
  exact ⟨(h1.keep hb).mono hb.size, h2.keep hb h2.lt, h3.trans (hb.mono h3.size), by have := hb.size; omega⟩
theorem MSt.put {w wr w' : World} {n : Nat} {om om' : OML} {e : Ending} (h : MSt w wr n om) (hp : PutOut wr (w.heap.size + 1) (w.heap.size + 1) om' e w') : ∃ n', MSt w w' n' om' := by
  obtain ⟨h1, h2, h3, h4⟩ := h
  obtain ⟨_, ⟨n', hm⟩, hb⟩ := hp
  exact ⟨n', hm, h2.keep hb (by omega), h3.trans (hb.mono (by omega)), by have := hb.size; omega⟩
def ModOut (w : World) (om : OML) (e : Ending) (w' : World) : Prop := (∃ n v0 v1 v2 v3 v4, e = .returned (.agg #[v0, v1, v2, v3, v4]) ∧ MdlV w' n v0 v1 v2 v3 v4 om) ∧ Below w.heap.size w w'
/-- The entry of fresh rows. -/
theorem ent_fresh {w w' : World} {B n g1 c1 g2 c2 : Nat} {fl : Flat} (h : Own2 w' w.heap.size n g1 c1 g2 c2 fl) : EntIn w' (fun k => B ≤ k ∧ k < w.heap.size) (.inr fl) (.slice (some ⟨g1, 0, none⟩) n c1) (.slice (some ⟨g2, 0, none⟩) n c2) := by
  obtain ⟨l1, l2, l3, l4⟩ := h.low
  exact ⟨n, g1, c1, g2, c2, h.len, rfl, rfl, h.vk, h.vi, ⟨fun q => by omega, l3⟩, fun q => by omega, l4⟩
theorem touch5 (w : World) (g : Nat) (u0 u1 u2 u3 u4 : Value) : Touch (fun k => k = g) w (((((w.setCell ⟨g, 0, none⟩ u0).setCell ⟨g, 1, none⟩ u1).setCell ⟨g, 2, none⟩ u2).setCell ⟨g, 3, none⟩ u3).setCell ⟨g, 4, none⟩ u4) := by
  have s : ∀ (a : World) (j : Nat) (u : Value), Touch (fun k => k = g) w a → Touch (fun k => k = g) w (a.setCell ⟨g, j, none⟩ u) := fun a j u h => h.setCell (fun _ => rfl) u
  exact s _ _ _ (s _ _ _ (s _ _ _ (s _ _ _ (s _ _ _ (Touch.refl _ w)))))
theorem row5 {w : World} {g : Nat} (h : Row w g 39 nil5) (u0 u1 u2 u3 u4 : Value) : Row (((((w.setCell ⟨g, 0, none⟩ u0).setCell ⟨g, 1, none⟩ u1).setCell ⟨g, 2, none⟩ u2).setCell ⟨g, 3, none⟩ u3).setCell ⟨g, 4, none⟩ u4) g 39 #[u0, u1, u2, u3, u4] := (((((h.put 0 u0).put 1 u1).put 2 u2).put 3 u3).put 4 u4)
set_option maxHeartbeats 4000000 in
theorem modelOfC (w : World) (a0 : Option Addr) (len0 cap0 : Nat) (ks : List ByteArray) (a1 : Option Addr) (len1 cap1 : Nat) (vs : List Int) (a2 : Option Addr) (len2 cap2 : Nat) (us2 : List Value) (nks : NK) (a3 : Option Addr) (len3 cap3 : Nat) (us3 : List Value) (nvs : NI)
    (h0 : Vw w a0 len0 (strV ks)) (h1 : Vw w a1 len1 (intsV vs)) (h2 : Vw w a2 len2 us2) (hn2 : NV w us2 (nkV nks)) (h3 : Vw w a3 len3 us3) (hn3 : NV w us3 (niV nvs)) (hl0 : len0 ≤ 4096) (hln : ∀ j, (nkAt nks j).2.length ≤ 4096) :
    Calls Try.prog 15 #[.slice a0 len0 cap0, .slice a1 len1 cap1, .slice a2 len2 cap2, .slice a3 len3 cap3] w (ModOut w (modF ks vs nks nvs len0)) := by
  have H0 := Lib.hid h0
  have H1 := Lib.hid h1
  have H2 := Lib.hid h2
  have HN2 := Lib.hid hn2
  have H3 := Lib.hid h3
  have HN3 := Lib.hid hn3
  have HLN := Lib.hid hln
  clear h0 h1 h2 hn2 h3 hn3 hln
  go_enter Try.func15, Try.ntmps15
  go_wp2_with fail
  go_loopw [10] (fun i wr => ∃ (j n : Nat), j ≤ len0 ∧ i = .int .i64 j ∧ MSt w wr n (modF ks vs nks nvs j)) (fun i _ => len0 - (intOf i).toNat)
  case atStart =>
    refine ⟨0, 0, Nat.zero_le _, rfl, Mdl.start (Row.made' 39 nil5 (by simp)) (Nat.le_refl _) (by simp), (Row.made w 39 nil5).alloc _, ((Below.refl _ _).alloc (Nat.le_refl _) _).alloc (by simp) _, by simp⟩
  case round =>
    obtain ⟨j, n, hj, rfl, hms⟩ := hrel
    have HMS := Lib.hid hms
    have hb := hms.2.2.1
    have HB := Lib.hid hb
    have hsz := hms.2.2.2
    have hnj : n ≤ j := by have := modF_len ks vs nks nvs j; rw [hms.1.1] at this; exact this
    have tn : Touch (fun _ => False) w wr := Touch.of_below hb _
    clear hms hb
    by_cases hlt : j < len0
    · obtain ⟨b, o, s, rfl, hbl, hs, hc⟩ := (H0.out.touch tn (fun _ _ _ _ q => q)).str hlt
      have HS := Lib.hid hs
      have H2' := Lib.hid (H2.out.touch tn (fun _ _ _ _ q => q))
      have HN2' := Lib.hid (show NV wr us2 (nkV nks) from HN2.out.keep HB.out)
      have H3' := Lib.hid (H3.out.touch tn (fun _ _ _ _ q => q))
      have HN3' := Lib.hid (show NV wr us3 (niV nvs) from HN3.out.keep HB.out)
      have H1' := Lib.hid (H1.out.touch tn (fun _ _ _ _ q => q))
      clear hs tn
      go_wp2_with fail
      refine (strsAtC _ a2 len2 cap2 us2 (nkV nks) j H2'.out HN2'.out (by omega)).mono ?_
      rintro e w' ⟨a, c, rfl, hsome, hvw, rfl⟩
      rw [nAt_nk] at hsome hvw ⊢
      obtain ⟨L, hL⟩ : ∃ L, L = (strV (nkAt nks j).2).length := ⟨_, rfl⟩
      simp only [← hL] at hvw ⊢
      have HVW := Lib.hid hvw
      have HSM := Lib.hid hsome
      have hL2 : (nkAt nks j).2.length = L := by rw [hL]; simp [strV]
      have HL2 := Lib.hid hL2
      have hL4 : L ≤ 4096 := by have := HLN.out j; omega
      have hnil := fun W => Lib.run_eql_slice_nil (P := Try.prog) W 24 9 a L c 0 0 Try.underlying24
      clear hvw hsome hL hL2
      cases a with
      | none =>
        have HE := Lib.hid (show entAt vs nks nvs j = .inl (intAtL vs j) by have h : false = (nkAt nks j).1 := HSM.out; unfold entAt; rw [← h]; rfl)
        have HMD := Lib.hid (HMS.out.keep (w' := wr.drew) (Below.refl _ _).drew)
        have HID := Lib.hid (H1'.out.keep (w' := wr.drew) (Below.refl _ _).drew)
        go_wp2_with fail
        go_region_with (first
          | (go_at_call 31; refine (intAtC _ a1 len1 cap1 vs j HID.out (by omega)).mono ?_; rintro e w' ⟨rfl, rfl⟩)
          | (go_at_call 30; refine (putC _ (w.heap.size + 1) _ (w.heap.size + 1) n _ s (.inl (intAtL vs j)) (intAtL vs j) false none 0 0 none 0 0 HMD.out.1 (by omega) (by simp only [World.size_drew]; omega) (Nat.le_refl _) rfl rfl ⟨⟨_, _, _, rfl⟩, _, _, _, rfl⟩).mono ?_; rintro e w3 hp; obtain rfl := hp.1; obtain ⟨n3, h3'⟩ := HMD.out.put hp; have HP := Lib.hid h3'; clear hp h3'))
        all_goals go_wp2_with fail
        all_goals exact ⟨⟨j + 1, n3, by omega, by go_num, by rw [modF_step HS.out, HE.out]; exact HP.out⟩, by simp [intOf]; omega⟩
      | some ad =>
        have HE := Lib.hid (show entAt vs nks nvs j = .inr (flatAt nks nvs j) by have h : true = (nkAt nks j).1 := HSM.out; unfold entAt; rw [← h]; rfl)
        go_wp2_with fail
        refine (intsAtC _ a3 len3 cap3 us3 (niV nvs) j H3'.out HN3'.out (by omega)).mono ?_
        rintro e w' ⟨a', c', rfl, _, hvi, rfl⟩
        rw [nAt_ni] at hvi ⊢
        have HVI := Lib.hid hvi
        clear hvi
        go_wp2_with fail
        refine (flatOfC _ (some ad) L c (nkAt nks j).2 a' _ c' (niAt nvs j).2 HVW.out HVI.out hL4).mono ?_
        rintro e w3 ⟨nf, g1, c1, g2, c2, rfl, hof, hb3⟩
        have hs3 := hb3.size
        have HOF := Lib.hid (show Own2 w3 wr.heap.size nf g1 c1 g2 c2 (flatAt nks nvs j) by unfold flatAt; rw [HL2.out]; exact hof)
        have HM3 := Lib.hid (HMS.out.keep hb3)
        have HMD3 := Lib.hid (HMS.out.1.keep hb3)
        have c3 : w3.cell? ⟨b, o + j, none⟩ = some (.string s) := (hb3.cell (p := ⟨b, o + j, none⟩) (by have := HB.out.size; show b < _; omega)).trans hc
        clear hof hb3 hc
        go_wp2_with fail
        refine (putC _ (w.heap.size + 1) wr.heap.size (w.heap.size + 1) n _ s (.inr (flatAt nks nvs j)) 0 true (some ⟨g1, 0, none⟩) nf c1 (some ⟨g2, 0, none⟩) nf c2 HMD3.out (by omega) (by omega) hs3 rfl rfl (ent_fresh HOF.out)).mono ?_
        rintro e w4 hp
        obtain rfl := hp.1
        obtain ⟨n4, h4⟩ := HM3.out.put hp
        have HP := Lib.hid h4
        clear hp h4
        go_wp2_with fail
        exact ⟨⟨j + 1, n4, by omega, by go_num, by rw [modF_step HS.out, HE.out]; exact HP.out⟩, by simp [intOf]; omega⟩
    · obtain rfl : j = len0 := by omega
      obtain ⟨⟨hl, v0, v1, v2, v3, v4, us, ws, hst, hen, hH⟩, hr8, hbb, hss⟩ := HMS.out
      obtain ⟨A0, k0, rfl⟩ := own_form hst.o0
      obtain ⟨A1, k1, rfl⟩ := own_form hst.o1
      obtain ⟨A2, k2, rfl⟩ := own_form hst.o2
      obtain ⟨A3, k3, rfl⟩ := own_form hst.o3
      obtain ⟨A4, k4, rfl⟩ := own_form hst.o4
      have y0 := hst.row.cell 0
      have y1 := hst.row.cell 1
      have y2 := hst.row.cell 2
      have y3 := hst.row.cell 3
      have y4 := hst.row.cell 4
      have x0 : wr.cell? ⟨w.heap.size, 0, none⟩ = some (.slice none 0 0) := hr8.cell 0
      have x1 : wr.cell? ⟨w.heap.size, 1, none⟩ = some (.slice none 0 0) := hr8.cell 1
      have x2 : wr.cell? ⟨w.heap.size, 2, none⟩ = some (.slice none 0 0) := hr8.cell 2
      have x3 : wr.cell? ⟨w.heap.size, 3, none⟩ = some (.slice none 0 0) := hr8.cell 3
      have x4 : wr.cell? ⟨w.heap.size, 4, none⟩ = some (.slice none 0 0) := hr8.cell 4
      have f0 := hr8.free 0
      have f1 := hr8.free 1
      have f2 := hr8.free 2
      have f3 := hr8.free 3
      have f4 := hr8.free 4
      have l1 := hst.row.lt
      have l2 := hr8.lt
      have HST := Lib.hid hst
      have HEN := Lib.hid hen
      have HR8 := Lib.hid hr8
      have HLL := Lib.hid hl
      clear hst hen hr8 hss hH hl
      go_wp2_with fail
      have ht := touch5 wr w.heap.size (.slice A0 n k0) (.slice A1 n k1) (.slice A2 n k2) (.slice A3 n k3) (.slice A4 n k4)
      refine bodyPost_ret (v := .agg #[.slice A0 n k0, .slice A1 n k1, .slice A2 n k2, .slice A3 n k3, .slice A4 n k4]) ?_ rfl ⟨⟨n, _, _, _, _, _, rfl, ?_⟩, ?_⟩
      · exact results_cell_row rfl _ _ w.heap.size 39 _ (0, 0) _ rfl (row5 HR8.out _ _ _ _ _) Try.underlying39 rfl (by kernel_rfl)
      · exact (HST.out.touch ht (fun k q e => by have := (HST.out.lowD k q).1; omega)).mdlV' HLL.out (HEN.out.store HR8.out nil5_slice ht)
      · exact hbb.trans (ht.below hbb.size (fun k hk e => by omega))
end Go.Proofs.Ytdjebcejpachmaa
