/-
  The walk of the law FnSuffixWriteToScript (n001_84): it returns true for every input.
-/
import Derived.Test.YtebcjlgeppebgaaDoorSufL
namespace Go.Proofs.YtebcjlgeppebgaaDoor
set_option linter.unusedVariables false
open Go.ChangeShapes Go.WideShapes Go.ChangeAt Go.RowKit Go.Deep M
def SufC (w : World) (b o k : Nat) (x : Suf) : Prop := w.cell? ⟨b, o + k * 9, none⟩ = some (.bool x.hasIndex) ∧ w.cell? ⟨b, o + k * 9 + 1, none⟩ = some (.string x.name) ∧ w.cell? ⟨b, o + k * 9 + 2, none⟩ = some (.bool x.isSlice) ∧ w.cell? ⟨b, o + k * 9 + 3, none⟩ = some (.bool x.hasStart) ∧ w.cell? ⟨b, o + k * 9 + 4, none⟩ = some (.string x.start) ∧ w.cell? ⟨b, o + k * 9 + 5, none⟩ = some (.bool x.hasEnd) ∧ w.cell? ⟨b, o + k * 9 + 6, none⟩ = some (.string x.stop) ∧ w.cell? ⟨b, o + k * 9 + 7, none⟩ = some (.bool x.iter) ∧ w.cell? ⟨b, o + k * 9 + 8, none⟩ = some (.bool x.opt)
theorem SliceOf.sufc {w : World} {a : Option Addr} {len : Nat} {xs : List Suf} (h : SliceOf 9 IsSufL w a len xs) {k : Nat} (hk : k < len) : ∃ b o x, a = some ⟨b, o, none⟩ ∧ b < w.heap.size ∧ xs[k]? = some x ∧ SufC w b o k x := by
  obtain ⟨b, o, x, ha, hb, hx, h1, h2, h3, hc⟩ := h.suf hk
  exact ⟨b, o, x, ha, hb, hx, hc⟩
theorem SufC.keep {w w' : World} {b o k : Nat} {x : Suf} {B : Nat} (h : SufC w b o k x) (hb : Below B w w') (hl : b < B) : SufC w' b o k x := by
  obtain ⟨c0, c1, c2, c3, c4, c5, c6, c7, c8⟩ := h
  exact ⟨(hb.cell (p := ⟨b, o + k * 9, none⟩) hl).trans c0, (hb.cell (p := ⟨b, o + k * 9 + 1, none⟩) hl).trans c1, (hb.cell (p := ⟨b, o + k * 9 + 2, none⟩) hl).trans c2, (hb.cell (p := ⟨b, o + k * 9 + 3, none⟩) hl).trans c3, (hb.cell (p := ⟨b, o + k * 9 + 4, none⟩) hl).trans c4, (hb.cell (p := ⟨b, o + k * 9 + 5, none⟩) hl).trans c5, (hb.cell (p := ⟨b, o + k * 9 + 6, none⟩) hl).trans c6, (hb.cell (p := ⟨b, o + k * 9 + 7, none⟩) hl).trans c7, (hb.cell (p := ⟨b, o + k * 9 + 8, none⟩) hl).trans c8⟩
def tS (l : List Suf) : Nat := (l.map fun x => 64 + x.size).foldr (· + ·) 0
theorem tS_append (l m : List Suf) : tS (l ++ m) = tS l + tS m := by
  induction l with
  | nil => simp [tS]
  | cons x r ih =>
    have h1 : tS (x :: r ++ m) = 64 + x.size + tS (r ++ m) := rfl
    have h2 : tS (x :: r) = 64 + x.size + tS r := rfl
    omega
theorem tS_take (l : List Suf) (k : Nat) : tS (l.take k) ≤ tS l := by
  have h := tS_append (l.take k) (l.drop k)
  rw [List.take_append_drop] at h
  omega
theorem take_suf {l : List Suf} {k : Nat} {x : Suf} (h : l[k]? = some x) : l.take (k + 1) = l.take k ++ [x] := by
  obtain ⟨h1, h2⟩ := List.getElem?_eq_some_iff.1 h
  rw [List.take_succ_eq_append_getElem h1, h2]
theorem tS_get {l : List Suf} {k : Nat} {x : Suf} (h : l[k]? = some x) : tS (l.take (k + 1)) = tS (l.take k) + (64 + x.size) := by
  rw [take_suf h, tS_append]
  rfl
theorem sufSum_mem {l : List Suf} {k : Nat} {x : Suf} (h : l[k]? = some x) : x.size ≤ sufSum l := by
  have h1 := sufSum_get h
  have h2 := sufSum_append (l.take (k + 1)) (l.drop (k + 1))
  rw [List.take_append_drop] at h2
  omega
theorem text_le2 (x : Suf) : x.text.length ≤ x.size + 16 := by
  obtain ⟨ix, nm, sl, hs, st, he, en, it, op⟩ := x
  unfold Suf.size Suf.text
  dsimp only
  have e1 : nm.data.toList.length = nm.size := rfl
  have e2 : st.data.toList.length = st.size := rfl
  have e3 : en.data.toList.length = en.size := rfl
  cases ix <;> cases nm.toList.isEmpty <;> cases sl <;> cases hs <;> cases he <;> cases it <;> cases op <;> simp only [List.length_append, List.length_cons, List.length_nil, if_true, if_false, Bool.false_eq_true, e1, e2, e3] <;> omega
/-- The text that the script writes. -/
def scrS (p : ByteArray) (l : List Suf) : List UInt8 := l.foldl (fun acc x => prSuf x acc) p.data.toList
theorem scrS_snoc (p : ByteArray) (l : List Suf) (x : Suf) : scrS p (l ++ [x]) = prSuf x (scrS p l) := by simp [scrS]
theorem prSuf_le (x : Suf) (acc : List UInt8) : (prSuf x acc).length ≤ acc.length + (64 + x.size) := by
  have h := text_le2 x
  unfold prSuf
  split <;> simp only [List.length_append, List.length_singleton] <;> omega
theorem scrS_le (p : ByteArray) : ∀ (l : List Suf) (acc : List UInt8), (l.foldl (fun acc x => prSuf x acc) acc).length ≤ acc.length + tS l
  | [], acc => by simp [tS]
  | x :: r, acc => by
    have h1 := scrS_le p r (prSuf x acc)
    have h2 := prSuf_le x acc
    have h3 : tS (x :: r) = 64 + x.size + tS r := rfl
    rw [List.foldl_cons]
    omega
/-- A builder and a slice of bytes of one's own, apart. -/
def Two (w0 w : World) (b : Nat) (L M : List UInt8) (A : Option Addr) (n c : Nat) : Prop :=
  ∃ d dd, Bld w w0.heap.size b d L ∧ OwnB w w0.heap.size (.slice A n c) dd M ∧ n = M.length ∧ (∀ g, dd = some g → g ≠ b ∧ d ≠ some g) ∧ Below w0.heap.size w0 w
theorem Two.below {w0 w w' : World} {b : Nat} {L M : List UInt8} {A : Option Addr} {n c : Nat} (h : Two w0 w b L M A n c) (hb : Below w.heap.size w w') : Two w0 w' b L M A n c := by
  obtain ⟨d, dd, h1, h2, h3, h4, h5⟩ := h
  exact ⟨d, dd, h1.below hb, h2.below hb, h3, h4, h5.trans (hb.mono h5.size)⟩
theorem Two.base {w0 w : World} {b : Nat} {L M : List UInt8} {A : Option Addr} {n c : Nat} (h : Two w0 w b L M A n c) : Below w0.heap.size w0 w := by
  obtain ⟨d, dd, h1, h2, h3, h4, h5⟩ := h
  exact h5
theorem Two.built {w0 w w' : World} {b : Nat} {d dd : Option Nat} {L L' M : List UInt8} {A : Option Addr} {n c : Nat} (h1 : Bld w w0.heap.size b d L) (h2 : OwnB w w0.heap.size (.slice A n c) dd M) (h3 : n = M.length) (h4 : ∀ g, dd = some g → g ≠ b ∧ d ≠ some g) (h5 : Below w0.heap.size w0 w)
    (ho : BOut w w0.heap.size b d L' w') : Two w0 w' b L' M A n c := by
  have h6 := ho.below h1 (Nat.le_refl _)
  obtain ⟨d', k1, k2, k3⟩ := ho
  refine ⟨d', dd, k1, h2.touch k3 (fun g hg hs => ?_), h3, fun g hg => ⟨(h4 g hg).1, fun hd => ?_⟩, h5.trans h6⟩
  · rcases hs with hs | hs
    · exact (h4 g hg).1 hs
    · exact (h4 g hg).2 hs
  · rcases k2 with rfl | ⟨g', rfl, hg'⟩
    · exact (h4 g hg).2 hd
    · injection hd with hd
      have := (h2.lt g hg).2
      omega
theorem Two.wrote {w0 w w' : World} {b : Nat} {d dd : Option Nat} {L M M' : List UInt8} {A : Option Addr} {n c : Nat} {v : Value} (h1 : Bld w w0.heap.size b d L) (h2 : OwnB w w0.heap.size (.slice A n c) dd M) (h4 : ∀ g, dd = some g → g ≠ b ∧ d ≠ some g) (h5 : Below w0.heap.size w0 w)
    (ho : AOut w w0.heap.size dd M' v w') : ∃ A' n' c', v = .slice A' n' c' ∧ Two w0 w' b L M' A' n' c' := by
  have h6 := ho.below (B' := w0.heap.size) h5.size (fun g hg => (h2.lt g hg).1)
  obtain ⟨dd', k1, k2, k3⟩ := ho
  obtain ⟨A', c', rfl⟩ := own_form k1.1
  refine ⟨A', _, c', rfl, d, dd', h1.touch k3 (fun hs => (h4 b hs).1 rfl) (fun g hg hs => (h4 g hs).2 hg), k1, rfl, fun g hg => ?_, h5.trans h6⟩
  rcases k2 with rfl | ⟨g', rfl, hg'⟩
  · exact h4 g hg
  · injection hg with hg
    have hl := h1.lt
    refine ⟨by omega, fun hd => ?_⟩
    have := (hl.2.2 g hd).2
    omega
theorem OwnB.last {w : World} {B : Nat} {A : Option Addr} {n c : Nat} {d : Option Nat} {l : List UInt8} (h : OwnB w B (.slice A n c) d l) {m : Nat} (hm : l.length = m + 1) : ∃ g x, A = some ⟨g, 0, none⟩ ∧ l.getLast? = some x ∧ w.cell? ⟨g, m, none⟩ = some (.int .u8 x.toNat) := by
  rcases h.1.2 with ⟨hv, h0⟩ | ⟨g, cap, cur, hv, _, hg, _, _, _, htake⟩
  · omega
  · injection hv with h1 h2 h3
    have hx : l[m]? = some l[m] := List.getElem?_eq_getElem (by omega)
    refine ⟨g, l[m], h1, by rw [List.getLast?_eq_getElem?, show l.length - 1 = m by omega]; exact hx, ?_⟩
    have ht : (cur.toList.take (l.length * 1))[m]? = (Lib.byteCells l)[m]? := by rw [htake]
    rw [List.getElem?_take_of_lt (by omega)] at ht
    unfold World.cell?
    simp only [hg]
    have h9 : (Lib.byteCells l)[m]? = some (.int .u8 l[m].toNat) := by simp [Lib.byteCells, hx]
    rw [h9] at ht
    simpa using ht
set_option maxRecDepth 100000 in
set_option maxHeartbeats 2000000 in
theorem sufScript.main (a0 : ByteArray) (a1 : Option Addr) (len1 cap1 : Nat) (z1 : List Suf) (w : World) (w0 : a0.size ≤ maxLen) (w1 : SliceOf 9 IsSufL w a1 len1 z1) (hp : a0.size ≤ 1048576) (hl : len1 ≤ 4096) :
    Calls Tryd.prog 8 #[.string a0, .slice a1 len1 cap1] w fun e w' => e = .returned (.bool true) ∧ Below w.heap.size w w' := by
  have W0 := Lib.hid w1
  have HLZ := Lib.hid w1.lt.1
  clear w1
  go_enter Tryd.func8, Tryd.ntmps8
  go_wp2_with fail
  refine (zz32 a0 w0 a1 len1 cap1 z1 _ W0.out).mono ?_
  rintro e w' ⟨b, rfl, hb, rfl⟩
  cases b
  · clear hb
    go_wp2_with fail
    go_ret
    exact ⟨rfl, Below.refl _ _⟩
  have HS := Lib.hid (hb rfl)
  clear hb
  go_wp2_with fail
  go_loopw [5, 6] (fun t i wr => ∃ (n k : Nat), k ≤ len1 ∧ n ≤ 1048576 ∧ n = a0.size + tS (z1.take k) ∧ t = .int .i64 n ∧ i = .int .i64 k ∧ Below w.heap.size w wr) (fun _ i _ => len1 - (intOf i).toNat)
  case atStart => exact ⟨a0.size, 0, Nat.zero_le _, hp, by simp [tS], rfl, rfl, Below.refl _ _⟩
  case round =>
    obtain ⟨n, k, hk, hn, ht, rfl, rfl, hb⟩ := hrel
    have HT := Lib.hid ht
    have HB := Lib.hid hb
    have hz := hb.size
    clear ht hb
    by_cases hlt : k < len1
    · obtain ⟨b, o, x, rfl, hbl, hxs, hc⟩ := W0.out.sufc hlt
      obtain ⟨c0, c1, c2, c3, c4, c5, c6, c7, c8⟩ := hc.keep HB.out hbl
      have hxz : x.size ≤ 1048576 := Nat.le_trans (sufSum_mem hxs) HS.out
      have HTG := Lib.hid (tS_get hxs)
      clear hxs hc
      go_wp2_with fail
      refine (sufBytesC x _ hxz).mono ?_
      rintro e w2 ⟨rfl, hb⟩
      have HB2 := Lib.hid (HB.out.trans (hb.mono hz))
      clear hb c0 c1 c2 c3 c4 c5 c6 c7 c8
      by_cases hn2 : n + (64 + x.size) ≤ 1048576
      · go_wp2_with fail
        exact ⟨⟨n + (64 + x.size), k + 1, by omega, hn2, by rw [HTG.out, HT.out]; omega, by go_num, by go_num, HB2.out⟩, by simp [intOf]; omega⟩
      · go_wp2_with fail
        go_ret
        exact ⟨rfl, HB2.out⟩
    · obtain rfl : k = len1 := by omega
      have htt := HT.out
      rw [List.take_of_length_le (by rw [HLZ.out]; omega)] at htt
      have HTT := Lib.hid htt
      clear htt HT hlt
      obtain ⟨wo, rfl⟩ : ∃ x : World, x = wr := ⟨_, rfl⟩
      go_wp2_with fail
      go_loopw [7] (fun i wr => ∃ (q : Nat), q ≤ k ∧ (∀ x ∈ z1.take q, x.refused = false) ∧ i = .int .i64 q ∧ Below w.heap.size w wr) (fun i _ => k - (intOf i).toNat)
      case atStart => exact ⟨0, Nat.zero_le _, by simp, rfl, HB.out⟩
      case round =>
        obtain ⟨q, hq, hrf, rfl, hb⟩ := hrel
        have HRF := Lib.hid hrf
        have HB2 := Lib.hid hb
        have hz2 := hb.size
        clear hrf hb
        by_cases hlt : q < k
        · obtain ⟨b, o, x, rfl, hbl, hxs, hc⟩ := W0.out.sufc hlt
          obtain ⟨c0, c1, c2, c3, c4, c5, c6, c7, c8⟩ := hc.keep HB2.out hbl
          have HXS := Lib.hid (take_suf hxs)
          clear hxs hc
          go_wp2_with fail
          refine (sufRefusedC x _).mono ?_
          rintro e w2 ⟨rfl, hb⟩
          have HB3 := Lib.hid (HB2.out.trans (hb.mono hz2))
          clear hb c0 c1 c2 c3 c4 c5 c6 c7 c8
          cases hr : x.refused
          · have hall : ∀ y ∈ z1.take (q + 1), y.refused = false := by
              rw [HXS.out]
              intro y hy
              rcases List.mem_append.1 hy with hy | hy
              · exact HRF.out y hy
              · rw [List.mem_singleton.1 hy]
                exact hr
            have HALL := Lib.hid hall
            clear hall hr
            go_wp2_with fail
            exact ⟨⟨q + 1, by omega, HALL.out, by go_num, HB3.out⟩, by simp [intOf]; omega⟩
          · clear hr
            go_wp2_with fail
            go_ret
            exact ⟨rfl, HB3.out⟩
        · obtain rfl : q = k := by omega
          have hall := HRF.out
          rw [List.take_of_length_le (by rw [HLZ.out]; omega)] at hall
          have HALL := Lib.hid hall
          clear hall HRF hlt
          obtain ⟨wp, rfl⟩ : ∃ x : World, x = wr := ⟨_, rfl⟩
          go_wp2_with fail
          refine (cloneSufs a1 q cap1 z1 _ (W0.out.keep HB2.out) hl).mono ?_
          rintro e w1 ⟨A, c, rfl, h1, hb1⟩
          have H1 := Lib.hid h1
          have HB4 := Lib.hid (HB2.out.trans (hb1.mono hz2))
          have hz4 := HB4.out.size
          have hfr := Bld.fresh w1 (Nat.le_refl _)
          have hal : Below w1.heap.size w1 (w1.alloc (.cells #[.pointer none, .slice none 0 0] tBld)) := (Below.refl _ _).alloc (Nat.le_refl _) _
          have HFR := Lib.hid hfr
          have HAL := Lib.hid hal
          have hmk : ∀ W, (Instr.makeSlice 39 (.int .i64 0) (.int .i64 (a0.size : Int))).run Tryd.prog W = .ok (.slice (some ⟨W.heap.size, 0, none⟩) 0 a0.size) (W.alloc (.cells (madeCells #[.int .u8 0] a0.size) 5)) := fun W => run_make_cap a0.size (by omega) W
          clear h1 hb1 hfr hal
          go_wp2_with fail
          refine (bstrP _ w1.heap.size w1.heap.size none [] a0 HFR.out (by simp; omega) (by simp)).mono ?_
          rintro e w3 ⟨rfl, d3, hb3, hd3, ht3, hk3, hz3⟩
          have HBO := Lib.hid (BOut.then hd3.out ht3.out (BOut.refl hb3.out))
          have hz3' : w1.heap.size ≤ w3.heap.size := by simp at hz3; omega
          have HW3 := Lib.hid (HAL.out.trans (HBO.out.below HFR.out (Nat.le_refl _)))
          go_wp2_with fail
          have h3b := Lib.hid (hb3.out.below ((Below.refl w3.heap.size w3).alloc (Nat.le_refl _) (.cells (madeCells #[.int .u8 0] a0.size) 5)))
          have h3w := Lib.hid (HW3.out.alloc (by omega) (.cells (madeCells #[.int .u8 0] a0.size) 5))
          have h3o := Lib.hid (OwnB.made w3 a0.size hz3' (by unfold maxLen; omega))
          refine (appendStr _ w1.heap.size _ _ [] a0 h3o.out (by simp; omega) (by simp; omega)).mono ?_
          rintro e w4 ⟨A4, c4, rfl, ho⟩
          obtain ⟨A5, n5, c5, hv5, h5⟩ := Two.wrote h3b.out h3o.out (fun g hg => by
            injection hg with hg
            have := hb3.out.lt
            refine ⟨by omega, fun hd => ?_⟩
            have := (this.2.2 g hd).2
            omega) h3w.out ho
          rw [hv5]
          have H5 := Lib.hid h5
          clear ho h5 hv5 hmk
          go_wp2_with fail
          go_loopw [9, 10] (fun v i wr => ∃ (j : Nat) (A6 : Option Addr) (n6 c6 : Nat) (L : List UInt8), j ≤ q ∧ i = .int .i64 j ∧ v = .slice A6 n6 c6 ∧ L = scrS a0 (z1.take j) ∧ Two w1 wr w1.heap.size L L A6 n6 c6) (fun _ i _ => q - (intOf i).toNat)
          case atStart => exact ⟨0, A5, n5, c5, _, Nat.zero_le _, rfl, rfl, rfl, by simpa [scrS] using H5.out⟩
          case round =>
            obtain ⟨j, A6, n6, c6, L, hj, rfl, rfl, hL, h6⟩ := hrel
            have HL := Lib.hid hL
            have H6 := Lib.hid h6
            have HW6 := Lib.hid h6.base
            have hz6 : w1.heap.size ≤ wr.heap.size := HW6.out.size
            have hLn : L.length ≤ a0.size + tS (z1.take j) := by rw [hL]; exact scrS_le a0 _ _
            have hLt := tS_take z1 j
            have hLm : L.length ≤ 1048576 := by have := HTT.out; omega
            clear hL h6
            by_cases hlt : j < q
            · obtain ⟨b, o, x, rfl, hbl, hxs, hc⟩ := H1.out.sufc hlt
              have SC := Lib.hid hc
              obtain ⟨c0, c1, c2, c3, c4, c5, c6, c7, c8⟩ := hc.keep HW6.out hbl
              have hxz : x.size ≤ 1048576 := Nat.le_trans (sufSum_mem hxs) HS.out
              have HRX := Lib.hid (HALL.out x (List.mem_of_getElem? hxs))
              have HNX := Lib.hid (show scrS a0 (z1.take (j + 1)) = prSuf x L by rw [take_suf hxs, scrS_snoc, HL.out])
              have htx := text_le2 x
              clear hxs hc hLn hLt
              go_wp2_with fail
              refine (buildSuf x _).mono ?_
              rintro e w7 ⟨nq, rfl, hq7, hb7⟩
              have HQ7 := Lib.hid hq7
              have H7 := Lib.hid (H6.out.below hb7)
              clear hq7 hb7 c0 c1 c2 c3 c4 c5 c6 c7 c8
              go_wp2_with fail
              obtain ⟨d7, dd7, t1, t2, t3, t4, t5⟩ := H7.out
              have T1 := Lib.hid t1
              have T2 := Lib.hid t2
              have T3 := Lib.hid t3
              have T4 := Lib.hid t4
              have T5 := Lib.hid t5
              clear t1 t2 t3 t4 t5
              refine (zSufTo _ w1.heap.size w1.heap.size d7 L nq x HQ7.out HRX.out T1.out (by omega) T5.out.size).mono ?_
              rintro e w8 ⟨rfl, ho⟩
              have H8 := Lib.hid (Two.built T1.out T2.out T3.out T4.out T5.out ho)
              clear ho
              unfold NoEnd
              have HW8 := Lib.hid H8.out.base
              obtain ⟨c0, c1, c2, c3, c4, c5, c6, c7, c8⟩ := SC.out.keep HW8.out hbl
              have hn6 : n6 = L.length := T3.out
              rcases Nat.eq_zero_or_pos L.length with h0 | h0
              · obtain rfl : n6 = 0 := by omega
                have hsv : x.space L = (x.hasIndex && !x.name.toList.isEmpty && (false && sp [0])) := by
                  obtain rfl : L = [] := List.eq_nil_of_length_eq_zero h0
                  unfold Suf.space
                  rw [show sp [] = false from rfl]
                  simp
                have HSV := Lib.hid hsv
                clear hsv hn6 h0
                go_wp2_with fail
                refine (spaceB x false 0 _).mono ?_
                rintro e w9 ⟨rfl, hb9⟩
                rw [← HSV.out]
                have H9 := Lib.hid (H8.out.below hb9)
                have HW9 := Lib.hid H9.out.base
                clear hb9 c0 c1 c2 c3 c4 c5 c6 c7 c8
                obtain ⟨c0, c1, c2, c3, c4, c5, c6, c7, c8⟩ := SC.out.keep HW9.out hbl
                cases hspc : x.space L
                · have HP := Lib.hid (show prSuf x L = L ++ x.text by unfold prSuf; rw [hspc]; simp)
                  clear hspc
                  go_wp2_with fail
                  refine (sufModelC x _ hxz).mono ?_
                  rintro e w10 ⟨rfl, hb10⟩
                  have H10 := Lib.hid (H9.out.below hb10)
                  clear hb10 c0 c1 c2 c3 c4 c5 c6 c7 c8
                  go_wp2_with fail
                  obtain ⟨d9, dd9, t1, t2, t3, t4, t5⟩ := H10.out
                  refine (appendStr _ w1.heap.size _ _ L ⟨x.text.toArray⟩ t2 (by simp [ByteArray.size]; omega) t5.size).mono ?_
                  rintro e w11 ⟨A11, c11, rfl, ho⟩
                  obtain ⟨A12, n12, c12, hv12, h12⟩ := Two.wrote t1 t2 t4 t5 ho
                  rw [hv12]
                  have H12 := Lib.hid h12
                  clear ho h12 hv12 t1 t2 t3 t4 t5
                  go_wp2_with fail
                  exact ⟨⟨j + 1, A12, n12, c12, prSuf x L, by omega, by go_num, rfl, HNX.out.symm, by have := H12.out; rw [← HP.out] at this; exact this⟩, by simp [intOf]; omega⟩
                · have HP := Lib.hid (show prSuf x L = L ++ [32] ++ x.text by unfold prSuf; rw [hspc]; simp)
                  clear hspc
                  obtain ⟨d9, dd9, t1, t2, t3, t4, t5⟩ := H9.out
                  have T1' := Lib.hid t1
                  have T2' := Lib.hid t2
                  have T4' := Lib.hid t4
                  have T5' := Lib.hid t5
                  have hz9 := t5.size
                  clear t1 t2 t3 t4 t5
                  go_wp2_with (at_builtin; refine wp_byte rfl _ _ rfl _ w1.heap.size _ _ _ rfl T2'.out 32 _ rfl rfl (by omega) hz9 ?_)
                  intro v10 w10 ho
                  obtain ⟨A10, n10, c10, rfl, h10⟩ := Two.wrote T1'.out T2'.out T4'.out T5'.out ho
                  have H10 := Lib.hid h10
                  have HW10 := Lib.hid h10.base
                  clear ho h10 c0 c1 c2 c3 c4 c5 c6 c7 c8
                  obtain ⟨c0, c1, c2, c3, c4, c5, c6, c7, c8⟩ := SC.out.keep HW10.out hbl
                  go_wp2_with fail
                  refine (sufModelC x _ hxz).mono ?_
                  rintro e w11 ⟨rfl, hb11⟩
                  have H11 := Lib.hid (H10.out.below hb11)
                  clear hb11 c0 c1 c2 c3 c4 c5 c6 c7 c8
                  go_wp2_with fail
                  obtain ⟨d9, dd9, t1, t2, t3, t4, t5⟩ := H11.out
                  refine (appendStr _ w1.heap.size _ _ (L ++ [32]) ⟨x.text.toArray⟩ t2 (by simp [ByteArray.size]; omega) t5.size).mono ?_
                  rintro e w12 ⟨A11, c11, rfl, ho⟩
                  obtain ⟨A12, n12, c12, hv12, h12⟩ := Two.wrote t1 t2 t4 t5 ho
                  rw [hv12]
                  have H12 := Lib.hid h12
                  clear ho h12 hv12 t1 t2 t3 t4 t5
                  go_wp2_with fail
                  exact ⟨⟨j + 1, A12, n12, c12, prSuf x L, by omega, by go_num, rfl, HNX.out.symm, by have := H12.out; rw [← HP.out] at this; exact this⟩, by simp [intOf]; omega⟩
              · obtain ⟨m, hm⟩ : ∃ m, L.length = m + 1 := ⟨L.length - 1, by omega⟩
                obtain rfl : n6 = m + 1 := by omega
                obtain ⟨d8, dd8, s1, s2, s3, s4, s5⟩ := H8.out
                obtain ⟨g8, lc, rfl, hla, hlc⟩ := s2.last hm
                have hsv : x.space L = (x.hasIndex && !x.name.toList.isEmpty && (true && sp [lc])) := by
                  unfold Suf.space
                  rw [sp_last hla, Bool.true_and]
                have HSV := Lib.hid hsv
                have HLA := Lib.hid hla
                have HM := Lib.hid hm
                have hmm : m ≤ 1048576 := by omega
                clear hsv hla s1 s2 s3 s4 s5 hn6 h0
                go_wp2_with fail
                refine (spaceB x true lc _).mono ?_
                rintro e w9 ⟨rfl, hb9⟩
                rw [← HSV.out]
                have H9 := Lib.hid (H8.out.below hb9)
                have HW9 := Lib.hid H9.out.base
                clear hb9 c0 c1 c2 c3 c4 c5 c6 c7 c8
                obtain ⟨c0, c1, c2, c3, c4, c5, c6, c7, c8⟩ := SC.out.keep HW9.out hbl
                cases hspc : x.space L
                · have HP := Lib.hid (show prSuf x L = L ++ x.text by unfold prSuf; rw [hspc]; simp)
                  clear hspc
                  go_wp2_with fail
                  refine (sufModelC x _ hxz).mono ?_
                  rintro e w10 ⟨rfl, hb10⟩
                  have H10 := Lib.hid (H9.out.below hb10)
                  clear hb10 c0 c1 c2 c3 c4 c5 c6 c7 c8
                  go_wp2_with fail
                  obtain ⟨d9, dd9, t1, t2, t3, t4, t5⟩ := H10.out
                  refine (appendStr _ w1.heap.size _ _ L ⟨x.text.toArray⟩ t2 (by simp [ByteArray.size]; omega) t5.size).mono ?_
                  rintro e w11 ⟨A11, c11, rfl, ho⟩
                  obtain ⟨A12, n12, c12, hv12, h12⟩ := Two.wrote t1 t2 t4 t5 ho
                  rw [hv12]
                  have H12 := Lib.hid h12
                  clear ho h12 hv12 t1 t2 t3 t4 t5
                  go_wp2_with fail
                  exact ⟨⟨j + 1, A12, n12, c12, prSuf x L, by omega, by go_num, rfl, HNX.out.symm, by have := H12.out; rw [← HP.out] at this; exact this⟩, by simp [intOf]; omega⟩
                · have HP := Lib.hid (show prSuf x L = L ++ [32] ++ x.text by unfold prSuf; rw [hspc]; simp)
                  clear hspc
                  obtain ⟨d9, dd9, t1, t2, t3, t4, t5⟩ := H9.out
                  have T1' := Lib.hid t1
                  have T2' := Lib.hid t2
                  have T4' := Lib.hid t4
                  have T5' := Lib.hid t5
                  have hz9 := t5.size
                  clear t1 t2 t3 t4 t5
                  go_wp2_with (at_builtin; refine wp_byte rfl _ _ rfl _ w1.heap.size _ _ _ rfl T2'.out 32 _ rfl rfl (by omega) hz9 ?_)
                  intro v10 w10 ho
                  obtain ⟨A10, n10, c10, rfl, h10⟩ := Two.wrote T1'.out T2'.out T4'.out T5'.out ho
                  have H10 := Lib.hid h10
                  have HW10 := Lib.hid h10.base
                  clear ho h10 c0 c1 c2 c3 c4 c5 c6 c7 c8
                  obtain ⟨c0, c1, c2, c3, c4, c5, c6, c7, c8⟩ := SC.out.keep HW10.out hbl
                  go_wp2_with fail
                  refine (sufModelC x _ hxz).mono ?_
                  rintro e w11 ⟨rfl, hb11⟩
                  have H11 := Lib.hid (H10.out.below hb11)
                  clear hb11 c0 c1 c2 c3 c4 c5 c6 c7 c8
                  go_wp2_with fail
                  obtain ⟨d9, dd9, t1, t2, t3, t4, t5⟩ := H11.out
                  refine (appendStr _ w1.heap.size _ _ (L ++ [32]) ⟨x.text.toArray⟩ t2 (by simp [ByteArray.size]; omega) t5.size).mono ?_
                  rintro e w12 ⟨A11, c11, rfl, ho⟩
                  obtain ⟨A12, n12, c12, hv12, h12⟩ := Two.wrote t1 t2 t4 t5 ho
                  rw [hv12]
                  have H12 := Lib.hid h12
                  clear ho h12 hv12 t1 t2 t3 t4 t5
                  go_wp2_with fail
                  exact ⟨⟨j + 1, A12, n12, c12, prSuf x L, by omega, by go_num, rfl, HNX.out.symm, by have := H12.out; rw [← HP.out] at this; exact this⟩, by simp [intOf]; omega⟩
            · obtain rfl : j = q := by omega
              obtain ⟨d9, dd9, t1, t2, t3, t4, t5⟩ := H6.out
              have hcv : (convert 39 9 (.slice A6 n6 c6)).run Tryd.prog wr.drew = _ := OwnB.conv (w := wr.drew) (t2.below (Below.drew (Below.refl _ wr)))
              have HX := Lib.hid (H6.out.below (Below.drew (Below.refl _ wr)))
              have hB : Below w1.heap.size w1 wr.drew := HX.out.base
              clear t1 t2 t3 t4 t5
              go_wp2_with fail
              go_region_with (go_at_call 25; obtain ⟨d9, dd9, t1, t2, t3, t4, t5⟩ := HX.out; refine (bstring _ w1.heap.size w1.heap.size d9 L t1).mono ?_; rintro e w13 ⟨rfl, hs13⟩; have HX := Lib.hid (Two.built t1 t2 t3 t4 t5 hs13.out); have hcv : (convert 39 9 (.slice A6 n6 c6)).run Tryd.prog w13 = _ := OwnB.conv (t2.touch hs13.2 (fun g hg hs => (t4 g hg).2 hs)); have hB : Below w1.heap.size w1 w13 := HX.out.base; clear t1 t2 t3 t4 t5 hs13)
              all_goals go_wp2_with fail
              all_goals go_ret
              all_goals exact ⟨rfl, HB4.out.trans (hB.mono hz4)⟩
set_option maxHeartbeats 1000000 in
theorem fnSuffixWriteToScript.walk (a0 : ByteArray) (a1 : Option Addr) (len1 cap1 : Nat) (z1 : List (Suf)) (w : World) (w0 : a0.size ≤ maxLen) (w1 : SliceOf 9 (IsSufL) w a1 len1 z1) :
    Calls Tryd.prog 8 #[.string a0, .slice a1 len1 cap1] w fun e w' => e = .returned (.bool true) ∧ Below w.heap.size w w' := by
  have W0 := Lib.hid w1
  have hlm := w1.lt.2
  have hpm := w0
  unfold maxLen at hlm hpm
  clear w1
  by_cases hp : a0.size ≤ 1048576
  · by_cases hl : len1 ≤ 4096
    · exact sufScript.main a0 a1 len1 cap1 z1 w w0 W0.out hp hl
    · go_enter Tryd.func8, Tryd.ntmps8
      go_wp2_with fail
      refine (zz32 a0 w0 a1 len1 cap1 z1 _ W0.out).mono ?_
      rintro e w' ⟨b, rfl, hb, rfl⟩
      clear hb
      cases b
      all_goals
        go_wp2_with fail
        go_ret
        exact ⟨rfl, Below.refl _ _⟩
  · go_enter Tryd.func8, Tryd.ntmps8
    go_wp2_with fail
    refine (zz32 a0 w0 a1 len1 cap1 z1 _ W0.out).mono ?_
    rintro e w' ⟨b, rfl, hb, rfl⟩
    clear hb
    cases b
    all_goals
      go_wp2_with fail
      go_ret
      exact ⟨rfl, Below.refl _ _⟩
end Go.Proofs.YtebcjlgeppebgaaDoor
