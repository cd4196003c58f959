/-
  Slices as lists of values ('Vw'), own rows, and the contracts of intAt, strsAt, intsAt, indexOf (n001_79).
-/
import Derived.Test.YtdjebcejpachmaaDmb
namespace Go.Proofs.Ytdjebcejpachmaa
set_option linter.unusedVariables false
set_option linter.unusedSimpArgs false
open Go.ChangeShapes Go.WideShapes Go.ChangeAt Go.RowKit M
/-- The slice at a, of len elements of one cell each, holds the values vs. -/
def Vw (w : World) (a : Option Addr) (len : Nat) (vs : List Value) : Prop :=
  vs.length = len ∧ (0 < len → ∃ b o, a = some ⟨b, o, none⟩ ∧ b < w.heap.size ∧ ∀ (i : Nat) (v : Value), vs[i]? = some v → w.cell? ⟨b, o + i, none⟩ = some v)
theorem Vw.touch {S : Nat → Prop} {w w' : World} {a : Option Addr} {len : Nat} {vs : List Value} (h : Vw w a len vs) (ht : Touch S w w') (hn : 0 < len → ∀ x, a = some x → x.block < w.heap.size → ¬ S x.block) : Vw w' a len vs := by
  refine ⟨h.1, fun hl => ?_⟩
  obtain ⟨b, o, ha, hb, hc⟩ := h.2 hl
  refine ⟨b, o, ha, Nat.lt_of_lt_of_le hb ht.size, fun i v hv => ?_⟩
  have := hc i v hv
  have hbk := ht.block b hb (hn hl _ ha hb)
  rw [World.cell?_of_block (a := ⟨b, o + i, none⟩) hbk]
  exact this
theorem Vw.keep {w w' : World} {a : Option Addr} {len : Nat} {vs : List Value} (h : Vw w a len vs) (hb : Below w.heap.size w w') : Vw w' a len vs := h.touch (Touch.of_below hb (fun _ => False)) (fun _ _ _ _ q => q)
theorem Vw.get {w : World} {a : Option Addr} {len : Nat} {vs : List Value} (h : Vw w a len vs) {i : Nat} (hi : i < len) : ∃ b o v, a = some ⟨b, o, none⟩ ∧ b < w.heap.size ∧ vs[i]? = some v ∧ w.cell? ⟨b, o + i, none⟩ = some v := by
  obtain ⟨b, o, ha, hb, hc⟩ := h.2 (by omega)
  have hil : i < vs.length := by rw [h.1]; exact hi
  have hv : vs[i]? = some vs[i] := List.getElem?_eq_getElem hil
  exact ⟨b, o, _, ha, hb, hv, hc i _ hv⟩
theorem Vw.nil (w : World) (a : Option Addr) : Vw w a 0 [] := ⟨rfl, fun h => absurd h (by omega)⟩
def strV (zs : List ByteArray) : List Value := zs.map .string
def intsV (zs : List Int) : List Value := zs.map (.int .i64)
theorem Vw.str {w : World} {a : Option Addr} {len : Nat} {zs : List ByteArray} (h : Vw w a len (strV zs)) {i : Nat} (hi : i < len) : ∃ b o s, a = some ⟨b, o, none⟩ ∧ b < w.heap.size ∧ zs[i]? = some s ∧ w.cell? ⟨b, o + i, none⟩ = some (.string s) := by
  obtain ⟨b, o, v, ha, hb, hv, hc⟩ := h.get hi
  unfold strV at hv
  rw [List.getElem?_map] at hv
  obtain ⟨s, hs, rfl⟩ := Option.map_eq_some_iff.1 hv
  exact ⟨b, o, s, ha, hb, hs, hc⟩
theorem Vw.int {w : World} {a : Option Addr} {len : Nat} {zs : List Int} (h : Vw w a len (intsV zs)) {i : Nat} (hi : i < len) : ∃ b o s, a = some ⟨b, o, none⟩ ∧ b < w.heap.size ∧ zs[i]? = some s ∧ w.cell? ⟨b, o + i, none⟩ = some (.int .i64 s) := by
  obtain ⟨b, o, v, ha, hb, hv, hc⟩ := h.get hi
  unfold intsV at hv
  rw [List.getElem?_map] at hv
  obtain ⟨s, hs, rfl⟩ := Option.map_eq_some_iff.1 hv
  exact ⟨b, o, s, ha, hb, hs, hc⟩
theorem Vw.of_strs {w : World} {a : Option Addr} {len : Nat} {zs : List ByteArray} (h : SliceOf 1 IsStr w a len zs) : Vw w a len (strV zs) := by
  refine ⟨by simp [strV, h.lt.1], fun hl => ?_⟩
  obtain ⟨b, o, s, ha, hb, _⟩ := h.str hl
  refine ⟨b, o, ha, hb, fun i v hv => ?_⟩
  unfold strV at hv
  rw [List.getElem?_map] at hv
  obtain ⟨s, hs, rfl⟩ := Option.map_eq_some_iff.1 hv
  have hil : i < len := by have := (List.getElem?_eq_some_iff.1 hs).1; have := h.lt.1; omega
  obtain ⟨b', o', s', ha', _, hs', _, hc⟩ := h.str hil
  rw [ha] at ha'
  injection ha' with ha'
  injection ha' with h1 h2
  rw [hs] at hs'
  injection hs' with hs'
  rw [h1, h2, hs']
  exact hc
theorem Vw.of_ints {w : World} {a : Option Addr} {len : Nat} {zs : List Int} (h : SliceOf 1 (IsInt .i64) w a len zs) : Vw w a len (intsV zs) := by
  refine ⟨by simp [intsV, h.lt.1], fun hl => ?_⟩
  obtain ⟨b, o, s, ha, hb, _⟩ := h.int hl
  refine ⟨b, o, ha, hb, fun i v hv => ?_⟩
  unfold intsV at hv
  rw [List.getElem?_map] at hv
  obtain ⟨s, hs, rfl⟩ := Option.map_eq_some_iff.1 hv
  have hil : i < len := by have := (List.getElem?_eq_some_iff.1 hs).1; have := h.lt.1; omega
  obtain ⟨b', o', s', ha', _, hs', _, hc⟩ := h.int hil
  rw [ha] at ha'
  injection ha' with ha'
  injection ha' with h1 h2
  rw [hs] at hs'
  injection hs' with hs'
  rw [h1, h2, hs']
  exact hc
theorem own_vw {w : World} {B e n : Nat} {v : Value} {xs : List Value} (h : w.ownsRow B e 1 v n xs) : ∃ a c, v = .slice a n c ∧ Vw w a n xs ∧ ∀ x, a = some x → B ≤ x.block := by
  have hl := h.1
  rcases h.2 with ⟨rfl, rfl⟩ | ⟨g, cap, cur, rfl, hb, hg, hn, hc, hs, ht⟩
  · exact ⟨none, 0, rfl, ⟨by simpa using hl, fun q => absurd q (by omega)⟩, fun x q => by cases q⟩
  · refine ⟨_, cap, rfl, ⟨by simpa using hl, fun _ => ⟨g, 0, rfl, (Array.getElem?_eq_some_iff.1 hg).1, fun i v hv => ?_⟩⟩, fun x q => by cases q; exact hb⟩
    rw [Nat.zero_add]
    unfold World.cell?
    simp only [hg]
    rw [← ht] at hv
    have hi := (List.getElem?_eq_some_iff.1 hv).1
    rw [List.getElem?_take] at hv
    split at hv
    · simpa using hv
    · cases hv
/-- Slices of slices: each element is a slice; nil or not, and what it holds. -/
def NV (w : World) (us : List Value) (xs : List (Bool × List Value)) : Prop :=
  us.length = xs.length ∧ ∀ (i : Nat) (u : Value) (x : Bool × List Value), us[i]? = some u → xs[i]? = some x → ∃ a c, u = .slice a x.2.length c ∧ a.isSome = x.1 ∧ Vw w a x.2.length x.2
theorem NV.keep {w w' : World} {us : List Value} {xs : List (Bool × List Value)} (h : NV w us xs) (hb : Below w.heap.size w w') : NV w' us xs := by
  refine ⟨h.1, fun i u x hu hx => ?_⟩
  obtain ⟨a, c, h1, h2, h3⟩ := h.2 i u x hu hx
  exact ⟨a, c, h1, h2, h3.keep hb⟩
/-- The place of a key. -/
def pos : List ByteArray → ByteArray → Option Nat
  | [], _ => none
  | z :: r, s => if z = s then some 0 else (pos r s).map (· + 1)
def posI (zs : List ByteArray) (s : ByteArray) : Int := match pos zs s with | none => -1 | some i => i
section
variable {α : Type}
theorem pos_none : ∀ {l : List (ByteArray × α)} {s : ByteArray}, pos (l.map Prod.fst) s = none → ∀ v, aset l s v = l ++ [(s, v)]
  | [], s, _, v => rfl
  | e :: l, s, h, v => by
    rw [List.map_cons, pos] at h
    split at h
    · cases h
    · rename_i h1
      have h2 : pos (l.map Prod.fst) s = none := by simpa using h
      rw [aset, if_neg h1, pos_none h2 v]
      rfl
theorem pos_some : ∀ {l : List (ByteArray × α)} {s : ByteArray} {i : Nat}, pos (l.map Prod.fst) s = some i → ∃ x, l[i]? = some (s, x) ∧ aget l s = some x ∧ ∀ v, aset l s v = l.set i (s, v)
  | [], s, i, h => by simp [pos] at h
  | e :: l, s, i, h => by
    rw [List.map_cons, pos] at h
    split at h
    · rename_i h1
      injection h with h
      subst h h1
      exact ⟨e.2, rfl, by simp [aget], fun v => by simp [aset]⟩
    · rename_i h1
      obtain ⟨j, hj, rfl⟩ := Option.map_eq_some_iff.1 h
      obtain ⟨x, h2, h3, h4⟩ := pos_some hj
      exact ⟨x, by simpa using h2, by rw [aget, if_neg h1, h3], fun v => by rw [aset, if_neg h1, h4 v]; rfl⟩
theorem pos_none_get {l : List (ByteArray × α)} {s : ByteArray} (h : pos (l.map Prod.fst) s = none) : aget l s = none := by
  induction l with
  | nil => rfl
  | cons e l ih =>
    rw [List.map_cons, pos] at h
    split at h
    · cases h
    · rename_i h1
      rw [aget, if_neg h1]
      exact ih (by simpa using h)
end
theorem pos_at : ∀ {zs : List ByteArray} {j : Nat} {s : ByteArray}, (∀ (i : Nat) (z : ByteArray), i < j → zs[i]? = some z → z ≠ s) → zs[j]? = some s → pos zs s = some j
  | [], j, s, _, h => by simp at h
  | z :: r, 0, s, _, h => by
    simp only [List.getElem?_cons_zero, Option.some.injEq] at h
    rw [pos, if_pos h]
  | z :: r, j + 1, s, hn, h => by
    rw [pos, if_neg (hn 0 z (by omega) rfl), pos_at (zs := r) (j := j) (fun i z' hi hz => hn (i + 1) z' (by omega) (by simpa using hz)) (by simpa using h)]
    rfl
theorem pos_out : ∀ {zs : List ByteArray} {s : ByteArray}, (∀ (i : Nat) (z : ByteArray), zs[i]? = some z → z ≠ s) → pos zs s = none
  | [], s, _ => rfl
  | z :: r, s, hn => by
    rw [pos, if_neg (hn 0 z rfl), pos_out (fun i z' hz => hn (i + 1) z' (by simpa using hz))]
    rfl
theorem indexC (w : World) (a : Option Addr) (len cap : Nat) (zs : List ByteArray) (s : ByteArray) (h : Vw w a len (strV zs)) (hl : len ≤ 1048576) :
    Calls Try.prog 32 #[.slice a len cap, .string s] w fun e w' => e = .returned (.int .i64 (posI zs s)) ∧ w = w' := by
  have H := Lib.hid h
  have HL := Lib.hid (show zs.length = len by have := h.1; simpa [strV] using this)
  clear h
  go_enter Try.func32, Try.ntmps32
  go_wp2_with fail
  go_loop [5] (fun i => ∃ j : Nat, j ≤ len ∧ i = .int .i64 j ∧ Hid (∀ (i : Nat) (z : ByteArray), i < j → zs[i]? = some z → z ≠ s)) (fun i => len - (intOf i).toNat)
  case atStart => exact ⟨0, Nat.zero_le _, rfl, Lib.hid (fun (i : Nat) (z : ByteArray) (hi : i < 0) _ => absurd hi (Nat.not_lt_zero i))⟩
  case round =>
    obtain ⟨j, hj, rfl, HN⟩ := hrel
    by_cases hlt : j < len
    · obtain ⟨b, o, z, rfl, hb, hz, hc⟩ := H.out.str hlt
      have HZ := Lib.hid hz
      clear hz
      by_cases he : z = s
      · have he2 := str_beq_eq he
        have HP := Lib.hid (show posI zs s = (j : Int) by unfold posI; rw [pos_at HN.out (he ▸ HZ.out)])
        clear he
        go_wp2_with fail
        go_ret
        exact ⟨ret_i HP.out.symm, rfl⟩
      · have he2 := str_beq_ne he
        have HN2 := Lib.hid (show ∀ (i : Nat) (y : ByteArray), i < j + 1 → zs[i]? = some y → y ≠ s from fun i y hi hy => by
          by_cases hij : i = j
          · subst hij
            rw [HZ.out] at hy
            injection hy with hy
            rw [← hy]
            exact he
          · exact HN.out i y (by omega) hy)
        clear he
        go_wp2_with fail
        exact ⟨⟨j + 1, by omega, by go_num, HN2⟩, by simp [intOf]; omega⟩
    · obtain rfl : j = len := by omega
      have HP := Lib.hid (show posI zs s = -1 by unfold posI; rw [pos_out fun i z hz => HN.out i z (by have := (List.getElem?_eq_some_iff.1 hz).1; rw [HL.out] at this; exact this) hz])
      go_wp2_with fail
      go_ret
      exact ⟨ret_i HP.out.symm, rfl⟩
def intAtL (zs : List Int) (j : Nat) : Int := (zs[j]?).getD 0
theorem intAtC (w : World) (a : Option Addr) (len cap : Nat) (zs : List Int) (j : Nat) (h : Vw w a len (intsV zs)) (hj : j ≤ 1048576) :
    Calls Try.prog 31 #[.slice a len cap, .int .i64 j] w fun e w' => e = .returned (.int .i64 (intAtL zs j)) ∧ w = w' := by
  have H := Lib.hid h
  have HL := Lib.hid (show zs.length = len by have := h.1; simpa [intsV] using this)
  clear h
  by_cases hlt : j < len
  · obtain ⟨b, o, z, rfl, hb, hz, hc⟩ := H.out.int hlt
    have HZ := Lib.hid hz
    clear hz
    go_enter Try.func31, Try.ntmps31
    go_wp2_with fail
    go_ret
    exact ⟨ret_i (by unfold intAtL; rw [HZ.out]; rfl), rfl⟩
  · go_enter Try.func31, Try.ntmps31
    go_wp2_with fail
    go_ret
    exact ⟨ret_i (by unfold intAtL; rw [List.getElem?_eq_none (by rw [HL.out]; omega)]; rfl), rfl⟩
def nAt (xs : List (Bool × List Value)) (j : Nat) : Bool × List Value := (xs[j]?).getD (false, [])
def AtOut (w : World) (x : Bool × List Value) (e : Ending) (w' : World) : Prop := ∃ a c, e = .returned (.slice a x.2.length c) ∧ a.isSome = x.1 ∧ Vw w a x.2.length x.2 ∧ w = w'
theorem strsAtC (w : World) (a : Option Addr) (len cap : Nat) (us : List Value) (xs : List (Bool × List Value)) (j : Nat) (h : Vw w a len us) (hn : NV w us xs) (hj : j ≤ 1048576) :
    Calls Try.prog 27 #[.slice a len cap, .int .i64 j] w (AtOut w (nAt xs j)) := by
  have H := Lib.hid h
  have HN := Lib.hid hn
  have HL := Lib.hid (show xs.length = len by rw [← hn.1, h.1])
  clear h hn
  by_cases hlt : j < len
  · obtain ⟨b, o, u, rfl, hb, hu, hc⟩ := H.out.get hlt
    obtain ⟨x, hx⟩ : ∃ x, xs[j]? = some x := ⟨_, List.getElem?_eq_getElem (by rw [HL.out]; exact hlt)⟩
    obtain ⟨a', c', rfl, hs', hv'⟩ := HN.out.2 j u x hu hx
    have HX := Lib.hid hx
    have HS := Lib.hid hs'
    have HV := Lib.hid hv'
    clear hu hx hs' hv'
    go_enter Try.func27, Try.ntmps27
    go_wp2_with fail
    go_ret
    have e : nAt xs j = x := by unfold nAt; rw [HX.out]; rfl
    rw [e]
    exact ⟨a', c', rfl, HS.out, HV.out, rfl⟩
  · go_enter Try.func27, Try.ntmps27
    go_wp2_with fail
    go_ret
    have e : nAt xs j = (false, []) := by unfold nAt; rw [List.getElem?_eq_none (by rw [HL.out]; omega)]; rfl
    rw [e]
    exact ⟨none, 0, rfl, rfl, Vw.nil _ _, rfl⟩
theorem intsAtC (w : World) (a : Option Addr) (len cap : Nat) (us : List Value) (xs : List (Bool × List Value)) (j : Nat) (h : Vw w a len us) (hn : NV w us xs) (hj : j ≤ 1048576) :
    Calls Try.prog 29 #[.slice a len cap, .int .i64 j] w (AtOut w (nAt xs j)) := by
  have H := Lib.hid h
  have HN := Lib.hid hn
  have HL := Lib.hid (show xs.length = len by rw [← hn.1, h.1])
  clear h hn
  by_cases hlt : j < len
  · obtain ⟨b, o, u, rfl, hb, hu, hc⟩ := H.out.get hlt
    obtain ⟨x, hx⟩ : ∃ x, xs[j]? = some x := ⟨_, List.getElem?_eq_getElem (by rw [HL.out]; exact hlt)⟩
    obtain ⟨a', c', rfl, hs', hv'⟩ := HN.out.2 j u x hu hx
    have HX := Lib.hid hx
    have HS := Lib.hid hs'
    have HV := Lib.hid hv'
    clear hu hx hs' hv'
    go_enter Try.func29, Try.ntmps29
    go_wp2_with fail
    go_ret
    have e : nAt xs j = x := by unfold nAt; rw [HX.out]; rfl
    rw [e]
    exact ⟨a', c', rfl, HS.out, HV.out, rfl⟩
  · go_enter Try.func29, Try.ntmps29
    go_wp2_with fail
    go_ret
    have e : nAt xs j = (false, []) := by unfold nAt; rw [List.getElem?_eq_none (by rw [HL.out]; omega)]; rfl
    rw [e]
    exact ⟨none, 0, rfl, rfl, Vw.nil _ _, rfl⟩
end Go.Proofs.Ytdjebcejpachmaa
