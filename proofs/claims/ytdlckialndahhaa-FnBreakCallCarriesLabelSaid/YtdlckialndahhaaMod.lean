/-
  Contract of the seat n001_78: zzlModel, the position among the distinct names.
-/
import Derived.Test.YtdlckialndahhaaNew
namespace Go.Proofs.Ytdlckialndahhaa
set_option linter.unusedVariables false
set_option linter.unusedSimpArgs false
open Go.ChangeShapes Go.WideShapes Go.ChangeAt Go.RowKit M
theorem idx_app {nm : ByteArray} : ∀ {ns : List ByteArray} (l : List ByteArray), nm ∈ ns → idx nm (ns ++ l) = idx nm ns
  | [], l, h => by cases h
  | n :: r, l, h => by
    rw [List.cons_append, idx, idx]
    split
    · rfl
    · rename_i hne
      rcases List.mem_cons.1 h with h | h
      · exact absurd h.symm hne
      · rw [idx_app l h]
theorem idx_snoc {nm : ByteArray} : ∀ {ns : List ByteArray}, nm ∉ ns → idx nm (ns ++ [nm]) = ns.length
  | [], h => by simp [idx]
  | n :: r, h => by
    simp only [List.mem_cons, not_or] at h
    rw [List.cons_append, idx, if_neg (fun e => h.1 e.symm), idx_snoc h.2, List.length_cons]
theorem nodup_push {ns : List ByteArray} {nm : ByteArray} (h : ns.Nodup) : (pushNs ns nm).Nodup := by
  by_cases hm : nm ∈ ns
  · rw [pushNs_in hm]; exact h
  · rw [pushNs_out hm, List.nodup_append]
    refine ⟨h, by simp, fun a ha b hb => ?_⟩
    simp at hb
    subst hb
    intro e
    subst e
    exact hm ha
theorem nodup_foldl : ∀ (l a : List ByteArray), a.Nodup → (l.foldl pushNs a).Nodup
  | [], a, h => h
  | y :: r, a, h => nodup_foldl r _ (nodup_push h)
theorem nodup_dd (l : List ByteArray) : (dd l).Nodup := nodup_foldl l [] (by simp)
theorem idx_of_nodup {ns : List ByteArray} {nm : ByteArray} {k : Nat} (h : ns.Nodup) (hk : ns[k]? = some nm) : idx nm ns = k := by
  obtain ⟨hl, he⟩ := List.getElem?_eq_some_iff.1 hk
  refine (idx_at (k := k) ?_ hk).1
  intro hm
  obtain ⟨j, hj⟩ := List.getElem?_of_mem hm
  have hjk : j < k := by
    have := (List.getElem?_eq_some_iff.1 hj).1
    simp at this
    omega
  rw [List.getElem?_take_of_lt hjk] at hj
  have hl2 : j < ns.length := by omega
  have h1 : ns[j] = nm := by
    rw [List.getElem?_eq_getElem hl2] at hj
    exact Option.some.inj hj
  have := (List.nodup_iff_pairwise_ne.1 h)
  rw [List.pairwise_iff_getElem] at this
  exact this j k hl2 hl hjk (by rw [h1, he])
/-- The place of t among the distinct names of z, or -1. -/
def kOf (z : List ByteArray) (t : ByteArray) : Int := if idx t (dd z) < (dd z).length then (idx t (dd z) : Int) else -1
theorem kOf_in {z : List ByteArray} {t : ByteArray} (h : t ∈ z) : kOf z t = (idx t (dd z) : Int) := if_pos (idx_lt.2 (mem_dd.2 h))
theorem kOf_out {z : List ByteArray} {t : ByteArray} (h : t ∉ z) : kOf z t = -1 := if_neg (fun e => h (mem_dd.1 (idx_lt.1 e)))
theorem kOf_lt (z : List ByteArray) (t : ByteArray) : -1 ≤ kOf z t ∧ kOf z t < 9223372036854775807 ∨ 9223372036854775807 ≤ z.length := by
  unfold kOf
  have := len_dd z
  split
  · omega
  · omega
structure Seen (z : List ByteArray) (t : ByteArray) (i : Nat) (d : Nat) (k : Int) : Prop where
  d : (dd (z.take i)).length = d
  k : kOf (z.take i) t = k
theorem Seen.step_in {z : List ByteArray} {t x : ByteArray} {i d : Nat} {k : Int} (h : Seen z t i d k) (hx : z[i]? = some x) (hm : x ∈ z.take i) : Seen z t (i + 1) d k := by
  obtain ⟨h1, h2⟩ := dd_step_in hx hm
  exact ⟨by rw [h1]; exact h.d, by unfold kOf; rw [h1]; exact h.k⟩
theorem dd_new {z : List ByteArray} {x : ByteArray} {i : Nat} (hx : z[i]? = some x) (hm : x ∉ z.take i) : dd (z.take (i + 1)) = dd (z.take i) ++ [x] := by
  rw [← dd_push hx, pushNs_out (fun e => hm (mem_dd.1 e))]
theorem Seen.step_eq {z : List ByteArray} {t : ByteArray} {i d : Nat} {k : Int} (h : Seen z t i d k) (hx : z[i]? = some t) (hm : t ∉ z.take i) : Seen z t (i + 1) (d + 1) d := by
  have e := dd_new hx hm
  have hm' : t ∉ dd (z.take i) := fun e => hm (mem_dd.1 e)
  refine ⟨by rw [e]; simp [h.d], ?_⟩
  unfold kOf
  rw [e, idx_snoc hm', if_pos (by simp), h.d]
theorem Seen.step_ne {z : List ByteArray} {t x : ByteArray} {i d : Nat} {k : Int} (h : Seen z t i d k) (hx : z[i]? = some x) (hm : x ∉ z.take i) (hne : x ≠ t) : Seen z t (i + 1) (d + 1) k := by
  have e := dd_new hx hm
  refine ⟨by rw [e]; simp [h.d], ?_⟩
  rw [← h.k]
  unfold kOf
  rw [e]
  by_cases hin : t ∈ dd (z.take i)
  · rw [idx_app _ hin, if_pos (idx_lt.2 hin), if_pos (by have := idx_lt.2 hin; simp; omega)]
  · have h2 : t ∉ dd (z.take i) ++ [x] := by simp [hin]; exact fun e => hne e.symm
    rw [if_neg (fun e => h2 (idx_lt.1 e)), if_neg (fun e => hin (idx_lt.1 e))]
def ModOut (w : World) (z : List ByteArray) (t : ByteArray) (e : Ending) (w' : World) : Prop :=
  ((t ∈ z ∧ e = .returned (.tuple #[.int .i64 (idx t (dd z)), .bool true, .int .i64 (dd z).length])) ∨ (t ∉ z ∧ ∃ k : Int, e = .returned (.tuple #[.int .i64 k, .bool false, .int .i64 (dd z).length]))) ∧ ∃ n, w' = w.drewN n
set_option maxRecDepth 100000 in
set_option maxHeartbeats 2000000 in
theorem model (w w1 : World) (A : Option Addr) (len cp : Nat) (z : List ByteArray) (t : ByteArray) (hcx : Ctx w w.heap.size A z w1) (hl : z.length = len) (hle : len ≤ 65536) :
    Calls Try.prog 19 #[.slice A len cp, .string t] w1 (ModOut w1 z t) := by
  have HX := Lib.hid hcx
  have HXL := Lib.hid hl
  clear hcx hl
  go_enter Try.func19, Try.ntmps19
  go_wp2_with fail
  go_loopw [7, 8, 9] (fun dv kv i wr => ∃ (k d : Nat) (kk : Int), k ≤ len ∧ i = .int .i64 k ∧ dv = .int .i64 d ∧ d ≤ k ∧ kv = .int .i64 kk ∧ -1 ≤ kk ∧ kk ≤ k ∧ Seen z t k d kk ∧ ∃ n, wr = w1.drewN n) (fun _ _ i _ => len - (intOf i).toNat)
  case atStart => exact ⟨0, 0, -1, Nat.zero_le _, rfl, rfl, Nat.le_refl _, rfl, by omega, by omega, ⟨by simp [dd], by simp [kOf, dd, idx]⟩, 0, rfl⟩
  case round =>
    obtain ⟨k, d, kk, hk, rfl, rfl, hdk, rfl, hk0, hk1, hsn, n, rfl⟩ := hrel
    have HS := Lib.hid hsn
    clear hsn
    by_cases hlt : k < len
    · obtain ⟨g, hA, hcell⟩ := HX.out.get (k := k) (by rw [HXL.out]; exact hlt)
      obtain ⟨x, hx⟩ : ∃ x, z[k]? = some x := ⟨_, List.getElem?_eq_getElem (by rw [HXL.out]; exact hlt)⟩
      have cx := hcell k x hx
      subst hA
      have HX0 := Lib.hid hx
      clear hcell hx
      go_wp2_with fail
      go_loopw [10, 11] (fun f j wr => ∃ (j0 m : Nat), j0 ≤ k ∧ f = .bool true ∧ j = .int .i64 j0 ∧ x ∉ z.take j0 ∧ wr = w1.drewN m) (fun _ j _ => k - (intOf j).toNat)
      case atStart => exact ⟨0, _, Nat.zero_le _, rfl, rfl, by simp, rfl⟩
      case round =>
        obtain ⟨j, m, hj, rfl, rfl, hnj, rfl⟩ := hrel
        have HNJ := Lib.hid hnj
        clear hnj
        by_cases hlj : j < k
        · obtain ⟨g', hA, hcell⟩ := HX.out.get (k := j) (by rw [HXL.out]; omega)
          injection hA with hA
          injection hA with hA
          subst hA
          obtain ⟨y, hy⟩ : ∃ y, z[j]? = some y := ⟨_, List.getElem?_eq_getElem (by rw [HXL.out]; omega)⟩
          have cy := hcell j y hy
          have cx := hcell k x HX0.out
          have HJ := Lib.hid hy
          clear hcell hy
          by_cases he : y = x
          · subst he
            have HE := Lib.hid (HS.out.step_in HX0.out (mem_take_of HJ.out hlj))
            go_wp2_with fail
            go_quiet (fail)
            go_wp2_with fail
            exact ⟨⟨k + 1, d, kk, by omega, by go_num, rfl, by omega, rfl, by omega, by omega, HE.out, _, rfl⟩, by simp [intOf]; omega⟩
          · have hb := str_beq_ne he
            have HNT := Lib.hid (notin_take HNJ.out HJ.out he)
            go_wp2_with fail
            go_quiet (fail)
            go_wp2_with fail
            exact ⟨⟨j + 1, _, by omega, rfl, by go_num, HNT.out, rfl⟩, by simp [intOf]; omega⟩
        · obtain rfl : j = k := by omega
          by_cases he : x = t
          · subst he
            have HE := Lib.hid (HS.out.step_eq HX0.out HNJ.out)
            go_wp2_with fail
            exact ⟨⟨j + 1, d + 1, d, by omega, by go_num, by go_num, by omega, rfl, by omega, by omega, HE.out, _, rfl⟩, by simp [intOf]; omega⟩
          · have hb := str_beq_ne he
            have HE := Lib.hid (HS.out.step_ne HX0.out HNJ.out he)
            go_wp2_with fail
            exact ⟨⟨j + 1, d + 1, kk, by omega, by go_num, by go_num, by omega, rfl, by omega, by omega, HE.out, _, rfl⟩, by simp [intOf]; omega⟩
    · obtain rfl : k = len := by omega
      have htk : z.take k = z := List.take_of_length_le (by rw [HXL.out]; exact Nat.le_refl _)
      have h1 := HS.out
      have e1 := h1.d
      have e2 := h1.k
      rw [htk] at e1 e2
      have HE1 := Lib.hid e1
      have HE2 := Lib.hid e2
      clear htk h1 e1 e2
      by_cases hkk : kk < 0
      · go_wp2_with fail
        refine bodyPost_ret (v := .tuple #[.int .i64 d, .bool false, .int .i64 d]) (by simp [results, Try.results19, go_sem]) rfl ⟨.inr ⟨fun hm => ?_, _, by rw [HE1.out]⟩, _, rfl⟩
        have := kOf_in hm
        rw [HE2.out] at this
        omega
      · go_wp2_with fail
        refine bodyPost_ret (v := .tuple #[.int .i64 kk, .bool true, .int .i64 d]) (by simp [results, Try.results19, go_sem]) rfl ⟨.inl ?_, _, rfl⟩
        by_cases hm : t ∈ z
        · have := kOf_in hm
          rw [HE2.out] at this
          exact ⟨hm, by rw [HE1.out, ← this]⟩
        · have := kOf_out hm
          rw [HE2.out] at this
          omega
end Go.Proofs.Ytdlckialndahhaa
