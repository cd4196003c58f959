/-
  Contracts of the seat n001_90: the bound's function, the entries of a new map, the search for the last capture of a name.
-/
import Derived.Test.YtidojpehjaoplaaCap
namespace Go.Proofs.Ytidojpehjaoplaa
set_option linter.unusedVariables false
set_option linter.unusedSimpArgs false
open Go.ChangeShapes Go.WideShapes Go.ChangeAt Go.RowKit M
set_option maxHeartbeats 2000000 in
theorem zz4 (a0 : Option Addr) (len0 cap0 : Nat) (z0 : List Int) (a1 : Option Addr) (len1 cap1 : Nat) (z1 : List ByteArray) (a2 : Option Addr) (len2 cap2 : Nat) (z2 : List ByteArray) (w : World)
    (h0 : SliceOf 1 (IsInt .u8) w a0 len0 z0) (h1 : SliceOf 1 IsStr w a1 len1 z1) (h2 : SliceOf 1 IsStr w a2 len2 z2) :
    Calls Try.prog 4 #[.slice a0 len0 cap0, .slice a1 len1 cap1, .slice a2 len2 cap2] w (SomeBool w) := by
  have H1 := Lib.hid h1
  have H2 := Lib.hid h2
  have l0 := h0.lt.2
  have l1 := h1.lt.2
  have l2 := h2.lt.2
  unfold maxLen at l0 l1 l2
  clear h0 h1 h2
  by_cases q0 : len0 ≤ 1048576
  · by_cases q1 : len1 ≤ 1048576
    · by_cases q01 : len0 + len1 ≤ 1048576
      · go_enter Try.func4, Try.ntmps4
        go_wp2
        go_loop [7, 8] (fun t i => ∃ (n : Int) (k : Nat), k ≤ len1 ∧ 0 ≤ n ∧ n ≤ 1048576 ∧ t = .int .i64 n ∧ i = .int .i64 k) (fun _ i => len1 - (intOf i).toNat)
        case atStart => exact ⟨_, 0, Nat.zero_le _, by omega, by omega, rfl, rfl⟩
        case round =>
          obtain ⟨n, k, hk, hn0, hn1, rfl, rfl⟩ := hrel
          by_cases hlt : k < len1
          · obtain ⟨b, o, s, rfl, hbl, hxs, hsz, hcell⟩ := H1.out.str hlt
            clear hxs
            have hs' := hsz
            unfold maxLen at hs'
            by_cases hs : s.size ≤ 1048576
            · by_cases hs2 : n + s.size ≤ 1048576
              · go_wp2
                exact ⟨⟨_, k + 1, by omega, by omega, by omega, rfl, by go_num⟩, by simp [intOf]; omega⟩
              · go_wp2
                go_ret
                exact ⟨_, rfl, rfl⟩
            · go_wp2
              go_ret
              exact ⟨_, rfl, rfl⟩
          · obtain rfl : k = len1 := by omega
            by_cases q2 : len2 ≤ 1048576
            · by_cases q02 : n + len2 ≤ 1048576
              · go_wp2
                go_loop [7, 9] (fun t i => ∃ (n : Int) (k : Nat), k ≤ len2 ∧ 0 ≤ n ∧ n ≤ 1048576 ∧ t = .int .i64 n ∧ i = .int .i64 k) (fun _ i => len2 - (intOf i).toNat)
                case atStart => exact ⟨_, 0, Nat.zero_le _, by omega, by omega, rfl, rfl⟩
                case round =>
                  obtain ⟨n, k, hk, hn0, hn1, rfl, rfl⟩ := hrel
                  by_cases hlt : k < len2
                  · obtain ⟨b, o, s, rfl, hbl, hxs, hsz, hcell⟩ := H2.out.str hlt
                    clear hxs
                    have hs' := hsz
                    unfold maxLen at hs'
                    by_cases hs : s.size ≤ 1048576
                    · by_cases hs2 : n + s.size ≤ 1048576
                      · go_wp2
                        exact ⟨⟨_, k + 1, by omega, by omega, by omega, rfl, by go_num⟩, by simp [intOf]; omega⟩
                      · go_wp2
                        go_ret
                        exact ⟨_, rfl, rfl⟩
                    · go_wp2
                      go_ret
                      exact ⟨_, rfl, rfl⟩
                  · obtain rfl : k = len2 := by omega
                    go_wp2
                    go_ret
                    exact ⟨_, rfl, rfl⟩
              · go_wp2
                go_ret
                exact ⟨_, rfl, rfl⟩
            · go_wp2
              go_ret
              exact ⟨_, rfl, rfl⟩
      · go_enter Try.func4, Try.ntmps4
        go_wp2
        go_ret
        exact ⟨_, rfl, rfl⟩
    · go_enter Try.func4, Try.ntmps4
      go_wp2
      go_ret
      exact ⟨_, rfl, rfl⟩
  · go_enter Try.func4, Try.ntmps4
    go_wp2
    go_ret
    exact ⟨_, rfl, rfl⟩
/-- An insertion into a map that has just been made, under a key that it does not hold. -/
theorem run_ins (W : World) (b : Nat) (ents : Array MapEntry) (clock : Nat) (es : ES) (s : ByteArray) (v : Value) (hb : W.heap.size = b) (h : ents.toList.map kv = es.map sv) (hn : mget es s = none) :
    (Instr.mapUpdate 28 (.map (some b)) (.string s) v).run Try.prog (W.alloc (.map ents clock)) = .ok () (W.alloc (.map (ents.push { key := .string s, val := v, born := clock }) (clock + 1))) := by
  subst hb
  have h1 : (W.alloc (.map ents clock)).heap[W.heap.size]? = some (.map ents clock) := (MapKept.heap_alloc W _).1
  rcases find_spec s ents.toList es 0 h with ⟨a1, a2, a3⟩ | ⟨x, j, e, a1, a2, a3, a4, a5⟩
  · have hw : ({ (W.alloc (.map ents clock)) with heap := (W.alloc (.map ents clock)).heap.setIfInBounds W.heap.size (.map (ents.push { key := .string s, val := v, born := clock }) (clock + 1)) } : World) = W.alloc (.map (ents.push { key := .string s, val := v, born := clock }) (clock + 1)) := by
      show ({ W with heap := (W.heap.push (.map ents clock)).setIfInBounds W.heap.size (.map (ents.push { key := .string s, val := v, born := clock }) (clock + 1)) } : World) = { W with heap := W.heap.push (.map (ents.push { key := .string s, val := v, born := clock }) (clock + 1)) }
      have : (W.heap.push (.map ents clock)).setIfInBounds W.heap.size (.map (ents.push { key := .string s, val := v, born := clock }) (clock + 1)) = W.heap.push (.map (ents.push { key := .string s, val := v, born := clock }) (clock + 1)) := by
        apply Array.ext_getElem?
        intro i
        simp only [Array.getElem?_setIfInBounds, Array.getElem?_push, Array.size_push]
        by_cases hi : W.heap.size = i
        · subst hi
          simp
        · rw [if_neg hi, if_neg (fun e => hi e.symm), if_neg (fun e => hi e.symm)]
      rw [this]
    rw [← hw]
    simp [Instr.mapUpdate, run_underlying Try.underlying28, MapKept.run_getObj_map h1, key_str, MapKept.run_findKey Try.underlying9 a2, MapKept.run_setObj_map _ h1, Result.andThen]
  · rw [hn] at a1
    cases a1
theorem name_str : nameK ≠ strK := by decide
theorem str_name : strK ≠ nameK := by decide
abbrev eN (v : Value) (n : Nat) : MapEntry := { key := .string nameK, val := v, born := n }
abbrev eS (v : Value) (n : Nat) : MapEntry := { key := .string strK, val := v, born := n }
theorem run_insN (W : World) (b : Nat) (v : Value) (hb : W.heap.size = b) :
    (Instr.mapUpdate 28 (.map (some b)) (.string { data := #[110, 97, 109, 101] }) v).run Try.prog (W.alloc (.map #[] 0)) = .ok () (W.alloc (.map #[eN v 0] 1)) := run_ins W b #[] 0 [] nameK v hb rfl rfl
theorem run_insS (W : World) (b : Nat) (v : Value) (hb : W.heap.size = b) :
    (Instr.mapUpdate 28 (.map (some b)) (.string { data := #[115, 116, 114, 105, 110, 103] }) v).run Try.prog (W.alloc (.map #[] 0)) = .ok () (W.alloc (.map #[eS v 0] 1)) := run_ins W b #[] 0 [] strK v hb rfl rfl
theorem run_insNS (W : World) (b : Nat) (v v' : Value) (hb : W.heap.size = b) :
    (Instr.mapUpdate 28 (.map (some b)) (.string { data := #[115, 116, 114, 105, 110, 103] }) v').run Try.prog (W.alloc (.map #[eN v 0] 1)) = .ok () (W.alloc (.map #[eN v 0, eS v' 1] 2)) :=
  run_ins W b #[eN v 0] 1 [(nameK, v)] strK v' hb rfl (by rw [mget, if_neg name_str]; rfl)
theorem run_insSN (W : World) (b : Nat) (v v' : Value) (hb : W.heap.size = b) :
    (Instr.mapUpdate 28 (.map (some b)) (.string { data := #[110, 97, 109, 101] }) v').run Try.prog (W.alloc (.map #[eS v 0] 1)) = .ok () (W.alloc (.map #[eS v 0, eN v' 1] 2)) :=
  run_ins W b #[eS v 0] 1 [(strK, v)] nameK v' hb rfl (by rw [mget, if_neg str_name]; rfl)
/-- The same behind a draw. -/
theorem run_insNd (W : World) (b : Nat) (v : Value) (hb : W.heap.size = b) :
    (Instr.mapUpdate 28 (.map (some b)) (.string { data := #[110, 97, 109, 101] }) v).run Try.prog (W.alloc (.map #[] 0)).drew = .ok () (W.alloc (.map #[eN v 0] 1)).drew := run_insN W.drew b v hb
theorem run_insSd (W : World) (b : Nat) (v : Value) (hb : W.heap.size = b) :
    (Instr.mapUpdate 28 (.map (some b)) (.string { data := #[115, 116, 114, 105, 110, 103] }) v).run Try.prog (W.alloc (.map #[] 0)).drew = .ok () (W.alloc (.map #[eS v 0] 1)).drew := run_insS W.drew b v hb
theorem run_insNSd (W : World) (b : Nat) (v v' : Value) (hb : W.heap.size = b) :
    (Instr.mapUpdate 28 (.map (some b)) (.string { data := #[115, 116, 114, 105, 110, 103] }) v').run Try.prog (W.alloc (.map #[eN v 0] 1)).drew = .ok () (W.alloc (.map #[eN v 0, eS v' 1] 2)).drew := run_insNS W.drew b v v' hb
theorem run_insSNd (W : World) (b : Nat) (v v' : Value) (hb : W.heap.size = b) :
    (Instr.mapUpdate 28 (.map (some b)) (.string { data := #[110, 97, 109, 101] }) v').run Try.prog (W.alloc (.map #[eS v 0] 1)).drew = .ok () (W.alloc (.map #[eS v 0, eN v' 1] 2)).drew := run_insSN W.drew b v v' hb
theorem ML.madeS (W : World) (v : Value) : ML (W.alloc (.map #[eS v 0] 1)) W.heap.size (mset [] strK v) := .of ⟨_, _, (MapKept.heap_alloc W _).1, rfl⟩
theorem ML.madeNS (W : World) (v v' : Value) : ML (W.alloc (.map #[eN v 0, eS v' 1] 2)) W.heap.size (mset (mset [] nameK v) strK v') :=
  .of ⟨_, _, (MapKept.heap_alloc W _).1, by simp [mset, name_str, kv, sv]⟩
theorem ML.madeSN (W : World) (v v' : Value) : ML (W.alloc (.map #[eS v' 0, eN v 1] 2)) W.heap.size (mset (mset [] nameK v) strK v') :=
  ⟨[(strK, v'), (nameK, v)], ⟨_, _, (MapKept.heap_alloc W _).1, rfl⟩, fun s => by
    by_cases h1 : strK = s
    · subst h1
      simp [mset, mget, name_str]
    · by_cases h2 : nameK = s
      · subst h2
        simp [mset, mget, name_str, h1]
      · simp [mset, mget, name_str, h1, h2]⟩
theorem itm1 {W : World} {j m : Nat} {kd : Int} {nm st : ByteArray} (h : kd % 5 = 1) (hm : ML W m (mset (mset [] nameK .nilIface) strK (.iface 9 (.string st)))) : Itm W j (kd, nm, st) (.iface 28 (.map (some m))) :=
  .inr ⟨by simp [h], m, rfl, by unfold entOf; simpa only [h, if_pos, str] using hm⟩
theorem itm2 {W : World} {j m : Nat} {kd : Int} {nm st : ByteArray} (h : kd % 5 = 2) (hm : ML W m (mset (mset [] nameK (.iface 9 (.string nm))) strK (.iface 9 (.string st)))) : Itm W j (kd, nm, st) (.iface 28 (.map (some m))) :=
  .inr ⟨by simp [h], m, rfl, by unfold entOf; simp only [h, if_neg (show ¬ (2 : Int) = 1 by decide), if_pos, str]; exact hm⟩
theorem itm3 {W : World} {j m : Nat} {kd : Int} {nm st : ByteArray} (h : kd % 5 = 3) (hm : ML W m (mset (mset [] nameK (.iface 9 (.string nm))) strK .nilIface)) : Itm W j (kd, nm, st) (.iface 28 (.map (some m))) :=
  .inr ⟨by simp [h], m, rfl, by unfold entOf; simp only [h, if_neg (show ¬ (3 : Int) = 1 by decide), if_neg (show ¬ (3 : Int) = 2 by decide), if_pos, str]; exact hm⟩
theorem itm4 {W : World} {j m : Nat} {kd : Int} {nm st : ByteArray} (h0 : ¬ kd % 5 = 0) (h1 : ¬ kd % 5 = 1) (h2 : ¬ kd % 5 = 2) (h3 : ¬ kd % 5 = 3) (hm : ML W m (mset [] strK (.iface 9 (.string st)))) : Itm W j (kd, nm, st) (.iface 28 (.map (some m))) :=
  .inr ⟨h0, m, rfl, by unfold entOf; simp only [if_neg h1, if_neg h2, if_neg h3, str]; exact hm⟩
/-- The map's answer under a name, over the first j captures. -/
def FJ (items : List Item) (nm : ByteArray) (j : Nat) : Option Value := mget (capW (items.take j)) nm
def hits (it : Item) (nm : ByteArray) : Bool := nmd it.1 && decide (it.2.1 = nm)
theorem FJ_zero (items : List Item) (nm : ByteArray) : FJ items nm 0 = none := by simp [FJ, capW, mget]
theorem FJ_hit {items : List Item} {nm : ByteArray} {j : Nat} {it : Item} (h : items[j]? = some it) (hh : hits it nm = true) : FJ items nm (j + 1) = some (valOf it) := by
  unfold hits at hh
  simp only [Bool.and_eq_true, decide_eq_true_eq] at hh
  obtain ⟨h1, rfl⟩ := hh
  unfold FJ
  rw [capW_snoc h, step, if_pos h1, mget_mset_same]
theorem FJ_miss {items : List Item} {nm : ByteArray} {j : Nat} {it : Item} (h : items[j]? = some it) (hh : hits it nm = false) : FJ items nm (j + 1) = FJ items nm j := by
  unfold hits at hh
  unfold FJ
  rw [capW_snoc h, step]
  by_cases h1 : nmd it.1 = true
  · rw [h1] at hh
    simp only [Bool.true_and, decide_eq_false_iff_not] at hh
    rw [if_pos h1, mget_mset_other _ _ hh]
  · rw [if_neg h1]
/-- What the inner search knows behind j rounds: is k the first of its name so far, and which is the last. -/
structure Srch (items : List Item) (k : Nat) (nm : ByteArray) (j : Nat) (f : Bool) (L : Nat) : Prop where
  first : f = !(FJ items nm (min j k)).isSome
  low : j ≤ k → L = k
  high : k < j → k ≤ L ∧ L < j ∧ ∃ it, items[L]? = some it ∧ FJ items nm j = some (valOf it)
theorem Srch.zero (items : List Item) (k : Nat) (nm : ByteArray) : Srch items k nm 0 true k := ⟨by rw [Nat.zero_min, FJ_zero]; rfl, fun _ => rfl, fun h => absurd h (by omega)⟩
theorem Srch.miss {items : List Item} {k j L : Nat} {nm : ByteArray} {f : Bool} {it : Item} (h : Srch items k nm j f L) (hit : items[j]? = some it) (hm : hits it nm = false) (hk : j ≠ k) : Srch items k nm (j + 1) f L := by
  refine ⟨?_, fun h1 => h.low (by omega), fun h1 => ?_⟩
  · rw [h.first]
    rcases Nat.lt_or_ge j k with h1 | h1
    · rw [Nat.min_eq_left (by omega), Nat.min_eq_left (by omega), FJ_miss hit hm]
    · rw [Nat.min_eq_right (by omega), Nat.min_eq_right (by omega)]
  · obtain ⟨h2, h3, it', h4, h5⟩ := h.high (by omega)
    exact ⟨h2, by omega, it', h4, by rw [FJ_miss hit hm]; exact h5⟩
theorem Srch.hitLow {items : List Item} {k j L : Nat} {nm : ByteArray} {f : Bool} {it : Item} (h : Srch items k nm j f L) (hit : items[j]? = some it) (hm : hits it nm = true) (hk : j < k) : Srch items k nm (j + 1) false L :=
  ⟨by rw [Nat.min_eq_left (by omega), FJ_hit hit hm]; rfl, fun _ => h.low (by omega), fun h1 => absurd h1 (by omega)⟩
theorem Srch.hitAt {items : List Item} {k L : Nat} {nm : ByteArray} {f : Bool} {it : Item} (h : Srch items k nm k f L) (hit : items[k]? = some it) (hm : hits it nm = true) : Srch items k nm (k + 1) f L :=
  ⟨by rw [h.first, Nat.min_self, Nat.min_eq_right (by omega)], fun h1 => absurd h1 (by omega), fun _ => ⟨by rw [h.low (Nat.le_refl _)]; omega, by rw [h.low (Nat.le_refl _)]; omega, it, by rw [h.low (Nat.le_refl _)]; exact hit, FJ_hit hit hm⟩⟩
theorem Srch.hitHigh {items : List Item} {k j L : Nat} {nm : ByteArray} {f : Bool} {it : Item} (h : Srch items k nm j f L) (hit : items[j]? = some it) (hm : hits it nm = true) (hk : k < j) : Srch items k nm (j + 1) f j :=
  ⟨by rw [h.first, Nat.min_eq_right (by omega), Nat.min_eq_right (by omega)], fun h1 => absurd h1 (by omega), fun _ => ⟨by omega, by omega, it, hit, FJ_hit hit hm⟩⟩
theorem capW_len_first {items : List Item} {k : Nat} {it : Item} (h : items[k]? = some it) (hn : nmd it.1 = true) (hf : (FJ items it.2.1 k).isSome = false) : (capW (items.take (k + 1))).length = (capW (items.take k)).length + 1 := by
  unfold FJ at hf
  rw [capW_snoc h, step, if_pos hn, mset_length, hf]
  rfl
theorem capW_len_again {items : List Item} {k : Nat} {it : Item} (h : items[k]? = some it) (hn : nmd it.1 = true) (hf : (FJ items it.2.1 k).isSome = true) : (capW (items.take (k + 1))).length = (capW (items.take k)).length := by
  unfold FJ at hf
  rw [capW_snoc h, step, if_pos hn, mset_length, hf]
  rfl
theorem capW_len_no {items : List Item} {k : Nat} {it : Item} (h : items[k]? = some it) (hn : nmd it.1 = false) : (capW (items.take (k + 1))).length = (capW (items.take k)).length := by
  rw [capW_snoc h, step, if_neg (by simp [hn])]
theorem capW_len_le (items : List Item) : ∀ k, (capW (items.take k)).length ≤ k
  | 0 => by simp [capW]
  | k + 1 => by
    rcases Nat.lt_or_ge k items.length with h | h
    · have hk : items[k]? = some items[k] := List.getElem?_eq_getElem h
      have := capW_len_le items k
      rw [capW_snoc hk, step]
      split
      · rw [mset_length]
        split <;> omega
      · omega
    · have := capW_len_le items k
      rw [List.take_of_length_le (by omega)] at this ⊢
      omega
end Go.Proofs.Ytidojpehjaoplaa
