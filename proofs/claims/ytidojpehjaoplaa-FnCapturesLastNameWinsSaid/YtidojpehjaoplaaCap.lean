/-
  Contract of the seat n001_90: funcCaptures over the law's list of captures.
-/
import Derived.Test.YtidojpehjaoplaaCln
namespace Go.Proofs.Ytidojpehjaoplaa
set_option linter.unusedVariables false
set_option linter.unusedSimpArgs false
open Go.ChangeShapes Go.WideShapes Go.ChangeAt Go.RowKit M
abbrev Item := Int × ByteArray × ByteArray
def nameK : ByteArray := { data := #[110, 97, 109, 101] }
def strK : ByteArray := { data := #[115, 116, 114, 105, 110, 103] }
def nmd (k : Int) : Bool := k % 5 == 2 || k % 5 == 3
def str (s : ByteArray) : Value := .iface 9 (.string s)
/-- The map of a capture. -/
def entOf (it : Item) : ES :=
  if it.1 % 5 = 1 then mset (mset [] nameK .nilIface) strK (str it.2.2)
  else if it.1 % 5 = 2 then mset (mset [] nameK (str it.2.1)) strK (str it.2.2)
  else if it.1 % 5 = 3 then mset (mset [] nameK (str it.2.1)) strK .nilIface
  else mset [] strK (str it.2.2)
def valOf (it : Item) : Value := if it.1 % 5 = 2 then str it.2.2 else .nilIface
def step (acc : ES) (it : Item) : ES := if nmd it.1 then mset acc it.2.1 (valOf it) else acc
def capW (l : List Item) : ES := l.foldl step []
theorem capW_snoc {l : List Item} {k : Nat} {it : Item} (h : l[k]? = some it) : capW (l.take (k + 1)) = step (capW (l.take k)) it := by
  obtain ⟨h1, h2⟩ := List.getElem?_eq_some_iff.1 h
  rw [List.take_succ_eq_append_getElem h1, h2]
  simp [capW, List.foldl_append]
/-- A map that answers every name as the entries es do (their order is left open). -/
def ML (w : World) (m : Nat) (es : ES) : Prop := ∃ es', MMap w m es' ∧ ∀ s, mget es' s = mget es s
theorem ML.of {w : World} {m : Nat} {es : ES} (h : MMap w m es) : ML w m es := ⟨es, h, fun _ => rfl⟩
theorem ML.keepF {w w' : World} {m : Nat} {es : ES} (h : ML w m es) (hk : ∀ m es, MMap w m es → MMap w' m es) : ML w' m es := by
  obtain ⟨es', h1, h2⟩ := h
  exact ⟨es', hk _ _ h1, h2⟩
theorem run_lookL {w : World} {b : Nat} {es : ES} (h : ML w b es) (s : ByteArray) :
    (Instr.lookup 28 (.map (some b)) (.string s) false).run Try.prog w = .ok ((mget es s).getD .nilIface) w ∧
    (Instr.lookup 28 (.map (some b)) (.string s) true).run Try.prog w = .ok (.tuple #[(mget es s).getD .nilIface, .bool (mget es s).isSome]) w := by
  obtain ⟨es', h1, h2⟩ := h
  rw [← h2 s]
  exact run_look h1 s
def Itm (w : World) (j : Nat) (it : Item) (v : Value) : Prop := (it.1 % 5 = 0 ∧ v = .iface 3 (.int .i64 j)) ∨ (it.1 % 5 ≠ 0 ∧ ∃ m, v = .iface 28 (.map (some m)) ∧ ML w m (entOf it))
theorem Itm.keep {w w' : World} {j : Nat} {it : Item} {v : Value} (h : Itm w j it v) (hk : ∀ m es, MMap w m es → MMap w' m es) : Itm w' j it v := by
  rcases h with h | ⟨h, m, hv, hm⟩
  · exact .inl h
  · exact .inr ⟨h, m, hv, hm.keepF hk⟩
/-- The first k captures lie in the row at b. -/
def XS (w : World) (b n : Nat) (items : List Item) (k : Nat) : Prop := ∃ cs : Array Value, Row w b 20 cs ∧ cs.size = n ∧ ∀ j it, j < k → items[j]? = some it → ∃ v, cs[j]? = some v ∧ Itm w j it v
theorem XS.keep {w w' : World} {b n k : Nat} {items : List Item} (h : XS w b n items k) (hb : Below w.heap.size w w') : XS w' b n items k := by
  obtain ⟨cs, hr, hs, hi⟩ := h
  refine ⟨cs, hr.keep hb hr.lt, hs, fun j it hj hit => ?_⟩
  obtain ⟨v, hv, hm⟩ := hi j it hj hit
  exact ⟨v, hv, hm.keep fun m es h => h.keep hb⟩
theorem XS.get {w : World} {b n k j : Nat} {items : List Item} {it : Item} (h : XS w b n items k) (hj : j < k) (hit : items[j]? = some it) : ∃ v, w.cell? ⟨b, j, none⟩ = some v ∧ Itm w j it v ∧ b < w.heap.size := by
  obtain ⟨cs, hr, hs, hi⟩ := h
  obtain ⟨v, hv, hm⟩ := hi j it hj hit
  exact ⟨v, (hr.cell j).trans hv, hm, hr.lt⟩
@[go_sem] theorem as28_28 (v : Value) (w : World) : (Instr.typeAssert (.iface 28 v) 20 28 true).run Try.prog w = .ok (.tuple #[v, .bool true]) w := by kernel_rfl
@[go_sem] theorem as3_28 (v : Value) (w : World) : (Instr.typeAssert (.iface 3 v) 20 28 true).run Try.prog w = .ok (.tuple #[.map none, .bool false]) w := by kernel_rfl
@[go_sem] theorem as9_9 (v : Value) (w : World) : (Instr.typeAssert (.iface 9 v) 20 9 true).run Try.prog w = .ok (.tuple #[v, .bool true]) w := by kernel_rfl
@[go_sem] theorem as27_27 (v : Value) (w : World) : (Instr.typeAssert (.iface 27 v) 20 27 true).run Try.prog w = .ok (.tuple #[v, .bool true]) w := by kernel_rfl
@[go_sem] theorem asN_9 (w : World) : (Instr.typeAssert .nilIface 20 9 true).run Try.prog w = .ok (.tuple #[.string ByteArray.empty, .bool false]) w := by kernel_rfl
theorem get_name (it : Item) : mget (entOf it) nameK = if it.1 % 5 = 1 then some .nilIface else if nmd it.1 then some (str it.2.1) else none := by
  have hne : strK ≠ nameK := by decide
  unfold entOf nmd
  by_cases h1 : it.1 % 5 = 1
  · rw [if_pos h1, if_pos h1, mget_mset_other _ _ hne, mget_mset_same]
  · by_cases h2 : it.1 % 5 = 2
    · simp only [h2, if_neg (show ¬ (2 : Int) = 1 by decide), if_pos]
      rw [mget_mset_other _ _ hne, mget_mset_same]
      rfl
    · by_cases h3 : it.1 % 5 = 3
      · simp only [h3, if_neg (show ¬ (3 : Int) = 1 by decide), if_neg (show ¬ (3 : Int) = 2 by decide), if_pos]
        rw [mget_mset_other _ _ hne, mget_mset_same]
        rfl
      · rw [if_neg h1, if_neg h2, if_neg h3, if_neg h1, mget_mset_other _ _ hne]
        simp [h2, h3, mget]
theorem get_str (it : Item) (h : nmd it.1 = true) : mget (entOf it) strK = some (valOf it) := by
  unfold nmd at h
  unfold entOf valOf
  by_cases h2 : it.1 % 5 = 2
  · simp only [h2, if_neg (show ¬ (2 : Int) = 1 by decide), if_pos]
    rw [mget_mset_same]
  · have h3 : it.1 % 5 = 3 := by simpa [h2] using h
    simp only [h3, if_neg (show ¬ (3 : Int) = 1 by decide), if_neg (show ¬ (3 : Int) = 2 by decide), if_pos]
    rw [mget_mset_same]
theorem named (kd : Int) (w : World) (h0 : 0 ≤ kd) (h1 : kd < 256) : Calls Try.prog 8 #[.int .u8 kd] w fun e w' => e = .returned (.bool (nmd kd)) ∧ w = w' := by
  go_enter Try.func8, Try.ntmps8
  by_cases h2 : kd % 5 = 2
  · have hb : nmd kd = true := by simp [nmd, h2]
    rw [hb]
    clear hb
    go_wp2
    go_ret
    exact ⟨rfl, rfl⟩
  · have hb : nmd kd = (kd % 5 == 3) := by simp [nmd, h2]
    rw [hb]
    clear hb
    go_wp2
    go_ret
    exact ⟨by simp [h2], rfl⟩
theorem run_mk (n : Nat) (W : World) : (Instr.makeMap 28 (some (.int .i64 n))).run Try.prog W = .ok (.map (some W.heap.size)) (W.alloc (.map #[] 0)) := by
  simp [Instr.makeMap, run_underlying Try.underlying28, Result.andThen, asInt, asIntOf]
set_option maxHeartbeats 2000000 in
theorem captures (w : World) (b n : Nat) (cap : Nat) (items : List Item) (h : XS w b n items n) (hn : items.length = n) (hle : n ≤ 65536) :
    Calls Try.prog 9 #[.iface 27 (.slice (some ⟨b, 0, none⟩) n cap)] w fun e w' => (∃ m, e = .returned (.iface 28 (.map (some m))) ∧ MMap w' m (capW items)) ∧ Below w.heap.size w w' := by
  have H := Lib.hid h
  have HN := Lib.hid hn
  clear h hn
  have hmk := run_mk n
  go_enter Try.func9, Try.ntmps9
  go_wp2_with fail
  go_loopw [28] (fun i wr => ∃ k : Nat, k ≤ n ∧ i = .int .i64 k ∧ MMap wr w.heap.size (capW (items.take k)) ∧ Below w.heap.size w wr) (fun i _ => n - (intOf i).toNat)
  case atStart => exact ⟨0, Nat.zero_le _, rfl, MMap.made w, (Below.refl _ _).alloc (Nat.le_refl _) _⟩
  case round =>
    obtain ⟨k, hk, rfl, hm, hb⟩ := hrel
    have HM := Lib.hid hm
    have HB := Lib.hid hb
    have hs := hb.size
    have hl := hm.lt
    clear hm hb
    by_cases hlt : k < n
    · obtain ⟨it, hit⟩ : ∃ it, items[k]? = some it := ⟨_, List.getElem?_eq_getElem (by rw [HN.out]; exact hlt)⟩
      obtain ⟨v, cv, hv, lb⟩ := (H.out.keep HB.out).get hlt hit
      have HCS := Lib.hid (capW_snoc hit)
      clear hit
      rcases hv with ⟨h0, rfl⟩ | ⟨h0, m, rfl, hm⟩
      · have HNO := Lib.hid (show nmd it.1 = false by simp [nmd, h0])
        clear h0
        go_wp2_with fail
        exact ⟨⟨k + 1, by omega, by go_num, by rw [HCS.out]; unfold step; rw [HNO.out]; exact HM.out, HB.out⟩, by simp [intOf]; omega⟩
      · obtain ⟨l1, _⟩ := run_lookL hm nameK
        rw [get_name] at l1
        by_cases h1 : it.1 % 5 = 1
        · have HNO := Lib.hid (show nmd it.1 = false by simp [nmd, h1])
          rw [if_pos h1] at l1
          simp only [Option.getD_some, nameK] at l1
          clear h0 h1 hm
          go_wp2_with fail
          exact ⟨⟨k + 1, by omega, by go_num, by rw [HCS.out]; unfold step; rw [HNO.out]; exact HM.out, HB.out⟩, by simp [intOf]; omega⟩
        · rw [if_neg h1] at l1
          by_cases h2 : nmd it.1 = true
          · rw [if_pos h2] at l1
            simp only [Option.getD_some, nameK, str] at l1
            obtain ⟨l2, _⟩ := run_lookL hm strK
            rw [get_str it h2] at l2
            simp only [Option.getD_some, strK] at l2
            have HYES := Lib.hid h2
            clear h0 h1 h2 hm
            go_wp2_with (refine wpList_upd _ rfl _ _ _ rfl w.heap.size (capW (items.take k)) it.2.1 (valOf it) rfl rfl rfl HM.out ?_; intro w5 hm5 ht5; have HM5 := Lib.hid hm5; have HT5 := Lib.hid ht5; clear hm5 ht5)
            exact ⟨⟨k + 1, by omega, by go_num, by rw [HCS.out]; unfold step; rw [HYES.out]; exact HM5.out, HB.out.trans (HT5.out.below hs (fun k hk e => by omega))⟩, by simp [intOf]; omega⟩
          · rw [if_neg h2] at l1
            simp only [Option.getD_none, nameK] at l1
            have HNO := Lib.hid (show nmd it.1 = false by simpa using h2)
            clear h0 h1 h2 hm
            go_wp2_with fail
            exact ⟨⟨k + 1, by omega, by go_num, by rw [HCS.out]; unfold step; rw [HNO.out]; exact HM.out, HB.out⟩, by simp [intOf]; omega⟩
    · obtain rfl : k = n := by omega
      have HTK := Lib.hid (show items.take k = items from List.take_of_length_le (by rw [HN.out]; exact Nat.le_refl _))
      go_wp2_with fail
      go_ret
      exact ⟨⟨_, rfl, by have := HM.out; rwa [HTK.out] at this⟩, HB.out⟩
theorem zcaptures (w : World) (b n : Nat) (cap : Nat) (items : List Item) (h : XS w b n items n) (hn : items.length = n) (hle : n ≤ 65536) :
    Calls Try.prog 7 #[.iface 27 (.slice (some ⟨b, 0, none⟩) n cap)] w fun e w' => (∃ m, e = .returned (.iface 28 (.map (some m))) ∧ MMap w' m (capW items)) ∧ Below w.heap.size w w' := by
  have H := Lib.hid h
  clear h
  go_enter Try.func7, Try.ntmps7
  go_wp2_with fail
  refine (captures _ b n cap items H.out hn hle).mono ?_
  rintro e w' ⟨⟨m, rfl, hm⟩, hb⟩
  have HM := Lib.hid hm
  have HB := Lib.hid hb
  clear hm hb
  go_wp2_with fail
  go_ret
  exact ⟨⟨m, rfl, HM.out⟩, HB.out⟩
end Go.Proofs.Ytidojpehjaoplaa
