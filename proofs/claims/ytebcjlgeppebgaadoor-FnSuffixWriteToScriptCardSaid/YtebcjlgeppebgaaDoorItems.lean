/-
  Arrays of items (n001_84): the plain law (the printer's text of a chain is the model's), contracts of the helpers over items.
-/
import Derived.Test.YtebcjlgeppebgaaDoorWalkA
namespace Go.Proofs.YtebcjlgeppebgaaDoor
set_option linter.unusedVariables false
open Go.ChangeShapes Go.WideShapes Go.ChangeAt Go.RowKit M
abbrev Item := Bool × ByteArray
def IsItem (cs : List Value) (x : Item) : Prop := cs = [.bool x.1, .string x.2] ∧ x.2.size ≤ maxLen
def isIdx (x : Item) : Bool := x.1 && !x.2.toList.isEmpty
def leaf (x : Item) : Qy := if isIdx x then .idx x.2 else .num x.2
def elemText (x : Item) : List UInt8 := (if isIdx x then [46] else []) ++ x.2.data.toList
def sepText (c : Bool) : List UInt8 := if c then [44, 32] else [32, 124, 32]
def chainQ (c : Bool) (q : Qy) (l : List Item) : Qy := l.foldl (fun q x => .bin c q (leaf x)) q
def arrQ (c : Bool) : List Item → Option Qy
  | [] => none
  | x :: r => some (chainQ c (leaf x) r)
def body (c : Bool) : Bool → List Item → List UInt8
  | _, [] => []
  | f, x :: r => (if f then [] else sepText c) ++ elemText x ++ body c false r
def mt (c : Bool) (l : List Item) : List UInt8 := [91] ++ body c true l
theorem arrQ_snoc (c : Bool) {l : List Item} {q : Qy} (h : arrQ c l = some q) (x : Item) : arrQ c (l ++ [x]) = some (.bin c q (leaf x)) := by
  cases l with
  | nil => cases h
  | cons y r =>
    simp only [arrQ, Option.some.injEq] at h
    subst h
    simp [arrQ, chainQ, List.foldl_append]
theorem body_snoc (c : Bool) : ∀ (f : Bool) (l : List Item) (x : Item), body c f (l ++ [x]) = body c f l ++ (if f && l.isEmpty then [] else sepText c) ++ elemText x
  | f, [], x => by cases f <;> simp [body]
  | f, y :: r, x => by
    have h := body_snoc c false r x
    simp only [List.cons_append, body, h, Bool.false_and, List.isEmpty_cons, Bool.and_false]
    simp
theorem mt_snoc0 (c : Bool) (x : Item) : mt c ([] ++ [x]) = mt c [] ++ elemText x := by
  simp [mt, body]
theorem mt_snoc (c : Bool) {l : List Item} (h : l ≠ []) (x : Item) : mt c (l ++ [x]) = mt c l ++ sepText c ++ elemText x := by
  have h0 : l.isEmpty = false := by cases l <;> simp_all
  unfold mt
  rw [body_snoc, h0]
  simp
theorem sp_ne {acc : List UInt8} {c : UInt8} (hc : (c == 46 || (48 ≤ c && c ≤ 57)) = false) : sp (acc ++ [c]) = false := by
  unfold sp
  rw [List.getLast?_append]
  simpa using hc
theorem prQ_leaf (x : Item) {acc : List UInt8} (h : sp acc = false) : prQ (leaf x) acc = acc ++ elemText x := by
  unfold leaf elemText
  split
  · rename_i hi
    simp only [prQ, prIdx, h]
    simp
  · simp [prQ]
theorem prQ_chain (c : Bool) (acc : List UInt8) (h : sp acc = false) (x : Item) (r : List Item) : prQ (chainQ c (leaf x) r) acc = acc ++ body c true (x :: r) := by
  have key : ∀ (n : Nat) (r : List Item), r.length = n → prQ (chainQ c (leaf x) r) acc = acc ++ body c true (x :: r) := by
    intro n
    induction n with
    | zero =>
      intro r hr
      have : r = [] := List.eq_nil_of_length_eq_zero hr
      subst this
      simp [chainQ, prQ_leaf x h, body]
    | succ n ih =>
      intro r hr
      obtain ⟨y, r', rfl⟩ : ∃ y r', r = r' ++ [y] := by
        refine ⟨r.getLast (by intro e; simp [e] at hr), r.dropLast, ?_⟩
        rw [List.dropLast_concat_getLast]
      have h1 := ih r' (by simp at hr; exact hr)
      have h2 : chainQ c (leaf x) (r' ++ [y]) = .bin c (chainQ c (leaf x) r') (leaf y) := by simp [chainQ, List.foldl_append]
      rw [h2, prQ, h1, prQ_leaf y (sp_ne (by decide)), ← List.cons_append, body_snoc]
      cases c <;> simp [sepText, opText]
  exact key r.length r rfl
theorem prArr_arrQ (c : Bool) (l : List Item) (acc : List UInt8) : prArr (arrQ c l) acc = acc ++ (mt c l ++ [93]) := by
  cases l with
  | nil => simp [arrQ, prArr, mt, body]
  | cons x r =>
    simp only [arrQ, prArr]
    rw [prQ_chain c _ (sp_ne (by decide))]
    simp [mt]
/-- The bytes that the laws count. -/
def itemSum (l : List Item) : Nat := (l.map fun x => 24 + x.2.size).foldr (· + ·) 0
theorem itemSum_append (l m : List Item) : itemSum (l ++ m) = itemSum l + itemSum m := by
  induction l with
  | nil => simp [itemSum]
  | cons x r ih =>
    have h1 : itemSum (x :: r ++ m) = 24 + x.2.size + itemSum (r ++ m) := rfl
    have h2 : itemSum (x :: r) = 24 + x.2.size + itemSum r := rfl
    omega
theorem itemSum_take (l : List Item) (k : Nat) : itemSum (l.take k) ≤ itemSum l := by
  have h := itemSum_append (l.take k) (l.drop k)
  rw [List.take_append_drop] at h
  omega
theorem elemText_le (x : Item) : (elemText x).length ≤ 1 + x.2.size := by
  unfold elemText
  have : x.2.data.toList.length = x.2.size := rfl
  split <;> simp [this] <;> omega
theorem sepText_le (c : Bool) : (sepText c).length ≤ 3 := by cases c <;> simp [sepText]
theorem body_le (c : Bool) : ∀ (f : Bool) (l : List Item), (body c f l).length ≤ itemSum l
  | _, [] => by simp [body]
  | f, x :: r => by
    have h1 := body_le c false r
    have h2 := elemText_le x
    have h3 := sepText_le c
    have h4 : itemSum (x :: r) = 24 + x.2.size + itemSum r := rfl
    simp only [body, List.length_append]
    split
    · simp
      omega
    · omega
theorem mt_le (c : Bool) (l : List Item) : (mt c l).length ≤ itemSum l + 1 := by
  have := body_le c true l
  simp only [mt, List.length_append, List.length_singleton]
  omega
theorem SliceOf.item {w : World} {a : Option Addr} {len : Nat} {xs : List Item} (h : SliceOf 2 IsItem w a len xs) {k : Nat} (hk : k < len) :
    ∃ b o x, a = some ⟨b, o, none⟩ ∧ b < w.heap.size ∧ xs[k]? = some x ∧ x.2.size ≤ maxLen ∧ w.cell? ⟨b, o + k * 2, none⟩ = some (.bool x.1) ∧ w.cell? ⟨b, o + k * 2 + 1, none⟩ = some (.string x.2) := by
  obtain ⟨b, o, x, cs, ha, hb, hx, h1, h2, rfl, hs⟩ := h.get hk
  have e0 := h2 0 _ rfl
  have e1 := h2 1 _ rfl
  exact ⟨b, o, x, ha, hb, hx, hs, e0, e1⟩
theorem take_snoc_item {l : List Item} {k : Nat} {x : Item} (h : l[k]? = some x) : l.take (k + 1) = l.take k ++ [x] := by
  obtain ⟨h1, h2⟩ := List.getElem?_eq_some_iff.1 h
  rw [List.take_succ_eq_append_getElem h1, h2]
def szSum (l : List Item) : Nat := (l.map fun x => x.2.size).foldr (· + ·) 0
theorem szSum_append (l m : List Item) : szSum (l ++ m) = szSum l + szSum m := by
  induction l with
  | nil => simp [szSum]
  | cons x r ih =>
    have h1 : szSum (x :: r ++ m) = x.2.size + szSum (r ++ m) := rfl
    have h2 : szSum (x :: r) = x.2.size + szSum r := rfl
    omega
theorem szSum_take (l : List Item) (k : Nat) : szSum (l.take k) ≤ szSum l := by
  have h := szSum_append (l.take k) (l.drop k)
  rw [List.take_append_drop] at h
  omega
theorem itemSum_eq (l : List Item) : itemSum l = 24 * l.length + szSum l := by
  induction l with
  | nil => rfl
  | cons x r ih =>
    have h1 : itemSum (x :: r) = 24 + x.2.size + itemSum r := rfl
    have h2 : szSum (x :: r) = x.2.size + szSum r := rfl
    rw [h1, h2, ih, List.length_cons]
    omega
theorem szSum_get {l : List Item} {k : Nat} {x : Item} (h : l[k]? = some x) : szSum (l.take (k + 1)) = szSum (l.take k) + x.2.size := by
  rw [take_snoc_item h, szSum_append]
  rfl
theorem szSum_all {l : List Item} {k : Nat} (h : l.length = k) : l.take k = l := List.take_of_length_le (by omega)
def BoolIf (p : Prop) (w : World) (e : Ending) (w' : World) : Prop := ∃ b : Bool, e = .returned (.bool b) ∧ (b = true → p) ∧ w = w'
set_option maxHeartbeats 1000000 in
theorem itemsBytes (a : Option Addr) (len cap : Nat) (zs : List Item) (w : World) (h : SliceOf 2 IsItem w a len zs) (hl : len ≤ 4096) (hb : szSum zs ≤ 1048576) :
    Calls Tryd.prog 17 #[.slice a len cap] w fun e w' => e = .returned (.int .i64 (itemSum zs : Nat)) ∧ w = w' := by
  have H := Lib.hid h
  have HL := Lib.hid h.lt.1
  clear h
  go_enter Tryd.func17, Tryd.ntmps17
  go_wp2_with fail
  go_loop [3, 4] (fun t i => ∃ (n k : Nat), k ≤ len ∧ n ≤ 24 * k + 1048576 ∧ itemSum (zs.take k) = n ∧ t = .int .i64 n ∧ i = .int .i64 k) (fun _ i => len - (intOf i).toNat)
  case atStart => exact ⟨0, 0, Nat.zero_le _, by omega, rfl, rfl, rfl⟩
  case round =>
    obtain ⟨n, k, hk, hn, hs, rfl, rfl⟩ := hrel
    have HS := Lib.hid hs
    clear hs
    by_cases hlt : k < len
    · obtain ⟨b, o, x, rfl, hbl, hxs, hsz, c0, c1⟩ := H.out.item hlt
      have h1 := szSum_get hxs
      have h2 := szSum_take zs (k + 1)
      have HX := Lib.hid (show itemSum (zs.take (k + 1)) = n + (24 + x.2.size) by rw [take_snoc_item hxs, itemSum_append, HS.out]; rfl)
      have hn2 : n + (24 + x.2.size) ≤ 24 * (k + 1) + 1048576 := by
        have h3 := itemSum_eq (zs.take k)
        rw [HS.out, List.length_take] at h3
        omega
      have hx2 : x.2.size ≤ 1048576 := by omega
      clear hxs h1 h2 hsz
      go_wp2_with fail
      refine ⟨⟨n + (24 + x.2.size), k + 1, by omega, hn2, HX.out, by go_num, by go_num⟩, by simp [intOf]; omega⟩
    · obtain rfl : k = len := by omega
      go_wp2_with fail
      go_ret
      have := HS.out
      rw [szSum_all HL.out] at this
      exact ⟨ret_i (by show (n : Int) = _; rw [this]), rfl⟩
set_option maxHeartbeats 2000000 in
theorem zz16 (a : Option Addr) (len cap : Nat) (zs : List Item) (pipe : Bool) (w : World) (h : SliceOf 2 IsItem w a len zs) :
    Calls Tryd.prog 16 #[.slice a len cap, .bool pipe] w (BoolIf (szSum zs ≤ 1048576) w) := by
  have H := Lib.hid h
  have HL := Lib.hid h.lt.1
  have hl := h.lt.2
  unfold maxLen at hl
  clear h
  by_cases hl2 : len ≤ 1048576
  · go_enter Tryd.func16, Tryd.ntmps16
    go_wp2_with fail
    go_loop [5, 6] (fun t i => ∃ (n k : Nat), k ≤ len ∧ len ≤ n ∧ n ≤ 1048576 ∧ n = len + szSum (zs.take k) ∧ t = .int .i64 n ∧ i = .int .i64 k) (fun _ i => len - (intOf i).toNat)
    case atStart => exact ⟨len, 0, Nat.zero_le _, by omega, by omega, rfl, rfl, rfl⟩
    case round =>
      obtain ⟨n, k, hk, hn0, hn1, hs, rfl, rfl⟩ := hrel
      have HS := Lib.hid hs
      clear hs
      by_cases hlt : k < len
      · obtain ⟨b, o, x, rfl, hbl, hxs, hsz, c0, c1⟩ := H.out.item hlt
        have HG := Lib.hid (szSum_get hxs)
        unfold maxLen at hsz
        clear hxs
        by_cases hs : x.2.size ≤ 1048576
        · by_cases hs2 : n + x.2.size ≤ 1048576
          · go_wp2_with fail
            exact ⟨⟨n + x.2.size, k + 1, by omega, by omega, hs2, by rw [HG.out, HS.out]; omega, by go_num, by go_num⟩, by simp [intOf]; omega⟩
          · go_wp2_with fail
            go_ret
            exact ⟨_, rfl, (fun h => by cases h), rfl⟩
        · go_wp2_with fail
          go_ret
          exact ⟨_, rfl, (fun h => by cases h), rfl⟩
      · obtain rfl : k = len := by omega
        go_wp2_with fail
        go_ret
        refine ⟨_, rfl, fun _ => ?_, rfl⟩
        have := HS.out
        rw [szSum_all HL.out] at this
        omega
  · go_enter Tryd.func16, Tryd.ntmps16
    go_wp2_with fail
    go_ret
    exact ⟨_, rfl, (fun h => by cases h), rfl⟩
set_option maxHeartbeats 2000000 in
theorem zz22 (p : ByteArray) (a : Option Addr) (len cap : Nat) (zs : List Item) (pipe : Bool) (w : World) (hp : p.size ≤ maxLen) (h : SliceOf 2 IsItem w a len zs) :
    Calls Tryd.prog 22 #[.string p, .slice a len cap, .bool pipe] w (BoolIf (szSum zs ≤ 1048576) w) := by
  have H := Lib.hid h
  have HL := Lib.hid h.lt.1
  have hl := h.lt.2
  unfold maxLen at hl hp
  clear h
  by_cases hp2 : p.size ≤ 1048576
  · by_cases hl2 : len ≤ 1048576
    · by_cases hl3 : p.size + len ≤ 1048576
      · go_enter Tryd.func22, Tryd.ntmps22
        go_wp2_with fail
        go_loop [7, 8] (fun t i => ∃ (n k : Nat), k ≤ len ∧ p.size + len ≤ n ∧ n ≤ 1048576 ∧ n = p.size + len + szSum (zs.take k) ∧ t = .int .i64 n ∧ i = .int .i64 k) (fun _ i => len - (intOf i).toNat)
        case atStart => exact ⟨p.size + len, 0, Nat.zero_le _, by omega, by omega, rfl, by go_num, rfl⟩
        case round =>
          obtain ⟨n, k, hk, hn0, hn1, hs, rfl, rfl⟩ := hrel
          have HS := Lib.hid hs
          clear hs
          by_cases hlt : k < len
          · obtain ⟨b, o, x, rfl, hbl, hxs, hsz, c0, c1⟩ := H.out.item hlt
            have HG := Lib.hid (szSum_get hxs)
            unfold maxLen at hsz
            clear hxs
            by_cases hs : x.2.size ≤ 1048576
            · by_cases hs2 : n + x.2.size ≤ 1048576
              · go_wp2_with fail
                exact ⟨⟨n + x.2.size, k + 1, by omega, by omega, hs2, by rw [HG.out, HS.out]; omega, by go_num, by go_num⟩, by simp [intOf]; omega⟩
              · go_wp2_with fail
                go_ret
                exact ⟨_, rfl, (fun h => by cases h), rfl⟩
            · go_wp2_with fail
              go_ret
              exact ⟨_, rfl, (fun h => by cases h), rfl⟩
          · obtain rfl : k = len := by omega
            go_wp2_with fail
            go_ret
            refine ⟨_, rfl, fun _ => ?_, rfl⟩
            have := HS.out
            rw [szSum_all HL.out] at this
            omega
      · go_enter Tryd.func22, Tryd.ntmps22
        go_wp2_with fail
        go_ret
        exact ⟨_, rfl, (fun h => by cases h), rfl⟩
    · go_enter Tryd.func22, Tryd.ntmps22
      go_wp2_with fail
      go_ret
      exact ⟨_, rfl, (fun h => by cases h), rfl⟩
  · go_enter Tryd.func22, Tryd.ntmps22
    go_wp2_with fail
    go_ret
    exact ⟨_, rfl, (fun h => by cases h), rfl⟩
theorem info91 : (Tryd.prog.info? 91).map (fun i => (i.zero, i.size, i.bytes)) = some (some (.agg #[.bool false, .string ⟨#[]⟩]), 2, 24) := by kernel_rfl
end Go.Proofs.YtebcjlgeppebgaaDoor
