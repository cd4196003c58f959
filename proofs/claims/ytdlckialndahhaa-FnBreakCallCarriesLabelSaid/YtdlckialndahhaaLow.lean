/-
  Contracts of the seat n001_78: the bounds, the sum of the lengths, lookupVariable.
-/
import Derived.Test.YtdlckialndahhaaNew
namespace Go.Proofs.Ytdlckialndahhaa
set_option linter.unusedVariables false
open Go.ChangeShapes Go.WideShapes Go.ChangeAt Go.RowKit M
/-- The bound's answer; true: every string is short. -/
def Bnd (w : World) (zs : List ByteArray) (p : ByteArray) (e : Ending) (w' : World) : Prop :=
  ∃ b : Bool, e = .returned (.bool b) ∧ w = w' ∧ (b = true → (∀ (k : Nat) (x : ByteArray), zs[k]? = some x → x.size ≤ 1048576) ∧ p.size ≤ 1048576)
def ShortTo (zs : List ByteArray) (n : Nat) : Prop := ∀ (k : Nat) (x : ByteArray), k < n → zs[k]? = some x → x.size ≤ 1048576
theorem ShortTo.step {zs : List ByteArray} {n : Nat} {s : ByteArray} (h : ShortTo zs n) (hs : zs[n]? = some s) (h1 : s.size ≤ 1048576) : ShortTo zs (n + 1) := by
  intro k x hk hx
  by_cases he : k = n
  · subst he
    rw [hs] at hx
    injection hx with hx
    subst hx
    exact h1
  · exact h k x (by omega) hx
theorem ShortTo.all {zs : List ByteArray} {n : Nat} (h : ShortTo zs n) (hn : zs.length = n) : ∀ (k : Nat) (x : ByteArray), zs[k]? = some x → x.size ≤ 1048576 := by
  intro k x hx
  have := (List.getElem?_eq_some_iff.1 hx).1
  exact h k x (by omega) hx
set_option maxHeartbeats 2000000 in
theorem zz17 (a : Option Addr) (len cap : Nat) (zs : List ByteArray) (p : ByteArray) (w : World) (h : SliceOf 1 IsStr w a len zs) (hp : p.size ≤ maxLen) :
    Calls Try.prog 17 #[.slice a len cap, .string p] w (Bnd w zs p) := by
  have H := Lib.hid h
  have hl := h.lt.2
  unfold maxLen at hl hp
  clear h
  by_cases hl2 : len ≤ 1048576
  · go_enter Try.func17, Try.ntmps17
    go_wp2
    go_loop [5, 6] (fun t i => ∃ (n : Int) (k : Nat), k ≤ len ∧ 0 ≤ n ∧ n ≤ 1048576 ∧ t = .int .i64 n ∧ i = .int .i64 k ∧ ShortTo zs k) (fun _ i => len - (intOf i).toNat)
    case atStart => exact ⟨_, 0, Nat.zero_le _, by omega, by omega, rfl, rfl, fun k x hk _ => absurd hk (by omega)⟩
    case round =>
      obtain ⟨n, k, hk, hn0, hn1, rfl, rfl, hsh⟩ := hrel
      have HSH := Lib.hid hsh
      clear hsh
      by_cases hlt : k < len
      · obtain ⟨b, o, s, rfl, hbl, hxs, hsz, hcell⟩ := H.out.str hlt
        have HXS := Lib.hid hxs
        clear hxs
        have hs' := hsz
        unfold maxLen at hs'
        by_cases hs : s.size ≤ 1048576
        · by_cases hs2 : n + s.size ≤ 1048576
          · go_wp2
            exact ⟨⟨_, k + 1, by omega, by omega, by omega, rfl, by go_num, HSH.out.step HXS.out hs⟩, by simp [intOf]; omega⟩
          · go_wp2
            go_ret
            exact ⟨_, rfl, rfl, by simp⟩
        · go_wp2
          go_ret
          exact ⟨_, rfl, rfl, by simp⟩
      · obtain rfl : k = len := by omega
        by_cases hp2 : p.size ≤ 1048576
        · by_cases hs2 : n + p.size ≤ 1048576
          · go_wp2
            go_ret
            exact ⟨_, rfl, rfl, fun _ => ⟨HSH.out.all H.out.lt.1, hp2⟩⟩
          · go_wp2
            go_ret
            exact ⟨_, rfl, rfl, by simp⟩
        · go_wp2
          go_ret
          exact ⟨_, rfl, rfl, by simp⟩
  · go_enter Try.func17, Try.ntmps17
    go_wp2
    go_ret
    exact ⟨_, rfl, rfl, by simp⟩
set_option maxHeartbeats 2000000 in
theorem zz5 (a : Option Addr) (len cap : Nat) (zs : List ByteArray) (p : ByteArray) (ld x : Int) (w : World) (h : SliceOf 1 IsStr w a len zs) (hp : p.size ≤ maxLen) :
    Calls Try.prog 5 #[.slice a len cap, .string p, .int .u8 ld, .int .i64 x] w (Bnd w zs p) := by
  have H := Lib.hid h
  have hl := h.lt.2
  unfold maxLen at hl hp
  clear h
  by_cases hl2 : len ≤ 1048576
  · go_enter Try.func5, Try.ntmps5
    go_wp2
    go_loop [9, 10] (fun t i => ∃ (n : Int) (k : Nat), k ≤ len ∧ 0 ≤ n ∧ n ≤ 1048576 ∧ t = .int .i64 n ∧ i = .int .i64 k ∧ ShortTo zs k) (fun _ i => len - (intOf i).toNat)
    case atStart => exact ⟨_, 0, Nat.zero_le _, by omega, by omega, rfl, rfl, fun k x hk _ => absurd hk (by omega)⟩
    case round =>
      obtain ⟨n, k, hk, hn0, hn1, rfl, rfl, hsh⟩ := hrel
      have HSH := Lib.hid hsh
      clear hsh
      by_cases hlt : k < len
      · obtain ⟨b, o, s, rfl, hbl, hxs, hsz, hcell⟩ := H.out.str hlt
        have HXS := Lib.hid hxs
        clear hxs
        have hs' := hsz
        unfold maxLen at hs'
        by_cases hs : s.size ≤ 1048576
        · by_cases hs2 : n + s.size ≤ 1048576
          · go_wp2
            exact ⟨⟨_, k + 1, by omega, by omega, by omega, rfl, by go_num, HSH.out.step HXS.out hs⟩, by simp [intOf]; omega⟩
          · go_wp2
            go_ret
            exact ⟨_, rfl, rfl, by simp⟩
        · go_wp2
          go_ret
          exact ⟨_, rfl, rfl, by simp⟩
      · obtain rfl : k = len := by omega
        by_cases hp2 : p.size ≤ 1048576
        · by_cases hs2 : n + p.size ≤ 1048576
          · go_wp2
            go_ret
            exact ⟨_, rfl, rfl, fun _ => ⟨HSH.out.all H.out.lt.1, hp2⟩⟩
          · go_wp2
            go_ret
            exact ⟨_, rfl, rfl, by simp⟩
        · go_wp2
          go_ret
          exact ⟨_, rfl, rfl, by simp⟩
  · go_enter Try.func5, Try.ntmps5
    go_wp2
    go_ret
    exact ⟨_, rfl, rfl, by simp⟩
def SumOut (w : World) (e : Ending) (w' : World) : Prop := ∃ n : Int, e = .returned (.int .i64 n) ∧ w = w' ∧ 0 ≤ n ∧ n ≤ 1099511627776
set_option maxHeartbeats 1000000 in
theorem bytes6 (a : Option Addr) (len cap : Nat) (zs : List ByteArray) (w : World) (h : SliceOf 1 IsStr w a len zs) (hs : ∀ (k : Nat) (x : ByteArray), zs[k]? = some x → x.size ≤ 1048576) (hl : len ≤ 65536) :
    Calls Try.prog 6 #[.slice a len cap] w (SumOut w) := by
  have H := Lib.hid h
  have HS := Lib.hid hs
  clear h hs
  go_enter Try.func6, Try.ntmps6
  go_wp2
  go_loop [3, 4] (fun t i => ∃ (n k : Nat), k ≤ len ∧ n ≤ k * 2097152 ∧ t = .int .i64 n ∧ i = .int .i64 k) (fun _ i => len - (intOf i).toNat)
  case atStart => exact ⟨0, 0, Nat.zero_le _, by omega, rfl, rfl⟩
  case round =>
    obtain ⟨n, k, hk, hn, rfl, rfl⟩ := hrel
    by_cases hlt : k < len
    · obtain ⟨b, o, s, rfl, hbl, hxs, hsz, hcell⟩ := H.out.str hlt
      have hs := HS.out _ _ hxs
      clear hxs hsz
      go_wp2
      exact ⟨⟨n + (16 + s.size), k + 1, by omega, by omega, by go_num, by go_num⟩, by simp [intOf]; omega⟩
    · obtain rfl : k = len := by omega
      go_wp2
      go_ret
      exact ⟨n, rfl, rfl, by omega, by omega⟩
end Go.Proofs.Ytdlckialndahhaa
