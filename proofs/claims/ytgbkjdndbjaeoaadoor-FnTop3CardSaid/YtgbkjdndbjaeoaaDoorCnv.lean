/-
  string([]rune(s)) is s with each invalid byte replaced (n001_1001).
-/
import Derived.Test.YtgbkjdndbjaeoaaDoorUq
import Derived.Test.YtgbkjdndbjaeoaaDoorRef
import Derived.Laws.IdiomStrings
import Derived.Laws.Cover4
namespace Go.Proofs.YtgbkjdndbjaeoaaDoor
set_option linter.unusedVariables false
open Go.ChangeShapes Go.WideShapes Go.ChangeAt Go.RowKit M
theorem enc_list (n : Nat) (hn : n ≤ 1114111) : (Utf8.encode (n : Int)).data.toList = Lib.encodeRune n := by
  unfold Utf8.encode Lib.encodeRune Lib.encodeRuneZ
  by_cases h1 : n < 128
  · have hv : Utf8.valid (n : Int) = true := by simp [Utf8.valid]; omega
    simp only [hv, if_true, Int.toNat_natCast]
    rw [if_pos h1, if_pos (by omega)]
    simp
  · by_cases h2 : n < 2048
    · have hv : Utf8.valid (n : Int) = true := by simp [Utf8.valid]; omega
      simp only [hv, if_true, Int.toNat_natCast]
      have a1 : (192 + (n : Int) / 64).toNat = 192 + n / 64 := by omega
      have a2 : (128 + (n : Int) % 64).toNat = 128 + n % 64 := by omega
      rw [if_neg h1, if_pos h2, if_neg (by omega), if_pos (by omega)]
      simp only [List.map_cons, List.map_nil, a1, a2]
    · have a1 : (224 + (n : Int) / 4096).toNat = 224 + n / 4096 := by omega
      have a2 : (128 + (n : Int) / 64 % 64).toNat = 128 + n / 64 % 64 := by omega
      have a3 : (128 + (n : Int) % 64).toNat = 128 + n % 64 := by omega
      have a4 : (240 + (n : Int) / 262144).toNat = 240 + n / 262144 := by omega
      have a5 : (128 + (n : Int) / 4096 % 64).toNat = 128 + n / 4096 % 64 := by omega
      by_cases h3 : n < 55296 ∨ (57343 < n ∧ n ≤ 65535)
      · have hv : Utf8.valid (n : Int) = true := by simp [Utf8.valid]; omega
        simp only [hv, if_true, Int.toNat_natCast]
        rw [if_neg h1, if_neg h2, if_pos (by omega), if_neg (by omega), if_neg (by omega), if_pos (by omega)]
        simp only [List.map_cons, List.map_nil, a1, a2, a3]
      · by_cases h4 : 65536 ≤ n
        · have hv : Utf8.valid (n : Int) = true := by simp [Utf8.valid]; omega
          simp only [hv, if_true, Int.toNat_natCast]
          rw [if_neg h1, if_neg h2, if_neg (by omega), if_neg (by omega), if_neg (by omega), if_neg (by omega), if_pos (by omega)]
          simp only [List.map_cons, List.map_nil, a2, a3, a4, a5]
        · have hv : Utf8.valid (n : Int) = false := by simp [Utf8.valid]; omega
          have hr : Lib.encodeRuneZ (n : Int) = [239, 191, 189] := by
            unfold Lib.encodeRuneZ
            rw [if_neg (by omega), if_neg (by omega), if_neg (by omega), if_neg (by omega)]
          change _ = (Lib.encodeRuneZ (n : Int)).map _
          rw [hr]
          simp [hv, Utf8.runeError]
def rsL (s : ByteArray) : Nat → Nat → List Int
  | 0, _ => []
  | f + 1, i => if i < s.size then ((Utf8.decode s i).1 : Int) :: rsL s f (i + (Utf8.decode s i).2) else []
theorem runes_list (s : ByteArray) : ∀ f i (acc : Array Value), (Conv.runesFrom s f i acc).toList = acc.toList ++ (rsL s f i).map (Value.int .i32)
  | 0, i, acc => by simp [Conv.runesFrom, rsL]
  | f + 1, i, acc => by
    unfold Conv.runesFrom rsL
    by_cases h : i < s.size
    · rw [if_pos h, if_pos h]
      rw [runes_list s f]
      simp
    · rw [if_neg h, if_neg h]
      simp
theorem runesBytes_list (ns : List Int) : (runesBytes ns).data.toList = (ns.map fun n => (Utf8.encode n).data.toList).flatten := by
  have key : ∀ (ns : List Int) (b : ByteArray), (ns.foldl (fun r n => r ++ Utf8.encode n) b).data.toList = b.data.toList ++ (ns.map fun n => (Utf8.encode n).data.toList).flatten := by
    intro ns
    induction ns with
    | nil => intro b; simp
    | cons n ns ih =>
      intro b
      rw [List.foldl_cons, ih]
      simp
  unfold runesBytes
  rw [key]
  rfl
theorem dec_width (s : ByteArray) (i : Nat) (hi : i < s.size) : (Utf8.decode s i).2 = (piece s i).2 := by
  have hg := get_bang s i hi
  unfold piece
  by_cases h : (s.get! i).toNat < 128
  · rw [if_pos h, dec_ascii s i hi (by rw [← hg]; exact h)]
  · rw [if_neg h]
    rcases seq_decode s i hi (by omega) with ⟨h0, hd⟩ | ⟨h2, _, _, hw⟩
    · rw [if_pos h0, hd]
    · rw [if_neg (by omega), hw]
theorem fixP_enc (s : ByteArray) (i : Nat) (hi : i < s.size) : fixP s i = Lib.encodeRune ((Utf8.decode s i).1 : Int) := by
  have hg := get_bang s i hi
  have hd := Lib.decodeL_drop s i
  have hl : (s.data.toList.drop i).length = s.size - i := by rw [List.length_drop, Array.length_toList]; rfl
  have hne : s.data.toList.drop i ≠ [] := List.length_pos_iff.1 (by omega)
  unfold fixP
  by_cases h : (s.get! i).toNat < 128
  · rw [if_pos h]
    have ha := dec_ascii s i hi (by rw [← hg]; exact h)
    have he := Lib.encode_decode _ hne (by rw [hd, ha]; intro hx; have := hx.1; have hb := UInt8.toNat_lt s[i]; simp at this; omega)
    rw [hd] at he
    rw [he, ha, hg]
    have h5 : i < s.data.toList.length := by rw [Array.length_toList]; exact hi
    rw [List.drop_eq_getElem_cons h5]
    rfl
  · rw [if_neg h]
    rcases seq_decode s i hi (by omega) with ⟨h0, hdd⟩ | ⟨h2, _, _, hw⟩
    · rw [if_pos h0, hdd]
      rfl
    · rw [if_neg (by omega)]
      have he := Lib.encode_decode _ hne (by rw [hd, hw]; intro hx; omega)
      rw [hd] at he
      rw [he, hw]
      rfl
theorem rsL_fix (s : ByteArray) : ∀ f i, s.size - i ≤ f → i ≤ s.size → ((rsL s f i).map fun n => (Utf8.encode n).data.toList).flatten = fixT s i
  | 0, i, h, hi => by
    obtain rfl : i = s.size := by omega
    rw [fix_end]
    rfl
  | f + 1, i, h, hi => by
    unfold rsL
    by_cases hlt : i < s.size
    · have hp := piece_pos s i
      have hle := piece_le s i hlt
      have hr : (Utf8.decode s i).1 ≤ 1114111 := Lib.rune_le _ _
      rw [if_pos hlt, List.map_cons, List.flatten_cons, enc_list _ hr, dec_width s i hlt, rsL_fix s f _ (by omega) hle, fix_step s i hlt, fixP_enc s i hlt]
    · obtain rfl : i = s.size := by omega
      rw [if_neg hlt, fix_end]
      rfl
theorem rsL_len (s : ByteArray) : ∀ f i, (rsL s f i).length ≤ s.size - i
  | 0, i => by simp [rsL]
  | f + 1, i => by
    unfold rsL
    by_cases h : i < s.size
    · have hw := Lib.width_pos s i
      have := rsL_len s f (i + (Utf8.decode s i).2)
      rw [if_pos h, List.length_cons]
      omega
    · rw [if_neg h]
      simp
/-- '[]rune(s)': a row of runes. -/
theorem conv_runes (s : ByteArray) (w : World) (hs : s.size ≤ 1048576) : ∃ cap w1, (convert 9 70 (.string s)).run Tryd.prog w = .ok (.slice (some ⟨w.heap.size, 0, none⟩) (rsL s s.size 0).length cap) w1 ∧ Below w.heap.size w w1 ∧ (convert 70 9 (.slice (some ⟨w.heap.size, 0, none⟩) (rsL s s.size 0).length cap)).run Tryd.prog w1 = .ok (.string ⟨(fixT s 0).toArray⟩) w1 := by
  have hrl := runes_list s s.size 0 #[]
  rw [show (#[] : Array Value).toList = [] from rfl, List.nil_append] at hrl
  have hsz : (Conv.runesFrom s s.size 0 #[]).size = (rsL s s.size 0).length := by
    rw [← Array.length_toList, hrl, List.length_map]
  have hln := rsL_len s s.size 0
  have h1 := run_runes_of_string (P := Tryd.prog) w 9 70 21 s Tryd.underlying9 Tryd.underlying70 Tryd.underlying21 (by rw [hsz]; omega)
  rw [hsz] at h1
  refine ⟨_, _, h1, (Below.refl w.heap.size w).drew.alloc (Nat.le_refl _) _, ?_⟩
  have h2 := run_convert_runes (P := Tryd.prog) (w.drew.alloc (.cells (Conv.runesFrom s s.size 0 #[] ++ Array.replicate (grownCap w (rsL s s.size 0).length 0 21 - (rsL s s.size 0).length) (.int .i32 0)) 21)) 70 9 21 ⟨w.heap.size, 0, none⟩ (rsL s s.size 0).length (grownCap w (rsL s s.size 0).length 0 21) (rsL s s.size 0) (Nat.le_refl _) Tryd.underlying70 Tryd.underlying21 Tryd.underlying9 (by
    intro j hj
    rw [Go.WideShapes.add_plain]
    have hr := (Row.made w.drew 21 (Conv.runesFrom s s.size 0 #[] ++ Array.replicate (grownCap w (rsL s s.size 0).length 0 21 - (rsL s s.size 0).length) (.int .i32 0))).cell j
    rw [Nat.zero_add]
    refine hr.trans ?_
    rw [← Array.getElem?_toList, Array.toList_append, List.getElem?_append_left (by rw [hrl, List.length_map]; exact hj), hrl, List.getElem?_map, List.getElem?_eq_getElem hj]
    simp [List.getD, List.getElem?_eq_getElem hj])
  rw [h2, List.take_length]
  have h3 : runesBytes (rsL s s.size 0) = ⟨(fixT s 0).toArray⟩ := by
    have h4 : (runesBytes (rsL s s.size 0)).data.toList = fixT s 0 := by rw [runesBytes_list, rsL_fix s s.size 0 (by omega) (by omega)]
    cases hh : runesBytes (rsL s s.size 0) with
    | mk d =>
      rw [hh] at h4
      rw [← h4]
  rw [h3]
end Go.Proofs.YtgbkjdndbjaeoaaDoor
