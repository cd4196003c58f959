/-
  The contract of zzSeqLen (n001_83).
-/
import Derived.Test.YtfbpffgcofdciaaDoorBase
namespace Go.Proofs.YtfbpffgcofdciaaDoor
set_option linter.unusedVariables false
open Go.ChangeShapes Go.WideShapes Go.ChangeAt Go.RowKit M
theorem contI (s : ByteArray) (I LO HI : Int) (i lo hi : Nat) (h1 : I = i) (h2 : LO = lo) (h3 : HI = hi) (hi1 : i ≤ 1099511627776) (w : World) : Calls Tryd.prog 18 #[.string s, .int .i64 I, .int .u8 LO, .int .u8 HI] w fun e w' => e = .returned (.bool (contB s i lo hi)) ∧ w' = w := by
  subst h1 h2 h3
  exact contC s i lo hi hi1 w
def seqS (s : ByteArray) (i : Nat) : Nat :=
  if 194 ≤ (s.get! i).toNat ∧ (s.get! i).toNat ≤ 223 then (if contB s (i + 1) 128 191 then 2 else 0)
  else if 224 ≤ (s.get! i).toNat ∧ (s.get! i).toNat ≤ 239 then (if contB s (i + 1) (if (s.get! i).toNat = 224 then 160 else 128) (if (s.get! i).toNat = 237 then 159 else 191) && contB s (i + 2) 128 191 then 3 else 0)
  else if 240 ≤ (s.get! i).toNat ∧ (s.get! i).toNat ≤ 244 then (if contB s (i + 1) (if (s.get! i).toNat = 240 then 144 else 128) (if (s.get! i).toNat = 244 then 143 else 191) && contB s (i + 2) 128 191 && contB s (i + 3) 128 191 then 4 else 0)
  else 0
def SeqIs (s : ByteArray) (i n : Nat) : Prop := ∀ w, Calls Tryd.prog 15 #[.string s, .int .i64 i] w fun e w' => e = .returned (.int .i64 n) ∧ w' = w
theorem seq_z1 (s : ByteArray) (i : Nat) (hi : i < s.size) (hm : s.size ≤ 1073741824) (q0 : s[i].toNat < 194) (n : Nat) (hn : n = 0) : SeqIs s i n := by
  have HN := Lib.hid hn
  clear hn
  intro w
  go_enter Tryd.func15, Tryd.ntmps15
  go_wp2_with fail
  go_ret
  exact ⟨by rw [HN.out]; rfl, rfl⟩
theorem seq_two (s : ByteArray) (i : Nat) (hi : i < s.size) (hm : s.size ≤ 1073741824) (q0 : 194 ≤ s[i].toNat) (q1 : s[i].toNat ≤ 223) (n : Nat) (hn : n = (if contB s (i + 1) 128 191 then 2 else 0)) : SeqIs s i n := by
  have HN := Lib.hid hn
  clear hn
  intro w
  go_enter Tryd.func15, Tryd.ntmps15
  go_wp2_with fail
  refine (contI s _ _ _ (i + 1) 128 191 (by omega) rfl rfl (by omega) _).mono ?_
  rintro e w' ⟨rfl, rfl⟩
  obtain ⟨r0, hr0⟩ : ∃ r, r = contB s (i + 1) 128 191 := ⟨_, rfl⟩
  rw [← hr0]
  have X0 := Lib.hid hr0
  clear hr0
  cases r0
  · go_wp2_with fail
    go_ret
    exact ⟨by rw [HN.out, ← X0.out]; rfl, rfl⟩
  ·
    go_wp2_with fail
    go_ret
    exact ⟨by rw [HN.out, ← X0.out]; rfl, rfl⟩
theorem seq_t224 (s : ByteArray) (i : Nat) (hi : i < s.size) (hm : s.size ≤ 1073741824) (q0 : s[i].toNat = 224) (n : Nat) (hn : n = (if contB s (i + 1) 160 191 && contB s (i + 2) 128 191 then 3 else 0)) : SeqIs s i n := by
  have HN := Lib.hid hn
  clear hn
  intro w
  go_enter Tryd.func15, Tryd.ntmps15
  go_wp2_with fail
  refine (contI s _ _ _ (i + 1) 160 191 (by omega) rfl rfl (by omega) _).mono ?_
  rintro e w' ⟨rfl, rfl⟩
  obtain ⟨r0, hr0⟩ : ∃ r, r = contB s (i + 1) 160 191 := ⟨_, rfl⟩
  rw [← hr0]
  have X0 := Lib.hid hr0
  clear hr0
  cases r0
  · go_wp2_with fail
    go_ret
    exact ⟨by rw [HN.out, ← X0.out]; rfl, rfl⟩
  ·
    go_wp2_with fail
    refine (contI s _ _ _ (i + 2) 128 191 (by omega) rfl rfl (by omega) _).mono ?_
    rintro e w' ⟨rfl, rfl⟩
    obtain ⟨r1, hr1⟩ : ∃ r, r = contB s (i + 2) 128 191 := ⟨_, rfl⟩
    rw [← hr1]
    have X1 := Lib.hid hr1
    clear hr1
    cases r1
    · go_wp2_with fail
      go_ret
      exact ⟨by rw [HN.out, ← X0.out, ← X1.out]; rfl, rfl⟩
    ·
      go_wp2_with fail
      go_ret
      exact ⟨by rw [HN.out, ← X0.out, ← X1.out]; rfl, rfl⟩
theorem seq_t3a (s : ByteArray) (i : Nat) (hi : i < s.size) (hm : s.size ≤ 1073741824) (q0 : 225 ≤ s[i].toNat) (q1 : s[i].toNat ≤ 236) (n : Nat) (hn : n = (if contB s (i + 1) 128 191 && contB s (i + 2) 128 191 then 3 else 0)) : SeqIs s i n := by
  have HN := Lib.hid hn
  clear hn
  intro w
  have p223 : decide ((s[i].toNat : Int) ≤ 223) = false := decide_eq_false (by omega)
  go_enter Tryd.func15, Tryd.ntmps15
  go_wp2_with fail
  refine (contI s _ _ _ (i + 1) 128 191 (by omega) rfl rfl (by omega) _).mono ?_
  rintro e w' ⟨rfl, rfl⟩
  obtain ⟨r0, hr0⟩ : ∃ r, r = contB s (i + 1) 128 191 := ⟨_, rfl⟩
  rw [← hr0]
  have X0 := Lib.hid hr0
  clear hr0
  cases r0
  · go_wp2_with fail
    go_ret
    exact ⟨by rw [HN.out, ← X0.out]; rfl, rfl⟩
  ·
    go_wp2_with fail
    refine (contI s _ _ _ (i + 2) 128 191 (by omega) rfl rfl (by omega) _).mono ?_
    rintro e w' ⟨rfl, rfl⟩
    obtain ⟨r1, hr1⟩ : ∃ r, r = contB s (i + 2) 128 191 := ⟨_, rfl⟩
    rw [← hr1]
    have X1 := Lib.hid hr1
    clear hr1
    cases r1
    · go_wp2_with fail
      go_ret
      exact ⟨by rw [HN.out, ← X0.out, ← X1.out]; rfl, rfl⟩
    ·
      go_wp2_with fail
      go_ret
      exact ⟨by rw [HN.out, ← X0.out, ← X1.out]; rfl, rfl⟩
theorem seq_t237 (s : ByteArray) (i : Nat) (hi : i < s.size) (hm : s.size ≤ 1073741824) (q0 : s[i].toNat = 237) (n : Nat) (hn : n = (if contB s (i + 1) 128 159 && contB s (i + 2) 128 191 then 3 else 0)) : SeqIs s i n := by
  have HN := Lib.hid hn
  clear hn
  intro w
  go_enter Tryd.func15, Tryd.ntmps15
  go_wp2_with fail
  refine (contI s _ _ _ (i + 1) 128 159 (by omega) rfl rfl (by omega) _).mono ?_
  rintro e w' ⟨rfl, rfl⟩
  obtain ⟨r0, hr0⟩ : ∃ r, r = contB s (i + 1) 128 159 := ⟨_, rfl⟩
  rw [← hr0]
  have X0 := Lib.hid hr0
  clear hr0
  cases r0
  · go_wp2_with fail
    go_ret
    exact ⟨by rw [HN.out, ← X0.out]; rfl, rfl⟩
  ·
    go_wp2_with fail
    refine (contI s _ _ _ (i + 2) 128 191 (by omega) rfl rfl (by omega) _).mono ?_
    rintro e w' ⟨rfl, rfl⟩
    obtain ⟨r1, hr1⟩ : ∃ r, r = contB s (i + 2) 128 191 := ⟨_, rfl⟩
    rw [← hr1]
    have X1 := Lib.hid hr1
    clear hr1
    cases r1
    · go_wp2_with fail
      go_ret
      exact ⟨by rw [HN.out, ← X0.out, ← X1.out]; rfl, rfl⟩
    ·
      go_wp2_with fail
      go_ret
      exact ⟨by rw [HN.out, ← X0.out, ← X1.out]; rfl, rfl⟩
theorem seq_t3b (s : ByteArray) (i : Nat) (hi : i < s.size) (hm : s.size ≤ 1073741824) (q0 : 238 ≤ s[i].toNat) (q1 : s[i].toNat ≤ 239) (n : Nat) (hn : n = (if contB s (i + 1) 128 191 && contB s (i + 2) 128 191 then 3 else 0)) : SeqIs s i n := by
  have HN := Lib.hid hn
  clear hn
  intro w
  have p223 : decide ((s[i].toNat : Int) ≤ 223) = false := decide_eq_false (by omega)
  go_enter Tryd.func15, Tryd.ntmps15
  go_wp2_with fail
  refine (contI s _ _ _ (i + 1) 128 191 (by omega) rfl rfl (by omega) _).mono ?_
  rintro e w' ⟨rfl, rfl⟩
  obtain ⟨r0, hr0⟩ : ∃ r, r = contB s (i + 1) 128 191 := ⟨_, rfl⟩
  rw [← hr0]
  have X0 := Lib.hid hr0
  clear hr0
  cases r0
  · go_wp2_with fail
    go_ret
    exact ⟨by rw [HN.out, ← X0.out]; rfl, rfl⟩
  ·
    go_wp2_with fail
    refine (contI s _ _ _ (i + 2) 128 191 (by omega) rfl rfl (by omega) _).mono ?_
    rintro e w' ⟨rfl, rfl⟩
    obtain ⟨r1, hr1⟩ : ∃ r, r = contB s (i + 2) 128 191 := ⟨_, rfl⟩
    rw [← hr1]
    have X1 := Lib.hid hr1
    clear hr1
    cases r1
    · go_wp2_with fail
      go_ret
      exact ⟨by rw [HN.out, ← X0.out, ← X1.out]; rfl, rfl⟩
    ·
      go_wp2_with fail
      go_ret
      exact ⟨by rw [HN.out, ← X0.out, ← X1.out]; rfl, rfl⟩
theorem seq_f240 (s : ByteArray) (i : Nat) (hi : i < s.size) (hm : s.size ≤ 1073741824) (q0 : s[i].toNat = 240) (n : Nat) (hn : n = (if contB s (i + 1) 144 191 && contB s (i + 2) 128 191 && contB s (i + 3) 128 191 then 4 else 0)) : SeqIs s i n := by
  have HN := Lib.hid hn
  clear hn
  intro w
  go_enter Tryd.func15, Tryd.ntmps15
  go_wp2_with fail
  refine (contI s _ _ _ (i + 1) 144 191 (by omega) rfl rfl (by omega) _).mono ?_
  rintro e w' ⟨rfl, rfl⟩
  obtain ⟨r0, hr0⟩ : ∃ r, r = contB s (i + 1) 144 191 := ⟨_, rfl⟩
  rw [← hr0]
  have X0 := Lib.hid hr0
  clear hr0
  cases r0
  · go_wp2_with fail
    go_ret
    exact ⟨by rw [HN.out, ← X0.out]; rfl, rfl⟩
  ·
    go_wp2_with fail
    refine (contI s _ _ _ (i + 2) 128 191 (by omega) rfl rfl (by omega) _).mono ?_
    rintro e w' ⟨rfl, rfl⟩
    obtain ⟨r1, hr1⟩ : ∃ r, r = contB s (i + 2) 128 191 := ⟨_, rfl⟩
    rw [← hr1]
    have X1 := Lib.hid hr1
    clear hr1
    cases r1
    · go_wp2_with fail
      go_ret
      exact ⟨by rw [HN.out, ← X0.out, ← X1.out]; rfl, rfl⟩
    ·
      go_wp2_with fail
      refine (contI s _ _ _ (i + 3) 128 191 (by omega) rfl rfl (by omega) _).mono ?_
      rintro e w' ⟨rfl, rfl⟩
      obtain ⟨r2, hr2⟩ : ∃ r, r = contB s (i + 3) 128 191 := ⟨_, rfl⟩
      rw [← hr2]
      have X2 := Lib.hid hr2
      clear hr2
      cases r2
      · go_wp2_with fail
        go_ret
        exact ⟨by rw [HN.out, ← X0.out, ← X1.out, ← X2.out]; rfl, rfl⟩
      ·
        go_wp2_with fail
        go_ret
        exact ⟨by rw [HN.out, ← X0.out, ← X1.out, ← X2.out]; rfl, rfl⟩
theorem seq_f4a (s : ByteArray) (i : Nat) (hi : i < s.size) (hm : s.size ≤ 1073741824) (q0 : 241 ≤ s[i].toNat) (q1 : s[i].toNat ≤ 243) (n : Nat) (hn : n = (if contB s (i + 1) 128 191 && contB s (i + 2) 128 191 && contB s (i + 3) 128 191 then 4 else 0)) : SeqIs s i n := by
  have HN := Lib.hid hn
  clear hn
  intro w
  have p223 : decide ((s[i].toNat : Int) ≤ 223) = false := decide_eq_false (by omega)
  have p239 : decide ((s[i].toNat : Int) ≤ 239) = false := decide_eq_false (by omega)
  go_enter Tryd.func15, Tryd.ntmps15
  go_wp2_with fail
  refine (contI s _ _ _ (i + 1) 128 191 (by omega) rfl rfl (by omega) _).mono ?_
  rintro e w' ⟨rfl, rfl⟩
  obtain ⟨r0, hr0⟩ : ∃ r, r = contB s (i + 1) 128 191 := ⟨_, rfl⟩
  rw [← hr0]
  have X0 := Lib.hid hr0
  clear hr0
  cases r0
  · go_wp2_with fail
    go_ret
    exact ⟨by rw [HN.out, ← X0.out]; rfl, rfl⟩
  ·
    go_wp2_with fail
    refine (contI s _ _ _ (i + 2) 128 191 (by omega) rfl rfl (by omega) _).mono ?_
    rintro e w' ⟨rfl, rfl⟩
    obtain ⟨r1, hr1⟩ : ∃ r, r = contB s (i + 2) 128 191 := ⟨_, rfl⟩
    rw [← hr1]
    have X1 := Lib.hid hr1
    clear hr1
    cases r1
    · go_wp2_with fail
      go_ret
      exact ⟨by rw [HN.out, ← X0.out, ← X1.out]; rfl, rfl⟩
    ·
      go_wp2_with fail
      refine (contI s _ _ _ (i + 3) 128 191 (by omega) rfl rfl (by omega) _).mono ?_
      rintro e w' ⟨rfl, rfl⟩
      obtain ⟨r2, hr2⟩ : ∃ r, r = contB s (i + 3) 128 191 := ⟨_, rfl⟩
      rw [← hr2]
      have X2 := Lib.hid hr2
      clear hr2
      cases r2
      · go_wp2_with fail
        go_ret
        exact ⟨by rw [HN.out, ← X0.out, ← X1.out, ← X2.out]; rfl, rfl⟩
      ·
        go_wp2_with fail
        go_ret
        exact ⟨by rw [HN.out, ← X0.out, ← X1.out, ← X2.out]; rfl, rfl⟩
theorem seq_f244 (s : ByteArray) (i : Nat) (hi : i < s.size) (hm : s.size ≤ 1073741824) (q0 : s[i].toNat = 244) (n : Nat) (hn : n = (if contB s (i + 1) 128 143 && contB s (i + 2) 128 191 && contB s (i + 3) 128 191 then 4 else 0)) : SeqIs s i n := by
  have HN := Lib.hid hn
  clear hn
  intro w
  go_enter Tryd.func15, Tryd.ntmps15
  go_wp2_with fail
  refine (contI s _ _ _ (i + 1) 128 143 (by omega) rfl rfl (by omega) _).mono ?_
  rintro e w' ⟨rfl, rfl⟩
  obtain ⟨r0, hr0⟩ : ∃ r, r = contB s (i + 1) 128 143 := ⟨_, rfl⟩
  rw [← hr0]
  have X0 := Lib.hid hr0
  clear hr0
  cases r0
  · go_wp2_with fail
    go_ret
    exact ⟨by rw [HN.out, ← X0.out]; rfl, rfl⟩
  ·
    go_wp2_with fail
    refine (contI s _ _ _ (i + 2) 128 191 (by omega) rfl rfl (by omega) _).mono ?_
    rintro e w' ⟨rfl, rfl⟩
    obtain ⟨r1, hr1⟩ : ∃ r, r = contB s (i + 2) 128 191 := ⟨_, rfl⟩
    rw [← hr1]
    have X1 := Lib.hid hr1
    clear hr1
    cases r1
    · go_wp2_with fail
      go_ret
      exact ⟨by rw [HN.out, ← X0.out, ← X1.out]; rfl, rfl⟩
    ·
      go_wp2_with fail
      refine (contI s _ _ _ (i + 3) 128 191 (by omega) rfl rfl (by omega) _).mono ?_
      rintro e w' ⟨rfl, rfl⟩
      obtain ⟨r2, hr2⟩ : ∃ r, r = contB s (i + 3) 128 191 := ⟨_, rfl⟩
      rw [← hr2]
      have X2 := Lib.hid hr2
      clear hr2
      cases r2
      · go_wp2_with fail
        go_ret
        exact ⟨by rw [HN.out, ← X0.out, ← X1.out, ← X2.out]; rfl, rfl⟩
      ·
        go_wp2_with fail
        go_ret
        exact ⟨by rw [HN.out, ← X0.out, ← X1.out, ← X2.out]; rfl, rfl⟩
theorem seq_z2 (s : ByteArray) (i : Nat) (hi : i < s.size) (hm : s.size ≤ 1073741824) (q0 : 245 ≤ s[i].toNat) (n : Nat) (hn : n = 0) : SeqIs s i n := by
  have HN := Lib.hid hn
  clear hn
  intro w
  have p223 : decide ((s[i].toNat : Int) ≤ 223) = false := decide_eq_false (by omega)
  have p239 : decide ((s[i].toNat : Int) ≤ 239) = false := decide_eq_false (by omega)
  have p244 : decide ((s[i].toNat : Int) ≤ 244) = false := decide_eq_false (by omega)
  go_enter Tryd.func15, Tryd.ntmps15
  go_wp2_with fail
  go_ret
  exact ⟨by rw [HN.out]; rfl, rfl⟩
theorem seqC (s : ByteArray) (i : Nat) (hi : i < s.size) (hm : s.size ≤ 1073741824) : SeqIs s i (seqS s i) := by
  have hg := get_bang s i hi
  unfold seqS
  rw [hg]
  rcases (show s[i].toNat < 194 ∨ (194 ≤ s[i].toNat ∧ s[i].toNat ≤ 223) ∨ s[i].toNat = 224 ∨ (225 ≤ s[i].toNat ∧ s[i].toNat ≤ 236) ∨ s[i].toNat = 237 ∨ (238 ≤ s[i].toNat ∧ s[i].toNat ≤ 239) ∨ s[i].toNat = 240 ∨ (241 ≤ s[i].toNat ∧ s[i].toNat ≤ 243) ∨ s[i].toNat = 244 ∨ 245 ≤ s[i].toNat by omega) with q | ⟨q, q1⟩ | q | ⟨q, q1⟩ | q | ⟨q, q1⟩ | q | ⟨q, q1⟩ | q | q
  · rw [if_neg (show ¬ (194 ≤ s[i].toNat ∧ s[i].toNat ≤ 223) by omega), if_neg (show ¬ (224 ≤ s[i].toNat ∧ s[i].toNat ≤ 239) by omega), if_neg (show ¬ (240 ≤ s[i].toNat ∧ s[i].toNat ≤ 244) by omega)]
    exact seq_z1 s i hi hm q _ rfl
  · rw [if_pos ⟨q, q1⟩]
    exact seq_two s i hi hm q q1 _ rfl
  · rw [if_neg (show ¬ (194 ≤ s[i].toNat ∧ s[i].toNat ≤ 223) by omega), if_pos (show 224 ≤ s[i].toNat ∧ s[i].toNat ≤ 239 by omega), if_pos q, if_neg (show ¬ s[i].toNat = 237 by omega)]
    exact seq_t224 s i hi hm q _ rfl
  · rw [if_neg (show ¬ (194 ≤ s[i].toNat ∧ s[i].toNat ≤ 223) by omega), if_pos (show 224 ≤ s[i].toNat ∧ s[i].toNat ≤ 239 by omega), if_neg (show ¬ s[i].toNat = 224 by omega), if_neg (show ¬ s[i].toNat = 237 by omega)]
    exact seq_t3a s i hi hm q q1 _ rfl
  · rw [if_neg (show ¬ (194 ≤ s[i].toNat ∧ s[i].toNat ≤ 223) by omega), if_pos (show 224 ≤ s[i].toNat ∧ s[i].toNat ≤ 239 by omega), if_neg (show ¬ s[i].toNat = 224 by omega), if_pos q]
    exact seq_t237 s i hi hm q _ rfl
  · rw [if_neg (show ¬ (194 ≤ s[i].toNat ∧ s[i].toNat ≤ 223) by omega), if_pos (show 224 ≤ s[i].toNat ∧ s[i].toNat ≤ 239 by omega), if_neg (show ¬ s[i].toNat = 224 by omega), if_neg (show ¬ s[i].toNat = 237 by omega)]
    exact seq_t3b s i hi hm q q1 _ rfl
  · rw [if_neg (show ¬ (194 ≤ s[i].toNat ∧ s[i].toNat ≤ 223) by omega), if_neg (show ¬ (224 ≤ s[i].toNat ∧ s[i].toNat ≤ 239) by omega), if_pos (show 240 ≤ s[i].toNat ∧ s[i].toNat ≤ 244 by omega), if_pos q, if_neg (show ¬ s[i].toNat = 244 by omega)]
    exact seq_f240 s i hi hm q _ rfl
  · rw [if_neg (show ¬ (194 ≤ s[i].toNat ∧ s[i].toNat ≤ 223) by omega), if_neg (show ¬ (224 ≤ s[i].toNat ∧ s[i].toNat ≤ 239) by omega), if_pos (show 240 ≤ s[i].toNat ∧ s[i].toNat ≤ 244 by omega), if_neg (show ¬ s[i].toNat = 240 by omega), if_neg (show ¬ s[i].toNat = 244 by omega)]
    exact seq_f4a s i hi hm q q1 _ rfl
  · rw [if_neg (show ¬ (194 ≤ s[i].toNat ∧ s[i].toNat ≤ 223) by omega), if_neg (show ¬ (224 ≤ s[i].toNat ∧ s[i].toNat ≤ 239) by omega), if_pos (show 240 ≤ s[i].toNat ∧ s[i].toNat ≤ 244 by omega), if_neg (show ¬ s[i].toNat = 240 by omega), if_pos q]
    exact seq_f244 s i hi hm q _ rfl
  · rw [if_neg (show ¬ (194 ≤ s[i].toNat ∧ s[i].toNat ≤ 223) by omega), if_neg (show ¬ (224 ≤ s[i].toNat ∧ s[i].toNat ≤ 239) by omega), if_neg (show ¬ (240 ≤ s[i].toNat ∧ s[i].toNat ≤ 244) by omega)]
    exact seq_z2 s i hi hm q _ rfl
end Go.Proofs.YtfbpffgcofdciaaDoor
