/-
  The contract of encodeString (n001_1001).
-/
import Derived.Test.YtgbkjdndbjaeoaaDoorEnc
import Derived.Deep.CutRange
import Derived.Deep.CutBlock
import Derived.Laws.BitsAllLaws
namespace Go.Proofs.YtgbkjdndbjaeoaaDoor
set_option linter.unusedVariables false
open Go.ChangeShapes Go.WideShapes Go.ChangeAt Go.RowKit M
theorem cutN_zero (s : ByteArray) (i : Nat) : cutN s i 0 = [] := by simp [cutN]
theorem cut_bytes (s : ByteArray) (i k : Nat) : (s.extract i k).data.toList = cutN s i (k - i) := by
  unfold cutN
  simp [List.extract_eq_take_drop]
theorem cutN_add (s : ByteArray) (i m n : Nat) : cutN s i (m + n) = cutN s i m ++ cutN s (i + m) n := by
  unfold cutN
  rw [List.take_add, List.drop_drop]
theorem cutN_one {s : ByteArray} {k : Nat} (h : k < s.size) : cutN s k 1 = [s[k]] := by
  rw [show (1 : Nat) = 0 + 1 from rfl, cutN_snoc s k 0 (by omega), cutN_zero]
  rfl
theorem hexF : ∀ d : Fin 16, (ByteArray.mk #[48, 49, 50, 51, 52, 53, 54, 55, 56, 57, 97, 98, 99, 100, 101, 102]).get! d.1 = UInt8.ofNat (hexOf d.1) := by decide
theorem hexK (d : Nat) (hd : d < 16) {h} : (ByteArray.mk #[48, 49, 50, 51, 52, 53, 54, 55, 56, 57, 97, 98, 99, 100, 101, 102])[d]'h = UInt8.ofNat (hexOf d) := by
  rw [← get_bang _ d h]
  exact hexF ⟨d, hd⟩
theorem hexD (I : Int) (d : Nat) (hd : d < 16) (hI : I = d) {h} : (ByteArray.mk #[48, 49, 50, 51, 52, 53, 54, 55, 56, 57, 97, 98, 99, 100, 101, 102])[I.toNat]'h = UInt8.ofNat (hexOf d) := by
  subst hI
  simp only [Int.toNat_natCast]
  exact hexK d hd
/-- Between two rounds: from st to k nothing has been written yet. -/
def EI (w0 : World) (B bb eb : Nat) (d : Option Nat) (l0 : List UInt8) (s : ByteArray) (a i : Value) (w : World) : Prop := ∃ (st k : Nat) (l : List UInt8), st ≤ k ∧ k ≤ s.size ∧ a = .int .i64 st ∧ i = .int .i64 k ∧ Hid (l.length ≤ l0.length + 1 + 6 * st) ∧ Hid (l ++ cutN s st (k - st) ++ tail s k = l0 ++ [34] ++ tail s 0) ∧ EN w0 B bb eb d l w
theorem EI.keep {w0 : World} {B bb eb : Nat} {d : Option Nat} {l0 : List UInt8} {s : ByteArray} {w : World} {st k : Nat} {l : List UInt8} (m : Nat) (hp : piece s k = (cutN s k m, m)) (hst : st ≤ k) (hk : k < s.size) (hl : l.length ≤ l0.length + 1 + 6 * st) (ht : l ++ cutN s st (k - st) ++ tail s k = l0 ++ [34] ++ tail s 0) (h : EN w0 B bb eb d l w) (I : Int) (hI : I = ↑(k + m)) : EI w0 B bb eb d l0 s (.int .i64 st) (.int .i64 I) w := by
  have h1 := piece_le s k hk
  rw [hp] at h1
  have h2 := tail_step s k hk
  rw [hp] at h2
  have h3 : cutN s st (k + m - st) = cutN s st (k - st) ++ cutN s k m := by
    rw [show k + m - st = (k - st) + m by omega, cutN_add, show st + (k - st) = k by omega]
  rw [h2] at ht
  exact ⟨st, k + m, l, by omega, h1, rfl, by rw [hI], Lib.hid hl, Lib.hid (by rw [h3, ← ht]; simp), h⟩
theorem EI.step {w0 : World} {B bb eb : Nat} {d : Option Nat} {l0 : List UInt8} {s : ByteArray} {w : World} {st k : Nat} {l : List UInt8} (p : List UInt8) (m : Nat) (hp : piece s k = (p, m)) (hst : st ≤ k) (hk : k < s.size) (hl : l.length ≤ l0.length + 1 + 6 * st) (ht : l ++ cutN s st (k - st) ++ tail s k = l0 ++ [34] ++ tail s 0) (hpl : p.length ≤ 6 * m) {l' : List UInt8} (h : EN w0 B bb eb d l' w) (hl' : l' = l ++ cutN s st (k - st) ++ p) (I : Int) (hI : I = ↑(k + m)) : EI w0 B bb eb d l0 s (.int .i64 I) (.int .i64 I) w := by
  subst hl'
  have h1 := piece_le s k hk
  rw [hp] at h1
  have h2 := tail_step s k hk
  rw [hp] at h2
  rw [h2] at ht
  have hc : (cutN s st (k - st)).length ≤ k - st := by
    unfold cutN
    rw [List.length_take]
    omega
  refine ⟨k + m, k + m, _, Nat.le_refl _, h1, by rw [hI], by rw [hI], Lib.hid ?_, Lib.hid ?_, h⟩
  · simp only [List.length_append]
    omega
  · rw [Nat.sub_self, cutN_zero, ← ht]
    simp
set_option maxRecDepth 100000 in
set_option maxHeartbeats 8000000 in
theorem encC (w0 : World) (B bb eb : Nat) (d : Option Nat) (l0 : List UInt8) (s : ByteArray) (w : World) (h : EN w0 B bb eb d l0 w) (hl : l0.length ≤ 1099511627776) (hs : s.size ≤ 1048576) :
    Calls Tryd.prog 29 #[.pointer (some ⟨eb, 0, none⟩), .string s] w fun e w' => e = .returned (.tuple #[]) ∧ EN w0 B bb eb d (l0 ++ quoted s) w' := by
  have m1 := metWB
  have m2 := metWS
  have c0 := h.cell
  have H := Lib.hid h
  clear h
  go_enter Tryd.func29, Tryd.ntmps29
  go_wp2_with fail
  refine (H.out.wbyte 34 34 rfl (by omega)).mono ?_
  rintro e w1 ⟨rfl, h1⟩
  have H1 := Lib.hid h1
  clear h1
  go_wp2_with fail
  go_loopw [4, 5] (fun a i wr => EI w0 B bb eb d l0 s a i wr) (fun _ i _ => s.size - (intOf i).toNat)
  case atStart => exact ⟨0, 0, l0 ++ [34], Nat.le_refl _, Nat.zero_le _, rfl, rfl, Lib.hid (by simp), Lib.hid (by simp [cutN_zero]), H1.out⟩
  case round =>
    obtain ⟨st, k, l, hst, hk, rfl, rfl, HL, HQ, hen⟩ := hrel
    have HEN := Lib.hid hen
    have c1 := HEN.out.cell
    have c2 := HEN.out.drew.cell
    clear hen c0
    by_cases hlt : k < s.size
    · by_cases h128 : s[k].toNat < 128
      · have hp := piece_esc hlt h128
        have HP := Lib.hid hp
        clear hp
        by_cases hsafe : 32 ≤ s[k].toNat ∧ s[k].toNat ≤ 126 ∧ s[k].toNat ≠ 34 ∧ s[k].toNat ≠ 92
        · obtain ⟨q, q1, q2, q3⟩ := hsafe
          have HE := Lib.hid (show escA s[k].toNat = [s[k].toNat] by unfold escA; rw [if_neg (by omega), if_neg (by omega), if_neg (by omega), if_neg (by omega), if_neg (by omega), if_neg (by omega), if_neg (by omega), if_neg (by omega)])
          have p1 : decide ((32 : Int) ≤ (s[k].toNat : Int)) = true := decide_eq_true (by omega)
          have p2 : decide ((s[k].toNat : Int) ≤ 126) = true := decide_eq_true (by omega)
          have p3 : ((s[k].toNat : Int) != 34) = true := by simp; omega
          have p4 : ((s[k].toNat : Int) != 92) = true := by simp; omega
          go_wp2_with fail
          exact ⟨EI.keep 1 (by rw [HP.out, HE.out, cutN_one hlt]; simp) hst hlt HL.out HQ.out HEN.out _ (by simp), by simp [intOf]; omega⟩
        · have hc : (cutN s st (k - st)).length ≤ k - st := by unfold cutN; rw [List.length_take]; omega
          have HC := Lib.hid hc
          clear hc
          go_upto_region 6 with fail
          go_cut [36, 22] from 169 to 169 (fun b _ w => b = .bool false ∧ w = wr)
          case first =>
            rcases (show s[k].toNat < 32 ∨ s[k].toNat = 34 ∨ s[k].toNat = 92 ∨ s[k].toNat = 127 by omega) with q | q | q | q
            · have p1 : decide ((32 : Int) ≤ (s[k].toNat : Int)) = false := decide_eq_false (by omega)
              go_wp2_with fail
              go_meet
              exact ⟨rfl, rfl⟩
            all_goals (go_wp2_with fail; go_meet; exact ⟨rfl, rfl⟩)
          case rest =>
          obtain ⟨rfl, rfl⟩ := hcut
          go_upto_if 41 with fail
          go_cut [5, 22, 41] from 169 to 169 (fun i _ _ w => i = .int .i64 k ∧ Hid (EN w0 B bb eb d (l ++ cutN s st (k - st)) w))
          case first =>
            by_cases hsk : st < k
            · go_wp2_with fail
              go_region_with (go_at_call 20; refine (HEN.out.drew.wstr _ (by have := HL.out; simp; omega)).mono ?_; rintro e w2 ⟨rfl, h2⟩; rw [cut_bytes] at h2; have H2 := Lib.hid h2; clear h2)
              go_wp2_with fail
              go_meet
              exact ⟨rfl, H2⟩
            · obtain rfl : st = k := by omega
              go_wp2_with fail
              go_meet
              exact ⟨rfl, by simpa [cutN_zero] using HEN⟩
          case rest =>
          obtain ⟨rfl, H2⟩ := hcut
          have c3 := H2.out.cell
          have c4 := H2.out.drew.cell
          have hq : s[k].toNat = 34 ∨ s[k].toNat = 92 ∨ s[k].toNat = 8 ∨ s[k].toNat = 12 ∨ s[k].toNat = 10 ∨ s[k].toNat = 13 ∨ s[k].toNat = 9 ∨ (s[k].toNat < 32 ∧ s[k].toNat ≠ 8 ∧ s[k].toNat ≠ 12 ∧ s[k].toNat ≠ 10 ∧ s[k].toNat ≠ 13 ∧ s[k].toNat ≠ 9) ∨ s[k].toNat = 127 := by omega
          clear c1 c2 hsafe
          go_upto_block 2 with fail
          go_cut [5, 6, 20, 21, 22, 53] from 169 to 169 (fun i _ _ _ _ _ w => i = .int .i64 k ∧ Hid (∃ p : List UInt8, piece s k = (p, 1) ∧ p.length ≤ 6 ∧ EN w0 B bb eb d (l ++ cutN s st (k - st) ++ p) w))
          case rest =>
            obtain ⟨rfl, HX⟩ := hcut
            obtain ⟨p, hp1, hp2, hp3⟩ := HX.out
            have HP1 := Lib.hid hp1
            have HP3 := Lib.hid hp3
            clear hp1 hp3 HX
            go_wp2_with fail
            exact ⟨EI.step p 1 HP1.out hst hlt HL.out HQ.out (by omega) HP3.out rfl _ (by simp), by simp [intOf]; omega⟩
          case first =>
          rcases hq with q | q | q | q | q | q | q | ⟨q, q1, q2, q3, q4, q5⟩ | q
          · go_wp2_with fail
            refine (H2.out.wstr _ (by have := HL.out; have := HC.out; show (_ : List UInt8).length + 2 ≤ _; simp; omega)).mono ?_
            rintro e w3 ⟨rfl, h3⟩
            have H3 := Lib.hid h3
            clear h3
            go_wp2_with fail
            go_meet
            exact ⟨rfl, Lib.hid ⟨[92, 34], by rw [HP.out, q]; rfl, by decide, H3.out⟩⟩
          · go_wp2_with fail
            refine (H2.out.wstr _ (by have := HL.out; have := HC.out; show (_ : List UInt8).length + 2 ≤ _; simp; omega)).mono ?_
            rintro e w3 ⟨rfl, h3⟩
            have H3 := Lib.hid h3
            clear h3
            go_wp2_with fail
            go_meet
            exact ⟨rfl, Lib.hid ⟨[92, 92], by rw [HP.out, q]; rfl, by decide, H3.out⟩⟩
          · go_wp2_with fail
            refine (H2.out.wstr _ (by have := HL.out; have := HC.out; show (_ : List UInt8).length + 2 ≤ _; simp; omega)).mono ?_
            rintro e w3 ⟨rfl, h3⟩
            have H3 := Lib.hid h3
            clear h3
            go_wp2_with fail
            go_meet
            exact ⟨rfl, Lib.hid ⟨[92, 98], by rw [HP.out, q]; rfl, by decide, H3.out⟩⟩
          · go_wp2_with fail
            refine (H2.out.wstr _ (by have := HL.out; have := HC.out; show (_ : List UInt8).length + 2 ≤ _; simp; omega)).mono ?_
            rintro e w3 ⟨rfl, h3⟩
            have H3 := Lib.hid h3
            clear h3
            go_wp2_with fail
            go_meet
            exact ⟨rfl, Lib.hid ⟨[92, 102], by rw [HP.out, q]; rfl, by decide, H3.out⟩⟩
          · go_wp2_with fail
            refine (H2.out.wstr _ (by have := HL.out; have := HC.out; show (_ : List UInt8).length + 2 ≤ _; simp; omega)).mono ?_
            rintro e w3 ⟨rfl, h3⟩
            have H3 := Lib.hid h3
            clear h3
            go_wp2_with fail
            go_meet
            exact ⟨rfl, Lib.hid ⟨[92, 110], by rw [HP.out, q]; rfl, by decide, H3.out⟩⟩
          · go_wp2_with fail
            refine (H2.out.wstr _ (by have := HL.out; have := HC.out; show (_ : List UInt8).length + 2 ≤ _; simp; omega)).mono ?_
            rintro e w3 ⟨rfl, h3⟩
            have H3 := Lib.hid h3
            clear h3
            go_wp2_with fail
            go_meet
            exact ⟨rfl, Lib.hid ⟨[92, 114], by rw [HP.out, q]; rfl, by decide, H3.out⟩⟩
          · go_wp2_with fail
            refine (H2.out.wstr _ (by have := HL.out; have := HC.out; show (_ : List UInt8).length + 2 ≤ _; simp; omega)).mono ?_
            rintro e w3 ⟨rfl, h3⟩
            have H3 := Lib.hid h3
            clear h3
            go_wp2_with fail
            go_meet
            exact ⟨rfl, Lib.hid ⟨[92, 116], by rw [HP.out, q]; rfl, by decide, H3.out⟩⟩
          · have hbit : bits BinOp.and IntKind.u8 (s[k].toNat : Int) 15 = ((s[k].toNat % 16 : Nat) : Int) := by
              have h := u8_and_nat s[k].toNat 15 (by omega) (by omega)
              rw [show s[k].toNat &&& 15 = s[k].toNat % 16 from Nat.and_two_pow_sub_one_eq_mod _ 4] at h
              exact h
            have HE := Lib.hid (show escA s[k].toNat = [92, 117, 48, 48, hexOf (s[k].toNat / 16), hexOf (s[k].toNat % 16)] by unfold escA; rw [if_neg (by omega), if_neg (by omega), if_neg (by omega), if_neg (by omega), if_neg (by omega), if_neg (by omega), if_neg (by omega), if_pos (by omega)])
            go_wp2_with fail
            refine (H2.out.wstr _ (by have := HL.out; have := HC.out; show (_ : List UInt8).length + 4 ≤ _; simp; omega)).mono ?_
            rintro e w3 ⟨rfl, h3⟩
            have c5 := h3.cell
            have c6 := h3.drew.cell
            have H3 := Lib.hid h3
            clear h3
            go_wp2_with fail
            go_cut [5] from 54 to 127 (fun i w => i = .int .i64 k ∧ Hid (EN w0 B bb eb d (l ++ cutN s st (k - st) ++ [92, 117, 48, 48] ++ [UInt8.ofNat (hexOf (s[k].toNat / 16))]) w))
            case first =>
              go_region_with (go_at_call 28; refine (H3.out.drew.wbyte _ _ rfl (by have := HL.out; have := HC.out; simp; omega)).mono ?_; rintro e w4 ⟨rfl, h4⟩; rw [hexD _ (s[k].toNat / 16) (by omega) (by omega)] at h4; have H4 := Lib.hid h4; clear h4)
              all_goals (go_wp2_with fail; go_meet; exact ⟨rfl, H4⟩)
            case rest =>
            obtain ⟨rfl, H4⟩ := hcut
            have c7 := H4.out.cell
            have c8 := H4.out.drew.cell
            go_wp2_with fail
            go_region_with (go_at_call 28; refine (H4.out.drew.wbyte _ _ rfl (by have := HL.out; have := HC.out; simp; omega)).mono ?_; rintro e w5 ⟨rfl, h5⟩; (first | rw [hexD _ (s[k].toNat % 16) (by omega) (by omega)] at h5 | rw [hexK (s[k].toNat % 16) (by omega)] at h5); have H5 := Lib.hid h5; clear h5)
            all_goals go_wp2_with fail
            all_goals (go_meet; exact ⟨rfl, Lib.hid ⟨_, by rw [HP.out, HE.out], by simp, by have h := H5.out; simpa using h⟩⟩)
          · have hbit : bits BinOp.and IntKind.u8 127 15 = 15 := by kernel_rfl
            have HE := Lib.hid (show escA s[k].toNat = [92, 117, 48, 48, hexOf 7, hexOf 15] by rw [q]; rfl)
            go_wp2_with fail
            refine (H2.out.wstr _ (by have := HL.out; have := HC.out; show (_ : List UInt8).length + 4 ≤ _; simp; omega)).mono ?_
            rintro e w3 ⟨rfl, h3⟩
            have c5 := h3.cell
            have c6 := h3.drew.cell
            have H3 := Lib.hid h3
            clear h3
            go_wp2_with fail
            go_cut [5] from 54 to 127 (fun i w => i = .int .i64 k ∧ Hid (EN w0 B bb eb d (l ++ cutN s st (k - st) ++ [92, 117, 48, 48] ++ [UInt8.ofNat (hexOf 7)]) w))
            case first =>
              go_region_with (go_at_call 28; refine (H3.out.drew.wbyte _ _ rfl (by have := HL.out; have := HC.out; simp; omega)).mono ?_; rintro e w4 ⟨rfl, h4⟩; rw [hexK 7 (by decide)] at h4; have H4 := Lib.hid h4; clear h4)
              all_goals (go_wp2_with fail; go_meet; exact ⟨rfl, H4⟩)
            case rest =>
            obtain ⟨rfl, H4⟩ := hcut
            have c7 := H4.out.cell
            have c8 := H4.out.drew.cell
            go_wp2_with fail
            go_region_with (go_at_call 28; refine (H4.out.drew.wbyte _ _ rfl (by have := HL.out; have := HC.out; simp; omega)).mono ?_; rintro e w5 ⟨rfl, h5⟩; (first | rw [hexK 15 (by decide)] at h5 | rw [hexD _ 15 (by decide) rfl] at h5); have H5 := Lib.hid h5; clear h5)
            all_goals go_wp2_with fail
            all_goals (go_meet; exact ⟨rfl, Lib.hid ⟨_, by rw [HP.out, HE.out], by simp, by have h := H5.out; simpa using h⟩⟩)
      · have hd := seq_decode s k hlt (by rw [get_bang s k hlt]; omega)
        have p128 : decide ((s[k].toNat : Int) < 128) = false := decide_eq_false (by omega)
        have hc : (cutN s st (k - st)).length ≤ k - st := by unfold cutN; rw [List.length_take]; omega
        have HC := Lib.hid hc
        have HD := Lib.hid hd
        clear hc hd
        go_wp2_with fail
        refine (HEN.out.dec _).mono ?_
        rintro e w2 ⟨rfl, h2⟩
        simp only [go_tail s k hlt]
        have c3 := h2.cell
        have c4 := h2.drew.cell
        have HD2 := Lib.hid h2
        clear h2 c1 c2
        rcases HD.out with ⟨h0, hdec⟩ | ⟨h2', hle, h4, hw⟩
        · have HP := Lib.hid (piece_bad hlt h128 h0)
          rw [hdec]
          clear h0 hdec
          go_upto_if 146 with fail
          go_cut [5, 22, 146] from 169 to 169 (fun i _ _ w => i = .int .i64 k ∧ Hid (EN w0 B bb eb d (l ++ cutN s st (k - st)) w))
          case first =>
            by_cases hsk : st < k
            · go_wp2_with fail
              go_region_with (go_at_call 20; refine (HD2.out.drew.wstr _ (by have := HL.out; simp; omega)).mono ?_; rintro e w2 ⟨rfl, h2⟩; rw [cut_bytes] at h2; have H2 := Lib.hid h2; clear h2)
              go_wp2_with fail
              go_meet
              exact ⟨rfl, H2⟩
            · obtain rfl : st = k := by omega
              go_wp2_with fail
              go_meet
              exact ⟨rfl, by simpa [cutN_zero] using HD2⟩
          case rest =>
          obtain ⟨rfl, H2⟩ := hcut
          have c5 := H2.out.cell
          clear c3 c4
          go_wp2_with fail
          refine (H2.out.wstr _ (by have := HL.out; have := HC.out; show (_ : List UInt8).length + 6 ≤ _; simp; omega)).mono ?_
          rintro e w3 ⟨rfl, h3⟩
          have H3 := Lib.hid h3
          clear h3
          go_wp2_with fail
          exact ⟨EI.step _ 1 HP.out hst hlt HL.out HQ.out (by decide) H3.out rfl _ (by simp), by simp [intOf]; omega⟩
        · have HP := Lib.hid (piece_run hlt h128 (by omega))
          obtain ⟨m, hm⟩ : ∃ m, m = seqS s k := ⟨_, rfl⟩
          obtain ⟨dn, dw, hdd⟩ : ∃ dn dw, Utf8.decode s k = (dn, dw) := ⟨_, _, rfl⟩
          rw [hdd] at hw ⊢
          rw [← hm] at HP hw h2' hle h4
          obtain rfl : dw = m := hw
          have p1 : ((dw : Int) == 1) = false := by simp; omega
          clear hm hdd
          by_cases hr : dn = 65533
          · subst hr
            go_wp2_with fail
            exact ⟨EI.keep dw HP.out hst hlt HL.out HQ.out HD2.out _ (by simp), by simp [intOf]; omega⟩
          · have p2 : ((dn : Int) == 65533) = false := by simp; omega
            go_wp2_with fail
            exact ⟨EI.keep dw HP.out hst hlt HL.out HQ.out HD2.out _ (by simp), by simp [intOf]; omega⟩
    · obtain rfl : k = s.size := by omega
      have hc : (cutN s st (s.size - st)).length ≤ s.size - st := by unfold cutN; rw [List.length_take]; omega
      have HC := Lib.hid hc
      have HF := Lib.hid (show l ++ cutN s st (s.size - st) ++ [34] = l0 ++ quoted s by
        have h := HQ.out
        rw [tail_end, List.append_nil] at h
        rw [h]
        unfold quoted
        simp)
      clear hc
      by_cases hsk : st < s.size
      · go_wp2_with fail
        go_region_with (go_at_call 20; refine (HEN.out.drew.wstr _ (by have := HL.out; simp; omega)).mono ?_; rintro e w2 ⟨rfl, h2⟩; rw [cut_bytes] at h2; have c3 := h2.cell; have c4 := h2.drew.cell; have H2 := Lib.hid h2; clear h2)
        go_wp2_with fail
        refine (H2.out.wbyte 34 34 rfl (by have := HL.out; have := HC.out; simp; omega)).mono ?_
        rintro e w3 ⟨rfl, h3⟩
        rw [HF.out] at h3
        have H3 := Lib.hid h3
        clear h3
        go_wp2_with fail
        go_end0
        exact ⟨rfl, H3.out⟩
      · obtain rfl : st = s.size := by omega
        have hen := HEN.out
        rw [show l = l ++ cutN s s.size (s.size - s.size) by simp [cutN_zero]] at hen
        have H2 := Lib.hid hen
        clear hen
        go_wp2_with fail
        refine (H2.out.wbyte 34 34 rfl (by have := HL.out; have := HC.out; simp only [List.length_append]; omega)).mono ?_
        rintro e w3 ⟨rfl, h3⟩
        rw [HF.out] at h3
        have H3 := Lib.hid h3
        clear h3
        go_wp2_with fail
        go_end0
        exact ⟨rfl, H3.out⟩
end Go.Proofs.YtgbkjdndbjaeoaaDoor
