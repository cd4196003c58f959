/-
  The contract of the reference escaper refEsc (n001_1001).
-/
import Derived.Test.YtghcggagpagfoaaGreatDoorApp
import Derived.Test.YtghcggagpagfoaaGreatDoorEsc
import Derived.Test.YtghcggagpagfoaaGreatDoorEncB
import Derived.Lib.MapLaws
import Derived.Deep.RegionLaw
namespace Go.Proofs.YtghcggagpagfoaaGreatDoor
set_option linter.unusedVariables false
open Go.ChangeShapes Go.WideShapes Go.ChangeAt Go.RowKit M
theorem wp_str {ops : Array Oper} {rest : List Oper} {o : Oper} {a : Act} {Q : Exit → Act → World → Prop} (hgd : o.guard = none) (sl x : Operand) (ho : o.op = .call { callee := .builtin .append, args := #[sl, x], argTypes := #[tBytes, 9] })
    (w : World) (B : Nat) (v : Value) (d : Option Nat) (l : List UInt8) (hs : a.eval sl = v) (hown : OwnB w B v d l) (t : ByteArray) (hx : a.eval x = .string t)
    (hlen : l.length + t.size ≤ 140737488355328) (hB : B ≤ w.heap.size)
    (h : ∀ v' w', AOut w B d (l ++ t.data.toList) v' w' → wpList Tryz.prog ops Q rest (a.put o.dst v') w') : wpList Tryz.prog ops Q (o :: rest) a w := by
  obtain ⟨i0, hi, hz0, hz1, hz2⟩ := info_parts infoByte
  refine wpList_plain hgd fun K hK => ?_
  obtain ⟨v', w', hr, h2, h3, _⟩ := Lib.run_append_own_string (P := Tryz.prog) w B tBytes 9 o.type tByte i0 Tryz.underlying22 Tryz.underlying9 hi hz0 hz1 hz2 v l.length (Lib.byteCells l) hown.1 t (by unfold maxLen; omega) hlen hB
  obtain ⟨v2, w2, hr2, _, _, h4, _⟩ := run_append_strF (P := Tryz.prog) w B tBytes 9 o.type tByte i0 Tryz.underlying22 Tryz.underlying9 hi hz0 hz1 hz2 v l.length (Lib.byteCells l) (World.ownsRowF_of hown.1) t hlen hB
  rw [hr] at hr2
  injection hr2 with e1 e2
  subst e1 e2
  unfold Oper.wp execOp
  simp only [ho, resolve, invoke, builtin, Sem.run_bind, Sem.run_pure, Result.andThen_ok, List.map_toArray, List.map_cons, List.map_nil, hs, hx, hr]
  refine hK _ _ (h v' w' ⟨v'.ownBlock, ⟨?_, rfl⟩, ?_, ?_⟩)
  · rw [bytes_app] at h2
    simpa using h2
  · rcases h4 with h | h
    · exact .inl (h.trans hown.2)
    · exact .inr h
  · exact (Touch.refl _ w).grown h3 (fun k hk _ => hown.2.symm.trans hk)
theorem step_bytes {ops : Array Oper} {o : Oper} {a : Act} {K : Act → World → Prop} {Q : Exit → Act → World → Prop} {E : Prop} (hgd : o.guard = none) (sl x : Operand) (ho : o.op = .call { callee := .builtin .append, args := #[sl, x], argTypes := #[tBytes, tBytes] })
    (w W : World) (N : Nat) (hN : N = w.heap.size) (B : Nat) (v : Value) (d : Option Nat) (l : List UInt8) (hs : a.eval sl = v) (hown : OwnB w B v d l) (bs : List UInt8) (cs : Array Value) (hcs : cs.toList = Lib.byteCells bs) (hW : W = w.alloc (.cells cs tByte)) (m : Nat) (hm : m = bs.length) (hx : a.eval x = .slice (some ⟨N, 0, none⟩) m m)
    (hlen : l.length + bs.length ≤ 140737488355328) (hb : bs.length ≤ 1048576) (hb0 : 0 < bs.length) (hB : B ≤ w.heap.size)
    (h : ∀ v' w', AOut w B d (l ++ bs) v' w' → K (a.put o.dst v') w') : if Region.wanted o (yielded ops a.tmps) = true then Oper.wp Tryz.prog o a W K Q else E := by
  subst hW hN hm
  obtain ⟨i0, hi, hz0, hz1, hz2⟩ := info_parts infoByte
  have hbl : (Lib.byteCells bs).length = bs.length := by simp [Lib.byteCells]
  refine step_append_lies _ hgd sl x tBytes ho B tByte i0 (.int .u8 0) 1 1 Tryz.underlying22 hi hz0 hz1 hz2 rfl (by decide) v l.length (Lib.byteCells l) hs (hown.1.alloc _) ⟨w.heap.size, 0, none⟩ bs.length bs.length (Lib.byteCells bs) hx (by rw [hbl, Nat.mul_one]) ?_ ?_ (by omega) (by unfold maxLen; omega) (by omega) (by simp; omega) _ rfl ?_
  · intro j u hj
    rw [Go.WideShapes.add_plain, (Row.made w tByte cs).cell, Nat.zero_add, ← Array.getElem?_toList, hcs]
    exact hj
  · intro u hu
    simp [Lib.byteCells] at hu
    obtain ⟨b, _, rfl⟩ := hu
    rfl
  · intro g cap w' hown' hgrow hat hlt
    refine h _ w' ⟨some g, ⟨?_, rfl⟩, ?_, ?_⟩
    · have he : Lib.byteCells l ++ Lib.byteCells bs = Lib.byteCells (l ++ bs) := by simp [Lib.byteCells]
      rw [he] at hown'
      simpa using hown'
    · rcases hat with h | h
      · exact .inl (h.symm.trans hown.2)
      · refine .inr ⟨g, rfl, ?_⟩
        rw [h, World.size_alloc]
        omega
    · exact ((Touch.refl _ w).alloc _).grown hgrow (fun k hk _ => hown.2.symm.trans hk)
theorem OwnB.form {w : World} {B : Nat} {v : Value} {d : Option Nat} {l : List UInt8} (h : OwnB w B v d l) : ∃ A c, v = .slice A l.length c := own_form h.1
/-- A slice of bytes of the call's own (blocks from B on), behind names that the walk leaves alone; w0: the world at the outset. -/
def BN (B : Nat) (w0 : World) (l : List UInt8) (v : Value) (w' : World) : Prop := ∃ A n c d', v = .slice A n c ∧ Hid (n = l.length) ∧ Hid (OwnB w' B (.slice A n c) d' l) ∧ Hid (Below B w0 w') ∧ B ≤ w'.heap.size
theorem AOut.partsN {w w' w0 : World} {B : Nat} {d : Option Nat} {l : List UInt8} {v : Value} (ho : AOut w B d l v w') (hB : B ≤ w.heap.size) (hd : ∀ g, d = some g → B ≤ g) (hb : Below B w0 w) : BN B w0 l v w' := by
  have h0 := ho.below (B' := B) hB hd
  have h1 := hb.trans h0
  have h2 := h0.size
  obtain ⟨d', x1, _, _⟩ := ho
  obtain ⟨A, c, rfl⟩ := x1.form
  exact ⟨A, _, c, d', rfl, Lib.hid rfl, Lib.hid x1, Lib.hid h1, by omega⟩
theorem i32_and15 (n : Int) : bits .and .i32 n 15 = n % 16 := by
  have h15 : (BitVec.ofInt 32 15).toNat = 2 ^ 4 - 1 := by decide
  have key : (BitVec.ofInt 32 n &&& BitVec.ofInt 32 15).toNat = (n % ((2 ^ 32 : Nat) : Int)).toNat % 2 ^ 4 := by
    rw [BitVec.toNat_and, BitVec.toNat_ofInt, h15, Nat.and_two_pow_sub_one_eq_mod]
  show IntKind.i32.wrap ((BitVec.ofInt 32 n &&& BitVec.ofInt 32 15).toNat : Nat) = n % 16
  rw [key, IntKind.wrap_i32]
  omega
theorem dec_ascii (s : ByteArray) (i : Nat) (hi : i < s.size) (h : s[i].toNat < 128) : Utf8.decode s i = (s[i].toNat, 1) := by
  rw [Lib.decode_at, get_bang s i hi]
  exact Lib.decodeN_ascii _ _ _ _ _ h
theorem dec_big (s : ByteArray) (i : Nat) (hi : i < s.size) (h : ¬ s[i].toNat < 128) : 128 ≤ (Utf8.decode s i).1 := by
  rw [Lib.decode_at, get_bang s i hi]
  rcases Lib.decodeN_shape (s.size - i) s[i].toNat (s.get! (i + 1)).toNat (s.get! (i + 2)).toNat (s.get! (i + 3)).toNat with ⟨c, e⟩ | ⟨c1, c2, c3, cv, e⟩ | ⟨c1, c2, c3, c4, cv, cs, e⟩ | ⟨c1, c2, c3, c4, c5, cv, cw, e⟩ | e
  · exact absurd c h
  all_goals (rw [e]; dsimp only; omega)
def QI (B : Nat) (w0 : World) (l0 : List UInt8) (s : ByteArray) (v i : Value) (wr : World) : Prop := ∃ (k : Nat) (l : List UInt8), k ≤ s.size ∧ i = .int .i64 k ∧ Hid (l.length ≤ l0.length + 1 + 6 * k) ∧ Hid (l ++ tail s k = l0 ++ [34] ++ tail s 0) ∧ BN B w0 l v wr
theorem QI.step {B : Nat} {w0 : World} {l0 : List UInt8} {s : ByteArray} {v : Value} {wr : World} {k : Nat} (l p : List UInt8) (m : Nat) (hp : piece s k = (p, m)) (hk : k < s.size) (hl : l.length ≤ l0.length + 1 + 6 * k) (ht : l ++ tail s k = l0 ++ [34] ++ tail s 0) (hpl : p.length ≤ 6 * m) (h : BN B w0 (l ++ p) v wr) (I : Int) (hI : I = ↑(k + m)) : QI B w0 l0 s v (.int .i64 I) wr := by
  have h1 := piece_le s k hk
  rw [hp] at h1
  have h2 := tail_step s k hk
  rw [hp] at h2
  rw [h2, ← List.append_assoc] at ht
  exact ⟨k + m, l ++ p, h1, by rw [hI], Lib.hid (by rw [List.length_append]; omega), Lib.hid ht, h⟩
set_option maxRecDepth 100000 in
set_option maxHeartbeats 8000000 in
theorem refC (w0 w : World) (B : Nat) (v : Value) (l0 : List UInt8) (s : ByteArray) (h : BN B w0 l0 v w) (h4 : 4 ≤ B) (hB0 : B ≤ w0.heap.size) (hT : Lib.Utf8Tabs 2 3 w0) (hs : s.size ≤ 1048576) (hl0 : l0.length ≤ 1099511627776) :
    Calls Tryz.prog 47 #[v, .string s] w fun e w' => ∃ v', e = .returned v' ∧ BN B w0 (l0 ++ quoted s) v' w' := by
  obtain ⟨A, n, c, d, rfl, HN, H, HB, hz⟩ := h
  have HT := Lib.hid hT
  clear hT
  go_enter Tryz.func47, Tryz.ntmps47
  go_wp2_with (at_builtin; refine wp_bytes rfl _ _ rfl w _ _ rfl B (.slice A n c) d l0 (by rfl) H.out [34] _ (by rfl) (by rfl) 1 (by rfl) (by rfl) (by simp; omega) (by simp) (by simp) hz ?_)
  intro v1 w1 ho
  have hbn := ho.partsN hz (fun g hg => (H.out.lt g hg).1) HB.out
  clear ho
  have HBN := Lib.hid hbn
  clear hbn
  go_wp2_with fail
  go_loopw [0, 5] (fun v i wr => QI B w0 l0 s v i wr) (fun _ i _ => s.size - (intOf i).toNat)
  case atStart => exact ⟨0, l0 ++ [34], Nat.zero_le _, rfl, Lib.hid (by simp), Lib.hid rfl, HBN.out⟩
  case round =>
    obtain ⟨k, l, hk, rfl, HL, HQ, hbn⟩ := hrel
    obtain ⟨A2, n2, c2, d2, rfl, HN2, HO2, HB2, hz2⟩ := hbn
    by_cases hlt : k < s.size
    · go_wp2_with fail
      refine (utf8_DecodeRuneInString (s.extract k s.size) wr (tabs_low HT.out (HB2.out.mono h4))).mono ?_
      rintro e w2 ⟨rfl, hb2⟩
      simp only [go_tail s k hlt]
      have ho3 := HO2.out.below hb2
      have hb3 := HB2.out.trans (hb2.mono hz2)
      have hz3 := Nat.le_trans hB0 hb3.size
      have HO3 := Lib.hid ho3
      have HB3 := Lib.hid hb3
      clear ho3 hb3 hb2
      by_cases h128 : s[k].toNat < 128
      · have HP := Lib.hid (piece_esc hlt h128)
        rw [dec_ascii s k hlt h128]
        have p0 : ((s[k].toNat : Int) == 65533) = false := by simp; omega
        have p1 : decide ((128 : Int) ≤ (s[k].toNat : Int)) = false := decide_eq_false (by omega)
        rcases (show s[k].toNat = 34 ∨ s[k].toNat = 92 ∨ s[k].toNat = 8 ∨ s[k].toNat = 12 ∨ s[k].toNat = 10 ∨ s[k].toNat = 13 ∨ s[k].toNat = 9 ∨ (s[k].toNat < 32 ∧ s[k].toNat ≠ 8 ∧ s[k].toNat ≠ 12 ∧ s[k].toNat ≠ 10 ∧ s[k].toNat ≠ 13 ∧ s[k].toNat ≠ 9) ∨ s[k].toNat = 127 ∨ (32 ≤ s[k].toNat ∧ s[k].toNat ≠ 127 ∧ s[k].toNat ≠ 34 ∧ s[k].toNat ≠ 92) by omega) with q | q | q | q | q | q | q | ⟨q, q1, q2, q3, q4, q5⟩ | q | ⟨q, q1, q2, q3⟩
        · go_wp2_with (at_builtin; refine wp_bytes rfl _ _ rfl w2 _ _ rfl B (.slice A2 n2 c2) d2 l (by rfl) HO3.out [92, 34] _ (by rfl) (by rfl) 2 (by rfl) (by rfl) (by have := HL.out; simp; omega) (by simp) (by simp) hz3 ?_)
          intro v3 w3 ho
          have HBN3 := Lib.hid (ho.partsN hz3 (fun g hg => (HO3.out.lt g hg).1) HB3.out)
          clear ho
          go_wp2_with fail
          exact ⟨QI.step l [92, 34] 1 (by rw [HP.out, q]; rfl) hlt HL.out HQ.out (by decide) HBN3.out _ (by simp), by simp [intOf]; omega⟩
        · go_wp2_with (at_builtin; refine wp_bytes rfl _ _ rfl w2 _ _ rfl B (.slice A2 n2 c2) d2 l (by rfl) HO3.out [92, 92] _ (by rfl) (by rfl) 2 (by rfl) (by rfl) (by have := HL.out; simp; omega) (by simp) (by simp) hz3 ?_)
          intro v3 w3 ho
          have HBN3 := Lib.hid (ho.partsN hz3 (fun g hg => (HO3.out.lt g hg).1) HB3.out)
          clear ho
          go_wp2_with fail
          exact ⟨QI.step l [92, 92] 1 (by rw [HP.out, q]; rfl) hlt HL.out HQ.out (by decide) HBN3.out _ (by simp), by simp [intOf]; omega⟩
        · go_wp2_with (at_builtin; refine wp_bytes rfl _ _ rfl w2 _ _ rfl B (.slice A2 n2 c2) d2 l (by rfl) HO3.out [92, 98] _ (by rfl) (by rfl) 2 (by rfl) (by rfl) (by have := HL.out; simp; omega) (by simp) (by simp) hz3 ?_)
          intro v3 w3 ho
          have HBN3 := Lib.hid (ho.partsN hz3 (fun g hg => (HO3.out.lt g hg).1) HB3.out)
          clear ho
          go_wp2_with fail
          exact ⟨QI.step l [92, 98] 1 (by rw [HP.out, q]; rfl) hlt HL.out HQ.out (by decide) HBN3.out _ (by simp), by simp [intOf]; omega⟩
        · go_wp2_with (at_builtin; refine wp_bytes rfl _ _ rfl w2 _ _ rfl B (.slice A2 n2 c2) d2 l (by rfl) HO3.out [92, 102] _ (by rfl) (by rfl) 2 (by rfl) (by rfl) (by have := HL.out; simp; omega) (by simp) (by simp) hz3 ?_)
          intro v3 w3 ho
          have HBN3 := Lib.hid (ho.partsN hz3 (fun g hg => (HO3.out.lt g hg).1) HB3.out)
          clear ho
          go_wp2_with fail
          exact ⟨QI.step l [92, 102] 1 (by rw [HP.out, q]; rfl) hlt HL.out HQ.out (by decide) HBN3.out _ (by simp), by simp [intOf]; omega⟩
        · go_wp2_with (at_builtin; refine wp_bytes rfl _ _ rfl w2 _ _ rfl B (.slice A2 n2 c2) d2 l (by rfl) HO3.out [92, 110] _ (by rfl) (by rfl) 2 (by rfl) (by rfl) (by have := HL.out; simp; omega) (by simp) (by simp) hz3 ?_)
          intro v3 w3 ho
          have HBN3 := Lib.hid (ho.partsN hz3 (fun g hg => (HO3.out.lt g hg).1) HB3.out)
          clear ho
          go_wp2_with fail
          exact ⟨QI.step l [92, 110] 1 (by rw [HP.out, q]; rfl) hlt HL.out HQ.out (by decide) HBN3.out _ (by simp), by simp [intOf]; omega⟩
        · go_wp2_with (at_builtin; refine wp_bytes rfl _ _ rfl w2 _ _ rfl B (.slice A2 n2 c2) d2 l (by rfl) HO3.out [92, 114] _ (by rfl) (by rfl) 2 (by rfl) (by rfl) (by have := HL.out; simp; omega) (by simp) (by simp) hz3 ?_)
          intro v3 w3 ho
          have HBN3 := Lib.hid (ho.partsN hz3 (fun g hg => (HO3.out.lt g hg).1) HB3.out)
          clear ho
          go_wp2_with fail
          exact ⟨QI.step l [92, 114] 1 (by rw [HP.out, q]; rfl) hlt HL.out HQ.out (by decide) HBN3.out _ (by simp), by simp [intOf]; omega⟩
        · go_wp2_with (at_builtin; refine wp_bytes rfl _ _ rfl w2 _ _ rfl B (.slice A2 n2 c2) d2 l (by rfl) HO3.out [92, 116] _ (by rfl) (by rfl) 2 (by rfl) (by rfl) (by have := HL.out; simp; omega) (by simp) (by simp) hz3 ?_)
          intro v3 w3 ho
          have HBN3 := Lib.hid (ho.partsN hz3 (fun g hg => (HO3.out.lt g hg).1) HB3.out)
          clear ho
          go_wp2_with fail
          exact ⟨QI.step l [92, 116] 1 (by rw [HP.out, q]; rfl) hlt HL.out HQ.out (by decide) HBN3.out _ (by simp), by simp [intOf]; omega⟩
        · have HE := Lib.hid (show escA s[k].toNat = [92, 117, 48, 48, hexOf (s[k].toNat / 16), hexOf (s[k].toNat % 16)] by unfold escA; rw [if_neg (by omega), if_neg (by omega), if_neg (by omega), if_neg (by omega), if_neg (by omega), if_neg (by omega), if_neg (by omega), if_pos (by omega)])
          have hbit := i32_and15 (s[k].toNat : Int)
          have i1 : (0 : Int) ≤ (s[k].toNat : Int) / 16 := by omega
          have i2 : (s[k].toNat : Int) / 16 < 16 := by omega
          have i3 : (0 : Int) ≤ (s[k].toNat : Int) % 16 := by omega
          have i4 : (s[k].toNat : Int) % 16 < 16 := by omega
          have p32 : decide ((32 : Int) ≤ (s[k].toNat : Int)) = false := decide_eq_false (by omega)
          have HO4 := Lib.hid (HO3.out.touch ((Touch.refl (fun _ => False) w2).drew) (fun _ _ h => h))
          have HB4 := Lib.hid (HB3.out.drew)
          go_wp2_with fail
          go_region_law (go_loud (refine step_bytes rfl _ _ rfl w2.drew _ _ rfl B (.slice A2 n2 c2) d2 l (by simp [Act.eval]) HO4.out [92, 117, 48, 48, _, _] _ rfl rfl 6 rfl (by simp [Act.eval]) (by have := HL.out; simp; omega) (by simp) (by simp) hz3 ?_; intro v3 w3 ho; rw [hexD _ (s[k].toNat / 16) (by omega) (by omega), hexD _ (s[k].toNat % 16) (by omega) (by omega)] at ho; have hbn := ho.partsN hz3 (fun g hg => (HO4.out.lt g hg).1) HB4.out; obtain ⟨A5, n5, c5, d5, rfl, X1, X2, X3, X4⟩ := hbn))
          all_goals go_wp2_with fail
          all_goals exact ⟨QI.step l _ 1 (by rw [HP.out, HE.out]; first | rfl | simp) hlt HL.out HQ.out (by simp) ⟨A5, n5, c5, d5, rfl, X1, X2, X3, X4⟩ _ (by simp), by simp [intOf]; omega⟩
        · have HE := Lib.hid (show escA s[k].toNat = [92, 117, 48, 48, hexOf 7, hexOf 15] by rw [q]; rfl)
          have hbit : bits BinOp.and IntKind.i32 127 15 = 15 := by kernel_rfl
          have HO4 := Lib.hid (HO3.out.touch ((Touch.refl (fun _ => False) w2).drew) (fun _ _ h => h))
          have HB4 := Lib.hid (HB3.out.drew)
          go_wp2_with fail
          go_region_law (go_loud (refine step_bytes rfl _ _ rfl w2.drew _ _ rfl B (.slice A2 n2 c2) d2 l (by simp [Act.eval]) HO4.out [92, 117, 48, 48, _, _] _ rfl rfl 6 rfl (by simp [Act.eval]) (by have := HL.out; simp; omega) (by simp) (by simp) hz3 ?_; intro v3 w3 ho; rw [hexK 7 (by decide), hexK 15 (by decide)] at ho; have hbn := ho.partsN hz3 (fun g hg => (HO4.out.lt g hg).1) HB4.out; obtain ⟨A5, n5, c5, d5, rfl, X1, X2, X3, X4⟩ := hbn))
          all_goals go_wp2_with fail
          all_goals exact ⟨QI.step l _ 1 (by rw [HP.out, HE.out]; first | rfl | simp) hlt HL.out HQ.out (by simp) ⟨A5, n5, c5, d5, rfl, X1, X2, X3, X4⟩ _ (by simp), by simp [intOf]; omega⟩
        · have HE := Lib.hid (show escA s[k].toNat = [s[k].toNat] by unfold escA; rw [if_neg (by omega), if_neg (by omega), if_neg (by omega), if_neg (by omega), if_neg (by omega), if_neg (by omega), if_neg (by omega), if_neg (by omega)])
          have p32 : decide ((32 : Int) ≤ (s[k].toNat : Int)) = true := decide_eq_true (by omega)
          have p127 : decide ((s[k].toNat : Int) < 127) = true := decide_eq_true (by omega)
          go_wp2_with (at_builtin; refine wp_bytes rfl _ _ rfl w2 _ _ rfl B (.slice A2 n2 c2) d2 l (by rfl) HO3.out [s[k]] _ (by rfl) (by rfl) 1 (by rfl) (by rfl) (by have := HL.out; simp; omega) (by simp) (by simp) hz3 ?_)
          intro v3 w3 ho
          have HBN3 := Lib.hid (ho.partsN hz3 (fun g hg => (HO3.out.lt g hg).1) HB3.out)
          clear ho
          go_wp2_with fail
          exact ⟨QI.step l [s[k]] 1 (by rw [HP.out, HE.out]; simp) hlt HL.out HQ.out (by simp) HBN3.out _ (by simp), by simp [intOf]; omega⟩
      · rcases seq_decode s k hlt (by rw [get_bang s k hlt]; omega) with ⟨h0, hdec⟩ | ⟨h2', hle, h4, hw⟩
        · have HP := Lib.hid (piece_bad hlt h128 h0)
          rw [hdec]
          clear h0 hdec
          go_wp2_with (at_builtin; refine wp_str rfl _ _ rfl w2 B (.slice A2 n2 c2) d2 l (by rfl) HO3.out ⟨#[92, 117, 102, 102, 102, 100]⟩ (by rfl) (by have := HL.out; show l.length + 6 ≤ _; omega) hz3 ?_)
          intro v3 w3 ho
          have HBN3 := Lib.hid (ho.partsN hz3 (fun g hg => (HO3.out.lt g hg).1) HB3.out)
          clear ho
          go_wp2_with fail
          exact ⟨QI.step l _ 1 HP.out hlt HL.out HQ.out (by decide) HBN3.out _ (by simp), by simp [intOf]; omega⟩
        · have HP := Lib.hid (piece_run hlt h128 (by omega))
          have hbig := dec_big s k hlt h128
          obtain ⟨m, hm⟩ : ∃ m, m = seqS s k := ⟨_, rfl⟩
          obtain ⟨dn, dw, hdd⟩ : ∃ dn dw, Utf8.decode s k = (dn, dw) := ⟨_, _, rfl⟩
          rw [hdd] at hw hbig ⊢
          rw [← hm] at HP hw h2' hle h4
          obtain rfl : dw = m := hw
          have p1 : ((dw : Int) == 1) = false := by simp; omega
          have hbig' : 128 ≤ dn := hbig
          have p2 : decide ((128 : Int) ≤ (dn : Int)) = true := decide_eq_true (by omega)
          have hcl : (cutN s k dw).length ≤ dw := by unfold cutN; rw [List.length_take]; omega
          have HC := Lib.hid hcl
          clear hm hdd hcl hbig
          by_cases hr : dn = 65533
          · subst hr
            go_wp2_with (at_builtin; refine wp_str rfl _ _ rfl w2 B (.slice A2 n2 c2) d2 l (by rfl) HO3.out (s.extract k (k + dw)) (by rfl) (by have := HL.out; rw [ByteArray.size_extract]; omega) hz3 ?_)
            intro v3 w3 ho
            have hbn3 := ho.partsN hz3 (fun g hg => (HO3.out.lt g hg).1) HB3.out
            change BN B w0 (l ++ cutN s k dw) v3 w3 at hbn3
            have HBN3 := Lib.hid hbn3
            clear ho hbn3
            go_wp2_with fail
            exact ⟨QI.step l _ dw HP.out hlt HL.out HQ.out (by have := HC.out; omega) HBN3.out _ (by simp), by simp [intOf]; omega⟩
          · have p3 : ((dn : Int) == 65533) = false := by simp; omega
            go_wp2_with (at_builtin; refine wp_str rfl _ _ rfl w2 B (.slice A2 n2 c2) d2 l (by rfl) HO3.out (s.extract k (k + dw)) (by rfl) (by have := HL.out; rw [ByteArray.size_extract]; omega) hz3 ?_)
            intro v3 w3 ho
            have hbn3 := ho.partsN hz3 (fun g hg => (HO3.out.lt g hg).1) HB3.out
            change BN B w0 (l ++ cutN s k dw) v3 w3 at hbn3
            have HBN3 := Lib.hid hbn3
            clear ho hbn3
            go_wp2_with fail
            exact ⟨QI.step l _ dw HP.out hlt HL.out HQ.out (by have := HC.out; omega) HBN3.out _ (by simp), by simp [intOf]; omega⟩
    · obtain rfl : k = s.size := by omega
      go_wp2_with (at_builtin; refine wp_bytes rfl _ _ rfl wr _ _ rfl B (.slice A2 n2 c2) d2 l (by rfl) HO2.out [34] _ (by rfl) (by rfl) 1 (by rfl) (by rfl) (by have := HL.out; simp; omega) (by simp) (by simp) hz2 ?_)
      intro v3 w3 ho
      have HBN3 := Lib.hid (ho.partsN hz2 (fun g hg => (HO2.out.lt g hg).1) HB2.out)
      clear ho
      go_wp2_with fail
      go_ret
      refine ⟨_, rfl, ?_⟩
      have ht := HQ.out
      rw [tail_end, List.append_nil] at ht
      have h3 := HBN3.out
      rw [ht] at h3
      unfold quoted
      simpa [List.append_assoc] using h3
end Go.Proofs.YtghcggagpagfoaaGreatDoor
