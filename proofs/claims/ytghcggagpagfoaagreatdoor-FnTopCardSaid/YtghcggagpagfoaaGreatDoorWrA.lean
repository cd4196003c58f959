/-
  The writers' contracts: nodes without loops (n001_1001). Printed by genW.py.
-/
import Derived.Test.YtghcggagpagfoaaGreatDoorEnv
import Derived.Test.YtghcggagpagfoaaGreatDoorOp
namespace Go.Proofs.YtghcggagpagfoaaGreatDoor
set_option linter.unusedVariables false
set_option linter.unusedSimpArgs false
open Go.ChangeShapes Go.WideShapes Go.ChangeAt Go.RowKit M
set_option maxRecDepth 100000 in
set_option maxHeartbeats 8000000 in
theorem wEL (n : Nat) (IHQ : WC 16 .q n) : WC 76 .el (n + 1) := by
 intro w0 w B b p l l' t hw ha hb he hl hlen; have HB := Lh hb; have HE := Lh he; clear hb he
 cases hw with
 | el xc xt h1 h2 =>
  obtain ⟨hp, v0, v1, hr, f0, f1⟩ := inv_el ha; obtain ⟨r0, rfl, a0⟩ := f0; obtain ⟨r1, rfl, a1⟩ := f1; have HR := Lh hr; have A0 := Lh a0; have A1 := Lh a1; clear hr a0 a1 ha; obtain ⟨l1, hl1⟩ : ∃ x, x = l ++ [101, 108, 105, 102, 32] := ⟨_, rfl⟩
  have ql1 : l.length + 5 ≤ l1.length := by rw [hl1, List.length_append]; exact Nat.le_refl _
  obtain ⟨l2, hl2⟩ : ∃ x, x = pr n xc l1 := ⟨_, rfl⟩
  have ql2 : l1.length ≤ l2.length := by rw [hl2]; exact prLe _ _ _
  obtain ⟨l3, hl3⟩ : ∃ x, x = l2 ++ [32, 116, 104, 101, 110, 32] := ⟨_, rfl⟩
  have ql3 : l2.length + 6 ≤ l3.length := by rw [hl3, List.length_append]; exact Nat.le_refl _
  obtain ⟨l4, hl4⟩ : ∃ x, x = pr n xt l3 := ⟨_, rfl⟩
  have ql4 : l3.length ≤ l4.length := by rw [hl4]; exact prLe _ _ _
  have hX : l' = l4 := by rw [hl]; rw [hl4, hl3, hl2, hl1]; rfl
  rw [hX] at hlen; have HQ := Lh (And.intro hlen (And.intro ql1 (And.intro ql2 (And.intro ql3 ql4)))); have HLl1 := Lh hl1; have HLl2 := Lh hl2; have HLl3 := Lh hl3; have HLl4 := Lh hl4; rw [hX]; clear hX hlen hl ql1 ql2 ql3 ql4 hl1 hl2 hl3 hl4; obtain ⟨zHR_0, zHR_1⟩ := (HR.out.at hp HB.out.below).cs2 0 1; go_enter Tryz.func76, Tryz.ntmps76; go_wp2_with fail; refine (HB.out.wstr (⟨#[101, 108, 105, 102, 32]⟩ : ByteArray) l1 HLl1.out (by have := HQ.out; omega)).mono ?_; rintro e w1 ⟨rfl, hb⟩; have HB1 := Lh hb; clear hb; clear zHR_0 zHR_1; obtain ⟨zHR_0, zHR_1⟩ := (HR.out.at hp HB1.out.below).cs2 0 1; go_wp2_with fail; refine (IHQ w0 _ B b r0 l1 l2 xc h1 A0.out HB1.out HE.out HLl2.out (by have := HQ.out; omega)).mono ?_; rintro e w2 ⟨rfl, hb⟩; have HB2 := Lh hb; clear hb; clear zHR_0 zHR_1; obtain ⟨zHR_0, zHR_1⟩ := (HR.out.at hp HB2.out.below).cs2 0 1; go_wp2_with fail; refine (HB2.out.wstr (⟨#[32, 116, 104, 101, 110, 32]⟩ : ByteArray) l3 HLl3.out (by have := HQ.out; omega)).mono ?_; rintro e w3 ⟨rfl, hb⟩; have HB3 := Lh hb; clear hb; clear zHR_0 zHR_1; obtain ⟨zHR_0, zHR_1⟩ := (HR.out.at hp HB3.out.below).cs2 0 1; go_wp2_with fail; refine (IHQ w0 _ B b r1 l3 l4 xt h2 A1.out HB3.out HE.out HLl4.out (by have := HQ.out; omega)).mono ?_; rintro e w4 ⟨rfl, hb⟩; have HB4 := Lh hb; clear hb
  clear zHR_0 zHR_1; obtain ⟨zHR_0, zHR_1⟩ := (HR.out.at hp HB4.out.below).cs2 0 1; go_wp2_with fail
  first | go_ret | go_end0 | ((try simp only [Exit.inBlock, Exit.then]); first | refine bodyPost_ret (results_none rfl _ _ _) rfl ?_ | refine bodyPost_end (results_none rfl _ _ _) rfl ?_)
  exact ⟨rfl, HB4.out⟩
set_option maxRecDepth 100000 in
set_option maxHeartbeats 8000000 in
theorem wTR (n : Nat) (IHQ : WC 16 .q n) : WC 58 .tr (n + 1) := by
 intro w0 w B b p l l' t hw ha hb he hl hlen; have HB := Lh hb; have HE := Lh he; clear hb he
 cases hw with
 | tr xb xc h1 h2 =>
  obtain ⟨hp, v0, v1, hr, f0, f1⟩ := inv_tr ha; obtain ⟨r0, rfl, a0⟩ := f0; have A0 := Lh a0; clear a0 ha; rcases FV.pt f1 with ⟨rfl, rfl⟩ | ⟨y1, r1, rfl, rfl, a1⟩
  ·
   have HR := Lh hr; clear hr f1; obtain ⟨l1, hl1⟩ : ∃ x, x = l ++ [116, 114, 121, 32] := ⟨_, rfl⟩
   have ql1 : l.length + 4 ≤ l1.length := by rw [hl1, List.length_append]; exact Nat.le_refl _
   obtain ⟨l2, hl2⟩ : ∃ x, x = pr n xb l1 := ⟨_, rfl⟩
   have ql2 : l1.length ≤ l2.length := by rw [hl2]; exact prLe _ _ _
   have hX : l' = l2 := by rw [hl]; rw [hl2, hl1]; rfl
   rw [hX] at hlen; have HQ := Lh (And.intro hlen (And.intro ql1 ql2)); have HLl1 := Lh hl1; have HLl2 := Lh hl2; rw [hX]; clear hX hlen hl ql1 ql2 hl1 hl2; obtain ⟨zHR_0, zHR_1⟩ := (HR.out.at hp HB.out.below).cs2 0 1; go_enter Tryz.func58, Tryz.ntmps58; go_wp2_with fail; refine (HB.out.wstr (⟨#[116, 114, 121, 32]⟩ : ByteArray) l1 HLl1.out (by have := HQ.out; omega)).mono ?_; rintro e w1 ⟨rfl, hb⟩; have HB1 := Lh hb; clear hb; clear zHR_0 zHR_1; obtain ⟨zHR_0, zHR_1⟩ := (HR.out.at hp HB1.out.below).cs2 0 1; go_wp2_with fail; refine (IHQ w0 _ B b r0 l1 l2 xb h1 A0.out HB1.out HE.out HLl2.out (by have := HQ.out; omega)).mono ?_; rintro e w2 ⟨rfl, hb⟩; have HB2 := Lh hb; clear hb; clear zHR_0 zHR_1; obtain ⟨zHR_0, zHR_1⟩ := (HR.out.at hp HB2.out.below).cs2 0 1; go_wp2_with fail
   first | go_ret | go_end0 | ((try simp only [Exit.inBlock, Exit.then]); first | refine bodyPost_ret (results_none rfl _ _ _) rfl ?_ | refine bodyPost_end (results_none rfl _ _ _) rfl ?_)
   exact ⟨rfl, HB2.out⟩
  ·
   have HA1 := Lh a1; clear a1; have HR := Lh hr; clear hr f1; obtain ⟨l1, hl1⟩ : ∃ x, x = l ++ [116, 114, 121, 32] := ⟨_, rfl⟩
   have ql1 : l.length + 4 ≤ l1.length := by rw [hl1, List.length_append]; exact Nat.le_refl _
   obtain ⟨l2, hl2⟩ : ∃ x, x = pr n xb l1 := ⟨_, rfl⟩
   have ql2 : l1.length ≤ l2.length := by rw [hl2]; exact prLe _ _ _
   obtain ⟨l3, hl3⟩ : ∃ x, x = l2 ++ [32, 99, 97, 116, 99, 104, 32] := ⟨_, rfl⟩
   have ql3 : l2.length + 7 ≤ l3.length := by rw [hl3, List.length_append]; exact Nat.le_refl _
   obtain ⟨l4, hl4⟩ : ∃ x, x = pr n y1 l3 := ⟨_, rfl⟩
   have ql4 : l3.length ≤ l4.length := by rw [hl4]; exact prLe _ _ _
   have hX : l' = l4 := by rw [hl]; rw [hl4, hl3, hl2, hl1]; rfl
   rw [hX] at hlen; have HQ := Lh (And.intro hlen (And.intro ql1 (And.intro ql2 (And.intro ql3 ql4)))); have HLl1 := Lh hl1; have HLl2 := Lh hl2; have HLl3 := Lh hl3; have HLl4 := Lh hl4; rw [hX]; clear hX hlen hl ql1 ql2 ql3 ql4 hl1 hl2 hl3 hl4; obtain ⟨zHR_0, zHR_1⟩ := (HR.out.at hp HB.out.below).cs2 0 1; go_enter Tryz.func58, Tryz.ntmps58; go_wp2_with fail; refine (HB.out.wstr (⟨#[116, 114, 121, 32]⟩ : ByteArray) l1 HLl1.out (by have := HQ.out; omega)).mono ?_; rintro e w1 ⟨rfl, hb⟩; have HB1 := Lh hb; clear hb; clear zHR_0 zHR_1; obtain ⟨zHR_0, zHR_1⟩ := (HR.out.at hp HB1.out.below).cs2 0 1; go_wp2_with fail; refine (IHQ w0 _ B b r0 l1 l2 xb h1 A0.out HB1.out HE.out HLl2.out (by have := HQ.out; omega)).mono ?_; rintro e w2 ⟨rfl, hb⟩; have HB2 := Lh hb; clear hb; clear zHR_0 zHR_1; obtain ⟨zHR_0, zHR_1⟩ := (HR.out.at hp HB2.out.below).cs2 0 1; go_wp2_with fail; refine (HB2.out.wstr (⟨#[32, 99, 97, 116, 99, 104, 32]⟩ : ByteArray) l3 HLl3.out (by have := HQ.out; omega)).mono ?_; rintro e w3 ⟨rfl, hb⟩; have HB3 := Lh hb; clear hb; clear zHR_0 zHR_1; obtain ⟨zHR_0, zHR_1⟩ := (HR.out.at hp HB3.out.below).cs2 0 1; go_wp2_with fail; refine (IHQ w0 _ B b r1 l3 l4 y1 (h2 _ rfl) HA1.out HB3.out HE.out HLl4.out (by have := HQ.out; omega)).mono ?_; rintro e w4 ⟨rfl, hb⟩; have HB4 := Lh hb
   clear hb; clear zHR_0 zHR_1; obtain ⟨zHR_0, zHR_1⟩ := (HR.out.at hp HB4.out.below).cs2 0 1; go_wp2_with fail
   first | go_ret | go_end0 | ((try simp only [Exit.inBlock, Exit.then]); first | refine bodyPost_ret (results_none rfl _ _ _) rfl ?_ | refine bodyPost_end (results_none rfl _ _ _) rfl ?_)
   exact ⟨rfl, HB4.out⟩
set_option maxRecDepth 100000 in
set_option maxHeartbeats 8000000 in
theorem wRD (n : Nat) (IHQ : WC 16 .q n) (IHP : WC 45 .pt n) : WC 59 .rd (n + 1) := by
 intro w0 w B b p l l' t hw ha hb he hl hlen; have HB := Lh hb; have HE := Lh he; clear hb he
 cases hw with
 | rd xq xp xs xu h1 h2 h3 h4 =>
  obtain ⟨hp, v0, v1, v2, v3, hr, f0, f1, f2, f3⟩ := inv_rd ha; obtain ⟨r0, rfl, a0⟩ := f0; obtain ⟨r1, rfl, a1⟩ := f1; obtain ⟨r2, rfl, a2⟩ := f2; obtain ⟨r3, rfl, a3⟩ := f3; have HR := Lh hr; have A0 := Lh a0; have A1 := Lh a1; have A2 := Lh a2; have A3 := Lh a3; clear hr a0 a1 a2 a3 ha; obtain ⟨l1, hl1⟩ : ∃ x, x = l ++ [114, 101, 100, 117, 99, 101, 32] := ⟨_, rfl⟩
  have ql1 : l.length + 7 ≤ l1.length := by rw [hl1, List.length_append]; exact Nat.le_refl _
  obtain ⟨l2, hl2⟩ : ∃ x, x = pr n xq l1 := ⟨_, rfl⟩
  have ql2 : l1.length ≤ l2.length := by rw [hl2]; exact prLe _ _ _
  obtain ⟨l3, hl3⟩ : ∃ x, x = l2 ++ [32, 97, 115, 32] := ⟨_, rfl⟩
  have ql3 : l2.length + 4 ≤ l3.length := by rw [hl3, List.length_append]; exact Nat.le_refl _
  obtain ⟨l4, hl4⟩ : ∃ x, x = pr n xp l3 := ⟨_, rfl⟩
  have ql4 : l3.length ≤ l4.length := by rw [hl4]; exact prLe _ _ _
  obtain ⟨l5, hl5⟩ : ∃ x, x = l4 ++ [32, 40] := ⟨_, rfl⟩
  have ql5 : l4.length + 2 ≤ l5.length := by rw [hl5, List.length_append]; exact Nat.le_refl _
  obtain ⟨l6, hl6⟩ : ∃ x, x = pr n xs l5 := ⟨_, rfl⟩
  have ql6 : l5.length ≤ l6.length := by rw [hl6]; exact prLe _ _ _
  obtain ⟨l7, hl7⟩ : ∃ x, x = l6 ++ [59, 32] := ⟨_, rfl⟩
  have ql7 : l6.length + 2 ≤ l7.length := by rw [hl7, List.length_append]; exact Nat.le_refl _
  obtain ⟨l8, hl8⟩ : ∃ x, x = pr n xu l7 := ⟨_, rfl⟩
  have ql8 : l7.length ≤ l8.length := by rw [hl8]; exact prLe _ _ _
  obtain ⟨l9, hl9⟩ : ∃ x, x = l8 ++ [41] := ⟨_, rfl⟩
  have ql9 : l8.length + 1 ≤ l9.length := by rw [hl9, List.length_append]; exact Nat.le_refl _
  have hX : l' = l9 := by rw [hl]; rw [hl9, hl8, hl7, hl6, hl5, hl4, hl3, hl2, hl1]; rfl
  rw [hX] at hlen; have HQ := Lh (And.intro hlen (And.intro ql1 (And.intro ql2 (And.intro ql3 (And.intro ql4 (And.intro ql5 (And.intro ql6 (And.intro ql7 (And.intro ql8 ql9))))))))); have HLl1 := Lh hl1; have HLl2 := Lh hl2; have HLl3 := Lh hl3; have HLl4 := Lh hl4; have HLl5 := Lh hl5; have HLl6 := Lh hl6; have HLl7 := Lh hl7; have HLl8 := Lh hl8; have HLl9 := Lh hl9; rw [hX]; clear hX hlen hl ql1 ql2 ql3 ql4 ql5 ql6 ql7 ql8 ql9 hl1 hl2 hl3 hl4 hl5 hl6 hl7 hl8 hl9; obtain ⟨zHR_0, zHR_1, zHR_2, zHR_3⟩ := (HR.out.at hp HB.out.below).cs4 0 1 2 3; go_enter Tryz.func59, Tryz.ntmps59; go_wp2_with fail; refine (HB.out.wstr (⟨#[114, 101, 100, 117, 99, 101, 32]⟩ : ByteArray) l1 HLl1.out (by have := HQ.out; omega)).mono ?_; rintro e w1 ⟨rfl, hb⟩; have HB1 := Lh hb; clear hb; clear zHR_0 zHR_1 zHR_2 zHR_3; obtain ⟨zHR_0, zHR_1, zHR_2, zHR_3⟩ := (HR.out.at hp HB1.out.below).cs4 0 1 2 3; go_wp2_with fail; refine (IHQ w0 _ B b r0 l1 l2 xq h1 A0.out HB1.out HE.out HLl2.out (by have := HQ.out; omega)).mono ?_; rintro e w2 ⟨rfl, hb⟩; have HB2 := Lh hb; clear hb; clear zHR_0 zHR_1 zHR_2 zHR_3; obtain ⟨zHR_0, zHR_1, zHR_2, zHR_3⟩ := (HR.out.at hp HB2.out.below).cs4 0 1 2 3; go_wp2_with fail; refine (HB2.out.wstr (⟨#[32, 97, 115, 32]⟩ : ByteArray) l3 HLl3.out (by have := HQ.out; omega)).mono ?_
  rintro e w3 ⟨rfl, hb⟩; have HB3 := Lh hb; clear hb; clear zHR_0 zHR_1 zHR_2 zHR_3; obtain ⟨zHR_0, zHR_1, zHR_2, zHR_3⟩ := (HR.out.at hp HB3.out.below).cs4 0 1 2 3; go_wp2_with fail; refine (IHP w0 _ B b r1 l3 l4 xp h2 A1.out HB3.out HE.out HLl4.out (by have := HQ.out; omega)).mono ?_; rintro e w4 ⟨rfl, hb⟩; have HB4 := Lh hb; clear hb; clear zHR_0 zHR_1 zHR_2 zHR_3; obtain ⟨zHR_0, zHR_1, zHR_2, zHR_3⟩ := (HR.out.at hp HB4.out.below).cs4 0 1 2 3; go_wp2_with fail; refine (HB4.out.wstr (⟨#[32, 40]⟩ : ByteArray) l5 HLl5.out (by have := HQ.out; omega)).mono ?_; rintro e w5 ⟨rfl, hb⟩; have HB5 := Lh hb; clear hb; clear zHR_0 zHR_1 zHR_2 zHR_3; obtain ⟨zHR_0, zHR_1, zHR_2, zHR_3⟩ := (HR.out.at hp HB5.out.below).cs4 0 1 2 3; go_wp2_with fail; refine (IHQ w0 _ B b r2 l5 l6 xs h3 A2.out HB5.out HE.out HLl6.out (by have := HQ.out; omega)).mono ?_; rintro e w6 ⟨rfl, hb⟩; have HB6 := Lh hb; clear hb; clear zHR_0 zHR_1 zHR_2 zHR_3; obtain ⟨zHR_0, zHR_1, zHR_2, zHR_3⟩ := (HR.out.at hp HB6.out.below).cs4 0 1 2 3; go_wp2_with fail; refine (HB6.out.wstr (⟨#[59, 32]⟩ : ByteArray) l7 HLl7.out (by have := HQ.out; omega)).mono ?_; rintro e w7 ⟨rfl, hb⟩; have HB7 := Lh hb; clear hb
  clear zHR_0 zHR_1 zHR_2 zHR_3; obtain ⟨zHR_0, zHR_1, zHR_2, zHR_3⟩ := (HR.out.at hp HB7.out.below).cs4 0 1 2 3; go_wp2_with fail; refine (IHQ w0 _ B b r3 l7 l8 xu h4 A3.out HB7.out HE.out HLl8.out (by have := HQ.out; omega)).mono ?_; rintro e w8 ⟨rfl, hb⟩; have HB8 := Lh hb; clear hb; clear zHR_0 zHR_1 zHR_2 zHR_3; obtain ⟨zHR_0, zHR_1, zHR_2, zHR_3⟩ := (HR.out.at hp HB8.out.below).cs4 0 1 2 3; go_wp2_with fail; refine (HB8.out.wbyte 41 41 rfl l9 HLl9.out (by have := HQ.out; omega)).mono ?_; rintro e w9 ⟨rfl, hb⟩; have HB9 := Lh hb; clear hb; clear zHR_0 zHR_1 zHR_2 zHR_3; obtain ⟨zHR_0, zHR_1, zHR_2, zHR_3⟩ := (HR.out.at hp HB9.out.below).cs4 0 1 2 3; go_wp2_with fail
  first | go_ret | go_end0 | ((try simp only [Exit.inBlock, Exit.then]); first | refine bodyPost_ret (results_none rfl _ _ _) rfl ?_ | refine bodyPost_end (results_none rfl _ _ _) rfl ?_)
  exact ⟨rfl, HB9.out⟩
set_option maxRecDepth 100000 in
set_option maxHeartbeats 8000000 in
theorem wFE (n : Nat) (IHQ : WC 16 .q n) (IHP : WC 45 .pt n) : WC 60 .fe (n + 1) := by
 intro w0 w B b p l l' t hw ha hb he hl hlen; have HB := Lh hb; have HE := Lh he; clear hb he
 cases hw with
 | fe xq xp xs xu xe h1 h2 h3 h4 h5 =>
  obtain ⟨hp, v0, v1, v2, v3, v4, hr, f0, f1, f2, f3, f4⟩ := inv_fe ha; obtain ⟨r0, rfl, a0⟩ := f0; obtain ⟨r1, rfl, a1⟩ := f1; obtain ⟨r2, rfl, a2⟩ := f2; obtain ⟨r3, rfl, a3⟩ := f3; have A0 := Lh a0; have A1 := Lh a1; have A2 := Lh a2; have A3 := Lh a3; clear a0 a1 a2 a3 ha; rcases FV.pt f4 with ⟨rfl, rfl⟩ | ⟨y4, r4, rfl, rfl, a4⟩
  ·
   have HR := Lh hr; clear hr f4; obtain ⟨l1, hl1⟩ : ∃ x, x = l ++ [102, 111, 114, 101, 97, 99, 104, 32] := ⟨_, rfl⟩
   have ql1 : l.length + 8 ≤ l1.length := by rw [hl1, List.length_append]; exact Nat.le_refl _
   obtain ⟨l2, hl2⟩ : ∃ x, x = pr n xq l1 := ⟨_, rfl⟩
   have ql2 : l1.length ≤ l2.length := by rw [hl2]; exact prLe _ _ _
   obtain ⟨l3, hl3⟩ : ∃ x, x = l2 ++ [32, 97, 115, 32] := ⟨_, rfl⟩
   have ql3 : l2.length + 4 ≤ l3.length := by rw [hl3, List.length_append]; exact Nat.le_refl _
   obtain ⟨l4, hl4⟩ : ∃ x, x = pr n xp l3 := ⟨_, rfl⟩
   have ql4 : l3.length ≤ l4.length := by rw [hl4]; exact prLe _ _ _
   obtain ⟨l5, hl5⟩ : ∃ x, x = l4 ++ [32, 40] := ⟨_, rfl⟩
   have ql5 : l4.length + 2 ≤ l5.length := by rw [hl5, List.length_append]; exact Nat.le_refl _
   obtain ⟨l6, hl6⟩ : ∃ x, x = pr n xs l5 := ⟨_, rfl⟩
   have ql6 : l5.length ≤ l6.length := by rw [hl6]; exact prLe _ _ _
   obtain ⟨l7, hl7⟩ : ∃ x, x = l6 ++ [59, 32] := ⟨_, rfl⟩
   have ql7 : l6.length + 2 ≤ l7.length := by rw [hl7, List.length_append]; exact Nat.le_refl _
   obtain ⟨l8, hl8⟩ : ∃ x, x = pr n xu l7 := ⟨_, rfl⟩
   have ql8 : l7.length ≤ l8.length := by rw [hl8]; exact prLe _ _ _
   obtain ⟨l9, hl9⟩ : ∃ x, x = l8 ++ [41] := ⟨_, rfl⟩
   have ql9 : l8.length + 1 ≤ l9.length := by rw [hl9, List.length_append]; exact Nat.le_refl _
   have hX : l' = l9 := by rw [hl]; rw [hl9, hl8, hl7, hl6, hl5, hl4, hl3, hl2, hl1]; rfl
   rw [hX] at hlen; have HQ := Lh (And.intro hlen (And.intro ql1 (And.intro ql2 (And.intro ql3 (And.intro ql4 (And.intro ql5 (And.intro ql6 (And.intro ql7 (And.intro ql8 ql9))))))))); have HLl1 := Lh hl1; have HLl2 := Lh hl2; have HLl3 := Lh hl3; have HLl4 := Lh hl4; have HLl5 := Lh hl5; have HLl6 := Lh hl6; have HLl7 := Lh hl7; have HLl8 := Lh hl8; have HLl9 := Lh hl9; rw [hX]; clear hX hlen hl ql1 ql2 ql3 ql4 ql5 ql6 ql7 ql8 ql9 hl1 hl2 hl3 hl4 hl5 hl6 hl7 hl8 hl9; obtain ⟨zHR_0, zHR_1, zHR_2, zHR_3, zHR_4⟩ := (HR.out.at hp HB.out.below).cs5 0 1 2 3 4; go_enter Tryz.func60, Tryz.ntmps60; go_wp2_with fail; refine (HB.out.wstr (⟨#[102, 111, 114, 101, 97, 99, 104, 32]⟩ : ByteArray) l1 HLl1.out (by have := HQ.out; omega)).mono ?_; rintro e w1 ⟨rfl, hb⟩; have HB1 := Lh hb; clear hb; clear zHR_0 zHR_1 zHR_2 zHR_3 zHR_4; obtain ⟨zHR_0, zHR_1, zHR_2, zHR_3, zHR_4⟩ := (HR.out.at hp HB1.out.below).cs5 0 1 2 3 4; go_wp2_with fail; refine (IHQ w0 _ B b r0 l1 l2 xq h1 A0.out HB1.out HE.out HLl2.out (by have := HQ.out; omega)).mono ?_; rintro e w2 ⟨rfl, hb⟩; have HB2 := Lh hb; clear hb; clear zHR_0 zHR_1 zHR_2 zHR_3 zHR_4; obtain ⟨zHR_0, zHR_1, zHR_2, zHR_3, zHR_4⟩ := (HR.out.at hp HB2.out.below).cs5 0 1 2 3 4; go_wp2_with fail; refine (HB2.out.wstr (⟨#[32, 97, 115, 32]⟩ : ByteArray) l3 HLl3.out (by have := HQ.out; omega)).mono ?_; rintro e w3 ⟨rfl, hb⟩; have HB3 := Lh hb; clear hb; clear zHR_0 zHR_1 zHR_2 zHR_3 zHR_4; obtain ⟨zHR_0, zHR_1, zHR_2, zHR_3, zHR_4⟩ := (HR.out.at hp HB3.out.below).cs5 0 1 2 3 4; go_wp2_with fail; refine (IHP w0 _ B b r1 l3 l4 xp h2 A1.out HB3.out HE.out HLl4.out (by have := HQ.out; omega)).mono ?_; rintro e w4 ⟨rfl, hb⟩; have HB4 := Lh hb; clear hb; clear zHR_0 zHR_1 zHR_2 zHR_3 zHR_4; obtain ⟨zHR_0, zHR_1, zHR_2, zHR_3, zHR_4⟩ := (HR.out.at hp HB4.out.below).cs5 0 1 2 3 4; go_wp2_with fail; refine (HB4.out.wstr (⟨#[32, 40]⟩ : ByteArray) l5 HLl5.out (by have := HQ.out; omega)).mono ?_; rintro e w5 ⟨rfl, hb⟩; have HB5 := Lh hb; clear hb; clear zHR_0 zHR_1 zHR_2 zHR_3 zHR_4; obtain ⟨zHR_0, zHR_1, zHR_2, zHR_3, zHR_4⟩ := (HR.out.at hp HB5.out.below).cs5 0 1 2 3 4; go_wp2_with fail; refine (IHQ w0 _ B b r2 l5 l6 xs h3 A2.out HB5.out HE.out HLl6.out (by have := HQ.out; omega)).mono ?_; rintro e w6 ⟨rfl, hb⟩; have HB6 := Lh hb; clear hb; clear zHR_0 zHR_1 zHR_2 zHR_3 zHR_4; obtain ⟨zHR_0, zHR_1, zHR_2, zHR_3, zHR_4⟩ := (HR.out.at hp HB6.out.below).cs5 0 1 2 3 4; go_wp2_with fail; refine (HB6.out.wstr (⟨#[59, 32]⟩ : ByteArray) l7 HLl7.out (by have := HQ.out; omega)).mono ?_; rintro e w7 ⟨rfl, hb⟩; have HB7 := Lh hb; clear hb; clear zHR_0 zHR_1 zHR_2 zHR_3 zHR_4; obtain ⟨zHR_0, zHR_1, zHR_2, zHR_3, zHR_4⟩ := (HR.out.at hp HB7.out.below).cs5 0 1 2 3 4; go_wp2_with fail; refine (IHQ w0 _ B b r3 l7 l8 xu h4 A3.out HB7.out HE.out HLl8.out (by have := HQ.out; omega)).mono ?_; rintro e w8 ⟨rfl, hb⟩; have HB8 := Lh hb; clear hb; clear zHR_0 zHR_1 zHR_2 zHR_3 zHR_4; obtain ⟨zHR_0, zHR_1, zHR_2, zHR_3, zHR_4⟩ := (HR.out.at hp HB8.out.below).cs5 0 1 2 3 4; go_wp2_with fail; refine (HB8.out.wbyte 41 41 rfl l9 HLl9.out (by have := HQ.out; omega)).mono ?_; rintro e w9 ⟨rfl, hb⟩; have HB9 := Lh hb; clear hb; clear zHR_0 zHR_1 zHR_2 zHR_3 zHR_4; obtain ⟨zHR_0, zHR_1, zHR_2, zHR_3, zHR_4⟩ := (HR.out.at hp HB9.out.below).cs5 0 1 2 3 4; go_wp2_with fail
   first | go_ret | go_end0 | ((try simp only [Exit.inBlock, Exit.then]); first | refine bodyPost_ret (results_none rfl _ _ _) rfl ?_ | refine bodyPost_end (results_none rfl _ _ _) rfl ?_)
   exact ⟨rfl, HB9.out⟩
  ·
   have HA4 := Lh a4; clear a4; have HR := Lh hr; clear hr f4; obtain ⟨l1, hl1⟩ : ∃ x, x = l ++ [102, 111, 114, 101, 97, 99, 104, 32] := ⟨_, rfl⟩
   have ql1 : l.length + 8 ≤ l1.length := by rw [hl1, List.length_append]; exact Nat.le_refl _
   obtain ⟨l2, hl2⟩ : ∃ x, x = pr n xq l1 := ⟨_, rfl⟩
   have ql2 : l1.length ≤ l2.length := by rw [hl2]; exact prLe _ _ _
   obtain ⟨l3, hl3⟩ : ∃ x, x = l2 ++ [32, 97, 115, 32] := ⟨_, rfl⟩
   have ql3 : l2.length + 4 ≤ l3.length := by rw [hl3, List.length_append]; exact Nat.le_refl _
   obtain ⟨l4, hl4⟩ : ∃ x, x = pr n xp l3 := ⟨_, rfl⟩
   have ql4 : l3.length ≤ l4.length := by rw [hl4]; exact prLe _ _ _
   obtain ⟨l5, hl5⟩ : ∃ x, x = l4 ++ [32, 40] := ⟨_, rfl⟩
   have ql5 : l4.length + 2 ≤ l5.length := by rw [hl5, List.length_append]; exact Nat.le_refl _
   obtain ⟨l6, hl6⟩ : ∃ x, x = pr n xs l5 := ⟨_, rfl⟩
   have ql6 : l5.length ≤ l6.length := by rw [hl6]; exact prLe _ _ _
   obtain ⟨l7, hl7⟩ : ∃ x, x = l6 ++ [59, 32] := ⟨_, rfl⟩
   have ql7 : l6.length + 2 ≤ l7.length := by rw [hl7, List.length_append]; exact Nat.le_refl _
   obtain ⟨l8, hl8⟩ : ∃ x, x = pr n xu l7 := ⟨_, rfl⟩
   have ql8 : l7.length ≤ l8.length := by rw [hl8]; exact prLe _ _ _
   obtain ⟨l9, hl9⟩ : ∃ x, x = l8 ++ [59, 32] := ⟨_, rfl⟩
   have ql9 : l8.length + 2 ≤ l9.length := by rw [hl9, List.length_append]; exact Nat.le_refl _
   obtain ⟨l10, hl10⟩ : ∃ x, x = pr n y4 l9 := ⟨_, rfl⟩
   have ql10 : l9.length ≤ l10.length := by rw [hl10]; exact prLe _ _ _
   obtain ⟨l11, hl11⟩ : ∃ x, x = l10 ++ [41] := ⟨_, rfl⟩
   have ql11 : l10.length + 1 ≤ l11.length := by rw [hl11, List.length_append]; exact Nat.le_refl _
   have hX : l' = l11 := by rw [hl]; rw [hl11, hl10, hl9, hl8, hl7, hl6, hl5, hl4, hl3, hl2, hl1]; rfl
   rw [hX] at hlen; have HQ := Lh (And.intro hlen (And.intro ql1 (And.intro ql2 (And.intro ql3 (And.intro ql4 (And.intro ql5 (And.intro ql6 (And.intro ql7 (And.intro ql8 (And.intro ql9 (And.intro ql10 ql11))))))))))); have HLl1 := Lh hl1; have HLl2 := Lh hl2; have HLl3 := Lh hl3; have HLl4 := Lh hl4; have HLl5 := Lh hl5; have HLl6 := Lh hl6; have HLl7 := Lh hl7; have HLl8 := Lh hl8; have HLl9 := Lh hl9; have HLl10 := Lh hl10; have HLl11 := Lh hl11; rw [hX]; clear hX hlen hl ql1 ql2 ql3 ql4 ql5 ql6 ql7 ql8 ql9 ql10 ql11 hl1 hl2 hl3 hl4 hl5 hl6 hl7 hl8 hl9 hl10 hl11; obtain ⟨zHR_0, zHR_1, zHR_2, zHR_3, zHR_4⟩ := (HR.out.at hp HB.out.below).cs5 0 1 2 3 4; go_enter Tryz.func60, Tryz.ntmps60; go_wp2_with fail; refine (HB.out.wstr (⟨#[102, 111, 114, 101, 97, 99, 104, 32]⟩ : ByteArray) l1 HLl1.out (by have := HQ.out; omega)).mono ?_; rintro e w1 ⟨rfl, hb⟩; have HB1 := Lh hb; clear hb; clear zHR_0 zHR_1 zHR_2 zHR_3 zHR_4; obtain ⟨zHR_0, zHR_1, zHR_2, zHR_3, zHR_4⟩ := (HR.out.at hp HB1.out.below).cs5 0 1 2 3 4; go_wp2_with fail; refine (IHQ w0 _ B b r0 l1 l2 xq h1 A0.out HB1.out HE.out HLl2.out (by have := HQ.out; omega)).mono ?_; rintro e w2 ⟨rfl, hb⟩; have HB2 := Lh hb; clear hb; clear zHR_0 zHR_1 zHR_2 zHR_3 zHR_4; obtain ⟨zHR_0, zHR_1, zHR_2, zHR_3, zHR_4⟩ := (HR.out.at hp HB2.out.below).cs5 0 1 2 3 4; go_wp2_with fail; refine (HB2.out.wstr (⟨#[32, 97, 115, 32]⟩ : ByteArray) l3 HLl3.out (by have := HQ.out; omega)).mono ?_; rintro e w3 ⟨rfl, hb⟩; have HB3 := Lh hb; clear hb; clear zHR_0 zHR_1 zHR_2 zHR_3 zHR_4; obtain ⟨zHR_0, zHR_1, zHR_2, zHR_3, zHR_4⟩ := (HR.out.at hp HB3.out.below).cs5 0 1 2 3 4; go_wp2_with fail; refine (IHP w0 _ B b r1 l3 l4 xp h2 A1.out HB3.out HE.out HLl4.out (by have := HQ.out; omega)).mono ?_; rintro e w4 ⟨rfl, hb⟩; have HB4 := Lh hb; clear hb; clear zHR_0 zHR_1 zHR_2 zHR_3 zHR_4; obtain ⟨zHR_0, zHR_1, zHR_2, zHR_3, zHR_4⟩ := (HR.out.at hp HB4.out.below).cs5 0 1 2 3 4; go_wp2_with fail; refine (HB4.out.wstr (⟨#[32, 40]⟩ : ByteArray) l5 HLl5.out (by have := HQ.out; omega)).mono ?_; rintro e w5 ⟨rfl, hb⟩; have HB5 := Lh hb; clear hb; clear zHR_0 zHR_1 zHR_2 zHR_3 zHR_4; obtain ⟨zHR_0, zHR_1, zHR_2, zHR_3, zHR_4⟩ := (HR.out.at hp HB5.out.below).cs5 0 1 2 3 4; go_wp2_with fail; refine (IHQ w0 _ B b r2 l5 l6 xs h3 A2.out HB5.out HE.out HLl6.out (by have := HQ.out; omega)).mono ?_; rintro e w6 ⟨rfl, hb⟩; have HB6 := Lh hb; clear hb
   clear zHR_0 zHR_1 zHR_2 zHR_3 zHR_4; obtain ⟨zHR_0, zHR_1, zHR_2, zHR_3, zHR_4⟩ := (HR.out.at hp HB6.out.below).cs5 0 1 2 3 4; go_wp2_with fail; refine (HB6.out.wstr (⟨#[59, 32]⟩ : ByteArray) l7 HLl7.out (by have := HQ.out; omega)).mono ?_; rintro e w7 ⟨rfl, hb⟩; have HB7 := Lh hb; clear hb; clear zHR_0 zHR_1 zHR_2 zHR_3 zHR_4; obtain ⟨zHR_0, zHR_1, zHR_2, zHR_3, zHR_4⟩ := (HR.out.at hp HB7.out.below).cs5 0 1 2 3 4; go_wp2_with fail; refine (IHQ w0 _ B b r3 l7 l8 xu h4 A3.out HB7.out HE.out HLl8.out (by have := HQ.out; omega)).mono ?_; rintro e w8 ⟨rfl, hb⟩; have HB8 := Lh hb; clear hb; clear zHR_0 zHR_1 zHR_2 zHR_3 zHR_4; obtain ⟨zHR_0, zHR_1, zHR_2, zHR_3, zHR_4⟩ := (HR.out.at hp HB8.out.below).cs5 0 1 2 3 4; go_wp2_with fail; refine (HB8.out.wstr (⟨#[59, 32]⟩ : ByteArray) l9 HLl9.out (by have := HQ.out; omega)).mono ?_; rintro e w9 ⟨rfl, hb⟩; have HB9 := Lh hb; clear hb; clear zHR_0 zHR_1 zHR_2 zHR_3 zHR_4; obtain ⟨zHR_0, zHR_1, zHR_2, zHR_3, zHR_4⟩ := (HR.out.at hp HB9.out.below).cs5 0 1 2 3 4; go_wp2_with fail; refine (IHQ w0 _ B b r4 l9 l10 y4 (h5 _ rfl) HA4.out HB9.out HE.out HLl10.out (by have := HQ.out; omega)).mono ?_
   rintro e w10 ⟨rfl, hb⟩; have HB10 := Lh hb; clear hb; clear zHR_0 zHR_1 zHR_2 zHR_3 zHR_4; obtain ⟨zHR_0, zHR_1, zHR_2, zHR_3, zHR_4⟩ := (HR.out.at hp HB10.out.below).cs5 0 1 2 3 4; go_wp2_with fail; refine (HB10.out.wbyte 41 41 rfl l11 HLl11.out (by have := HQ.out; omega)).mono ?_; rintro e w11 ⟨rfl, hb⟩; have HB11 := Lh hb; clear hb; clear zHR_0 zHR_1 zHR_2 zHR_3 zHR_4; obtain ⟨zHR_0, zHR_1, zHR_2, zHR_3, zHR_4⟩ := (HR.out.at hp HB11.out.below).cs5 0 1 2 3 4; go_wp2_with fail
   first | go_ret | go_end0 | ((try simp only [Exit.inBlock, Exit.then]); first | refine bodyPost_ret (results_none rfl _ _ _) rfl ?_ | refine bodyPost_end (results_none rfl _ _ _) rfl ?_)
   exact ⟨rfl, HB11.out⟩
set_option maxRecDepth 100000 in
set_option maxHeartbeats 8000000 in
theorem wLB (n : Nat) (IHQ : WC 16 .q n) : WC 61 .lb (n + 1) := by
 intro w0 w B b p l l' t hw ha hb he hl hlen; have HB := Lh hb; have HE := Lh he; clear hb he
 cases hw with
 | lb xi xb h1 =>
  obtain ⟨hp, v1, hr, f1⟩ := inv_lb ha; obtain ⟨r1, rfl, a1⟩ := f1; have HR := Lh hr; have A1 := Lh a1; clear hr a1 ha; obtain ⟨l1, hl1⟩ : ∃ x, x = l ++ [108, 97, 98, 101, 108, 32] := ⟨_, rfl⟩
  have ql1 : l.length + 6 ≤ l1.length := by rw [hl1, List.length_append]; exact Nat.le_refl _
  obtain ⟨l2, hl2⟩ : ∃ x, x = l1 ++ xi.data.toList := ⟨_, rfl⟩
  have ql2 : l1.length ≤ l2.length := by rw [hl2, List.length_append]; omega
  obtain ⟨l3, hl3⟩ : ∃ x, x = l2 ++ [32, 124, 32] := ⟨_, rfl⟩
  have ql3 : l2.length + 3 ≤ l3.length := by rw [hl3, List.length_append]; exact Nat.le_refl _
  obtain ⟨l4, hl4⟩ : ∃ x, x = pr n xb l3 := ⟨_, rfl⟩
  have ql4 : l3.length ≤ l4.length := by rw [hl4]; exact prLe _ _ _
  have hX : l' = l4 := by rw [hl]; rw [hl4, hl3, hl2, hl1]; rfl
  rw [hX] at hlen; have HQ := Lh (And.intro hlen (And.intro ql1 (And.intro ql2 (And.intro ql3 ql4)))); have HLl1 := Lh hl1; have HLl2 := Lh hl2; have HLl3 := Lh hl3; have HLl4 := Lh hl4; rw [hX]; clear hX hlen hl ql1 ql2 ql3 ql4 hl1 hl2 hl3 hl4; obtain ⟨zHR_0, zHR_1⟩ := (HR.out.at hp HB.out.below).cs2 0 1; go_enter Tryz.func61, Tryz.ntmps61; go_wp2_with fail; refine (HB.out.wstr (⟨#[108, 97, 98, 101, 108, 32]⟩ : ByteArray) l1 HLl1.out (by have := HQ.out; omega)).mono ?_; rintro e w1 ⟨rfl, hb⟩; have HB1 := Lh hb; clear hb; clear zHR_0 zHR_1; obtain ⟨zHR_0, zHR_1⟩ := (HR.out.at hp HB1.out.below).cs2 0 1; go_wp2_with fail; refine (HB1.out.wstr xi l2 HLl2.out (by have := HQ.out; omega)).mono ?_; rintro e w2 ⟨rfl, hb⟩; have HB2 := Lh hb; clear hb; clear zHR_0 zHR_1; obtain ⟨zHR_0, zHR_1⟩ := (HR.out.at hp HB2.out.below).cs2 0 1; go_wp2_with fail; refine (HB2.out.wstr (⟨#[32, 124, 32]⟩ : ByteArray) l3 HLl3.out (by have := HQ.out; omega)).mono ?_; rintro e w3 ⟨rfl, hb⟩; have HB3 := Lh hb; clear hb; clear zHR_0 zHR_1; obtain ⟨zHR_0, zHR_1⟩ := (HR.out.at hp HB3.out.below).cs2 0 1; go_wp2_with fail; refine (IHQ w0 _ B b r1 l3 l4 xb h1 A1.out HB3.out HE.out HLl4.out (by have := HQ.out; omega)).mono ?_; rintro e w4 ⟨rfl, hb⟩; have HB4 := Lh hb; clear hb; clear zHR_0 zHR_1; obtain ⟨zHR_0, zHR_1⟩ := (HR.out.at hp HB4.out.below).cs2 0 1; go_wp2_with fail
  first | go_ret | go_end0 | ((try simp only [Exit.inBlock, Exit.then]); first | refine bodyPost_ret (results_none rfl _ _ _) rfl ?_ | refine bodyPost_end (results_none rfl _ _ _) rfl ?_)
  exact ⟨rfl, HB4.out⟩
set_option maxRecDepth 100000 in
set_option maxHeartbeats 8000000 in
theorem wUN (n : Nat) (IHT : WC 23 .t n) : WC 55 .un (n + 1) := by
 intro w0 w B b p l l' t hw ha hb he hl hlen; have HB := Lh hb; have HE := Lh he; clear hb he
 cases hw with
 | un xo xt h1 h2 h3 =>
  obtain ⟨hp, v1, hr, f1⟩ := inv_un ha; obtain ⟨r1, rfl, a1⟩ := f1; have HR := Lh hr; have A1 := Lh a1; clear hr a1 ha; obtain ⟨l1, hl1⟩ : ∃ x, x = l ++ opT xo := ⟨_, rfl⟩
  have ql1 : l.length ≤ l1.length := by rw [hl1, List.length_append]; omega
  obtain ⟨l2, hl2⟩ : ∃ x, x = pr n xt l1 := ⟨_, rfl⟩
  have ql2 : l1.length ≤ l2.length := by rw [hl2]; exact prLe _ _ _
  have hX : l' = l2 := by rw [hl]; rw [hl2, hl1]; rfl
  rw [hX] at hlen; have HQ := Lh (And.intro hlen (And.intro ql1 ql2)); have HLl1 := Lh hl1; have HLl2 := Lh hl2; rw [hX]; clear hX hlen hl ql1 ql2 hl1 hl2; obtain ⟨zHR_0, zHR_1⟩ := (HR.out.at hp HB.out.below).cs2 0 1; go_enter Tryz.func55, Tryz.ntmps55; go_wp2_with fail; refine (opC xo _ h1 h2).mono ?_; rintro e w9 ⟨rfl, rfl⟩; go_wp2_with fail; refine (HB.out.wstr ⟨(opT xo).toArray⟩ l1 HLl1.out (by have := HQ.out; omega)).mono ?_; rintro e w1 ⟨rfl, hb⟩; have HB1 := Lh hb; clear hb; clear zHR_0 zHR_1; obtain ⟨zHR_0, zHR_1⟩ := (HR.out.at hp HB1.out.below).cs2 0 1; go_wp2_with fail; refine (IHT w0 _ B b r1 l1 l2 xt h3 A1.out HB1.out HE.out HLl2.out (by have := HQ.out; omega)).mono ?_; rintro e w2 ⟨rfl, hb⟩; have HB2 := Lh hb; clear hb; clear zHR_0 zHR_1; obtain ⟨zHR_0, zHR_1⟩ := (HR.out.at hp HB2.out.below).cs2 0 1; go_wp2_with fail
  first | go_ret | go_end0 | ((try simp only [Exit.inBlock, Exit.then]); first | refine bodyPost_ret (results_none rfl _ _ _) rfl ?_ | refine bodyPost_end (results_none rfl _ _ _) rfl ?_)
  exact ⟨rfl, HB2.out⟩
set_option maxRecDepth 100000 in
set_option maxHeartbeats 8000000 in
theorem wAR (n : Nat) (IHQ : WC 16 .q n) : WC 54 .ar (n + 1) := by
 intro w0 w B b p l l' t hw ha hb he hl hlen; have HB := Lh hb; have HE := Lh he; clear hb he
 cases hw with
 | ar xq h1 =>
  obtain ⟨hp, v0, hr, f0⟩ := inv_ar ha; clear ha; rcases FV.pt f0 with ⟨rfl, rfl⟩ | ⟨y0, r0, rfl, rfl, a0⟩
  ·
   have HR := Lh hr; clear hr f0; obtain ⟨l1, hl1⟩ : ∃ x, x = l ++ [91] := ⟨_, rfl⟩
   have ql1 : l.length + 1 ≤ l1.length := by rw [hl1, List.length_append]; exact Nat.le_refl _
   obtain ⟨l2, hl2⟩ : ∃ x, x = l1 ++ [93] := ⟨_, rfl⟩
   have ql2 : l1.length + 1 ≤ l2.length := by rw [hl2, List.length_append]; exact Nat.le_refl _
   have hX : l' = l2 := by rw [hl]; rw [hl2, hl1]; rfl
   rw [hX] at hlen; have HQ := Lh (And.intro hlen (And.intro ql1 ql2)); have HLl1 := Lh hl1; have HLl2 := Lh hl2; rw [hX]; clear hX hlen hl ql1 ql2 hl1 hl2; have zHR_0 := (HR.out.at hp HB.out.below).cell 0; go_enter Tryz.func54, Tryz.ntmps54; go_wp2_with fail; refine (HB.out.wbyte 91 91 rfl l1 HLl1.out (by have := HQ.out; omega)).mono ?_; rintro e w1 ⟨rfl, hb⟩; have HB1 := Lh hb; clear hb; clear zHR_0; have zHR_0 := (HR.out.at hp HB1.out.below).cell 0; go_wp2_with fail; refine (HB1.out.wbyte 93 93 rfl l2 HLl2.out (by have := HQ.out; omega)).mono ?_; rintro e w2 ⟨rfl, hb⟩; have HB2 := Lh hb; clear hb; clear zHR_0; have zHR_0 := (HR.out.at hp HB2.out.below).cell 0; go_wp2_with fail
   first | go_ret | go_end0 | ((try simp only [Exit.inBlock, Exit.then]); first | refine bodyPost_ret (results_none rfl _ _ _) rfl ?_ | refine bodyPost_end (results_none rfl _ _ _) rfl ?_)
   exact ⟨rfl, HB2.out⟩
  ·
   have HA0 := Lh a0; clear a0; have HR := Lh hr; clear hr f0; obtain ⟨l1, hl1⟩ : ∃ x, x = l ++ [91] := ⟨_, rfl⟩
   have ql1 : l.length + 1 ≤ l1.length := by rw [hl1, List.length_append]; exact Nat.le_refl _
   obtain ⟨l2, hl2⟩ : ∃ x, x = pr n y0 l1 := ⟨_, rfl⟩
   have ql2 : l1.length ≤ l2.length := by rw [hl2]; exact prLe _ _ _
   obtain ⟨l3, hl3⟩ : ∃ x, x = l2 ++ [93] := ⟨_, rfl⟩
   have ql3 : l2.length + 1 ≤ l3.length := by rw [hl3, List.length_append]; exact Nat.le_refl _
   have hX : l' = l3 := by rw [hl]; rw [hl3, hl2, hl1]; rfl
   rw [hX] at hlen; have HQ := Lh (And.intro hlen (And.intro ql1 (And.intro ql2 ql3))); have HLl1 := Lh hl1; have HLl2 := Lh hl2; have HLl3 := Lh hl3; rw [hX]; clear hX hlen hl ql1 ql2 ql3 hl1 hl2 hl3; have zHR_0 := (HR.out.at hp HB.out.below).cell 0; go_enter Tryz.func54, Tryz.ntmps54; go_wp2_with fail; refine (HB.out.wbyte 91 91 rfl l1 HLl1.out (by have := HQ.out; omega)).mono ?_; rintro e w1 ⟨rfl, hb⟩; have HB1 := Lh hb; clear hb; clear zHR_0; have zHR_0 := (HR.out.at hp HB1.out.below).cell 0; go_wp2_with fail; refine (IHQ w0 _ B b r0 l1 l2 y0 (h1 _ rfl) HA0.out HB1.out HE.out HLl2.out (by have := HQ.out; omega)).mono ?_; rintro e w2 ⟨rfl, hb⟩; have HB2 := Lh hb; clear hb; clear zHR_0; have zHR_0 := (HR.out.at hp HB2.out.below).cell 0; go_wp2_with fail; refine (HB2.out.wbyte 93 93 rfl l3 HLl3.out (by have := HQ.out; omega)).mono ?_; rintro e w3 ⟨rfl, hb⟩; have HB3 := Lh hb; clear hb; clear zHR_0; have zHR_0 := (HR.out.at hp HB3.out.below).cell 0; go_wp2_with fail
   first | go_ret | go_end0 | ((try simp only [Exit.inBlock, Exit.then]); first | refine bodyPost_ret (results_none rfl _ _ _) rfl ?_ | refine bodyPost_end (results_none rfl _ _ _) rfl ?_)
   exact ⟨rfl, HB3.out⟩
set_option maxRecDepth 100000 in
set_option maxHeartbeats 8000000 in
theorem wCKV (n : Nat) (IHC : WC 78 .ct n) : WC 66 .ckv (n + 1) := by
 intro w0 w B b p l l' t hw ha hb he hl hlen; have HB := Lh hb; have HE := Lh he; clear hb he
 cases hw with
 | ckv xk xs xv h1 h2 =>
  obtain ⟨hp, v2, hr, f2⟩ := inv_ckv ha; obtain ⟨r2, rfl, a2⟩ := f2; have A2 := Lh a2; clear a2 ha
  by_cases hk : xk.size = 0
  ·
   obtain rfl := isE hk; have HR := Lh hr; clear hr hk; obtain ⟨l1, hl1⟩ : ∃ x, x = l ++ quoted xs := ⟨_, rfl⟩
   have ql1 : l.length ≤ l1.length := by rw [hl1, List.length_append]; omega
   obtain ⟨l2, hl2⟩ : ∃ x, x = l1 ++ [58, 32] := ⟨_, rfl⟩
   have ql2 : l1.length + 2 ≤ l2.length := by rw [hl2, List.length_append]; exact Nat.le_refl _
   obtain ⟨l3, hl3⟩ : ∃ x, x = pr n xv l2 := ⟨_, rfl⟩
   have ql3 : l2.length ≤ l3.length := by rw [hl3]; exact prLe _ _ _
   have hX : l' = l3 := by rw [hl]; rw [hl3, hl2, hl1]; rfl
   rw [hX] at hlen; have HQ := Lh (And.intro hlen (And.intro ql1 (And.intro ql2 ql3))); have HLl1 := Lh hl1; have HLl2 := Lh hl2; have HLl3 := Lh hl3; rw [hX]; clear hX hlen hl ql1 ql2 ql3 hl1 hl2 hl3; obtain ⟨zHR_0, zHR_1, zHR_2⟩ := (HR.out.at hp HB.out.below).cs3 0 1 2; go_enter Tryz.func66, Tryz.ntmps66; go_wp2_with fail; refine (HB.out.wesc HE.out xs h1 l1 HLl1.out (by have := HQ.out; omega)).mono ?_; rintro e w1 ⟨rfl, hb⟩; have HB1 := Lh hb; clear hb; clear zHR_0 zHR_1 zHR_2; obtain ⟨zHR_0, zHR_1, zHR_2⟩ := (HR.out.at hp HB1.out.below).cs3 0 1 2; go_wp2_with fail; refine (HB1.out.wstr (⟨#[58, 32]⟩ : ByteArray) l2 HLl2.out (by have := HQ.out; omega)).mono ?_; rintro e w2 ⟨rfl, hb⟩; have HB2 := Lh hb; clear hb; clear zHR_0 zHR_1 zHR_2; obtain ⟨zHR_0, zHR_1, zHR_2⟩ := (HR.out.at hp HB2.out.below).cs3 0 1 2; go_wp2_with fail; refine (IHC w0 _ B b r2 l2 l3 xv h2 A2.out HB2.out HE.out HLl3.out (by have := HQ.out; omega)).mono ?_; rintro e w3 ⟨rfl, hb⟩; have HB3 := Lh hb; clear hb; clear zHR_0 zHR_1 zHR_2; obtain ⟨zHR_0, zHR_1, zHR_2⟩ := (HR.out.at hp HB3.out.below).cs3 0 1 2; go_wp2_with fail
   first | go_ret | go_end0 | ((try simp only [Exit.inBlock, Exit.then]); first | refine bodyPost_ret (results_none rfl _ _ _) rfl ?_ | refine bodyPost_end (results_none rfl _ _ _) rfl ?_)
   exact ⟨rfl, HB3.out⟩
  ·
   have hE := isE1 hk; have HR := Lh hr; clear hr; have HK := Lh hk; clear hk; obtain ⟨l1, hl1⟩ : ∃ x, x = l ++ xk.data.toList := ⟨_, rfl⟩
   have ql1 : l.length ≤ l1.length := by rw [hl1, List.length_append]; omega
   obtain ⟨l2, hl2⟩ : ∃ x, x = l1 ++ [58, 32] := ⟨_, rfl⟩
   have ql2 : l1.length + 2 ≤ l2.length := by rw [hl2, List.length_append]; exact Nat.le_refl _
   obtain ⟨l3, hl3⟩ : ∃ x, x = pr n xv l2 := ⟨_, rfl⟩
   have ql3 : l2.length ≤ l3.length := by rw [hl3]; exact prLe _ _ _
   have hX : l' = l3 := by rw [hl]; rw [hl3, hl2, hl1]; show pr n xv ((if xk.size = 0 then _ else _) ++ _) = _; rw [if_neg HK.out]
   rw [hX] at hlen; have HQ := Lh (And.intro hlen (And.intro ql1 (And.intro ql2 ql3))); have HLl1 := Lh hl1; have HLl2 := Lh hl2; have HLl3 := Lh hl3; rw [hX]; clear hX hlen hl ql1 ql2 ql3 hl1 hl2 hl3; obtain ⟨zHR_0, zHR_1, zHR_2⟩ := (HR.out.at hp HB.out.below).cs3 0 1 2; go_enter Tryz.func66, Tryz.ntmps66; go_wp2_with fail; refine (HB.out.wstr xk l1 HLl1.out (by have := HQ.out; omega)).mono ?_; rintro e w1 ⟨rfl, hb⟩; have HB1 := Lh hb; clear hb; clear zHR_0 zHR_1 zHR_2; obtain ⟨zHR_0, zHR_1, zHR_2⟩ := (HR.out.at hp HB1.out.below).cs3 0 1 2; go_wp2_with fail; refine (HB1.out.wstr (⟨#[58, 32]⟩ : ByteArray) l2 HLl2.out (by have := HQ.out; omega)).mono ?_; rintro e w2 ⟨rfl, hb⟩; have HB2 := Lh hb; clear hb; clear zHR_0 zHR_1 zHR_2; obtain ⟨zHR_0, zHR_1, zHR_2⟩ := (HR.out.at hp HB2.out.below).cs3 0 1 2; go_wp2_with fail; refine (IHC w0 _ B b r2 l2 l3 xv h2 A2.out HB2.out HE.out HLl3.out (by have := HQ.out; omega)).mono ?_; rintro e w3 ⟨rfl, hb⟩; have HB3 := Lh hb; clear hb; clear zHR_0 zHR_1 zHR_2; obtain ⟨zHR_0, zHR_1, zHR_2⟩ := (HR.out.at hp HB3.out.below).cs3 0 1 2; go_wp2_with fail
   first | go_ret | go_end0 | ((try simp only [Exit.inBlock, Exit.then]); first | refine bodyPost_ret (results_none rfl _ _ _) rfl ?_ | refine bodyPost_end (results_none rfl _ _ _) rfl ?_)
   exact ⟨rfl, HB3.out⟩
set_option maxRecDepth 100000 in
set_option maxHeartbeats 8000000 in
theorem wPO (n : Nat) (IHS : WC 56 .st n) (IHQ : WC 16 .q n) (IHV : WC 45 .pt n) : WC 68 .po (n + 1) := by
 intro w0 w B b p l l' t hw ha hb he hl hlen; have HB := Lh hb; have HE := Lh he; clear hb he
 cases hw with
 | po xk xks xkq xv h1 h2 h3 =>
  obtain ⟨hp, v1, v2, v3, hr, f1, f2, f3⟩ := inv_po ha; clear ha
  by_cases hk : xk.size = 0
  ·
   obtain rfl := isE hk; clear hk; rcases FV.pt f1 with ⟨rfl, rfl⟩ | ⟨y1, r1, rfl, rfl, a1⟩
   ·
    clear f1; rcases FV.pt f2 with ⟨rfl, rfl⟩ | ⟨y2, r2, rfl, rfl, a2⟩
    ·
     clear f2; rcases FV.pt f3 with ⟨rfl, rfl⟩ | ⟨y3, r3, rfl, rfl, a3⟩
     ·
      have HR := Lh hr; clear hr f3
      have hX : l' = l := by rw [hl]; rw []; rfl
      rw [hX] at hlen; have HQ := Lh (And.intro hlen trivial); rw [hX]; clear hX hlen hl; obtain ⟨zHR_0, zHR_1, zHR_2, zHR_3⟩ := (HR.out.at hp HB.out.below).cs4 0 1 2 3; go_enter Tryz.func68, Tryz.ntmps68; go_wp2_with fail
      first | go_ret | go_end0 | ((try simp only [Exit.inBlock, Exit.then]); first | refine bodyPost_ret (results_none rfl _ _ _) rfl ?_ | refine bodyPost_end (results_none rfl _ _ _) rfl ?_)
      exact ⟨rfl, HB.out⟩
     ·
      have HA3 := Lh a3; clear a3; have HR := Lh hr; clear hr f3; obtain ⟨l1, hl1⟩ : ∃ x, x = l ++ [58, 32] := ⟨_, rfl⟩
      have ql1 : l.length + 2 ≤ l1.length := by rw [hl1, List.length_append]; exact Nat.le_refl _
      obtain ⟨l2, hl2⟩ : ∃ x, x = pr n y3 l1 := ⟨_, rfl⟩
      have ql2 : l1.length ≤ l2.length := by rw [hl2]; exact prLe _ _ _
      have hX : l' = l2 := by rw [hl]; rw [hl2, hl1]; rfl
      rw [hX] at hlen; have HQ := Lh (And.intro hlen (And.intro ql1 ql2)); have HLl1 := Lh hl1; have HLl2 := Lh hl2; rw [hX]; clear hX hlen hl ql1 ql2 hl1 hl2; obtain ⟨zHR_0, zHR_1, zHR_2, zHR_3⟩ := (HR.out.at hp HB.out.below).cs4 0 1 2 3; go_enter Tryz.func68, Tryz.ntmps68; go_wp2_with fail; refine (HB.out.wstr (⟨#[58, 32]⟩ : ByteArray) l1 HLl1.out (by have := HQ.out; omega)).mono ?_; rintro e w1 ⟨rfl, hb⟩; have HB1 := Lh hb; clear hb; clear zHR_0 zHR_1 zHR_2 zHR_3; obtain ⟨zHR_0, zHR_1, zHR_2, zHR_3⟩ := (HR.out.at hp HB1.out.below).cs4 0 1 2 3; go_wp2_with fail; refine (IHV w0 _ B b r3 l1 l2 y3 (h3 _ rfl) HA3.out HB1.out HE.out HLl2.out (by have := HQ.out; omega)).mono ?_; rintro e w2 ⟨rfl, hb⟩; have HB2 := Lh hb; clear hb; clear zHR_0 zHR_1 zHR_2 zHR_3; obtain ⟨zHR_0, zHR_1, zHR_2, zHR_3⟩ := (HR.out.at hp HB2.out.below).cs4 0 1 2 3; go_wp2_with fail
      first | go_ret | go_end0 | ((try simp only [Exit.inBlock, Exit.then]); first | refine bodyPost_ret (results_none rfl _ _ _) rfl ?_ | refine bodyPost_end (results_none rfl _ _ _) rfl ?_)
      exact ⟨rfl, HB2.out⟩
    ·
     have HA2 := Lh a2; clear a2; clear f2; rcases FV.pt f3 with ⟨rfl, rfl⟩ | ⟨y3, r3, rfl, rfl, a3⟩
     ·
      have HR := Lh hr; clear hr f3; obtain ⟨l1, hl1⟩ : ∃ x, x = l ++ [40] := ⟨_, rfl⟩
      have ql1 : l.length + 1 ≤ l1.length := by rw [hl1, List.length_append]; exact Nat.le_refl _
      obtain ⟨l2, hl2⟩ : ∃ x, x = pr n y2 l1 := ⟨_, rfl⟩
      have ql2 : l1.length ≤ l2.length := by rw [hl2]; exact prLe _ _ _
      obtain ⟨l3, hl3⟩ : ∃ x, x = l2 ++ [41] := ⟨_, rfl⟩
      have ql3 : l2.length + 1 ≤ l3.length := by rw [hl3, List.length_append]; exact Nat.le_refl _
      have hX : l' = l3 := by rw [hl]; rw [hl3, hl2, hl1]; rfl
      rw [hX] at hlen; have HQ := Lh (And.intro hlen (And.intro ql1 (And.intro ql2 ql3))); have HLl1 := Lh hl1; have HLl2 := Lh hl2; have HLl3 := Lh hl3; rw [hX]; clear hX hlen hl ql1 ql2 ql3 hl1 hl2 hl3; obtain ⟨zHR_0, zHR_1, zHR_2, zHR_3⟩ := (HR.out.at hp HB.out.below).cs4 0 1 2 3; go_enter Tryz.func68, Tryz.ntmps68; go_wp2_with fail; refine (HB.out.wbyte 40 40 rfl l1 HLl1.out (by have := HQ.out; omega)).mono ?_; rintro e w1 ⟨rfl, hb⟩; have HB1 := Lh hb; clear hb; clear zHR_0 zHR_1 zHR_2 zHR_3; obtain ⟨zHR_0, zHR_1, zHR_2, zHR_3⟩ := (HR.out.at hp HB1.out.below).cs4 0 1 2 3; go_wp2_with fail; refine (IHQ w0 _ B b r2 l1 l2 y2 (h2 _ rfl) HA2.out HB1.out HE.out HLl2.out (by have := HQ.out; omega)).mono ?_; rintro e w2 ⟨rfl, hb⟩; have HB2 := Lh hb; clear hb; clear zHR_0 zHR_1 zHR_2 zHR_3; obtain ⟨zHR_0, zHR_1, zHR_2, zHR_3⟩ := (HR.out.at hp HB2.out.below).cs4 0 1 2 3; go_wp2_with fail; refine (HB2.out.wbyte 41 41 rfl l3 HLl3.out (by have := HQ.out; omega)).mono ?_; rintro e w3 ⟨rfl, hb⟩; have HB3 := Lh hb; clear hb; clear zHR_0 zHR_1 zHR_2 zHR_3; obtain ⟨zHR_0, zHR_1, zHR_2, zHR_3⟩ := (HR.out.at hp HB3.out.below).cs4 0 1 2 3; go_wp2_with fail
      first | go_ret | go_end0 | ((try simp only [Exit.inBlock, Exit.then]); first | refine bodyPost_ret (results_none rfl _ _ _) rfl ?_ | refine bodyPost_end (results_none rfl _ _ _) rfl ?_)
      exact ⟨rfl, HB3.out⟩
     ·
      have HA3 := Lh a3; clear a3; have HR := Lh hr; clear hr f3; obtain ⟨l1, hl1⟩ : ∃ x, x = l ++ [40] := ⟨_, rfl⟩
      have ql1 : l.length + 1 ≤ l1.length := by rw [hl1, List.length_append]; exact Nat.le_refl _
      obtain ⟨l2, hl2⟩ : ∃ x, x = pr n y2 l1 := ⟨_, rfl⟩
      have ql2 : l1.length ≤ l2.length := by rw [hl2]; exact prLe _ _ _
      obtain ⟨l3, hl3⟩ : ∃ x, x = l2 ++ [41] := ⟨_, rfl⟩
      have ql3 : l2.length + 1 ≤ l3.length := by rw [hl3, List.length_append]; exact Nat.le_refl _
      obtain ⟨l4, hl4⟩ : ∃ x, x = l3 ++ [58, 32] := ⟨_, rfl⟩
      have ql4 : l3.length + 2 ≤ l4.length := by rw [hl4, List.length_append]; exact Nat.le_refl _
      obtain ⟨l5, hl5⟩ : ∃ x, x = pr n y3 l4 := ⟨_, rfl⟩
      have ql5 : l4.length ≤ l5.length := by rw [hl5]; exact prLe _ _ _
      have hX : l' = l5 := by rw [hl]; rw [hl5, hl4, hl3, hl2, hl1]; rfl
      rw [hX] at hlen; have HQ := Lh (And.intro hlen (And.intro ql1 (And.intro ql2 (And.intro ql3 (And.intro ql4 ql5))))); have HLl1 := Lh hl1; have HLl2 := Lh hl2; have HLl3 := Lh hl3; have HLl4 := Lh hl4; have HLl5 := Lh hl5; rw [hX]; clear hX hlen hl ql1 ql2 ql3 ql4 ql5 hl1 hl2 hl3 hl4 hl5; obtain ⟨zHR_0, zHR_1, zHR_2, zHR_3⟩ := (HR.out.at hp HB.out.below).cs4 0 1 2 3; go_enter Tryz.func68, Tryz.ntmps68; go_wp2_with fail; refine (HB.out.wbyte 40 40 rfl l1 HLl1.out (by have := HQ.out; omega)).mono ?_; rintro e w1 ⟨rfl, hb⟩; have HB1 := Lh hb; clear hb; clear zHR_0 zHR_1 zHR_2 zHR_3; obtain ⟨zHR_0, zHR_1, zHR_2, zHR_3⟩ := (HR.out.at hp HB1.out.below).cs4 0 1 2 3; go_wp2_with fail; refine (IHQ w0 _ B b r2 l1 l2 y2 (h2 _ rfl) HA2.out HB1.out HE.out HLl2.out (by have := HQ.out; omega)).mono ?_; rintro e w2 ⟨rfl, hb⟩; have HB2 := Lh hb; clear hb; clear zHR_0 zHR_1 zHR_2 zHR_3; obtain ⟨zHR_0, zHR_1, zHR_2, zHR_3⟩ := (HR.out.at hp HB2.out.below).cs4 0 1 2 3; go_wp2_with fail; refine (HB2.out.wbyte 41 41 rfl l3 HLl3.out (by have := HQ.out; omega)).mono ?_; rintro e w3 ⟨rfl, hb⟩; have HB3 := Lh hb; clear hb; clear zHR_0 zHR_1 zHR_2 zHR_3; obtain ⟨zHR_0, zHR_1, zHR_2, zHR_3⟩ := (HR.out.at hp HB3.out.below).cs4 0 1 2 3; go_wp2_with fail; refine (HB3.out.wstr (⟨#[58, 32]⟩ : ByteArray) l4 HLl4.out (by have := HQ.out; omega)).mono ?_; rintro e w4 ⟨rfl, hb⟩; have HB4 := Lh hb; clear hb; clear zHR_0 zHR_1 zHR_2 zHR_3; obtain ⟨zHR_0, zHR_1, zHR_2, zHR_3⟩ := (HR.out.at hp HB4.out.below).cs4 0 1 2 3; go_wp2_with fail; refine (IHV w0 _ B b r3 l4 l5 y3 (h3 _ rfl) HA3.out HB4.out HE.out HLl5.out (by have := HQ.out; omega)).mono ?_; rintro e w5 ⟨rfl, hb⟩; have HB5 := Lh hb; clear hb; clear zHR_0 zHR_1 zHR_2 zHR_3; obtain ⟨zHR_0, zHR_1, zHR_2, zHR_3⟩ := (HR.out.at hp HB5.out.below).cs4 0 1 2 3; go_wp2_with fail
      first | go_ret | go_end0 | ((try simp only [Exit.inBlock, Exit.then]); first | refine bodyPost_ret (results_none rfl _ _ _) rfl ?_ | refine bodyPost_end (results_none rfl _ _ _) rfl ?_)
      exact ⟨rfl, HB5.out⟩
   ·
    have HA1 := Lh a1; clear a1; clear f1; rcases FV.pt f3 with ⟨rfl, rfl⟩ | ⟨y3, r3, rfl, rfl, a3⟩
    ·
     have HR := Lh hr; clear hr f3; obtain ⟨l1, hl1⟩ : ∃ x, x = pr n y1 l := ⟨_, rfl⟩
     have ql1 : l.length ≤ l1.length := by rw [hl1]; exact prLe _ _ _
     have hX : l' = l1 := by rw [hl]; rw [hl1]; rfl
     rw [hX] at hlen; have HQ := Lh (And.intro hlen ql1); have HLl1 := Lh hl1; rw [hX]; clear hX hlen hl ql1 hl1; obtain ⟨zHR_0, zHR_1, zHR_2, zHR_3⟩ := (HR.out.at hp HB.out.below).cs4 0 1 2 3; go_enter Tryz.func68, Tryz.ntmps68; go_wp2_with fail; refine (IHS w0 _ B b r1 l l1 y1 (h1 _ rfl) HA1.out HB.out HE.out HLl1.out (by have := HQ.out; omega)).mono ?_; rintro e w1 ⟨rfl, hb⟩; have HB1 := Lh hb; clear hb; clear zHR_0 zHR_1 zHR_2 zHR_3; obtain ⟨zHR_0, zHR_1, zHR_2, zHR_3⟩ := (HR.out.at hp HB1.out.below).cs4 0 1 2 3; go_wp2_with fail
     first | go_ret | go_end0 | ((try simp only [Exit.inBlock, Exit.then]); first | refine bodyPost_ret (results_none rfl _ _ _) rfl ?_ | refine bodyPost_end (results_none rfl _ _ _) rfl ?_)
     exact ⟨rfl, HB1.out⟩
    ·
     have HA3 := Lh a3; clear a3; have HR := Lh hr; clear hr f3; obtain ⟨l1, hl1⟩ : ∃ x, x = pr n y1 l := ⟨_, rfl⟩
     have ql1 : l.length ≤ l1.length := by rw [hl1]; exact prLe _ _ _
     obtain ⟨l2, hl2⟩ : ∃ x, x = l1 ++ [58, 32] := ⟨_, rfl⟩
     have ql2 : l1.length + 2 ≤ l2.length := by rw [hl2, List.length_append]; exact Nat.le_refl _
     obtain ⟨l3, hl3⟩ : ∃ x, x = pr n y3 l2 := ⟨_, rfl⟩
     have ql3 : l2.length ≤ l3.length := by rw [hl3]; exact prLe _ _ _
     have hX : l' = l3 := by rw [hl]; rw [hl3, hl2, hl1]; rfl
     rw [hX] at hlen; have HQ := Lh (And.intro hlen (And.intro ql1 (And.intro ql2 ql3))); have HLl1 := Lh hl1; have HLl2 := Lh hl2; have HLl3 := Lh hl3; rw [hX]; clear hX hlen hl ql1 ql2 ql3 hl1 hl2 hl3; obtain ⟨zHR_0, zHR_1, zHR_2, zHR_3⟩ := (HR.out.at hp HB.out.below).cs4 0 1 2 3; go_enter Tryz.func68, Tryz.ntmps68; go_wp2_with fail; refine (IHS w0 _ B b r1 l l1 y1 (h1 _ rfl) HA1.out HB.out HE.out HLl1.out (by have := HQ.out; omega)).mono ?_; rintro e w1 ⟨rfl, hb⟩; have HB1 := Lh hb; clear hb; clear zHR_0 zHR_1 zHR_2 zHR_3; obtain ⟨zHR_0, zHR_1, zHR_2, zHR_3⟩ := (HR.out.at hp HB1.out.below).cs4 0 1 2 3; go_wp2_with fail; refine (HB1.out.wstr (⟨#[58, 32]⟩ : ByteArray) l2 HLl2.out (by have := HQ.out; omega)).mono ?_; rintro e w2 ⟨rfl, hb⟩; have HB2 := Lh hb; clear hb; clear zHR_0 zHR_1 zHR_2 zHR_3; obtain ⟨zHR_0, zHR_1, zHR_2, zHR_3⟩ := (HR.out.at hp HB2.out.below).cs4 0 1 2 3; go_wp2_with fail; refine (IHV w0 _ B b r3 l2 l3 y3 (h3 _ rfl) HA3.out HB2.out HE.out HLl3.out (by have := HQ.out; omega)).mono ?_; rintro e w3 ⟨rfl, hb⟩; have HB3 := Lh hb; clear hb; clear zHR_0 zHR_1 zHR_2 zHR_3; obtain ⟨zHR_0, zHR_1, zHR_2, zHR_3⟩ := (HR.out.at hp HB3.out.below).cs4 0 1 2 3; go_wp2_with fail
     first | go_ret | go_end0 | ((try simp only [Exit.inBlock, Exit.then]); first | refine bodyPost_ret (results_none rfl _ _ _) rfl ?_ | refine bodyPost_end (results_none rfl _ _ _) rfl ?_)
     exact ⟨rfl, HB3.out⟩
  ·
   have hE := isE1 hk; have HK := Lh hk; clear hk f1 f2; rcases FV.pt f3 with ⟨rfl, rfl⟩ | ⟨y3, r3, rfl, rfl, a3⟩
   ·
    have HR := Lh hr; clear hr f3; obtain ⟨l1, hl1⟩ : ∃ x, x = l ++ xk.data.toList := ⟨_, rfl⟩
    have ql1 : l.length ≤ l1.length := by rw [hl1, List.length_append]; omega
    have hX : l' = l1 := by rw [hl]; rw [hl1, pr_po, kv_key HK.out]; (try rfl)
    rw [hX] at hlen; have HQ := Lh (And.intro hlen ql1); have HLl1 := Lh hl1; rw [hX]; clear hX hlen hl ql1 hl1; obtain ⟨zHR_0, zHR_1, zHR_2, zHR_3⟩ := (HR.out.at hp HB.out.below).cs4 0 1 2 3; go_enter Tryz.func68, Tryz.ntmps68; go_wp2_with fail; refine (HB.out.wstr xk l1 HLl1.out (by have := HQ.out; omega)).mono ?_; rintro e w1 ⟨rfl, hb⟩; have HB1 := Lh hb; clear hb; clear zHR_0 zHR_1 zHR_2 zHR_3; obtain ⟨zHR_0, zHR_1, zHR_2, zHR_3⟩ := (HR.out.at hp HB1.out.below).cs4 0 1 2 3; go_wp2_with fail
    first | go_ret | go_end0 | ((try simp only [Exit.inBlock, Exit.then]); first | refine bodyPost_ret (results_none rfl _ _ _) rfl ?_ | refine bodyPost_end (results_none rfl _ _ _) rfl ?_)
    exact ⟨rfl, HB1.out⟩
   ·
    have HA3 := Lh a3; clear a3; have HR := Lh hr; clear hr f3; obtain ⟨l1, hl1⟩ : ∃ x, x = l ++ xk.data.toList := ⟨_, rfl⟩
    have ql1 : l.length ≤ l1.length := by rw [hl1, List.length_append]; omega
    obtain ⟨l2, hl2⟩ : ∃ x, x = l1 ++ [58, 32] := ⟨_, rfl⟩
    have ql2 : l1.length + 2 ≤ l2.length := by rw [hl2, List.length_append]; exact Nat.le_refl _
    obtain ⟨l3, hl3⟩ : ∃ x, x = pr n y3 l2 := ⟨_, rfl⟩
    have ql3 : l2.length ≤ l3.length := by rw [hl3]; exact prLe _ _ _
    have hX : l' = l3 := by rw [hl]; rw [hl3, hl2, hl1, pr_po, kv_key HK.out]; (try rfl)
    rw [hX] at hlen; have HQ := Lh (And.intro hlen (And.intro ql1 (And.intro ql2 ql3))); have HLl1 := Lh hl1; have HLl2 := Lh hl2; have HLl3 := Lh hl3; rw [hX]; clear hX hlen hl ql1 ql2 ql3 hl1 hl2 hl3; obtain ⟨zHR_0, zHR_1, zHR_2, zHR_3⟩ := (HR.out.at hp HB.out.below).cs4 0 1 2 3; go_enter Tryz.func68, Tryz.ntmps68; go_wp2_with fail; refine (HB.out.wstr xk l1 HLl1.out (by have := HQ.out; omega)).mono ?_; rintro e w1 ⟨rfl, hb⟩; have HB1 := Lh hb; clear hb; clear zHR_0 zHR_1 zHR_2 zHR_3; obtain ⟨zHR_0, zHR_1, zHR_2, zHR_3⟩ := (HR.out.at hp HB1.out.below).cs4 0 1 2 3; go_wp2_with fail; refine (HB1.out.wstr (⟨#[58, 32]⟩ : ByteArray) l2 HLl2.out (by have := HQ.out; omega)).mono ?_; rintro e w2 ⟨rfl, hb⟩; have HB2 := Lh hb; clear hb; clear zHR_0 zHR_1 zHR_2 zHR_3; obtain ⟨zHR_0, zHR_1, zHR_2, zHR_3⟩ := (HR.out.at hp HB2.out.below).cs4 0 1 2 3; go_wp2_with fail; refine (IHV w0 _ B b r3 l2 l3 y3 (h3 _ rfl) HA3.out HB2.out HE.out HLl3.out (by have := HQ.out; omega)).mono ?_; rintro e w3 ⟨rfl, hb⟩; have HB3 := Lh hb; clear hb; clear zHR_0 zHR_1 zHR_2 zHR_3; obtain ⟨zHR_0, zHR_1, zHR_2, zHR_3⟩ := (HR.out.at hp HB3.out.below).cs4 0 1 2 3; go_wp2_with fail
    first | go_ret | go_end0 | ((try simp only [Exit.inBlock, Exit.then]); first | refine bodyPost_ret (results_none rfl _ _ _) rfl ?_ | refine bodyPost_end (results_none rfl _ _ _) rfl ?_)
    exact ⟨rfl, HB3.out⟩
set_option maxRecDepth 100000 in
set_option maxHeartbeats 8000000 in
theorem wOKV (n : Nat) (IHS : WC 56 .st n) (IHQ : WC 16 .q n) (IHV : WC 16 .q n) : WC 75 .okv (n + 1) := by
 intro w0 w B b p l l' t hw ha hb he hl hlen; have HB := Lh hb; have HE := Lh he; clear hb he
 cases hw with
 | okv xk xks xkq xv h1 h2 h3 =>
  obtain ⟨hp, v1, v2, v3, hr, f1, f2, f3⟩ := inv_okv ha; clear ha
  by_cases hk : xk.size = 0
  ·
   obtain rfl := isE hk; clear hk; rcases FV.pt f1 with ⟨rfl, rfl⟩ | ⟨y1, r1, rfl, rfl, a1⟩
   ·
    clear f1; rcases FV.pt f2 with ⟨rfl, rfl⟩ | ⟨y2, r2, rfl, rfl, a2⟩
    ·
     clear f2; rcases FV.pt f3 with ⟨rfl, rfl⟩ | ⟨y3, r3, rfl, rfl, a3⟩
     ·
      have HR := Lh hr; clear hr f3
      have hX : l' = l := by rw [hl]; rw []; rfl
      rw [hX] at hlen; have HQ := Lh (And.intro hlen trivial); rw [hX]; clear hX hlen hl; obtain ⟨zHR_0, zHR_1, zHR_2, zHR_3⟩ := (HR.out.at hp HB.out.below).cs4 0 1 2 3; go_enter Tryz.func75, Tryz.ntmps75; go_wp2_with fail
      first | go_ret | go_end0 | ((try simp only [Exit.inBlock, Exit.then]); first | refine bodyPost_ret (results_none rfl _ _ _) rfl ?_ | refine bodyPost_end (results_none rfl _ _ _) rfl ?_)
      exact ⟨rfl, HB.out⟩
     ·
      have HA3 := Lh a3; clear a3; have HR := Lh hr; clear hr f3; obtain ⟨l1, hl1⟩ : ∃ x, x = l ++ [58, 32] := ⟨_, rfl⟩
      have ql1 : l.length + 2 ≤ l1.length := by rw [hl1, List.length_append]; exact Nat.le_refl _
      obtain ⟨l2, hl2⟩ : ∃ x, x = pr n y3 l1 := ⟨_, rfl⟩
      have ql2 : l1.length ≤ l2.length := by rw [hl2]; exact prLe _ _ _
      have hX : l' = l2 := by rw [hl]; rw [hl2, hl1]; rfl
      rw [hX] at hlen; have HQ := Lh (And.intro hlen (And.intro ql1 ql2)); have HLl1 := Lh hl1; have HLl2 := Lh hl2; rw [hX]; clear hX hlen hl ql1 ql2 hl1 hl2; obtain ⟨zHR_0, zHR_1, zHR_2, zHR_3⟩ := (HR.out.at hp HB.out.below).cs4 0 1 2 3; go_enter Tryz.func75, Tryz.ntmps75; go_wp2_with fail; refine (HB.out.wstr (⟨#[58, 32]⟩ : ByteArray) l1 HLl1.out (by have := HQ.out; omega)).mono ?_; rintro e w1 ⟨rfl, hb⟩; have HB1 := Lh hb; clear hb; clear zHR_0 zHR_1 zHR_2 zHR_3; obtain ⟨zHR_0, zHR_1, zHR_2, zHR_3⟩ := (HR.out.at hp HB1.out.below).cs4 0 1 2 3; go_wp2_with fail; refine (IHV w0 _ B b r3 l1 l2 y3 (h3 _ rfl) HA3.out HB1.out HE.out HLl2.out (by have := HQ.out; omega)).mono ?_; rintro e w2 ⟨rfl, hb⟩; have HB2 := Lh hb; clear hb; clear zHR_0 zHR_1 zHR_2 zHR_3; obtain ⟨zHR_0, zHR_1, zHR_2, zHR_3⟩ := (HR.out.at hp HB2.out.below).cs4 0 1 2 3; go_wp2_with fail
      first | go_ret | go_end0 | ((try simp only [Exit.inBlock, Exit.then]); first | refine bodyPost_ret (results_none rfl _ _ _) rfl ?_ | refine bodyPost_end (results_none rfl _ _ _) rfl ?_)
      exact ⟨rfl, HB2.out⟩
    ·
     have HA2 := Lh a2; clear a2; clear f2; rcases FV.pt f3 with ⟨rfl, rfl⟩ | ⟨y3, r3, rfl, rfl, a3⟩
     ·
      have HR := Lh hr; clear hr f3; obtain ⟨l1, hl1⟩ : ∃ x, x = l ++ [40] := ⟨_, rfl⟩
      have ql1 : l.length + 1 ≤ l1.length := by rw [hl1, List.length_append]; exact Nat.le_refl _
      obtain ⟨l2, hl2⟩ : ∃ x, x = pr n y2 l1 := ⟨_, rfl⟩
      have ql2 : l1.length ≤ l2.length := by rw [hl2]; exact prLe _ _ _
      obtain ⟨l3, hl3⟩ : ∃ x, x = l2 ++ [41] := ⟨_, rfl⟩
      have ql3 : l2.length + 1 ≤ l3.length := by rw [hl3, List.length_append]; exact Nat.le_refl _
      have hX : l' = l3 := by rw [hl]; rw [hl3, hl2, hl1]; rfl
      rw [hX] at hlen; have HQ := Lh (And.intro hlen (And.intro ql1 (And.intro ql2 ql3))); have HLl1 := Lh hl1; have HLl2 := Lh hl2; have HLl3 := Lh hl3; rw [hX]; clear hX hlen hl ql1 ql2 ql3 hl1 hl2 hl3; obtain ⟨zHR_0, zHR_1, zHR_2, zHR_3⟩ := (HR.out.at hp HB.out.below).cs4 0 1 2 3; go_enter Tryz.func75, Tryz.ntmps75; go_wp2_with fail; refine (HB.out.wbyte 40 40 rfl l1 HLl1.out (by have := HQ.out; omega)).mono ?_; rintro e w1 ⟨rfl, hb⟩; have HB1 := Lh hb; clear hb; clear zHR_0 zHR_1 zHR_2 zHR_3; obtain ⟨zHR_0, zHR_1, zHR_2, zHR_3⟩ := (HR.out.at hp HB1.out.below).cs4 0 1 2 3; go_wp2_with fail; refine (IHQ w0 _ B b r2 l1 l2 y2 (h2 _ rfl) HA2.out HB1.out HE.out HLl2.out (by have := HQ.out; omega)).mono ?_; rintro e w2 ⟨rfl, hb⟩; have HB2 := Lh hb; clear hb; clear zHR_0 zHR_1 zHR_2 zHR_3; obtain ⟨zHR_0, zHR_1, zHR_2, zHR_3⟩ := (HR.out.at hp HB2.out.below).cs4 0 1 2 3; go_wp2_with fail; refine (HB2.out.wbyte 41 41 rfl l3 HLl3.out (by have := HQ.out; omega)).mono ?_; rintro e w3 ⟨rfl, hb⟩; have HB3 := Lh hb; clear hb; clear zHR_0 zHR_1 zHR_2 zHR_3; obtain ⟨zHR_0, zHR_1, zHR_2, zHR_3⟩ := (HR.out.at hp HB3.out.below).cs4 0 1 2 3; go_wp2_with fail
      first | go_ret | go_end0 | ((try simp only [Exit.inBlock, Exit.then]); first | refine bodyPost_ret (results_none rfl _ _ _) rfl ?_ | refine bodyPost_end (results_none rfl _ _ _) rfl ?_)
      exact ⟨rfl, HB3.out⟩
     ·
      have HA3 := Lh a3; clear a3; have HR := Lh hr; clear hr f3; obtain ⟨l1, hl1⟩ : ∃ x, x = l ++ [40] := ⟨_, rfl⟩
      have ql1 : l.length + 1 ≤ l1.length := by rw [hl1, List.length_append]; exact Nat.le_refl _
      obtain ⟨l2, hl2⟩ : ∃ x, x = pr n y2 l1 := ⟨_, rfl⟩
      have ql2 : l1.length ≤ l2.length := by rw [hl2]; exact prLe _ _ _
      obtain ⟨l3, hl3⟩ : ∃ x, x = l2 ++ [41] := ⟨_, rfl⟩
      have ql3 : l2.length + 1 ≤ l3.length := by rw [hl3, List.length_append]; exact Nat.le_refl _
      obtain ⟨l4, hl4⟩ : ∃ x, x = l3 ++ [58, 32] := ⟨_, rfl⟩
      have ql4 : l3.length + 2 ≤ l4.length := by rw [hl4, List.length_append]; exact Nat.le_refl _
      obtain ⟨l5, hl5⟩ : ∃ x, x = pr n y3 l4 := ⟨_, rfl⟩
      have ql5 : l4.length ≤ l5.length := by rw [hl5]; exact prLe _ _ _
      have hX : l' = l5 := by rw [hl]; rw [hl5, hl4, hl3, hl2, hl1]; rfl
      rw [hX] at hlen; have HQ := Lh (And.intro hlen (And.intro ql1 (And.intro ql2 (And.intro ql3 (And.intro ql4 ql5))))); have HLl1 := Lh hl1; have HLl2 := Lh hl2; have HLl3 := Lh hl3; have HLl4 := Lh hl4; have HLl5 := Lh hl5; rw [hX]; clear hX hlen hl ql1 ql2 ql3 ql4 ql5 hl1 hl2 hl3 hl4 hl5; obtain ⟨zHR_0, zHR_1, zHR_2, zHR_3⟩ := (HR.out.at hp HB.out.below).cs4 0 1 2 3; go_enter Tryz.func75, Tryz.ntmps75; go_wp2_with fail; refine (HB.out.wbyte 40 40 rfl l1 HLl1.out (by have := HQ.out; omega)).mono ?_; rintro e w1 ⟨rfl, hb⟩; have HB1 := Lh hb; clear hb; clear zHR_0 zHR_1 zHR_2 zHR_3; obtain ⟨zHR_0, zHR_1, zHR_2, zHR_3⟩ := (HR.out.at hp HB1.out.below).cs4 0 1 2 3; go_wp2_with fail; refine (IHQ w0 _ B b r2 l1 l2 y2 (h2 _ rfl) HA2.out HB1.out HE.out HLl2.out (by have := HQ.out; omega)).mono ?_; rintro e w2 ⟨rfl, hb⟩; have HB2 := Lh hb; clear hb; clear zHR_0 zHR_1 zHR_2 zHR_3; obtain ⟨zHR_0, zHR_1, zHR_2, zHR_3⟩ := (HR.out.at hp HB2.out.below).cs4 0 1 2 3; go_wp2_with fail; refine (HB2.out.wbyte 41 41 rfl l3 HLl3.out (by have := HQ.out; omega)).mono ?_; rintro e w3 ⟨rfl, hb⟩; have HB3 := Lh hb; clear hb; clear zHR_0 zHR_1 zHR_2 zHR_3; obtain ⟨zHR_0, zHR_1, zHR_2, zHR_3⟩ := (HR.out.at hp HB3.out.below).cs4 0 1 2 3; go_wp2_with fail; refine (HB3.out.wstr (⟨#[58, 32]⟩ : ByteArray) l4 HLl4.out (by have := HQ.out; omega)).mono ?_; rintro e w4 ⟨rfl, hb⟩; have HB4 := Lh hb; clear hb; clear zHR_0 zHR_1 zHR_2 zHR_3; obtain ⟨zHR_0, zHR_1, zHR_2, zHR_3⟩ := (HR.out.at hp HB4.out.below).cs4 0 1 2 3; go_wp2_with fail; refine (IHV w0 _ B b r3 l4 l5 y3 (h3 _ rfl) HA3.out HB4.out HE.out HLl5.out (by have := HQ.out; omega)).mono ?_; rintro e w5 ⟨rfl, hb⟩; have HB5 := Lh hb; clear hb; clear zHR_0 zHR_1 zHR_2 zHR_3; obtain ⟨zHR_0, zHR_1, zHR_2, zHR_3⟩ := (HR.out.at hp HB5.out.below).cs4 0 1 2 3; go_wp2_with fail
      first | go_ret | go_end0 | ((try simp only [Exit.inBlock, Exit.then]); first | refine bodyPost_ret (results_none rfl _ _ _) rfl ?_ | refine bodyPost_end (results_none rfl _ _ _) rfl ?_)
      exact ⟨rfl, HB5.out⟩
   ·
    have HA1 := Lh a1; clear a1; clear f1; rcases FV.pt f3 with ⟨rfl, rfl⟩ | ⟨y3, r3, rfl, rfl, a3⟩
    ·
     have HR := Lh hr; clear hr f3; obtain ⟨l1, hl1⟩ : ∃ x, x = pr n y1 l := ⟨_, rfl⟩
     have ql1 : l.length ≤ l1.length := by rw [hl1]; exact prLe _ _ _
     have hX : l' = l1 := by rw [hl]; rw [hl1]; rfl
     rw [hX] at hlen; have HQ := Lh (And.intro hlen ql1); have HLl1 := Lh hl1; rw [hX]; clear hX hlen hl ql1 hl1; obtain ⟨zHR_0, zHR_1, zHR_2, zHR_3⟩ := (HR.out.at hp HB.out.below).cs4 0 1 2 3; go_enter Tryz.func75, Tryz.ntmps75; go_wp2_with fail; refine (IHS w0 _ B b r1 l l1 y1 (h1 _ rfl) HA1.out HB.out HE.out HLl1.out (by have := HQ.out; omega)).mono ?_; rintro e w1 ⟨rfl, hb⟩; have HB1 := Lh hb; clear hb; clear zHR_0 zHR_1 zHR_2 zHR_3; obtain ⟨zHR_0, zHR_1, zHR_2, zHR_3⟩ := (HR.out.at hp HB1.out.below).cs4 0 1 2 3; go_wp2_with fail
     first | go_ret | go_end0 | ((try simp only [Exit.inBlock, Exit.then]); first | refine bodyPost_ret (results_none rfl _ _ _) rfl ?_ | refine bodyPost_end (results_none rfl _ _ _) rfl ?_)
     exact ⟨rfl, HB1.out⟩
    ·
     have HA3 := Lh a3; clear a3; have HR := Lh hr; clear hr f3; obtain ⟨l1, hl1⟩ : ∃ x, x = pr n y1 l := ⟨_, rfl⟩
     have ql1 : l.length ≤ l1.length := by rw [hl1]; exact prLe _ _ _
     obtain ⟨l2, hl2⟩ : ∃ x, x = l1 ++ [58, 32] := ⟨_, rfl⟩
     have ql2 : l1.length + 2 ≤ l2.length := by rw [hl2, List.length_append]; exact Nat.le_refl _
     obtain ⟨l3, hl3⟩ : ∃ x, x = pr n y3 l2 := ⟨_, rfl⟩
     have ql3 : l2.length ≤ l3.length := by rw [hl3]; exact prLe _ _ _
     have hX : l' = l3 := by rw [hl]; rw [hl3, hl2, hl1]; rfl
     rw [hX] at hlen; have HQ := Lh (And.intro hlen (And.intro ql1 (And.intro ql2 ql3))); have HLl1 := Lh hl1; have HLl2 := Lh hl2; have HLl3 := Lh hl3; rw [hX]; clear hX hlen hl ql1 ql2 ql3 hl1 hl2 hl3; obtain ⟨zHR_0, zHR_1, zHR_2, zHR_3⟩ := (HR.out.at hp HB.out.below).cs4 0 1 2 3; go_enter Tryz.func75, Tryz.ntmps75; go_wp2_with fail; refine (IHS w0 _ B b r1 l l1 y1 (h1 _ rfl) HA1.out HB.out HE.out HLl1.out (by have := HQ.out; omega)).mono ?_; rintro e w1 ⟨rfl, hb⟩; have HB1 := Lh hb; clear hb; clear zHR_0 zHR_1 zHR_2 zHR_3; obtain ⟨zHR_0, zHR_1, zHR_2, zHR_3⟩ := (HR.out.at hp HB1.out.below).cs4 0 1 2 3; go_wp2_with fail; refine (HB1.out.wstr (⟨#[58, 32]⟩ : ByteArray) l2 HLl2.out (by have := HQ.out; omega)).mono ?_; rintro e w2 ⟨rfl, hb⟩; have HB2 := Lh hb; clear hb; clear zHR_0 zHR_1 zHR_2 zHR_3; obtain ⟨zHR_0, zHR_1, zHR_2, zHR_3⟩ := (HR.out.at hp HB2.out.below).cs4 0 1 2 3; go_wp2_with fail; refine (IHV w0 _ B b r3 l2 l3 y3 (h3 _ rfl) HA3.out HB2.out HE.out HLl3.out (by have := HQ.out; omega)).mono ?_; rintro e w3 ⟨rfl, hb⟩; have HB3 := Lh hb; clear hb; clear zHR_0 zHR_1 zHR_2 zHR_3; obtain ⟨zHR_0, zHR_1, zHR_2, zHR_3⟩ := (HR.out.at hp HB3.out.below).cs4 0 1 2 3; go_wp2_with fail
     first | go_ret | go_end0 | ((try simp only [Exit.inBlock, Exit.then]); first | refine bodyPost_ret (results_none rfl _ _ _) rfl ?_ | refine bodyPost_end (results_none rfl _ _ _) rfl ?_)
     exact ⟨rfl, HB3.out⟩
  ·
   have hE := isE1 hk; have HK := Lh hk; clear hk f1 f2; rcases FV.pt f3 with ⟨rfl, rfl⟩ | ⟨y3, r3, rfl, rfl, a3⟩
   ·
    have HR := Lh hr; clear hr f3; obtain ⟨l1, hl1⟩ : ∃ x, x = l ++ xk.data.toList := ⟨_, rfl⟩
    have ql1 : l.length ≤ l1.length := by rw [hl1, List.length_append]; omega
    have hX : l' = l1 := by rw [hl]; rw [hl1, pr_okv, kv_key HK.out]; (try rfl)
    rw [hX] at hlen; have HQ := Lh (And.intro hlen ql1); have HLl1 := Lh hl1; rw [hX]; clear hX hlen hl ql1 hl1; obtain ⟨zHR_0, zHR_1, zHR_2, zHR_3⟩ := (HR.out.at hp HB.out.below).cs4 0 1 2 3; go_enter Tryz.func75, Tryz.ntmps75; go_wp2_with fail; refine (HB.out.wstr xk l1 HLl1.out (by have := HQ.out; omega)).mono ?_; rintro e w1 ⟨rfl, hb⟩; have HB1 := Lh hb; clear hb; clear zHR_0 zHR_1 zHR_2 zHR_3; obtain ⟨zHR_0, zHR_1, zHR_2, zHR_3⟩ := (HR.out.at hp HB1.out.below).cs4 0 1 2 3; go_wp2_with fail
    first | go_ret | go_end0 | ((try simp only [Exit.inBlock, Exit.then]); first | refine bodyPost_ret (results_none rfl _ _ _) rfl ?_ | refine bodyPost_end (results_none rfl _ _ _) rfl ?_)
    exact ⟨rfl, HB1.out⟩
   ·
    have HA3 := Lh a3; clear a3; have HR := Lh hr; clear hr f3; obtain ⟨l1, hl1⟩ : ∃ x, x = l ++ xk.data.toList := ⟨_, rfl⟩
    have ql1 : l.length ≤ l1.length := by rw [hl1, List.length_append]; omega
    obtain ⟨l2, hl2⟩ : ∃ x, x = l1 ++ [58, 32] := ⟨_, rfl⟩
    have ql2 : l1.length + 2 ≤ l2.length := by rw [hl2, List.length_append]; exact Nat.le_refl _
    obtain ⟨l3, hl3⟩ : ∃ x, x = pr n y3 l2 := ⟨_, rfl⟩
    have ql3 : l2.length ≤ l3.length := by rw [hl3]; exact prLe _ _ _
    have hX : l' = l3 := by rw [hl]; rw [hl3, hl2, hl1, pr_okv, kv_key HK.out]; (try rfl)
    rw [hX] at hlen; have HQ := Lh (And.intro hlen (And.intro ql1 (And.intro ql2 ql3))); have HLl1 := Lh hl1; have HLl2 := Lh hl2; have HLl3 := Lh hl3; rw [hX]; clear hX hlen hl ql1 ql2 ql3 hl1 hl2 hl3; obtain ⟨zHR_0, zHR_1, zHR_2, zHR_3⟩ := (HR.out.at hp HB.out.below).cs4 0 1 2 3; go_enter Tryz.func75, Tryz.ntmps75; go_wp2_with fail; refine (HB.out.wstr xk l1 HLl1.out (by have := HQ.out; omega)).mono ?_; rintro e w1 ⟨rfl, hb⟩; have HB1 := Lh hb; clear hb; clear zHR_0 zHR_1 zHR_2 zHR_3; obtain ⟨zHR_0, zHR_1, zHR_2, zHR_3⟩ := (HR.out.at hp HB1.out.below).cs4 0 1 2 3; go_wp2_with fail; refine (HB1.out.wstr (⟨#[58, 32]⟩ : ByteArray) l2 HLl2.out (by have := HQ.out; omega)).mono ?_; rintro e w2 ⟨rfl, hb⟩; have HB2 := Lh hb; clear hb; clear zHR_0 zHR_1 zHR_2 zHR_3; obtain ⟨zHR_0, zHR_1, zHR_2, zHR_3⟩ := (HR.out.at hp HB2.out.below).cs4 0 1 2 3; go_wp2_with fail; refine (IHV w0 _ B b r3 l2 l3 y3 (h3 _ rfl) HA3.out HB2.out HE.out HLl3.out (by have := HQ.out; omega)).mono ?_; rintro e w3 ⟨rfl, hb⟩; have HB3 := Lh hb; clear hb; clear zHR_0 zHR_1 zHR_2 zHR_3; obtain ⟨zHR_0, zHR_1, zHR_2, zHR_3⟩ := (HR.out.at hp HB3.out.below).cs4 0 1 2 3; go_wp2_with fail
    first | go_ret | go_end0 | ((try simp only [Exit.inBlock, Exit.then]); first | refine bodyPost_ret (results_none rfl _ _ _) rfl ?_ | refine bodyPost_end (results_none rfl _ _ _) rfl ?_)
    exact ⟨rfl, HB3.out⟩
set_option maxRecDepth 100000 in
set_option maxHeartbeats 8000000 in
theorem wIM (n : Nat) (IHO : WC 41 .co n) : WC 42 .im (n + 1) := by
 intro w0 w B b p l l' t hw ha hb he hl hlen; have HB := Lh hb; have HE := Lh he; clear hb he
 cases hw with
 | im xp xa xi xm h1 h2 h3 =>
  obtain ⟨hp, v3, hr, f3⟩ := inv_im ha; clear ha
  by_cases hk : xp.size = 0
  ·
   obtain rfl := isE hk; clear hk; rcases FV.pt f3 with ⟨rfl, rfl⟩ | ⟨y3, r3, rfl, rfl, a3⟩
   ·
    have HR := Lh hr; clear hr f3; obtain ⟨l1, hl1⟩ : ∃ x, x = l ++ [105, 110, 99, 108, 117, 100, 101, 32] := ⟨_, rfl⟩
    have ql1 : l.length + 8 ≤ l1.length := by rw [hl1, List.length_append]; exact Nat.le_refl _
    obtain ⟨l2, hl2⟩ : ∃ x, x = l1 ++ quoted xi := ⟨_, rfl⟩
    have ql2 : l1.length ≤ l2.length := by rw [hl2, List.length_append]; omega
    obtain ⟨l3, hl3⟩ : ∃ x, x = l2 ++ [59, 10] := ⟨_, rfl⟩
    have ql3 : l2.length + 2 ≤ l3.length := by rw [hl3, List.length_append]; exact Nat.le_refl _
    have hX : l' = l3 := by rw [hl]; rw [hl3, hl2, hl1]; rfl
    rw [hX] at hlen; have HQ := Lh (And.intro hlen (And.intro ql1 (And.intro ql2 ql3))); have HLl1 := Lh hl1; have HLl2 := Lh hl2; have HLl3 := Lh hl3; rw [hX]; clear hX hlen hl ql1 ql2 ql3 hl1 hl2 hl3; obtain ⟨zHR_0, zHR_1, zHR_2, zHR_3⟩ := (HR.out.at hp HB.out.below).cs4 0 1 2 3; go_enter Tryz.func42, Tryz.ntmps42; go_wp2_with fail; refine (HB.out.wstr (⟨#[105, 110, 99, 108, 117, 100, 101, 32]⟩ : ByteArray) l1 HLl1.out (by have := HQ.out; omega)).mono ?_; rintro e w1 ⟨rfl, hb⟩; have HB1 := Lh hb; clear hb; clear zHR_0 zHR_1 zHR_2 zHR_3; obtain ⟨zHR_0, zHR_1, zHR_2, zHR_3⟩ := (HR.out.at hp HB1.out.below).cs4 0 1 2 3; go_wp2_with fail; refine (HB1.out.wesc HE.out xi h2 l2 HLl2.out (by have := HQ.out; omega)).mono ?_; rintro e w2 ⟨rfl, hb⟩; have HB2 := Lh hb; clear hb; clear zHR_0 zHR_1 zHR_2 zHR_3; obtain ⟨zHR_0, zHR_1, zHR_2, zHR_3⟩ := (HR.out.at hp HB2.out.below).cs4 0 1 2 3; go_wp2_with fail; refine (HB2.out.wstr (⟨#[59, 10]⟩ : ByteArray) l3 HLl3.out (by have := HQ.out; omega)).mono ?_; rintro e w3 ⟨rfl, hb⟩; have HB3 := Lh hb; clear hb; clear zHR_0 zHR_1 zHR_2 zHR_3; obtain ⟨zHR_0, zHR_1, zHR_2, zHR_3⟩ := (HR.out.at hp HB3.out.below).cs4 0 1 2 3; go_wp2_with fail
    first | go_ret | go_end0 | ((try simp only [Exit.inBlock, Exit.then]); first | refine bodyPost_ret (results_none rfl _ _ _) rfl ?_ | refine bodyPost_end (results_none rfl _ _ _) rfl ?_)
    exact ⟨rfl, HB3.out⟩
   ·
    have HA3 := Lh a3; clear a3; have HR := Lh hr; clear hr f3; obtain ⟨l1, hl1⟩ : ∃ x, x = l ++ [105, 110, 99, 108, 117, 100, 101, 32] := ⟨_, rfl⟩
    have ql1 : l.length + 8 ≤ l1.length := by rw [hl1, List.length_append]; exact Nat.le_refl _
    obtain ⟨l2, hl2⟩ : ∃ x, x = l1 ++ quoted xi := ⟨_, rfl⟩
    have ql2 : l1.length ≤ l2.length := by rw [hl2, List.length_append]; omega
    obtain ⟨l3, hl3⟩ : ∃ x, x = l2 ++ [32] := ⟨_, rfl⟩
    have ql3 : l2.length + 1 ≤ l3.length := by rw [hl3, List.length_append]; exact Nat.le_refl _
    obtain ⟨l4, hl4⟩ : ∃ x, x = pr n y3 l3 := ⟨_, rfl⟩
    have ql4 : l3.length ≤ l4.length := by rw [hl4]; exact prLe _ _ _
    obtain ⟨l5, hl5⟩ : ∃ x, x = l4 ++ [59, 10] := ⟨_, rfl⟩
    have ql5 : l4.length + 2 ≤ l5.length := by rw [hl5, List.length_append]; exact Nat.le_refl _
    have hX : l' = l5 := by rw [hl]; rw [hl5, hl4, hl3, hl2, hl1]; rfl
    rw [hX] at hlen; have HQ := Lh (And.intro hlen (And.intro ql1 (And.intro ql2 (And.intro ql3 (And.intro ql4 ql5))))); have HLl1 := Lh hl1; have HLl2 := Lh hl2; have HLl3 := Lh hl3; have HLl4 := Lh hl4; have HLl5 := Lh hl5; rw [hX]; clear hX hlen hl ql1 ql2 ql3 ql4 ql5 hl1 hl2 hl3 hl4 hl5; obtain ⟨zHR_0, zHR_1, zHR_2, zHR_3⟩ := (HR.out.at hp HB.out.below).cs4 0 1 2 3; go_enter Tryz.func42, Tryz.ntmps42; go_wp2_with fail; refine (HB.out.wstr (⟨#[105, 110, 99, 108, 117, 100, 101, 32]⟩ : ByteArray) l1 HLl1.out (by have := HQ.out; omega)).mono ?_; rintro e w1 ⟨rfl, hb⟩; have HB1 := Lh hb; clear hb; clear zHR_0 zHR_1 zHR_2 zHR_3; obtain ⟨zHR_0, zHR_1, zHR_2, zHR_3⟩ := (HR.out.at hp HB1.out.below).cs4 0 1 2 3; go_wp2_with fail; refine (HB1.out.wesc HE.out xi h2 l2 HLl2.out (by have := HQ.out; omega)).mono ?_; rintro e w2 ⟨rfl, hb⟩; have HB2 := Lh hb; clear hb; clear zHR_0 zHR_1 zHR_2 zHR_3; obtain ⟨zHR_0, zHR_1, zHR_2, zHR_3⟩ := (HR.out.at hp HB2.out.below).cs4 0 1 2 3; go_wp2_with fail; refine (HB2.out.wbyte 32 32 rfl l3 HLl3.out (by have := HQ.out; omega)).mono ?_; rintro e w3 ⟨rfl, hb⟩; have HB3 := Lh hb; clear hb; clear zHR_0 zHR_1 zHR_2 zHR_3; obtain ⟨zHR_0, zHR_1, zHR_2, zHR_3⟩ := (HR.out.at hp HB3.out.below).cs4 0 1 2 3; go_wp2_with fail; refine (IHO w0 _ B b r3 l3 l4 y3 (h3 _ rfl) HA3.out HB3.out HE.out HLl4.out (by have := HQ.out; omega)).mono ?_; rintro e w4 ⟨rfl, hb⟩; have HB4 := Lh hb; clear hb; clear zHR_0 zHR_1 zHR_2 zHR_3; obtain ⟨zHR_0, zHR_1, zHR_2, zHR_3⟩ := (HR.out.at hp HB4.out.below).cs4 0 1 2 3; go_wp2_with fail; refine (HB4.out.wstr (⟨#[59, 10]⟩ : ByteArray) l5 HLl5.out (by have := HQ.out; omega)).mono ?_; rintro e w5 ⟨rfl, hb⟩; have HB5 := Lh hb; clear hb; clear zHR_0 zHR_1 zHR_2 zHR_3; obtain ⟨zHR_0, zHR_1, zHR_2, zHR_3⟩ := (HR.out.at hp HB5.out.below).cs4 0 1 2 3; go_wp2_with fail
    first | go_ret | go_end0 | ((try simp only [Exit.inBlock, Exit.then]); first | refine bodyPost_ret (results_none rfl _ _ _) rfl ?_ | refine bodyPost_end (results_none rfl _ _ _) rfl ?_)
    exact ⟨rfl, HB5.out⟩
  ·
   have hE := isE1 hk; have HK := Lh hk; clear hk; rcases FV.pt f3 with ⟨rfl, rfl⟩ | ⟨y3, r3, rfl, rfl, a3⟩
   ·
    have HR := Lh hr; clear hr f3; obtain ⟨l1, hl1⟩ : ∃ x, x = l ++ [105, 109, 112, 111, 114, 116, 32] := ⟨_, rfl⟩
    have ql1 : l.length + 7 ≤ l1.length := by rw [hl1, List.length_append]; exact Nat.le_refl _
    obtain ⟨l2, hl2⟩ : ∃ x, x = l1 ++ quoted xp := ⟨_, rfl⟩
    have ql2 : l1.length ≤ l2.length := by rw [hl2, List.length_append]; omega
    obtain ⟨l3, hl3⟩ : ∃ x, x = l2 ++ [32, 97, 115, 32] := ⟨_, rfl⟩
    have ql3 : l2.length + 4 ≤ l3.length := by rw [hl3, List.length_append]; exact Nat.le_refl _
    obtain ⟨l4, hl4⟩ : ∃ x, x = l3 ++ xa.data.toList := ⟨_, rfl⟩
    have ql4 : l3.length ≤ l4.length := by rw [hl4, List.length_append]; omega
    obtain ⟨l5, hl5⟩ : ∃ x, x = l4 ++ [59, 10] := ⟨_, rfl⟩
    have ql5 : l4.length + 2 ≤ l5.length := by rw [hl5, List.length_append]; exact Nat.le_refl _
    have hX : l' = l5 := by rw [hl]; rw [hl5, hl4, hl3, hl2, hl1]; show opt _ _ (if xp.size ≠ 0 then _ else _) ++ _ = _; rw [if_pos HK.out]; rfl
    rw [hX] at hlen; have HQ := Lh (And.intro hlen (And.intro ql1 (And.intro ql2 (And.intro ql3 (And.intro ql4 ql5))))); have HLl1 := Lh hl1; have HLl2 := Lh hl2; have HLl3 := Lh hl3; have HLl4 := Lh hl4; have HLl5 := Lh hl5; rw [hX]; clear hX hlen hl ql1 ql2 ql3 ql4 ql5 hl1 hl2 hl3 hl4 hl5; obtain ⟨zHR_0, zHR_1, zHR_2, zHR_3⟩ := (HR.out.at hp HB.out.below).cs4 0 1 2 3; go_enter Tryz.func42, Tryz.ntmps42; go_wp2_with fail; refine (HB.out.wstr (⟨#[105, 109, 112, 111, 114, 116, 32]⟩ : ByteArray) l1 HLl1.out (by have := HQ.out; omega)).mono ?_; rintro e w1 ⟨rfl, hb⟩; have HB1 := Lh hb; clear hb; clear zHR_0 zHR_1 zHR_2 zHR_3; obtain ⟨zHR_0, zHR_1, zHR_2, zHR_3⟩ := (HR.out.at hp HB1.out.below).cs4 0 1 2 3; go_wp2_with fail; refine (HB1.out.wesc HE.out xp h1 l2 HLl2.out (by have := HQ.out; omega)).mono ?_; rintro e w2 ⟨rfl, hb⟩; have HB2 := Lh hb; clear hb; clear zHR_0 zHR_1 zHR_2 zHR_3; obtain ⟨zHR_0, zHR_1, zHR_2, zHR_3⟩ := (HR.out.at hp HB2.out.below).cs4 0 1 2 3; go_wp2_with fail; refine (HB2.out.wstr (⟨#[32, 97, 115, 32]⟩ : ByteArray) l3 HLl3.out (by have := HQ.out; omega)).mono ?_; rintro e w3 ⟨rfl, hb⟩; have HB3 := Lh hb; clear hb; clear zHR_0 zHR_1 zHR_2 zHR_3; obtain ⟨zHR_0, zHR_1, zHR_2, zHR_3⟩ := (HR.out.at hp HB3.out.below).cs4 0 1 2 3; go_wp2_with fail; refine (HB3.out.wstr xa l4 HLl4.out (by have := HQ.out; omega)).mono ?_; rintro e w4 ⟨rfl, hb⟩; have HB4 := Lh hb; clear hb; clear zHR_0 zHR_1 zHR_2 zHR_3; obtain ⟨zHR_0, zHR_1, zHR_2, zHR_3⟩ := (HR.out.at hp HB4.out.below).cs4 0 1 2 3; go_wp2_with fail; refine (HB4.out.wstr (⟨#[59, 10]⟩ : ByteArray) l5 HLl5.out (by have := HQ.out; omega)).mono ?_; rintro e w5 ⟨rfl, hb⟩; have HB5 := Lh hb; clear hb; clear zHR_0 zHR_1 zHR_2 zHR_3; obtain ⟨zHR_0, zHR_1, zHR_2, zHR_3⟩ := (HR.out.at hp HB5.out.below).cs4 0 1 2 3; go_wp2_with fail
    first | go_ret | go_end0 | ((try simp only [Exit.inBlock, Exit.then]); first | refine bodyPost_ret (results_none rfl _ _ _) rfl ?_ | refine bodyPost_end (results_none rfl _ _ _) rfl ?_)
    exact ⟨rfl, HB5.out⟩
   ·
    have HA3 := Lh a3; clear a3; have HR := Lh hr; clear hr f3; obtain ⟨l1, hl1⟩ : ∃ x, x = l ++ [105, 109, 112, 111, 114, 116, 32] := ⟨_, rfl⟩
    have ql1 : l.length + 7 ≤ l1.length := by rw [hl1, List.length_append]; exact Nat.le_refl _
    obtain ⟨l2, hl2⟩ : ∃ x, x = l1 ++ quoted xp := ⟨_, rfl⟩
    have ql2 : l1.length ≤ l2.length := by rw [hl2, List.length_append]; omega
    obtain ⟨l3, hl3⟩ : ∃ x, x = l2 ++ [32, 97, 115, 32] := ⟨_, rfl⟩
    have ql3 : l2.length + 4 ≤ l3.length := by rw [hl3, List.length_append]; exact Nat.le_refl _
    obtain ⟨l4, hl4⟩ : ∃ x, x = l3 ++ xa.data.toList := ⟨_, rfl⟩
    have ql4 : l3.length ≤ l4.length := by rw [hl4, List.length_append]; omega
    obtain ⟨l5, hl5⟩ : ∃ x, x = l4 ++ [32] := ⟨_, rfl⟩
    have ql5 : l4.length + 1 ≤ l5.length := by rw [hl5, List.length_append]; exact Nat.le_refl _
    obtain ⟨l6, hl6⟩ : ∃ x, x = pr n y3 l5 := ⟨_, rfl⟩
    have ql6 : l5.length ≤ l6.length := by rw [hl6]; exact prLe _ _ _
    obtain ⟨l7, hl7⟩ : ∃ x, x = l6 ++ [59, 10] := ⟨_, rfl⟩
    have ql7 : l6.length + 2 ≤ l7.length := by rw [hl7, List.length_append]; exact Nat.le_refl _
    have hX : l' = l7 := by rw [hl]; rw [hl7, hl6, hl5, hl4, hl3, hl2, hl1]; show opt _ _ (if xp.size ≠ 0 then _ else _) ++ _ = _; rw [if_pos HK.out]; rfl
    rw [hX] at hlen; have HQ := Lh (And.intro hlen (And.intro ql1 (And.intro ql2 (And.intro ql3 (And.intro ql4 (And.intro ql5 (And.intro ql6 ql7))))))); have HLl1 := Lh hl1; have HLl2 := Lh hl2; have HLl3 := Lh hl3; have HLl4 := Lh hl4; have HLl5 := Lh hl5; have HLl6 := Lh hl6; have HLl7 := Lh hl7; rw [hX]; clear hX hlen hl ql1 ql2 ql3 ql4 ql5 ql6 ql7 hl1 hl2 hl3 hl4 hl5 hl6 hl7; obtain ⟨zHR_0, zHR_1, zHR_2, zHR_3⟩ := (HR.out.at hp HB.out.below).cs4 0 1 2 3; go_enter Tryz.func42, Tryz.ntmps42; go_wp2_with fail; refine (HB.out.wstr (⟨#[105, 109, 112, 111, 114, 116, 32]⟩ : ByteArray) l1 HLl1.out (by have := HQ.out; omega)).mono ?_; rintro e w1 ⟨rfl, hb⟩; have HB1 := Lh hb; clear hb; clear zHR_0 zHR_1 zHR_2 zHR_3; obtain ⟨zHR_0, zHR_1, zHR_2, zHR_3⟩ := (HR.out.at hp HB1.out.below).cs4 0 1 2 3; go_wp2_with fail; refine (HB1.out.wesc HE.out xp h1 l2 HLl2.out (by have := HQ.out; omega)).mono ?_; rintro e w2 ⟨rfl, hb⟩; have HB2 := Lh hb; clear hb; clear zHR_0 zHR_1 zHR_2 zHR_3; obtain ⟨zHR_0, zHR_1, zHR_2, zHR_3⟩ := (HR.out.at hp HB2.out.below).cs4 0 1 2 3; go_wp2_with fail; refine (HB2.out.wstr (⟨#[32, 97, 115, 32]⟩ : ByteArray) l3 HLl3.out (by have := HQ.out; omega)).mono ?_; rintro e w3 ⟨rfl, hb⟩; have HB3 := Lh hb
    clear hb; clear zHR_0 zHR_1 zHR_2 zHR_3; obtain ⟨zHR_0, zHR_1, zHR_2, zHR_3⟩ := (HR.out.at hp HB3.out.below).cs4 0 1 2 3; go_wp2_with fail; refine (HB3.out.wstr xa l4 HLl4.out (by have := HQ.out; omega)).mono ?_; rintro e w4 ⟨rfl, hb⟩; have HB4 := Lh hb; clear hb; clear zHR_0 zHR_1 zHR_2 zHR_3; obtain ⟨zHR_0, zHR_1, zHR_2, zHR_3⟩ := (HR.out.at hp HB4.out.below).cs4 0 1 2 3; go_wp2_with fail; refine (HB4.out.wbyte 32 32 rfl l5 HLl5.out (by have := HQ.out; omega)).mono ?_; rintro e w5 ⟨rfl, hb⟩; have HB5 := Lh hb; clear hb; clear zHR_0 zHR_1 zHR_2 zHR_3; obtain ⟨zHR_0, zHR_1, zHR_2, zHR_3⟩ := (HR.out.at hp HB5.out.below).cs4 0 1 2 3; go_wp2_with fail; refine (IHO w0 _ B b r3 l5 l6 y3 (h3 _ rfl) HA3.out HB5.out HE.out HLl6.out (by have := HQ.out; omega)).mono ?_; rintro e w6 ⟨rfl, hb⟩; have HB6 := Lh hb; clear hb; clear zHR_0 zHR_1 zHR_2 zHR_3; obtain ⟨zHR_0, zHR_1, zHR_2, zHR_3⟩ := (HR.out.at hp HB6.out.below).cs4 0 1 2 3; go_wp2_with fail; refine (HB6.out.wstr (⟨#[59, 10]⟩ : ByteArray) l7 HLl7.out (by have := HQ.out; omega)).mono ?_; rintro e w7 ⟨rfl, hb⟩; have HB7 := Lh hb; clear hb; clear zHR_0 zHR_1 zHR_2 zHR_3; obtain ⟨zHR_0, zHR_1, zHR_2, zHR_3⟩ := (HR.out.at hp HB7.out.below).cs4 0 1 2 3; go_wp2_with fail
    first | go_ret | go_end0 | ((try simp only [Exit.inBlock, Exit.then]); first | refine bodyPost_ret (results_none rfl _ _ _) rfl ?_ | refine bodyPost_end (results_none rfl _ _ _) rfl ?_)
    exact ⟨rfl, HB7.out⟩
set_option maxRecDepth 100000 in
set_option maxHeartbeats 8000000 in
theorem wCT (n : Nat) (IHO : WC 41 .co n) (IHA : WC 83 .ca n) : WC 78 .ct (n + 1) := by
 intro w0 w B b p l l' t hw ha hb he hl hlen; have HB := Lh hb; have HE := Lh he; clear hb he
 cases hw with
 | ct xo xa xn xs xnu xtr xfa h1 h2 h3 =>
  obtain ⟨hp, v0, v1, hr, f0, f1⟩ := inv_ct ha; clear ha; rcases FV.pt f0 with ⟨rfl, rfl⟩ | ⟨y0, r0, rfl, rfl, a0⟩
  ·
   clear f0; rcases FV.pt f1 with ⟨rfl, rfl⟩ | ⟨y1, r1, rfl, rfl, a1⟩
   ·
    clear f1
    by_cases hk : xn.size = 0
    ·
     obtain rfl := isE hk; clear hk
     cases xnu
     case true =>
      have HR := Lh hr; clear hr; obtain ⟨l1, hl1⟩ : ∃ x, x = l ++ [110, 117, 108, 108] := ⟨_, rfl⟩
      have ql1 : l.length + 4 ≤ l1.length := by rw [hl1, List.length_append]; exact Nat.le_refl _
      have hX : l' = l1 := by rw [hl]; rw [hl1]; rfl
      rw [hX] at hlen; have HQ := Lh (And.intro hlen ql1); have HLl1 := Lh hl1; rw [hX]; clear hX hlen hl ql1 hl1; obtain ⟨zHR_0, zHR_1, zHR_2, zHR_3, zHR_4, zHR_5, zHR_6⟩ := (HR.out.at hp HB.out.below).cs7 0 1 2 3 4 5 6; go_enter Tryz.func78, Tryz.ntmps78; go_wp2_with fail; refine (HB.out.wstr (⟨#[110, 117, 108, 108]⟩ : ByteArray) l1 HLl1.out (by have := HQ.out; omega)).mono ?_; rintro e w1 ⟨rfl, hb⟩; have HB1 := Lh hb; clear hb; clear zHR_0 zHR_1 zHR_2 zHR_3 zHR_4 zHR_5 zHR_6; obtain ⟨zHR_0, zHR_1, zHR_2, zHR_3, zHR_4, zHR_5, zHR_6⟩ := (HR.out.at hp HB1.out.below).cs7 0 1 2 3 4 5 6; go_wp2_with fail
      first | go_ret | go_end0 | ((try simp only [Exit.inBlock, Exit.then]); first | refine bodyPost_ret (results_none rfl _ _ _) rfl ?_ | refine bodyPost_end (results_none rfl _ _ _) rfl ?_)
      exact ⟨rfl, HB1.out⟩
     case false =>
      cases xtr
      case true =>
       have HR := Lh hr; clear hr; obtain ⟨l1, hl1⟩ : ∃ x, x = l ++ [116, 114, 117, 101] := ⟨_, rfl⟩
       have ql1 : l.length + 4 ≤ l1.length := by rw [hl1, List.length_append]; exact Nat.le_refl _
       have hX : l' = l1 := by rw [hl]; rw [hl1]; rfl
       rw [hX] at hlen; have HQ := Lh (And.intro hlen ql1); have HLl1 := Lh hl1; rw [hX]; clear hX hlen hl ql1 hl1; obtain ⟨zHR_0, zHR_1, zHR_2, zHR_3, zHR_4, zHR_5, zHR_6⟩ := (HR.out.at hp HB.out.below).cs7 0 1 2 3 4 5 6; go_enter Tryz.func78, Tryz.ntmps78; go_wp2_with fail; refine (HB.out.wstr (⟨#[116, 114, 117, 101]⟩ : ByteArray) l1 HLl1.out (by have := HQ.out; omega)).mono ?_; rintro e w1 ⟨rfl, hb⟩; have HB1 := Lh hb; clear hb; clear zHR_0 zHR_1 zHR_2 zHR_3 zHR_4 zHR_5 zHR_6; obtain ⟨zHR_0, zHR_1, zHR_2, zHR_3, zHR_4, zHR_5, zHR_6⟩ := (HR.out.at hp HB1.out.below).cs7 0 1 2 3 4 5 6; go_wp2_with fail
       first | go_ret | go_end0 | ((try simp only [Exit.inBlock, Exit.then]); first | refine bodyPost_ret (results_none rfl _ _ _) rfl ?_ | refine bodyPost_end (results_none rfl _ _ _) rfl ?_)
       exact ⟨rfl, HB1.out⟩
      case false =>
       cases xfa
       case true =>
        have HR := Lh hr; clear hr; obtain ⟨l1, hl1⟩ : ∃ x, x = l ++ [102, 97, 108, 115, 101] := ⟨_, rfl⟩
        have ql1 : l.length + 5 ≤ l1.length := by rw [hl1, List.length_append]; exact Nat.le_refl _
        have hX : l' = l1 := by rw [hl]; rw [hl1]; rfl
        rw [hX] at hlen; have HQ := Lh (And.intro hlen ql1); have HLl1 := Lh hl1; rw [hX]; clear hX hlen hl ql1 hl1; obtain ⟨zHR_0, zHR_1, zHR_2, zHR_3, zHR_4, zHR_5, zHR_6⟩ := (HR.out.at hp HB.out.below).cs7 0 1 2 3 4 5 6; go_enter Tryz.func78, Tryz.ntmps78; go_wp2_with fail; refine (HB.out.wstr (⟨#[102, 97, 108, 115, 101]⟩ : ByteArray) l1 HLl1.out (by have := HQ.out; omega)).mono ?_; rintro e w1 ⟨rfl, hb⟩; have HB1 := Lh hb; clear hb; clear zHR_0 zHR_1 zHR_2 zHR_3 zHR_4 zHR_5 zHR_6; obtain ⟨zHR_0, zHR_1, zHR_2, zHR_3, zHR_4, zHR_5, zHR_6⟩ := (HR.out.at hp HB1.out.below).cs7 0 1 2 3 4 5 6; go_wp2_with fail
        first | go_ret | go_end0 | ((try simp only [Exit.inBlock, Exit.then]); first | refine bodyPost_ret (results_none rfl _ _ _) rfl ?_ | refine bodyPost_end (results_none rfl _ _ _) rfl ?_)
        exact ⟨rfl, HB1.out⟩
       case false =>
        have HR := Lh hr; clear hr; obtain ⟨l1, hl1⟩ : ∃ x, x = l ++ quoted xs := ⟨_, rfl⟩
        have ql1 : l.length ≤ l1.length := by rw [hl1, List.length_append]; omega
        have hX : l' = l1 := by rw [hl]; rw [hl1]; rfl
        rw [hX] at hlen; have HQ := Lh (And.intro hlen ql1); have HLl1 := Lh hl1; rw [hX]; clear hX hlen hl ql1 hl1; obtain ⟨zHR_0, zHR_1, zHR_2, zHR_3, zHR_4, zHR_5, zHR_6⟩ := (HR.out.at hp HB.out.below).cs7 0 1 2 3 4 5 6; go_enter Tryz.func78, Tryz.ntmps78; go_wp2_with fail; refine (HB.out.wesc HE.out xs h3 l1 HLl1.out (by have := HQ.out; omega)).mono ?_; rintro e w1 ⟨rfl, hb⟩; have HB1 := Lh hb; clear hb; clear zHR_0 zHR_1 zHR_2 zHR_3 zHR_4 zHR_5 zHR_6; obtain ⟨zHR_0, zHR_1, zHR_2, zHR_3, zHR_4, zHR_5, zHR_6⟩ := (HR.out.at hp HB1.out.below).cs7 0 1 2 3 4 5 6; go_wp2_with fail
        first | go_ret | go_end0 | ((try simp only [Exit.inBlock, Exit.then]); first | refine bodyPost_ret (results_none rfl _ _ _) rfl ?_ | refine bodyPost_end (results_none rfl _ _ _) rfl ?_)
        exact ⟨rfl, HB1.out⟩
    ·
     have hE := isE1 hk; have HK := Lh hk; clear hk; have HR := Lh hr; clear hr; obtain ⟨l1, hl1⟩ : ∃ x, x = l ++ xn.data.toList := ⟨_, rfl⟩
     have ql1 : l.length ≤ l1.length := by rw [hl1, List.length_append]; omega
     have hX : l' = l1 := by rw [hl]; rw [hl1]; show (if xn.size ≠ 0 then _ else _) = _; rw [if_pos HK.out]
     rw [hX] at hlen; have HQ := Lh (And.intro hlen ql1); have HLl1 := Lh hl1; rw [hX]; clear hX hlen hl ql1 hl1; obtain ⟨zHR_0, zHR_1, zHR_2, zHR_3, zHR_4, zHR_5, zHR_6⟩ := (HR.out.at hp HB.out.below).cs7 0 1 2 3 4 5 6; go_enter Tryz.func78, Tryz.ntmps78; go_wp2_with fail; refine (HB.out.wstr xn l1 HLl1.out (by have := HQ.out; omega)).mono ?_; rintro e w1 ⟨rfl, hb⟩; have HB1 := Lh hb; clear hb; clear zHR_0 zHR_1 zHR_2 zHR_3 zHR_4 zHR_5 zHR_6; obtain ⟨zHR_0, zHR_1, zHR_2, zHR_3, zHR_4, zHR_5, zHR_6⟩ := (HR.out.at hp HB1.out.below).cs7 0 1 2 3 4 5 6; go_wp2_with fail
     first | go_ret | go_end0 | ((try simp only [Exit.inBlock, Exit.then]); first | refine bodyPost_ret (results_none rfl _ _ _) rfl ?_ | refine bodyPost_end (results_none rfl _ _ _) rfl ?_)
     exact ⟨rfl, HB1.out⟩
   ·
    have HA1 := Lh a1; clear a1; clear f1; have HR := Lh hr; clear hr; obtain ⟨l1, hl1⟩ : ∃ x, x = pr n y1 l := ⟨_, rfl⟩
    have ql1 : l.length ≤ l1.length := by rw [hl1]; exact prLe _ _ _
    have hX : l' = l1 := by rw [hl]; rw [hl1]; rfl
    rw [hX] at hlen; have HQ := Lh (And.intro hlen ql1); have HLl1 := Lh hl1; rw [hX]; clear hX hlen hl ql1 hl1; obtain ⟨zHR_0, zHR_1, zHR_2, zHR_3, zHR_4, zHR_5, zHR_6⟩ := (HR.out.at hp HB.out.below).cs7 0 1 2 3 4 5 6; go_enter Tryz.func78, Tryz.ntmps78; go_wp2_with fail; refine (IHA w0 _ B b r1 l l1 y1 (h2 _ rfl) HA1.out HB.out HE.out HLl1.out (by have := HQ.out; omega)).mono ?_; rintro e w1 ⟨rfl, hb⟩; have HB1 := Lh hb; clear hb; clear zHR_0 zHR_1 zHR_2 zHR_3 zHR_4 zHR_5 zHR_6; obtain ⟨zHR_0, zHR_1, zHR_2, zHR_3, zHR_4, zHR_5, zHR_6⟩ := (HR.out.at hp HB1.out.below).cs7 0 1 2 3 4 5 6; go_wp2_with fail
    first | go_ret | go_end0 | ((try simp only [Exit.inBlock, Exit.then]); first | refine bodyPost_ret (results_none rfl _ _ _) rfl ?_ | refine bodyPost_end (results_none rfl _ _ _) rfl ?_)
    exact ⟨rfl, HB1.out⟩
  ·
   have HA0 := Lh a0; clear a0; clear f0; have HR := Lh hr; clear hr; obtain ⟨l1, hl1⟩ : ∃ x, x = pr n y0 l := ⟨_, rfl⟩
   have ql1 : l.length ≤ l1.length := by rw [hl1]; exact prLe _ _ _
   have hX : l' = l1 := by rw [hl]; rw [hl1]; rfl
   rw [hX] at hlen; have HQ := Lh (And.intro hlen ql1); have HLl1 := Lh hl1; rw [hX]; clear hX hlen hl ql1 hl1; obtain ⟨zHR_0, zHR_1, zHR_2, zHR_3, zHR_4, zHR_5, zHR_6⟩ := (HR.out.at hp HB.out.below).cs7 0 1 2 3 4 5 6; go_enter Tryz.func78, Tryz.ntmps78; go_wp2_with fail; refine (IHO w0 _ B b r0 l l1 y0 (h1 _ rfl) HA0.out HB.out HE.out HLl1.out (by have := HQ.out; omega)).mono ?_; rintro e w1 ⟨rfl, hb⟩; have HB1 := Lh hb; clear hb; clear zHR_0 zHR_1 zHR_2 zHR_3 zHR_4 zHR_5 zHR_6; obtain ⟨zHR_0, zHR_1, zHR_2, zHR_3, zHR_4, zHR_5, zHR_6⟩ := (HR.out.at hp HB1.out.below).cs7 0 1 2 3 4 5 6; go_wp2_with fail
   first | go_ret | go_end0 | ((try simp only [Exit.inBlock, Exit.then]); first | refine bodyPost_ret (results_none rfl _ _ _) rfl ?_ | refine bodyPost_end (results_none rfl _ _ _) rfl ?_)
   exact ⟨rfl, HB1.out⟩
end Go.Proofs.YtghcggagpagfoaaGreatDoor
