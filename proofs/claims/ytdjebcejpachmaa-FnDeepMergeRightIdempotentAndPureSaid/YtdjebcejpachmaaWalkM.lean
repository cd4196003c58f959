/-
  The walk of the law FnDeepMergeRightIdempotentAndPure (n001_79): it returns true for every input.
-/
import Derived.Test.YtdjebcejpachmaaLaw
import Derived.Test.YtdjebcejpachmaaMrb
import Derived.Test.YtdjebcejpachmaaBub
import Derived.Test.YtdjebcejpachmaaCpy
import Derived.Test.YtdjebcejpachmaaFit
namespace Go.Proofs.Ytdjebcejpachmaa
set_option linter.unusedVariables false
set_option linter.unusedSimpArgs false
open Go.ChangeShapes Go.WideShapes Go.ChangeAt Go.RowKit M
def One (w : World) (e : Ending) (w' : World) : Prop := e = .returned (.bool true) ∧ Below w.heap.size w w'
/-- The eight copies. -/
structure Cps (w : World) (A0 : Option Addr) (len0 : Nat) (z0 : List ByteArray) (A1 : Option Addr) (len1 : Nat) (z1 : List Int) (A2 : Option Addr) (len2 : Nat) (us2 : List Value) (z2 : NK) (A3 : Option Addr) (len3 : Nat) (us3 : List Value) (z3 : NI) : Prop where
  h0 : Vw w A0 len0 (strV z0)
  h1 : Vw w A1 len1 (intsV z1)
  h2 : Vw w A2 len2 us2
  n2 : NV w us2 (nkV z2)
  h3 : Vw w A3 len3 us3
  n3 : NV w us3 (niV z3)
theorem Cps.keep {w w' : World} {A0 : Option Addr} {len0 : Nat} {z0 : List ByteArray} {A1 : Option Addr} {len1 : Nat} {z1 : List Int} {A2 : Option Addr} {len2 : Nat} {us2 : List Value} {z2 : NK} {A3 : Option Addr} {len3 : Nat} {us3 : List Value} {z3 : NI}
    (h : Cps w A0 len0 z0 A1 len1 z1 A2 len2 us2 z2 A3 len3 us3 z3) (hb : Below w.heap.size w w') : Cps w' A0 len0 z0 A1 len1 z1 A2 len2 us2 z2 A3 len3 us3 z3 :=
  ⟨h.h0.keep hb, h.h1.keep hb, h.h2.keep hb, h.n2.keep hb, h.h3.keep hb, h.n3.keep hb⟩
/-- A model in a variable of the law: its struct's block, and what it holds. -/
def Bx (w : World) (p n : Nat) (v0 v1 v2 v3 v4 : Value) (om : OML) : Prop := Row w p 39 #[v0, v1, v2, v3, v4] ∧ MdlV w n v0 v1 v2 v3 v4 om
theorem Bx.keep {w w' : World} {p n : Nat} {v0 v1 v2 v3 v4 : Value} {om : OML} (h : Bx w p n v0 v1 v2 v3 v4 om) (hb : Below w.heap.size w w') : Bx w' p n v0 v1 v2 v3 v4 om := ⟨h.1.keep hb h.1.lt, h.2.keep hb⟩
theorem small_mono {om : OML} {N N' : Nat} (h : Small om N) (hN : N ≤ N') : Small om N' := fun s f q => Nat.le_trans (h s f q) hN
set_option maxRecDepth 100000 in
set_option maxHeartbeats 16000000 in
theorem merge_main (a0 : Option Addr) (len0 cap0 : Nat) (z0 : List ByteArray) (a1 : Option Addr) (len1 cap1 : Nat) (z1 : List Int) (a2 : Option Addr) (len2 cap2 : Nat) (us2 : List Value) (z2 : NK) (a3 : Option Addr) (len3 cap3 : Nat) (us3 : List Value) (z3 : NI) (a4 : Option Addr) (len4 cap4 : Nat) (z4 : List ByteArray) (a5 : Option Addr) (len5 cap5 : Nat) (z5 : List Int) (a6 : Option Addr) (len6 cap6 : Nat) (us6 : List Value) (z6 : NK) (a7 : Option Addr) (len7 cap7 : Nat) (us7 : List Value) (z7 : NI) (w : World)
    (hL : Cps w a0 len0 z0 a1 len1 z1 a2 len2 us2 z2 a3 len3 us3 z3) (hR : Cps w a4 len4 z4 a5 len5 z5 a6 len6 us6 z6 a7 len7 us7 z7)
    (b0 : len0 ≤ 9223372036854775807) (b1 : len1 ≤ 9223372036854775807) (b2 : len2 ≤ 9223372036854775807) (b3 : len3 ≤ 9223372036854775807) (b4 : len4 ≤ 9223372036854775807) (b5 : len5 ≤ 9223372036854775807) (b6 : len6 ≤ 9223372036854775807) (b7 : len7 ≤ 9223372036854775807) :
    Calls Try.prog 4 #[.slice a0 len0 cap0, .slice a1 len1 cap1, .slice a2 len2 cap2, .slice a3 len3 cap3, .slice a4 len4 cap4, .slice a5 len5 cap5, .slice a6 len6 cap6, .slice a7 len7 cap7] w (One w) := by
  have HL := Lib.hid hL
  have HR := Lib.hid hR
  clear hL hR
  go_enter Try.func4, Try.ntmps4
  go_wp2_with fail
  refine (zzC a0 len0 cap0 z0 a1 len1 cap1 z1 a2 len2 cap2 us2 z2 a3 len3 cap3 us3 z3 a4 len4 cap4 z4 a5 len5 cap5 z5 a6 len6 cap6 us6 z6 a7 len7 cap7 us7 z7 _ HL.out.h0 HL.out.h1 HL.out.h2 HL.out.n2 HL.out.h3 HL.out.n3 HR.out.h0 HR.out.h1 HR.out.h2 HR.out.n2 HR.out.h3 HR.out.n3 b0 b1 b2 b3 b4 b5 b6 b7).mono ?_
  rintro e w' ⟨b, rfl, rfl⟩
  cases b
  · go_wp2_with fail
    go_ret
    exact ⟨rfl, Below.refl _ _⟩
  go_wp2_with fail
  refine (fitC a0 len0 cap0 z0 a1 len1 cap1 z1 a2 len2 cap2 us2 z2 a3 len3 cap3 us3 z3 a4 len4 cap4 z4 a5 len5 cap5 z5 a6 len6 cap6 us6 z6 a7 len7 cap7 us7 z7 _ HL.out.h0 HL.out.h1 HL.out.h2 HL.out.n2 HL.out.h3 HL.out.n3 HR.out.h0 HR.out.h1 HR.out.h2 HR.out.n2 HR.out.h3 HR.out.n3 b0 b1 b2 b3 b4 b5 b6 b7).mono ?_
  rintro e w' ⟨b, rfl, rfl, hb⟩
  have HB := Lib.hid hb
  clear hb
  cases b
  · go_wp2_with fail
    go_ret
    exact ⟨rfl, Below.refl _ _⟩
  obtain ⟨⟨p0, p1, p2, p3⟩, ⟨p4, p5, p6, p7⟩, ⟨q2, q3⟩, q6, q7⟩ := HB.out (by simp)
  have Q2 := Lib.hid q2
  have Q3 := Lib.hid q3
  have Q6 := Lib.hid q6
  have Q7 := Lib.hid q7
  clear q2 q3 q6 q7 HB b0 b1 b2 b3 b4 b5 b6 b7
  go_wp2_with fail
  refine (cpyStrs a0 len0 cap0 z0 _ HL.out.h0 (by omega)).mono ?_
  rintro e w0 ⟨A0, c0, rfl, _, hv0, hb0, _⟩
  have V0 := Lib.hid hv0
  have B0 := Lib.hid hb0
  have s0 := hb0.size
  have HL0 := Lib.hid (HL.out.keep hb0)
  have HR0 := Lib.hid (HR.out.keep hb0)
  clear hv0 hb0 HL HR
  go_wp2_with fail
  refine (cpyInts a1 len1 cap1 z1 _ HL0.out.h1 (by omega)).mono ?_
  rintro e w1 ⟨A1, c1, rfl, _, hv1, hb1, _⟩
  have V0 := Lib.hid (V0.out.keep hb1)
  have V1 := Lib.hid hv1
  have B1 := Lib.hid (B0.out.trans (hb1.mono s0))
  have s1 := B1.out.size
  have HL1 := Lib.hid (HL0.out.keep hb1)
  have HR1 := Lib.hid (HR0.out.keep hb1)
  clear hv1 hb1 HL0 HR0 B0 s0
  go_wp2_with fail
  refine (cpyStrss a2 len2 cap2 us2 z2 _ HL1.out.h2 HL1.out.n2 (by omega) (fun j => by have := Q2.out j; omega)).mono ?_
  rintro e w2 ⟨A2, c2, us2', rfl, hv2, hn2, hb2⟩
  have V0 := Lib.hid (V0.out.keep hb2)
  have V1 := Lib.hid (V1.out.keep hb2)
  have V2 := Lib.hid hv2
  have N2 := Lib.hid hn2
  have B2 := Lib.hid (B1.out.trans (hb2.mono s1))
  have s2 := B2.out.size
  have HL2 := Lib.hid (HL1.out.keep hb2)
  have HR2 := Lib.hid (HR1.out.keep hb2)
  clear hv2 hn2 hb2 HL1 HR1 B1 s1
  go_wp2_with fail
  refine (cpyIntss a3 len3 cap3 us3 z3 _ HL2.out.h3 HL2.out.n3 (by omega) (fun j => by have := Q3.out j; omega)).mono ?_
  rintro e w3 ⟨A3, c3, us3', rfl, hv3, hn3, hb3⟩
  have CL := Lib.hid (show Cps w3 A0 len0 z0 A1 len1 z1 A2 len2 us2' z2 A3 len3 us3' z3 from ⟨V0.out.keep hb3, V1.out.keep hb3, V2.out.keep hb3, N2.out.keep hb3, hv3, hn3⟩)
  have B3 := Lib.hid (B2.out.trans (hb3.mono s2))
  have s3 := B3.out.size
  have HR3 := Lib.hid (HR2.out.keep hb3)
  clear hv3 hn3 hb3 HL2 HR2 B2 s2 V0 V1 V2 N2
  go_wp2_with fail
  refine (cpyStrs a4 len4 cap4 z4 _ HR3.out.h0 (by omega)).mono ?_
  rintro e w4 ⟨A4, c4, rfl, _, hv4, hb4, _⟩
  have V4 := Lib.hid hv4
  have B4 := Lib.hid (B3.out.trans (hb4.mono s3))
  have s4 := B4.out.size
  have HR4 := Lib.hid (HR3.out.keep hb4)
  have CL := Lib.hid (CL.out.keep hb4)
  clear hv4 hb4 HR3 B3 s3
  go_wp2_with fail
  refine (cpyInts a5 len5 cap5 z5 _ HR4.out.h1 (by omega)).mono ?_
  rintro e w5 ⟨A5, c5, rfl, _, hv5, hb5, _⟩
  have V4 := Lib.hid (V4.out.keep hb5)
  have V5 := Lib.hid hv5
  have B5 := Lib.hid (B4.out.trans (hb5.mono s4))
  have s5 := B5.out.size
  have HR5 := Lib.hid (HR4.out.keep hb5)
  have CL := Lib.hid (CL.out.keep hb5)
  clear hv5 hb5 HR4 B4 s4
  go_wp2_with fail
  refine (cpyStrss a6 len6 cap6 us6 z6 _ HR5.out.h2 HR5.out.n2 (by omega) (fun j => by have := Q6.out j; omega)).mono ?_
  rintro e w6 ⟨A6, c6, us6', rfl, hv6, hn6, hb6⟩
  have V4 := Lib.hid (V4.out.keep hb6)
  have V5 := Lib.hid (V5.out.keep hb6)
  have V6 := Lib.hid hv6
  have N6 := Lib.hid hn6
  have B6 := Lib.hid (B5.out.trans (hb6.mono s5))
  have s6 := B6.out.size
  have HR6 := Lib.hid (HR5.out.keep hb6)
  have CL := Lib.hid (CL.out.keep hb6)
  clear hv6 hn6 hb6 HR5 B5 s5
  go_wp2_with fail
  refine (cpyIntss a7 len7 cap7 us7 z7 _ HR6.out.h3 HR6.out.n3 (by omega) (fun j => by have := Q7.out j; omega)).mono ?_
  rintro e w7 ⟨A7, c7, us7', rfl, hv7, hn7, hb7⟩
  have CR := Lib.hid (show Cps w7 A4 len4 z4 A5 len5 z5 A6 len6 us6' z6 A7 len7 us7' z7 from ⟨V4.out.keep hb7, V5.out.keep hb7, V6.out.keep hb7, N6.out.keep hb7, hv7, hn7⟩)
  have B7 := Lib.hid (B6.out.trans (hb7.mono s6))
  have s7 := B7.out.size
  have CL := Lib.hid (CL.out.keep hb7)
  clear hv7 hn7 hb7 HR6 B6 s6 V4 V5 V6 N6
  go_wp2_with fail
  refine (modelOfC _ A0 len0 c0 z0 A1 len1 c1 z1 A2 len2 c2 us2' z2 A3 len3 c3 us3' z3 CL.out.h0 CL.out.h1 CL.out.h2 CL.out.n2 CL.out.h3 CL.out.n3 p0 Q2.out).mono ?_
  rintro e w8 ⟨⟨na, v0, v1, v2, v3, v4, rfl, hma⟩, hb8⟩
  have MA := Lib.hid hma
  obtain ⟨hna, X0, x0, X1, x1, X2, x2, X3, x3, X4, x4, _, _, rfl, rfl, rfl, rfl, rfl, _⟩ := hma
  have hna' : na ≤ 4096 := by have := modF_len z0 z1 z2 z3 len0; omega
  have HNA := Lib.hid hna
  have B8 := Lib.hid (B7.out.trans (hb8.mono s7))
  have s8 := B8.out.size
  have CL := Lib.hid (CL.out.keep hb8)
  have CR := Lib.hid (CR.out.keep hb8)
  clear hna hb8 B7 s7
  have BA := Lib.hid (show Bx (w8.alloc (.cells #[(.slice X0 na x0), (.slice X1 na x1), (.slice X2 na x2), (.slice X3 na x3), (.slice X4 na x4)] 39)) w8.heap.size na (.slice X0 na x0) (.slice X1 na x1) (.slice X2 na x2) (.slice X3 na x3) (.slice X4 na x4) (modF z0 z1 z2 z3 len0) from ⟨Row.made w8 39 _, MA.out.keep ((Below.refl _ _).alloc (Nat.le_refl _) _)⟩)
  have CL := Lib.hid (CL.out.keep ((Below.refl _ _).alloc (Nat.le_refl _) (.cells #[(.slice X0 na x0), (.slice X1 na x1), (.slice X2 na x2), (.slice X3 na x3), (.slice X4 na x4)] 39)))
  have CR := Lib.hid (CR.out.keep ((Below.refl _ _).alloc (Nat.le_refl _) (.cells #[(.slice X0 na x0), (.slice X1 na x1), (.slice X2 na x2), (.slice X3 na x3), (.slice X4 na x4)] 39)))
  have B8a := Lib.hid (B8.out.alloc s8 (.cells #[(.slice X0 na x0), (.slice X1 na x1), (.slice X2 na x2), (.slice X3 na x3), (.slice X4 na x4)] 39))
  have s8a := B8a.out.size
  clear MA B8
  go_wp2_with fail
  refine (modelOfC _ A4 len4 c4 z4 A5 len5 c5 z5 A6 len6 c6 us6' z6 A7 len7 c7 us7' z7 CR.out.h0 CR.out.h1 CR.out.h2 CR.out.n2 CR.out.h3 CR.out.n3 p4 Q6.out).mono ?_
  rintro e w9 ⟨⟨nb, v0, v1, v2, v3, v4, rfl, hmb⟩, hb9⟩
  have MB := Lib.hid hmb
  obtain ⟨hnb, Y0, y0, Y1, y1, Y2, y2, Y3, y3, Y4, y4, _, _, rfl, rfl, rfl, rfl, rfl, _⟩ := hmb
  have hnb' : nb ≤ 4096 := by have := modF_len z4 z5 z6 z7 len4; omega
  have HNB := Lib.hid hnb
  have B9 := Lib.hid (B8a.out.trans (hb9.mono s8a))
  have s9 := B9.out.size
  have l9 : w8.heap.size < w9.heap.size := by have := hb9.size; simp only [World.size_alloc] at this; omega
  have CL := Lib.hid (CL.out.keep hb9)
  have CR := Lib.hid (CR.out.keep hb9)
  have BA := Lib.hid (BA.out.keep hb9)
  clear hnb hb9 B8a s8a
  have r0 := BA.out.1.cell 0
  have r1 := BA.out.1.cell 1
  have r2 := BA.out.1.cell 2
  have r3 := BA.out.1.cell 3
  have r4 := BA.out.1.cell 4
  have BB := Lib.hid (show Bx (w9.alloc (.cells #[(.slice Y0 nb y0), (.slice Y1 nb y1), (.slice Y2 nb y2), (.slice Y3 nb y3), (.slice Y4 nb y4)] 39)) w9.heap.size nb (.slice Y0 nb y0) (.slice Y1 nb y1) (.slice Y2 nb y2) (.slice Y3 nb y3) (.slice Y4 nb y4) (modF z4 z5 z6 z7 len4) from ⟨Row.made w9 39 _, MB.out.keep ((Below.refl _ _).alloc (Nat.le_refl _) _)⟩)
  have CL := Lib.hid (CL.out.keep ((Below.refl _ _).alloc (Nat.le_refl _) (.cells #[(.slice Y0 nb y0), (.slice Y1 nb y1), (.slice Y2 nb y2), (.slice Y3 nb y3), (.slice Y4 nb y4)] 39)))
  have CR := Lib.hid (CR.out.keep ((Below.refl _ _).alloc (Nat.le_refl _) (.cells #[(.slice Y0 nb y0), (.slice Y1 nb y1), (.slice Y2 nb y2), (.slice Y3 nb y3), (.slice Y4 nb y4)] 39)))
  have BA := Lib.hid (BA.out.keep ((Below.refl _ _).alloc (Nat.le_refl _) (.cells #[(.slice Y0 nb y0), (.slice Y1 nb y1), (.slice Y2 nb y2), (.slice Y3 nb y3), (.slice Y4 nb y4)] 39)))
  have B9a := Lib.hid (B9.out.alloc s9 (.cells #[(.slice Y0 nb y0), (.slice Y1 nb y1), (.slice Y2 nb y2), (.slice Y3 nb y3), (.slice Y4 nb y4)] 39))
  have s9a := B9a.out.size
  clear MB B9
  go_wp2_with fail
  clear r0 r1 r2 r3 r4
  refine (mergeModelsC _ na nb (.slice X0 na x0) (.slice X1 na x1) (.slice X2 na x2) (.slice X3 na x3) (.slice X4 na x4) (.slice Y0 nb y0) (.slice Y1 nb y1) (.slice Y2 nb y2) (.slice Y3 nb y3) (.slice Y4 nb y4) _ _ BA.out.2 BB.out.2 hna' hnb' (modF_nd _ _ _ _ _) (modF_nd _ _ _ _ _) (modF_in _ _ _ _ Q2.out _).2 (modF_in _ _ _ _ Q6.out _).2).mono ?_
  rintro e w10 ⟨⟨nw, v0, v1, v2, v3, v4, rfl, hmw⟩, hb10⟩
  have MW := Lib.hid hmw
  obtain ⟨hnw, Z0, q0, Z1, q1, Z2, q2, Z3, q3, Z4, q4, _, _, rfl, rfl, rfl, rfl, rfl, _⟩ := hmw
  have hnw' : nw ≤ 100000 := by have := mrgF_len (modF z0 z1 z2 z3 len0) (modF z4 z5 z6 z7 len4) nb; have := HNA.out; omega
  have B10 := Lib.hid (B9a.out.trans (hb10.mono s9a))
  have s10 := B10.out.size
  have l10 : w9.heap.size < w10.heap.size := by have := hb10.size; simp only [World.size_alloc] at this; omega
  have CL := Lib.hid (CL.out.keep hb10)
  have CR := Lib.hid (CR.out.keep hb10)
  have BA := Lib.hid (BA.out.keep hb10)
  have BB := Lib.hid (BB.out.keep hb10)
  clear hnw hb10 B9a s9a
  have BW := Lib.hid (show Bx (w10.alloc (.cells #[(.slice Z0 nw q0), (.slice Z1 nw q1), (.slice Z2 nw q2), (.slice Z3 nw q3), (.slice Z4 nw q4)] 39)) w10.heap.size nw (.slice Z0 nw q0) (.slice Z1 nw q1) (.slice Z2 nw q2) (.slice Z3 nw q3) (.slice Z4 nw q4) (mrgF (modF z0 z1 z2 z3 len0) (modF z4 z5 z6 z7 len4) nb) from ⟨Row.made w10 39 _, MW.out.keep ((Below.refl _ _).alloc (Nat.le_refl _) _)⟩)
  have CL := Lib.hid (CL.out.keep ((Below.refl _ _).alloc (Nat.le_refl _) (.cells #[(.slice Z0 nw q0), (.slice Z1 nw q1), (.slice Z2 nw q2), (.slice Z3 nw q3), (.slice Z4 nw q4)] 39)))
  have CR := Lib.hid (CR.out.keep ((Below.refl _ _).alloc (Nat.le_refl _) (.cells #[(.slice Z0 nw q0), (.slice Z1 nw q1), (.slice Z2 nw q2), (.slice Z3 nw q3), (.slice Z4 nw q4)] 39)))
  have BA := Lib.hid (BA.out.keep ((Below.refl _ _).alloc (Nat.le_refl _) (.cells #[(.slice Z0 nw q0), (.slice Z1 nw q1), (.slice Z2 nw q2), (.slice Z3 nw q3), (.slice Z4 nw q4)] 39)))
  have BB := Lib.hid (BB.out.keep ((Below.refl _ _).alloc (Nat.le_refl _) (.cells #[(.slice Z0 nw q0), (.slice Z1 nw q1), (.slice Z2 nw q2), (.slice Z3 nw q3), (.slice Z4 nw q4)] 39)))
  have B10a := Lib.hid (B10.out.alloc s10 (.cells #[(.slice Z0 nw q0), (.slice Z1 nw q1), (.slice Z2 nw q2), (.slice Z3 nw q3), (.slice Z4 nw q4)] 39))
  have s10a := B10a.out.size
  clear MW B10
  go_wp2_with fail
  refine (buildC _ A0 len0 c0 z0 A1 len1 c1 z1 A2 len2 c2 us2' z2 A3 len3 c3 us3' z3 CL.out.h0 CL.out.h1 CL.out.h2 CL.out.n2 CL.out.h3 CL.out.n3 p0 Q2.out).mono ?_
  rintro e w11 ⟨⟨ml, es1, rfl, hox⟩, hb11⟩
  have OL := Lib.hid (hox.obj (modF_nd _ _ _ _ _) (by have := modF_len z0 z1 z2 z3 len0; omega))
  have B11 := Lib.hid (B10a.out.trans (hb11.mono s10a))
  have s11 := B11.out.size
  have CR := Lib.hid (CR.out.keep hb11)
  have BA := Lib.hid (BA.out.keep hb11)
  have BB := Lib.hid (BB.out.keep hb11)
  have BW := Lib.hid (BW.out.keep hb11)
  clear hox hb11 B10a s10a CL
  go_wp2_with fail
  refine (buildC _ A4 len4 c4 z4 A5 len5 c5 z5 A6 len6 c6 us6' z6 A7 len7 c7 us7' z7 CR.out.h0 CR.out.h1 CR.out.h2 CR.out.n2 CR.out.h3 CR.out.n3 p4 Q6.out).mono ?_
  rintro e w12 ⟨⟨mr, es2, rfl, hox⟩, hb12⟩
  have OR := Lib.hid (hox.obj (modF_nd _ _ _ _ _) (by have := modF_len z4 z5 z6 z7 len4; omega))
  have B12 := Lib.hid (B11.out.trans (hb12.mono s11))
  have s12 := B12.out.size
  have OL := Lib.hid (OL.out.keep hb12)
  have BA := Lib.hid (BA.out.keep hb12)
  have BB := Lib.hid (BB.out.keep hb12)
  have BW := Lib.hid (BW.out.keep hb12)
  clear hox hb12 B11 s11 CR
  go_wp2_with fail
  refine (zdmC _ ml mr 4096 4096 _ _ OL.out OR.out (by decide) (by decide)).mono ?_
  rintro e w13 ⟨⟨m1, rfl, ho⟩, hb13⟩
  have O1 := Lib.hid ho
  have B13 := Lib.hid (B12.out.trans (hb13.mono s12))
  have s13 := B13.out.size
  have OL := Lib.hid (OL.out.keep hb13)
  have OR := Lib.hid (OR.out.keep hb13)
  have BA := Lib.hid (BA.out.keep hb13)
  have BB := Lib.hid (BB.out.keep hb13)
  have BW := Lib.hid (BW.out.keep hb13)
  clear ho hb13 B12 s12
  go_wp2_with fail
  refine (zdmC _ m1 mr 8192 4096 _ _ O1.out OR.out (by decide) (by decide)).mono ?_
  rintro e w14 ⟨⟨m2, rfl, ho⟩, hb14⟩
  have O2 := Lib.hid ho
  have B14 := Lib.hid (B13.out.trans (hb14.mono s13))
  have s14 := B14.out.size
  have OL := Lib.hid (OL.out.keep hb14)
  have OR := Lib.hid (OR.out.keep hb14)
  have O1 := Lib.hid (O1.out.keep hb14)
  have BA := Lib.hid (BA.out.keep hb14)
  have BB := Lib.hid (BB.out.keep hb14)
  have BW := Lib.hid (BW.out.keep hb14)
  clear ho hb14 B13 s13
  go_wp2_with fail
  refine (newC2 _).mono ?_
  rintro e w15 ⟨rfl, hm15, hb15, _⟩
  have E15 := Lib.hid (OObj.empty hm15)
  have B15 := Lib.hid (B14.out.trans (hb15.mono s14))
  have s15 := B15.out.size
  have OL := Lib.hid (OL.out.keep hb15)
  have OR := Lib.hid (OR.out.keep hb15)
  have O1 := Lib.hid (O1.out.keep hb15)
  have O2 := Lib.hid (O2.out.keep hb15)
  have BA := Lib.hid (BA.out.keep hb15)
  have BB := Lib.hid (BB.out.keep hb15)
  have BW := Lib.hid (BW.out.keep hb15)
  clear hm15 hb15 B14 s14
  go_wp2_with fail
  refine (zdmC _ ml w14.heap.size 4096 0 _ _ OL.out E15.out (by decide) (by decide)).mono ?_
  rintro e w16 ⟨⟨m3, rfl, ho⟩, hb16⟩
  have O3 := Lib.hid ho
  have B16 := Lib.hid (B15.out.trans (hb16.mono s15))
  have s16 := B16.out.size
  have OL := Lib.hid (OL.out.keep hb16)
  have OR := Lib.hid (OR.out.keep hb16)
  have O1 := Lib.hid (O1.out.keep hb16)
  have O2 := Lib.hid (O2.out.keep hb16)
  have BA := Lib.hid (BA.out.keep hb16)
  have BB := Lib.hid (BB.out.keep hb16)
  have BW := Lib.hid (BW.out.keep hb16)
  clear ho hb16 B15 s15
  go_wp2_with fail
  refine (newC2 _).mono ?_
  rintro e w17 ⟨rfl, hm17, hb17, _⟩
  have E17 := Lib.hid (OObj.empty hm17)
  have B17 := Lib.hid (B16.out.trans (hb17.mono s16))
  have s17 := B17.out.size
  have OL := Lib.hid (OL.out.keep hb17)
  have OR := Lib.hid (OR.out.keep hb17)
  have O1 := Lib.hid (O1.out.keep hb17)
  have O2 := Lib.hid (O2.out.keep hb17)
  have O3 := Lib.hid (O3.out.keep hb17)
  have BA := Lib.hid (BA.out.keep hb17)
  have BB := Lib.hid (BB.out.keep hb17)
  have BW := Lib.hid (BW.out.keep hb17)
  clear hm17 hb17 B16 s16
  go_wp2_with fail
  refine (zdmC _ w16.heap.size mr 0 4096 _ _ E17.out OR.out (by decide) (by decide)).mono ?_
  rintro e w18 ⟨⟨m4, rfl, ho⟩, hb18⟩
  have O4 := Lib.hid ho
  have B18 := Lib.hid (B17.out.trans (hb18.mono s17))
  have s18 := B18.out.size
  have OL := Lib.hid (OL.out.keep hb18)
  have OR := Lib.hid (OR.out.keep hb18)
  have O1 := Lib.hid (O1.out.keep hb18)
  have O2 := Lib.hid (O2.out.keep hb18)
  have O3 := Lib.hid (O3.out.keep hb18)
  have BA := Lib.hid (BA.out.keep hb18)
  have BB := Lib.hid (BB.out.keep hb18)
  have BW := Lib.hid (BW.out.keep hb18)
  clear ho hb18 B17 s17 E15 E17
  have JA := modF_in z0 z1 z2 z3 Q2.out len0
  have JB := modF_in z4 z5 z6 z7 Q6.out len4
  have JW := mrgEnt_in JA.1 JB.1 JA.2 JB.2 (modF_nd z4 z5 z6 z7 len4)
  have FW := fun2_mrgF (a := modF z0 z1 z2 z3 len0) (modF_nd z4 z5 z6 z7 len4) JB.1
  rw [HNB.out] at JW FW
  have HJA := Lib.hid JA
  have HJB := Lib.hid JB
  have HJW := Lib.hid JW
  have O1' := Lib.hid (show OObj w18 m1 8192 (fun2 (mrgF (modF z0 z1 z2 z3 len0) (modF z4 z5 z6 z7 len4) nb)) by rw [FW]; exact O1.out)
  have O2' := Lib.hid (show OObj w18 m2 12288 (fun2 (mrgF (modF z0 z1 z2 z3 len0) (modF z4 z5 z6 z7 len4) nb)) by rw [FW, ← mrg2_idem]; exact O2.out)
  have O3' := Lib.hid (show OObj w18 m3 4096 (fun2 (modF z0 z1 z2 z3 len0)) from O3.out)
  have O4' := Lib.hid (show OObj w18 m4 4096 (fun2 (modF z4 z5 z6 z7 len4)) by have := O4.out; rw [mrg2_none_left] at this; simpa using this)
  clear JA JB JW FW O1 O2 O3 O4
  have r0 := BW.out.1.cell 0
  have r1 := BW.out.1.cell 1
  have r2 := BW.out.1.cell 2
  have r3 := BW.out.1.cell 3
  have r4 := BW.out.1.cell 4
  go_wp2_with fail
  clear r0 r1 r2 r3 r4
  refine (matchC _ m1 8192 nw (.slice Z0 nw q0) (.slice Z1 nw q1) (.slice Z2 nw q2) (.slice Z3 nw q3) (.slice Z4 nw q4) _ O1'.out BW.out.2 hnw' (mrgF_nd (modF_nd _ _ _ _ _) _) HJW.out.1 (small_mono HJW.out.2 (by decide))).mono ?_
  rintro e w19 ⟨rfl, hb19⟩
  have B19 := Lib.hid (B18.out.trans (hb19.mono s18))
  have s19 := B19.out.size
  have BA := Lib.hid (BA.out.keep hb19)
  have BB := Lib.hid (BB.out.keep hb19)
  have BW := Lib.hid (BW.out.keep hb19)
  have O2' := Lib.hid (O2'.out.keep hb19)
  have O3' := Lib.hid (O3'.out.keep hb19)
  have O4' := Lib.hid (O4'.out.keep hb19)
  have OL := Lib.hid (OL.out.keep hb19)
  have OR := Lib.hid (OR.out.keep hb19)
  clear hb19 B18 s18
  have r0 := BW.out.1.cell 0
  have r1 := BW.out.1.cell 1
  have r2 := BW.out.1.cell 2
  have r3 := BW.out.1.cell 3
  have r4 := BW.out.1.cell 4
  go_wp2_with fail
  clear r0 r1 r2 r3 r4
  refine (matchC _ m2 12288 nw (.slice Z0 nw q0) (.slice Z1 nw q1) (.slice Z2 nw q2) (.slice Z3 nw q3) (.slice Z4 nw q4) _ O2'.out BW.out.2 hnw' (mrgF_nd (modF_nd _ _ _ _ _) _) HJW.out.1 (small_mono HJW.out.2 (by decide))).mono ?_
  rintro e w20 ⟨rfl, hb20⟩
  have B20 := Lib.hid (B19.out.trans (hb20.mono s19))
  have s20 := B20.out.size
  have BA := Lib.hid (BA.out.keep hb20)
  have BB := Lib.hid (BB.out.keep hb20)
  have O3' := Lib.hid (O3'.out.keep hb20)
  have O4' := Lib.hid (O4'.out.keep hb20)
  have OL := Lib.hid (OL.out.keep hb20)
  have OR := Lib.hid (OR.out.keep hb20)
  clear hb20 B19 s19
  have r0 := BA.out.1.cell 0
  have r1 := BA.out.1.cell 1
  have r2 := BA.out.1.cell 2
  have r3 := BA.out.1.cell 3
  have r4 := BA.out.1.cell 4
  go_wp2_with fail
  clear r0 r1 r2 r3 r4
  refine (matchC _ m3 4096 na (.slice X0 na x0) (.slice X1 na x1) (.slice X2 na x2) (.slice X3 na x3) (.slice X4 na x4) _ O3'.out BA.out.2 (by omega) (modF_nd _ _ _ _ _) HJA.out.1 (small_mono HJA.out.2 (by decide))).mono ?_
  rintro e w21 ⟨rfl, hb21⟩
  have B21 := Lib.hid (B20.out.trans (hb21.mono s20))
  have s21 := B21.out.size
  have BA := Lib.hid (BA.out.keep hb21)
  have BB := Lib.hid (BB.out.keep hb21)
  have O4' := Lib.hid (O4'.out.keep hb21)
  have OL := Lib.hid (OL.out.keep hb21)
  have OR := Lib.hid (OR.out.keep hb21)
  clear hb21 B20 s20
  have r0 := BB.out.1.cell 0
  have r1 := BB.out.1.cell 1
  have r2 := BB.out.1.cell 2
  have r3 := BB.out.1.cell 3
  have r4 := BB.out.1.cell 4
  go_wp2_with fail
  clear r0 r1 r2 r3 r4
  refine (matchC _ m4 4096 nb (.slice Y0 nb y0) (.slice Y1 nb y1) (.slice Y2 nb y2) (.slice Y3 nb y3) (.slice Y4 nb y4) _ O4'.out BB.out.2 (by omega) (modF_nd _ _ _ _ _) HJB.out.1 (small_mono HJB.out.2 (by decide))).mono ?_
  rintro e w22 ⟨rfl, hb22⟩
  have B22 := Lib.hid (B21.out.trans (hb22.mono s21))
  have s22 := B22.out.size
  have BA := Lib.hid (BA.out.keep hb22)
  have BB := Lib.hid (BB.out.keep hb22)
  have OL := Lib.hid (OL.out.keep hb22)
  have OR := Lib.hid (OR.out.keep hb22)
  clear hb22 B21 s21
  have r0 := BA.out.1.cell 0
  have r1 := BA.out.1.cell 1
  have r2 := BA.out.1.cell 2
  have r3 := BA.out.1.cell 3
  have r4 := BA.out.1.cell 4
  go_wp2_with fail
  clear r0 r1 r2 r3 r4
  refine (matchC _ ml 4096 na (.slice X0 na x0) (.slice X1 na x1) (.slice X2 na x2) (.slice X3 na x3) (.slice X4 na x4) _ OL.out BA.out.2 (by omega) (modF_nd _ _ _ _ _) HJA.out.1 (small_mono HJA.out.2 (by decide))).mono ?_
  rintro e w23 ⟨rfl, hb23⟩
  have B23 := Lib.hid (B22.out.trans (hb23.mono s22))
  have s23 := B23.out.size
  have BB := Lib.hid (BB.out.keep hb23)
  have OR := Lib.hid (OR.out.keep hb23)
  clear hb23 B22 s22
  have r0 := BB.out.1.cell 0
  have r1 := BB.out.1.cell 1
  have r2 := BB.out.1.cell 2
  have r3 := BB.out.1.cell 3
  have r4 := BB.out.1.cell 4
  go_wp2_with fail
  clear r0 r1 r2 r3 r4
  refine (matchC _ mr 4096 nb (.slice Y0 nb y0) (.slice Y1 nb y1) (.slice Y2 nb y2) (.slice Y3 nb y3) (.slice Y4 nb y4) _ OR.out BB.out.2 (by omega) (modF_nd _ _ _ _ _) HJB.out.1 (small_mono HJB.out.2 (by decide))).mono ?_
  rintro e w24 ⟨rfl, hb24⟩
  have B24 := Lib.hid (B23.out.trans (hb24.mono s23))
  have s24 := B24.out.size
  clear hb24 B23 s23
  go_wp2_with fail
  go_ret
  exact ⟨rfl, B24.out⟩
end Go.Proofs.Ytdjebcejpachmaa
