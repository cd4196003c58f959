/-
  The operators' texts, by the program's table and by the law's own; the nodes' cells (n001_1001). Printed by genW.py.
-/
import Derived.Test.YtghcggagpagfoaaGreatDoorEnv
namespace Go.Proofs.YtghcggagpagfoaaGreatDoor
set_option linter.unusedVariables false
set_option linter.unusedSimpArgs false
open Go.ChangeShapes Go.WideShapes Go.ChangeAt Go.RowKit M
theorem inv_q {ok : Nat → Prop} {n : Nat} {w : World} {pb : Nat} {me : Option T} {n1 : Bool} {ims : List T} {n2 : Bool} {fds : List T} {te : Option T} {le : Option T} {ri : Option T} {n6 : Bool} {ps : List T} {op : Int} (h : At ok (n + 1) w pb (.nd 37 [.p me, .l n1 ims, .l n2 fds, .p te, .p le, .p ri, .l n6 ps, .i op])) : ok pb ∧ ∃ v0 v1 v2 v3 v4 v5 v6, Row w pb 37 #[v0, v1, v2, v3, v4, v5, v6, .int .i64 op] ∧ FV (At ok n w) ok w (.p me) v0 ∧ FV (At ok n w) ok w (.l n1 ims) v1 ∧ FV (At ok n w) ok w (.l n2 fds) v2 ∧ FV (At ok n w) ok w (.p te) v3 ∧ FV (At ok n w) ok w (.p le) v4 ∧ FV (At ok n w) ok w (.p ri) v5 ∧ FV (At ok n w) ok w (.l n6 ps) v6 := by
 obtain ⟨⟨l⟩, h1, h2, h3, h4⟩ := h
 match l, h3 with
 | [c0, c1, c2, c3, c4, c5, c6, c7], _ =>
  have e7 : c7 = .int .i64 op := h4 7 _ _ rfl rfl; subst e7; exact ⟨h2, c0, c1, c2, c3, c4, c5, c6, h1, h4 0 _ _ rfl rfl, h4 1 _ _ rfl rfl, h4 2 _ _ rfl rfl, h4 3 _ _ rfl rfl, h4 4 _ _ rfl rfl, h4 5 _ _ rfl rfl, h4 6 _ _ rfl rfl⟩
theorem inv_t {ok : Nat → Prop} {n : Nat} {w : World} {pb : Nat} {ty : Int} {ix : Option T} {fn : Option T} {ob : Option T} {ar : Option T} {num : ByteArray} {un : Option T} {fmt : ByteArray} {str : Option T} {ie : Option T} {tr : Option T} {rd : Option T} {fe : Option T} {lb : Option T} {brk : ByteArray} {q : Option T} {n16 : Bool} {sl : List T} (h : At ok (n + 1) w pb (.nd 74 [.i ty, .p ix, .p fn, .p ob, .p ar, .s num, .p un, .s fmt, .p str, .p ie, .p tr, .p rd, .p fe, .p lb, .s brk, .p q, .l n16 sl])) : ok pb ∧ ∃ v1 v2 v3 v4 v6 v8 v9 v10 v11 v12 v13 v15 v16, Row w pb 74 #[.int .i64 ty, v1, v2, v3, v4, .string num, v6, .string fmt, v8, v9, v10, v11, v12, v13, .string brk, v15, v16] ∧ FV (At ok n w) ok w (.p ix) v1 ∧ FV (At ok n w) ok w (.p fn) v2 ∧ FV (At ok n w) ok w (.p ob) v3 ∧ FV (At ok n w) ok w (.p ar) v4 ∧ FV (At ok n w) ok w (.p un) v6 ∧ FV (At ok n w) ok w (.p str) v8 ∧ FV (At ok n w) ok w (.p ie) v9 ∧ FV (At ok n w) ok w (.p tr) v10 ∧ FV (At ok n w) ok w (.p rd) v11 ∧ FV (At ok n w) ok w (.p fe) v12 ∧ FV (At ok n w) ok w (.p lb) v13 ∧ FV (At ok n w) ok w (.p q) v15 ∧ FV (At ok n w) ok w (.l n16 sl) v16 := by
 obtain ⟨⟨l⟩, h1, h2, h3, h4⟩ := h
 match l, h3 with
 | [c0, c1, c2, c3, c4, c5, c6, c7, c8, c9, c10, c11, c12, c13, c14, c15, c16], _ =>
  have e0 : c0 = .int .i64 ty := h4 0 _ _ rfl rfl; subst e0; have e5 : c5 = .string num := h4 5 _ _ rfl rfl; subst e5; have e7 : c7 = .string fmt := h4 7 _ _ rfl rfl; subst e7; have e14 : c14 = .string brk := h4 14 _ _ rfl rfl; subst e14; exact ⟨h2, c1, c2, c3, c4, c6, c8, c9, c10, c11, c12, c13, c15, c16, h1, h4 1 _ _ rfl rfl, h4 2 _ _ rfl rfl, h4 3 _ _ rfl rfl, h4 4 _ _ rfl rfl, h4 6 _ _ rfl rfl, h4 8 _ _ rfl rfl, h4 9 _ _ rfl rfl, h4 10 _ _ rfl rfl, h4 11 _ _ rfl rfl, h4 12 _ _ rfl rfl, h4 13 _ _ rfl rfl, h4 15 _ _ rfl rfl, h4 16 _ _ rfl rfl⟩
theorem inv_co {ok : Nat → Prop} {n : Nat} {w : World} {pb : Nat} {n0 : Bool} {ts : List T} (h : At ok (n + 1) w pb (.nd 112 [.l n0 ts])) : ok pb ∧ ∃ v0, Row w pb 112 #[v0] ∧ FV (At ok n w) ok w (.l n0 ts) v0 := by
 obtain ⟨⟨l⟩, h1, h2, h3, h4⟩ := h
 match l, h3 with
 | [c0], _ =>
  exact ⟨h2, c0, h1, h4 0 _ _ rfl rfl⟩
theorem inv_ckv {ok : Nat → Prop} {n : Nat} {w : World} {pb : Nat} {k : ByteArray} {ks : ByteArray} {v : Option T} (h : At ok (n + 1) w pb (.nd 116 [.s k, .s ks, .p v])) : ok pb ∧ ∃ v2, Row w pb 116 #[.string k, .string ks, v2] ∧ FV (At ok n w) ok w (.p v) v2 := by
 obtain ⟨⟨l⟩, h1, h2, h3, h4⟩ := h
 match l, h3 with
 | [c0, c1, c2], _ =>
  have e0 : c0 = .string k := h4 0 _ _ rfl rfl; subst e0; have e1 : c1 = .string ks := h4 1 _ _ rfl rfl; subst e1; exact ⟨h2, c2, h1, h4 2 _ _ rfl rfl⟩
theorem inv_ct {ok : Nat → Prop} {n : Nat} {w : World} {pb : Nat} {ob : Option T} {ar : Option T} {num : ByteArray} {str : ByteArray} {nu : Bool} {tr : Bool} {fa : Bool} (h : At ok (n + 1) w pb (.nd 153 [.p ob, .p ar, .s num, .s str, .b nu, .b tr, .b fa])) : ok pb ∧ ∃ v0 v1, Row w pb 153 #[v0, v1, .string num, .string str, .bool nu, .bool tr, .bool fa] ∧ FV (At ok n w) ok w (.p ob) v0 ∧ FV (At ok n w) ok w (.p ar) v1 := by
 obtain ⟨⟨l⟩, h1, h2, h3, h4⟩ := h
 match l, h3 with
 | [c0, c1, c2, c3, c4, c5, c6], _ =>
  have e2 : c2 = .string num := h4 2 _ _ rfl rfl; subst e2; have e3 : c3 = .string str := h4 3 _ _ rfl rfl; subst e3; have e4 : c4 = .bool nu := h4 4 _ _ rfl rfl; subst e4; have e5 : c5 = .bool tr := h4 5 _ _ rfl rfl; subst e5; have e6 : c6 = .bool fa := h4 6 _ _ rfl rfl; subst e6; exact ⟨h2, c0, c1, h1, h4 0 _ _ rfl rfl, h4 1 _ _ rfl rfl⟩
theorem inv_ca {ok : Nat → Prop} {n : Nat} {w : World} {pb : Nat} {n0 : Bool} {ts : List T} (h : At ok (n + 1) w pb (.nd 156 [.l n0 ts])) : ok pb ∧ ∃ v0, Row w pb 156 #[v0] ∧ FV (At ok n w) ok w (.l n0 ts) v0 := by
 obtain ⟨⟨l⟩, h1, h2, h3, h4⟩ := h
 match l, h3 with
 | [c0], _ =>
  exact ⟨h2, c0, h1, h4 0 _ _ rfl rfl⟩
theorem inv_im {ok : Nat → Prop} {n : Nat} {w : World} {pb : Nat} {pa : ByteArray} {al : ByteArray} {inc : ByteArray} {me : Option T} (h : At ok (n + 1) w pb (.nd 120 [.s pa, .s al, .s inc, .p me])) : ok pb ∧ ∃ v3, Row w pb 120 #[.string pa, .string al, .string inc, v3] ∧ FV (At ok n w) ok w (.p me) v3 := by
 obtain ⟨⟨l⟩, h1, h2, h3, h4⟩ := h
 match l, h3 with
 | [c0, c1, c2, c3], _ =>
  have e0 : c0 = .string pa := h4 0 _ _ rfl rfl; subst e0; have e1 : c1 = .string al := h4 1 _ _ rfl rfl; subst e1; have e2 : c2 = .string inc := h4 2 _ _ rfl rfl; subst e2; exact ⟨h2, c3, h1, h4 3 _ _ rfl rfl⟩
theorem inv_fd {ok : Nat → Prop} {n : Nat} {w : World} {pb : Nat} {na : ByteArray} {ags : List ByteArray} {b : Option T} (h : At ok (n + 1) w pb (.nd 109 [.s na, .ss ags, .p b])) : ok pb ∧ ∃ v1 v2, Row w pb 109 #[.string na, v1, v2] ∧ FV (At ok n w) ok w (.ss ags) v1 ∧ FV (At ok n w) ok w (.p b) v2 := by
 obtain ⟨⟨l⟩, h1, h2, h3, h4⟩ := h
 match l, h3 with
 | [c0, c1, c2], _ =>
  have e0 : c0 = .string na := h4 0 _ _ rfl rfl; subst e0; exact ⟨h2, c1, c2, h1, h4 1 _ _ rfl rfl, h4 2 _ _ rfl rfl⟩
theorem inv_pt {ok : Nat → Prop} {n : Nat} {w : World} {pb : Nat} {na : ByteArray} {n1 : Bool} {ar : List T} {n2 : Bool} {ob : List T} (h : At ok (n + 1) w pb (.nd 104 [.s na, .l n1 ar, .l n2 ob])) : ok pb ∧ ∃ v1 v2, Row w pb 104 #[.string na, v1, v2] ∧ FV (At ok n w) ok w (.l n1 ar) v1 ∧ FV (At ok n w) ok w (.l n2 ob) v2 := by
 obtain ⟨⟨l⟩, h1, h2, h3, h4⟩ := h
 match l, h3 with
 | [c0, c1, c2], _ =>
  have e0 : c0 = .string na := h4 0 _ _ rfl rfl; subst e0; exact ⟨h2, c1, c2, h1, h4 1 _ _ rfl rfl, h4 2 _ _ rfl rfl⟩
theorem inv_po {ok : Nat → Prop} {n : Nat} {w : World} {pb : Nat} {k : ByteArray} {ks : Option T} {kq : Option T} {v : Option T} (h : At ok (n + 1) w pb (.nd 131 [.s k, .p ks, .p kq, .p v])) : ok pb ∧ ∃ v1 v2 v3, Row w pb 131 #[.string k, v1, v2, v3] ∧ FV (At ok n w) ok w (.p ks) v1 ∧ FV (At ok n w) ok w (.p kq) v2 ∧ FV (At ok n w) ok w (.p v) v3 := by
 obtain ⟨⟨l⟩, h1, h2, h3, h4⟩ := h
 match l, h3 with
 | [c0, c1, c2, c3], _ =>
  have e0 : c0 = .string k := h4 0 _ _ rfl rfl; subst e0; exact ⟨h2, c1, c2, c3, h1, h4 1 _ _ rfl rfl, h4 2 _ _ rfl rfl, h4 3 _ _ rfl rfl⟩
theorem inv_ix {ok : Nat → Prop} {n : Nat} {w : World} {pb : Nat} {na : ByteArray} {str : Option T} {st : Option T} {en : Option T} {sl : Bool} (h : At ok (n + 1) w pb (.nd 150 [.s na, .p str, .p st, .p en, .b sl])) : ok pb ∧ ∃ v1 v2 v3, Row w pb 150 #[.string na, v1, v2, v3, .bool sl] ∧ FV (At ok n w) ok w (.p str) v1 ∧ FV (At ok n w) ok w (.p st) v2 ∧ FV (At ok n w) ok w (.p en) v3 := by
 obtain ⟨⟨l⟩, h1, h2, h3, h4⟩ := h
 match l, h3 with
 | [c0, c1, c2, c3, c4], _ =>
  have e0 : c0 = .string na := h4 0 _ _ rfl rfl; subst e0; have e4 : c4 = .bool sl := h4 4 _ _ rfl rfl; subst e4; exact ⟨h2, c1, c2, c3, h1, h4 1 _ _ rfl rfl, h4 2 _ _ rfl rfl, h4 3 _ _ rfl rfl⟩
theorem inv_fn {ok : Nat → Prop} {n : Nat} {w : World} {pb : Nat} {na : ByteArray} {n1 : Bool} {ags : List T} (h : At ok (n + 1) w pb (.nd 78 [.s na, .l n1 ags])) : ok pb ∧ ∃ v1, Row w pb 78 #[.string na, v1] ∧ FV (At ok n w) ok w (.l n1 ags) v1 := by
 obtain ⟨⟨l⟩, h1, h2, h3, h4⟩ := h
 match l, h3 with
 | [c0, c1], _ =>
  have e0 : c0 = .string na := h4 0 _ _ rfl rfl; subst e0; exact ⟨h2, c1, h1, h4 1 _ _ rfl rfl⟩
theorem inv_ob {ok : Nat → Prop} {n : Nat} {w : World} {pb : Nat} {n0 : Bool} {ts : List T} (h : At ok (n + 1) w pb (.nd 135 [.l n0 ts])) : ok pb ∧ ∃ v0, Row w pb 135 #[v0] ∧ FV (At ok n w) ok w (.l n0 ts) v0 := by
 obtain ⟨⟨l⟩, h1, h2, h3, h4⟩ := h
 match l, h3 with
 | [c0], _ =>
  exact ⟨h2, c0, h1, h4 0 _ _ rfl rfl⟩
theorem inv_okv {ok : Nat → Prop} {n : Nat} {w : World} {pb : Nat} {k : ByteArray} {ks : Option T} {kq : Option T} {v : Option T} (h : At ok (n + 1) w pb (.nd 138 [.s k, .p ks, .p kq, .p v])) : ok pb ∧ ∃ v1 v2 v3, Row w pb 138 #[.string k, v1, v2, v3] ∧ FV (At ok n w) ok w (.p ks) v1 ∧ FV (At ok n w) ok w (.p kq) v2 ∧ FV (At ok n w) ok w (.p v) v3 := by
 obtain ⟨⟨l⟩, h1, h2, h3, h4⟩ := h
 match l, h3 with
 | [c0, c1, c2, c3], _ =>
  have e0 : c0 = .string k := h4 0 _ _ rfl rfl; subst e0; exact ⟨h2, c1, c2, c3, h1, h4 1 _ _ rfl rfl, h4 2 _ _ rfl rfl, h4 3 _ _ rfl rfl⟩
theorem inv_ar {ok : Nat → Prop} {n : Nat} {w : World} {pb : Nat} {q : Option T} (h : At ok (n + 1) w pb (.nd 81 [.p q])) : ok pb ∧ ∃ v0, Row w pb 81 #[v0] ∧ FV (At ok n w) ok w (.p q) v0 := by
 obtain ⟨⟨l⟩, h1, h2, h3, h4⟩ := h
 match l, h3 with
 | [c0], _ =>
  exact ⟨h2, c0, h1, h4 0 _ _ rfl rfl⟩
theorem inv_sf {ok : Nat → Prop} {n : Nat} {w : World} {pb : Nat} {ix : Option T} {it : Bool} {op : Bool} (h : At ok (n + 1) w pb (.nd 148 [.p ix, .b it, .b op])) : ok pb ∧ ∃ v0, Row w pb 148 #[v0, .bool it, .bool op] ∧ FV (At ok n w) ok w (.p ix) v0 := by
 obtain ⟨⟨l⟩, h1, h2, h3, h4⟩ := h
 match l, h3 with
 | [c0, c1, c2], _ =>
  have e1 : c1 = .bool it := h4 1 _ _ rfl rfl; subst e1; have e2 : c2 = .bool op := h4 2 _ _ rfl rfl; subst e2; exact ⟨h2, c0, h1, h4 0 _ _ rfl rfl⟩
theorem inv_ife {ok : Nat → Prop} {n : Nat} {w : World} {pb : Nat} {c : Option T} {t : Option T} {n2 : Bool} {els : List T} {e : Option T} (h : At ok (n + 1) w pb (.nd 143 [.p c, .p t, .l n2 els, .p e])) : ok pb ∧ ∃ v0 v1 v2 v3, Row w pb 143 #[v0, v1, v2, v3] ∧ FV (At ok n w) ok w (.p c) v0 ∧ FV (At ok n w) ok w (.p t) v1 ∧ FV (At ok n w) ok w (.l n2 els) v2 ∧ FV (At ok n w) ok w (.p e) v3 := by
 obtain ⟨⟨l⟩, h1, h2, h3, h4⟩ := h
 match l, h3 with
 | [c0, c1, c2, c3], _ =>
  exact ⟨h2, c0, c1, c2, c3, h1, h4 0 _ _ rfl rfl, h4 1 _ _ rfl rfl, h4 2 _ _ rfl rfl, h4 3 _ _ rfl rfl⟩
theorem inv_el {ok : Nat → Prop} {n : Nat} {w : World} {pb : Nat} {c : Option T} {t : Option T} (h : At ok (n + 1) w pb (.nd 146 [.p c, .p t])) : ok pb ∧ ∃ v0 v1, Row w pb 146 #[v0, v1] ∧ FV (At ok n w) ok w (.p c) v0 ∧ FV (At ok n w) ok w (.p t) v1 := by
 obtain ⟨⟨l⟩, h1, h2, h3, h4⟩ := h
 match l, h3 with
 | [c0, c1], _ =>
  exact ⟨h2, c0, c1, h1, h4 0 _ _ rfl rfl, h4 1 _ _ rfl rfl⟩
theorem inv_tr {ok : Nat → Prop} {n : Nat} {w : World} {pb : Nat} {b : Option T} {c : Option T} (h : At ok (n + 1) w pb (.nd 87 [.p b, .p c])) : ok pb ∧ ∃ v0 v1, Row w pb 87 #[v0, v1] ∧ FV (At ok n w) ok w (.p b) v0 ∧ FV (At ok n w) ok w (.p c) v1 := by
 obtain ⟨⟨l⟩, h1, h2, h3, h4⟩ := h
 match l, h3 with
 | [c0, c1], _ =>
  exact ⟨h2, c0, c1, h1, h4 0 _ _ rfl rfl, h4 1 _ _ rfl rfl⟩
theorem inv_rd {ok : Nat → Prop} {n : Nat} {w : World} {pb : Nat} {q : Option T} {p : Option T} {s : Option T} {u : Option T} (h : At ok (n + 1) w pb (.nd 89 [.p q, .p p, .p s, .p u])) : ok pb ∧ ∃ v0 v1 v2 v3, Row w pb 89 #[v0, v1, v2, v3] ∧ FV (At ok n w) ok w (.p q) v0 ∧ FV (At ok n w) ok w (.p p) v1 ∧ FV (At ok n w) ok w (.p s) v2 ∧ FV (At ok n w) ok w (.p u) v3 := by
 obtain ⟨⟨l⟩, h1, h2, h3, h4⟩ := h
 match l, h3 with
 | [c0, c1, c2, c3], _ =>
  exact ⟨h2, c0, c1, c2, c3, h1, h4 0 _ _ rfl rfl, h4 1 _ _ rfl rfl, h4 2 _ _ rfl rfl, h4 3 _ _ rfl rfl⟩
theorem inv_fe {ok : Nat → Prop} {n : Nat} {w : World} {pb : Nat} {q : Option T} {p : Option T} {s : Option T} {u : Option T} {e : Option T} (h : At ok (n + 1) w pb (.nd 91 [.p q, .p p, .p s, .p u, .p e])) : ok pb ∧ ∃ v0 v1 v2 v3 v4, Row w pb 91 #[v0, v1, v2, v3, v4] ∧ FV (At ok n w) ok w (.p q) v0 ∧ FV (At ok n w) ok w (.p p) v1 ∧ FV (At ok n w) ok w (.p s) v2 ∧ FV (At ok n w) ok w (.p u) v3 ∧ FV (At ok n w) ok w (.p e) v4 := by
 obtain ⟨⟨l⟩, h1, h2, h3, h4⟩ := h
 match l, h3 with
 | [c0, c1, c2, c3, c4], _ =>
  exact ⟨h2, c0, c1, c2, c3, c4, h1, h4 0 _ _ rfl rfl, h4 1 _ _ rfl rfl, h4 2 _ _ rfl rfl, h4 3 _ _ rfl rfl, h4 4 _ _ rfl rfl⟩
theorem inv_lb {ok : Nat → Prop} {n : Nat} {w : World} {pb : Nat} {id : ByteArray} {b : Option T} (h : At ok (n + 1) w pb (.nd 93 [.s id, .p b])) : ok pb ∧ ∃ v1, Row w pb 93 #[.string id, v1] ∧ FV (At ok n w) ok w (.p b) v1 := by
 obtain ⟨⟨l⟩, h1, h2, h3, h4⟩ := h
 match l, h3 with
 | [c0, c1], _ =>
  have e0 : c0 = .string id := h4 0 _ _ rfl rfl; subst e0; exact ⟨h2, c1, h1, h4 1 _ _ rfl rfl⟩
theorem inv_un {ok : Nat → Prop} {n : Nat} {w : World} {pb : Nat} {op : Int} {t : Option T} (h : At ok (n + 1) w pb (.nd 83 [.i op, .p t])) : ok pb ∧ ∃ v1, Row w pb 83 #[.int .i64 op, v1] ∧ FV (At ok n w) ok w (.p t) v1 := by
 obtain ⟨⟨l⟩, h1, h2, h3, h4⟩ := h
 match l, h3 with
 | [c0, c1], _ =>
  have e0 : c0 = .int .i64 op := h4 0 _ _ rfl rfl; subst e0; exact ⟨h2, c1, h1, h4 1 _ _ rfl rfl⟩
theorem inv_st {ok : Nat → Prop} {n : Nat} {w : World} {pb : Nat} {s : ByteArray} {n1 : Bool} {qs : List T} (h : At ok (n + 1) w pb (.nd 140 [.s s, .l n1 qs])) : ok pb ∧ ∃ v1, Row w pb 140 #[.string s, v1] ∧ FV (At ok n w) ok w (.l n1 qs) v1 := by
 obtain ⟨⟨l⟩, h1, h2, h3, h4⟩ := h
 match l, h3 with
 | [c0, c1], _ =>
  have e0 : c0 = .string s := h4 0 _ _ rfl rfl; subst e0; exact ⟨h2, c1, h1, h4 1 _ _ rfl rfl⟩
theorem pr_q (n : Nat) (fs : List F) (l : L8) : pr (n + 1) (.nd 37 fs) l = prQ (pr n) fs l := rfl
theorem pr_t (n : Nat) (fs : List F) (l : L8) : pr (n + 1) (.nd 74 fs) l = prT (pr n) fs l := rfl
theorem pr_co (n : Nat) (fs : List F) (l : L8) : pr (n + 1) (.nd 112 fs) l = prCO (pr n) fs l := rfl
theorem pr_ckv (n : Nat) (fs : List F) (l : L8) : pr (n + 1) (.nd 116 fs) l = prCKV (pr n) fs l := rfl
theorem pr_ct (n : Nat) (fs : List F) (l : L8) : pr (n + 1) (.nd 153 fs) l = prCT (pr n) fs l := rfl
theorem pr_ca (n : Nat) (fs : List F) (l : L8) : pr (n + 1) (.nd 156 fs) l = prCA (pr n) fs l := rfl
theorem pr_im (n : Nat) (fs : List F) (l : L8) : pr (n + 1) (.nd 120 fs) l = prIM (pr n) fs l := rfl
theorem pr_fd (n : Nat) (fs : List F) (l : L8) : pr (n + 1) (.nd 109 fs) l = prFD (pr n) fs l := rfl
theorem pr_pt (n : Nat) (fs : List F) (l : L8) : pr (n + 1) (.nd 104 fs) l = prPT (pr n) fs l := rfl
theorem pr_po (n : Nat) (fs : List F) (l : L8) : pr (n + 1) (.nd 131 fs) l = prKV (pr n) fs l := rfl
theorem pr_ix (n : Nat) (fs : List F) (l : L8) : pr (n + 1) (.nd 150 fs) l = prIX (pr n) fs l := rfl
theorem pr_fn (n : Nat) (fs : List F) (l : L8) : pr (n + 1) (.nd 78 fs) l = prFN (pr n) fs l := rfl
theorem pr_ob (n : Nat) (fs : List F) (l : L8) : pr (n + 1) (.nd 135 fs) l = prCO (pr n) fs l := rfl
theorem pr_okv (n : Nat) (fs : List F) (l : L8) : pr (n + 1) (.nd 138 fs) l = prKV (pr n) fs l := rfl
theorem pr_ar (n : Nat) (fs : List F) (l : L8) : pr (n + 1) (.nd 81 fs) l = prAR (pr n) fs l := rfl
theorem pr_sf (n : Nat) (fs : List F) (l : L8) : pr (n + 1) (.nd 148 fs) l = prSF (pr n) fs l := rfl
theorem pr_ife (n : Nat) (fs : List F) (l : L8) : pr (n + 1) (.nd 143 fs) l = prIF (pr n) fs l := rfl
theorem pr_el (n : Nat) (fs : List F) (l : L8) : pr (n + 1) (.nd 146 fs) l = prEL (pr n) fs l := rfl
theorem pr_tr (n : Nat) (fs : List F) (l : L8) : pr (n + 1) (.nd 87 fs) l = prTR (pr n) fs l := rfl
theorem pr_rd (n : Nat) (fs : List F) (l : L8) : pr (n + 1) (.nd 89 fs) l = prRD (pr n) fs l := rfl
theorem pr_fe (n : Nat) (fs : List F) (l : L8) : pr (n + 1) (.nd 91 fs) l = prFE (pr n) fs l := rfl
theorem pr_lb (n : Nat) (fs : List F) (l : L8) : pr (n + 1) (.nd 93 fs) l = prLB (pr n) fs l := rfl
theorem pr_un (n : Nat) (fs : List F) (l : L8) : pr (n + 1) (.nd 83 fs) l = prUN (pr n) fs l := rfl
theorem pr_st (n : Nat) (fs : List F) (l : L8) : pr (n + 1) (.nd 140 fs) l = prST (pr n) fs l := rfl
theorem kv_key {f : T → L8 → L8} {k : ByteArray} {ks kq v : Option T} {l : L8} (h : k.size ≠ 0) : prKV f [.s k, .p ks, .p kq, .p v] l = opt v (fun t l => f t (l ++ [58, 32])) (l ++ k.data.toList) := by
 unfold prKV
 dsimp only
 rw [if_pos h]
theorem opC (op : Int) (w : World) (h0 : 1 ≤ op) (h1 : op ≤ 24) : Calls Tryz.prog 46 #[.int .i64 op] w fun e w' => e = .returned (.string ⟨(opT op).toArray⟩) ∧ w = w' := by
 rcases (show op = 1 ∨ op = 2 ∨ op = 3 ∨ op = 4 ∨ op = 5 ∨ op = 6 ∨ op = 7 ∨ op = 8 ∨ op = 9 ∨ op = 10 ∨ op = 11 ∨ op = 12 ∨ op = 13 ∨ op = 14 ∨ op = 15 ∨ op = 16 ∨ op = 17 ∨ op = 18 ∨ op = 19 ∨ op = 20 ∨ op = 21 ∨ op = 22 ∨ op = 23 ∨ op = 24 by omega) with rfl | rfl | rfl | rfl | rfl | rfl | rfl | rfl | rfl | rfl | rfl | rfl | rfl | rfl | rfl | rfl | rfl | rfl | rfl | rfl | rfl | rfl | rfl | rfl
 ·
  have HN := Lh (show opT 1 = [124] from rfl); go_enter Tryz.func46, Tryz.ntmps46; go_wp2_with fail; go_ret; exact ⟨by rw [HN.out]; rfl, rfl⟩
 ·
  have HN := Lh (show opT 2 = [44] from rfl); go_enter Tryz.func46, Tryz.ntmps46; go_wp2_with fail; go_ret; exact ⟨by rw [HN.out]; rfl, rfl⟩
 ·
  have HN := Lh (show opT 3 = [43] from rfl); go_enter Tryz.func46, Tryz.ntmps46; go_wp2_with fail; go_ret; exact ⟨by rw [HN.out]; rfl, rfl⟩
 ·
  have HN := Lh (show opT 4 = [45] from rfl); go_enter Tryz.func46, Tryz.ntmps46; go_wp2_with fail; go_ret; exact ⟨by rw [HN.out]; rfl, rfl⟩
 ·
  have HN := Lh (show opT 5 = [42] from rfl); go_enter Tryz.func46, Tryz.ntmps46; go_wp2_with fail; go_ret; exact ⟨by rw [HN.out]; rfl, rfl⟩
 ·
  have HN := Lh (show opT 6 = [47] from rfl); go_enter Tryz.func46, Tryz.ntmps46; go_wp2_with fail; go_ret; exact ⟨by rw [HN.out]; rfl, rfl⟩
 ·
  have HN := Lh (show opT 7 = [37] from rfl); go_enter Tryz.func46, Tryz.ntmps46; go_wp2_with fail; go_ret; exact ⟨by rw [HN.out]; rfl, rfl⟩
 ·
  have HN := Lh (show opT 8 = [61, 61] from rfl); go_enter Tryz.func46, Tryz.ntmps46; go_wp2_with fail; go_ret; exact ⟨by rw [HN.out]; rfl, rfl⟩
 ·
  have HN := Lh (show opT 9 = [33, 61] from rfl); go_enter Tryz.func46, Tryz.ntmps46; go_wp2_with fail; go_ret; exact ⟨by rw [HN.out]; rfl, rfl⟩
 ·
  have HN := Lh (show opT 10 = [62] from rfl); go_enter Tryz.func46, Tryz.ntmps46; go_wp2_with fail; go_ret; exact ⟨by rw [HN.out]; rfl, rfl⟩
 ·
  have HN := Lh (show opT 11 = [60] from rfl); go_enter Tryz.func46, Tryz.ntmps46; go_wp2_with fail; go_ret; exact ⟨by rw [HN.out]; rfl, rfl⟩
 ·
  have HN := Lh (show opT 12 = [62, 61] from rfl); go_enter Tryz.func46, Tryz.ntmps46; go_wp2_with fail; go_ret; exact ⟨by rw [HN.out]; rfl, rfl⟩
 ·
  have HN := Lh (show opT 13 = [60, 61] from rfl); go_enter Tryz.func46, Tryz.ntmps46; go_wp2_with fail; go_ret; exact ⟨by rw [HN.out]; rfl, rfl⟩
 ·
  have HN := Lh (show opT 14 = [97, 110, 100] from rfl); go_enter Tryz.func46, Tryz.ntmps46; go_wp2_with fail; go_ret; exact ⟨by rw [HN.out]; rfl, rfl⟩
 ·
  have HN := Lh (show opT 15 = [111, 114] from rfl); go_enter Tryz.func46, Tryz.ntmps46; go_wp2_with fail; go_ret; exact ⟨by rw [HN.out]; rfl, rfl⟩
 ·
  have HN := Lh (show opT 16 = [47, 47] from rfl); go_enter Tryz.func46, Tryz.ntmps46; go_wp2_with fail; go_ret; exact ⟨by rw [HN.out]; rfl, rfl⟩
 ·
  have HN := Lh (show opT 17 = [61] from rfl); go_enter Tryz.func46, Tryz.ntmps46; go_wp2_with fail; go_ret; exact ⟨by rw [HN.out]; rfl, rfl⟩
 ·
  have HN := Lh (show opT 18 = [124, 61] from rfl); go_enter Tryz.func46, Tryz.ntmps46; go_wp2_with fail; go_ret; exact ⟨by rw [HN.out]; rfl, rfl⟩
 ·
  have HN := Lh (show opT 19 = [43, 61] from rfl); go_enter Tryz.func46, Tryz.ntmps46; go_wp2_with fail; go_ret; exact ⟨by rw [HN.out]; rfl, rfl⟩
 ·
  have HN := Lh (show opT 20 = [45, 61] from rfl); go_enter Tryz.func46, Tryz.ntmps46; go_wp2_with fail; go_ret; exact ⟨by rw [HN.out]; rfl, rfl⟩
 ·
  have HN := Lh (show opT 21 = [42, 61] from rfl); go_enter Tryz.func46, Tryz.ntmps46; go_wp2_with fail; go_ret; exact ⟨by rw [HN.out]; rfl, rfl⟩
 ·
  have HN := Lh (show opT 22 = [47, 61] from rfl); go_enter Tryz.func46, Tryz.ntmps46; go_wp2_with fail; go_ret; exact ⟨by rw [HN.out]; rfl, rfl⟩
 ·
  have HN := Lh (show opT 23 = [37, 61] from rfl); go_enter Tryz.func46, Tryz.ntmps46; go_wp2_with fail; go_ret; exact ⟨by rw [HN.out]; rfl, rfl⟩
 ·
  have HN := Lh (show opT 24 = [47, 47, 61] from rfl); go_enter Tryz.func46, Tryz.ntmps46; go_wp2_with fail; go_ret; exact ⟨by rw [HN.out]; rfl, rfl⟩
def opS : ByteArray := (⟨#[124, 32, 44, 32, 43, 32, 45, 32, 42, 32, 47, 32, 37, 32, 61, 61, 32, 33, 61, 32, 62, 32, 60, 32, 62, 61, 32, 60, 61, 32, 97, 110, 100, 32, 111, 114, 32, 47, 47, 32, 61, 32, 124, 61, 32, 43, 61, 32, 45, 61, 32, 42, 61, 32, 47, 61, 32, 37, 61, 32, 47, 47, 61]⟩ : ByteArray)
theorem fieldsOp : Lib.fields opS.data.toList = [[124], [44], [43], [45], [42], [47], [37], [61, 61], [33, 61], [62], [60], [62, 61], [60, 61], [97, 110, 100], [111, 114], [47, 47], [61], [124, 61], [43, 61], [45, 61], [42, 61], [47, 61], [37, 61], [47, 47, 61]] := by kernel_rfl
theorem asciiOp : (opS.data.toList.all fun b => decide (b.toNat < 128)) = true := by kernel_rfl
set_option maxRecDepth 100000 in
set_option maxHeartbeats 4000000 in
theorem rOpC (op : Int) (w : World) (h0 : 1 ≤ op) (h1 : op ≤ 24) (hs : Lib.TabIs Tryz.prog w "strings.asciiSpace" .u8 Lib.asciiSpaceTab) : Calls Tryz.prog 22 #[.int .i64 op] w fun e w' => e = .returned (.string ⟨(opT op).toArray⟩) ∧ Below w.heap.size w w' := by
 have hF := strings_Fields opS w (by decide) (fun j b hb => by
  have := List.all_eq_true.1 asciiOp b (List.mem_of_getElem? hb)
  simpa using this) hs
 rw [fieldsOp] at hF; have HF := Lh hF; clear hF; rcases (show op = 1 ∨ op = 2 ∨ op = 3 ∨ op = 4 ∨ op = 5 ∨ op = 6 ∨ op = 7 ∨ op = 8 ∨ op = 9 ∨ op = 10 ∨ op = 11 ∨ op = 12 ∨ op = 13 ∨ op = 14 ∨ op = 15 ∨ op = 16 ∨ op = 17 ∨ op = 18 ∨ op = 19 ∨ op = 20 ∨ op = 21 ∨ op = 22 ∨ op = 23 ∨ op = 24 by omega) with rfl | rfl | rfl | rfl | rfl | rfl | rfl | rfl | rfl | rfl | rfl | rfl | rfl | rfl | rfl | rfl | rfl | rfl | rfl | rfl | rfl | rfl | rfl | rfl
 ·
  go_enter Tryz.func22, Tryz.ntmps22; go_wp2_with fail; refine HF.out.mono ?_; rintro e w1 ⟨rfl, rfl⟩; have hc := (Row.made w 9 ([[124], [44], [43], [45], [42], [47], [37], [61, 61], [33, 61], [62], [60], [62, 61], [60, 61], [97, 110, 100], [111, 114], [47, 47], [61], [124, 61], [43, 61], [45, 61], [42, 61], [47, 61], [37, 61], [47, 47, 61]].map fun l => Value.string ⟨l.toArray⟩).toArray).cell 0; have HW := Lh ((Below.refl w.heap.size w).alloc (Nat.le_refl _) (.cells ([[124], [44], [43], [45], [42], [47], [37], [61, 61], [33, 61], [62], [60], [62, 61], [60, 61], [97, 110, 100], [111, 114], [47, 47], [61], [124, 61], [43, 61], [45, 61], [42, 61], [47, 61], [37, 61], [47, 47, 61]].map fun l => Value.string ⟨l.toArray⟩).toArray 9)); obtain ⟨w2, hw2⟩ : ∃ x, x = w.alloc (.cells ([[124], [44], [43], [45], [42], [47], [37], [61, 61], [33, 61], [62], [60], [62, 61], [60, 61], [97, 110, 100], [111, 114], [47, 47], [61], [124, 61], [43, 61], [45, 61], [42, 61], [47, 61], [37, 61], [47, 47, 61]].map fun l => Value.string ⟨l.toArray⟩).toArray 9) := ⟨_, rfl⟩; rw [← hw2] at hc HW ⊢; clear hw2; go_wp2_with fail; go_ret; exact ⟨rfl, HW.out⟩
 ·
  go_enter Tryz.func22, Tryz.ntmps22; go_wp2_with fail; refine HF.out.mono ?_; rintro e w1 ⟨rfl, rfl⟩; have hc := (Row.made w 9 ([[124], [44], [43], [45], [42], [47], [37], [61, 61], [33, 61], [62], [60], [62, 61], [60, 61], [97, 110, 100], [111, 114], [47, 47], [61], [124, 61], [43, 61], [45, 61], [42, 61], [47, 61], [37, 61], [47, 47, 61]].map fun l => Value.string ⟨l.toArray⟩).toArray).cell 1; have HW := Lh ((Below.refl w.heap.size w).alloc (Nat.le_refl _) (.cells ([[124], [44], [43], [45], [42], [47], [37], [61, 61], [33, 61], [62], [60], [62, 61], [60, 61], [97, 110, 100], [111, 114], [47, 47], [61], [124, 61], [43, 61], [45, 61], [42, 61], [47, 61], [37, 61], [47, 47, 61]].map fun l => Value.string ⟨l.toArray⟩).toArray 9)); obtain ⟨w2, hw2⟩ : ∃ x, x = w.alloc (.cells ([[124], [44], [43], [45], [42], [47], [37], [61, 61], [33, 61], [62], [60], [62, 61], [60, 61], [97, 110, 100], [111, 114], [47, 47], [61], [124, 61], [43, 61], [45, 61], [42, 61], [47, 61], [37, 61], [47, 47, 61]].map fun l => Value.string ⟨l.toArray⟩).toArray 9) := ⟨_, rfl⟩; rw [← hw2] at hc HW ⊢; clear hw2; go_wp2_with fail; go_ret; exact ⟨rfl, HW.out⟩
 ·
  go_enter Tryz.func22, Tryz.ntmps22; go_wp2_with fail; refine HF.out.mono ?_; rintro e w1 ⟨rfl, rfl⟩; have hc := (Row.made w 9 ([[124], [44], [43], [45], [42], [47], [37], [61, 61], [33, 61], [62], [60], [62, 61], [60, 61], [97, 110, 100], [111, 114], [47, 47], [61], [124, 61], [43, 61], [45, 61], [42, 61], [47, 61], [37, 61], [47, 47, 61]].map fun l => Value.string ⟨l.toArray⟩).toArray).cell 2; have HW := Lh ((Below.refl w.heap.size w).alloc (Nat.le_refl _) (.cells ([[124], [44], [43], [45], [42], [47], [37], [61, 61], [33, 61], [62], [60], [62, 61], [60, 61], [97, 110, 100], [111, 114], [47, 47], [61], [124, 61], [43, 61], [45, 61], [42, 61], [47, 61], [37, 61], [47, 47, 61]].map fun l => Value.string ⟨l.toArray⟩).toArray 9)); obtain ⟨w2, hw2⟩ : ∃ x, x = w.alloc (.cells ([[124], [44], [43], [45], [42], [47], [37], [61, 61], [33, 61], [62], [60], [62, 61], [60, 61], [97, 110, 100], [111, 114], [47, 47], [61], [124, 61], [43, 61], [45, 61], [42, 61], [47, 61], [37, 61], [47, 47, 61]].map fun l => Value.string ⟨l.toArray⟩).toArray 9) := ⟨_, rfl⟩; rw [← hw2] at hc HW ⊢; clear hw2; go_wp2_with fail; go_ret; exact ⟨rfl, HW.out⟩
 ·
  go_enter Tryz.func22, Tryz.ntmps22; go_wp2_with fail; refine HF.out.mono ?_; rintro e w1 ⟨rfl, rfl⟩; have hc := (Row.made w 9 ([[124], [44], [43], [45], [42], [47], [37], [61, 61], [33, 61], [62], [60], [62, 61], [60, 61], [97, 110, 100], [111, 114], [47, 47], [61], [124, 61], [43, 61], [45, 61], [42, 61], [47, 61], [37, 61], [47, 47, 61]].map fun l => Value.string ⟨l.toArray⟩).toArray).cell 3; have HW := Lh ((Below.refl w.heap.size w).alloc (Nat.le_refl _) (.cells ([[124], [44], [43], [45], [42], [47], [37], [61, 61], [33, 61], [62], [60], [62, 61], [60, 61], [97, 110, 100], [111, 114], [47, 47], [61], [124, 61], [43, 61], [45, 61], [42, 61], [47, 61], [37, 61], [47, 47, 61]].map fun l => Value.string ⟨l.toArray⟩).toArray 9)); obtain ⟨w2, hw2⟩ : ∃ x, x = w.alloc (.cells ([[124], [44], [43], [45], [42], [47], [37], [61, 61], [33, 61], [62], [60], [62, 61], [60, 61], [97, 110, 100], [111, 114], [47, 47], [61], [124, 61], [43, 61], [45, 61], [42, 61], [47, 61], [37, 61], [47, 47, 61]].map fun l => Value.string ⟨l.toArray⟩).toArray 9) := ⟨_, rfl⟩; rw [← hw2] at hc HW ⊢; clear hw2; go_wp2_with fail; go_ret; exact ⟨rfl, HW.out⟩
 ·
  go_enter Tryz.func22, Tryz.ntmps22; go_wp2_with fail; refine HF.out.mono ?_; rintro e w1 ⟨rfl, rfl⟩; have hc := (Row.made w 9 ([[124], [44], [43], [45], [42], [47], [37], [61, 61], [33, 61], [62], [60], [62, 61], [60, 61], [97, 110, 100], [111, 114], [47, 47], [61], [124, 61], [43, 61], [45, 61], [42, 61], [47, 61], [37, 61], [47, 47, 61]].map fun l => Value.string ⟨l.toArray⟩).toArray).cell 4; have HW := Lh ((Below.refl w.heap.size w).alloc (Nat.le_refl _) (.cells ([[124], [44], [43], [45], [42], [47], [37], [61, 61], [33, 61], [62], [60], [62, 61], [60, 61], [97, 110, 100], [111, 114], [47, 47], [61], [124, 61], [43, 61], [45, 61], [42, 61], [47, 61], [37, 61], [47, 47, 61]].map fun l => Value.string ⟨l.toArray⟩).toArray 9)); obtain ⟨w2, hw2⟩ : ∃ x, x = w.alloc (.cells ([[124], [44], [43], [45], [42], [47], [37], [61, 61], [33, 61], [62], [60], [62, 61], [60, 61], [97, 110, 100], [111, 114], [47, 47], [61], [124, 61], [43, 61], [45, 61], [42, 61], [47, 61], [37, 61], [47, 47, 61]].map fun l => Value.string ⟨l.toArray⟩).toArray 9) := ⟨_, rfl⟩; rw [← hw2] at hc HW ⊢; clear hw2; go_wp2_with fail; go_ret; exact ⟨rfl, HW.out⟩
 ·
  go_enter Tryz.func22, Tryz.ntmps22; go_wp2_with fail; refine HF.out.mono ?_; rintro e w1 ⟨rfl, rfl⟩; have hc := (Row.made w 9 ([[124], [44], [43], [45], [42], [47], [37], [61, 61], [33, 61], [62], [60], [62, 61], [60, 61], [97, 110, 100], [111, 114], [47, 47], [61], [124, 61], [43, 61], [45, 61], [42, 61], [47, 61], [37, 61], [47, 47, 61]].map fun l => Value.string ⟨l.toArray⟩).toArray).cell 5; have HW := Lh ((Below.refl w.heap.size w).alloc (Nat.le_refl _) (.cells ([[124], [44], [43], [45], [42], [47], [37], [61, 61], [33, 61], [62], [60], [62, 61], [60, 61], [97, 110, 100], [111, 114], [47, 47], [61], [124, 61], [43, 61], [45, 61], [42, 61], [47, 61], [37, 61], [47, 47, 61]].map fun l => Value.string ⟨l.toArray⟩).toArray 9)); obtain ⟨w2, hw2⟩ : ∃ x, x = w.alloc (.cells ([[124], [44], [43], [45], [42], [47], [37], [61, 61], [33, 61], [62], [60], [62, 61], [60, 61], [97, 110, 100], [111, 114], [47, 47], [61], [124, 61], [43, 61], [45, 61], [42, 61], [47, 61], [37, 61], [47, 47, 61]].map fun l => Value.string ⟨l.toArray⟩).toArray 9) := ⟨_, rfl⟩; rw [← hw2] at hc HW ⊢; clear hw2; go_wp2_with fail; go_ret; exact ⟨rfl, HW.out⟩
 ·
  go_enter Tryz.func22, Tryz.ntmps22; go_wp2_with fail; refine HF.out.mono ?_; rintro e w1 ⟨rfl, rfl⟩; have hc := (Row.made w 9 ([[124], [44], [43], [45], [42], [47], [37], [61, 61], [33, 61], [62], [60], [62, 61], [60, 61], [97, 110, 100], [111, 114], [47, 47], [61], [124, 61], [43, 61], [45, 61], [42, 61], [47, 61], [37, 61], [47, 47, 61]].map fun l => Value.string ⟨l.toArray⟩).toArray).cell 6; have HW := Lh ((Below.refl w.heap.size w).alloc (Nat.le_refl _) (.cells ([[124], [44], [43], [45], [42], [47], [37], [61, 61], [33, 61], [62], [60], [62, 61], [60, 61], [97, 110, 100], [111, 114], [47, 47], [61], [124, 61], [43, 61], [45, 61], [42, 61], [47, 61], [37, 61], [47, 47, 61]].map fun l => Value.string ⟨l.toArray⟩).toArray 9)); obtain ⟨w2, hw2⟩ : ∃ x, x = w.alloc (.cells ([[124], [44], [43], [45], [42], [47], [37], [61, 61], [33, 61], [62], [60], [62, 61], [60, 61], [97, 110, 100], [111, 114], [47, 47], [61], [124, 61], [43, 61], [45, 61], [42, 61], [47, 61], [37, 61], [47, 47, 61]].map fun l => Value.string ⟨l.toArray⟩).toArray 9) := ⟨_, rfl⟩; rw [← hw2] at hc HW ⊢; clear hw2; go_wp2_with fail; go_ret; exact ⟨rfl, HW.out⟩
 ·
  go_enter Tryz.func22, Tryz.ntmps22; go_wp2_with fail; refine HF.out.mono ?_; rintro e w1 ⟨rfl, rfl⟩; have hc := (Row.made w 9 ([[124], [44], [43], [45], [42], [47], [37], [61, 61], [33, 61], [62], [60], [62, 61], [60, 61], [97, 110, 100], [111, 114], [47, 47], [61], [124, 61], [43, 61], [45, 61], [42, 61], [47, 61], [37, 61], [47, 47, 61]].map fun l => Value.string ⟨l.toArray⟩).toArray).cell 7; have HW := Lh ((Below.refl w.heap.size w).alloc (Nat.le_refl _) (.cells ([[124], [44], [43], [45], [42], [47], [37], [61, 61], [33, 61], [62], [60], [62, 61], [60, 61], [97, 110, 100], [111, 114], [47, 47], [61], [124, 61], [43, 61], [45, 61], [42, 61], [47, 61], [37, 61], [47, 47, 61]].map fun l => Value.string ⟨l.toArray⟩).toArray 9)); obtain ⟨w2, hw2⟩ : ∃ x, x = w.alloc (.cells ([[124], [44], [43], [45], [42], [47], [37], [61, 61], [33, 61], [62], [60], [62, 61], [60, 61], [97, 110, 100], [111, 114], [47, 47], [61], [124, 61], [43, 61], [45, 61], [42, 61], [47, 61], [37, 61], [47, 47, 61]].map fun l => Value.string ⟨l.toArray⟩).toArray 9) := ⟨_, rfl⟩; rw [← hw2] at hc HW ⊢; clear hw2; go_wp2_with fail; go_ret; exact ⟨rfl, HW.out⟩
 ·
  go_enter Tryz.func22, Tryz.ntmps22; go_wp2_with fail; refine HF.out.mono ?_; rintro e w1 ⟨rfl, rfl⟩; have hc := (Row.made w 9 ([[124], [44], [43], [45], [42], [47], [37], [61, 61], [33, 61], [62], [60], [62, 61], [60, 61], [97, 110, 100], [111, 114], [47, 47], [61], [124, 61], [43, 61], [45, 61], [42, 61], [47, 61], [37, 61], [47, 47, 61]].map fun l => Value.string ⟨l.toArray⟩).toArray).cell 8; have HW := Lh ((Below.refl w.heap.size w).alloc (Nat.le_refl _) (.cells ([[124], [44], [43], [45], [42], [47], [37], [61, 61], [33, 61], [62], [60], [62, 61], [60, 61], [97, 110, 100], [111, 114], [47, 47], [61], [124, 61], [43, 61], [45, 61], [42, 61], [47, 61], [37, 61], [47, 47, 61]].map fun l => Value.string ⟨l.toArray⟩).toArray 9)); obtain ⟨w2, hw2⟩ : ∃ x, x = w.alloc (.cells ([[124], [44], [43], [45], [42], [47], [37], [61, 61], [33, 61], [62], [60], [62, 61], [60, 61], [97, 110, 100], [111, 114], [47, 47], [61], [124, 61], [43, 61], [45, 61], [42, 61], [47, 61], [37, 61], [47, 47, 61]].map fun l => Value.string ⟨l.toArray⟩).toArray 9) := ⟨_, rfl⟩; rw [← hw2] at hc HW ⊢; clear hw2; go_wp2_with fail; go_ret; exact ⟨rfl, HW.out⟩
 ·
  go_enter Tryz.func22, Tryz.ntmps22; go_wp2_with fail; refine HF.out.mono ?_; rintro e w1 ⟨rfl, rfl⟩; have hc := (Row.made w 9 ([[124], [44], [43], [45], [42], [47], [37], [61, 61], [33, 61], [62], [60], [62, 61], [60, 61], [97, 110, 100], [111, 114], [47, 47], [61], [124, 61], [43, 61], [45, 61], [42, 61], [47, 61], [37, 61], [47, 47, 61]].map fun l => Value.string ⟨l.toArray⟩).toArray).cell 9; have HW := Lh ((Below.refl w.heap.size w).alloc (Nat.le_refl _) (.cells ([[124], [44], [43], [45], [42], [47], [37], [61, 61], [33, 61], [62], [60], [62, 61], [60, 61], [97, 110, 100], [111, 114], [47, 47], [61], [124, 61], [43, 61], [45, 61], [42, 61], [47, 61], [37, 61], [47, 47, 61]].map fun l => Value.string ⟨l.toArray⟩).toArray 9)); obtain ⟨w2, hw2⟩ : ∃ x, x = w.alloc (.cells ([[124], [44], [43], [45], [42], [47], [37], [61, 61], [33, 61], [62], [60], [62, 61], [60, 61], [97, 110, 100], [111, 114], [47, 47], [61], [124, 61], [43, 61], [45, 61], [42, 61], [47, 61], [37, 61], [47, 47, 61]].map fun l => Value.string ⟨l.toArray⟩).toArray 9) := ⟨_, rfl⟩; rw [← hw2] at hc HW ⊢; clear hw2; go_wp2_with fail; go_ret; exact ⟨rfl, HW.out⟩
 ·
  go_enter Tryz.func22, Tryz.ntmps22; go_wp2_with fail; refine HF.out.mono ?_; rintro e w1 ⟨rfl, rfl⟩; have hc := (Row.made w 9 ([[124], [44], [43], [45], [42], [47], [37], [61, 61], [33, 61], [62], [60], [62, 61], [60, 61], [97, 110, 100], [111, 114], [47, 47], [61], [124, 61], [43, 61], [45, 61], [42, 61], [47, 61], [37, 61], [47, 47, 61]].map fun l => Value.string ⟨l.toArray⟩).toArray).cell 10; have HW := Lh ((Below.refl w.heap.size w).alloc (Nat.le_refl _) (.cells ([[124], [44], [43], [45], [42], [47], [37], [61, 61], [33, 61], [62], [60], [62, 61], [60, 61], [97, 110, 100], [111, 114], [47, 47], [61], [124, 61], [43, 61], [45, 61], [42, 61], [47, 61], [37, 61], [47, 47, 61]].map fun l => Value.string ⟨l.toArray⟩).toArray 9)); obtain ⟨w2, hw2⟩ : ∃ x, x = w.alloc (.cells ([[124], [44], [43], [45], [42], [47], [37], [61, 61], [33, 61], [62], [60], [62, 61], [60, 61], [97, 110, 100], [111, 114], [47, 47], [61], [124, 61], [43, 61], [45, 61], [42, 61], [47, 61], [37, 61], [47, 47, 61]].map fun l => Value.string ⟨l.toArray⟩).toArray 9) := ⟨_, rfl⟩; rw [← hw2] at hc HW ⊢; clear hw2; go_wp2_with fail; go_ret; exact ⟨rfl, HW.out⟩
 ·
  go_enter Tryz.func22, Tryz.ntmps22; go_wp2_with fail; refine HF.out.mono ?_; rintro e w1 ⟨rfl, rfl⟩; have hc := (Row.made w 9 ([[124], [44], [43], [45], [42], [47], [37], [61, 61], [33, 61], [62], [60], [62, 61], [60, 61], [97, 110, 100], [111, 114], [47, 47], [61], [124, 61], [43, 61], [45, 61], [42, 61], [47, 61], [37, 61], [47, 47, 61]].map fun l => Value.string ⟨l.toArray⟩).toArray).cell 11; have HW := Lh ((Below.refl w.heap.size w).alloc (Nat.le_refl _) (.cells ([[124], [44], [43], [45], [42], [47], [37], [61, 61], [33, 61], [62], [60], [62, 61], [60, 61], [97, 110, 100], [111, 114], [47, 47], [61], [124, 61], [43, 61], [45, 61], [42, 61], [47, 61], [37, 61], [47, 47, 61]].map fun l => Value.string ⟨l.toArray⟩).toArray 9)); obtain ⟨w2, hw2⟩ : ∃ x, x = w.alloc (.cells ([[124], [44], [43], [45], [42], [47], [37], [61, 61], [33, 61], [62], [60], [62, 61], [60, 61], [97, 110, 100], [111, 114], [47, 47], [61], [124, 61], [43, 61], [45, 61], [42, 61], [47, 61], [37, 61], [47, 47, 61]].map fun l => Value.string ⟨l.toArray⟩).toArray 9) := ⟨_, rfl⟩; rw [← hw2] at hc HW ⊢; clear hw2; go_wp2_with fail; go_ret; exact ⟨rfl, HW.out⟩
 ·
  go_enter Tryz.func22, Tryz.ntmps22; go_wp2_with fail; refine HF.out.mono ?_; rintro e w1 ⟨rfl, rfl⟩; have hc := (Row.made w 9 ([[124], [44], [43], [45], [42], [47], [37], [61, 61], [33, 61], [62], [60], [62, 61], [60, 61], [97, 110, 100], [111, 114], [47, 47], [61], [124, 61], [43, 61], [45, 61], [42, 61], [47, 61], [37, 61], [47, 47, 61]].map fun l => Value.string ⟨l.toArray⟩).toArray).cell 12; have HW := Lh ((Below.refl w.heap.size w).alloc (Nat.le_refl _) (.cells ([[124], [44], [43], [45], [42], [47], [37], [61, 61], [33, 61], [62], [60], [62, 61], [60, 61], [97, 110, 100], [111, 114], [47, 47], [61], [124, 61], [43, 61], [45, 61], [42, 61], [47, 61], [37, 61], [47, 47, 61]].map fun l => Value.string ⟨l.toArray⟩).toArray 9)); obtain ⟨w2, hw2⟩ : ∃ x, x = w.alloc (.cells ([[124], [44], [43], [45], [42], [47], [37], [61, 61], [33, 61], [62], [60], [62, 61], [60, 61], [97, 110, 100], [111, 114], [47, 47], [61], [124, 61], [43, 61], [45, 61], [42, 61], [47, 61], [37, 61], [47, 47, 61]].map fun l => Value.string ⟨l.toArray⟩).toArray 9) := ⟨_, rfl⟩; rw [← hw2] at hc HW ⊢; clear hw2; go_wp2_with fail; go_ret; exact ⟨rfl, HW.out⟩
 ·
  go_enter Tryz.func22, Tryz.ntmps22; go_wp2_with fail; refine HF.out.mono ?_; rintro e w1 ⟨rfl, rfl⟩; have hc := (Row.made w 9 ([[124], [44], [43], [45], [42], [47], [37], [61, 61], [33, 61], [62], [60], [62, 61], [60, 61], [97, 110, 100], [111, 114], [47, 47], [61], [124, 61], [43, 61], [45, 61], [42, 61], [47, 61], [37, 61], [47, 47, 61]].map fun l => Value.string ⟨l.toArray⟩).toArray).cell 13; have HW := Lh ((Below.refl w.heap.size w).alloc (Nat.le_refl _) (.cells ([[124], [44], [43], [45], [42], [47], [37], [61, 61], [33, 61], [62], [60], [62, 61], [60, 61], [97, 110, 100], [111, 114], [47, 47], [61], [124, 61], [43, 61], [45, 61], [42, 61], [47, 61], [37, 61], [47, 47, 61]].map fun l => Value.string ⟨l.toArray⟩).toArray 9)); obtain ⟨w2, hw2⟩ : ∃ x, x = w.alloc (.cells ([[124], [44], [43], [45], [42], [47], [37], [61, 61], [33, 61], [62], [60], [62, 61], [60, 61], [97, 110, 100], [111, 114], [47, 47], [61], [124, 61], [43, 61], [45, 61], [42, 61], [47, 61], [37, 61], [47, 47, 61]].map fun l => Value.string ⟨l.toArray⟩).toArray 9) := ⟨_, rfl⟩; rw [← hw2] at hc HW ⊢; clear hw2; go_wp2_with fail; go_ret; exact ⟨rfl, HW.out⟩
 ·
  go_enter Tryz.func22, Tryz.ntmps22; go_wp2_with fail; refine HF.out.mono ?_; rintro e w1 ⟨rfl, rfl⟩; have hc := (Row.made w 9 ([[124], [44], [43], [45], [42], [47], [37], [61, 61], [33, 61], [62], [60], [62, 61], [60, 61], [97, 110, 100], [111, 114], [47, 47], [61], [124, 61], [43, 61], [45, 61], [42, 61], [47, 61], [37, 61], [47, 47, 61]].map fun l => Value.string ⟨l.toArray⟩).toArray).cell 14; have HW := Lh ((Below.refl w.heap.size w).alloc (Nat.le_refl _) (.cells ([[124], [44], [43], [45], [42], [47], [37], [61, 61], [33, 61], [62], [60], [62, 61], [60, 61], [97, 110, 100], [111, 114], [47, 47], [61], [124, 61], [43, 61], [45, 61], [42, 61], [47, 61], [37, 61], [47, 47, 61]].map fun l => Value.string ⟨l.toArray⟩).toArray 9)); obtain ⟨w2, hw2⟩ : ∃ x, x = w.alloc (.cells ([[124], [44], [43], [45], [42], [47], [37], [61, 61], [33, 61], [62], [60], [62, 61], [60, 61], [97, 110, 100], [111, 114], [47, 47], [61], [124, 61], [43, 61], [45, 61], [42, 61], [47, 61], [37, 61], [47, 47, 61]].map fun l => Value.string ⟨l.toArray⟩).toArray 9) := ⟨_, rfl⟩; rw [← hw2] at hc HW ⊢; clear hw2; go_wp2_with fail; go_ret; exact ⟨rfl, HW.out⟩
 ·
  go_enter Tryz.func22, Tryz.ntmps22; go_wp2_with fail; refine HF.out.mono ?_; rintro e w1 ⟨rfl, rfl⟩; have hc := (Row.made w 9 ([[124], [44], [43], [45], [42], [47], [37], [61, 61], [33, 61], [62], [60], [62, 61], [60, 61], [97, 110, 100], [111, 114], [47, 47], [61], [124, 61], [43, 61], [45, 61], [42, 61], [47, 61], [37, 61], [47, 47, 61]].map fun l => Value.string ⟨l.toArray⟩).toArray).cell 15; have HW := Lh ((Below.refl w.heap.size w).alloc (Nat.le_refl _) (.cells ([[124], [44], [43], [45], [42], [47], [37], [61, 61], [33, 61], [62], [60], [62, 61], [60, 61], [97, 110, 100], [111, 114], [47, 47], [61], [124, 61], [43, 61], [45, 61], [42, 61], [47, 61], [37, 61], [47, 47, 61]].map fun l => Value.string ⟨l.toArray⟩).toArray 9)); obtain ⟨w2, hw2⟩ : ∃ x, x = w.alloc (.cells ([[124], [44], [43], [45], [42], [47], [37], [61, 61], [33, 61], [62], [60], [62, 61], [60, 61], [97, 110, 100], [111, 114], [47, 47], [61], [124, 61], [43, 61], [45, 61], [42, 61], [47, 61], [37, 61], [47, 47, 61]].map fun l => Value.string ⟨l.toArray⟩).toArray 9) := ⟨_, rfl⟩; rw [← hw2] at hc HW ⊢; clear hw2; go_wp2_with fail; go_ret; exact ⟨rfl, HW.out⟩
 ·
  go_enter Tryz.func22, Tryz.ntmps22; go_wp2_with fail; refine HF.out.mono ?_; rintro e w1 ⟨rfl, rfl⟩; have hc := (Row.made w 9 ([[124], [44], [43], [45], [42], [47], [37], [61, 61], [33, 61], [62], [60], [62, 61], [60, 61], [97, 110, 100], [111, 114], [47, 47], [61], [124, 61], [43, 61], [45, 61], [42, 61], [47, 61], [37, 61], [47, 47, 61]].map fun l => Value.string ⟨l.toArray⟩).toArray).cell 16; have HW := Lh ((Below.refl w.heap.size w).alloc (Nat.le_refl _) (.cells ([[124], [44], [43], [45], [42], [47], [37], [61, 61], [33, 61], [62], [60], [62, 61], [60, 61], [97, 110, 100], [111, 114], [47, 47], [61], [124, 61], [43, 61], [45, 61], [42, 61], [47, 61], [37, 61], [47, 47, 61]].map fun l => Value.string ⟨l.toArray⟩).toArray 9)); obtain ⟨w2, hw2⟩ : ∃ x, x = w.alloc (.cells ([[124], [44], [43], [45], [42], [47], [37], [61, 61], [33, 61], [62], [60], [62, 61], [60, 61], [97, 110, 100], [111, 114], [47, 47], [61], [124, 61], [43, 61], [45, 61], [42, 61], [47, 61], [37, 61], [47, 47, 61]].map fun l => Value.string ⟨l.toArray⟩).toArray 9) := ⟨_, rfl⟩; rw [← hw2] at hc HW ⊢; clear hw2; go_wp2_with fail; go_ret; exact ⟨rfl, HW.out⟩
 ·
  go_enter Tryz.func22, Tryz.ntmps22; go_wp2_with fail; refine HF.out.mono ?_; rintro e w1 ⟨rfl, rfl⟩; have hc := (Row.made w 9 ([[124], [44], [43], [45], [42], [47], [37], [61, 61], [33, 61], [62], [60], [62, 61], [60, 61], [97, 110, 100], [111, 114], [47, 47], [61], [124, 61], [43, 61], [45, 61], [42, 61], [47, 61], [37, 61], [47, 47, 61]].map fun l => Value.string ⟨l.toArray⟩).toArray).cell 17; have HW := Lh ((Below.refl w.heap.size w).alloc (Nat.le_refl _) (.cells ([[124], [44], [43], [45], [42], [47], [37], [61, 61], [33, 61], [62], [60], [62, 61], [60, 61], [97, 110, 100], [111, 114], [47, 47], [61], [124, 61], [43, 61], [45, 61], [42, 61], [47, 61], [37, 61], [47, 47, 61]].map fun l => Value.string ⟨l.toArray⟩).toArray 9)); obtain ⟨w2, hw2⟩ : ∃ x, x = w.alloc (.cells ([[124], [44], [43], [45], [42], [47], [37], [61, 61], [33, 61], [62], [60], [62, 61], [60, 61], [97, 110, 100], [111, 114], [47, 47], [61], [124, 61], [43, 61], [45, 61], [42, 61], [47, 61], [37, 61], [47, 47, 61]].map fun l => Value.string ⟨l.toArray⟩).toArray 9) := ⟨_, rfl⟩; rw [← hw2] at hc HW ⊢; clear hw2; go_wp2_with fail; go_ret; exact ⟨rfl, HW.out⟩
 ·
  go_enter Tryz.func22, Tryz.ntmps22; go_wp2_with fail; refine HF.out.mono ?_; rintro e w1 ⟨rfl, rfl⟩; have hc := (Row.made w 9 ([[124], [44], [43], [45], [42], [47], [37], [61, 61], [33, 61], [62], [60], [62, 61], [60, 61], [97, 110, 100], [111, 114], [47, 47], [61], [124, 61], [43, 61], [45, 61], [42, 61], [47, 61], [37, 61], [47, 47, 61]].map fun l => Value.string ⟨l.toArray⟩).toArray).cell 18; have HW := Lh ((Below.refl w.heap.size w).alloc (Nat.le_refl _) (.cells ([[124], [44], [43], [45], [42], [47], [37], [61, 61], [33, 61], [62], [60], [62, 61], [60, 61], [97, 110, 100], [111, 114], [47, 47], [61], [124, 61], [43, 61], [45, 61], [42, 61], [47, 61], [37, 61], [47, 47, 61]].map fun l => Value.string ⟨l.toArray⟩).toArray 9)); obtain ⟨w2, hw2⟩ : ∃ x, x = w.alloc (.cells ([[124], [44], [43], [45], [42], [47], [37], [61, 61], [33, 61], [62], [60], [62, 61], [60, 61], [97, 110, 100], [111, 114], [47, 47], [61], [124, 61], [43, 61], [45, 61], [42, 61], [47, 61], [37, 61], [47, 47, 61]].map fun l => Value.string ⟨l.toArray⟩).toArray 9) := ⟨_, rfl⟩; rw [← hw2] at hc HW ⊢; clear hw2; go_wp2_with fail; go_ret; exact ⟨rfl, HW.out⟩
 ·
  go_enter Tryz.func22, Tryz.ntmps22; go_wp2_with fail; refine HF.out.mono ?_; rintro e w1 ⟨rfl, rfl⟩; have hc := (Row.made w 9 ([[124], [44], [43], [45], [42], [47], [37], [61, 61], [33, 61], [62], [60], [62, 61], [60, 61], [97, 110, 100], [111, 114], [47, 47], [61], [124, 61], [43, 61], [45, 61], [42, 61], [47, 61], [37, 61], [47, 47, 61]].map fun l => Value.string ⟨l.toArray⟩).toArray).cell 19; have HW := Lh ((Below.refl w.heap.size w).alloc (Nat.le_refl _) (.cells ([[124], [44], [43], [45], [42], [47], [37], [61, 61], [33, 61], [62], [60], [62, 61], [60, 61], [97, 110, 100], [111, 114], [47, 47], [61], [124, 61], [43, 61], [45, 61], [42, 61], [47, 61], [37, 61], [47, 47, 61]].map fun l => Value.string ⟨l.toArray⟩).toArray 9)); obtain ⟨w2, hw2⟩ : ∃ x, x = w.alloc (.cells ([[124], [44], [43], [45], [42], [47], [37], [61, 61], [33, 61], [62], [60], [62, 61], [60, 61], [97, 110, 100], [111, 114], [47, 47], [61], [124, 61], [43, 61], [45, 61], [42, 61], [47, 61], [37, 61], [47, 47, 61]].map fun l => Value.string ⟨l.toArray⟩).toArray 9) := ⟨_, rfl⟩; rw [← hw2] at hc HW ⊢; clear hw2; go_wp2_with fail; go_ret; exact ⟨rfl, HW.out⟩
 ·
  go_enter Tryz.func22, Tryz.ntmps22; go_wp2_with fail; refine HF.out.mono ?_; rintro e w1 ⟨rfl, rfl⟩; have hc := (Row.made w 9 ([[124], [44], [43], [45], [42], [47], [37], [61, 61], [33, 61], [62], [60], [62, 61], [60, 61], [97, 110, 100], [111, 114], [47, 47], [61], [124, 61], [43, 61], [45, 61], [42, 61], [47, 61], [37, 61], [47, 47, 61]].map fun l => Value.string ⟨l.toArray⟩).toArray).cell 20; have HW := Lh ((Below.refl w.heap.size w).alloc (Nat.le_refl _) (.cells ([[124], [44], [43], [45], [42], [47], [37], [61, 61], [33, 61], [62], [60], [62, 61], [60, 61], [97, 110, 100], [111, 114], [47, 47], [61], [124, 61], [43, 61], [45, 61], [42, 61], [47, 61], [37, 61], [47, 47, 61]].map fun l => Value.string ⟨l.toArray⟩).toArray 9)); obtain ⟨w2, hw2⟩ : ∃ x, x = w.alloc (.cells ([[124], [44], [43], [45], [42], [47], [37], [61, 61], [33, 61], [62], [60], [62, 61], [60, 61], [97, 110, 100], [111, 114], [47, 47], [61], [124, 61], [43, 61], [45, 61], [42, 61], [47, 61], [37, 61], [47, 47, 61]].map fun l => Value.string ⟨l.toArray⟩).toArray 9) := ⟨_, rfl⟩; rw [← hw2] at hc HW ⊢; clear hw2; go_wp2_with fail; go_ret; exact ⟨rfl, HW.out⟩
 ·
  go_enter Tryz.func22, Tryz.ntmps22; go_wp2_with fail; refine HF.out.mono ?_; rintro e w1 ⟨rfl, rfl⟩; have hc := (Row.made w 9 ([[124], [44], [43], [45], [42], [47], [37], [61, 61], [33, 61], [62], [60], [62, 61], [60, 61], [97, 110, 100], [111, 114], [47, 47], [61], [124, 61], [43, 61], [45, 61], [42, 61], [47, 61], [37, 61], [47, 47, 61]].map fun l => Value.string ⟨l.toArray⟩).toArray).cell 21; have HW := Lh ((Below.refl w.heap.size w).alloc (Nat.le_refl _) (.cells ([[124], [44], [43], [45], [42], [47], [37], [61, 61], [33, 61], [62], [60], [62, 61], [60, 61], [97, 110, 100], [111, 114], [47, 47], [61], [124, 61], [43, 61], [45, 61], [42, 61], [47, 61], [37, 61], [47, 47, 61]].map fun l => Value.string ⟨l.toArray⟩).toArray 9)); obtain ⟨w2, hw2⟩ : ∃ x, x = w.alloc (.cells ([[124], [44], [43], [45], [42], [47], [37], [61, 61], [33, 61], [62], [60], [62, 61], [60, 61], [97, 110, 100], [111, 114], [47, 47], [61], [124, 61], [43, 61], [45, 61], [42, 61], [47, 61], [37, 61], [47, 47, 61]].map fun l => Value.string ⟨l.toArray⟩).toArray 9) := ⟨_, rfl⟩; rw [← hw2] at hc HW ⊢; clear hw2; go_wp2_with fail; go_ret; exact ⟨rfl, HW.out⟩
 ·
  go_enter Tryz.func22, Tryz.ntmps22; go_wp2_with fail; refine HF.out.mono ?_; rintro e w1 ⟨rfl, rfl⟩; have hc := (Row.made w 9 ([[124], [44], [43], [45], [42], [47], [37], [61, 61], [33, 61], [62], [60], [62, 61], [60, 61], [97, 110, 100], [111, 114], [47, 47], [61], [124, 61], [43, 61], [45, 61], [42, 61], [47, 61], [37, 61], [47, 47, 61]].map fun l => Value.string ⟨l.toArray⟩).toArray).cell 22; have HW := Lh ((Below.refl w.heap.size w).alloc (Nat.le_refl _) (.cells ([[124], [44], [43], [45], [42], [47], [37], [61, 61], [33, 61], [62], [60], [62, 61], [60, 61], [97, 110, 100], [111, 114], [47, 47], [61], [124, 61], [43, 61], [45, 61], [42, 61], [47, 61], [37, 61], [47, 47, 61]].map fun l => Value.string ⟨l.toArray⟩).toArray 9)); obtain ⟨w2, hw2⟩ : ∃ x, x = w.alloc (.cells ([[124], [44], [43], [45], [42], [47], [37], [61, 61], [33, 61], [62], [60], [62, 61], [60, 61], [97, 110, 100], [111, 114], [47, 47], [61], [124, 61], [43, 61], [45, 61], [42, 61], [47, 61], [37, 61], [47, 47, 61]].map fun l => Value.string ⟨l.toArray⟩).toArray 9) := ⟨_, rfl⟩; rw [← hw2] at hc HW ⊢; clear hw2; go_wp2_with fail; go_ret; exact ⟨rfl, HW.out⟩
 ·
  go_enter Tryz.func22, Tryz.ntmps22; go_wp2_with fail; refine HF.out.mono ?_; rintro e w1 ⟨rfl, rfl⟩; have hc := (Row.made w 9 ([[124], [44], [43], [45], [42], [47], [37], [61, 61], [33, 61], [62], [60], [62, 61], [60, 61], [97, 110, 100], [111, 114], [47, 47], [61], [124, 61], [43, 61], [45, 61], [42, 61], [47, 61], [37, 61], [47, 47, 61]].map fun l => Value.string ⟨l.toArray⟩).toArray).cell 23; have HW := Lh ((Below.refl w.heap.size w).alloc (Nat.le_refl _) (.cells ([[124], [44], [43], [45], [42], [47], [37], [61, 61], [33, 61], [62], [60], [62, 61], [60, 61], [97, 110, 100], [111, 114], [47, 47], [61], [124, 61], [43, 61], [45, 61], [42, 61], [47, 61], [37, 61], [47, 47, 61]].map fun l => Value.string ⟨l.toArray⟩).toArray 9)); obtain ⟨w2, hw2⟩ : ∃ x, x = w.alloc (.cells ([[124], [44], [43], [45], [42], [47], [37], [61, 61], [33, 61], [62], [60], [62, 61], [60, 61], [97, 110, 100], [111, 114], [47, 47], [61], [124, 61], [43, 61], [45, 61], [42, 61], [47, 61], [37, 61], [47, 47, 61]].map fun l => Value.string ⟨l.toArray⟩).toArray 9) := ⟨_, rfl⟩; rw [← hw2] at hc HW ⊢; clear hw2; go_wp2_with fail; go_ret; exact ⟨rfl, HW.out⟩
end Go.Proofs.YtghcggagpagfoaaGreatDoor
