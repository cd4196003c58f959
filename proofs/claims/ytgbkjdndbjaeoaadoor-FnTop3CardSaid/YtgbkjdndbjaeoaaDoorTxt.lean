/-
  The text of a tree (n001_1001), and the shapes that the law's reader makes.
-/
import Derived.Test.YtgbkjdndbjaeoaaDoorDct
import Derived.Test.YtgbkjdndbjaeoaaDoorJson
namespace Go.Proofs.YtgbkjdndbjaeoaaDoor
set_option linter.unusedVariables false
set_option linter.unusedSimpArgs false
open Go.ChangeShapes Go.WideShapes Go.ChangeAt Go.RowKit M
def jr (f : T → List UInt8) : Bool → List T → List UInt8
  | _, [] => []
  | c, t :: ts => (if c then [44, 32] else []) ++ (f t ++ jr f true ts)
def txt : Nat → T → List UInt8
  | 0, _ => []
  | n + 1, .nd 40 [.l _ ts] => if ts.length = 0 then [123, 125] else [123, 32] ++ (jr (txt n) false ts ++ [32, 125])
  | n + 1, .nd 44 [.s k, .s ks, .p (some v)] => (if k.size = 0 then quoted ks else k.data.toList) ++ ([58, 32] ++ txt n v)
  | n + 1, .nd 59 [.l _ ts] => [91] ++ (jr (txt n) false ts ++ [93])
  | n + 1, .nd 32 [.p (some o), .p _, .s _, .s _, .b _, .b _, .b _] => txt n o
  | n + 1, .nd 32 [.p none, .p (some a), .s _, .s _, .b _, .b _, .b _] => txt n a
  | n + 1, .nd 32 [.p none, .p none, .s num, .s str, .b nu, .b tr, .b fa] => if num.size ≠ 0 then num.data.toList else if nu = true then [110, 117, 108, 108] else if tr = true then [116, 114, 117, 101] else if fa = true then [102, 97, 108, 115, 101] else quoted str
  | _ + 1, _ => []
def E0 : ByteArray := ByteArray.empty
def litT (nu tr fa : Bool) : T := termF none none E0 E0 nu tr fa
-- what the reader makes: objects, key values, arrays, terms
mutual
inductive WO : Nat → T → Prop
  | mk (n : Nat) (nn : Bool) (ts : List T) : ts.length ≤ 3 → (∀ t ∈ ts, WK n t) → WO (n + 1) (.nd 40 [.l nn ts])
inductive WK : Nat → T → Prop
  | key (n : Nat) (m : Int) (v : T) : WT n v → WK (n + 1) (kvF (nameT m) E0 v)
  | str (n : Nat) (s : ByteArray) (v : T) : s.size ≤ 255 → WT n v → WK (n + 1) (kvF E0 s v)
inductive WA : Nat → T → Prop
  | mk (n : Nat) (nn : Bool) (ts : List T) : ts.length ≤ 3 → (∀ t ∈ ts, WT n t) → WA (n + 1) (.nd 59 [.l nn ts])
inductive WT : Nat → T → Prop
  | obj (n : Nat) (o : T) : WO n o → WT (n + 1) (termF (some o) none E0 E0 false false false)
  | arr (n : Nat) (a : T) : WA n a → WT (n + 1) (termF none (some a) E0 E0 false false false)
  | num (n : Nat) (m : Int) : WT (n + 1) (termF none none (numT m) E0 false false false)
  | null (n : Nat) : WT (n + 1) (termF none none E0 E0 true false false)
  | tru (n : Nat) : WT (n + 1) (termF none none E0 E0 false true false)
  | fls (n : Nat) : WT (n + 1) (termF none none E0 E0 false false true)
  | str (n : Nat) (s : ByteArray) : s.size ≤ 255 → WT (n + 1) (termF none none E0 s false false false)
end
theorem At.term {ok : Nat → Prop} {n : Nat} {w : World} {p : Nat} {o a : Option T} {x y : ByteArray} {b c d : Bool} (h : At ok (n + 1) w p (termF o a x y b c d)) : ∃ vo va, Row w p 32 #[vo, va, .string x, .string y, .bool b, .bool c, .bool d] ∧ PV ok n w o vo ∧ PV ok n w a va ∧ ok p := by
  obtain ⟨⟨l⟩, h1, h2, h3, h4⟩ := h
  match l, h3 with
  | [c0, c1, c2, c3, c4, c5, c6], _ =>
    have e2 : c2 = .string x := h4 2 _ _ rfl rfl
    have e3 : c3 = .string y := h4 3 _ _ rfl rfl
    have e4 : c4 = .bool b := h4 4 _ _ rfl rfl
    have e5 : c5 = .bool c := h4 5 _ _ rfl rfl
    have e6 : c6 = .bool d := h4 6 _ _ rfl rfl
    subst e2 e3 e4 e5 e6
    exact ⟨c0, c1, h1, h4 0 _ _ rfl rfl, h4 1 _ _ rfl rfl, h2⟩
theorem At.kv {ok : Nat → Prop} {n : Nat} {w : World} {p : Nat} {k ks : ByteArray} {v : T} (h : At ok (n + 1) w p (kvF k ks v)) : ∃ q, Row w p 44 #[.string k, .string ks, .pointer (some ⟨q, 0, none⟩)] ∧ At ok n w q v ∧ ok p := by
  obtain ⟨⟨l⟩, h1, h2, h3, h4⟩ := h
  match l, h3 with
  | [c0, c1, c2], _ =>
    have e0 : c0 = .string k := h4 0 _ _ rfl rfl
    have e1 : c1 = .string ks := h4 1 _ _ rfl rfl
    obtain ⟨q, e2, h5⟩ := h4 2 _ _ rfl rfl
    subst e0 e1 e2
    exact ⟨q, h1, h5, h2⟩
theorem At.list {ok : Nat → Prop} {n : Nat} {w : World} {p k : Nat} {nn : Bool} {ts : List T} (h : At ok (n + 1) w p (.nd k [.l nn ts])) : ∃ A c us, Row w p k #[.slice A ts.length c] ∧ Vw w A ts.length us ∧ (∀ x, A = some x → 0 < ts.length → ok x.block) ∧ (∀ (i : Nat) (t : T) (u : Value), ts[i]? = some t → us[i]? = some u → ∃ q, u = .pointer (some ⟨q, 0, none⟩) ∧ At ok n w q t) ∧ ok p := by
  obtain ⟨⟨l⟩, h1, h2, h3, h4⟩ := h
  match l, h3 with
  | [c0], _ =>
    obtain ⟨A, c, us, e0, _, h5, h6, h7⟩ := h4 0 _ _ rfl rfl
    subst e0
    exact ⟨A, c, us, h1, h5, h6, h7, h2⟩
/-- The builder's blocks lie from B on, the tree's below. -/
theorem At.bout {w w' : World} {B b n p : Nat} {d : Option Nat} {l l' : List UInt8} {t : T} (h : At (fun k => k < B) n w p t) (h0 : Bld w B b d l) (ho : BOut w B b d l' w') : At (fun k => k < B) n w' p t := by
  obtain ⟨d', _, _, ht⟩ := ho
  exact At.turn ht (fun k hk _ x => by
    have hb := h0.lt
    rcases x with x | x
    · omega
    · have := (hb.2.2 k x).1; omega) (fun k hk _ => hk) n h
theorem BOut.chain {w0 w : World} {B b f : Nat} {d : Option Nat} {l l' : List UInt8} {args : Array Value} {v : Value} (h : BOut w0 B b d l w) (hc : ∀ d1, Bld w B b d1 l → Calls Tryd.prog f args w fun e w' => e = .returned v ∧ BOut w B b d1 l' w') : Calls Tryd.prog f args w fun e w' => e = .returned v ∧ BOut w0 B b d l' w' := by
  obtain ⟨d1, h1, h2, h3⟩ := h
  refine (hc d1 h1).mono ?_
  rintro e w' ⟨rfl, h4⟩
  exact ⟨rfl, h4.then h2 h3⟩
theorem BOut.wstr {w0 w : World} {B b : Nat} {d : Option Nat} {l : List UInt8} (h : BOut w0 B b d l w) (s : ByteArray) (hlen : l.length + s.size ≤ 140737488355328) (hB : B ≤ w.heap.size) : Calls Tryd.prog 20 #[.pointer (some ⟨b, 0, none⟩), .string s] w fun e w' => e = .returned (.tuple #[.int .i64 s.size, .nilIface]) ∧ BOut w0 B b d (l ++ s.data.toList) w' := h.chain fun d1 h1 => bstr w B b d1 l s h1 hlen hB
theorem BOut.wbyte {w0 w : World} {B b : Nat} {d : Option Nat} {l : List UInt8} (h : BOut w0 B b d l w) (c : UInt8) (n : Int) (hn : n = c.toNat) (hlen : l.length + 1 ≤ 140737488355328) (hB : B ≤ w.heap.size) : Calls Tryd.prog 28 #[.pointer (some ⟨b, 0, none⟩), .int .u8 n] w fun e w' => e = .returned .nilIface ∧ BOut w0 B b d (l ++ [c]) w' := h.chain fun d1 h1 => bbyte w B b d1 l c n hn h1 hlen hB
theorem jr_drop (f : T → List UInt8) (ts : List T) (k : Nat) (t : T) (h : ts[k]? = some t) : jr f (decide (0 < k)) (ts.drop k) = (if 0 < k then [44, 32] else []) ++ (f t ++ jr f (decide (0 < k + 1)) (ts.drop (k + 1))) := by
  have hk := (List.getElem?_eq_some_iff.1 h).1
  have ht := (List.getElem?_eq_some_iff.1 h).2
  rw [List.drop_eq_getElem_cons hk, ht]
  simp [jr]
theorem txt_obj (n : Nat) (nn : Bool) (ts : List T) : txt (n + 1) (.nd 40 [.l nn ts]) = if ts.length = 0 then [123, 125] else [123, 32] ++ (jr (txt n) false ts ++ [32, 125]) := rfl
theorem txt_arr (n : Nat) (nn : Bool) (ts : List T) : txt (n + 1) (.nd 59 [.l nn ts]) = [91] ++ (jr (txt n) false ts ++ [93]) := rfl
theorem txt_kv (n : Nat) (k ks : ByteArray) (v : T) : txt (n + 1) (kvF k ks v) = (if k.size = 0 then quoted ks else k.data.toList) ++ ([58, 32] ++ txt n v) := rfl
theorem txt_o (n : Nat) (o : T) (a : Option T) (x y : ByteArray) (b c d : Bool) : txt (n + 1) (termF (some o) a x y b c d) = txt n o := rfl
theorem txt_a (n : Nat) (a : T) (x y : ByteArray) (b c d : Bool) : txt (n + 1) (termF none (some a) x y b c d) = txt n a := rfl
theorem txt_l (n : Nat) (num str : ByteArray) (nu tr fa : Bool) : txt (n + 1) (termF none none num str nu tr fa) = if num.size ≠ 0 then num.data.toList else if nu = true then [110, 117, 108, 108] else if tr = true then [116, 114, 117, 101] else if fa = true then [102, 97, 108, 115, 101] else quoted str := rfl
end Go.Proofs.YtgbkjdndbjaeoaaDoor
