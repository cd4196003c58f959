/-
  The text of a parsed tree (n001_1001), onto a text that is there already; the shapes that the law's reader makes.
-/
import Derived.Test.YtghcggagpagfoaaGreatDoorTre
import Derived.Test.YtghcggagpagfoaaGreatDoorEsc
namespace Go.Proofs.YtghcggagpagfoaaGreatDoor
set_option linter.unusedVariables false
set_option linter.unusedSimpArgs false
open Go.ChangeShapes Go.WideShapes Go.ChangeAt Go.RowKit M
abbrev L8 := List UInt8
def E0 : ByteArray := ⟨#[]⟩
def opt (o : Option T) (g : T → L8 → L8) (l : L8) : L8 := match o with
  | none => l
  | some t => g t l
/-- A loop over the elements, the first one's number j. -/
def itr (f : Nat → T → L8 → L8) : List T → Nat → L8 → L8
  | [], _, l => l
  | t :: ts, j, l => itr f ts (j + 1) (f j t l)
def itrS (f : Nat → ByteArray → L8 → L8) : List ByteArray → Nat → L8 → L8
  | [], _, l => l
  | t :: ts, j, l => itrS f ts (j + 1) (f j t l)
def opT (op : Int) : L8 :=
  if op = 1 then [124] else
  if op = 2 then [44] else
  if op = 3 then [43] else
  if op = 4 then [45] else
  if op = 5 then [42] else
  if op = 6 then [47] else
  if op = 7 then [37] else
  if op = 8 then [61, 61] else
  if op = 9 then [33, 61] else
  if op = 10 then [62] else
  if op = 11 then [60] else
  if op = 12 then [62, 61] else
  if op = 13 then [60, 61] else
  if op = 14 then [97, 110, 100] else
  if op = 15 then [111, 114] else
  if op = 16 then [47, 47] else
  if op = 17 then [61] else
  if op = 18 then [124, 61] else
  if op = 19 then [43, 61] else
  if op = 20 then [45, 61] else
  if op = 21 then [42, 61] else
  if op = 22 then [47, 61] else
  if op = 23 then [37, 61] else
  if op = 24 then [47, 47, 61] else
  []
def tailC (l : L8) : Bool := match l.getLast? with
  | none => false
  | some c => c == 46 || (decide (48 ≤ c.toNat) && decide (c.toNat ≤ 57))
def prQ (f : T → L8 → L8) : List F → L8 → L8
  | [.p me, .l _ ims, .l _ fds, .p te, .p le, .p ri, .l _ ps, .i op], l =>
    let l3 := itr (fun _ t l => f t l ++ [32]) fds 0 (itr (fun _ t l => f t l) ims 0 (opt me (fun t l => f t (l ++ [109, 111, 100, 117, 108, 101, 32]) ++ [59, 10]) l))
    match te with
    | some t => f t l3
    | none => match ri with
      | none => l3
      | some r => f r (itr (fun j t l => f t (if j = 0 then l ++ [97, 115, 32] else l ++ [63, 47, 47, 32]) ++ [32]) ps 0 (if op = 2 then opt le f l3 else opt le f l3 ++ [32]) ++ opT op ++ [32])
  | _, l => l
def bodyT (f : T → L8 → L8) (ty : Int) (ix fn ob ar : Option T) (num : ByteArray) (un : Option T) (fmt : ByteArray) (str ie tr rd fe lb : Option T) (brk : ByteArray) (q : Option T) (l : L8) : L8 :=
  if ty = 1 then l ++ [46] else
  if ty = 2 then l ++ [46, 46] else
  if ty = 3 then l ++ [110, 117, 108, 108] else
  if ty = 4 then l ++ [116, 114, 117, 101] else
  if ty = 5 then l ++ [102, 97, 108, 115, 101] else
  if ty = 6 then opt ix f l else
  if ty = 7 then opt fn f l else
  if ty = 8 then opt ob f l else
  if ty = 9 then opt ar f l else
  if ty = 10 then l ++ num.data.toList else
  if ty = 11 then opt un f l else
  if ty = 12 then opt str (fun t l => f t (l ++ [32])) (l ++ fmt.data.toList) else
  if ty = 13 then opt str f l else
  if ty = 14 then opt ie f l else
  if ty = 15 then opt tr f l else
  if ty = 16 then opt rd f l else
  if ty = 17 then opt fe f l else
  if ty = 18 then opt lb f l else
  if ty = 19 then l ++ [98, 114, 101, 97, 107, 32] ++ brk.data.toList else
  if ty = 20 then opt q (fun t l => f t (l ++ [40]) ++ [41]) l else l
def prT (f : T → L8 → L8) : List F → L8 → L8
  | [.i ty, .p ix, .p fn, .p ob, .p ar, .s num, .p un, .s fmt, .p str, .p ie, .p tr, .p rd, .p fe, .p lb, .s brk, .p q, .l _ sl], l => itr (fun _ t l => f t l) sl 0 (bodyT f ty ix fn ob ar num un fmt str ie tr rd fe lb brk q l)
  | _, l => l
def prCO (f : T → L8 → L8) : List F → L8 → L8
  | [.l _ ts], l => if ts.length = 0 then l ++ [123, 125] else itr (fun j t l => f t (if j = 0 then l else l ++ [44, 32])) ts 0 (l ++ [123, 32]) ++ [32, 125]
  | _, l => l
def prCKV (f : T → L8 → L8) : List F → L8 → L8
  | [.s k, .s ks, .p (some v)], l => f v ((if k.size = 0 then l ++ quoted ks else l ++ k.data.toList) ++ [58, 32])
  | _, l => l
def prCT (f : T → L8 → L8) : List F → L8 → L8
  | [.p ob, .p ar, .s num, .s str, .b nu, .b tr, .b fa], l => match ob with
    | some o => f o l
    | none => match ar with
      | some a => f a l
      | none => if num.size ≠ 0 then l ++ num.data.toList else if nu = true then l ++ [110, 117, 108, 108] else if tr = true then l ++ [116, 114, 117, 101] else if fa = true then l ++ [102, 97, 108, 115, 101] else l ++ quoted str
  | _, l => l
def prCA (f : T → L8 → L8) : List F → L8 → L8
  | [.l _ ts], l => itr (fun j t l => f t (if j = 0 then l else l ++ [44, 32])) ts 0 (l ++ [91]) ++ [93]
  | _, l => l
def prIM (f : T → L8 → L8) : List F → L8 → L8
  | [.s pa, .s al, .s inc, .p me], l => opt me (fun t l => f t (l ++ [32])) (if pa.size ≠ 0 then l ++ [105, 109, 112, 111, 114, 116, 32] ++ quoted pa ++ [32, 97, 115, 32] ++ al.data.toList else l ++ [105, 110, 99, 108, 117, 100, 101, 32] ++ quoted inc) ++ [59, 10]
  | _, l => l
def prFD (f : T → L8 → L8) : List F → L8 → L8
  | [.s na, .ss ags, .p (some b)], l => f b ((if ags.length = 0 then l ++ [100, 101, 102, 32] ++ na.data.toList else itrS (fun j t l => (if j = 0 then l else l ++ [59, 32]) ++ t.data.toList) ags 0 (l ++ [100, 101, 102, 32] ++ na.data.toList ++ [40]) ++ [41]) ++ [58, 32]) ++ [59]
  | _, l => l
def prPT (f : T → L8 → L8) : List F → L8 → L8
  | [.s na, .l _ ar, .l _ ob], l => if na.size ≠ 0 then l ++ na.data.toList else if ar.length ≠ 0 then itr (fun j t l => f t (if j = 0 then l else l ++ [44, 32])) ar 0 (l ++ [91]) ++ [93] else if ob.length ≠ 0 then itr (fun j t l => f t (if j = 0 then l else l ++ [44, 32])) ob 0 (l ++ [123]) ++ [125] else l
  | _, l => l
/-- po and okv: the key in one of three forms, and the value. -/
def prKV (f : T → L8 → L8) : List F → L8 → L8
  | [.s k, .p ks, .p kq, .p v], l => opt v (fun t l => f t (l ++ [58, 32])) (if k.size ≠ 0 then l ++ k.data.toList else match ks with
    | some s => f s l
    | none => opt kq (fun t l => f t (l ++ [40]) ++ [41]) l)
  | _, l => l
/-- What stands behind the dot of an index. -/
def sfx (f : T → L8 → L8) : List F → L8 → L8
  | [.s na, .p str, .p st, .p en, .b sl], l => if na.size ≠ 0 then l ++ na.data.toList else match str with
    | some s => f s l
    | none => (if sl = true then opt en f (opt st f (l ++ [91]) ++ [58]) else opt st f (l ++ [91])) ++ [93]
  | _, l => l
def dotted (l : L8) : L8 := (if tailC l = true then l ++ [32] else l) ++ [46]
def prIX (f : T → L8 → L8) (fs : List F) (l : L8) : L8 := sfx f fs (dotted l)
def prFN (f : T → L8 → L8) : List F → L8 → L8
  | [.s na, .l _ ags], l => if ags.length = 0 then l ++ na.data.toList else itr (fun j t l => f t (if j = 0 then l else l ++ [59, 32])) ags 0 (l ++ na.data.toList ++ [40]) ++ [41]
  | _, l => l
def prAR (f : T → L8 → L8) : List F → L8 → L8
  | [.p q], l => opt q f (l ++ [91]) ++ [93]
  | _, l => l
def prSF (f : T → L8 → L8) : List F → L8 → L8
  | [.p ix, .b it, .b op], l => match ix with
    | some (.nd 150 [.s na, .p str, .p st, .p en, .b sl]) => if na.size ≠ 0 ∨ str.isSome = true then f (.nd 150 [.s na, .p str, .p st, .p en, .b sl]) l else f (.nd 151 [.s na, .p str, .p st, .p en, .b sl]) l
    | some _ => l
    | none => if it = true then l ++ [91, 93] else if op = true then l ++ [63] else l
  | _, l => l
def prIF (f : T → L8 → L8) : List F → L8 → L8
  | [.p (some c), .p (some t), .l _ els, .p e], l => opt e (fun t l => f t (l ++ [32, 101, 108, 115, 101, 32])) (itr (fun _ t l => f t (l ++ [32])) els 0 (f t (f c (l ++ [105, 102, 32]) ++ [32, 116, 104, 101, 110, 32]))) ++ [32, 101, 110, 100]
  | _, l => l
def prEL (f : T → L8 → L8) : List F → L8 → L8
  | [.p (some c), .p (some t)], l => f t (f c (l ++ [101, 108, 105, 102, 32]) ++ [32, 116, 104, 101, 110, 32])
  | _, l => l
def prTR (f : T → L8 → L8) : List F → L8 → L8
  | [.p (some b), .p c], l => opt c (fun t l => f t (l ++ [32, 99, 97, 116, 99, 104, 32])) (f b (l ++ [116, 114, 121, 32]))
  | _, l => l
def prRD (f : T → L8 → L8) : List F → L8 → L8
  | [.p (some q), .p (some p), .p (some s), .p (some u)], l => f u (f s (f p (f q (l ++ [114, 101, 100, 117, 99, 101, 32]) ++ [32, 97, 115, 32]) ++ [32, 40]) ++ [59, 32]) ++ [41]
  | _, l => l
def prFE (f : T → L8 → L8) : List F → L8 → L8
  | [.p (some q), .p (some p), .p (some s), .p (some u), .p e], l => opt e (fun t l => f t (l ++ [59, 32])) (f u (f s (f p (f q (l ++ [102, 111, 114, 101, 97, 99, 104, 32]) ++ [32, 97, 115, 32]) ++ [32, 40]) ++ [59, 32])) ++ [41]
  | _, l => l
def prLB (f : T → L8 → L8) : List F → L8 → L8
  | [.s id, .p (some b)], l => f b (l ++ [108, 97, 98, 101, 108, 32] ++ id.data.toList ++ [32, 124, 32])
  | _, l => l
def prUN (f : T → L8 → L8) : List F → L8 → L8
  | [.i op, .p (some t)], l => f t (l ++ opT op)
  | _, l => l
/-- Does the query's term hold a string? -/
def strQ : T → Bool
  | .nd 37 [.p _, .l _ _, .l _ _, .p (some (.nd 74 [.i _, .p _, .p _, .p _, .p _, .s _, .p _, .s _, .p str, .p _, .p _, .p _, .p _, .p _, .s _, .p _, .l _ _])), .p _, .p _, .l _ _, .i _] => str.isSome
  | _ => false
def inn (l : L8) : L8 := (l.drop 1).take (l.length - 2)
def prST (f : T → L8 → L8) : List F → L8 → L8
  | [.s s, .l nn qs], l => if nn = false then l ++ quoted s else itr (fun _ t l => if strQ t = true then l ++ inn (f t []) else f t (l ++ [92])) qs 0 (l ++ [34]) ++ [34]
  | _, l => l
def prK (f : T → L8 → L8) (k : Nat) (fs : List F) (l : L8) : L8 :=
  if k = 37 then prQ f fs l else if k = 74 then prT f fs l else if k = 112 then prCO f fs l else if k = 116 then prCKV f fs l else
  if k = 153 then prCT f fs l else if k = 156 then prCA f fs l else if k = 120 then prIM f fs l else if k = 109 then prFD f fs l else
  if k = 104 then prPT f fs l else if k = 131 then prKV f fs l else if k = 150 then prIX f fs l else if k = 151 then sfx f fs l else if k = 78 then prFN f fs l else
  if k = 135 then prCO f fs l else if k = 138 then prKV f fs l else if k = 81 then prAR f fs l else if k = 148 then prSF f fs l else
  if k = 143 then prIF f fs l else if k = 146 then prEL f fs l else if k = 87 then prTR f fs l else if k = 89 then prRD f fs l else
  if k = 91 then prFE f fs l else if k = 93 then prLB f fs l else if k = 83 then prUN f fs l else if k = 140 then prST f fs l else l
/-- The text of the tree t, onto l. -/
def pr : Nat → T → L8 → L8
  | 0, _, l => l
  | n + 1, .nd k fs, l => prK (pr n) k fs l
inductive Kd where
  | q
  | t
  | co
  | ckv
  | ct
  | ca
  | im
  | fd
  | pt
  | po
  | ix
  | fn
  | ob
  | okv
  | ar
  | sf
  | ife
  | el
  | tr
  | rd
  | fe
  | lb
  | un
  | st
  | iq
def tyOK (ty : Int) (ix fn ob ar un str ie tr rd fe lb q : Option T) : Prop :=
  (ty = 6 → ix.isSome = true) ∧ (ty = 7 → fn.isSome = true) ∧ (ty = 8 → ob.isSome = true) ∧ (ty = 9 → ar.isSome = true) ∧ (ty = 11 → un.isSome = true) ∧ (ty = 13 → str.isSome = true) ∧ (ty = 14 → ie.isSome = true) ∧ (ty = 15 → tr.isSome = true) ∧ (ty = 16 → rd.isSome = true) ∧ (ty = 17 → fe.isSome = true) ∧ (ty = 18 → lb.isSome = true) ∧ (ty = 20 → q.isSome = true) ∧ (str.isSome = true → ty = 12 ∨ ty = 13)
/-- What the law's reader makes, kind by kind. -/
inductive W : Kd → T → Prop
  | q1 (me : Option T) (ims fds : List T) (te : Option T) (a b c : Bool) : (∀ t, me = some t → W .co t) → ims.length ≤ 3 → (∀ t ∈ ims, W .im t) → fds.length ≤ 3 → (∀ t ∈ fds, W .fd t) → (∀ t, te = some t → W .t t) → W .q (.nd 37 [.p me, .l a ims, .l b fds, .p te, .p none, .p none, .l c [], .i 0])
  | q2 (le r : T) (ps : List T) (op : Int) (a b c : Bool) : W .q le → W .q r → ps.length ≤ 3 → (∀ t ∈ ps, W .pt t) → 1 ≤ op → op ≤ 24 → W .q (.nd 37 [.p none, .l a [], .l b [], .p none, .p (some le), .p (some r), .l c ps, .i op])
  | iq (te : T) (a b c : Bool) : W .t te → W .iq (.nd 37 [.p none, .l a [], .l b [], .p (some te), .p none, .p none, .l c [], .i 0])
  | t (ty : Int) (ix fn ob ar : Option T) (num : ByteArray) (un : Option T) (fmt : ByteArray) (str ie tr rd fe lb : Option T) (brk : ByteArray) (q : Option T) (a : Bool) (sl : List T) : 1 ≤ ty → ty ≤ 20 → tyOK ty ix fn ob ar un str ie tr rd fe lb q →
      (∀ t, ix = some t → W .ix t) → (∀ t, fn = some t → W .fn t) → (∀ t, ob = some t → W .ob t) → (∀ t, ar = some t → W .ar t) → (∀ t, un = some t → W .un t) → (∀ t, str = some t → W .st t) → (∀ t, ie = some t → W .ife t) → (∀ t, tr = some t → W .tr t) → (∀ t, rd = some t → W .rd t) → (∀ t, fe = some t → W .fe t) → (∀ t, lb = some t → W .lb t) → (∀ t, q = some t → W .q t) → sl.length ≤ 3 → (∀ t ∈ sl, W .sf t) →
      W .t (.nd 74 [.i ty, .p ix, .p fn, .p ob, .p ar, .s num, .p un, .s fmt, .p str, .p ie, .p tr, .p rd, .p fe, .p lb, .s brk, .p q, .l a sl])
  | co (a : Bool) (ts : List T) : ts.length ≤ 3 → (∀ t ∈ ts, W .ckv t) → W .co (.nd 112 [.l a ts])
  | ckv (k ks : ByteArray) (v : T) : ks.size ≤ 255 → W .ct v → W .ckv (.nd 116 [.s k, .s ks, .p (some v)])
  | ct (ob ar : Option T) (num str : ByteArray) (nu tr fa : Bool) : (∀ t, ob = some t → W .co t) → (∀ t, ar = some t → W .ca t) → str.size ≤ 255 → W .ct (.nd 153 [.p ob, .p ar, .s num, .s str, .b nu, .b tr, .b fa])
  | ca (a : Bool) (ts : List T) : ts.length ≤ 3 → (∀ t ∈ ts, W .ct t) → W .ca (.nd 156 [.l a ts])
  | im (pa al inc : ByteArray) (me : Option T) : pa.size ≤ 255 → inc.size ≤ 255 → (∀ t, me = some t → W .co t) → W .im (.nd 120 [.s pa, .s al, .s inc, .p me])
  | fd (na : ByteArray) (ags : List ByteArray) (b : T) : ags.length ≤ 2 → (∀ s ∈ ags, s.size ≤ 8) → W .q b → W .fd (.nd 109 [.s na, .ss ags, .p (some b)])
  | pt (na : ByteArray) (a b : Bool) (ar ob : List T) : ar.length ≤ 3 → (∀ t ∈ ar, W .pt t) → ob.length ≤ 3 → (∀ t ∈ ob, W .po t) → W .pt (.nd 104 [.s na, .l a ar, .l b ob])
  | po (k : ByteArray) (ks kq v : Option T) : (∀ t, ks = some t → W .st t) → (∀ t, kq = some t → W .q t) → (∀ t, v = some t → W .pt t) → W .po (.nd 131 [.s k, .p ks, .p kq, .p v])
  | ix (na : ByteArray) (str st en : Option T) (sl : Bool) : (na.size = 0 → str = none → sl = false → st.isSome = true) → (∀ t, str = some t → W .st t) → (∀ t, st = some t → W .q t) → (∀ t, en = some t → W .q t) → W .ix (.nd 150 [.s na, .p str, .p st, .p en, .b sl])
  | fn (na : ByteArray) (a : Bool) (ags : List T) : ags.length ≤ 3 → (∀ t ∈ ags, W .q t) → W .fn (.nd 78 [.s na, .l a ags])
  | ob (a : Bool) (ts : List T) : ts.length ≤ 3 → (∀ t ∈ ts, W .okv t) → W .ob (.nd 135 [.l a ts])
  | okv (k : ByteArray) (ks kq v : Option T) : (∀ t, ks = some t → W .st t) → (∀ t, kq = some t → W .q t) → (∀ t, v = some t → W .q t) → W .okv (.nd 138 [.s k, .p ks, .p kq, .p v])
  | ar (q : Option T) : (∀ t, q = some t → W .q t) → W .ar (.nd 81 [.p q])
  | sf (ix : Option T) (it op : Bool) : (∀ t, ix = some t → W .ix t) → W .sf (.nd 148 [.p ix, .b it, .b op])
  | ife (c t : T) (a : Bool) (els : List T) (e : Option T) : W .q c → W .q t → els.length ≤ 3 → (∀ t ∈ els, W .el t) → (∀ t, e = some t → W .q t) → W .ife (.nd 143 [.p (some c), .p (some t), .l a els, .p e])
  | el (c t : T) : W .q c → W .q t → W .el (.nd 146 [.p (some c), .p (some t)])
  | tr (b : T) (c : Option T) : W .q b → (∀ t, c = some t → W .q t) → W .tr (.nd 87 [.p (some b), .p c])
  | rd (q p s u : T) : W .q q → W .pt p → W .q s → W .q u → W .rd (.nd 89 [.p (some q), .p (some p), .p (some s), .p (some u)])
  | fe (q p s u : T) (e : Option T) : W .q q → W .pt p → W .q s → W .q u → (∀ t, e = some t → W .q t) → W .fe (.nd 91 [.p (some q), .p (some p), .p (some s), .p (some u), .p e])
  | lb (id : ByteArray) (b : T) : W .q b → W .lb (.nd 93 [.s id, .p (some b)])
  | un (op : Int) (t : T) : 1 ≤ op → op ≤ 24 → W .t t → W .un (.nd 83 [.i op, .p (some t)])
  | st (s : ByteArray) (nn : Bool) (qs : List T) : s.size ≤ 255 → (nn = false → qs = []) → qs.length ≤ 3 → (∀ t ∈ qs, W .iq t) → W .st (.nd 140 [.s s, .l nn qs])
end Go.Proofs.YtghcggagpagfoaaGreatDoor
