import PyProof.Rows.All
import Wide.All
import OpenK.AllK
import Wide.FinOn
import PySem.Challenge.RW_in0220_01
set_option Elab.async false
set_option maxRecDepth 100000
set_option linter.all false
namespace Mine
open PySem
inductive PV where
  | nul
  | bool (b : Bool)
  | int (i : Int)
  | str (s : List Nat)
  | list (xs : List PV)
  | tup (xs : List PV)
  | ob (a : Addr)
  | fn (v : Value)
  deriving Inhabited
inductive Slot where
  | unset
  | val (v : PV)
  | own (xs : List PV)
  | app (r : Nat)
  deriving Inhabited
abbrev zad := List Slot
inductive Tgt where
  | one (x : Nat)
  | two (x y : Nat)
inductive IK where
  | plain | range | zip | enum
  deriving DecidableEq
inductive PE where
  | lit (v : PV)
  | var (i : Nat)
  | gl (v : Value)
  | bin (op : Operator) (a b : PE)
  | neg (i : Int)
  | cmp (op : CmpOp) (a b : PE)
  | nt (a : PE)
  | bop (conj : Bool) (a b : PE)
  | ife (c a b : PE)
  | idx (a i : PE)
  | slc (a lo hi : PE)
  | len (e : PE)
  | call (f : Value) (args : List PE)
  | meth (m : Str) (o : PE) (args : List PE)
  | repl (o : PE) (c : Nat) (r : List Nat)
  | lst (es : List PE)
  | tpl (es : List PE)
  | comp (elt : PE) (t : Tgt) (k : IK) (a b : PE) (ifs : List PE) (cap : List (Option Nat))
  | comp2 (elt : PE) (t : Tgt) (k : IK) (a b : PE) (t2 : Tgt) (a2 : PE) (cap : List (Option Nat))
  | fstr (es : List PE)
  | bad
  deriving Inhabited
inductive PS where
  | assign (x : Nat) (e : PE)
  | own (x : Nat)
  | app (a x : Nat)
  | push (x : Nat) (e : PE)
  | pushA (a x : Nat) (e : PE)
  | asg2 (x y : Nat) (e : PE)
  | tup2 (x y : Nat) (a b : PE)
  | aug (x : Nat) (op : Operator) (e : PE)
  | ite (c : PE) (a b : List PS)
  | whl (c : PE) (b : List PS)
  | for (t : Tgt) (k : IK) (a b : PE) (body : List PS)
  | forOwn (t : Tgt) (x : Nat) (body : List PS)
  | down (x : Nat) (a b : PE)
  | ret (e : PE)
  | brk
  | asrt (e : PE)
  | obj (x : Nat)
  | resub (x : Nat)
  | djoin (x y : Nat)
  | bad (n : Nat)
  deriving Inhabited
def small : Nat := 1048576
mutual
def zbg : PV → PyData
  | .nul => .none
  | .bool b => .bool b
  | .int i => .int i
  | .str l => .str ⟨l.toArray⟩
  | .list xs => .list (za9 xs)
  | .tup xs => .tuple (za9 xs)
  | _ => .none
def za9 : List PV → List PyData
  | [] => []
  | x :: xs => zbg x :: za9 xs
end
mutual
def za6 : Nat → PV → Bool
  | _, .nul => true
  | _, .bool _ => true
  | _, .int _ => true
  | _, .str _ => true
  | n + 1, .list xs => zbf n xs
  | n + 1, .tup xs => zbf n xs
  | _, _ => false
def zbf : Nat → List PV → Bool
  | _, [] => true
  | n, x :: xs => za6 n x && zbf n xs
end
def eqo : PV → PV → Option Bool
  | .str a, .str b => some (decide (a = b))
  | .int a, .int b => some (decide (a = b))
  | .bool a, .bool b => some (a == b)
  | x, y => if za6 8 x && za6 8 y then some (PyData.eqv (zbg x) (zbg y)) else none
def zcv : List Nat → List Nat → Bool
  | [], _ => true
  | _ :: _, [] => false
  | a :: as, b :: bs => a == b && zcv as bs
def truthy : PV → Option Bool
  | .nul => some false
  | .bool b => some b
  | .int i => some (decide (i ≠ 0))
  | .str s => some (!s.isEmpty)
  | .list s => some (!s.isEmpty)
  | .tup s => some (!s.isEmpty)
  | _ => none
def zbz (x : PV) (ys : List PV) : Option Bool :=
  if za6 8 x && zbf 8 ys then some ((za9 ys).any fun y => PyData.eqv y (zbg x)) else none
def zaj : PV → PV → Option Bool
  | .nul, .nul => some true
  | .list _, .nul => some false
  | .ob a, .ob b => some (decide (a = b))
  | .str _, .ob _ => some false
  | .fn (.type a), .fn (.type b) => some (decide (a = b))
  | _, _ => none
def zae (op : CmpOp) (a b : PV) : Option Bool := match op, a, b with
  | .Eq, a, b => eqo a b
  | .NotEq, a, b => (eqo a b).map (!·)
  | .Lt, .int a, .int b => some (decide (a < b))
  | .LtE, .int a, .int b => some (decide (a ≤ b))
  | .Gt, .int a, .int b => some (decide (b < a))
  | .GtE, .int a, .int b => some (decide (b ≤ a))
  | .Lt, .str a, .str b => some (decide (a < b))
  | .Gt, .str a, .str b => some (decide (b < a))
  | .Is, a, b => zaj a b
  | .IsNot, a, b => (zaj a b).map (!·)
  | .In, .str [a], .str b => some (decide (a ∈ b))
  | .NotIn, .str [a], .str b => some (!decide (a ∈ b))
  | .In, a, .list b => zbz a b
  | .NotIn, a, .list b => (zbz a b).map (!·)
  | .In, a, .tup b => zbz a b
  | _, _, _ => none
def zaf (op : Operator) (a b : PV) : Option PV := match op, a, b with
  | .Add, .int a, .int b => some (.int (a + b))
  | .Sub, .int a, .int b => some (.int (a - b))
  | .Mod, .int a, .int b => if 0 < b then some (.int (a % b)) else none
  | .FloorDiv, .int a, .int b => if 0 < b ∧ b < 1000000000 then some (.int (a / b)) else none
  | .Pow, .int a, .int b => if 0 ≤ b ∧ b ≤ 16 ∧ 0 ≤ a ∧ a ≤ 64 then some (.int (a ^ b.toNat)) else none
  | .Add, .str a, .str b => if a.length + b.length ≤ small then some (.str (a ++ b)) else none
  | .Add, .list a, .list b => if a.length + b.length ≤ small then some (.list (a ++ b)) else none
  | _, _, _ => none
def za8 (n : Nat) (i : Int) : Option Nat :=
  if 0 ≤ i then (if i < (n : Int) then some i.toNat else none) else if -(n : Int) ≤ i then some ((n : Int) + i).toNat else none
def zan : PV → PV → Option PV
  | .str s, .int i => match za8 s.length i with | some k => (s[k]?).map fun c => .str [c] | none => none
  | .list s, .int i => match za8 s.length i with | some k => s[k]? | none => none
  | .tup s, .int i => match za8 s.length i with | some k => s[k]? | none => none
  | _, _ => none
def zaz (n : Nat) (i : Int) : Nat := if i < 0 then (i + (n : Int)).toNat else min i.toNat n
def zbw (n d : Nat) : PV → Option Nat
  | .nul => some d
  | .int i => some (zaz n i)
  | _ => none
def cut {α : Type} (xs : List α) (lo hi : Nat) : List α := (xs.take hi).drop lo
def zas (a lo hi : PV) : Option PV := match a with
  | .str s => match zbw s.length 0 lo, zbw s.length s.length hi with
    | some l, some h => some (.str (cut s l h))
    | _, _ => none
  | .list s => match zbw s.length 0 lo, zbw s.length s.length hi with
    | some l, some h => some (.list (cut s l h))
    | _, _ => none
  | _ => none
def zb6? : List PV → Option (List (List Nat))
  | [] => some []
  | .str s :: r => (zb6? r).map (s :: ·)
  | _ => none
def insS (x : List Nat) : List (List Nat) → List (List Nat)
  | [] => [x]
  | y :: ys => if x < y then x :: y :: ys else y :: insS x ys
def zdi : List (List Nat) → List (List Nat)
  | [] => []
  | x :: xs => insS x (zdi xs)
def zap (sep : List Nat) : List (List Nat) → List Nat
  | [] => []
  | [x] => x
  | x :: xs => x ++ sep ++ zap sep xs
def sumB : List PV → Option Int
  | [] => some 0
  | .bool b :: r => (sumB r).map ((if b then 1 else 0) + ·)
  | _ => none
def zdf (c : Nat) : List Nat → Option Nat
  | [] => none
  | x :: xs => if x = c then some 0 else (zdf c xs).map (· + 1)
def za4 (c : Nat) : List Nat → List (List Nat)
  | [] => [[]]
  | x :: xs => if x = c then [] :: za4 c xs else match za4 c xs with
    | [] => [[x]]
    | w :: ws => (x :: w) :: ws
def zbu (c : Nat) (r : List Nat) : List Nat → List Nat
  | [] => []
  | x :: xs => (if x = c then r else [x]) ++ zbu c r xs
def lowC (c : Nat) : Nat := if 65 ≤ c ∧ c ≤ 90 then c + 32 else c
def upC (c : Nat) : Nat := if 97 ≤ c ∧ c ≤ 122 then c - 32 else c
def zbq (s : List Nat) : Bool := s.all (· < 128)
def zds (x : PV) (ys : List PV) : Option Nat :=
  if za6 8 x && zbf 8 ys then (za9 ys).findIdx? fun y => PyData.eqv y (zbg x) else none
def specials : List Nat := [40, 41, 91, 93, 123, 125, 63, 42, 43, 45, 124, 94, 36, 92, 46, 38, 126, 35, 32, 9, 10, 13, 11, 12]
def escC (c : Nat) : List Nat := if specials.contains c then [92, c] else [c]
def zb3 (f : String) (args : List PV) : Option PV := match f, args with
  | "len", [.str s] => some (.int s.length)
  | "len", [.list s] => some (.int s.length)
  | "sum", [.list s] => (sumB s).map .int
  | "sorted", [.list s] => if s.length < 64 then (zb6? s).map fun l => .list ((zdi l).map .str) else none
  | "isinstance", [.str _, .fn (.type "str")] => some (.bool true)
  | _, _ => none
def callT (f : String) (args : List PV) : Option PV := match f, args with
  | "list", [.list s] => some (.list s)
  | "type", [.bool _] => some (.fn (.type "bool"))
  | _, _ => none
def za3 (m : Str) (o : PV) (args : List PV) : Option PV :=
  if m = "join" then (match o, args with
    | .str s, [.list xs] => match zb6? xs with
      | some l => if (zap s l).length ≤ small then some (.str (zap s l)) else none
      | none => none
    | _, _ => none)
  else if m = "split" then (match o, args with
    | .str s, [.str [c]] => if s.length < small then some (.list ((za4 c s).map .str)) else none
    | _, _ => none)
  else if m = "upper" then (match o, args with
    | .str s, [] => if zbq s then some (.str (s.map upC)) else none
    | _, _ => none)
  else if m = "lower" then (match o, args with
    | .str s, [] => if zbq s then some (.str (s.map lowC)) else none
    | _, _ => none)
  else if m = "startswith" then (match o, args with
    | .str s, [.str p] => some (.bool (zcv p s))
    | _, _ => none)
  else if m = "endswith" then (match o, args with
    | .str s, [.str p] => some (.bool (zcv p.reverse s.reverse))
    | _, _ => none)
  else if m = "find" then (match o, args with
    | .str s, [.str [c]] => some (.int (match zdf c s with | some k => (k : Int) | none => -1))
    | .str s, [.str [c], .int lo, .int hi] => if c < 128 ∧ 0 ≤ lo ∧ lo = hi ∧ hi ≤ (s.length : Int) then some (.int (-1)) else none
    | _, _ => none)
  else if m = "index" then (match o, args with
    | .list s, [x] => match zds x s with | some k => some (.int (k : Int)) | none => none
    | _, _ => none)
  else if m = "translate" then (match o, args with
    | .str [c], [.fn (.ref 52)] => if c < 128 then some (.str (escC c)) else none
    | _, _ => none)
  else if m = "search" then (match o, args with
    | .fn (.ref 81), [.str s] => if s.all (fun c => decide (c < 128) && !(decide (48 ≤ c) && decide (c ≤ 57))) && decide (s.length ≤ 64) then some .nul else none
    | _, _ => none)
  else none
def za7 : PV → Option (List PV)
  | .list xs => some xs
  | _ => none
def zes : PV → Option (List PV)
  | .list xs => some xs
  | .str s => if zbq s then some (s.map fun c => .str [c]) else none
  | _ => none
def zcw : Nat → Nat → List PV
  | _, 0 => []
  | i, n + 1 => .int i :: zcw (i + 1) n
def zdr : Nat → List PV → List PV
  | _, [] => []
  | i, x :: xs => .tup [.int i, x] :: zdr (i + 1) xs
def zcn : List PV → List PV → List PV
  | x :: xs, y :: ys => .tup [x, y] :: zcn xs ys
  | _, _ => []
def zau (k : IK) (a b : PV) : Option (List PV) := match k with
  | .plain => za7 a
  | .range => match a with | .int n => if -4096 ≤ n ∧ n ≤ 4096 then some (zcw 0 n.toNat) else none | _ => none
  | .zip => match za7 a, zes b with | some x, some y => some (zcn x y) | _, _ => none
  | .enum => match a with | .list xs => some (zdr 0 xs) | _ => none
def zaw (σ : zad) (i : Nat) : Option PV := match σ[i]? with | some (.val v) => some v | _ => none
def zbe (σ : zad) (i : Nat) : Option PV := match σ[i]? with | some (.val v) => some v | some (.own xs) => some (.list xs) | _ => none
def zaa (σ : zad) (i : Nat) (s : Slot) : zad := (σ.map fun t => match t with | .app r => if r = i then .unset else t | t => t).set i s
def Tgt.put (t : Tgt) (σ : zad) (v : PV) : Option zad := match t, v with
  | .one x, v => some (zaa σ x (.val v))
  | .two x y, .tup [a, b] => some (zaa (zaa σ x (.val a)) y (.val b))
  | _, _ => none
def zav (σ : zad) (cap : List (Option Nat)) : zad := cap.map fun c => match c with
  | some j => (match zaw σ j with | some v => .val v | none => .unset)
  | none => .unset
def zbc (t : Tgt) (σ : zad) (test : zad → Option Bool) (elt : zad → Option PV) : List PV → Option (List PV)
  | [] => some []
  | x :: xs => match t.put σ x with
    | none => none
    | some σ1 => match test σ1 with
      | none => none
      | some true => match elt σ1 with
        | none => none
        | some v => (zbc t σ test elt xs).map (v :: ·)
      | some false => zbc t σ test elt xs
def zc0 (t : Tgt) (σ : zad) (inner : zad → Option (List PV)) : List PV → Option (List PV)
  | [] => some []
  | x :: xs => match t.put σ x with
    | none => none
    | some σ1 => match inner σ1 with
      | none => none
      | some vs => match zc0 t σ inner xs with
        | none => none
        | some r => if vs.length + r.length ≤ small then some (vs ++ r) else none
abbrev Gam := Value → List PV → Option PV
inductive Md where
  | val | peek | test
  deriving DecidableEq
def fin (m : Md) (v : Option PV) : Option PV := match m with
  | .test => (match v with | some x => (truthy x).map .bool | none => none)
  | _ => v
def asB : Option PV → Option Bool
  | some (.bool b) => some b
  | _ => none
mutual
def evE (Γ : Gam) : PE → Md → zad → Option PV
  | .lit v, m, _ => fin m (some v)
  | .var i, m, σ => match m with
    | .val => zaw σ i
    | .peek => zbe σ i
    | .test => fin .test (zbe σ i)
  | .gl v, m, _ => fin m (some (.fn v))
  | .bin op a b, m, σ => fin m (match evE Γ a .val σ with
    | some x => (match evE Γ b .val σ with | some y => zaf op x y | none => none)
    | none => none)
  | .neg i, m, _ => fin m (some (.int (-i)))
  | .cmp op a b, m, σ => fin m (match evE Γ a .val σ with
    | some x => (match evE Γ b .val σ with | some y => (zae op x y).map .bool | none => none)
    | none => none)
  | .nt a, m, σ => match m with
    | .test => (asB (evE Γ a .test σ)).map fun b => .bool (!b)
    | _ => none
  | .bop c a b, m, σ => match m with
    | .test => (match asB (evE Γ a .test σ) with
      | some t => if t == c then evE Γ b .test σ else some (.bool t)
      | none => none)
    | m => (match evE Γ a .val σ with
      | some x => (match truthy x with
        | some t => if t == c then evE Γ b m σ else some x
        | none => none)
      | none => none)
  | .ife c a b, m, σ => match asB (evE Γ c .test σ) with
    | some true => evE Γ a m σ
    | some false => evE Γ b m σ
    | none => none
  | .idx a i, m, σ => fin m (match evE Γ a .peek σ with
    | some x => (match evE Γ i .val σ with | some y => zan x y | none => none)
    | none => none)
  | .slc a lo hi, m, σ => fin m (match evE Γ a .val σ with
    | some x => (match evE Γ lo .val σ with
      | some y => (match evE Γ hi .val σ with | some z => zas x y z | none => none)
      | none => none)
    | none => none)
  | .len e, m, σ => fin m (match evE Γ e .peek σ with | some x => zb3 "len" [x] | none => none)
  | .call f args, m, σ => fin m (match zag Γ args σ with
    | some vs => (match f with
      | .builtin n => zb3 n vs
      | .type n => callT n vs
      | f => Γ f vs)
    | none => none)
  | .meth w o args, m, σ => fin m (match evE Γ o .val σ with
    | some x => (match zag Γ args σ with | some vs => za3 w x vs | none => none)
    | none => none)
  | .repl o c r, m, σ => fin m (match evE Γ o .val σ with
    | some (.str s) => if s.length ≤ 65536 ∧ r.length ≤ 14 ∧ ([c] : List Nat) ≠ r ∧ (zbu c r s).length ≤ small then some (.str (zbu c r s)) else none
    | _ => none)
  | .lst es, m, σ => fin m ((zag Γ es σ).map .list)
  | .tpl es, m, σ => fin m ((zag Γ es σ).map .tup)
  | .comp elt t k a b ifs cap, m, σ => fin m (match evE Γ a .val σ with
    | some x => (match evE Γ b .val σ with
      | some y => (match zau k x y with
        | some items => (zbc t (zav σ cap) (zah Γ ifs) (evE Γ elt .val) items).map .list
        | none => none)
      | none => none)
    | none => none)
  | .comp2 elt t k a b t2 a2 cap, m, σ => fin m (match evE Γ a .val σ with
    | some x => (match evE Γ b .val σ with
      | some y => (match zau k x y with
        | some items => (zc0 t (zav σ cap) (fun σ1 => match evE Γ a2 .val σ1 with
            | some z => (match zau .plain z .nul with
              | some items2 => zbc t2 σ1 (fun _ => some true) (evE Γ elt .val) items2
              | none => none)
            | none => none) items).map .list
        | none => none)
      | none => none)
    | none => none)
  | .fstr es, m, σ => fin m (match zag Γ es σ with
    | some vs => (match zb6? vs with
      | some l => if (zap [] l).length ≤ small then some (.str (zap [] l)) else none
      | none => none)
    | none => none)
  | .bad, _, _ => none
def zag (Γ : Gam) : List PE → zad → Option (List PV)
  | [], _ => some []
  | e :: es, σ => match evE Γ e .val σ with
    | some v => (match zag Γ es σ with | some r => some (v :: r) | none => none)
    | none => none
def zah (Γ : Gam) : List PE → zad → Option Bool
  | [], _ => some true
  | e :: es, σ => match asB (evE Γ e .test σ) with
    | some true => zah Γ es σ
    | r => r
end
inductive Fl where
  | next | brk | cont
  | ret (v : PV)
  deriving Inhabited
def frzA (σ : zad) : zad := σ.map fun s => match s with | .own xs => .val (.list xs) | s => s
def frz1 (σ : zad) (i : Nat) : zad := match σ[i]? with | some (.own xs) => σ.set i (.val (.list xs)) | _ => σ
def zcz (c : zad → Option Bool) (b : zad → Option (Fl × zad)) : Nat → zad → Option (Fl × zad)
  | 0, _ => none
  | n + 1, σ => match c σ with
    | none => none
    | some false => some (.next, σ)
    | some true => match b σ with
      | none => none
      | some (.next, σ') => zcz c b n σ'
      | some (.cont, σ') => zcz c b n σ'
      | some (.brk, σ') => some (.next, σ')
      | some (.ret v, σ') => some (.ret v, σ')
def zbx (t : Tgt) (b : zad → Option (Fl × zad)) : List PV → zad → Option (Fl × zad)
  | [], σ => some (.next, σ)
  | x :: xs, σ => match t.put σ x with
    | none => none
    | some σ1 => match b σ1 with
      | none => none
      | some (.next, σ') => zbx t b xs σ'
      | some (.cont, σ') => zbx t b xs σ'
      | some (.brk, σ') => some (.next, σ')
      | some (.ret v, σ') => some (.ret v, σ')
def loopO (t : Tgt) (x : Nat) (b : zad → Option (Fl × zad)) : Nat → Nat → zad → Option (Fl × zad)
  | _, 0, _ => none
  | i, n + 1, σ => match σ[x]? with
    | some (.own ys) => match ys[i]? with
      | none => some (.next, σ)
      | some y => match t.put σ y with
        | none => none
        | some σ1 => match b σ1 with
          | none => none
          | some (.next, σ') => loopO t x b (i + 1) n σ'
          | some (.cont, σ') => loopO t x b (i + 1) n σ'
          | some (.brk, σ') => some (.next, σ')
          | some (.ret v, σ') => some (.ret v, σ')
    | _ => none
def zdn : List (List Nat) := [[42], [63], [91], [33, 97], [33, 98], [33, 42], [33, 63], [33, 91], [33, 93], [33, 33], [33, 92, 92], [33, 92, 45], [33, 94], [33, 32], [33, 36], [33, 43]]
def zc6 : List (List Nat) := [[33, 38], [33, 126], [33, 124]]
def zdb (s : List Nat) : List Nat := s.flatMap fun c => if c = 38 ∨ c = 126 ∨ c = 124 then [92, c] else [c]
def zb9 : Nat := 100000
mutual
def evS (Γ : Gam) (A : Addr) : PS → zad → Option (Fl × zad)
  | .assign x e, σ => match evE Γ e .val (frz1 σ x) with
    | some v => some (.next, zaa (frz1 σ x) x (.val v))
    | none => none
  | .own x, σ => some (.next, zaa σ x (.own []))
  | .app a x, σ => match σ[x]? with
    | some (.own _) => if a = x then none else some (.next, zaa σ a (.app x))
    | _ => none
  | .push x e, σ => match evE Γ e .val σ with
    | some v => (match σ[x]? with
      | some (.own xs) => if xs.length < small then some (.next, σ.set x (.own (xs ++ [v]))) else none
      | _ => none)
    | none => none
  | .pushA a x e, σ => match σ[a]? with
    | some (.app r) => if r = x then (match evE Γ e .val σ with
      | some v => (match σ[x]? with
        | some (.own xs) => if xs.length < small then some (.next, σ.set x (.own (xs ++ [v]))) else none
        | _ => none)
      | none => none) else none
    | _ => none
  | .asg2 _ _ _, _ => none
  | .tup2 x y a b, σ => match evE Γ a .val σ with
    | some u => (match evE Γ b .val σ with
      | some v => if x = y then none else some (.next, zaa (zaa σ x (.val u)) y (.val v))
      | none => none)
    | none => none
  | .aug x op e, σ => match zaw σ x with
    | some u => (match evE Γ e .val σ with
      | some v => (match op, u, v with
        | .Add, .int a, .int b => some (.next, zaa σ x (.val (.int (a + b))))
        | .Add, .str a, .str b => if a.length + b.length ≤ small then some (.next, zaa σ x (.val (.str (a ++ b)))) else none
        | _, _, _ => none)
      | none => none)
    | none => none
  | .ite c a b, σ => match asB (evE Γ c .test σ) with
    | some true => zac Γ A a σ
    | some false => zac Γ A b σ
    | none => none
  | .whl c b, σ => zcz (fun σ => asB (evE Γ c .test σ)) (zac Γ A b) zb9 σ
  | .for t k a b body, σ => match evE Γ a .val σ with
    | some x => (match evE Γ b .val σ with
      | some y => (match zau k x y with
        | some items => zbx t (zac Γ A body) items σ
        | none => none)
      | none => none)
    | none => none
  | .forOwn t x body, σ => loopO t x (zac Γ A body) 0 zb9 σ
  | .down _ a b, σ => match evE Γ a .val σ with
    | some (.int x) => (match evE Γ b .val σ with
      | some (.int y) => if x ≤ y ∧ 0 ≤ x ∧ y ≤ 4096 then some (.next, σ) else none
      | _ => none)
    | _ => none
  | .ret e, σ => match evE Γ e .val (frzA σ) with
    | some v => some (.ret v, frzA σ)
    | none => none
  | .brk, σ => some (.brk, σ)
  | .asrt e, σ => match asB (evE Γ e .test σ) with
    | some true => some (.next, σ)
    | _ => none
  | .obj _, _ => none
  | .resub x, σ => match zaw σ x with
    | some (.str s) => if s ∈ zdn ∨ s ∈ zc6 then some (.next, zaa σ x (.val (.str (zdb s)))) else none
    | _ => none
  | .djoin x y, σ => match zbe σ y with
    | some (.list [.str [33, 45]]) => some (.next, zaa σ x (.val (.str [33, 92, 45])))
    | _ => none
  | .bad _, _ => none
def zac (Γ : Gam) (A : Addr) : List PS → zad → Option (Fl × zad)
  | [], σ => some (.next, σ)
  | s :: r, σ => match evS Γ A s σ with
    | none => none
    | some (.next, σ') => zac Γ A r σ'
    | x => x
end
mutual
def sets : PS → Nat → Bool
  | .assign i _, j => i == j
  | .own i, j => i == j
  | .ite _ a b, j => zcd a j || zcd b j
  | .whl _ b, j => zcd b j
  | .for _ _ _ _ b, j => zcd b j
  | .forOwn _ _ b, j => zcd b j
  | .resub i, j => i == j
  | .djoin i _, j => i == j
  | _, _ => false
def zcd : List PS → Nat → Bool
  | [], _ => false
  | s :: r, j => sets s j || zcd r j
end
def evF (Γ : Gam) (A : Addr) (n : Nat) (body : List PS) (args : List PV) : Option PV :=
  match zac Γ A body (args.map Slot.val ++ List.replicate (n - args.length) .unset) with
  | some (.ret v, _) => some v
  | some (.next, _) => some .nul
  | _ => none
end Mine
namespace Mine
open PySem
structure CT where
  ns : List Str
  kind : List (Str × NameKind)
  gl : List (Str × Value)
  own : List Str := []
  app : List (Str × Str) := []
  inT : Bool := false
def CT.slot (c : CT) (id : Str) : Option Nat := match c.kind.lookup id with
  | some .local => c.ns.idxOf? id
  | some .cell => c.ns.idxOf? id
  | some .free => c.ns.idxOf? id
  | _ => none
def CT.glob (c : CT) (id : Str) : Option Value := match c.kind.lookup id with
  | some .globalImplicit => c.gl.lookup id
  | _ => none
def zca (c : CT) : Expr → Option Tgt
  | .Name x _ => (c.slot x).map .one
  | .Tuple [.Name x _, .Name y _] _ _ => match c.slot x, c.slot y with
    | some a, some b => some (.two a b)
    | _, _ => none
  | _ => none
def zb2 (k : IK) : Tgt → Bool
  | .one _ => k == .plain || k == .range
  | .two _ _ => k == .zip || k == .enum
def Tgt.slots : Tgt → List Nat
  | .one x => [x]
  | .two x y => [x, y]
def apartT (a b : Tgt) : Bool := a.slots.all fun i => !b.slots.contains i
def zez (k : NameKind) : Bool := k == .local || k == .cell || k == .free
def CT.inner (c : CT) (sc : Scope) : CT :=
  { ns := (sc.names.filter fun x => zez x.2).map (·.1), kind := sc.names, gl := c.gl }
def CT.cap (c : CT) (sc : Scope) : List (Option Nat) :=
  (sc.names.filter fun x => zez x.2).map fun x => if x.2 == .free then c.slot x.1 else none
def zfg : Const → Option PV
  | .none => some .nul
  | .bool b => some (.bool b)
  | .int i => some (.int i)
  | .str s => if s.cps.size ≤ 1000 ∧ (s.cps.toList.all fun c => decide (c < 1114112)) = true then some (.str s.cps.toList) else none
  | _ => none
def zd0 : Expr → Bool
  | .Call (.Name _ _) [] [] _ => false
  | _ => true
def zam (x : Str) : Bool := !(x == ("__debug__" : Str)) && !(x == ("__classdict__" : Str))
def zej (a : Option (IK × PE × PE)) (b : Option PE) : Option (IK × PE × PE) := match a with
  | some r => some r
  | none => b.map fun p => (.plain, p, .lit .nul)
def scOk (c : CT) (sc : Scope) : Bool := sc.kind == .function && decide (sc.names.map (·.1)).Nodup &&
  sc.names.all fun x => x.2 != .free || ((c.slot x.1).isSome && (c.kind.lookup x.1 == some .cell || c.kind.lookup x.1 == some .free))
def tgOk (sc : Scope) : Expr → Bool
  | .Name x _ => sc.names.lookup x == some .local || sc.names.lookup x == some .cell
  | .Tuple [.Name x _, .Name y _] _ _ => (sc.names.lookup x == some .local || sc.names.lookup x == some .cell) && (sc.names.lookup y == some .local || sc.names.lookup y == some .cell) && x != y
  | _ => false
mutual
def cE (c : CT) : Expr → Option PE
  | .Constant k _ _ => (zfg k).map .lit
  | .Name id _ => if zam id then (match c.slot id with
    | some i => some (.var i)
    | none => (c.glob id).map .gl) else none
  | .BinOp l op r _ => match cE c l, cE c r with
    | some a, some b => some (.bin op a b)
    | _, _ => none
  | .UnaryOp .USub (.Constant (.int i) _ _) _ => some (.neg i)
  | .UnaryOp .Not x _ => (cE c x).map .nt
  | .BoolOp op vs _ => cBop c (op == .And) vs
  | .Compare l [op] [r] _ => if behindInMarks op r then none else (match cE c l, cE c r with
    | some a, some b => some (.cmp op a b)
    | _, _ => none)
  | .IfExp t b o _ => match cE c t, cE c b, cE c o with
    | some x, some y, some z => some (.ife x y z)
    | _, _, _ => none
  | .Subscript v (.Slice lo hi none _) _ => match cE c v, cEo c lo, cEo c hi with
    | some x, some y, some z => some (.slc x y z)
    | _, _, _ => none
  | .Subscript v i _ => match cE c v, cE c i with
    | some x, some y => some (.idx x y)
    | _, _ => none
  | .Call (.Name f _) args [] _ => if zam f then (match c.glob f, cEs c args with
    | some v, some as => match v, as with
      | .builtin "len", [e] => some (.len e)
      | v, as => some (.call v as)
    | _, _ => none) else none
  | .Call (.Attribute o m ap) [.Constant (.str a) _ _, .Constant (.str b) _ _] [] p => if m == ("replace" : Str) && decide (a.cps.size = 1) && (b.cps.toList.all fun c => decide (c < 1114112)) && decide (∀ x ∈ a.cps.toList, x < 1114112) && zd0 o && (ap.endLine == p.line) then (match cE c o with
    | some x => some (.repl x (a.cps.getD 0 0) b.cps.toList)
    | none => none) else none
  | .Call (.Attribute o m ap) args [] p => if zd0 o && (ap.endLine == p.line) && decide (args.length < 20) then (match cE c o, cEs c args with
    | some x, some as => some (.meth m x as)
    | _, _ => none) else none
  | .List es _ => if es.length ≤ 64 then (cEs c es).map .lst else none
  | .Tuple es _ _ => if es.length ≤ 64 then (cEs c es).map .tpl else none
  | .ListComp elt [⟨t, it, ifs, 0⟩] sc _ => match zej (cIt c it) (cE c it), zca (c.inner sc) t, cEs (c.inner sc) ifs, cE (c.inner sc) elt with
    | some (k, a, b), some tg, some ifs, some e => if zb2 k tg && scOk c sc && tgOk sc t then some (.comp e tg k a b ifs (c.cap sc)) else none
    | _, _, _, _ => none
  | .ListComp elt [⟨t, it, [], 0⟩, ⟨t2, it2, [], 0⟩] sc _ => match zej (cIt c it) (cE c it), zca (c.inner sc) t, zca (c.inner sc) t2, cE (c.inner sc) it2, cE (c.inner sc) elt with
    | some (k, a, b), some tg, some tg2, some a2, some e => if zb2 k tg && zb2 .plain tg2 && apartT tg tg2 && scOk c sc && tgOk sc t && tgOk sc t2 then some (.comp2 e tg k a b tg2 a2 (c.cap sc)) else none
    | _, _, _, _, _ => none
  | .JoinedStr (v :: w :: vs) _ => (cParts c (v :: w :: vs)).map .fstr
  | _ => none
def cBop (c : CT) (conj : Bool) : List Expr → Option PE
  | [x] => cE c x
  | x :: xs => match cE c x, cBop c conj xs with
    | some a, some b => some (.bop conj a b)
    | _, _ => none
  | [] => none
def cEo (c : CT) : Option Expr → Option PE
  | none => some (.lit .nul)
  | some e => cE c e
def cEs (c : CT) : List Expr → Option (List PE)
  | [] => some []
  | e :: es => match cE c e, cEs c es with
    | some a, some b => some (a :: b)
    | _, _ => none
def cParts (c : CT) : List Expr → Option (List PE)
  | [] => some []
  | .FormattedValue e (-1) none _ :: es => match cE c e, cParts c es with
    | some a, some b => some (a :: b)
    | _, _ => none
  | .Constant (.str s) _ _ :: es => match zfg (.str s), cParts c es with
    | some v, some b => some (.lit v :: b)
    | _, _ => none
  | _ => none
def cIt (c : CT) : Expr → Option (IK × PE × PE)
  | .Call (.Name f _) [a] [] _ => if zam f then (match c.glob f, cE c a with
    | some (.type "range"), some x => some (.range, x, .lit .nul)
    | some (.type "enumerate"), some x => some (.enum, x, .lit .nul)
    | _, _ => none) else none
  | .Call (.Name f _) [a, b] [] _ => if zam f then (match c.glob f, cE c a, cE c b with
    | some (.type "zip"), some x, some y => some (.zip, x, y)
    | _, _, _ => none) else none
  | _ => none
end
mutual
def grown : Stmt → List Str
  | .Assign _ (.Attribute (.Name x _) m _) _ => if m == ("append" : Str) then [x] else []
  | .Expr (.Call (.Attribute (.Name x _) m _) _ _ _) _ => if m == ("append" : Str) || m == ("extend" : Str) then [x] else []
  | .For _ _ b _ _ => zfi b
  | .While _ b _ _ => zfi b
  | .If _ a b _ => zfi a ++ zfi b
  | _ => []
def zfi : List Stmt → List Str
  | [] => []
  | s :: r => grown s ++ zfi r
end
def okLam (la : Arguments) (lb : Expr) (ls : Scope) : Bool := match la, lb with
  | ⟨[], [⟨m, none, _⟩], none, [], [], none, []⟩, .BinOp (.Constant (.str a) _ _) .Add (.BoolOp .Or [.Call (.Attribute (.Name m2 _) g ap) [.Constant (.int 1) _ _] [] p, .Constant (.str b) _ _] _) _ =>
    a == ("\\" : Str) && b == ("" : Str) && m2 == m && g == ("group" : Str) && (ap.endLine == p.line) && zam m && ls.kind == .function && ls.isCoroutine == false && ls.isGenerator == false && ls.names == [(m, NameKind.local)]
  | _, _ => false
def okGen (elt tgt : Expr) (sc : Scope) : Bool := match elt, tgt with
  | .Call (.Attribute (.Call (.Attribute (.Name v _) r1 a1) [.Constant (.str x1) _ _, .Constant (.str y1) _ _] [] p1) r2 a2) [.Constant (.str x2) _ _, .Constant (.str y2) _ _] [] p2, .Name v2 _ =>
    v == v2 && r1 == ("replace" : Str) && r2 == ("replace" : Str) && x1 == ("\\" : Str) && y1 == ("\\\\" : Str) && x2 == ("-" : Str) && y2 == ("\\-" : Str) && (a1.endLine == p1.line) && (a2.endLine == p2.line) &&
    zam v && sc.kind == .function && sc.isCoroutine == false && sc.names == [((".0" : Str), NameKind.local), (v, NameKind.local)] && v != (".0" : Str)
  | _, _ => false
mutual
def cS (c : CT) : Stmt → PS
  | .Assign [.Name x _] v _ => match c.slot x with
    | none => .bad 1
    | some i => match v with
      | .List [] _ => if c.own.contains x then .own i else (match cE c v with | some e => .assign i e | none => .bad 2)
      | .Attribute (.Name y _) m _ => if m == ("append" : Str) && zam y then (match c.slot y with | some j => .app i j | none => .bad 3) else .bad 4
      | .Call (.Name f _) [] [] _ => if c.glob f == some (.type "object") then .obj i else (match cE c v with | some e => .assign i e | none => .bad 5)
      | .Call (.Attribute (.Name y _) m ap) [.Lambda la lb ls _, .Name z _] [] p => if m == ("sub" : Str) && c.glob y == some (.ref 43) && c.slot z == some i && c.inT && zam y && zam z && (ap.endLine == p.line) && okLam la lb ls then .resub i else .bad 6
      | .Call (.Attribute (.Constant (.str sp) _ _) m ap) [.GeneratorExp ge [⟨gt, .Name z _, [], 0⟩] gs _] [] p => if m == ("join" : Str) && sp == ("-" : Str) && c.inT && zam z && (ap.endLine == p.line) && okGen ge gt gs then (match c.slot z with | some j => .djoin i j | none => .bad 7) else .bad 8
      | v => (match cE c v with | some e => .assign i e | none => .bad 9)
  | .Assign [.Name x _, .Name y _] v _ => match c.slot x, c.slot y, cE c v with
    | some i, some j, some e => .asg2 i j e
    | _, _, _ => .bad 10
  | .Assign [.Tuple [.Name x _, .Name y _] _ _] (.Tuple [a, b] _ _) _ => match c.slot x, c.slot y, cE c a, cE c b with
    | some i, some j, some e, some f => if [a, b].all (constantsAlone 8) then .bad 30 else .tup2 i j e f
    | _, _, _, _ => .bad 11
  | .AugAssign (.Name x _) op v _ => match c.slot x, cE c v with
    | some i, some e => if zam x then .aug i op e else .bad 31
    | _, _ => .bad 12
  | .Expr (.Call (.Attribute (.Name x _) m ap) [a] [] p) _ => match c.slot x, cE c a with
    | some i, some e => if m == ("append" : Str) && zam x && (ap.endLine == p.line) then .push i e else .bad 13
    | _, _ => .bad 14
  | .Expr (.Call (.Name x _) [a] [] _) _ => match c.slot x, (c.app.lookup x).bind c.slot, cE c a with
    | some i, some j, some e => if zam x then .pushA i j e else .bad 32
    | _, _, _ => .bad 15
  | .If t a b _ => match cE c t with
    | some e => .ite e (cSs c a) (cSs c b)
    | none => .bad 16
  | .While t b [] _ => match cE c t with
    | some e => .whl e (cSs c b)
    | none => .bad 17
  | .For t it b [] _ => match zca c t, it with
    | some (.one x), .Call (.Name f _) [a, e, .UnaryOp .USub (.Constant (.int 1) _ _) _] [] _ => (match cE c a, cE c e with
      | some p, some q => if zam f && c.glob f == some (.type "range") then .down x p q else .bad 25
      | _, _ => .bad 26)
    | some tg, .Name y _ => if c.own.contains y then (match c.slot y with | some j => if zam y && zb2 .plain tg && !zcd (cSs c b) j then .forOwn tg j (cSs c b) else .bad 29 | none => .bad 18) else (match zej (cIt c it) (cE c it) with
      | some (k, a, x) => if zb2 k tg then .for tg k a x (cSs c b) else .bad 27
      | none => .bad 19)
    | some tg, it => (match zej (cIt c it) (cE c it) with
      | some (k, a, x) => if zb2 k tg then .for tg k a x (cSs c b) else .bad 28
      | none => .bad 20)
    | none, _ => .bad 21
  | .Return none _ => .ret (.lit .nul)
  | .Return (some e) _ => match cE c e with
    | some e => .ret e
    | none => .bad 22
  | .Break _ => .brk
  | .Assert t none _ => match cE c t with
    | some e => .asrt e
    | none => .bad 23
  | _ => .bad 24
def cSs (c : CT) : List Stmt → List PS
  | [] => []
  | s :: r => cS c s :: cSs c r
end
def appsOf : List Stmt → List (Str × Str)
  | .Assign [.Name x _] (.Attribute (.Name y _) _ _) _ :: r => (x, y) :: appsOf r
  | _ :: r => appsOf r
  | [] => []
def zb5 (params : Arguments) (sc : Scope) : List Str :=
  let ps := params.args.map (·.arg)
  ps ++ (sc.names.filter fun x => zez x.2 && !ps.contains x.1).map (·.1)
def fnCT (gl : List (Str × Value)) (params : Arguments) (body : List Stmt) (sc : Scope) : CT :=
  { ns := zb5 params sc, kind := sc.names, gl, own := zfi body, app := appsOf body }
end Mine
namespace Mine
open PySem PyProof.Rows
def zao : Addr := 64
def zc1 : Addr := 68
def Soft (h h' : Heap) : Prop := ∀ b o, b ≠ zao → h.get? b = some o → h'.get? b = some o ∨ ((∃ es ep, o.data = .dict es ep) ∧ ∃ sl, h'.get? b = some { o with slots := sl })
def Hard (hb h : Heap) : Prop := ∀ b o, b ≠ zao → hb.get? b = some o → h.get? b = some o
theorem Soft.refl (h : Heap) : Soft h h := fun _ _ _ e => .inl e
theorem Soft.trans {h₁ h₂ h₃ : Heap} (x : Soft h₁ h₂) (y : Soft h₂ h₃) : Soft h₁ h₃ := fun b o hb e => by
  rcases x b o hb e with e' | ⟨hc, sl, e'⟩
  · exact y b o hb e'
  · rcases y b _ hb e' with e'' | ⟨_, sl', e''⟩
    · exact .inr ⟨hc, sl, e''⟩
    · exact .inr ⟨hc, sl', e''⟩
theorem Soft.of_keeps {h h' : Heap} (k : ∀ b o, h.get? b = some o → h'.get? b = some o) : Soft h h' := fun b o _ e => .inl (k b o e)
theorem Soft.get {h h' : Heap} (x : Soft h h') {b : Addr} {o : Obj} (hb : b ≠ zao) (hc : ∀ es ep, o.data ≠ .dict es ep) (e : h.get? b = some o) : h'.get? b = some o :=
  (x b o hb e).resolve_right fun ⟨⟨es, ep, q⟩, _⟩ => hc es ep q
theorem Soft.data {h h' : Heap} (x : Soft h h') {b : Addr} {o : Obj} (hb : b ≠ zao) (e : h.get? b = some o) : ∃ o', h'.get? b = some o' ∧ o'.data = o.data ∧ o'.cls = o.cls ∧ o'.dict = o.dict := by
  rcases x b o hb e with e' | ⟨_, sl, e'⟩
  · exact ⟨o, e', rfl, rfl, rfl⟩
  · exact ⟨_, e', rfl, rfl, rfl⟩
theorem Soft.ns {h h' : Heap} {a : Addr} {m} (x : Soft h h') (ha : a ≠ zao) (n : h.Ns a m) : h'.Ns a m :=
  let ⟨_, es, ep, ho, hd, r⟩ := n
  let ⟨o', ho', hd', _⟩ := x.data ha ho
  ⟨o', es, ep, ho', hd'.trans hd, r⟩
theorem Soft.cell {h h' : Heap} {a : Addr} {v} (x : Soft h h') (ha : a ≠ zao) (n : h.IsCell a v) : h'.IsCell a v :=
  let ⟨_, ho, hd⟩ := n
  let ⟨o', ho', hd', _⟩ := x.data ha ho
  ⟨o', ho', hd'.trans hd⟩
theorem Hard.soft {hb h h' : Heap} (x : Hard hb h) (k : ∀ b o, h.get? b = some o → h'.get? b = some o) : Hard hb h' := fun b o n e => k b o (x b o n e)
def TabOk (h : Heap) : Prop := ∃ ps, h.TableAt zc1 zao ps ∧ h.IsCode zc1 zao ps ∧ ∀ pos c, codeAmong pos ps.toList = some c → ∃ a q, c = .ref a ∧ h.CodeRec c q ∧ ∃ o, h.get? a = some o ∧ o.cls = .type "code"
theorem TabOk.get {h : Heap} (x : TabOk h) : ∃ o, h.get? zao = some o := let ⟨_, t, _⟩ := x; ⟨_, t.2⟩
theorem TabOk.lt {h : Heap} (x : TabOk h) : zao < h.objs.size := let ⟨_, e⟩ := x.get; Heap.lt_size e
structure HB where
  h : Heap
  fm : List Addr
  own : Addr
def NFat (h : Heap) (a : Addr) : Prop := a ≠ zao ∧ ∃ o, h.get? a = some o ∧ ∃ es ep, o.data = .dict es ep
theorem NFat.soft {h h' : Heap} {a : Addr} (x : NFat h a) (k : Soft h h') : NFat h' a :=
  let ⟨ha, _, e, n⟩ := x
  let ⟨o', e', hd, _⟩ := k.data ha e
  ⟨ha, o', e', hd ▸ n⟩
theorem NFat.ns {h : Heap} {a : Addr} {m : Str → Option Value} (ha : a ≠ zao) (x : h.Ns a m) : NFat h a :=
  let ⟨o, es, ep, ho, hd, _⟩ := x
  ⟨ha, o, ho, es, ep, hd⟩
structure GS (hb : HB) (s : Shared) : Prop where
  hard : Hard hb.h s.heap
  tab : TabOk s.heap
  gens : AllBare s.gens
  fd : ∀ a ∈ hb.fm, NFat s.heap a
theorem GS.fdS {hb : HB} {s s' : Shared} (g : GS hb s) (k : Soft s.heap s'.heap) : ∀ a ∈ hb.fm, NFat s'.heap a := fun a ha => (g.fd a ha).soft k
structure Kp (hb : HB) (s s' : Shared) : Prop where
  soft : Soft s.heap s'.heap
  os : s'.os = s.os
  gs : GS hb s → GS hb s'
theorem Kp.refl (hb : HB) (s : Shared) : Kp hb s s := ⟨.refl _, rfl, id⟩
theorem Kp.trans {hb : HB} {s₁ s₂ s₃ : Shared} (x : Kp hb s₁ s₂) (y : Kp hb s₂ s₃) : Kp hb s₁ s₃ := ⟨x.soft.trans y.soft, y.os.trans x.os, fun g => y.gs (x.gs g)⟩
theorem TabOk.keeps {h h' : Heap} (x : TabOk h) (k : ∀ b o, h.get? b = some o → h'.get? b = some o) : TabOk h' :=
  let ⟨ps, t, i, e⟩ := x
  ⟨ps, t.keeps k, i.keeps k, fun pos c hc => let ⟨a, q, h1, h2, o, h3, h4⟩ := e pos c hc; ⟨a, q, h1, h2.keeps k, o, k _ _ h3, h4⟩⟩
theorem TabOk.same {h h' : Heap} {a : Addr} {o : Obj} (x : TabOk h) (hs : Heap.SameBut a h h') (ho : h.get? a = some o) (h1 : o.cls ≠ .none) (h2 : o.cls ≠ .type "code") : TabOk h' := by
  obtain ⟨ps, t, i, e⟩ := x; have k : ∀ b o', b ≠ a → h.get? b = some o' → h'.get? b = some o' := fun b o' hb e => (hs.2 b hb).trans e
  have hA : zao ≠ a := fun q => by
    have := t.2; rw [q, ho] at this; cases this; exact h1 rfl
  obtain ⟨⟨oc, vs, g1, g2, g3, g4⟩, t2⟩ := id t; have hC : zc1 ≠ a := fun q => by
    rw [q, ho] at g1; cases g1; exact h2 g2
  have hk : ∀ b o', b = zao ∨ b = zc1 → h.get? b = some o' → h'.get? b = some o' := fun b o' hb e => k b o' (by rcases hb with rfl | rfl; exact hA; exact hC) e
  refine ⟨ps, ⟨⟨oc, vs, hk _ _ (.inr rfl) g1, g2, g3, g4⟩, hk _ _ (.inl rfl) t2⟩, ?_, fun pos c hc => ?_⟩
  · obtain ⟨o1, v1, f, tf, fl, tg, b, n, tt, op, a1, r1, r2, r3, r4, r5, r6, b1, r⟩ := i; exact ⟨o1, v1, f, tf, fl, tg, b, n, tt, op, hk _ _ (.inr rfl) a1, r1, r2, r3, r4, r5, r6, hk _ _ (.inl rfl) b1, r⟩
  · obtain ⟨a', q, rfl, h5, o', h6, h7⟩ := e pos c hc; have hne : a' ≠ a := fun q => by rw [q, ho] at h6; cases h6; exact h2 h7
    obtain ⟨c', oo, vv, tt, e1, e2, e3⟩ := h5
    cases e1
    exact ⟨a', q, rfl, ⟨a', oo, vv, tt, rfl, k _ _ hne e2, e3⟩, o', k _ _ hne h6, h7⟩
section
variable {hb : HB} {s s₀ : Shared}
theorem GS.keeps {h' : Heap} {tk : Nat} (g : GS hb s) (k : ∀ b o, s.heap.get? b = some o → h'.get? b = some o) : GS hb { s with heap := h', toks := tk } :=
  ⟨g.hard.soft k, g.tab.keeps k, g.gens, g.fdS (.of_keeps k)⟩
theorem Kp.keeps {h' : Heap} {tk : Nat} (k : ∀ b o, s.heap.get? b = some o → h'.get? b = some o) : Kp hb s { s with heap := h', toks := tk } :=
  ⟨.of_keeps k, rfl, fun g => g.keeps k⟩
theorem Kp.push {o : Obj} {tk : Nat} : Kp hb s { s with heap := s.heap.push o, toks := tk } := .keeps fun _ _ e => Heap.get?_push_of_some o e
theorem Kp.tok {tk : Nat} : Kp hb s { s with toks := tk } := .keeps fun _ _ e => e
theorem Kp.turn {h' : Heap} {a : Addr} {o : Obj} {tk : Nat} (x : Kp hb s₀ s) (g₀ : GS hb s₀) (hs : Heap.SameBut a s.heap h') (hn : s₀.heap.get? a = none) (ho : s.heap.get? a = some o) (h1 : o.cls ≠ .none) (h2 : o.cls ≠ .type "code") :
    Kp hb s₀ { s with heap := h', toks := tk } := by
  have hA : a ≠ zao := fun q => by
    obtain ⟨o', ho'⟩ := g₀.tab.get; rw [← q, hn] at ho'; cases ho'
  have k : ∀ b o', b ≠ a → s.heap.get? b = some o' → h'.get? b = some o' := fun b o' hb e => (hs.2 b hb).trans e
  have sf : Soft s₀.heap h' := fun b o' hb e => by
    have hne : b ≠ a := fun q => by rw [q, hn] at e; cases e
    rcases x.soft b o' hb e with e' | ⟨hc, sl, e'⟩
    · exact .inl (k _ _ hne e')
    · exact .inr ⟨hc, sl, k _ _ hne e'⟩
  refine ⟨sf, x.os, fun g => ⟨fun b o' hb e => ?_, (x.gs g).tab.same hs ho h1 h2, (x.gs g).gens, g.fdS sf⟩⟩
  · have e₀ := g₀.hard b o' hb e; have hne : b ≠ a := fun q => by rw [q, hn] at e₀; cases e₀
    exact k _ _ hne ((x.gs g).hard b o' hb e)
end
def okS (l : List Nat) : Prop := l.length ≤ small ∧ ∀ c ∈ l, c < 1114112
def Hardy (o : Obj) : Prop := (∀ es ep, o.data ≠ .dict es ep) ∧ (∀ v, o.data ≠ .cell v) ∧ o.cls ≠ .type "frame"
theorem Hardy.seq {o : Obj} {vs : Array Value} {n} (hd : o.data = .seq vs n) (hc : o.cls ≠ .type "frame") : Hardy o :=
  ⟨fun _ _ e => (nomatch (hd.symm.trans e)), fun _ e => (nomatch (hd.symm.trans e)), hc⟩
theorem Hardy.fields {o : Obj} {vs : Array Value} (hd : o.data = .fields vs) (hc : o.cls ≠ .type "frame") : Hardy o :=
  ⟨fun _ _ e => (nomatch (hd.symm.trans e)), fun _ e => (nomatch (hd.symm.trans e)), hc⟩
mutual
def VR (h : Heap) (O : Addr → Prop) : PV → Value → Prop
  | .nul, v => v = .none
  | .bool b, v => v = .bool b
  | .int i, v => ∃ t, v = .int i t
  | .str l, v => okS l ∧ ∃ t, v = .str ⟨l.toArray⟩ t
  | .fn f, v => v = f
  | .ob a, v => v = .ref a ∧ a ≠ zao ∧ ¬ O a ∧ ∃ o, h.get? a = some o ∧ o.cls = .type "object" ∧ Hardy o
  | .list xs, v => xs.length ≤ small ∧ ∃ a vs, v = .ref a ∧ a ≠ zao ∧ ¬ O a ∧ h.PlainList a vs.toArray ∧ VRs h O xs vs
  | .tup xs, v => xs.length ≤ small ∧ ∃ a vs, v = .ref a ∧ a ≠ zao ∧ ¬ O a ∧ IsTup h a vs.toArray ∧ VRs h O xs vs
def VRs (h : Heap) (O : Addr → Prop) : List PV → List Value → Prop
  | [], vs => vs = []
  | x :: xs, vs => ∃ v r, vs = v :: r ∧ VR h O x v ∧ VRs h O xs r
end
def zd3 (O : Addr → Prop) (b : Addr) (o : Obj) : Prop := b ≠ zao ∧ ¬ O b ∧ (o.cls = .type "list" ∨ o.cls = .type "tuple" ∨ o.cls = .type "object") ∧ Hardy o
theorem zat {o : Obj} {T : String} (hc : o.cls = .type T) (h : T ≠ "frame") : o.cls ≠ .type "frame" := fun e => h (by rw [hc] at e; injection e)
mutual
theorem VR.mono {h h' : Heap} {O O' : Addr → Prop} (k : ∀ b o, h.get? b = some o → zd3 O b o → h'.get? b = some o) (hO : ∀ b o, h.get? b = some o → ¬ O b → ¬ O' b) : ∀ {v : PV} {rv : Value}, VR h O v rv → VR h' O' v rv
  | .nul, _, x => x
  | .bool _, _, x => x
  | .int _, _, x => x
  | .str _, _, x => x
  | .fn _, _, x => x
  | .ob a, _, ⟨e, ha, hO', o, ho, hc, hd⟩ => ⟨e, ha, hO _ _ ho hO', o, k _ _ ho ⟨ha, hO', .inr (.inr hc), hd⟩, hc, hd⟩
  | .list xs, _, ⟨hz, a, vs, e, ha, hO', ⟨n, ho⟩, hx⟩ => ⟨hz, a, vs, e, ha, hO _ _ ho hO', ⟨n, k _ _ ho ⟨ha, hO', .inl rfl, .seq rfl (zat rfl (by decide))⟩⟩, VRs.mono k hO hx⟩
  | .tup xs, _, ⟨hz, a, vs, e, ha, hO', ⟨o, ho, hc, n, hd⟩, hx⟩ => ⟨hz, a, vs, e, ha, hO _ _ ho hO', ⟨o, k _ _ ho ⟨ha, hO', .inr (.inl hc), .seq hd (zat hc (by decide))⟩, hc, n, hd⟩, VRs.mono k hO hx⟩
theorem VRs.mono {h h' : Heap} {O O' : Addr → Prop} (k : ∀ b o, h.get? b = some o → zd3 O b o → h'.get? b = some o) (hO : ∀ b o, h.get? b = some o → ¬ O b → ¬ O' b) : ∀ {v : List PV} {rv : List Value}, VRs h O v rv → VRs h' O' v rv
  | [], _, x => x
  | _ :: _, _, ⟨v, r, e, h1, h2⟩ => ⟨v, r, e, VR.mono k hO h1, VRs.mono k hO h2⟩
end
theorem zhn {h h' : Heap} {O : Addr → Prop} (x : Soft h h') : ∀ b o, h.get? b = some o → zd3 O b o → h'.get? b = some o := fun b o e l =>
  x.get l.1 l.2.2.2.1 e
theorem VR.soft {h h' : Heap} {O : Addr → Prop} {v rv} (x : Soft h h') (r : VR h O v rv) : VR h' O v rv := r.mono (zhn x) fun _ _ _ q => q
theorem VRs.soft {h h' : Heap} {O : Addr → Prop} {v rv} (x : Soft h h') (r : VRs h O v rv) : VRs h' O v rv := r.mono (zhn x) fun _ _ _ q => q
theorem VRs.length {h : Heap} {O : Addr → Prop} : ∀ {xs : List PV} {vs : List Value}, VRs h O xs vs → vs.length = xs.length
  | [], vs, x => by have e : vs = [] := x; rw [e]; rfl
  | _ :: _, _, ⟨_, _, e, _, r⟩ => by rw [e, List.length_cons, List.length_cons, r.length]
theorem VRs.get {h : Heap} {O : Addr → Prop} : ∀ {xs : List PV} {vs : List Value}, VRs h O xs vs → ∀ {i : Nat} {x : PV}, xs[i]? = some x → ∃ v, vs[i]? = some v ∧ VR h O x v
  | [], _, _, _, _, q => by simp at q
  | _ :: _, _, ⟨v, _, e, h1, r⟩, 0, _, q => by subst e; simp at q; exact ⟨v, by simp, q ▸ h1⟩
  | _ :: _, _, ⟨_, _, e, _, r⟩, i + 1, _, q => by
    subst e; have ⟨v, h1, h2⟩ := VRs.get r (i := i) (x := _) (List.getElem?_cons_succ ▸ q); exact ⟨v, by simpa using h1, h2⟩
theorem VRs.of_get {h : Heap} {O : Addr → Prop} : ∀ {xs : List PV} {vs : List Value}, vs.length = xs.length → (∀ (i : Nat) x v, xs[i]? = some x → vs[i]? = some v → VR h O x v) → VRs h O xs vs
  | [], [], _, _ => rfl
  | [], _ :: _, e, _ => by simp at e
  | _ :: _, [], e, _ => by simp at e
  | x :: xs, v :: vs, e, k => ⟨v, vs, rfl, k 0 x v (by simp) (by simp), VRs.of_get (by simpa using e) fun i a b p q => k (i + 1) a b (by simpa using p) (by simpa using q)⟩
theorem VRs.append {h : Heap} {O : Addr → Prop} : ∀ {xs ys : List PV} {vs ws : List Value}, VRs h O xs vs → VRs h O ys ws → VRs h O (xs ++ ys) (vs ++ ws)
  | [], _, _, _, e, r => by rw [show _ = [] from e]; exact r
  | _ :: _, _, _, _, ⟨v, r, e, h1, h2⟩, r' => by rw [e]; exact ⟨v, r ++ _, rfl, h1, h2.append r'⟩
theorem VRs.take {h : Heap} {O : Addr → Prop} {xs : List PV} {vs : List Value} (r : VRs h O xs vs) (n : Nat) : VRs h O (xs.take n) (vs.take n) :=
  .of_get (by rw [List.length_take, List.length_take, r.length]) fun i x v p q => by
    rw [List.getElem?_take] at p q
    split at p
    · rename_i hi; rw [if_pos hi] at q; have ⟨v', h1, h2⟩ := r.get p; rw [h1] at q; cases q; exact h2
    · cases p
theorem VRs.drop {h : Heap} {O : Addr → Prop} {xs : List PV} {vs : List Value} (r : VRs h O xs vs) (n : Nat) : VRs h O (xs.drop n) (vs.drop n) :=
  .of_get (by rw [List.length_drop, List.length_drop, r.length]) fun i x v p q => by
    rw [List.getElem?_drop] at p q; have ⟨v', h1, h2⟩ := r.get p; rw [h1] at q; cases q; exact h2
theorem zbb : small ≤ sizeLine := by decide
def OkO (O : Addr → Prop) (h : Heap) : Prop := ∀ a, O a → a ≠ zao ∧ ∃ o, h.get? a = some o
structure XC (hb : HB) (O : Addr → Prop) (s : Shared) : Prop where
  gs : GS hb s
  ok : OkO O s.heap
  own : NFat s.heap hb.own
theorem XC.kp {hb : HB} {O : Addr → Prop} {s s' : Shared} (x : XC hb O s) (k : Kp hb s s') : XC hb O s' :=
  ⟨k.gs x.gs, fun a ha => let ⟨h1, _, h2⟩ := x.ok a ha; ⟨h1, let ⟨o', e, _⟩ := k.soft.data h1 h2; ⟨o', e⟩⟩, x.own.soft k.soft⟩
theorem OkO.kp {hb : HB} {O : Addr → Prop} {s s' : Shared} (x : OkO O s.heap) (k : Kp hb s s') : OkO O s'.heap :=
  fun a ha => let ⟨h1, _, h2⟩ := x a ha; ⟨h1, let ⟨o', e, _⟩ := k.soft.data h1 h2; ⟨o', e⟩⟩
theorem XC.fresh {hb : HB} {O : Addr → Prop} {s : Shared} (x : XC hb O s) : ¬ O s.heap.objs.size := fun q => by
  obtain ⟨_, o, e⟩ := x.ok _ q; exact Nat.lt_irrefl _ (Heap.lt_size e)
theorem XC.off {hb : HB} {O : Addr → Prop} {s : Shared} (x : XC hb O s) : s.heap.objs.size ≠ zao := fun q => by
  have := x.gs.tab.lt; rw [q] at this; exact Nat.lt_irrefl _ this
section
variable {M : Model} {A : Around} {E : Value → Shared → Prop} {s : Shared} {hb : HB} {O : Addr → Prop}
theorem VRs.kp {s s' : Shared} {xs vs} (k : Kp hb s s') (r : VRs s.heap O xs vs) : VRs s'.heap O xs vs := r.soft k.soft
theorem VR.kp {s s' : Shared} {x v} (k : Kp hb s s') (r : VR s.heap O x v) : VR s'.heap O x v := r.soft k.soft
theorem zf1 {tk : Nat} {xs : List PV} {vs : List Value} (xc : XC hb O s) (r : VRs s.heap O xs vs) (hz : xs.length ≤ small) {n : Nat} :
    VR (Shared.mk (s.heap.push { cls := .type "list", data := .seq vs.toArray n }) s.gens s.drawn tk s.os).heap O (.list xs) (.ref s.heap.objs.size) :=
  ⟨hz, _, vs, rfl, xc.off, xc.fresh, ⟨_, Heap.get?_push_size _ rfl⟩, r.soft (.of_keeps fun _ _ e => Heap.get?_push_of_some _ e)⟩
theorem new_tup {tk : Nat} {xs : List PV} {vs : List Value} (xc : XC hb O s) (r : VRs s.heap O xs vs) (hz : xs.length ≤ small) {n : Nat} :
    VR (Shared.mk (s.heap.push { cls := .type "tuple", data := .seq vs.toArray n }) s.gens s.drawn tk s.os).heap O (.tup xs) (.ref s.heap.objs.size) :=
  ⟨hz, _, vs, rfl, xc.off, xc.fresh, ⟨_, Heap.get?_push_size _ rfl, rfl, _, rfl⟩, r.soft (.of_keeps fun _ _ e => Heap.get?_push_of_some _ e)⟩
end
theorem zf3 {a b : List Nat} (ha : okS a) (hb : okS b) (hz : (a ++ b).length ≤ small) : okS (a ++ b) :=
  ⟨hz, fun c hc => by rcases List.mem_append.mp hc with h | h; exact ha.2 c h; exact hb.2 c h⟩
theorem okS_sub {a b : List Nat} (ha : okS a) (hl : b.length ≤ a.length) (hs : ∀ c ∈ b, c ∈ a) : okS b := ⟨Nat.le_trans hl ha.1, fun c hc => ha.2 c (hs c hc)⟩
theorem zdg {h : Heap} {O : Addr → Prop} : (∀ (n : Nat) (x : PV) (v : Value), VR h O x v → za6 n x = true → ∃ as, Reads h v (zbg x) as) := by
  intro n
  induction n with
  | zero =>
    intro x v r p
    cases x with
    | nul => rw [show v = _ from r]; exact ⟨_, .none⟩
    | bool b => rw [show v = _ from r]; exact ⟨_, .bool b⟩
    | int i => obtain ⟨t, e⟩ := r; rw [e]; exact ⟨_, .int i t⟩
    | str l => obtain ⟨_, t, e⟩ := r; rw [e]; exact ⟨_, .str _ t⟩
    | _ => simp [za6] at p
  | succ n ih =>
    have all : ∀ (xs : List PV) (vs : List Value), VRs h O xs vs → zbf n xs = true → ∃ as, ReadsAll h vs (za9 xs) as := by
      intro xs
      induction xs with
      | nil => intro vs r _; rw [show vs = _ from r]; exact ⟨_, .nil⟩
      | cons x xs ih2 =>
        intro vs r p
        obtain ⟨v, r', rfl, h1, h2⟩ := r
        simp only [zbf, Bool.and_eq_true] at p
        obtain ⟨as, q⟩ := ih x v h1 p.1
        obtain ⟨bs, q'⟩ := ih2 _ h2 p.2
        exact ⟨_, .cons q q'⟩
    intro x v r p
    cases x with
    | nul => rw [show v = _ from r]; exact ⟨_, .none⟩
    | bool b => rw [show v = _ from r]; exact ⟨_, .bool b⟩
    | int i => obtain ⟨t, e⟩ := r; rw [e]; exact ⟨_, .int i t⟩
    | str l => obtain ⟨_, t, e⟩ := r; rw [e]; exact ⟨_, .str _ t⟩
    | list xs =>
      obtain ⟨_, a, vs, rfl, _, _, hl, hx⟩ := r
      obtain ⟨o, ho, hc, k, hd⟩ := hl.isList
      obtain ⟨as, q⟩ := all xs vs hx (by simpa [za6] using p)
      exact ⟨_, .list ho hc hd q⟩
    | tup xs =>
      obtain ⟨_, a, vs, rfl, _, _, ⟨o, ho, hc, k, hd⟩, hx⟩ := r
      obtain ⟨as, q⟩ := all xs vs hx (by simpa [za6] using p)
      exact ⟨_, .tuple ho hc hd q⟩
    | _ => simp [za6] at p
theorem okS_strOk {l : List Nat} (h : okS l) : PyData.strOk ⟨l.toArray⟩ = true := by
  unfold PyData.strOk; rw [List.all_toArray]; exact List.all_eq_true.mpr fun c hc => decide_eq_true (h.2 c hc)
theorem zet {h : Heap} {O : Addr → Prop} : ∀ (n : Nat) (x : PV) (v : Value), VR h O x v → za6 n x = true → (zbg x).canLay0 = true ∧ (zbg x).depth ≤ n := by
  intro n
  induction n with
  | zero =>
    intro x v r p
    cases x with
    | str l => exact ⟨okS_strOk r.1, by simp [zbg, PyData.depth]⟩
    | list xs => simp [za6] at p
    | tup xs => simp [za6] at p
    | _ => simp [zbg, PyData.canLay0, PyData.depth]
  | succ n ih =>
    have all : ∀ (xs : List PV) (vs : List Value), VRs h O xs vs → zbf n xs = true → PyData.canLayAll0 (za9 xs) = true ∧ PyData.depthAll (za9 xs) ≤ n := by
      intro xs
      induction xs with
      | nil => intro vs r _; simp [za9, PyData.canLayAll0, PyData.depthAll]
      | cons x xs ih2 =>
        intro vs r p
        obtain ⟨v, r', rfl, h1, h2⟩ := r
        simp only [zbf, Bool.and_eq_true] at p
        have q := ih x v h1 p.1
        have q' := ih2 _ h2 p.2
        simp only [za9, PyData.canLayAll0, PyData.depthAll, q.1, q'.1, Bool.and_self, true_and]
        have := q.2; have := q'.2
        omega
    intro x v r p
    cases x with
    | str l => exact ⟨okS_strOk r.1, by simp [zbg, PyData.depth]⟩
    | list xs =>
      obtain ⟨_, a, vs, rfl, _, _, _, hx⟩ := r
      have q := all xs vs hx (by simpa [za6] using p)
      have := q.2
      simp only [zbg, PyData.canLay0, PyData.depth, q.1, true_and]; omega
    | tup xs =>
      obtain ⟨_, a, vs, rfl, _, _, _, hx⟩ := r
      have q := all xs vs hx (by simpa [za6] using p)
      have := q.2
      simp only [zbg, PyData.canLay0, PyData.depth, q.1, true_and]; omega
    | _ => simp [zbg, PyData.canLay0, PyData.depth]
theorem ze1 {h : Heap} {O : Addr → Prop} (n : Nat) : ∀ (xs : List PV) (vs : List Value), VRs h O xs vs → zbf n xs = true → PyData.canLayAll0 (za9 xs) = true ∧ PyData.depthAll (za9 xs) ≤ n
  | [], _, _, _ => by simp [za9, PyData.canLayAll0, PyData.depthAll]
  | x :: xs, vs, r, p => by
    obtain ⟨v, r', rfl, h1, h2⟩ := r; simp only [zbf, Bool.and_eq_true] at p; have q := zet n x v h1 p.1; have q' := ze1 n xs _ h2 p.2; simp only [za9, PyData.canLayAll0, PyData.depthAll, q.1, q'.1, Bool.and_self, true_and]; have := q.2; have := q'.2; omega
theorem ze2 {h : Heap} {O : Addr → Prop} (n : Nat) : ∀ (xs : List PV) (vs : List Value), VRs h O xs vs → zbf n xs = true → ∃ as, ReadsAll h vs (za9 xs) as
  | [], _, r, _ => by rw [show _ = _ from r]; exact ⟨_, .nil⟩
  | x :: xs, vs, r, p => by
    obtain ⟨v, r', rfl, h1, h2⟩ := r; simp only [zbf, Bool.and_eq_true] at p; obtain ⟨as, q⟩ := zdg n x v h1 p.1; obtain ⟨bs, q'⟩ := ze2 n xs _ h2 p.2; exact ⟨_, .cons q q'⟩
theorem ze3 {h : Heap} {O : Addr → Prop} {x : PV} {v : Value} (r : VR h O x v) (p : za6 8 x = true) : SeqAt.shaped (zbg x) = true := by
  have q := zet 8 x v r p; unfold SeqAt.shaped; rw [q.1, Bool.true_and]; exact decide_eq_true (Nat.le_trans q.2 (by decide))
end Mine
namespace Mine
open PySem PyProof.Rows
section
variable {prog : Program} {w : World} {A : Around} {E : Value → Shared → Prop} {s : Shared} {hb : HB} {O : Addr → Prop}
theorem isT {h : Heap} {a : Addr} {vs : Array Value} (x : h.IsList a vs) : ∃ n dd sl, h.get? a = some { cls := .type "list", dict := dd, data := .seq vs n, slots := sl } := by
  obtain ⟨⟨c, d, dt, sl⟩, ho, hc, n, hd⟩ := x; simp only at hc hd; subst hc hd; exact ⟨n, d, sl, ho⟩
theorem bin_ok {op : Operator} {x y v : PV} {rx ry : Value} {Q : Value → Shared → Prop} (he : zaf op x y = some v) (xc : XC hb O s) (hx : VR s.heap O x rx) (hy : VR s.heap O y ry)
    (hQ : ∀ rv s', Kp hb s s' → VR s'.heap O v rv → Q rv s') : wpAny (model prog w) A (binaryOp op rx ry) Q E s := by
  unfold zaf at he
  split at he
  · obtain ⟨t, rfl⟩ := hx; obtain ⟨u, rfl⟩ := hy; cases he; exact wpAny_add_int (hQ _ _ .tok ⟨_, rfl⟩)
  · obtain ⟨t, rfl⟩ := hx; obtain ⟨u, rfl⟩ := hy; cases he; exact PyProof.Rows.sub_int (hQ _ _ .tok ⟨_, rfl⟩)
  · rename_i a b; obtain ⟨t, rfl⟩ := hx; obtain ⟨u, rfl⟩ := hy
    split at he
    · rename_i hb0
      cases he
      refine PyProof.Rows.mod_int (by omega) (hQ _ _ .tok ⟨s.toks, ?_⟩); rw [Int.fmod_eq_emod_of_nonneg a (by omega)]
    · cases he
  · rename_i a b; obtain ⟨t, rfl⟩ := hx; obtain ⟨u, rfl⟩ := hy
    split at he
    · rename_i hb0
      cases he
      refine PyProof.Rows.floordiv_int (by omega) (hQ _ _ .tok ⟨s.toks, ?_⟩) (.inl ?_)
      · rw [Int.fdiv_eq_ediv_of_nonneg a (by omega)]
      · exact PyProof.noPylong_small (by omega)
    · cases he
  · rename_i a b; obtain ⟨t, rfl⟩ := hx; obtain ⟨u, rfl⟩ := hy
    split at he
    · rename_i h0
      cases he
      refine PyProof.Rows.pow_int h0.1 ?_ (hQ _ _ .tok ⟨_, rfl⟩); have h1 : Builtin.Int.intBits a ≤ 65 := by
        unfold Builtin.Int.intBits
        split
        · omega
        · have := Nat.log2_le_self a.natAbs; omega
      have h2 : (Builtin.Int.intBits a : Int) ≤ 65 := by omega
      have h3 : (Builtin.Int.intBits a : Int) * b ≤ 65 * b := Int.mul_le_mul_of_nonneg_right h2 h0.1; omega
    · cases he
  · rename_i a b; obtain ⟨za, t, rfl⟩ := hx; obtain ⟨zb, u, rfl⟩ := hy
    split at he
    · rename_i hz
      cases he
      refine PyProof.Rows.add_str (fun t' tk => hQ _ _ .tok ?_) ?_
      · refine ⟨zf3 za zb (by rw [List.length_append]; exact hz), t', ?_⟩; show Value.str _ t' = _; congr 1; apply Str.ext'; simp [Str.cps_append]
      · show a.toArray.size + b.toArray.size ≤ sizeLine; rw [List.size_toArray, List.size_toArray]; exact Nat.le_trans hz zbb
    · cases he
  · rename_i a b; obtain ⟨za, la, vs, rfl, ha, hOa, la', ra⟩ := hx; obtain ⟨zb, lb, ws, rfl, hb', hOb, lb', rb⟩ := hy; have la' := la'.isList; have lb' := lb'.isList
    split at he
    · rename_i hz
      cases he
      obtain ⟨n, dd, sl, ho⟩ := isT la'; obtain ⟨n2, dd2, sl2, ho2⟩ := isT lb'; have e : vs.toArray ++ ws.toArray = (vs ++ ws).toArray := by simp
      have l1 := ra.length; have l2 := rb.length; refine concat_meets ⟨_, ho, rfl⟩ ⟨_, ho2, rfl⟩ noFill_list_add seq_list_add PySem.F.slot_list_add PySem.F.entry_list_add (PySem.F.args_list_add_2 _ _) (list_addW la lb vs.toArray ws.toArray n n2 dd dd2 sl sl2 ?_) ⟨ho, ho2, ?_⟩
      · simp only [List.size_toArray]; rw [l1, l2]; exact Nat.le_trans hz zbb
      · rw [e]; exact hQ _ _ .push (zf1 xc (ra.append rb) (by rw [List.length_append]; exact hz))
    · cases he
  · cases he
theorem eqv_ok {x y : PV} {rx ry : Value} {b : Bool} (he : eqo x y = some b) (hx : VR s.heap O x rx) (hy : VR s.heap O y ry) (hu : A.units + 64 < cLine) :
    (∀ {Q : Value → Shared → Prop}, Q (.bool b) s → wpAny (model prog w) A (compareOp .Eq rx ry) Q E s) ∧ (∀ {Q : Value → Shared → Prop}, Q (.bool !b) s → wpAny (model prog w) A (compareOp .NotEq rx ry) Q E s) := by
  unfold eqo at he
  split at he
  · rename_i a c; obtain ⟨_, t, rfl⟩ := hx; obtain ⟨_, u, rfl⟩ := hy; cases he; have e : ((⟨a.toArray⟩ : Str) == ⟨c.toArray⟩) = decide (a = c) := by
      by_cases h : a = c
      · subst h; simp
      · rw [decide_eq_false h]; refine beq_eq_false_iff_ne.mpr fun q => h ?_
        injection q with q; simpa using congrArg Array.toList q
    refine ⟨fun {Q} h => PyProof.Rows.eq_str (by rw [e]; exact h), fun {Q} h => PyProof.Rows.ne_str ?_⟩
    show Q (.bool !((⟨a.toArray⟩ : Str) == ⟨c.toArray⟩)) s; rw [e]; exact h
  · rename_i a c; obtain ⟨t, rfl⟩ := hx; obtain ⟨u, rfl⟩ := hy; cases he; have e : (a == c) = decide (a = c) := rfl; refine ⟨fun {Q} h => PyProof.Rows.eq_int (by rw [e]; exact h), fun {Q} h => PyProof.Rows.ne_int ?_⟩
    show Q (.bool !(a == c)) s; rw [e]; exact h
  · rename_i a c; rw [show rx = _ from hx, show ry = _ from hy]; cases he; have e : PyData.eqv (.bool a) (.bool c) = (a == c) := by cases a <;> cases c <;> rfl
    exact ⟨fun {Q} h => eq_dataH (.bool a) (.bool c) rfl rfl hu (by rw [e]; exact h), fun {Q} h => ne_dataH (.bool a) (.bool c) rfl rfl hu (by rw [e]; exact h)⟩
  · split at he
    · rename_i hp
      cases he
      simp only [Bool.and_eq_true] at hp; obtain ⟨as, ra⟩ := zdg 8 x rx hx hp.1; obtain ⟨bs, rb⟩ := zdg 8 y ry hy hp.2; exact ⟨fun h => eq_dataH ra rb (ze3 hx hp.1) (ze3 hy hp.2) hu h, fun h => ne_dataH ra rb (ze3 hx hp.1) (ze3 hy hp.2) hu h⟩
    · cases he
theorem is_ok {x y : PV} {rx ry : Value} {b : Bool} (he : zaj x y = some b) (hx : VR s.heap O x rx) (hy : VR s.heap O y ry) :
    (∀ {Q : Value → Shared → Prop}, Q (.bool b) s → wpAny (model prog w) A (compareOp .Is rx ry) Q E s) ∧ (∀ {Q : Value → Shared → Prop}, Q (.bool !b) s → wpAny (model prog w) A (compareOp .IsNot rx ry) Q E s) := by
  unfold zaj at he
  split at he
  · rw [show rx = _ from hx, show ry = _ from hy]; cases he; exact ⟨fun {Q} h => wpAny_is_plain rfl h, fun {Q} h => wpAny_isNot_plain rfl h⟩
  · obtain ⟨_, a, vs, rfl, _⟩ := hx; rw [show ry = _ from hy]; cases he; exact ⟨fun {Q} h => wpAny_is_plain rfl h, fun {Q} h => wpAny_isNot_plain rfl h⟩
  · rename_i a b'; obtain ⟨rfl, ha, _, o, ho, hc, _⟩ := hx; obtain ⟨rfl, hb, _, o', ho', hc', _⟩ := hy; by_cases h : a = b'
    · subst h; rw [decide_eq_true rfl] at he; cases he; exact ⟨fun {Q} h => wpAny_is_ref_self h, fun {Q} h => wpAny_isNot_ref_self h⟩
    · rw [decide_eq_false h] at he; cases he; exact ⟨fun {Q} q => wpAny_is_ref_other h ho ho' (by rw [hc]; decide) q, fun {Q} q => wpAny_isNot_ref_other h ho ho' (by rw [hc]; decide) q⟩
  · obtain ⟨_, t, rfl⟩ := hx; obtain ⟨rfl, _⟩ := hy; cases he; exact ⟨fun {Q} h => wpAny_is_plain rfl h, fun {Q} h => wpAny_isNot_plain rfl h⟩
  · rename_i a c; rw [show rx = _ from hx, show ry = _ from hy]; cases he; have e : (Value.type a == Value.type c) = decide (a = c) := by
      by_cases h : a = c
      · subst h; simp
      · rw [decide_eq_false h]; exact beq_eq_false_iff_ne.mpr fun q => h (by injection q)
    exact ⟨fun {Q} h => wpAny_is_plain rfl (by rw [e]; exact h), fun {Q} h => wpAny_isNot_plain rfl (by rw [e]; exact h)⟩
  · cases he
theorem in_ok {x : PV} {ys : List PV} {rx ry : Value} {b : Bool} (he : zbz x ys = some b) (hx : VR s.heap O x rx) (hy : VR s.heap O (.list ys) ry) (hu : A.units + 64 < cLine) :
    (∀ {Q : Value → Shared → Prop}, Q (.bool b) s → wpAny (model prog w) A (compareOp .In rx ry) Q E s) ∧ (∀ {Q : Value → Shared → Prop}, Q (.bool !b) s → wpAny (model prog w) A (compareOp .NotIn rx ry) Q E s) := by
  unfold zbz at he
  split at he
  · rename_i hp
    cases he
    simp only [Bool.and_eq_true] at hp; obtain ⟨as, ra⟩ := zdg 8 x rx hx hp.1; have la := zet 8 x rx hx hp.1; obtain ⟨_, a, vs, rfl, _, _, hl, hxs⟩ := hy; obtain ⟨o, ho, hc, k, hd⟩ := hl.isList; obtain ⟨bs, rb⟩ := ze2 8 ys vs hxs hp.2; have lb := ze1 8 ys vs hxs hp.2; have l2 := lb.2; have l1 := la.2; have hmin : min (PyData.depthAll (za9 ys)) (zbg x).depth ≤ 8 := Nat.le_trans (Nat.min_le_left _ _) l2; exact ⟨fun {Q} h => SeqAt.in_list_reads (.list ho hc hd rb) ra lb.1 la.1 (by omega) h, fun {Q} h => SeqAt.notIn_list_reads (.list ho hc hd rb) ra lb.1 la.1 (by omega) h⟩
  · cases he
theorem int_ok {x : PV} {ys : List PV} {rx ry : Value} {b : Bool} {Q : Value → Shared → Prop} (he : zbz x ys = some b) (hx : VR s.heap O x rx) (hy : VR s.heap O (.tup ys) ry) (hu : A.units + 64 < cLine)
    (h : Q (.bool b) s) : wpAny (model prog w) A (compareOp .In rx ry) Q E s := by
  unfold zbz at he
  split at he
  · rename_i hp
    cases he
    simp only [Bool.and_eq_true] at hp; obtain ⟨as, ra⟩ := zdg 8 x rx hx hp.1; have la := zet 8 x rx hx hp.1; obtain ⟨_, a, vs, rfl, _, _, ⟨o, ho, hc, k, hd⟩, hxs⟩ := hy; obtain ⟨bs, rb⟩ := ze2 8 ys vs hxs hp.2; have lb := ze1 8 ys vs hxs hp.2; have l2 := lb.2; have hmin : min (PyData.depthAll (za9 ys)) (zbg x).depth ≤ 8 := Nat.le_trans (Nat.min_le_left _ _) l2; exact SeqAt.in_tuple_reads (.tuple ho hc hd rb) ra lb.1 la.1 (by omega) h
  · cases he
theorem mem_str (c : Nat) (l : List Nat) : (!(Builtin.Str.occurrences (⟨l.toArray⟩ : Str) ⟨#[c]⟩ 0 (⟨l.toArray⟩ : Str).length 1).isEmpty) = decide (c ∈ l) := by
  rw [show (⟨#[c]⟩ : Str) = ⟨#[c]⟩ from rfl, StrLaws.found_one]
theorem cmp_ok {op : CmpOp} {x y : PV} {rx ry : Value} {b : Bool} {Q : Value → Shared → Prop} (he : zae op x y = some b) (hx : VR s.heap O x rx) (hy : VR s.heap O y ry) (hu : A.units + 64 < cLine)
    (hQ : Q (.bool b) s) : wpAny (model prog w) A (compareOp op rx ry) Q E s := by
  unfold zae at he
  split at he
  · exact (eqv_ok he hx hy hu).1 hQ
  · obtain ⟨b', h1, rfl⟩ := Option.map_eq_some_iff.mp he; exact (eqv_ok h1 hx hy hu).2 hQ
  · obtain ⟨t, rfl⟩ := hx; obtain ⟨u, rfl⟩ := hy; cases he; exact PyProof.Rows.lt_int hQ
  · obtain ⟨t, rfl⟩ := hx; obtain ⟨u, rfl⟩ := hy; cases he; exact PyProof.Rows.le_int hQ
  · obtain ⟨t, rfl⟩ := hx; obtain ⟨u, rfl⟩ := hy; cases he; exact PyProof.Rows.gt_int hQ
  · obtain ⟨t, rfl⟩ := hx; obtain ⟨u, rfl⟩ := hy; cases he; exact PyProof.Rows.ge_int hQ
  · obtain ⟨_, t, rfl⟩ := hx; obtain ⟨_, u, rfl⟩ := hy; cases he; exact PyProof.Rows.lt_str (by simpa using hQ)
  · obtain ⟨_, t, rfl⟩ := hx; obtain ⟨_, u, rfl⟩ := hy; cases he; exact P.gt_str (by simpa using hQ)
  · exact (is_ok he hx hy).1 hQ
  · obtain ⟨b', h1, rfl⟩ := Option.map_eq_some_iff.mp he; exact (is_ok h1 hx hy).2 hQ
  · obtain ⟨_, t, rfl⟩ := hx; obtain ⟨_, u, rfl⟩ := hy; cases he; exact PyProof.Rows.in_str (by rw [mem_str]; exact hQ)
  · obtain ⟨_, t, rfl⟩ := hx; obtain ⟨_, u, rfl⟩ := hy; cases he; exact PyProof.Rows.notIn_str (by rw [mem_str]; exact hQ)
  · exact (in_ok he hx hy hu).1 hQ
  · obtain ⟨b', h1, rfl⟩ := Option.map_eq_some_iff.mp he; exact (in_ok h1 hx hy hu).2 hQ
  · exact int_ok he hx hy hu hQ
  · cases he
theorem zgw {x : PV} {rx : Value} {b : Bool} {Q : Bool → Shared → Prop} (he : truthy x = some b) (hx : VR s.heap O x rx)
    (hQ : ∀ s', Kp hb s s' → Q b s') : wpAny (model prog w) A (PySem.truthy rx) Q E s := by
  unfold truthy at he
  split at he
  · rw [show rx = _ from hx]; cases he; exact PyProof.Rows.truthy_none (hQ _ (.refl ..))
  · rw [show rx = _ from hx]; cases he; exact wpAny_truthy_bool (hQ _ (.refl ..))
  · obtain ⟨t, rfl⟩ := hx; cases he; rename_i i; refine PyProof.Rows.truthy_int ?_; have e : (i != 0) = decide (i ≠ 0) := by
      by_cases h : i = 0 <;> simp [h]
    rw [e]; exact hQ _ (.refl ..)
  · rename_i l; obtain ⟨z, t, rfl⟩ := hx; cases he; have h1 := z.1; have h2 : small = 1048576 := rfl; refine PySem.P.truthy_str ?_ ?_
    · show ¬ ((l.toArray.size : Nat) : Int) ≥ 2 ^ 63; rw [List.size_toArray]; omega
    · have e : (((⟨l.toArray⟩ : Str).length : Int) != 0) = !l.isEmpty := by
        show (((l.toArray.size : Nat) : Int) != 0) = _; rw [List.size_toArray]
        cases l with
        | nil => rfl
        | cons a r => simp [List.length_cons]; omega
      rw [e]; exact hQ _ .tok
  · rename_i l; obtain ⟨z, a, vs, rfl, _, _, hl, hx⟩ := hx; cases he; have hl := hl.isList; have h2 : small = 1048576 := rfl; have h3 := hx.length; refine wpAny_truthy_list hl (by rw [List.size_toArray]; omega) ?_; have e : (!vs.toArray.isEmpty) = !l.isEmpty := by
      cases l <;> cases vs <;> simp_all
    rw [e]; exact hQ _ .tok
  · rename_i l; obtain ⟨z, a, vs, rfl, _, _, hl, hx⟩ := hx; cases he; have h2 : small = 1048576 := rfl; have h3 := hx.length; refine PyProof.Rows.truthy_tuple hl (by rw [List.size_toArray]; omega) ?_; have e : (!vs.toArray.isEmpty) = !l.isEmpty := by
      cases l <;> cases vs <;> simp_all
    rw [e]; exact hQ _ .tok
  · cases he
theorem zh2 {xs : List PV} {a : Addr} {vs : List Value} {Q : Bool → Shared → Prop} (hl : s.heap.IsList a vs.toArray) (hx : VRs s.heap O xs vs) (hz : xs.length ≤ small)
    (hQ : ∀ s', Kp hb s s' → Q (!xs.isEmpty) s') : wpAny (model prog w) A (PySem.truthy (.ref a)) Q E s := by
  have h2 : small = 1048576 := rfl; have h3 := hx.length; refine wpAny_truthy_list hl (by rw [List.size_toArray]; omega) ?_; have e : (!vs.toArray.isEmpty) = !xs.isEmpty := by
    cases xs <;> cases vs <;> simp_all
  rw [e]; exact hQ _ .tok
theorem ze8 {n : Nat} {i : Int} {k : Nat} (h : za8 n i = some k) : seqIndex? i n = some k ∧ k < n ∧ -(n : Int) ≤ i ∧ i < n := by
  unfold za8 at h; unfold seqIndex?
  split at h
  · split at h
    · cases h
      rename_i h1 h2; have h3 : ¬ i < 0 := by omega
      simp only [h3, if_false]; refine ⟨by simp [h1, h2], by omega, by omega, h2⟩
    · cases h
  · split at h
    · cases h
      rename_i h1 h2; have h3 : i < 0 := by omega
      simp only [h3, if_true]; have h4 : (0 : Int) ≤ i + n := by omega
      have h5 : i + n < n := by omega
      refine ⟨?_, by omega, h2, by omega⟩; simp [h4, h5, Int.add_comm]
    · cases h
theorem list_item {a : Addr} {xs : List PV} {vs : List Value} {i : Int} {t : Tok} {k : Nat} {v : PV} {Q : Value → Shared → Prop} (hl : s.heap.IsList a vs.toArray) (hx : VRs s.heap O xs vs) (hz : xs.length ≤ small)
    (hk : za8 xs.length i = some k) (hv : xs[k]? = some v) (hQ : ∀ rv, VR s.heap O v rv → Q rv s) : wpAny (model prog w) A (getItem (.ref a) (.int i t)) Q E s := by
  have h2 : small = 1048576 := rfl; have h3 := hx.length; obtain ⟨rv, h4, h5⟩ := hx.get hv; obtain ⟨h6, h7, h8, h9⟩ := ze8 hk; unfold seqIndex? at h6; by_cases h : i < 0
  · simp only [h, if_true] at h6
    split at h6
    · cases h6
      refine wpAny_getItem_list_neg hl h (by rw [List.size_toArray, h3]; omega) (by omega) (x := rv) ?_ (hQ _ h5); rw [List.size_toArray, h3, List.getElem?_toArray]; exact h4
    · cases h6
  · simp only [h, if_false] at h6
    split at h6
    · cases h6
      refine wpAny_getItem_list hl (by omega) (by omega) (x := rv) ?_ (hQ _ h5); rw [List.getElem?_toArray]; exact h4
    · cases h6
theorem idx_ok {x y v : PV} {rx ry : Value} {Q : Value → Shared → Prop} (he : zan x y = some v) (hx : VR s.heap O x rx) (hy : VR s.heap O y ry)
    (hQ : ∀ rv s', Kp hb s s' → VR s'.heap O v rv → Q rv s') : wpAny (model prog w) A (getItem rx ry) Q E s := by
  unfold zan at he
  split at he
  · rename_i l i; obtain ⟨z, t, rfl⟩ := hx; obtain ⟨u, rfl⟩ := hy
    split at he
    · rename_i k hk; obtain ⟨c, hc, rfl⟩ := Option.map_eq_some_iff.mp he; obtain ⟨h6, h7, h8, h9⟩ := ze8 hk; have h2 : small = 1048576 := rfl; have h1 := z.1; refine PyProof.Rows.getItem_str (c := c) ?_ ?_ (hQ _ _ .tok ?_)
      · simp only [Bool.or_eq_false_iff, decide_eq_false_iff_not]; omega
      · show (seqIndex? i l.toArray.size).bind (l.toArray[·]?) = some c; rw [List.size_toArray, h6]; simpa using hc
      · exact ⟨⟨by simp [small], fun d hd => by rw [List.mem_singleton.mp hd]; exact z.2 c (List.mem_of_getElem? hc)⟩, _, rfl⟩
    · cases he
  · rename_i l i; obtain ⟨z, a, vs, rfl, _, _, hl, hx⟩ := hx; obtain ⟨u, rfl⟩ := hy; have hl := hl.isList
    split at he
    · rename_i k hk; exact list_item hl hx z hk he fun rv h => hQ _ _ (.refl ..) h
    · cases he
  · rename_i l i; obtain ⟨z, a, vs, rfl, _, _, hl, hx⟩ := hx; obtain ⟨u, rfl⟩ := hy
    split at he
    · rename_i k hk; obtain ⟨rv, h4, h5⟩ := hx.get he; obtain ⟨h6, h7, h8, h9⟩ := ze8 hk; have h3 := hx.length; have h2 : small = 1048576 := rfl; refine PyProof.Rows.getItem_tuple hl (by omega) (by omega) (j := k) (x := rv) (by rw [List.size_toArray, h3]; exact h6) (by rw [List.getElem?_toArray]; exact h4) (hQ _ _ (.refl ..) h5)
    · cases he
  · cases he
def partOf (x : PV) (v : Value) : Prop := match x with
  | .nul => v = .none
  | .int i => ∃ t, v = .int i t
  | _ => False
theorem part_of {x : PV} {h : Heap} {v : Value} {n d k : Nat} (hb : zbw n d x = some k) (r : VR h O x v) : ∃ p : Option Int, IsPart v p ∧ (∃ q : Option (Int × Tok), v = partValue q ∧ q.map (·.1) = p) ∧
    (match p with | none => d | some i => zaz n i) = k := by
  cases x with
  | nul => rw [show v = _ from r]; cases hb; exact ⟨none, .none, ⟨none, rfl, rfl⟩, rfl⟩
  | int i => obtain ⟨t, e⟩ := r; rw [e]; cases hb; exact ⟨some i, .int i t, ⟨some (i, t), rfl, rfl⟩, rfl⟩
  | _ => simp [zbw] at hb
theorem clip_eq (n : Nat) (i : Int) : max 0 (min (if i < 0 then i + n else i) n) = ((min (zaz n i) n : Nat) : Int) := by
  unfold zaz
  split <;> omega
theorem cut_min {α : Type} (xs : List α) (a b : Nat) : (xs.drop (min a xs.length)).take (min b xs.length - min a xs.length) = cut xs a b := by
  unfold cut; rw [← List.drop_take, List.take_eq_take_min (i := b)]; by_cases h : a ≤ xs.length
  · rw [Nat.min_eq_left h]
  · rw [List.drop_eq_nil_of_le (by simp; omega), List.drop_eq_nil_of_le (by simp; omega)]
theorem slicePick_cut (items : List Value) (lo hi : Option Int) {a b : Nat} (ha : (match lo with | none => 0 | some i => zaz items.length i) = a) (hb : (match hi with | none => items.length | some i => zaz items.length i) = b) :
    slicePick items.toArray lo hi none = (cut items a b).toArray := by
  have e : sliceBounds lo hi none items.toArray.size = (((min a items.length : Nat) : Int), ((min b items.length : Nat) : Int), (1 : Int)) := by
    unfold sliceBounds; simp only [Option.getD_none, show (1 : Int) > 0 by decide, if_true, List.size_toArray]; subst ha hb; congr 1
    · cases lo with
      | none => simp
      | some i => exact clip_eq _ _
    · congr 1
      cases hi with
      | none => simp
      | some i => exact clip_eq _ _
  unfold slicePick; rw [e]; simp only [sliceRange_one, pick_run, cut_min]
theorem strIdx_cut (l : List Nat) (lo hi : Option Int) {a b : Nat} (ha : (match lo with | none => 0 | some i => zaz l.length i) = a) (hb : (match hi with | none => l.length | some i => zaz l.length i) = b) :
    (Builtin.Str.strSliceIndices lo hi 1 l.length) = (List.range (min b l.length - min a l.length)).map (min a l.length + ·) := by
  rw [← sliceRange_one]; unfold Builtin.Str.strSliceIndices; simp only [show (1 : Int) > 0 by decide, if_true]; subst ha hb; congr 1
  · cases lo with
    | none => simp
    | some i => exact clip_eq _ _
  · cases hi with
    | none => simp
    | some i => exact clip_eq _ _
theorem VRs.cut {h : Heap} {xs : List PV} {vs : List Value} (r : VRs h O xs vs) (a b : Nat) : VRs h O (Mine.cut xs a b) (Mine.cut vs a b) := (r.take b).drop a
theorem zhk {α : Type} (xs : List α) (a b : Nat) : (cut xs a b).length ≤ xs.length := by
  unfold cut; rw [List.length_drop, List.length_take]; omega
theorem cut_mem {α : Type} {xs : List α} {a b : Nat} {x : α} (h : x ∈ cut xs a b) : x ∈ xs := List.mem_of_mem_take (List.mem_of_mem_drop h)
theorem cut_whole {α : Type} {xs : List α} {a b : Nat} (h : (cut xs a b).length = xs.length) : cut xs a b = xs :=
  List.Sublist.eq_of_length ((List.drop_sublist _ _).trans (List.take_sublist _ _)) h
theorem slc_ok {x y z v : PV} {rx ry rz : Value} {Q : Value → Shared → Prop} (he : zas x y z = some v) (xc : XC hb O s) (hx : VR s.heap O x rx) (hy : VR s.heap O y ry) (hz : VR s.heap O z rz)
    (hQ : ∀ rv s', Kp hb s s' → VR s'.heap O v rv → Q rv s') :
    wpAny (model prog w) A (getItem rx (.ref s.heap.objs.size)) Q E { s with heap := s.heap.push { cls := .type "slice", data := .fields #[ry, rz, .none] } } := by
  unfold zas at he
  split at he
  · rename_i l; obtain ⟨zz, t, rfl⟩ := hx
    split at he
    · rename_i a b ha hb'
      cases he
      obtain ⟨p1, _, ⟨q1, e1, m1⟩, k1⟩ := part_of ha hy; obtain ⟨p2, _, ⟨q2, e2, m2⟩, k2⟩ := part_of hb' hz; refine wpAny_getItem_str_slice (l := q1) (u := q2) (st := none) ⟨_, Heap.get?_push_size _ rfl, rfl, by rw [e1, e2]; rfl⟩ rfl ?_; have hi : slicePicked (⟨l.toArray⟩ : Str) q1 q2 none = (List.range (min b l.length - min a l.length)).map (min a l.length + ·) := by
        unfold slicePicked; rw [m1, m2]; show Builtin.Str.strSliceIndices p1 p2 1 l.toArray.size = _; rw [List.size_toArray]; exact strIdx_cut l p1 p2 k1 k2
      have hf : ((slicePicked (⟨l.toArray⟩ : Str) q1 q2 none).filterMap (l.toArray[·]?)) = cut l a b := by
        rw [hi, pick_run, cut_min]
      have hlen : (slicePicked (⟨l.toArray⟩ : Str) q1 q2 none).length = (cut l a b).length := by
        rw [hi, ← cut_min, List.length_map, List.length_range, List.length_take, List.length_drop]; omega
      have zc : okS (cut l a b) := okS_sub zz (zhk ..) fun c hc => cut_mem hc
      unfold sliceMade
      split
      · rename_i hw; simp only [Bool.and_eq_true, beq_iff_eq] at hw; have hw2 := hw.2; rw [hlen] at hw2; have e : cut l a b = l := cut_whole (hw2.trans (by show l.toArray.size = _; rw [List.size_toArray])); rw [e] at hQ; exact hQ _ _ .push ⟨zz, t, rfl⟩
      · refine ⟨?_, hQ _ _ .push ⟨zc, s.toks, ?_⟩⟩
        · show (List.toArray _).size ≤ sizeLine; rw [List.size_toArray, hf]; exact Nat.le_trans zc.1 zbb
        · show Value.str ⟨List.toArray _⟩ _ = _; rw [hf]
    · cases he
  · rename_i l; obtain ⟨zl, la, vs, rfl, _, _, hl, hxs⟩ := hx; have hl := hl.isList
    split at he
    · rename_i a b ha hb'
      cases he
      have h3 := hxs.length; obtain ⟨p1, i1, _, k1⟩ := part_of ha hy; obtain ⟨p2, i2, _, k2⟩ := part_of hb' hz; refine wpAny_getItem_list_slice (hl.push _) (Heap.IsSliceOf.new ..) i1 i2 .none (by simp) ?_ (by rw [List.size_toArray, h3]; exact Nat.le_trans zl zbb); rw [slicePick_cut vs p1 p2 (a := a) (b := b) (by rw [h3]; exact k1) (by rw [h3]; exact k2)]; have k : Kp hb s { s with heap := s.heap.push { cls := .type "slice", data := .fields #[ry, rz, .none] } } := .push (tk := s.toks); exact hQ _ _ (k.trans (.push (tk := s.toks))) (zf1 (xc.kp k) ((hxs.cut a b).kp k) (Nat.le_trans (zhk ..) zl))
    · cases he
  · cases he
end
end Mine
namespace Mine
open PySem PyProof.Rows PySem.Spec
section
variable {prog : Program} {w : World} {A : Around} {E : Value → Shared → Prop} {s : Shared} {hb : HB} {O : Addr → Prop}
theorem zgb {h : Heap} : ∀ {xs : List PV} {vs : List Value} {l : List (List Nat)}, zb6? xs = some l → VRs h O xs vs → StrsAre vs (l.map fun x => ⟨x.toArray⟩) ∧ (∀ x ∈ l, okS x) ∧ l.length = xs.length
  | [], vs, l, e, r => by cases e; rw [show vs = _ from r]; exact ⟨.nil, (by intro x h; cases h), rfl⟩
  | x :: xs, vs, l, e, ⟨v, r', hv, h1, h2⟩ => by
    cases x with
    | str a =>
      obtain ⟨l', e', rfl⟩ := Option.map_eq_some_iff.mp e
      obtain ⟨z, t, rfl⟩ := h1
      obtain ⟨q1, q2, q3⟩ := zgb e' h2
      rw [hv]
      exact ⟨.cons _ t q1, fun x hx => by rcases List.mem_cons.mp hx with rfl | hx; exact z; exact q2 x hx, by simp [q3]⟩
    | _ => simp [zb6?] at e
theorem strs_of {h : Heap} : ∀ {vs : List Value} {ss : List Str}, StrsAre vs ss → (∀ x ∈ ss, okS x.cps.toList) → VRs h O (ss.map fun x => PV.str x.cps.toList) vs
  | _, _, .nil, _ => rfl
  | _, _, .cons y t r, k => ⟨_, _, rfl, ⟨k y (.head _), t, rfl⟩, strs_of r fun x hx => k x (.tail _ hx)⟩
theorem lt_cps : ∀ (a b : List Nat), ltCps a b = decide (a < b)
  | [], [] => by simp [ltCps]
  | [], _ :: _ => by simp [ltCps]
  | _ :: _, [] => by simp [ltCps]
  | a :: r, b :: t => by
    rw [ltCps, lt_cps r t]; by_cases h1 : a < b
    · simp [h1, List.cons_lt_cons_iff]
    · by_cases h2 : a = b
      · subst h2; simp [List.cons_lt_cons_iff]
      · simp [h1, h2, List.cons_lt_cons_iff]
theorem zgl (x : List Nat) : ∀ l : List (List Nat), (insS x l).Perm (x :: l)
  | [] => .refl _
  | y :: ys => by
    unfold insS
    split
    · exact .refl _
    · exact ((zgl x ys).cons y).trans (.swap x y ys)
theorem zf9 : ∀ l : List (List Nat), (zdi l).Perm l
  | [] => .refl _
  | x :: xs => (zgl x (zdi xs)).trans ((zf9 xs).cons x)
theorem zg7 (x : List Nat) : ∀ l : List (List Nat), l.Pairwise (fun a b => ¬ b < a) → (insS x l).Pairwise (fun a b => ¬ b < a)
  | [], _ => by simp [insS]
  | y :: ys, h => by
    unfold insS; obtain ⟨h1, h2⟩ := List.pairwise_cons.mp h
    split
    · rename_i hxy; refine List.pairwise_cons.mpr ⟨fun z hz => ?_, h⟩
      rcases List.mem_cons.mp hz with rfl | hz
      · exact fun q => List.lt_irrefl _ (List.lt_trans hxy q)
      · exact fun q => h1 z hz (List.lt_trans q hxy)
    · rename_i hxy; refine List.pairwise_cons.mpr ⟨fun z hz => ?_, zg7 x ys h2⟩
      rcases List.mem_cons.mp ((zgl x ys).mem_iff.mp hz) with rfl | hz
      · exact hxy
      · exact h1 z hz
theorem zgs : ∀ l : List (List Nat), (zdi l).Pairwise (fun a b => ¬ b < a)
  | [] => .nil
  | x :: xs => zg7 x _ (zgs xs)
theorem zga {l l' : List (List Nat)} (p : l'.Perm l) (h : l'.Pairwise (fun a b => ¬ b < a)) : l' = zdi l :=
  List.Perm.eq_of_pairwise (le := fun a b => ¬ b < a) (fun a b _ _ h1 h2 => by
    exact List.le_antisymm (List.not_lt.mp h1) (List.not_lt.mp h2)) h (zgs l) (p.trans (zf9 l).symm)
theorem zgr : ∀ (p : Str) (l : List Str), risingS p l = true → (p.cps.toList :: l.map (·.cps.toList)).Pairwise (fun a b => ¬ b < a)
  | p, [], _ => by simp
  | p, x :: r, h => by
    unfold risingS at h; simp only [Bool.and_eq_true, Bool.not_eq_true', lt_cps, decide_eq_false_iff_not] at h; have ih := zgr x r h.2; refine List.pairwise_cons.mpr ⟨fun z hz => ?_, ih⟩
    rcases List.mem_cons.mp hz with rfl | hz
    · exact h.1
    · have h2 := (List.pairwise_cons.mp ih).1 z hz; exact fun q => h.1 (List.lt_of_le_of_lt (List.not_lt.mp h2) q)
theorem sortedS_pairs {l : List Str} (h : sortedS l = true) : (l.map (·.cps.toList)).Pairwise (fun a b => ¬ b < a) := by
  cases l with
  | nil => exact .nil
  | cons x r => exact zgr x r h
def valB (xs : List PV) (i : Nat) : Int := match xs[i]? with | some (.bool true) => 1 | _ => 0
theorem zg9 (f : Nat → Int) : ∀ n : Nat, preSum f (n + 1) = f 0 + preSum (fun i => f (i + 1)) n
  | 0 => by simp [preSum]
  | n + 1 => by rw [preSum, zg9 f n, preSum]; omega
theorem sumB_pre : ∀ (xs : List PV) (t : Int), sumB xs = some t → preSum (valB xs) xs.length = t ∧ ∀ x ∈ xs, ∃ b, x = .bool b
  | [], t, h => by cases h; exact ⟨rfl, fun _ h => nomatch h⟩
  | x :: xs, t, h => by
    cases x with
    | bool b =>
      obtain ⟨t', h', rfl⟩ := Option.map_eq_some_iff.mp h
      obtain ⟨q1, q2⟩ := sumB_pre xs t' h'
      refine ⟨?_, fun x hx => by rcases List.mem_cons.mp hx with rfl | hx; exact ⟨b, rfl⟩; exact q2 x hx⟩
      rw [List.length_cons, zg9, ← q1]
      congr 1
      · cases b <;> rfl
    | _ => simp [sumB] at h
theorem callB_ok {f : String} {args : List PV} {rvs : List Value} {v : PV} {Q : Value → Shared → Prop} (he : zb3 f args = some v) (hA : A.handled = none) (xc : XC hb O s) (hx : VRs s.heap O args rvs)
    (hQ : ∀ rv s', Kp hb s s' → VR s'.heap O v rv → Q rv s') : wpAny (model prog w) A (call (.builtin f) rvs) Q E s := by
  have h2 : small = 1048576 := rfl; unfold zb3 at he
  split at he
  · rename_i l; obtain ⟨_, _, rfl, ⟨z, t, rfl⟩, rfl⟩ := hx; cases he; have h1 := z.1; refine PyProof.Rows.len_str ?_ ?_
    · show ¬ ((l.toArray.size : Nat) : Int) ≥ 2 ^ 63; rw [List.size_toArray]; omega
    · refine hQ _ _ .tok ⟨s.toks + 1, ?_⟩; show Value.int ((l.toArray.size : Nat) : Int) _ = _; rw [List.size_toArray]
  · rename_i l; obtain ⟨_, _, rfl, ⟨z, a, vs, rfl, _, _, hl, hx⟩, rfl⟩ := hx; cases he; have hl := hl.isList; have h3 := hx.length; refine PyProof.Rows.len_list hl (by rw [List.size_toArray]; omega) ?_; refine hQ _ _ .tok ⟨s.toks + 1, ?_⟩; rw [List.size_toArray, h3]
  · rename_i l; obtain ⟨_, _, rfl, ⟨z, a, vs, rfl, _, _, hl, hx⟩, rfl⟩ := hx; have hl := hl.isList; obtain ⟨t, ht, rfl⟩ := Option.map_eq_some_iff.mp he; obtain ⟨q1, q2⟩ := sumB_pre l t ht; have h3 := hx.length; have hne : a ≠ s.heap.objs.size := fun e => by
      obtain ⟨o, ho, _⟩ := hl; exact Nat.lt_irrefl _ (e ▸ Heap.lt_size ho)
    refine call_sum_walkAnyB (wpAny_pyIter_list hl ?_); refine ⟨_, _, _, _, _, _, _, valB l, rfl, (Walks.list (A := A.in1) (by rw [Around.in1_handled]; exact hA) s.heap.objs.size a hne vs.toArray).toS, ⟨⟨_, Heap.get?_push_size _ rfl, rfl, rfl⟩, hl.push _⟩, ?_, ?_, ?_⟩
    · intro b hb'; rw [Heap.size_push]; rcases List.mem_cons.mp hb' with rfl | hb'
      · exact Nat.lt_succ_self _
      · rw [List.mem_singleton.mp hb']; obtain ⟨o, ho, _⟩ := hl; exact Nat.lt_succ_of_lt (Heap.lt_size ho)
    · intro i v hv; rw [List.getElem?_toArray] at hv; have hi : i < l.length := by
        have := (List.getElem?_eq_some_iff.mp hv).1; omega
      obtain ⟨v', e1, e2⟩ := hx.get (List.getElem?_eq_getElem hi); rw [hv] at e1; cases e1; obtain ⟨b, eb⟩ := q2 _ (List.getElem_mem hi); rw [eb] at e2; refine .inr ⟨b, e2, ?_⟩; unfold valB; rw [List.getElem?_eq_getElem hi, eb]
      cases b <;> rfl
    · intro s' t' hm; have e : preSum (valB l) vs.toArray.size = t := by rw [List.size_toArray, h3]; exact q1
      rw [e]; refine hQ _ _ ?_ ⟨_, rfl⟩; have kk : ∀ b o, s.heap.get? b = some o → s'.heap.get? b = some o := fun b o e => hm.heap b o (fun q => by
        rw [List.mem_singleton.mp q] at e; exact Nat.lt_irrefl _ (Heap.lt_size e)) (Heap.get?_push_of_some _ e)
      have eg : s'.gens = s.gens := hm.gens; exact ⟨.of_keeps kk, hm.os, fun g => ⟨g.hard.soft kk, g.tab.keeps kk, by rw [eg]; exact g.gens, g.fdS (.of_keeps kk)⟩⟩
  · rename_i l; obtain ⟨_, _, rfl, ⟨z, a, vs, rfl, _, _, hl, hx⟩, rfl⟩ := hx; have hl := hl.isList
    split at he
    · rename_i h64; obtain ⟨ls, hs, rfl⟩ := Option.map_eq_some_iff.mp he; obtain ⟨q1, q2, q3⟩ := zgb hs hx; have h3 := hx.length; refine sorted_strs hl q1 (by omega) fun out ss' a1 a2 a3 => ?_
      obtain ⟨e, he'⟩ := sortedAll_at s.heap vs out; have kp : Kp hb s { s with heap := sortedAll s.heap vs out } := .keeps (tk := s.toks) fun _ _ => sortedAll_old
      have e1 : ss'.map (·.cps.toList) = zdi ls := by
        refine zga ?_ (sortedS_pairs a3); have := a2.map (·.cps.toList); rw [List.map_map] at this; have e2 : (List.map ((fun x => x.cps.toList) ∘ fun x => ({ cps := x.toArray } : Str)) ls) = ls := by
          conv => rhs; rw [← List.map_id ls]
          exact List.map_congr_left fun x _ => by simp
        rwa [e2] at this
      have ok : ∀ x ∈ ss', okS x.cps.toList := fun x hx' => by
        have := a2.mem_iff.mp hx'; obtain ⟨y, hy, rfl⟩ := List.mem_map.mp this; simpa using q2 y hy
      have r := strs_of (O := O) (h := sortedAll s.heap vs out) a1 ok; have e3 : ss'.map (fun x => PV.str x.cps.toList) = (zdi ls).map .str := by rw [← e1, List.map_map]; rfl
      rw [e3] at r; refine hQ _ _ kp ⟨?_, _, out.toList, rfl, ?_, ?_, ⟨e, he'⟩, r⟩
      · rw [List.length_map, (zf9 ls).length_eq]; omega
      · exact fun q => by
          have := xc.gs.tab.lt; rw [← q] at this; exact absurd this (Nat.not_lt.mpr (Nat.le_succ _))
      · exact fun q => by
          obtain ⟨_, o, e⟩ := xc.ok _ q; exact absurd (Heap.lt_size e) (Nat.not_lt.mpr (Nat.le_succ _))
    · cases he
  · obtain ⟨_, _, rfl, ⟨z, t, rfl⟩, _, _, rfl, rfl, rfl⟩ := hx; cases he; exact call_isinstance_yes (Tx := "str") rfl PyProof.Rows.meta_str isSubtype_str_str (hQ _ _ (.refl ..) rfl)
  · cases he
theorem callT_ok {f : String} {args : List PV} {rvs : List Value} {v : PV} {Q : Value → Shared → Prop} (he : callT f args = some v) (xc : XC hb O s) (hx : VRs s.heap O args rvs)
    (hQ : ∀ rv s', Kp hb s s' → VR s'.heap O v rv → Q rv s') : wpAny (model prog w) A (call (.type f) rvs) Q E s := by
  have h2 : small = 1048576 := rfl; unfold callT at he
  split at he
  · rename_i l; obtain ⟨_, _, rfl, ⟨z, a, vs, rfl, ha, hO, hl, hx⟩, rfl⟩ := hx; cases he; obtain ⟨o, ho, hc, n, hd⟩ := hl.isList; have h3 := hx.length; refine call_list_seq a (.inl rfl) ho hc hd (fun h' c' k hn => ?_) (by rw [List.size_toArray, h3]; exact Nat.le_trans z zbb)
    exact hQ _ _ (.keeps (tk := s.toks) k) ⟨z, _, vs, rfl, xc.off, xc.fresh, ⟨_, hn⟩, hx.soft (.of_keeps k)⟩
  · obtain ⟨_, _, rfl, rfl, rfl⟩ := hx; cases he; exact call_type_of (Tx := "bool") rfl (by decide) (hQ _ _ (.refl ..) rfl)
  · cases he
end
end Mine
namespace Mine
open PySem PyProof.Rows PySem.Spec
theorem zfp {a b : Str} (h : a.cps.toList = b.cps.toList) : a = b := Str.ext' (Array.toList_inj.mp h)
theorem str_mk (x : Str) : (⟨x.cps.toList.toArray⟩ : Str) = x := zfp (by simp)
theorem zed (sep : Str) : ∀ texts : List Str, (Str.join sep texts).cps.toList = zap sep.cps.toList (texts.map fun x => x.cps.toList)
  | [] => by simp [Str.join, zap, Str.empty]
  | [x] => by simp [Str.join, zap]
  | x :: y :: r => by
    have ih := zed sep (y :: r); simp only [Str.join, Str.cps_append, Array.toList_append, List.map_cons, zap] at ih ⊢; rw [ih]
theorem joinS_length (sep : List Nat) : ∀ l : List (List Nat), (l.map (·.length)).sum ≤ (zap sep l).length
  | [] => by simp [zap]
  | [x] => by simp [zap]
  | x :: y :: r => by
    have ih := joinS_length sep (y :: r); simp only [zap, List.map_cons, List.sum_cons, List.length_append] at ih ⊢; omega
theorem zhm (sep : List Nat) : ∀ l : List (List Nat), (l.map (·.length)).sum + l.length * sep.length ≤ (zap sep l).length + sep.length
  | [] => by simp [zap]
  | [x] => by simp [zap]
  | x :: y :: r => by
    have ih := zhm sep (y :: r); simp only [zap, List.map_cons, List.sum_cons, List.length_append, List.length_cons] at ih ⊢; simp only [Nat.add_mul, Nat.one_mul] at ih ⊢; omega
theorem joinS_mem {sep : List Nat} {c : Nat} : ∀ {l : List (List Nat)}, c ∈ zap sep l → c ∈ sep ∨ ∃ x ∈ l, c ∈ x
  | [], h => by simp [zap] at h
  | [x], h => .inr ⟨x, .head _, h⟩
  | x :: y :: r, h => by
    simp only [zap, List.mem_append] at h; rcases h with (h | h) | h
    · exact .inr ⟨x, .head _, h⟩
    · exact .inl h
    · rcases joinS_mem h with h | ⟨z, hz, h⟩
      · exact .inl h
      · exact .inr ⟨z, .tail _ hz, h⟩
theorem zgt (c : Nat) : ∀ l, za4 c l ≠ []
  | [] => by simp [za4]
  | x :: xs => by
    unfold za4
    split
    · simp
    · split <;> simp
theorem ze9 (c : Nat) : ∀ l r, c ∉ l → za4 c (l ++ r) = (match za4 c r with | [] => [l] | w :: ws => (l ++ w) :: ws)
  | [], r, _ => by
    have := zgt c r; simp only [List.nil_append]
    split <;> simp_all
  | x :: xs, r, h => by
    have hx : ¬ x = c := fun e => h (by rw [e]; exact .head _)
    have ih := ze9 c xs r fun q => h (.tail _ q)
    simp only [List.cons_append, za4, hx, if_false, ih]; have := zgt c r
    split <;> split <;> simp_all
theorem zha (c : Nat) : ∀ l : List (List Nat), l ≠ [] → (∀ p ∈ l, c ∉ p) → za4 c (zap [c] l) = l
  | [], h, _ => absurd rfl h
  | [x], _, h => by
    have := ze9 c x [] (h x (.head _)); simpa [zap, za4] using this
  | x :: y :: r, _, h => by
    have ih := zha c (y :: r) (by simp) fun p hp => h p (.tail _ hp)
    have := ze9 c x (c :: zap [c] (y :: r)) (h x (.head _)); simp only [zap, List.append_assoc, List.singleton_append]; rw [this]; simp only [za4, if_true, ih]; simp
theorem zgu (x : Str) (c : Nat) : (Txt.split x ⟨#[c]⟩).map (·.cps.toList) = za4 c x.cps.toList := by
  have h1 := StrLaws.join_split x ⟨#[c]⟩; have h2 := StrLaws.split_free x c; have h3 := zed ⟨#[c]⟩ (Txt.split x ⟨#[c]⟩); rw [h1] at h3; have ne : (Txt.split x ⟨#[c]⟩) ≠ [] := by
    unfold Txt.split
    split
    · simp
    · split
      · simp
      · intro q; have := congrArg List.length q; rw [len_partsBetween] at this; simp at this
  rw [h3]; exact (zha c _ (by simpa using ne) fun p hp => by
    obtain ⟨q, hq, rfl⟩ := List.mem_map.mp hp; exact h2 q hq).symm
theorem zhq (c : Nat) (r : List Nat) : ∀ l, zbu c r l = zap r (za4 c l)
  | [] => by simp [zbu, za4, zap]
  | x :: xs => by
    have ih := zhq c r xs; have ne := zgt c xs; unfold zbu za4; by_cases h : x = c
    · simp only [h, if_true]
      cases hs : za4 c xs with
      | nil => exact absurd hs ne
      | cons w ws => rw [ih, hs]; simp [zap]
    · simp only [h, if_false]
      cases hs : za4 c xs with
      | nil => exact absurd hs ne
      | cons w ws =>
        rw [ih, hs]
        cases ws <;> simp [zap]
theorem replace_replC (x z : Str) (c : Nat) : (Txt.replace x ⟨#[c]⟩ z).cps.toList = zbu c z.cps.toList x.cps.toList := by
  rw [StrLaws.replace_one, zed, zgu, zhq]
theorem replC_mem {c d : Nat} {r : List Nat} : ∀ {l : List Nat}, d ∈ zbu c r l → d ∈ r ∨ d ∈ l
  | [], h => by simp [zbu] at h
  | x :: xs, h => by
    simp only [zbu, List.mem_append] at h; rcases h with h | h
    · split at h
      · exact .inl h
      · rw [List.mem_singleton.mp h]; exact .inr (.head _)
    · rcases replC_mem h with h | h
      · exact .inl h
      · exact .inr (.tail _ h)
theorem zfz : ∀ (a b : List Nat), zcv a b = (decide (a.length ≤ b.length) && (b.take a.length == a))
  | [], b => by simp [zcv]
  | a :: as, [] => by simp [zcv]
  | a :: as, b :: bs => by
    rw [zcv, zfz as bs]; simp only [List.length_cons, List.take_succ_cons]; by_cases h : a = b
    · subst h; simp
    · have h' : ¬ b = a := fun q => h q.symm
      have e1 : (a == b) = false := beq_eq_false_iff_ne.mpr h; have e2 : (b :: List.take as.length bs == a :: as) = false := by
        simp only [List.cons_beq_cons, beq_eq_false_iff_ne.mpr h', Bool.false_and]
      rw [e1, e2, Bool.false_and, Bool.and_false]
theorem starts_isPre (x y : Str) : Txt.startswith x y = zcv y.cps.toList x.cps.toList := by
  unfold Txt.startswith
  rw [zfz, StrLaws.subAt_eq]; simp [Str.length]
theorem ends_isPre (x y : Str) : Txt.endswith x y = zcv y.cps.toList.reverse x.cps.toList.reverse := by
  unfold Txt.endswith
  rw [zfz, StrLaws.subAt_eq]; simp only [List.length_reverse, Nat.zero_add, Str.length, Array.length_toList]; by_cases h : y.cps.size ≤ x.cps.size
  · rw [decide_eq_true h, Bool.true_and, Bool.true_and]; rw [List.take_reverse]; have e1 : (List.drop (x.cps.size - y.cps.size) x.cps.toList).length = y.cps.size := by
      rw [List.length_drop, Array.length_toList]; omega
    rw [List.take_of_length_le (by omega), Array.length_toList]; by_cases q : List.drop (x.cps.size - y.cps.size) x.cps.toList = y.cps.toList
    · rw [q]; simp
    · rw [beq_eq_false_iff_ne.mpr q, beq_eq_false_iff_ne.mpr fun e => q (by have := congrArg List.reverse e; simpa using this)]
  · rw [decide_eq_false h, Bool.false_and, Bool.false_and]
theorem zfx (c : Nat) : ∀ l : List Nat, (zdf c l = none ∧ c ∉ l) ∨ ∃ i, zdf c l = some i ∧ l[i]? = some c ∧ ∀ k, k < i → l[k]? ≠ some c
  | [] => .inl ⟨rfl, by simp⟩
  | x :: xs => by
    unfold zdf; by_cases h : x = c
    · exact .inr ⟨0, by simp [h], by simp [h], fun k hk => absurd hk (by omega)⟩
    · simp only [h, if_false]; rcases zfx c xs with ⟨h1, h2⟩ | ⟨i, h1, h2, h3⟩
      · exact .inl ⟨by simp [h1], by simp [h2]; exact fun q => h q.symm⟩
      · refine .inr ⟨i + 1, by simp [h1], by simpa using h2, fun k hk => ?_⟩
        cases k with
        | zero => simpa using h
        | succ k => simpa using h3 k (by omega)
theorem at_one (x : Str) (c i : Nat) : StrLaws.At x ⟨#[c]⟩ x.length i ↔ x.cps.toList[i]? = some c := StrLaws.subAt_one x c i
theorem find_findC (x : Str) (c : Nat) : Txt.find x ⟨#[c]⟩ = (match zdf c x.cps.toList with | some k => (k : Int) | none => -1) := by
  unfold Txt.find; rcases StrLaws.occ_head x ⟨#[c]⟩ 1 (Nat.le_refl _) with ⟨h1, h2⟩ | ⟨i, r, h1, h2, h3⟩
  · rw [h1]; rcases zfx c x.cps.toList with ⟨q1, q2⟩ | ⟨i, q1, q2, q3⟩
    · rw [q1]
    · exact absurd ((at_one x c i).mpr q2) (h2 i)
  · rw [h1]; rcases zfx c x.cps.toList with ⟨q1, q2⟩ | ⟨k, q1, q2, q3⟩
    · exact absurd (List.mem_of_getElem? ((at_one x c i).mp h2)) q2
    · rw [q1]; have : i = k := by
        rcases Nat.lt_trichotomy i k with q | q | q
        · exact absurd ((at_one x c i).mp h2) (q3 i q)
        · exact q
        · exact absurd ((at_one x c k).mpr q2) (h3 k q)
      rw [this]
end Mine
namespace Mine
open PySem PyProof.Rows PySem.Spec
structure MethW (T : String) (name : Str) (id : String) : Prop where
  pa : PlainAttrs T
  slot : PySem.Slot T name id
  hty : typeOf (.builtin id) = pure (.type "method_descriptor")
def noDict (h : Heap) (rv : Value) : Prop := ∀ a, rv = .ref a → ∃ ob, h.get? a = some ob ∧ ob.dict = none
theorem noDict_str {h : Heap} {x : Str} {t : Tok} : noDict h (.str x t) := fun _ e => nomatch e
section
variable {prog : Program} {w : World} {A : Around} {E : Value → Shared → Prop} {s : Shared} {hb : HB} {O : Addr → Prop}
theorem vals_of : ∀ {vs : List Value} {ss : List Str}, StrsAre vs ss → ∃ l : List (Str × Tok), vs = strValues l ∧ l.map (·.1) = ss
  | _, _, .nil => ⟨[], rfl, rfl⟩
  | _, _, .cons y t r => let ⟨l, e1, e2⟩ := vals_of r; ⟨(y, t) :: l, by rw [e1]; rfl, by rw [← e2]; rfl⟩
theorem of_vals : ∀ (l : List (Str × Tok)), StrsAre (strValues l) (l.map (·.1))
  | [] => .nil
  | (y, t) :: r => .cons y t (of_vals r)
theorem map_mk (ls : List (List Nat)) : (ls.map fun x => ({ cps := x.toArray } : Str)).map (fun x => x.cps.toList) = ls := by
  rw [List.map_map]
  conv => rhs; rw [← List.map_id ls]
  exact List.map_congr_left fun x _ => by simp
theorem join_ok {sep : List Nat} {xs : List PV} {l : List (List Nat)} {rx ry : Value} {Q : Value → Shared → Prop} (hs : zb6? xs = some l) (hz : (zap sep l).length ≤ small) (hx : VR s.heap O (.str sep) rx) (hy : VR s.heap O (.list xs) ry)
    (hQ : ∀ rv s', Kp hb s s' → VR s'.heap O (.str (zap sep l)) rv → Q rv s') : wpAny (model prog w) A (call (.builtin "str.join") [rx, ry]) Q E s := by
  obtain ⟨z, t, rfl⟩ := hx; obtain ⟨_, a, vs, rfl, _, _, hl, hxs⟩ := hy; obtain ⟨q1, q2, q3⟩ := zgb hs hxs; obtain ⟨lv, rfl, e2⟩ := vals_of q1; have h2 : small = 1048576 := rfl; have hlen := z.1; refine SC.join hl.isList e2 ?_ fun t' k => ?_
  · unfold JoinOk; rw [StrLaws.joinTotal]; have e3 : ((l.map fun x => ({ cps := x.toArray } : Str)).map (·.length)) = l.map (·.length) := by
      rw [List.map_map]; exact List.map_congr_left fun x _ => by simp [Str.length]
    rw [e3, List.length_map]; have h3 := zhm sep l; have e4 : (⟨sep.toArray⟩ : Str).length = sep.length := by simp [Str.length]
    rw [e4]; unfold Builtin.Str.tooLong sizeLine; simp only [Bool.not_eq_true', decide_eq_false_iff_not]; omega
  · refine hQ _ _ .tok ⟨⟨hz, fun c hc => ?_⟩, t', ?_⟩
    · rcases joinS_mem hc with h | ⟨x, hx, h⟩
      · exact z.2 c h
      · exact (q2 x hx).2 c h
    · congr 1; refine zfp ?_; show (Builtin.Str.glued _ _).cps.toList = _; rw [StrLaws.glued_eq_join, zed, map_mk]
theorem zgf (c : Nat) : ∀ l : List Nat, (za4 c l).length ≤ l.length + 1
  | [] => by simp [za4]
  | x :: xs => by
    have ih := zgf c xs; unfold za4
    split
    · simp; omega
    · split
      · simp
      · rename_i h; rw [h] at ih; simp at ih ⊢; omega
theorem zeg {c : Nat} : ∀ {l p : List Nat} {d : Nat}, p ∈ za4 c l → d ∈ p → d ∈ l
  | [], p, d, hp, hd => by simp [za4] at hp; rw [hp] at hd; cases hd
  | x :: xs, p, d, hp, hd => by
    unfold za4 at hp
    split at hp
    · rcases List.mem_cons.mp hp with rfl | hp
      · cases hd
      · exact .tail _ (zeg hp hd)
    · split at hp
      · rw [List.mem_singleton.mp hp] at hd; rw [List.mem_singleton.mp hd]; exact .head _
      · rename_i w ws h; rcases List.mem_cons.mp hp with rfl | hp
        · rcases List.mem_cons.mp hd with rfl | hd
          · exact .head _
          · exact .tail _ (zeg (l := xs) (p := w) (by rw [h]; exact .head _) hd)
        · exact .tail _ (zeg (l := xs) (by rw [h]; exact .tail _ hp) hd)
theorem zd7 {c : Nat} : ∀ {l p : List Nat}, p ∈ za4 c l → p.length ≤ l.length
  | [], p, hp => by simp [za4] at hp; simp [hp]
  | x :: xs, p, hp => by
    unfold za4 at hp
    split at hp
    · rcases List.mem_cons.mp hp with rfl | hp
      · simp
      · have := zd7 hp; simp; omega
    · split at hp
      · rw [List.mem_singleton.mp hp]; simp
      · rename_i w ws h; rcases List.mem_cons.mp hp with rfl | hp
        · have := zd7 (l := xs) (p := w) (by rw [h]; exact .head _); simp; omega
        · have := zd7 (l := xs) (p := p) (by rw [h]; exact .tail _ hp); simp; omega
theorem split_ok {l : List Nat} {c : Nat} {rx ry : Value} {Q : Value → Shared → Prop} (hz : l.length < small) (xc : XC hb O s) (hx : VR s.heap O (.str l) rx) (hy : VR s.heap O (.str [c]) ry)
    (hQ : ∀ rv s', Kp hb s s' → VR s'.heap O (.list ((za4 c l).map .str)) rv → Q rv s') : wpAny (model prog w) A (call (.builtin "str.split") [rx, ry]) Q E s := by
  obtain ⟨z, t, rfl⟩ := hx; obtain ⟨z2, u, rfl⟩ := hy; have h2 : small = 1048576 := rfl; have e0 : (⟨l.toArray⟩ : Str).length = l.length := by simp [Str.length]
  have e24 : sizeLine = 16777216 := by decide
  have key : ∀ (lv : List (Str × Tok)) (k : Nat), lv.map (·.1) = Txt.split ⟨l.toArray⟩ ⟨#[c]⟩ → Q (.ref s.heap.objs.size) { s with heap := s.heap.push { cls := .type "list", data := .seq (strValues lv).toArray }, toks := k } := fun lv k e1 => by
    have e2 : (lv.map (·.1)).map (fun x => x.cps.toList) = za4 c l := by rw [e1, zgu]
    have r : VRs s.heap O ((za4 c l).map .str) (strValues lv) := by
      have := strs_of (h := s.heap) (O := O) (of_vals lv) fun x hx => by
        have hm : x.cps.toList ∈ za4 c l := by rw [← e2]; exact List.mem_map_of_mem hx
        exact ⟨Nat.le_trans (zd7 hm) z.1, fun d hd => z.2 d (zeg hm hd)⟩
      rw [← e2, List.map_map]; exact this
    refine hQ _ _ .push (zf1 xc r ?_); rw [List.length_map]; exact Nat.le_trans (zgf c l) hz
  have hlen := StrLaws.occ_length_le (⟨l.toArray⟩ : Str) ⟨#[c]⟩ 0 (⟨l.toArray⟩ : Str).length ((⟨l.toArray⟩ : Str).length + 1); have hn : (Builtin.Str.partsBetween (⟨l.toArray⟩ : Str) (Builtin.Str.occurrences ⟨l.toArray⟩ ⟨#[c]⟩ 0 (⟨l.toArray⟩ : Str).length ((⟨l.toArray⟩ : Str).length + 1)) (⟨#[c]⟩ : Str).length).length ≤ sizeLine := by
    rw [len_partsBetween]; omega
  show wpAny _ _ (call (.builtin "str.split") [.str ⟨l.toArray⟩ t, .str ⟨#[c]⟩ u]) Q E s
  cases h1 : (decide ((⟨l.toArray⟩ : Str).length < (⟨#[c]⟩ : Str).length) || decide (Builtin.Str.strKind ⟨l.toArray⟩ < Builtin.Str.strKind ⟨#[c]⟩))
  · cases hf : (Builtin.Str.occurrences (⟨l.toArray⟩ : Str) ⟨#[c]⟩ 0 (⟨l.toArray⟩ : Str).length ((⟨l.toArray⟩ : Str).length + 1)).isEmpty
    · refine call_meets F.slot_str_split (typeIs_str _ _ _) F.entry_str_split (F.args_str_split_2 _ _) (meets_str_split_sep _ _ t u h1 rfl hf (by omega) hn) ?_; show wants Q E _ { s with toks := _, heap := s.heap.push { cls := .type "list", data := .seq (strsFrom s.toks (Builtin.Str.partsBetween _ (Builtin.Str.occurrences _ _ 0 _ _) _)).toArray } }; rw [strsFrom_eq]; exact key (numbered s.toks _) _ ((numbered_texts _ _).trans ((if_neg (ne_true_of_eq_false h1)).trans (if_neg (ne_true_of_eq_false hf))).symm)
    · exact call_meets F.slot_str_split (typeIs_str _ _ _) F.entry_str_split (F.args_str_split_2 _ _) (meets_str_split_not_found _ _ t u h1 rfl hf)
        (key [(_, t)] s.toks ((if_neg (ne_true_of_eq_false h1)).trans (if_pos hf)).symm)
  · exact call_meets F.slot_str_split (typeIs_str _ _ _) F.entry_str_split (F.args_str_split_2 _ _) (meets_str_split_cannot_occur _ _ t u h1)
      (key [(_, t)] s.toks (if_pos h1).symm)
theorem asciiS {l : List Nat} (h : zbq l = true) : ∀ c ∈ (⟨l.toArray⟩ : Str).cps.toList, c < 128 := fun c hc => by
  have := List.all_eq_true.mp h c (by simpa using hc); exact of_decide_eq_true this
theorem up_eq : up1 = upC := by funext c; unfold up1 upC; rfl
theorem lo_eq : lo1 = lowC := by funext c; unfold lo1 lowC; rfl
theorem lenS (l : List Nat) : (⟨l.toArray⟩ : Str).length = l.length := by simp [Str.length]
theorem upper_ok {l : List Nat} {rx : Value} {Q : Value → Shared → Prop} (ha : zbq l = true) (hx : VR s.heap O (.str l) rx)
    (hQ : ∀ rv s', Kp hb s s' → VR s'.heap O (.str (l.map upC)) rv → Q rv s') : wpAny (model prog w) A (call (.builtin "str.upper") [rx]) Q E s := by
  obtain ⟨z, t, rfl⟩ := hx; have h2 : small = 1048576 := rfl; have h1 := z.1; have e := upper_ascii (asciiS ha); refine SC.upper ?_ ?_
  · rw [e]; show Builtin.Str.tooLong (Array.map up1 l.toArray).size = false; rw [Array.size_map, List.size_toArray]; unfold Builtin.Str.tooLong sizeLine; exact decide_eq_false (by omega)
  · refine hQ _ _ .tok ⟨⟨by rw [List.length_map]; exact z.1, fun c hc => ?_⟩, s.toks, ?_⟩
    · obtain ⟨d, hd, rfl⟩ := List.mem_map.mp hc; have := z.2 d hd; unfold upC; split <;> omega
    · rw [e, up_eq]; congr 1; exact zfp (by simp)
theorem lower_ok {l : List Nat} {rx : Value} {Q : Value → Shared → Prop} (ha : zbq l = true) (hx : VR s.heap O (.str l) rx)
    (hQ : ∀ rv s', Kp hb s s' → VR s'.heap O (.str (l.map lowC)) rv → Q rv s') : wpAny (model prog w) A (call (.builtin "str.lower") [rx]) Q E s := by
  obtain ⟨z, t, rfl⟩ := hx; have h2 : small = 1048576 := rfl; have h1 := z.1; have e := lower_ascii (asciiS ha); have up : ∀ c ∈ l, c < 128 := fun c hc => asciiS ha c (by simpa using hc)
  refine SC.lower ?_ ?_
  · rw [e]; show Builtin.Str.tooLong (Array.map lo1 l.toArray).size = false; rw [Array.size_map, List.size_toArray]; unfold Builtin.Str.tooLong sizeLine; exact decide_eq_false (by omega)
  · refine hQ _ _ .tok ⟨⟨by rw [List.length_map]; exact z.1, fun c hc => ?_⟩, s.toks, ?_⟩
    · obtain ⟨d, hd, rfl⟩ := List.mem_map.mp hc; have := up d hd; unfold lowC; split <;> omega
    · rw [e, lo_eq]; congr 1; exact zfp (by simp)
theorem starts_ok {l p : List Nat} {rx ry : Value} {Q : Value → Shared → Prop} (hx : VR s.heap O (.str l) rx) (hy : VR s.heap O (.str p) ry)
    (hQ : ∀ rv s', Kp hb s s' → VR s'.heap O (.bool (zcv p l)) rv → Q rv s') : wpAny (model prog w) A (call (.builtin "str.startswith") [rx, ry]) Q E s := by
  obtain ⟨z, t, rfl⟩ := hx; obtain ⟨z2, u, rfl⟩ := hy; exact SC.startswith (by rw [starts_isPre]; exact hQ _ _ (.refl ..) rfl)
theorem ends_ok {l p : List Nat} {rx ry : Value} {Q : Value → Shared → Prop} (hx : VR s.heap O (.str l) rx) (hy : VR s.heap O (.str p) ry)
    (hQ : ∀ rv s', Kp hb s s' → VR s'.heap O (.bool (zcv p.reverse l.reverse)) rv → Q rv s') : wpAny (model prog w) A (call (.builtin "str.endswith") [rx, ry]) Q E s := by
  obtain ⟨z, t, rfl⟩ := hx; obtain ⟨z2, u, rfl⟩ := hy; exact SC.endswith (by rw [ends_isPre]; exact hQ _ _ (.refl ..) rfl)
theorem find_ok {l : List Nat} {c : Nat} {rx ry : Value} {Q : Value → Shared → Prop} (hx : VR s.heap O (.str l) rx) (hy : VR s.heap O (.str [c]) ry)
    (hQ : ∀ rv s', Kp hb s s' → VR s'.heap O (.int (match zdf c l with | some k => (k : Int) | none => -1)) rv → Q rv s') : wpAny (model prog w) A (call (.builtin "str.find") [rx, ry]) Q E s := by
  obtain ⟨z, t, rfl⟩ := hx; obtain ⟨z2, u, rfl⟩ := hy; refine SC.find ?_; have e : Txt.find ⟨l.toArray⟩ ⟨[c].toArray⟩ = _ := find_findC ⟨l.toArray⟩ c; rw [e]; exact hQ _ _ .tok ⟨_, rfl⟩
theorem occ_empty (x : Str) (c j : Nat) : Builtin.Str.occurrences x ⟨#[c]⟩ j j 1 = [] := by
  rw [StrLaws.occ_eq]; have : j + 1 - j = 1 := by omega
  rw [this]; have e : List.range' j 1 = [j] := rfl; rw [e, List.forIn_cons]; have h : ¬ (j + (⟨#[c]⟩ : Str).length ≤ j) := by simp [Str.length]
  simp [StrLaws.occBody, h]
theorem find4_ok {l : List Nat} {c : Nat} {i : Int} {rx ry ri rj : Value} {Q : Value → Shared → Prop} (h0 : 0 ≤ i) (h1 : i ≤ (l.length : Int)) (hx : VR s.heap O (.str l) rx) (hy : VR s.heap O (.str [c]) ry) (hi : VR s.heap O (.int i) ri) (hj : VR s.heap O (.int i) rj)
    (hQ : ∀ rv s', Kp hb s s' → VR s'.heap O (.int (-1)) rv → Q rv s') : wpAny (model prog w) A (call (.builtin "str.find") [rx, ry, ri, rj]) Q E s := by
  obtain ⟨z, t, rfl⟩ := hx; obtain ⟨z2, u, rfl⟩ := hy; obtain ⟨v, rfl⟩ := hi; obtain ⟨v', rfl⟩ := hj; obtain ⟨n, rfl⟩ := Int.eq_ofNat_of_zero_le h0; have hn : n ≤ l.length := by omega
  refine call_gives (m := .int (-1)) F.slot_str_find (typeIs_str _ _ _) F.entry_str_find (F.args_str_find_4 _ _ _ _) ?_ (hQ _ _ .tok ⟨_, rfl⟩); show Gives (match Builtin.Str.occurrences (⟨l.toArray⟩ : Str) ⟨#[c]⟩ (fromIndex (⟨l.toArray⟩ : Str).length (n : Int)) (min (fromIndex (⟨l.toArray⟩ : Str).length (n : Int)) (⟨l.toArray⟩ : Str).length) 1 with
    | k :: _ => retInt k | [] => (do rule "str.find.not-found"; retInt (-1))) _
  have e1 : fromIndex (⟨l.toArray⟩ : Str).length (n : Int) = n := by
    unfold fromIndex; have : ¬ (n : Int) < 0 := by omega
    rw [if_neg this]; omega
  have e2 : min n (⟨l.toArray⟩ : Str).length = n := by rw [lenS]; omega
  rw [e1, e2, occ_empty]; exact .rule (.of_eq rfl)
theorem index_ok {xs : List PV} {x : PV} {k : Nat} {rx ry : Value} {Q : Value → Shared → Prop} (he : zds x xs = some k) (hu : A.units + 64 < cLine) (hx : VR s.heap O (.list xs) rx) (hy : VR s.heap O x ry)
    (hQ : ∀ rv s', Kp hb s s' → VR s'.heap O (.int k) rv → Q rv s') : wpAny (model prog w) A (call (.builtin "list.index") [rx, ry]) Q E s := by
  unfold zds at he
  split at he
  · rename_i hp; simp only [Bool.and_eq_true] at hp; obtain ⟨as, ra⟩ := zdg 8 x ry hy hp.1; have la := zet 8 x ry hy hp.1; obtain ⟨zx, a, vs, rfl, _, _, ⟨n, ho⟩, hxs⟩ := hx; obtain ⟨bs, rb⟩ := ze2 8 xs vs hxs hp.2; have lb := ze1 8 xs vs hxs hp.2; have l2 := lb.2; have hmin : min (PyData.depthAll (za9 xs)) (zbg x).depth ≤ 8 := Nat.le_trans (Nat.min_le_left _ _) l2; have hm := SeqAt.readsAll_map (za9 xs) vs bs lb.1 rb; have hlen := hxs.length; have h2 : small = 1048576 := rfl; obtain ⟨hk, hit, hno⟩ := List.findIdx?_eq_some_iff_getElem.mp he; have hpl : (za9 xs).length = vs.length := by rw [← hm, List.length_map]
    have at_ : ∀ (j : Nat) (hj : j < vs.length) (hj' : j < (za9 xs).length), SeqAt.readOf s.heap vs[j] = (za9 xs)[j] := fun j hj hj' => by
      have e := List.getElem_map (l := vs) (SeqAt.readOf s.heap) (i := j) (h := by simpa using hj); rw [← e]; congr 1
    refine call_meets PySem.F.slot_list_index ⟨_, ho, rfl⟩ PySem.F.entry_list_index (PySem.F.args_list_index_2 _ _)
      (SeqAt.list_indexAt a vs.toArray n none #[] ry (fun y => PyData.eqv (SeqAt.readOf s.heap y) (zbg x)) k (by simpa [← hpl] using hk) (by omega) ?_ ?_) ⟨ho, SeqAt.items_eqAt (by simpa using rb) ra lb.1 la.1 (by omega), hQ _ _ .tok ⟨_, rfl⟩⟩
    · show PyData.eqv (SeqAt.readOf s.heap vs[k]) (zbg x) = true; rw [at_ k (by omega) hk]; exact hit
    · intro j hj hlt; show PyData.eqv (SeqAt.readOf s.heap vs[j]) (zbg x) = false; have hj' : j < (za9 xs).length := by rw [hpl]; simpa using hj
      rw [at_ j (by simpa using hj) hj']; exact Bool.eq_false_iff.mpr (hno j hlt)
  · cases he
theorem repl_ok {l r : List Nat} {c : Nat} {t u v : Tok} {Q : Value → Shared → Prop} (z : okS l) (zr : ∀ d ∈ r, d < 1114112) (hz : (zbu c r l).length ≤ small) (h1 : l.length ≤ 65536) (h2 : r.length ≤ 14) (hne : ([c] : List Nat) ≠ r) (hu : u ≠ 0) (hv : v ≠ 0) (huv : u ≠ v)
    (hQ : ∀ rv s', Kp hb s s' → VR s'.heap O (.str (zbu c r l)) rv → Q rv s') : wpAny (model prog w) A (call (.builtin "str.replace") [.str ⟨l.toArray⟩ t, .str ⟨#[c]⟩ u, .str ⟨r.toArray⟩ v]) Q E s := by
  refine SC.replaceW hu hv huv ?_ (by rw [lenS]; omega) (by rw [lenS]; exact h2) fun t' k => hQ _ _ .tok ⟨⟨hz, fun d hd => ?_⟩, t', ?_⟩
  · refine beq_eq_false_iff_ne.mpr fun q => hne ?_
    injection q with q; simpa using congrArg Array.toList q
  · rcases replC_mem hd with h | h
    · exact zr d h
    · exact z.2 d h
  · congr 1; refine zfp ?_; rw [replace_replC]
end
end Mine
namespace Mine
open PySem PyProof.Rows PySem.Spec
def zcj : Array Nat := #[14, 8, 1, 2, 4294967295, 1, 1, 46, 0, 16, 46, 24, 9, 1, 4294967295, 13, 4, 8, 0, 0, 1, 6, 5, 1]
structure AtTry (T : Array Nat) (s : Nat) (m : Sre.M) : Prop where
  code : m.code = zcj
  text : m.text = T
  lim : m.lim = T.size
  last : m.lastStart = T.size
  frames : ∃ f, m.frames = [f] ∧ f.wait = .nextStart ∧ f.pos = s ∧ f.pc = 9 ∧ f.kept = {}
  pc : m.pc = 9
  pos : m.pos = s
  ans : m.answer = none
  out : m.outcome = none
  wt : m.weight ≤ 1
theorem zd1 {m : Sre.M} (h : m.outcome = none) (k : Nat) : Sre.M.runFor (k + 1) m = Sre.M.runFor k m.step := by
  rw [Sre.M.runFor, h]; rfl
theorem lit_no {T : Array Nat} {s : Nat} {m : Sre.M} (h : AtTry T s m) (hc : s ≥ T.size ∨ T.getD s 0 ≠ 46) : ∃ seen, m.step = { m with seen, answer := some false } := by
  have h1 : m.pc < m.code.size := by rw [h.pc, h.code]; decide
  have h2 : Sre.ops[m.word 0]? = some .LITERAL := by unfold Sre.M.word; rw [h.pc, h.code]; rfl
  have h0 : m.outcome.isSome = false := by rw [h.out]; rfl
  unfold Sre.M.step; rw [if_neg (by rw [h0]; decide), h.ans]; dsimp only; rw [if_pos h1]; unfold Sre.M.exec; rw [h2]; dsimp only; by_cases hs : m.pos ≥ m.lim
  · rw [if_pos hs]; exact ⟨m.seen.add (m.word 0), rfl⟩
  · rw [if_neg hs]; have hc : T.getD s 0 ≠ 46 := by
      rcases hc with hc | hc
      · rw [h.pos, h.lim] at hs; exact absurd hc hs
      · exact hc
    have h3 : ∀ sn, Sre.accepts m.code m.pc (m.text.getD m.pos 0) sn = .ok (false, sn) := by
      intro sn; unfold Sre.accepts; rw [h.pc, h.code, h.text, h.pos]; have : (T.getD s 0 == 46) = false := beq_eq_false_iff_ne.mpr hc; show Except.ok (T.getD s 0 == 46, sn) = _; rw [this]
    rw [h3]; exact ⟨m.seen.add (m.word 0), rfl⟩
theorem lit_yes {T : Array Nat} {s : Nat} {m : Sre.M} (h : AtTry T s m) (hs : s < T.size) (hc : T.getD s 0 = 46) : ∃ seen, m.step = { m with seen, pc := 11, pos := s + 1 } := by
  have h1 : m.pc < m.code.size := by rw [h.pc, h.code]; decide
  have h2 : Sre.ops[m.word 0]? = some .LITERAL := by unfold Sre.M.word; rw [h.pc, h.code]; rfl
  have h0 : m.outcome.isSome = false := by rw [h.out]; rfl
  unfold Sre.M.step; rw [if_neg (by rw [h0]; decide), h.ans]; dsimp only; rw [if_pos h1]; unfold Sre.M.exec; rw [h2]; dsimp only; rw [if_neg (by rw [h.pos, h.lim]; omega)]; have h3 : ∀ sn, Sre.accepts m.code m.pc (m.text.getD m.pos 0) sn = .ok (true, sn) := by
    intro sn; unfold Sre.accepts; rw [h.pc, h.code, h.text, h.pos]; have : (T.getD s 0 == 46) = true := by rw [hc]; rfl
    show Except.ok (T.getD s 0 == 46, sn) = _; rw [this]
  have h4 : Sre.itemWidth m.code m.pc = 2 := by rw [h.pc, h.code]; rfl
  rw [h3]; dsimp only; rw [h4, h.pc, h.pos]; exact ⟨m.seen.add (m.word 0), by rw [h.ans]⟩
theorem rep_no {T : Array Nat} {p : Nat} {m : Sre.M} (hcode : m.code = zcj) (htext : m.text = T) (hpc : m.pc = 11) (hpos : m.pos = p) (hlim : m.lim = T.size) (hans : m.answer = none) (hout : m.outcome = none)
    (hd : p < T.size → Sre.isDigit (T.getD p 0) = false) : ∃ seen, m.step = { m with seen, answer := some false } := by
  have h1 : m.pc < m.code.size := by rw [hpc, hcode]; decide
  have h2 : Sre.ops[m.word 0]? = some .REPEAT_ONE := by unfold Sre.M.word; rw [hpc, hcode]; rfl
  have h0 : m.outcome.isSome = false := by rw [hout]; rfl
  unfold Sre.M.step; rw [if_neg (by rw [h0]; decide), hans]; dsimp only; rw [if_pos h1]; unfold Sre.M.exec; rw [h2]; dsimp only; generalize hm2 : ({ m with seen := m.seen.add (m.word 0) } : Sre.M) = m2; have e2 : m2.word 2 = 1 := by subst hm2; unfold Sre.M.word; show m.code.getD (m.pc + 2) 0 = 1; rw [hpc, hcode]; rfl
  have e3 : m2.word 3 = 4294967295 := by subst hm2; unfold Sre.M.word; show m.code.getD (m.pc + 3) 0 = _; rw [hpc, hcode]; rfl
  rw [e2, e3]; by_cases hr : ((1 : Nat) : Int) > (m.lim : Int) - m.pos
  · rw [if_pos hr]; exact ⟨m.seen.add (m.word 0), by subst hm2; rfl⟩
  · rw [if_neg hr]; have hp : p < T.size := by rw [hlim, hpos] at hr; omega
    have hrun : ∀ n sn, ∃ sn', Sre.run m.code m.text (m.pc + 4) (n + 1) m.pos 0 sn = .ok (0, sn') := by
      intro n sn; rw [hcode, htext, hpc, hpos, Sre.run]; have ha : ∃ sn', Sre.accepts zcj (11 + 4) (T.getD p 0) sn = .ok (false, sn') := by
        have hdd := hd hp; generalize T.getD p 0 = ch at hdd; refine ⟨((sn.add 8).add (55 + 0)).add 0, ?_⟩
        · show Sre.inSet zcj ch (22 + 1 + 1) 17 true sn = _; rw [Sre.inSet]; show (Sre.category 0 ch >>= fun b => if b = true then pure (true, _) else Sre.inSet zcj ch (22 + 1) (17 + 2) true _) = _
          have hcat : Sre.category 0 ch = .ok false := by
            simp [Sre.category, hdd, Except.map]
          rw [hcat]; show Sre.inSet zcj ch (22 + 1) (17 + 2) true _ = _; rw [Sre.inSet]; rfl
      obtain ⟨sn', ha⟩ := ha; rw [ha]; exact ⟨sn', rfl⟩
    obtain ⟨k, hk⟩ : ∃ k, min (if false = true then 1 else 4294967295) ((m.lim : Int) - m.pos).toNat = k + 1 := ⟨min 4294967295 ((m.lim : Int) - m.pos).toNat - 1, by simp only [Bool.false_eq_true, if_false]; omega⟩; rw [hk]; obtain ⟨sn', h3⟩ := hrun k ((m.seen.add (m.word 0)).add (m2.word 4)); rw [h3]; dsimp only; rw [if_pos (by decide)]; exact ⟨sn', rfl⟩
structure AtFail (T : Array Nat) (s : Nat) (m : Sre.M) : Prop where
  code : m.code = zcj
  text : m.text = T
  lim : m.lim = T.size
  last : m.lastStart = T.size
  frames : ∃ f, m.frames = [f] ∧ f.wait = .nextStart ∧ f.pos = s ∧ f.pc = 9 ∧ f.kept = {}
  ans : m.answer = some false
  out : m.outcome = none
  wt : m.weight ≤ 1
theorem zff {m' : Sre.M} (s : Nat) (b : Bool) (hc : m'.code = zcj) : m'.attemptFrom s b = m'.attemptAt s b := by
  unfold Sre.M.attemptFrom; have : m'.hasFirstSet = false := by unfold Sre.M.hasFirstSet; rw [hc]; rfl
  rw [this]; rfl
theorem fail_next {T : Array Nat} {s : Nat} {m : Sre.M} (h : AtFail T s m) (hs : s < T.size) : AtTry T (s + 1) m.step := by
  obtain ⟨f, hf, f1, f2, f3, f4⟩ := h.frames; have h0 : m.outcome.isSome = false := by rw [h.out]; rfl
  have hw := h.wt; have e : m.step = Sre.M.attemptFrom { m with answer := none, frames := [], weight := m.weight - (1 + f.kept.marks.size), pc := f.pc, pos := f.pos, outermost := f.outermost, mustAdvance := false } (f.pos + 1) false := by
    unfold Sre.M.step; rw [if_neg (by rw [h0]; decide), h.ans, hf]; dsimp only; unfold Sre.M.resume; dsimp only; rw [f1]; dsimp only; rw [if_neg (by decide), if_pos (by rw [f2, h.last]; exact hs)]
  rw [e]; rw [zff _ _ (by exact h.code)]; unfold Sre.M.attemptAt Sre.M.attempt; have hk : ({ wait := Sre.Wait.nextStart, pc := f.pc, pos := f.pos + 1, outermost := false } : Sre.Frame).kept.marks.size = 0 := rfl; have hk2 : f.kept.marks.size = 0 := by rw [f4]; rfl
  dsimp only; rw [if_neg (by rw [hk2]; show ¬ (m.weight - (1 + 0) + 1 + 0 > 16777216); omega)]; refine ⟨h.code, h.text, h.lim, h.last, ⟨_, rfl, rfl, by rw [f2], f3, rfl⟩, f3, by rw [f2], rfl, h.out, ?_⟩; show m.weight - (1 + f.kept.marks.size) + 1 + 0 ≤ 1; rw [hk2]; omega
theorem fail_last {T : Array Nat} {s : Nat} {m : Sre.M} (h : AtFail T s m) (hs : T.size ≤ s) : m.step.step.outcome = some .failed ∧ m.step.outcome = none := by
  obtain ⟨f, hf, f1, f2, f3, f4⟩ := h.frames; have h0 : m.outcome.isSome = false := by rw [h.out]; rfl
  have e : m.step = Sre.M.say { m with answer := none, frames := [], weight := m.weight - (1 + f.kept.marks.size), pc := f.pc, pos := f.pos, outermost := f.outermost } false := by
    unfold Sre.M.step; rw [if_neg (by rw [h0]; decide), h.ans, hf]; dsimp only; unfold Sre.M.resume; dsimp only; rw [f1]; dsimp only; rw [if_neg (by decide), if_neg (by rw [f2, h.last]; omega)]
  rw [e]; refine ⟨?_, h.out⟩; unfold Sre.M.step Sre.M.say; rw [if_neg (by rw [h0]; decide)]; rfl
theorem try_fail {T : Array Nat} {s : Nat} {m : Sre.M} (h : AtTry T s m) (hd : ∀ p, p < T.size → Sre.isDigit (T.getD p 0) = false) : ∃ n m', n ≤ 2 ∧ (∀ k, Sre.M.runFor (k + n) m = Sre.M.runFor k m') ∧ AtFail T s m' := by
  by_cases hc : s ≥ T.size ∨ T.getD s 0 ≠ 46
  · obtain ⟨sn, e⟩ := lit_no h hc; refine ⟨1, m.step, by decide, fun k => zd1 h.out k, ?_⟩
    rw [e]; exact ⟨h.code, h.text, h.lim, h.last, h.frames, rfl, h.out, h.wt⟩
  · have hs : s < T.size := Nat.lt_of_not_le fun q => hc (.inl q)
    have h46 : T.getD s 0 = 46 := Decidable.byContradiction fun q => hc (.inr q)
    obtain ⟨sn, e⟩ := lit_yes h hs h46; obtain ⟨sn', e'⟩ := rep_no (T := T) (p := s + 1) (m := { m with seen := sn, pc := 11, pos := s + 1 }) h.code h.text rfl rfl h.lim h.ans h.out (hd (s + 1)); refine ⟨2, m.step.step, by decide, fun k => ?_, ?_⟩
    · rw [show k + 2 = (k + 1) + 1 from rfl, zd1 h.out, zd1 (by rw [e]; exact h.out)]
    · rw [e, e']; exact ⟨h.code, h.text, h.lim, h.last, h.frames, rfl, h.out, h.wt⟩
theorem run_fail {T : Array Nat} (hd : ∀ p, p < T.size → Sre.isDigit (T.getD p 0) = false) : ∀ (d s : Nat) (m : Sre.M), T.size - s = d → AtTry T s m → ∃ n, n ≤ 3 * d + 4 ∧ (Sre.M.runFor n m).outcome = some .failed := by
  intro d
  induction d with
  | zero =>
    intro s m hs h
    obtain ⟨n, m', hn, hr, hf⟩ := try_fail h hd
    have hl := fail_last hf (by omega)
    refine ⟨2 + n, by omega, ?_⟩
    rw [hr, show 2 = 1 + 1 from rfl, zd1 hf.out, show 1 = 0 + 1 from rfl, zd1 hl.2]
    exact hl.1
  | succ d ih =>
    intro s m hs h
    obtain ⟨n, m', hn, hr, hf⟩ := try_fail h hd
    obtain ⟨n2, hn2, hr2⟩ := ih (s + 1) m'.step (by omega) (fail_next hf (by omega))
    refine ⟨n2 + 1 + n, by omega, ?_⟩
    rw [hr, zd1 hf.out]
    exact hr2
end Mine
namespace Mine
open PySem PyProof.Rows PySem.Spec
theorem zc3 {m : Sre.M} (h : m.outcome.isSome = true) : ∀ k, Sre.M.runFor k m = m
  | 0 => rfl
  | k + 1 => by rw [Sre.M.runFor, if_pos h]
theorem zdh : ∀ (a b : Nat) (m : Sre.M), Sre.M.runFor (a + b) m = Sre.M.runFor b (Sre.M.runFor a m)
  | 0, b, m => by rw [Nat.zero_add]; rfl
  | a + 1, b, m => by
    by_cases h : m.outcome.isSome = true
    · rw [zc3 h, zc3 h, zc3 h]
    · rw [show a + 1 + b = (a + b) + 1 by omega, Sre.M.runFor, if_neg h, Sre.M.runFor, if_neg h]; exact zdh a b m.step
section
variable {M : Model} {A : Around} {E : Value → Shared → Prop} {s : Shared}
theorem drive_ok : ∀ (turns n : Nat) (m : Sre.M) (Q : Sre.M → Shared → Prop), n ≤ 4 * turns → 0 < turns → (Sre.M.runFor n m).outcome = some .failed → (∀ m', m'.outcome = some .failed → Q m' s) → wpAny M A (Builtin.Re.reDrive turns m) Q E s
  | 0, n, m, Q, _, h0, _, _ => absurd h0 (by decide)
  | turns + 1, n, m, Q, hn, _, hr, hQ => by
    rw [Builtin.Re.reDrive]; by_cases ho : (Sre.M.runFor Builtin.Re.reTurnSteps m).outcome.isSome = true
    · rw [if_pos ho]; refine wpAny_pure (hQ _ ?_); by_cases hle : n ≤ 4
      · have e : (4 : Nat) = n + (4 - n) := by omega
        show (Sre.M.runFor 4 m).outcome = _; rw [e, zdh, zc3 (by rw [hr]; rfl)]; exact hr
      · have e : n = 4 + (n - 4) := by omega
        rw [e, zdh] at hr; have : Sre.M.runFor (n - 4) (Sre.M.runFor 4 m) = Sre.M.runFor 4 m := zc3 ho _; rw [this] at hr; exact hr
    · rw [if_neg ho]; refine wpAny_bind (wpAny_rule ?_); have hle : 4 < n := Nat.lt_of_not_le fun hle => ho (by
        have e : (4 : Nat) = n + (4 - n) := by omega
        show (Sre.M.runFor 4 m).outcome.isSome = true
        rw [e, zdh, zc3 (by rw [hr]; rfl), hr]; rfl)
      refine drive_ok turns (n - 4) _ Q (by omega) (by omega) ?_ hQ; have e : n = 4 + (n - 4) := by omega
      rw [e, zdh] at hr; exact hr
theorem drive_end {n : Nat} {m : Sre.M} {Q : Option Sre.M → Shared → Prop} (hn : n ≤ 4 * 2 ^ 64) (hr : (Sre.M.runFor n m).outcome = some .failed) (hQ : Q none s) : wpAny M A (Builtin.Re.reRunToEnd m) Q E s := by
  unfold Builtin.Re.reRunToEnd; refine wpAny_bind (drive_ok (2 ^ 64) n m _ hn (by decide) hr fun m' hm' => ?_)
  refine wpAny_bind (wpAny_forIn_list _ (fun _ _ s' => s' = s) _ (fun i rest b s' hs => ?_) (fun b s' hs => ?_) _ _ rfl)
  · subst hs
    split
    · exact wpAny_bind (wpAny_rule (wpAny_pure rfl))
    · exact wpAny_pure rfl
  · subst hs; rw [hm']; exact wpAny_pure hQ
end
end Mine
namespace Mine
open PySem PyProof.Rows PySem.Spec
def PatOk (hb : Heap) : Prop := ∃ o vs cd it, hb.get? 81 = some o ∧ o.cls = .type "re.Pattern" ∧ o.dict = none ∧ o.data = .fields vs ∧ vs.getD 5 .none = .ref cd ∧ cd ≠ zao ∧ IsTup hb cd it ∧ (it.map Builtin.Re.reRawOf).map (·.toNat) = zcj ∧
  Builtin.Re.reRawNat (vs.getD 6 .none) = 0 ∧ Builtin.Re.reRawNat (vs.getD 2 .none) = 0
theorem ze4 : PySem.Slot "re.Pattern" "search" "re.Pattern.search" :=
  .of (owner := "re.Pattern") (n := "search") (by rw [typeLookup_type, builtinLookup_eq_fast]; kernel_rfl) (by decide +kernel) (by decide +kernel) (by decide +kernel)
    (by first | exact .inl (by decide +kernel) | exact .inr (by decide +kernel)) (by rw [isSubtype_type]; kernel_rfl)
theorem zhc : entryFor table "re.Pattern.search" = some Builtin.«re.Pattern.search» := entryFor_of_tree (by kernel_rfl)
theorem zhg (a b : Value) : argsOk "re.Pattern.search" ⟨[a, b], []⟩ := by unfold argsOk; kernel_rfl
theorem start_try {T : Array Nat} (h : 2 ≤ T.size) : AtTry T 0 (Sre.forSearch zcj T 0 0 T.size false) := by
  have e : (Sre.header zcj).1 = 2 := rfl; unfold Sre.forSearch; dsimp only; rw [if_neg (by rw [e]; simp; omega)]; rw [zff _ _ (by rfl)]; unfold Sre.M.attemptAt Sre.M.attempt; dsimp only; rw [if_neg (by show ¬ (0 + 1 + 0 > 16777216); decide)]; exact ⟨rfl, rfl, rfl, rfl, ⟨_, rfl, rfl, rfl, rfl, rfl⟩, rfl, rfl, rfl, rfl, Nat.le_refl _⟩
theorem start_small {T : Array Nat} (h : T.size < 2) : (Sre.M.runFor 1 (Sre.forSearch zcj T 0 0 T.size false)).outcome = some .failed := by
  have e : (Sre.header zcj).1 = 2 := rfl; unfold Sre.forSearch; dsimp only; rw [if_pos (by rw [e]; simp; omega)]; rfl
theorem search_fails {T : Array Nat} (hd : ∀ p, p < T.size → Sre.isDigit (T.getD p 0) = false) (hz : T.size ≤ 64) : ∃ n, n ≤ 4 * 2 ^ 64 ∧ (Sre.M.runFor n (Sre.forSearch zcj T 0 0 T.size false)).outcome = some .failed := by
  by_cases h : T.size < 2
  · exact ⟨1, by decide, start_small h⟩
  · obtain ⟨n, hn, hr⟩ := run_fail hd T.size 0 _ (by omega) (start_try (by omega)); refine ⟨n, ?_, hr⟩; have : (4 * 2 ^ 64 : Nat) = 73786976294838206464 := by decide
    omega
theorem digit_small : ∀ c : Fin 128, (!(decide (48 ≤ c.val) && decide (c.val ≤ 57))) = true → Sre.isDigit c.val = false := by decide +kernel
section
variable {prog : Program} {w : World} {A : Around} {E : Value → Shared → Prop} {s : Shared} {hb : HB} {O : Addr → Prop}
theorem search_one {l : List Nat} {t : Tok} {Q : Value → Shared → Prop} (hp : PatOk hb.h) (xc : XC hb O s) (hd : ∀ c ∈ l, Sre.isDigit c = false) (hz : l.length ≤ 64) (hQ : Q .none s) :
    wpAny (model prog w) A (call (.builtin "re.Pattern.search") [.ref 81, .str ⟨l.toArray⟩ t]) Q E s := by
  obtain ⟨o, vs, cd, it, ho, hc, hdi, hdd, h5, hcd, hit, hcode, h6, h2⟩ := hp; have ho' := xc.gs.hard _ _ (by decide) ho; refine wpAny_call_entry ze4 ⟨o, ho', hc⟩ zhc ?_ (zhg _ _); unfold Builtin.«re.Pattern.search»; refine wpAny_bind ?_; unfold Builtin.Re.reTarget; dsimp only; refine wpAny_bind (wpAny_of_eq (a := [some (.str ⟨l.toArray⟩ t), none, none]) (by kernel_rfl) ?_); dsimp only; refine wpAny_bind (wpAny_pure (wpAny_bind (wpAny_pure (wpAny_bind (wpAny_fieldsOf ho' hdd ?_))))); refine wpAny_bind (wpAny_of_eq (a := (l.toArray, 0)) rfl ?_); dsimp only; rw [h6, if_neg (by decide), if_neg (by decide)]; refine wpAny_bind (wpAny_of_eq (a := ()) rfl ?_); rw [h5]; obtain ⟨oc, hoc, hcc, nn, hcd2⟩ := hit; have hoc' := xc.gs.hard _ _ hcd hoc; refine wpAny_bind ?_; unfold Builtin.Re.reRawItems; refine wpAny_bind (wpAny_seqItems hoc' hcd2 ?_); refine wpAny_pure (wpAny_pure ?_); have e1 : Array.map (fun x => Int.toNat x) (Array.map Builtin.Re.reRawOf ((some it).getD #[])) = zcj := hcode
  have e2 : min (2 ^ 63 - 1 : Int).toNat l.toArray.size = l.toArray.size := by
    rw [List.size_toArray]; have : (2 ^ 63 - 1 : Int).toNat = 9223372036854775807 := by decide
    omega
  have e3 : min (Int.toNat 0) l.toArray.size = 0 := Nat.zero_min _; rw [e1, e2, e3, h2]; unfold Builtin.Re.reAnswer; dsimp only; obtain ⟨n, hn, hr⟩ := search_fails (T := l.toArray) (fun p hp => hd _ (by
    rw [List.size_toArray] at hp
    have : l.toArray.getD p 0 = l[p] := by simp [Array.getD, hp]
    rw [this]; exact List.getElem_mem _)) (by rw [List.size_toArray]; exact hz)
  exact wpAny_bind (drive_end hn hr (wpAny_pure ⟨_, rfl, hQ⟩))
end
end Mine
namespace Mine
open PySem PyProof.Rows PySem.Spec
def MapOk (prog : Program) (w : World) (hb : Heap) : Prop := ∃ f, hb.MapOf (intKind prog w) 52 f ∧ ∀ c, c < 128 → if specials.contains c then ∃ t, f (c : Int) = some (.str ⟨#[92, c]⟩ t) else f (c : Int) = none
section
variable {prog : Program} {w : World} {A : Around} {E : Value → Shared → Prop} {s : Shared} {hb : HB} {O : Addr → Prop}
theorem look_hit {c : Nat} {f : Int → Option Value} {x : Str} {t : Tok} {Q : Builtin.Str.Mapped → Shared → Prop} (hm : s.heap.MapOf (intKind prog w) 52 f) (hf : f (c : Int) = some (.str x t))
    (h : ∀ tk, Q (.text x) { s with toks := tk }) : wpAny (model prog w) A (Builtin.Str.tableLookup (.ref 52) c) Q E s := by
  unfold Builtin.Str.tableLookup; refine wpAny_bind (wpAny_attempt (wpAny_bind (wpAny_mkInt (wpAny_getItem_of (knd := intKind prog w) (k := (c : Int)) ?_ hm hf ?_))))
  · simp [intKind, Value.isInt]
  · refine wpAny_bind (wpAny_of_eq (a := none) rfl ?_); refine wpAny_bind (wpAny_of_eq (a := some x) rfl ?_); exact wpAny_pure (h _)
theorem sub_KE_LE : isSubtype (.type "KeyError") (.type "LookupError") = pure true := by rw [isSubtype_type]; kernel_rfl
theorem look_miss {c : Nat} {f : Int → Option Value} {Q : Builtin.Str.Mapped → Shared → Prop} (hA : A.handled = none) (hm : s.heap.MapOf (intKind prog w) 52 f) (hf : f (c : Int) = none)
    (h : ∀ h' tk, (∀ b o, s.heap.get? b = some o → h'.get? b = some o) → Q .keep { s with heap := h', toks := tk }) : wpAny (model prog w) A (Builtin.Str.tableLookup (.ref 52) c) Q E s := by
  unfold Builtin.Str.tableLookup; refine wpAny_bind (wpAny_attempt (wpAny_bind (wpAny_mkInt (wpAny_getItem_missing_of (knd := intKind prog w) (k := (c : Int)) ?_ (by decide) hA hm hf fun h' e ne => ?_))))
  · simp [intKind, Value.isInt]
  · obtain ⟨ob, t, ho, hc, _⟩ := ne.there; refine wpAny_bind (wpAny_isInstance (T := "KeyError") ⟨ob, ho, hc⟩ sub_KE_LE ?_); rw [if_pos rfl]; exact wpAny_bind (wpAny_rule (wpAny_pure (h _ _ ne.keeps)))
theorem trans_one {c : Nat} {t : Tok} {Q : Value → Shared → Prop} (hmap : MapOk prog w hb.h) (xc : XC hb O s) (hA : A.handled = none) (hc : c < 128)
    (hQ : ∀ rv s', Kp hb s s' → VR s'.heap O (.str (escC c)) rv → Q rv s') : wpAny (model prog w) A (call (.builtin "str.translate") [.str ⟨#[c]⟩ t, .ref 52]) Q E s := by
  obtain ⟨f, hm, hf⟩ := hmap; have hf := hf c hc; have hm' : ∀ {s' : Shared}, GS hb s' → s'.heap.MapOf (intKind prog w) 52 f := fun g => by
    obtain ⟨o, es, ep, ho, r⟩ := hm; exact ⟨o, es, ep, g.hard _ _ (by decide) ho, r⟩
  refine wpAny_call_entry F.slot_str_translate (typeIs_str _ _ _) F.entry_str_translate ?_ (F.args_str_translate_2 _ _); unfold Builtin.«str.translate»; refine wpAny_bind (wpAny_of_eq (a := (.str ⟨#[c]⟩ t, ⟨#[c]⟩, .ref 52)) rfl ?_); dsimp only; rw [if_neg (show ¬ ((⟨#[c]⟩ : Str).length == 0) = true from by show ¬ ((1 : Nat) == 0) = true; decide)]; have hall : (#[c] : Array Nat).all (fun x => decide (x < 128)) = true := by simp [hc]
  rw [hall]; rw [← Array.forIn_toList]; simp only [List.forIn_cons, List.forIn_nil]; refine wpAny_bind (wpAny_bind ?_); rw [if_neg (show ¬ Builtin.Str.tooLong 0 = true by decide), if_pos trivial]; rw [show List.lookup c ([] : List (Nat × Option Nat)) = none from rfl]; dsimp only; by_cases hs : specials.contains c = true
  · rw [if_pos hs] at hf; obtain ⟨t', hf⟩ := hf; refine wpAny_bind (look_hit (hm' xc.gs) hf fun tk => ?_)
    dsimp only; rw [if_neg (show ¬ (((⟨#[92, c]⟩ : Str).length == 1) && (#[92, c] : Array Nat).all fun x => decide (x < 128)) = true from fun q => by rw [Bool.and_eq_true] at q; exact absurd q.1 (by show ¬ ((2 : Nat) == 1) = true; decide))]
    refine wpAny_bind (wpAny_pure ?_); dsimp only; refine wpAny_bind (wpAny_rule ?_); rw [if_neg (by decide)]; refine wpAny_bind (look_hit (hm' (s' := { s with toks := tk }) ((Kp.tok (hb := hb) (s := s) (tk := tk)).gs xc.gs)) hf fun tk' => wpAny_pure (wpAny_pure ?_))
    show wpAny _ _ (if Builtin.Str.tooLong 2 = true then _ else retStr ⟨#[92, c]⟩) _ _ _; rw [if_neg (by decide)]; refine wpAny_bind (wpAny_mkStr (wpAny_pure ⟨_, rfl, hQ _ _ ((Kp.tok (hb := hb) (s := s) (tk := tk')).trans .tok) ?_⟩) (show 2 ≤ sizeLine by decide)); have e : escC c = [92, c] := if_pos hs; rw [e]; exact ⟨⟨by show 2 ≤ small; decide, fun d hd => by rcases List.mem_cons.mp hd with rfl | hd; decide; rw [List.mem_singleton.mp hd]; omega⟩, _, rfl⟩
  · rw [if_neg hs] at hf; refine wpAny_bind (look_miss hA (hm' xc.gs) hf fun h' tk hk => ?_)
    dsimp only; refine wpAny_bind (wpAny_pure (wpAny_pure (wpAny_pure ?_))); show wpAny _ _ (if Builtin.Str.tooLong 1 = true then _ else retStr ⟨#[c]⟩) _ _ _; rw [if_neg (by decide)]; refine wpAny_bind (wpAny_mkStr (wpAny_pure ⟨_, rfl, hQ _ _ ((Kp.keeps (hb := hb) (s := s) (h' := h') (tk := tk) hk).trans .tok) ?_⟩) (show 1 ≤ sizeLine by decide)); have e : escC c = [c] := if_neg hs; rw [e]; exact ⟨⟨by show 1 ≤ small; decide, fun d hd => by rw [List.mem_singleton.mp hd]; omega⟩, _, rfl⟩
end
end Mine
namespace Mine
open PySem PyProof.Rows PySem.Spec
structure Pats (prog : Program) (w : World) (hb : Heap) : Prop where
  map : MapOk prog w hb
  pat : PatOk hb
theorem zfk : PlainAttrs "re.Pattern" :=
  ⟨⟨"object.__getattribute__", by rw [typeLookup_type, builtinLookup_eq_fast]; kernel_rfl, by decide +kernel⟩, by rw [typeLookup_type, builtinLookup_eq_fast]; kernel_rfl⟩
theorem zhv : typeOf (.builtin "re.Pattern.search") = pure (.type "method_descriptor") := by show builtinType _ = _; rw [builtinType_eq_fast]; kernel_rfl
section
variable {prog : Program} {w : World} {A : Around} {hb : HB} {O : Addr → Prop}
theorem trans_ok {E : Value → Shared → Prop} {s : Shared} {c : Nat} {rx : Value} {Q : Value → Shared → Prop} (hp : Pats prog w hb.h) (xc : XC hb O s) (hA : A.handled = none) (hc : c < 128) (hx : VR s.heap O (.str [c]) rx)
    (hQ : ∀ rv s', Kp hb s s' → VR s'.heap O (.str (escC c)) rv → Q rv s') : wpAny (model prog w) A (call (.builtin "str.translate") [rx, .ref 52]) Q E s := by
  obtain ⟨_, t, rfl⟩ := hx; exact trans_one hp.map xc hA hc hQ
theorem search_ok {E : Value → Shared → Prop} {s : Shared} {l : List Nat} {ry : Value} {Q : Value → Shared → Prop} (hp : Pats prog w hb.h) (xc : XC hb O s) (hd : (l.all fun c => decide (c < 128) && !(decide (48 ≤ c) && decide (c ≤ 57))) = true) (hz : l.length ≤ 64) (hy : VR s.heap O (.str l) ry)
    (hQ : ∀ rv s', Kp hb s s' → VR s'.heap O .nul rv → Q rv s') : wpAny (model prog w) A (call (.builtin "re.Pattern.search") [.ref 81, ry]) Q E s := by
  obtain ⟨_, t, rfl⟩ := hy; refine search_one hp.pat xc (fun c hc => ?_) hz (hQ _ _ (.refl ..) rfl)
  have h := List.all_eq_true.mp hd c hc; rw [Bool.and_eq_true] at h; exact digit_small ⟨c, of_decide_eq_true h.1⟩ h.2
def MethAt (prog : Program) (w : World) (A : Around) (hb : HB) (O : Addr → Prop) (m : Str) (x : PV) (args : List PV) (v : PV) : Prop :=
  ∃ T id, MethW T m id ∧ (∀ (s : Shared) rx, XC hb O s → VR s.heap O x rx → s.TypeIs rx T ∧ noDict s.heap rx) ∧
    ∀ (s : Shared) rx rvs Q E, XC hb O s → VR s.heap O x rx → VRs s.heap O args rvs → (∀ rv s', Kp hb s s' → VR s'.heap O v rv → Q rv s') → wpAny (model prog w) A (call (.builtin id) (rx :: rvs)) Q E s
theorem zcx (s : Shared) (l : List Nat) (rx : Value) (h : VR s.heap O (.str l) rx) : s.TypeIs rx "str" ∧ noDict s.heap rx := by
  obtain ⟨_, t, rfl⟩ := h; exact ⟨rfl, noDict_str⟩
theorem meth_at {m : Str} {x : PV} {args : List PV} {v : PV} (he : za3 m x args = some v) (hp : Pats prog w hb.h) (hA : A.handled = none) (hu : A.units + 64 < cLine) : MethAt prog w A hb O m x args v := by
  unfold za3 at he; by_cases h_join : m = "join"
  · rw [if_pos h_join] at he; subst h_join
    split at he
    · split at he
      · rename_i l hl
        split at he
        · rename_i hz
          cases he
          refine ⟨"str", "str.join", ⟨F.plainAttrs_str, F.slot_str_join, F.type_str_join⟩, fun s rx _ h => zcx s _ rx h, fun s rx rvs Q E _ hx hr hQ => ?_⟩
          obtain ⟨_, _, rfl, h1, rfl⟩ := hr; exact join_ok hl hz hx h1 hQ
        · cases he
      · cases he
    · cases he
  rw [if_neg h_join] at he; by_cases h_split : m = "split"
  · rw [if_pos h_split] at he; subst h_split
    split at he
    · split at he
      · rename_i hz
        cases he
        refine ⟨"str", "str.split", ⟨F.plainAttrs_str, F.slot_str_split, F.type_str_split⟩, fun s rx _ h => zcx s _ rx h, fun s rx rvs Q E xc hx hr hQ => ?_⟩
        obtain ⟨_, _, rfl, h1, rfl⟩ := hr; exact split_ok hz xc hx h1 hQ
      · cases he
    · cases he
  rw [if_neg h_split] at he; by_cases h_upper : m = "upper"
  · rw [if_pos h_upper] at he; subst h_upper
    split at he
    · split at he
      · rename_i hz
        cases he
        refine ⟨"str", "str.upper", ⟨F.plainAttrs_str, F.slot_str_upper, F.type_str_upper⟩, fun s rx _ h => zcx s _ rx h, fun s rx rvs Q E xc hx hr hQ => ?_⟩
        rw [show rvs = [] from hr]; exact upper_ok hz hx hQ
      · cases he
    · cases he
  rw [if_neg h_upper] at he; by_cases h_lower : m = "lower"
  · rw [if_pos h_lower] at he; subst h_lower
    split at he
    · split at he
      · rename_i hz
        cases he
        refine ⟨"str", "str.lower", ⟨F.plainAttrs_str, F.slot_str_lower, F.type_str_lower⟩, fun s rx _ h => zcx s _ rx h, fun s rx rvs Q E xc hx hr hQ => ?_⟩
        rw [show rvs = [] from hr]; exact lower_ok hz hx hQ
      · cases he
    · cases he
  rw [if_neg h_lower] at he; by_cases h_startswith : m = "startswith"
  · rw [if_pos h_startswith] at he; subst h_startswith
    split at he
    · cases he
      refine ⟨"str", "str.startswith", ⟨F.plainAttrs_str, F.slot_str_startswith, F.type_str_startswith⟩, fun s rx _ h => zcx s _ rx h, fun s rx rvs Q E xc hx hr hQ => ?_⟩
      obtain ⟨_, _, rfl, h1, rfl⟩ := hr; exact starts_ok hx h1 hQ
    · cases he
  rw [if_neg h_startswith] at he; by_cases h_endswith : m = "endswith"
  · rw [if_pos h_endswith] at he; subst h_endswith
    split at he
    · cases he
      refine ⟨"str", "str.endswith", ⟨F.plainAttrs_str, F.slot_str_endswith, F.type_str_endswith⟩, fun s rx _ h => zcx s _ rx h, fun s rx rvs Q E xc hx hr hQ => ?_⟩
      obtain ⟨_, _, rfl, h1, rfl⟩ := hr; exact ends_ok hx h1 hQ
    · cases he
  rw [if_neg h_endswith] at he; by_cases h_find : m = "find"
  · rw [if_pos h_find] at he; subst h_find
    split at he
    · cases he
      refine ⟨"str", "str.find", ⟨F.plainAttrs_str, F.slot_str_find, F.type_str_find⟩, fun s rx _ h => zcx s _ rx h, fun s rx rvs Q E xc hx hr hQ => ?_⟩
      obtain ⟨_, _, rfl, h1, rfl⟩ := hr; exact find_ok hx h1 hQ
    · split at he
      · rename_i hz
        cases he
        obtain ⟨_, h0, rfl, hl⟩ := hz; refine ⟨"str", "str.find", ⟨F.plainAttrs_str, F.slot_str_find, F.type_str_find⟩, fun s rx _ h => zcx s _ rx h, fun s rx rvs Q E xc hx hr hQ => ?_⟩
        obtain ⟨_, _, rfl, h1, _, _, rfl, h2, _, _, rfl, h3, rfl⟩ := hr; exact find4_ok h0 hl hx h1 h2 h3 hQ
      · cases he
    · cases he
  rw [if_neg h_find] at he; by_cases h_index : m = "index"
  · rw [if_pos h_index] at he; subst h_index
    split at he
    · split at he
      · rename_i k hk
        cases he
        refine ⟨"list", "list.index", ⟨F.plainAttrs_list, F.slot_list_index, F.type_list_index⟩, fun s rx _ h => ?_, fun s rx rvs Q E xc hx hr hQ => ?_⟩
        · obtain ⟨_, a, vs, rfl, _, _, ⟨n, ho⟩, _⟩ := h; exact ⟨⟨_, ho, rfl⟩, fun b e => by cases e; exact ⟨_, ho, rfl⟩⟩
        · obtain ⟨_, _, rfl, h1, rfl⟩ := hr; exact index_ok hk hu hx h1 hQ
      · cases he
    · cases he
  rw [if_neg h_index] at he; by_cases h_translate : m = "translate"
  · rw [if_pos h_translate] at he; subst h_translate
    split at he
    · split at he
      · rename_i hz
        cases he
        refine ⟨"str", "str.translate", ⟨F.plainAttrs_str, F.slot_str_translate, F.type_str_translate⟩, fun s rx _ h => zcx s _ rx h, fun s rx rvs Q E xc hx hr hQ => ?_⟩
        obtain ⟨_, _, rfl, h1, rfl⟩ := hr; rw [show _ = _ from h1]; exact trans_ok hp xc hA hz hx hQ
      · cases he
    · cases he
  rw [if_neg h_translate] at he; by_cases h_search : m = "search"
  · rw [if_pos h_search] at he; subst h_search
    split at he
    · split at he
      · rename_i hz
        cases he
        simp only [Bool.and_eq_true, decide_eq_true_eq] at hz; refine ⟨"re.Pattern", "re.Pattern.search", ⟨zfk, ze4, zhv⟩, fun s rx xc h => ?_, fun s rx rvs Q E xc hx hr hQ => ?_⟩
        · obtain ⟨o, _, _, _, h1, h2, h3, _⟩ := hp.pat; have := xc.gs.hard _ _ (by decide) h1; rw [show rx = _ from h]; exact ⟨⟨o, this, h2⟩, fun b e => by cases e; exact ⟨o, this, h3⟩⟩
        · obtain ⟨_, _, rfl, h1, rfl⟩ := hr; rw [show rx = _ from hx]; exact search_ok hp xc hz.1 hz.2 h1 hQ
      · cases he
    · cases he
  rw [if_neg h_search] at he
  cases he
end
end Mine
namespace Mine
open PySem PyProof.Rows PySem.Spec
def AppObj (h : Heap) (b a : Addr) : Prop := ∃ o vs, h.get? b = some o ∧ o.cls = .type "builtin_function_or_method" ∧ o.data = .fields vs ∧ vs[0]? = some (.builtin "list.append") ∧ vs[1]? = some (.ref a)
def SlotR (h : Heap) (O : Addr → Prop) (ow : Nat → Option Addr) (i : Nat) (sl : Option Slot) (ov : Option Value) : Prop := match sl with
  | some (.val v) => ∃ rv, ov = some rv ∧ VR h O v rv
  | some (.own xs) => xs.length ≤ small ∧ ∃ a vs, ov = some (.ref a) ∧ ow i = some a ∧ a ≠ zao ∧ h.PlainList a vs.toArray ∧ VRs h O xs vs
  | some (.app r) => ∃ b, ov = some (.ref b) ∧ b ≠ zao ∧ ∀ a, ow r = some a → AppObj h b a
  | _ => True
def Glob (hb : Heap) (n : Str) (v : Value) : Prop :=
  ∃ mg, hb.Ns mainGlobals mg ∧ (mg n = some v ∨ (mg n = none ∧ ∃ mb, hb.Ns builtinsNs mb ∧ mb n = some v))
structure FK (hb : HB) (c : CT) (env : Env) : Prop where
  kind : env.scope.kind = .function
  loc : env.locals ≠ zao
  kinds : ∀ n i, c.slot n = some i → env.kindOf n = some .local ∨ env.kindOf n = some .cell ∨ env.kindOf n = some .free
  globs : ∀ n v, c.gl.lookup n = some v → Glob hb.h n v
  kindg : ∀ n, c.kind.lookup n = some .globalImplicit → env.kindOf n = some .globalImplicit
  kindc : ∀ n, c.kind.lookup n = some .cell ∨ c.kind.lookup n = some .free → env.kindOf n = some .cell ∨ env.kindOf n = some .free
  apart : ∀ n n' a, env.cells.lookup n = some a → env.cells.lookup n' = some a → n = n'
  gl : env.globals = mainGlobals
  bu : env.builtins = builtinsNs
structure FR (hb : HB) (c : CT) (env : Env) (O : Addr → Prop) (ow : Nat → Option Addr) (σ : zad) (h : Heap) : Prop where
  fk : FK hb c env
  ns : ∃ m, h.Ns env.locals m ∧ ∀ n i, c.slot n = some i → env.kindOf n = some .local → SlotR h O ow i σ[i]? (m n)
  cells : ∀ n i, c.slot n = some i → env.kindOf n = some .cell ∨ env.kindOf n = some .free → ∃ a, env.cells.lookup n = some a ∧ a ≠ zao ∧ ∃ ov, h.IsCell a ov ∧ SlotR h O ow i σ[i]? ov
theorem AppObj.soft {h h' : Heap} {b a : Addr} (x : AppObj h b a) (k : Soft h h') (hb : b ≠ zao) : AppObj h' b a :=
  let ⟨o, vs, ho, hc, hd⟩ := x
  ⟨o, vs, k.get hb (fun _ _ q => by rw [hd.1] at q; cases q) ho, hc, hd⟩
theorem zb4 {h h' : Heap} {a : Addr} {vs} (k : Soft h h') (ha : a ≠ zao) (x : h.PlainList a vs) : h'.PlainList a vs :=
  let ⟨n, e⟩ := x
  ⟨n, k.get ha (fun _ _ q => (nomatch q)) e⟩
theorem SlotR.soft {h h' : Heap} {O : Addr → Prop} {ow : Nat → Option Addr} {i : Nat} (k : Soft h h') {sl : Option Slot} {ov : Option Value} (x : SlotR h O ow i sl ov) : SlotR h' O ow i sl ov := by
  unfold SlotR at x ⊢
  split
  · obtain ⟨rv, e, r⟩ := x; exact ⟨rv, e, r.soft k⟩
  · obtain ⟨z, a, vs, e, ho, ha, hl, r⟩ := x; exact ⟨z, a, vs, e, ho, ha, zb4 k ha hl, r.soft k⟩
  · obtain ⟨b, e, hb, r⟩ := x; exact ⟨b, e, hb, fun a q => (r a q).soft k hb⟩
  · trivial
theorem FR.soft {hb : HB} {h h' : Heap} {c : CT} {env : Env} {O : Addr → Prop} {ow : Nat → Option Addr} {σ : zad} (k : Soft h h') (x : FR hb c env O ow σ h) : FR hb c env O ow σ h' := by
  refine ⟨x.fk, ?_, ?_⟩
  · obtain ⟨m, hn, hr⟩ := x.ns; exact ⟨m, k.ns x.fk.loc hn, fun n i h1 h2 => (hr n i h1 h2).soft k⟩
  · intro n i h1 h2; obtain ⟨a, e, ha, ov, hc, r⟩ := x.cells n i h1 h2; exact ⟨a, e, ha, ov, k.cell ha hc, r.soft k⟩
theorem FR.kp {hb : HB} {s s' : Shared} {c : CT} {env : Env} {O : Addr → Prop} {ow : Nat → Option Addr} {σ : zad} (x : FR hb c env O ow σ s.heap) (k : Kp hb s s') : FR hb c env O ow σ s'.heap := x.soft k.soft
def RM (m : Md) (h : Heap) (O : Addr → Prop) (v : PV) (rv : Value) : Prop := match m with
  | .peek => VR h O v rv ∨ ∃ xs a vs, v = .list xs ∧ rv = .ref a ∧ xs.length ≤ small ∧ a ≠ zao ∧ h.PlainList a vs.toArray ∧ VRs h O xs vs
  | _ => VR h O v rv
theorem RM.of {m : Md} {h : Heap} {O : Addr → Prop} {v : PV} {rv : Value} (x : VR h O v rv) : RM m h O v rv := by
  cases m
  · exact x
  · exact .inl x
  · exact x
theorem RM.soft {m : Md} {h h' : Heap} {O : Addr → Prop} {v : PV} {rv : Value} (x : RM m h O v rv) (k : Soft h h') : RM m h' O v rv := by
  cases m
  · exact VR.soft k x
  · rcases x with x | ⟨xs, a, vs, e1, e2, z, ha, hl, r⟩
    · exact .inl (x.soft k)
    · exact .inr ⟨xs, a, vs, e1, e2, z, ha, zb4 k ha hl, r.soft k⟩
  · exact VR.soft k x
section
variable {M : Model} {A : Around} {E : Value → Shared → Prop} {s : Shared} {hb : HB} {c : CT} {env : Env} {O : Addr → Prop} {ow : Nat → Option Addr} {σ : zad}
theorem zc8 {n : Str} {i : Nat} {Q : Value → Shared → Prop} (x : FR hb c env O ow σ s.heap) (hi : c.slot n = some i) (hs : (n == ("__classdict__" : Str)) = false)
    (hQ : ∀ ov, SlotR s.heap O ow i σ[i]? ov → ∃ rv, ov = some rv ∧ Q rv s) : wpAny M A (loadName env n) Q E s := by
  rcases x.fk.kinds n i hi with h | h
  · obtain ⟨m, hn, hr⟩ := x.ns; obtain ⟨rv, e, q⟩ := hQ _ (hr n i hi h); exact wpAny_loadName_local x.fk.kind h hn e q
  · obtain ⟨a, e, _, ov, hc, r⟩ := x.cells n i hi h; obtain ⟨rv, rfl, q⟩ := hQ _ r; rcases h with h | h
    · exact wpAny_loadName_cell x.fk.kind h e hc q
    · exact wpAny_loadName_free x.fk.kind h e hc q hs
theorem zc7 {n : Str} {v : Value} {Q : Value → Shared → Prop} (x : FK hb c env) (g : GS hb s) (hi : c.glob n = some v) (hQ : Q v s) : wpAny M A (loadName env n) Q E s := by
  have ns : ∀ {a m}, hb.h.Ns a m → a ≠ zao → s.heap.Ns a m := fun ⟨o, es, ep, e, r⟩ ha => ⟨o, es, ep, g.hard _ _ ha e, r⟩
  unfold CT.glob at hi
  split at hi
  · rename_i hkn; have hk := x.kindg n hkn; obtain ⟨mg, hg, h⟩ := x.globs n v hi; rw [loadName_read x.kind hk]; rcases h with h | ⟨h, mb, hb', h2⟩
    · exact Calls.loadGlobal_global (by rw [x.gl]; exact ns hg (by decide)) h hQ
    · exact Calls.loadGlobal_builtin (by rw [x.gl]; exact ns hg (by decide)) h (by rw [x.bu]; exact ns hb' (by decide)) h2 hQ
  · cases hi
theorem val_of {v : PV} {i : Nat} {h : Heap} {ov : Option Value} (hv : zaw σ i = some v) (r : SlotR h O ow i σ[i]? ov) : ∃ rv, ov = some rv ∧ VR h O v rv := by
  unfold zaw at hv
  split at hv
  · rename_i e; cases hv; rw [e] at r; exact r
  · cases hv
theorem peek_of {v : PV} {i : Nat} {h : Heap} {ov : Option Value} (hv : zbe σ i = some v) (r : SlotR h O ow i σ[i]? ov) : ∃ rv, ov = some rv ∧ RM .peek h O v rv := by
  unfold zbe at hv
  split at hv
  · rename_i e; cases hv; rw [e] at r; obtain ⟨rv, e, q⟩ := r; exact ⟨rv, e, .inl q⟩
  · rename_i e; cases hv; rw [e] at r; obtain ⟨z, a, vs, e, _, ha, hl, q⟩ := r; exact ⟨_, e, .inr ⟨_, a, vs, rfl, rfl, z, ha, hl, q⟩⟩
  · cases hv
end
section
variable {prog : Program} {w : World} {A : Around} {E : Value → Shared → Prop} {s : Shared} {hb : HB} {O : Addr → Prop}
theorem peekTruthy {x : PV} {rx : Value} {b : Bool} {Q : Bool → Shared → Prop} (he : truthy x = some b) (hx : RM .peek s.heap O x rx)
    (hQ : ∀ s', Kp hb s s' → Q b s') : wpAny (model prog w) A (PySem.truthy rx) Q E s := by
  rcases hx with hx | ⟨xs, a, vs, rfl, rfl, z, _, hl, r⟩
  · exact zgw he hx hQ
  · cases he
    exact zh2 hl.isList r z hQ
theorem peekIdx {x y v : PV} {rx ry : Value} {Q : Value → Shared → Prop} (he : zan x y = some v) (hx : RM .peek s.heap O x rx) (hy : VR s.heap O y ry)
    (hQ : ∀ rv s', Kp hb s s' → VR s'.heap O v rv → Q rv s') : wpAny (model prog w) A (getItem rx ry) Q E s := by
  rcases hx with hx | ⟨xs, a, vs, rfl, rfl, z, _, hl, r⟩
  · exact idx_ok he hx hy hQ
  · unfold zan at he
    split at he
    · rename_i q; cases q
    · rename_i q; cases q; obtain ⟨u, rfl⟩ := hy
      split at he
      · rename_i k hk; exact list_item hl.isList r z hk he fun rv h => hQ _ _ (.refl ..) h
      · cases he
    · rename_i q; cases q
    · cases he
theorem peekLen {x v : PV} {rx : Value} {Q : Value → Shared → Prop} (hA : A.handled = none) (he : zb3 "len" [x] = some v) (xc : XC hb O s) (hx : RM .peek s.heap O x rx)
    (hQ : ∀ rv s', Kp hb s s' → VR s'.heap O v rv → Q rv s') : wpAny (model prog w) A (call (.builtin "len") [rx]) Q E s := by
  rcases hx with hx | ⟨xs, a, vs, rfl, rfl, z, _, hl, r⟩
  · exact callB_ok he hA xc ⟨_, _, rfl, hx, rfl⟩ hQ
  · have h2 : small = 1048576 := rfl; have h3 := r.length
    cases he
    refine PyProof.Rows.len_list hl.isList (by rw [List.size_toArray]; omega) ?_; refine hQ _ _ .tok ⟨s.toks + 1, ?_⟩; rw [List.size_toArray, h3]
def Frs (A : Around) (hb : HB) : Prop := ∃ l, A.frames = some l ∧ ∀ e ∈ l, e.scope.kind ≠ .module ∧ ∃ L, e.frame = some L ∧ hb.h.get? L = none ∧ (L ∈ hb.fm ∨ L = hb.own)
structure Cx (prog : Program) (w : World) (A : Around) (hb : HB) (Γ : Gam) : Prop where
  handled : A.handled = none
  units : A.units + 64 < cLine
  pats : Pats prog w hb.h
  frs : Frs A hb
  gam : ∀ f vs v, Γ f vs = some v → ∃ a o fd, f = .ref a ∧ a ≠ zao ∧ hb.h.get? a = some o ∧ o.data = .func fd ∧ ∀ O s rvs Q E, XC hb O s → 1 ≤ s.toks → VRs s.heap O vs rvs → (∀ rv s', Kp hb s s' → VR s'.heap O v rv → Q rv s') → wpAny (model prog w) A (call f rvs) Q E s
def OkV (prog : Program) (w : World) (A : Around) (hb : HB) (O : Addr → Prop) (t : Sem Value) (v : PV) (s : Shared) : Prop :=
  ∀ (Q : Value → Shared → Prop) (E : Value → Shared → Prop), (∀ rv s', Kp hb s s' → VR s'.heap O v rv → Q rv s') → wpAny (model prog w) A t Q E s
def OkM (prog : Program) (w : World) (A : Around) (hb : HB) (O : Addr → Prop) (m : Md) (t : Sem Value) (v : PV) (s : Shared) : Prop :=
  ∀ (Q : Value → Shared → Prop) (E : Value → Shared → Prop), (∀ rv s', Kp hb s s' → 1 ≤ s'.toks → RM m s'.heap O v rv → Q rv s') → wpAny (model prog w) A t Q E s
def OkB (prog : Program) (w : World) (A : Around) (hb : HB) (t : Sem Bool) (b : Bool) (s : Shared) : Prop :=
  ∀ (Q : Bool → Shared → Prop) (E : Value → Shared → Prop), (∀ s', Kp hb s s' → 1 ≤ s'.toks → Q b s') → wpAny (model prog w) A t Q E s
def OkL (prog : Program) (w : World) (A : Around) (hb : HB) (O : Addr → Prop) (t : Sem (List Value)) (vs : List PV) (s : Shared) : Prop :=
  ∀ (Q : List Value → Shared → Prop) (E : Value → Shared → Prop), (∀ rvs s', Kp hb s s' → 1 ≤ s'.toks → VRs s'.heap O vs rvs → Q rvs s') → wpAny (model prog w) A t Q E s
theorem OkV.toM {m : Md} {t : Sem Value} {v : PV} (ht : 1 ≤ s.toks) (h : OkV prog w A hb O t v s) : OkM prog w A hb O m t v s :=
  fun Q E hQ => wpAny_with_toks ht (h _ _ fun rv s' k r tk => hQ rv s' k tk (.of r))
def SE (prog : Program) (w : World) (A : Around) (hb : HB) (Γ : Gam) (c : CT) (e : Expr) (pe : PE) : Prop :=
  ∀ (env : Env) (O : Addr → Prop) (ow : Nat → Option Addr) (σ : zad) (s : Shared), FR hb c env O ow σ s.heap → XC hb O s → 1 ≤ s.toks →
    (∀ m v, m ≠ .test → evE Γ pe m σ = some v → OkM prog w A hb O m (eval e env) v s) ∧
    (∀ b, asB (evE Γ pe .test σ) = some b → OkB prog w A hb (isTrue e env (eval e env)) b s)
def SEs (prog : Program) (w : World) (A : Around) (hb : HB) (Γ : Gam) (c : CT) (es : List Expr) (pes : List PE) : Prop :=
  ∀ (env : Env) (O : Addr → Prop) (ow : Nat → Option Addr) (σ : zad) (s : Shared), FR hb c env O ow σ s.heap → XC hb O s → 1 ≤ s.toks →
    ∀ vs, zag Γ pes σ = some vs → ∀ pos, OkL prog w A hb O (spliced (backTo pos (starEach es env))) vs s
def SBs (prog : Program) (w : World) (A : Around) (hb : HB) (Γ : Gam) (c : CT) (op : BoolOp) (es : List Expr) (pe : PE) : Prop :=
  ∀ (env : Env) (O : Addr → Prop) (ow : Nat → Option Addr) (σ : zad) (s : Shared), FR hb c env O ow σ s.heap → XC hb O s → 1 ≤ s.toks →
    (∀ m v pos, m ≠ .test → evE Γ pe m σ = some v → OkM prog w A hb O m (boolOp pos op (evalEach es env)) v s) ∧
    (∀ b, asB (evE Γ pe .test σ) = some b → OkB prog w A hb (allTrue op es env) b s)
theorem SE.val {Γ : Gam} {c : CT} {e : Expr} {pe : PE} (x : SE prog w A hb Γ c e pe) {env : Env} {ow : Nat → Option Addr} {σ : zad} (fr : FR hb c env O ow σ s.heap) (xc : XC hb O s) (ht : 1 ≤ s.toks) {v : PV} (hv : evE Γ pe .val σ = some v) :
    OkM prog w A hb O .val (eval e env) v s := (x env O ow σ s fr xc ht).1 .val v (by decide) hv
theorem SE.peek {Γ : Gam} {c : CT} {e : Expr} {pe : PE} (x : SE prog w A hb Γ c e pe) {env : Env} {ow : Nat → Option Addr} {σ : zad} (fr : FR hb c env O ow σ s.heap) (xc : XC hb O s) (ht : 1 ≤ s.toks) {v : PV} (hv : evE Γ pe .peek σ = some v) :
    OkM prog w A hb O .peek (eval e env) v s := (x env O ow σ s fr xc ht).1 .peek v (by decide) hv
theorem SE.test {Γ : Gam} {c : CT} {e : Expr} {pe : PE} (x : SE prog w A hb Γ c e pe) {env : Env} {ow : Nat → Option Addr} {σ : zad} (fr : FR hb c env O ow σ s.heap) (xc : XC hb O s) (ht : 1 ≤ s.toks) {b : Bool} (hv : asB (evE Γ pe .test σ) = some b) :
    OkB prog w A hb (isTrue e env (eval e env)) b s := (x env O ow σ s fr xc ht).2 b hv
theorem SE.gen {Γ : Gam} {c : CT} {e : Expr} {pe : PE} (he : ∀ env, isTrue e env (eval e env) = (do let v ← eval e env; standAt e.pos; holding [v] (PySem.truthy v)))
    (X : zad → Option PV) (hX : ∀ m σ, evE Γ pe m σ = fin m (X σ))
    (main : ∀ (env : Env) (O : Addr → Prop) (ow : Nat → Option Addr) (σ : zad) (s : Shared), FR hb c env O ow σ s.heap → XC hb O s → 1 ≤ s.toks → ∀ v, X σ = some v → OkV prog w A hb O (eval e env) v s) :
    SE prog w A hb Γ c e pe := by
  intro env O ow σ s fr xc ht; refine ⟨fun m v hm hv => ?_, fun b hb' Q E hQ => ?_⟩
  · rw [hX m] at hv; have hv : X σ = some v := by cases m <;> first | exact hv | exact absurd rfl hm
    exact (main env O ow σ s fr xc ht v hv).toM ht
  · rw [hX] at hb'
    cases hx : X σ with
    | none => rw [hx] at hb'; cases hb'
    | some v =>
      rw [hx] at hb'
      cases htr : truthy v with
      | none => simp [fin, htr, asB] at hb'
      | some b' =>
        have : b' = b := by simpa [fin, htr, asB] using hb'
        subst this
        refine wpAny_with_toks ht (wpAny_isTrue_value ?_ (he env))
        exact main env O ow σ s fr xc ht v hx _ _ fun rv s' k r => zgw (O := O) (hb := hb) htr r fun s'' k' tk => hQ s'' (k.trans k') tk
end
section
variable {M : Model} {A : Around} {E : Value → Shared → Prop} {s : Shared} {env : Env}
theorem zg0 {slice : Expr} (h : ∀ lo hi p, slice ≠ .Slice lo hi none p) (o i : Value) : subscripted slice false o i = operate [o, i] (getItem o i) := by
  unfold subscripted
  split
  · exact absurd rfl (h _ _ _)
  · contradiction
  · rfl
end
section
variable {prog : Program} {w : World} {A : Around} {E : Value → Shared → Prop} {s : Shared} {env : Env}
theorem sub_idx {value slice : Expr} {pos : Pos} {Q : Value → Shared → Prop} (hns : ∀ lo hi p, slice ≠ .Slice lo hi none p)
    (h : wpAny (model prog w) A (eval value env) (fun o s₁ => wpAny (model prog w) A (eval slice env) (fun i s₂ => (∃ T id, s₂.TypeIs o T ∧ typeLookup (.type T) "__getitem__" = pure (some (.builtin id))) ∧ wpAny (model prog w) A (getItem o i) Q E s₂) E s₁) E s) :
    wpAny (model prog w) A (eval (.Subscript value slice pos) env) Q E s := by
  rw [eval_Subscript]; refine wpAny_bind (wpAny_mono h (fun o s₁ h₁ => wpAny_bind (wpAny_holding (wpAny_mono h₁ (fun i s₂ h₂ => wpAny_bind (wpAny_standAt ?_)) fun _ _ x => x)))
    fun _ _ x => x)
  obtain ⟨⟨T, id, hT, hl⟩, hg⟩ := h₂; refine wpAny_bind ?_; rw [getitemInPython_of_ne hT.not_modules]; refine wpAny_bind (wpAny_specialOf hT hl ?_); have fin : wpAny (model prog w) A (subscripted slice false o i) (fun r s₃ => wpAny (model prog w) A (letTemporaryGo value o r >>= fun _ => pure r) Q E s₃) E s₂ := by
    rw [zg0 hns]; exact wpAny_operating (wpAny_mono hg (fun r s₃ h₃ => wpAny_bind (wpAny_letTemporaryGo (wpAny_pure h₃))) fun _ _ x => x)
  first
    | exact wpAny_pure (wpAny_bind fin)
    | exact wpAny_bind (wpAny_pure (wpAny_bind fin))
    | exact wpAny_bind fin
theorem sub_slice {value : Expr} {lower upper : Option Expr} {p pos : Pos} {Q : Value → Shared → Prop}
    (h : wpAny (model prog w) A (eval value env) (fun o s₁ => wpAny (model prog w) A (eval (.Slice lower upper none p) env) (fun i s₂ => (∃ T id, s₂.TypeIs o T ∧ typeLookup (.type T) "__getitem__" = pure (some (.builtin id))) ∧ wpAny (model prog w) A (getItem o i) Q E s₂) E s₁) E s) :
    wpAny (model prog w) A (eval (.Subscript value (.Slice lower upper none p) pos) env) Q E s := by
  rw [eval_Subscript]; refine wpAny_bind (wpAny_mono h (fun o s₁ h₁ => wpAny_bind (wpAny_holding (wpAny_mono h₁ (fun i s₂ h₂ => wpAny_bind (wpAny_standAt ?_)) fun _ _ x => x)))
    fun _ _ x => x)
  obtain ⟨⟨T, id, hT, hl⟩, hg⟩ := h₂; refine wpAny_bind ?_; rw [getitemInPython_of_ne hT.not_modules]; refine wpAny_bind (wpAny_specialOf hT hl ?_); have fin : wpAny (model prog w) A (operate [i, o] (getItem o i)) (fun r s₃ => wpAny (model prog w) A (letTemporaryGo value o r >>= fun _ => pure r) Q E s₃) E s₂ :=
    wpAny_operating (wpAny_mono hg (fun r s₃ h₃ => wpAny_bind (wpAny_letTemporaryGo (wpAny_pure h₃))) fun _ _ x => x)
  first
    | exact wpAny_pure (wpAny_bind fin)
    | exact wpAny_bind (wpAny_pure (wpAny_bind fin))
    | exact wpAny_bind fin
end
end Mine
namespace Mine
open PySem PyProof.Rows PySem.Spec
section
variable {prog : Program} {w : World} {A : Around} {hb : HB} {Γ : Gam} {c : CT}
theorem okS_const {x : Str} (h : x.cps.size ≤ 1000 ∧ (x.cps.toList.all fun c => decide (c < 1114112)) = true) : okS x.cps.toList := by
  refine ⟨?_, fun d hd => ?_⟩
  · have h2 : small = 1048576 := rfl; rw [Array.length_toList]; omega
  · exact of_decide_eq_true (List.all_eq_true.mp h.2 d hd)
theorem const_ok {k : Const} {v : PV} (h : zfg k = some v) {env : Env} {O : Addr → Prop} {s : Shared} : OkV prog w A hb O (constValue env k) v s := by
  intro Q E hQ; unfold zfg at h
  split at h
  · cases h; exact wpAny_pure (hQ _ _ (.refl ..) rfl)
  · cases h; exact wpAny_pure (hQ _ _ (.refl ..) rfl)
  · cases h
    exact wpAny_Constant_int (k := default) (pos := default) (env := env) (hQ _ _ .tok ⟨_, rfl⟩)
  · split at h
    · rename_i hz
      cases h
      exact wpAny_Constant_str (k := default) (pos := default) (env := env) (hQ _ _ .tok ⟨okS_const hz, s.toks, by simp⟩)
    · cases h
  · cases h
theorem zeu {k : Const} {v : PV} (h : zfg k = some v) {kd pos} : SE prog w A hb Γ c (.Constant k kd pos) (.lit v) := by
  refine SE.gen (fun _ => rfl) (fun _ => some v) (fun m σ => rfl) fun env O ow σ s fr xc ht v' hv => ?_
  cases hv
  rw [eval_Constant]; exact const_ok h
theorem zax {x : Str} (h : zam x = true) : (x == ("__debug__" : Str)) = false ∧ (x == ("__classdict__" : Str)) = false := by
  unfold zam at h; simpa using h
theorem zdc {x : Str} {p : Pos} {i : Nat} (h : zam x = true) (hi : c.slot x = some i) : SE prog w A hb Γ c (.Name x p) (.var i) := by
  intro env O ow σ s fr xc ht; obtain ⟨h1, h2⟩ := zax h; refine ⟨fun m v hm hv Q E hQ => ?_, fun b hv Q E hQ => ?_⟩
  · refine wpAny_Name (zc8 fr hi h2 fun ov r => ?_) h1
    cases m
    · obtain ⟨rv, e, q⟩ := val_of hv r; exact ⟨rv, e, hQ _ _ (.refl ..) ht q⟩
    · obtain ⟨rv, e, q⟩ := peek_of hv r; exact ⟨rv, e, hQ _ _ (.refl ..) ht q⟩
    · exact absurd rfl hm
  · have hv : asB (fin .test (zbe σ i)) = some b := hv
    cases hx : zbe σ i with
    | none => rw [hx] at hv; cases hv
    | some v =>
      rw [hx] at hv
      cases htr : truthy v with
      | none => simp [fin, htr, asB] at hv
      | some b' =>
        have : b' = b := by simpa [fin, htr, asB] using hv
        subst this
        refine wpAny_with_toks ht (wpAny_isTrue_value (wpAny_Name (zc8 fr hi h2 fun ov r => ?_) h1))
        obtain ⟨rv, e, q⟩ := peek_of hx r
        exact ⟨rv, e, peekTruthy (hb := hb) htr q fun s' k tk => hQ s' k tk⟩
theorem se_gl {x : Str} {p : Pos} {v : Value} (h : zam x = true) (hi : c.glob x = some v) : SE prog w A hb Γ c (.Name x p) (.gl v) := by
  refine SE.gen (fun _ => rfl) (fun _ => some (.fn v)) (fun m σ => rfl) fun env O ow σ s fr xc ht v' hv => ?_
  cases hv
  obtain ⟨h1, h2⟩ := zax h; intro Q E hQ; exact wpAny_Name (zc7 fr.fk xc.gs hi (hQ _ _ (.refl ..) rfl)) h1
theorem se_bin {l r : Expr} {op : Operator} {p : Pos} {a b : PE} (ha : SE prog w A hb Γ c l a) (hb' : SE prog w A hb Γ c r b) : SE prog w A hb Γ c (.BinOp l op r p) (.bin op a b) := by
  refine SE.gen (fun _ => rfl) (fun σ => match evE Γ a .val σ with
    | some x => (match evE Γ b .val σ with | some y => zaf op x y | none => none)
    | none => none) (fun m σ => rfl) fun env O ow σ s fr xc ht v hv => ?_
  intro Q E hQ
  split at hv
  · rename_i x hx
    split at hv
    · rename_i y hy; refine wpAny_BinOp (ha.val fr xc ht hx _ _ fun rx s₁ k₁ t₁ r₁ => ?_)
      refine hb'.val (fr.kp k₁) (xc.kp k₁) t₁ hy _ _ fun ry s₂ k₂ t₂ r₂ => ?_
      exact bin_ok hv ((xc.kp k₁).kp k₂) (VR.kp k₂ r₁) r₂ fun rv s' k r => hQ rv s' ((k₁.trans k₂).trans k) r
    · cases hv
  · cases hv
theorem se_neg {i : Int} {k p q} : SE prog w A hb Γ c (.UnaryOp .USub (.Constant (.int i) k p) q) (.neg i) := by
  refine SE.gen (fun _ => rfl) (fun _ => some (.int (-i))) (fun m σ => rfl) fun env O ow σ s fr xc ht v hv => ?_
  cases hv
  intro Q E hQ; refine wpAny_UnaryOp (wpAny_Constant_int ?_); exact PyProof.Rows.neg_int (hQ _ _ .tok ⟨_, rfl⟩)
theorem se_not {x : Expr} {p : Pos} {a : PE} (ha : SE prog w A hb Γ c x a) : SE prog w A hb Γ c (.UnaryOp .Not x p) (.nt a) := by
  intro env O ow σ s fr xc ht; refine ⟨fun m v hm hv Q E hQ => ?_, fun b hv Q E hQ => ?_⟩
  · cases m
    · cases hv
    · cases hv
    · exact absurd rfl hm
  · have hv : asB ((asB (evE Γ a .test σ)).map fun b => .bool (!b)) = some b := hv
    cases h : asB (evE Γ a .test σ) with
    | none => rw [h] at hv; cases hv
    | some t =>
      rw [h] at hv
      have hv : some (!t) = some b := hv
      cases hv
      exact wpAny_isTrue_Not (ha.test fr xc ht h _ _ fun s' k t' => hQ _ k t')
theorem se_cmp {l r : Expr} {op : CmpOp} {p : Pos} {a b : PE} (hm : behindInMarks op r = false) (ha : SE prog w A hb Γ c l a) (hb' : SE prog w A hb Γ c r b) (hu : A.units + 64 < cLine) : SE prog w A hb Γ c (.Compare l [op] [r] p) (.cmp op a b) := by
  have main : ∀ (env : Env) (O : Addr → Prop) (ow : Nat → Option Addr) (σ : zad) (s : Shared), FR hb c env O ow σ s.heap → XC hb O s → 1 ≤ s.toks → ∀ t, (match evE Γ a .val σ with
    | some x => (match evE Γ b .val σ with | some y => zae op x y | none => none)
    | none => none) = some t → ∀ (Q : Value → Shared → Prop) (E : Value → Shared → Prop), (∀ s', Kp hb s s' → 1 ≤ s'.toks → Q (.bool t) s') →
      wpAny (model prog w) A (eval l env) (fun x s₁ => wpAny (model prog w) A (eval r env) (fun y s₂ => wpAny (model prog w) A (compareOp op x y) Q E s₂) E s₁) E s := by
    intro env O ow σ s fr xc ht t hv Q E hQ
    split at hv
    · rename_i x hx
      split at hv
      · rename_i y hy; refine ha.val fr xc ht hx _ _ fun rx s₁ k₁ t₁ r₁ => ?_
        refine hb'.val (fr.kp k₁) (xc.kp k₁) t₁ hy _ _ fun ry s₂ k₂ t₂ r₂ => ?_
        exact cmp_ok hv (VR.kp k₂ r₁) r₂ hu (hQ _ (k₁.trans k₂) t₂)
      · cases hv
    · cases hv
  have key : ∀ (m : Md) (σ : zad) (v : PV), evE Γ (.cmp op a b) m σ = some v → ∃ t, (match evE Γ a .val σ with
    | some x => (match evE Γ b .val σ with | some y => zae op x y | none => none)
    | none => none) = some t ∧ v = .bool t := by
    intro m σ v hv; have hv : fin m (match evE Γ a .val σ with
      | some x => (match evE Γ b .val σ with | some y => (zae op x y).map .bool | none => none)
      | none => none) = some v := hv
    cases hx : evE Γ a .val σ with
    | none => rw [hx] at hv; cases m <;> cases hv
    | some x =>
      cases hy : evE Γ b .val σ with
      | none => rw [hx, hy] at hv; cases m <;> cases hv
      | some y =>
        rw [hx, hy] at hv
        cases hc : zae op x y with
        | none => dsimp only at hv; rw [hc] at hv; cases m <;> cases hv
        | some t =>
          dsimp only at hv; rw [hc] at hv
          refine ⟨t, hc, ?_⟩
          cases m <;> cases hv <;> rfl
  intro env O ow σ s fr xc ht; refine ⟨fun m v hm' hv Q E hQ => ?_, fun t hv Q E hQ => ?_⟩
  · obtain ⟨t, h, rfl⟩ := key m σ v hv; exact wpAny_Compare1 (main env O ow σ s fr xc ht t h _ _ fun s' k t' => hQ _ _ k t' (.of rfl)) hm
  · cases hx : evE Γ (.cmp op a b) .test σ with
    | none => rw [hx] at hv; cases hv
    | some v =>
      obtain ⟨t', h, rfl⟩ := key .test σ v hx
      rw [hx] at hv; cases hv
      exact wpAny_isTrue_Compare1 (main env O ow σ s fr xc ht t h _ _ fun s' k t' => wpAny_truthy_bool (hQ _ k t')) hm
theorem se_ife {t b o : Expr} {p : Pos} {x y z : PE} (hx : SE prog w A hb Γ c t x) (hy : SE prog w A hb Γ c b y) (hz : SE prog w A hb Γ c o z) : SE prog w A hb Γ c (.IfExp t b o p) (.ife x y z) := by
  intro env O ow σ s fr xc ht; refine ⟨fun m v hm hv Q E hQ => ?_, fun r hv Q E hQ => ?_⟩
  · have hv : (match asB (evE Γ x .test σ) with
      | some true => evE Γ y m σ
      | some false => evE Γ z m σ
      | none => none) = some v := hv
    cases h : asB (evE Γ x .test σ) with
    | none => rw [h] at hv; cases hv
    | some q =>
      rw [h] at hv
      refine wpAny_IfExp (hx.test fr xc ht h _ _ fun s₁ k₁ t₁ => ?_)
      cases q
      · exact (hz env O ow σ s₁ (fr.kp k₁) (xc.kp k₁) t₁).1 m v hm hv _ _ fun rv s' k => hQ rv s' (k₁.trans k)
      · exact (hy env O ow σ s₁ (fr.kp k₁) (xc.kp k₁) t₁).1 m v hm hv _ _ fun rv s' k => hQ rv s' (k₁.trans k)
  · have hv : asB (match asB (evE Γ x .test σ) with
      | some true => evE Γ y .test σ
      | some false => evE Γ z .test σ
      | none => none) = some r := hv
    cases h : asB (evE Γ x .test σ) with
    | none => rw [h] at hv; cases hv
    | some q =>
      rw [h] at hv
      rw [arm_isTrue_IfExp]
      refine wpAny_bind (hx.test fr xc ht h _ _ fun s₁ k₁ t₁ => ?_)
      cases q
      · exact hz.test (fr.kp k₁) (xc.kp k₁) t₁ hv _ _ fun s' k => hQ s' (k₁.trans k)
      · exact hy.test (fr.kp k₁) (xc.kp k₁) t₁ hv _ _ fun s' k => hQ s' (k₁.trans k)
theorem idx_type {x v y : PV} {O : Addr → Prop} {rx : Value} {s : Shared} (hv : zan x y = some v) (r : RM .peek s.heap O x rx) : ∃ T id, s.TypeIs rx T ∧ typeLookup (.type T) "__getitem__" = pure (some (.builtin id)) := by
  unfold zan at hv
  split at hv
  · rcases r with ⟨_, t, rfl⟩ | ⟨xs, a, vs, e, _⟩
    · exact ⟨"str", _, typeIs_str _ _ _, slot_str_getitem.lookup⟩
    · cases e
  · rcases r with ⟨_, a, vs, rfl, _, _, hl, _⟩ | ⟨xs, a, vs, e, rfl, _, _, hl, _⟩
    · exact ⟨"list", _, hl.isList.typeIs, slot_list_getitem.lookup⟩
    · exact ⟨"list", _, hl.isList.typeIs, slot_list_getitem.lookup⟩
  · rcases r with ⟨_, a, vs, rfl, _, _, hl, _⟩ | ⟨xs, a, vs, e, _⟩
    · obtain ⟨o, ho, hc, _⟩ := hl; exact ⟨"tuple", _, ⟨o, ho, hc⟩, slot_tuple_getitem.lookup⟩
    · cases e
  · cases hv
theorem se_idx {l i : Expr} {p : Pos} {a b : PE} (hns : ∀ lo hi p, i ≠ .Slice lo hi none p) (ha : SE prog w A hb Γ c l a) (hb' : SE prog w A hb Γ c i b) : SE prog w A hb Γ c (.Subscript l i p) (.idx a b) := by
  refine SE.gen (fun _ => rfl) (fun σ => match evE Γ a .peek σ with
    | some x => (match evE Γ b .val σ with | some y => zan x y | none => none)
    | none => none) (fun m σ => rfl) fun env O ow σ s fr xc ht v hv => ?_
  intro Q E hQ
  split at hv
  · rename_i x hx
    split at hv
    · rename_i y hy; refine sub_idx hns (ha.peek fr xc ht hx _ _ fun rx s₁ k₁ t₁ r₁ => ?_)
      refine hb'.val (fr.kp k₁) (xc.kp k₁) t₁ hy _ _ fun ry s₂ k₂ t₂ r₂ => ?_
      have r₁ := r₁.soft k₂.soft; exact ⟨idx_type hv r₁, peekIdx hv r₁ r₂ fun rv s' k r => hQ rv s' ((k₁.trans k₂).trans k) r⟩
    · cases hv
  · cases hv
theorem slc_type {x v y z : PV} {O : Addr → Prop} {rx : Value} {s : Shared} (hv : zas x y z = some v) (r : VR s.heap O x rx) : ∃ T id, s.TypeIs rx T ∧ typeLookup (.type T) "__getitem__" = pure (some (.builtin id)) := by
  unfold zas at hv
  split at hv
  · obtain ⟨_, t, rfl⟩ := r; exact ⟨"str", _, typeIs_str _ _ _, slot_str_getitem.lookup⟩
  · obtain ⟨_, a, vs, rfl, _, _, hl, _⟩ := r; exact ⟨"list", _, hl.isList.typeIs, slot_list_getitem.lookup⟩
  · cases hv
def SEo (prog : Program) (w : World) (A : Around) (hb : HB) (Γ : Gam) (c : CT) (e : Option Expr) (pe : PE) : Prop :=
  ∀ (env : Env) (O : Addr → Prop) (ow : Nat → Option Addr) (σ : zad) (s : Shared), FR hb c env O ow σ s.heap → XC hb O s → 1 ≤ s.toks →
    ∀ v, evE Γ pe .val σ = some v → OkM prog w A hb O .val (evalPart e env) v s
theorem seo_none : SEo prog w A hb Γ c none (.lit .nul) := by
  intro env O ow σ s fr xc ht v hv
  cases hv
  intro Q E hQ; exact wpAny_evalPart_none (hQ _ _ (.refl ..) ht rfl)
theorem seo_some {e : Expr} {pe : PE} (h : SE prog w A hb Γ c e pe) : SEo prog w A hb Γ c (some e) pe := by
  intro env O ow σ s fr xc ht v hv; intro Q E hQ; exact wpAny_evalPart_some (h.val fr xc ht hv _ _ hQ)
theorem se_slc {l : Expr} {lo hi : Option Expr} {p q : Pos} {a x y : PE} (ha : SE prog w A hb Γ c l a) (hx : SEo prog w A hb Γ c lo x) (hy : SEo prog w A hb Γ c hi y) : SE prog w A hb Γ c (.Subscript l (.Slice lo hi none p) q) (.slc a x y) := by
  refine SE.gen (fun _ => rfl) (fun σ => match evE Γ a .val σ with
    | some v => (match evE Γ x .val σ with
      | some y' => (match evE Γ y .val σ with | some z => zas v y' z | none => none)
      | none => none)
    | none => none) (fun m σ => rfl) fun env O ow σ s fr xc ht v hv => ?_
  intro Q E hQ
  split at hv
  · rename_i va hva
    split at hv
    · rename_i vx hvx
      split at hv
      · rename_i vy hvy; refine sub_slice (ha.val fr xc ht hva _ _ fun rx s₁ k₁ t₁ r₁ => ?_)
        refine wpAny_Slice (hx env O ow σ s₁ (fr.kp k₁) (xc.kp k₁) t₁ vx hvx _ _ fun rlo s₂ k₂ t₂ r₂ => ?_)
        refine hy env O ow σ s₂ ((fr.kp k₁).kp k₂) ((xc.kp k₁).kp k₂) t₂ vy hvy _ _ fun rhi s₃ k₃ t₃ r₃ => ?_
        refine wpAny_evalPart_none ?_; have xc₃ := ((xc.kp k₁).kp k₂).kp k₃; have q₁ := VR.kp (k₂.trans k₃) r₁; refine ⟨?_, slc_ok hv xc₃ q₁ (VR.kp k₃ r₂) r₃ fun rv s' k r => hQ rv s' (((k₁.trans k₂).trans k₃).trans k) r⟩
        exact slc_type hv (VR.kp (Kp.push (hb := hb) (tk := s₃.toks)) q₁)
      · cases hv
    · cases hv
  · cases hv
end
end Mine
namespace Mine
open PySem PyProof.Rows PySem.Spec
section
variable {prog : Program} {w : World} {A : Around} {hb : HB} {Γ : Gam} {c : CT}
def zce (env : Env) (es : List Expr) : Prop := ∀ pos, (backTo pos (starEach es env)).any (·.1) = false ∧ (backTo pos (starEach es env)).all (fun x => !x.1) = true
theorem zb7 {e : Expr} {pe : PE} (h : cE c e = some pe) (es : List Expr) (env : Env) : starEach (e :: es) env = (false, eval e env) :: starEach es env := by
  cases e <;> first | rfl | (simp [cE] at h)
theorem zbi {env : Env} : ∀ {es : List Expr} {pes : List PE}, cEs c es = some pes → zce env es
  | [], _, _ => fun _ => ⟨rfl, rfl⟩
  | e :: es, pes, h => fun pos => by
    rw [cEs] at h
    split at h
    · rename_i a b h1 h2; have ih := zbi (env := env) h2 pos; rw [zb7 h1]; exact ⟨by show (false || _) = false; rw [Bool.false_or]; exact ih.1, by show (true && _) = true; rw [Bool.true_and]; exact ih.2⟩
    · cases h
theorem ses_nil : SEs prog w A hb Γ c [] [] := by
  intro env O ow σ s fr xc ht vs hv pos Q E hQ
  cases hv
  exact wpAny_items_nil (hQ _ _ (.refl ..) ht rfl)
theorem ses_cons {e : Expr} {es : List Expr} {pe : PE} {pes : List PE} (h : cE c e = some pe) (h1 : SE prog w A hb Γ c e pe) (h2 : SEs prog w A hb Γ c es pes) : SEs prog w A hb Γ c (e :: es) (pe :: pes) := by
  intro env O ow σ s fr xc ht vs hv pos Q E hQ; rw [zag] at hv
  split at hv
  · rename_i v hx
    split at hv
    · rename_i r hr
      cases hv
      refine wpAny_items_cons (h1.val fr xc ht hx _ _ fun rv s₁ k₁ t₁ r₁ => ?_) (zb7 h _ _)
      exact h2 env O ow σ s₁ (fr.kp k₁) (xc.kp k₁) t₁ r hr pos _ _ fun rvs s₂ k₂ t₂ r₂ => hQ _ _ (k₁.trans k₂) t₂ ⟨rv, rvs, rfl, VR.kp k₂ r₁, r₂⟩
    · cases hv
  · cases hv
theorem args_ok {es : List Expr} {pes : List PE} (h : cEs c es = some pes) (h1 : SEs prog w A hb Γ c es pes) {env : Env} {O : Addr → Prop} {ow : Nat → Option Addr} {σ : zad} {s : Shared} (fr : FR hb c env O ow σ s.heap) (xc : XC hb O s) (ht : 1 ≤ s.toks)
    {vs : List PV} (hv : zag Γ pes σ = some vs) {f : Value} {pos : Pos} {Q : Args → Shared → Prop} {E : Value → Shared → Prop} (hQ : ∀ rvs s', Kp hb s s' → 1 ≤ s'.toks → VRs s'.heap O vs rvs → Q ⟨rvs, []⟩ s') :
    wpAny (model prog w) A (evalArgs f true (backTo pos (starEach es env)) []) Q E s := by
  cases es with
  | nil =>
    cases h; cases hv
    exact PySem.evalArgs_none (hQ _ _ (.refl ..) ht rfl)
  | cons e es =>
    have h' := h
    rw [cEs] at h'
    split at h'
    · rename_i a b h2 h3; have := h1 env O ow σ s fr xc ht vs hv pos; rw [zb7 h2] at this ⊢; exact Calls.evalArgs_plain (this _ _ fun rvs s' k t r => hQ rvs s' k t r)
    · cases h'
theorem se_len {x : Str} {np pos : Pos} {e : Expr} {pe : PE} (h : zam x = true) (hi : c.glob x = some (.builtin "len")) (hc : cE c e = some pe) (he : SE prog w A hb Γ c e pe) (hA : A.handled = none) :
    SE prog w A hb Γ c (.Call (.Name x np) [e] [] pos) (.len pe) := by
  refine SE.gen (fun _ => rfl) (fun σ => match evE Γ pe .peek σ with | some x => zb3 "len" [x] | none => none) (fun m σ => rfl) fun env O ow σ s fr xc ht v hv => ?_
  intro Q E hQ
  split at hv
  · rename_i x hx; refine wpAny_Call_NameR (wpAny_Name (zc7 fr.fk xc.gs hi ?_) (zax h).1); have hun := zbi (c := c) (env := env) (es := [e]) (pes := [pe]) (by rw [cEs, hc]; rfl) pos; refine Calls.callWith_builtin hun.1 ?_; rw [zb7 hc]; refine Calls.evalArgs_plain (Calls.spliced_cons (he.peek fr xc ht hx _ _ fun rv s₁ k₁ t₁ r₁ => ?_))
    refine Calls.spliced_nil ?_; exact peekLen hA hv (xc.kp k₁) r₁ fun rv s' k r => hQ rv s' (k₁.trans k) r
  · cases hv
def callF (Γ : Gam) (f : Value) (vs : List PV) : Option PV := match f with
  | .builtin n => zb3 n vs
  | .type n => callT n vs
  | f => Γ f vs
theorem se_call {x : Str} {np pos : Pos} {es : List Expr} {pes : List PE} {f : Value} (h : zam x = true) (hi : c.glob x = some f) (hc : cEs c es = some pes) (he : SEs prog w A hb Γ c es pes) (cx : Cx prog w A hb Γ) :
    SE prog w A hb Γ c (.Call (.Name x np) es [] pos) (.call f pes) := by
  refine SE.gen (fun _ => rfl) (fun σ => match zag Γ pes σ with
    | some vs => callF Γ f vs
    | none => none) (fun m σ => by cases f <;> rfl) fun env O ow σ s fr xc ht v hv => ?_
  intro Q E hQ
  split at hv
  · rename_i vs hx; refine wpAny_Call_NameR (wpAny_Name (zc7 fr.fk xc.gs hi ?_) (zax h).1); have hun := zbi (env := env) hc pos; unfold callF at hv
    split at hv
    · refine Calls.callWith_builtin hun.1 (args_ok hc he fr xc ht hx fun rvs s₁ k₁ t₁ r₁ => ?_)
      exact callB_ok hv cx.handled (xc.kp k₁) r₁ fun rv s' k r => hQ rv s' (k₁.trans k) r
    · refine PySem.callWith_type hun.1 (args_ok hc he fr xc ht hx fun rvs s₁ k₁ t₁ r₁ => ?_)
      exact callT_ok hv (xc.kp k₁) r₁ fun rv s' k r => hQ rv s' (k₁.trans k) r
    · obtain ⟨a, o, fd, rfl, ha, ho, hd, hcall⟩ := cx.gam _ _ _ hv; refine Calls.callWith_function (o := o) (fd := fd) (args_ok hc he fr xc ht hx fun rvs s₁ k₁ t₁ r₁ => ?_)
      refine ⟨⟨(xc.kp k₁).gs.hard _ _ ha ho, hd⟩, ?_⟩; exact hcall O s₁ rvs _ _ (xc.kp k₁) t₁ r₁ fun rv s' k r => hQ rv s' (k₁.trans k) r
  · cases hv
theorem zct {o : Expr} (h : zd0 o = true) (name : Str) (env : Env) (whole : Sem Value) : attributeBase o name env whole = whole := by
  unfold attributeBase
  split
  · simp [zd0] at h
  · rfl
theorem zd8 {env : Env} {es : List Expr} {pos : Pos} (h : zce env es) (hl : es.length < 20) : ((backTo pos (starEach es env)).all (fun x => !x.1) && (backToKw pos (keywordEach [] env)).all (fun x => x.1.isSome)
      && decide (es.length + ([] : List Keyword).length + (if ([] : List Keyword).isEmpty then 0 else 1) < 30)) = true := by
  rw [(h pos).2]; simp [keywordEach, backToKw]; omega
theorem se_meth {o : Expr} {m : Str} {ap pos : Pos} {es : List Expr} {pe : PE} {pes : List PE} (h1 : zd0 o = true) (h2 : (ap.endLine == pos.line) = true) (h3 : es.length < 20) (ho : SE prog w A hb Γ c o pe) (hc : cEs c es = some pes)
    (he : SEs prog w A hb Γ c es pes) (cx : Cx prog w A hb Γ) : SE prog w A hb Γ c (.Call (.Attribute o m ap) es [] pos) (.meth m pe pes) := by
  refine SE.gen (fun _ => rfl) (fun σ => match evE Γ pe .val σ with
    | some x => (match zag Γ pes σ with | some vs => za3 m x vs | none => none)
    | none => none) (fun m σ => rfl) fun env O ow σ s fr xc ht v hv => ?_
  intro Q E hQ
  split at hv
  · rename_i x hx
    split at hv
    · rename_i vs hvs; obtain ⟨T, id, mw, hT, hgo⟩ := meth_at (prog := prog) (w := w) (A := A) (O := O) hv cx.pats cx.handled cx.units; have hun := zbi (env := env) hc; refine wpAny_Call_method (zct h1 ..) (zd8 hun h3) h2 mw.1 mw.2 mw.3 (ho.val fr xc ht hx _ _ fun rx s₁ k₁ t₁ r₁ => ?_)
      have q := hT s₁ rx (xc.kp k₁) r₁; refine ⟨q.1, q.2, ?_⟩; refine Calls.callWith_builtin (hun pos).1 (args_ok hc he (fr.kp k₁) (xc.kp k₁) t₁ hvs fun rvs s₂ k₂ t₂ r₂ => ?_)
      exact hgo s₂ rx rvs _ _ ((xc.kp k₁).kp k₂) (VR.kp k₂ r₁) r₂ fun rv s' k r => hQ rv s' ((k₁.trans k₂).trans k) r
    · cases hv
  · cases hv
theorem se_repl {o : Expr} {ap pos p1 p2 : Pos} {a b : Str} {k1 k2} {pe : PE} (h1 : zd0 o = true) (h2 : (ap.endLine == pos.line) = true) (ha : a.cps.size = 1) (hb' : (b.cps.toList.all fun c => decide (c < 1114112)) = true) (ho : SE prog w A hb Γ c o pe) :
    SE prog w A hb Γ c (.Call (.Attribute o ("replace" : Str) ap) [.Constant (.str a) k1 p1, .Constant (.str b) k2 p2] [] pos) (.repl pe (a.cps.getD 0 0) b.cps.toList) := by
  refine SE.gen (fun _ => rfl) (fun σ => match evE Γ pe .val σ with
    | some (.str s) => if s.length ≤ 65536 ∧ b.cps.toList.length ≤ 14 ∧ ([a.cps.getD 0 0] : List Nat) ≠ b.cps.toList ∧ (zbu (a.cps.getD 0 0) b.cps.toList s).length ≤ small then some (.str (zbu (a.cps.getD 0 0) b.cps.toList s)) else none
    | _ => none) (fun m σ => rfl) fun env O ow σ s fr xc ht v hv => ?_
  intro Q E hQ
  split at hv
  · rename_i l hx
    split at hv
    · rename_i hz
      cases hv
      obtain ⟨z1, z2, z3, z4⟩ := hz; have hun : zce env [.Constant (.str a) k1 p1, .Constant (.str b) k2 p2] := fun _ => ⟨rfl, rfl⟩
      refine wpAny_Call_method (zct h1 ..) (zd8 hun (by show 2 < 20; decide)) h2 F.plainAttrs_str F.slot_str_replace F.type_str_replace (ho.val fr xc ht hx _ _ fun rx s₁ k₁ t₁ r₁ => ?_)
      obtain ⟨z, t, rfl⟩ := r₁; refine ⟨rfl, (fun _ e => nomatch e), ?_⟩
      refine Calls.callWith_builtin (hun pos).1 ?_; refine Calls.evalArgs_plain (Calls.spliced_cons (wpAny_Constant_str (k := k1) (pos := p1) (Calls.spliced_cons (wpAny_Constant_str (k := k2) (pos := p2) (Calls.spliced_nil ?_))))); have ea : a = ⟨#[a.cps.getD 0 0]⟩ := by
        obtain ⟨⟨cps⟩⟩ := a
        match cps, ha with
        | [x], _ => rfl
      have eb : b = ⟨b.cps.toList.toArray⟩ := by simp
      show wpAny _ _ (call (.builtin "str.replace") [.str ⟨l.toArray⟩ t, .str a s₁.toks, .str b (s₁.toks + 1)]) _ _ _; have := repl_ok (prog := prog) (w := w) (A := A) (E := E) (Q := Q) (O := O) (hb := hb) (s := { s₁ with toks := s₁.toks + 1 + 1 }) (t := t) (u := s₁.toks) (v := s₁.toks + 1) (c := a.cps.getD 0 0) (r := b.cps.toList) z (fun d hd => of_decide_eq_true (List.all_eq_true.mp hb' d hd)) z4 z1 z2 z3 (Nat.ne_of_gt t₁) (Nat.succ_ne_zero _) (Nat.ne_of_lt (Nat.lt_succ_self _)) fun rv s' k r => hQ rv s' ((k₁.trans .tok).trans k) r
      rw [← ea, ← eb] at this; exact this
    · cases hv
  · cases hv
theorem se_lst {es : List Expr} {pos : Pos} {pes : List PE} (hl : es.length ≤ 64) (hc : cEs c es = some pes) (he : SEs prog w A hb Γ c es pes) : SE prog w A hb Γ c (.List es pos) (.lst pes) := by
  refine SE.gen (fun _ => rfl) (fun σ => (zag Γ pes σ).map .list) (fun m σ => rfl) fun env O ow σ s fr xc ht v hv => ?_
  intro Q E hQ; obtain ⟨vs, hvs, rfl⟩ := Option.map_eq_some_iff.mp hv; have hlen : ∀ {es : List Expr} {pes : List PE} {vs : List PV}, cEs c es = some pes → zag Γ pes σ = some vs → vs.length = es.length := by
    intro es
    induction es with
    | nil => intro pes vs h1 h2; cases h1; cases h2; rfl
    | cons e es ih =>
      intro pes vs h1 h2
      rw [cEs] at h1
      split at h1
      · rename_i h3 h4; cases h1; rw [zag] at h2
        split at h2
        · split at h2
          · rename_i h5; cases h2; rw [List.length_cons, List.length_cons, ih h4 h5]
          · cases h2
        · cases h2
      · cases h1
  have hz : vs.length ≤ small := by have h2 : small = 1048576 := rfl; have := hlen hc hvs; omega
  refine wpAny_List_spliced (he env O ow σ s fr xc ht vs hvs pos _ _ fun rvs s' k t r => ⟨?_, ?_⟩)
  · rw [r.length]; exact Nat.le_trans hz zbb
  · exact hQ _ _ (k.trans (.push (tk := s'.toks))) (zf1 (xc.kp k) r hz)
theorem se_tpl {es : List Expr} {pos : Pos} {k1} {pes : List PE} (hl : es.length ≤ 64) (hc : cEs c es = some pes) (he : SEs prog w A hb Γ c es pes) : SE prog w A hb Γ c (.Tuple es k1 pos) (.tpl pes) := by
  refine SE.gen (fun _ => rfl) (fun σ => (zag Γ pes σ).map .tup) (fun m σ => rfl) fun env O ow σ s fr xc ht v hv => ?_
  intro Q E hQ; obtain ⟨vs, hvs, rfl⟩ := Option.map_eq_some_iff.mp hv; have hlen : ∀ {es : List Expr} {pes : List PE} {vs : List PV}, cEs c es = some pes → zag Γ pes σ = some vs → vs.length = es.length := by
    intro es
    induction es with
    | nil => intro pes vs h1 h2; cases h1; cases h2; rfl
    | cons e es ih =>
      intro pes vs h1 h2
      rw [cEs] at h1
      split at h1
      · rename_i h3 h4; cases h1; rw [zag] at h2
        split at h2
        · split at h2
          · rename_i h5; cases h2; rw [List.length_cons, List.length_cons, ih h4 h5]
          · cases h2
        · cases h2
      · cases h1
  have hz : vs.length ≤ small := by have h2 : small = 1048576 := rfl; have := hlen hc hvs; omega
  refine wpAny_Tuple_spliced (he env O ow σ s fr xc ht vs hvs pos _ _ fun rvs s' k t r => ⟨?_, ?_⟩)
  · rw [r.length]; exact Nat.le_trans hz zbb
  · exact hQ _ _ (k.trans (.push (tk := s'.toks))) (new_tup (xc.kp k) r hz)
theorem sbs_one {op : BoolOp} {x : Expr} {a : PE} (ha : SE prog w A hb Γ c x a) : SBs prog w A hb Γ c op [x] a := by
  intro env O ow σ s fr xc ht; refine ⟨fun m v pos hm hv => (ha env O ow σ s fr xc ht).1 m v hm hv, fun b hv Q E hQ => ?_⟩
  cases op
  · refine wpAny_allTrue_And_cons (ha.test fr xc ht hv _ _ fun s' k t => ?_)
    cases b
    · exact hQ _ k t
    · exact wpAny_allTrue_And_nil (hQ _ k t)
  · refine wpAny_allTrue_Or_cons (ha.test fr xc ht hv _ _ fun s' k t => ?_)
    cases b
    · exact wpAny_allTrue_Or_nil (hQ _ k t)
    · exact hQ _ k t
theorem sbs_cons {op : BoolOp} {x y : Expr} {ys : List Expr} {a b : PE} (ha : SE prog w A hb Γ c x a) (hb' : SBs prog w A hb Γ c op (y :: ys) b) : SBs prog w A hb Γ c op (x :: y :: ys) (.bop (op == .And) a b) := by
  intro env O ow σ s fr xc ht; refine ⟨fun m v pos hm hv Q E hQ => ?_, fun r hv Q E hQ => ?_⟩
  · have hv : (match evE Γ a .val σ with
      | some x => (match truthy x with
        | some t => if t == (op == .And) then evE Γ b m σ else some x
        | none => none)
      | none => none) = some v := by cases m <;> first | exact hv | exact absurd rfl hm
    cases hx : evE Γ a .val σ with
    | none => rw [hx] at hv; cases hv
    | some vx =>
      rw [hx] at hv
      dsimp only at hv
      cases htr : truthy vx with
      | none => rw [htr] at hv; cases hv
      | some t =>
        rw [htr] at hv
        dsimp only at hv
        show wpAny _ _ (do
          let v ← eval x env
          standAt pos
          let t ← holding [v] (PySem.truthy v)
          match op, t with
          | .And, false | .Or, true => pure v
          | _, _ => boolOp pos op (evalEach (y :: ys) env)) Q E s
        refine wpAny_bind (ha.val fr xc ht hx _ _ fun rv s₁ k₁ t₁ r₁ => wpAny_bind (wpAny_standAt (wpAny_bind (wpAny_holding ?_))))
        refine wpAny_with_toks t₁ (zgw (hb := hb) htr r₁ fun s₂ k₂ t₂ => ?_)
        have go : t = (op == BoolOp.And) → wpAny (model prog w) A (boolOp pos op (evalEach (y :: ys) env)) Q E s₂ := fun e => by
          rw [if_pos (by rw [e]; simp)] at hv; exact (hb' env O ow σ s₂ ((fr.kp k₁).kp k₂) ((xc.kp k₁).kp k₂) t₂).1 m v pos hm hv _ _ fun rv s' k => hQ rv s' ((k₁.trans k₂).trans k)
        have stop : t ≠ (op == BoolOp.And) → Q rv s₂ := fun e => by
          rw [if_neg (by simpa using e)] at hv
          cases hv
          exact hQ _ _ (k₁.trans k₂) t₂ (.of (VR.kp k₂ r₁))
        cases op <;> cases t
        · exact wpAny_pure (stop (by decide))
        · exact go (by decide)
        · exact go (by decide)
        · exact wpAny_pure (stop (by decide))
  · have hv : asB (match asB (evE Γ a .test σ) with
      | some t => if t == (op == .And) then evE Γ b .test σ else some (.bool t)
      | none => none) = some r := hv
    cases hx : asB (evE Γ a .test σ) with
    | none => rw [hx] at hv; cases hv
    | some t =>
      rw [hx] at hv
      dsimp only at hv
      cases op
      · refine wpAny_allTrue_And_cons (ha.test fr xc ht hx _ _ fun s₁ k₁ t₁ => ?_)
        cases t
        · cases hv; exact hQ _ k₁ t₁
        · exact (hb' env O ow σ s₁ (fr.kp k₁) (xc.kp k₁) t₁).2 r hv _ _ fun s' k => hQ s' (k₁.trans k)
      · refine wpAny_allTrue_Or_cons (ha.test fr xc ht hx _ _ fun s₁ k₁ t₁ => ?_)
        cases t
        · exact (hb' env O ow σ s₁ (fr.kp k₁) (xc.kp k₁) t₁).2 r hv _ _ fun s' k => hQ s' (k₁.trans k)
        · cases hv; exact hQ _ k₁ t₁
theorem se_bop {op : BoolOp} {es : List Expr} {p : Pos} {pe : PE} (h : SBs prog w A hb Γ c op es pe) : SE prog w A hb Γ c (.BoolOp op es p) pe := by
  intro env O ow σ s fr xc ht; have q := h env O ow σ s fr xc ht; refine ⟨fun m v hm hv => ?_, fun b hv Q E hQ => wpAny_isTrue_BoolOp (q.2 b hv Q E hQ)⟩
  rw [arm_eval_BoolOp]; exact q.1 m v p hm hv
end
end Mine
namespace Mine
open PySem PyProof.Rows PySem.Spec
structure Frm (h : Heap) (O : Addr → Prop) (h' : Heap) (O' : Addr → Prop) : Prop where
  alive : ∀ b o, h.get? b = some o → ∃ o', h'.get? b = some o'
  keep : ∀ b o, b ≠ zao → h.get? b = some o → Hardy o → ¬ O b → h'.get? b = some o
  thin : ∀ b o, h.get? b = some o → ¬ O b → ¬ O' b
theorem Frm.trans {h h' h'' : Heap} {O O' O'' : Addr → Prop} (x : Frm h O h' O') (y : Frm h' O' h'' O'') : Frm h O h'' O'' :=
  ⟨fun b o e => let ⟨o', e'⟩ := x.alive b o e; y.alive b o' e', fun b o hb e hd hO => y.keep b o hb (x.keep b o hb e hd hO) hd (x.thin b o e hO),
   fun b o e hO => let ⟨o', e'⟩ := x.alive b o e; y.thin b o' e' (x.thin b o e hO)⟩
theorem Soft.frm {h h' : Heap} (x : Soft h h') (ht : ∀ o, h.get? zao = some o → ∃ o', h'.get? zao = some o') (O : Addr → Prop) : Frm h O h' O := by
  refine ⟨fun b o e => ?_, fun b o hb e hd _ => x.get hb hd.1 e, fun _ _ _ q => q⟩
  by_cases hb : b = zao
  · subst hb; exact ht o e
  · obtain ⟨o', e', _⟩ := x.data hb e; exact ⟨o', e'⟩
theorem Frm.kp {hb : HB} {s s' : Shared} (k : Kp hb s s') (g : GS hb s) (O : Addr → Prop) : Frm s.heap O s'.heap O :=
  k.soft.frm (fun _ _ => (k.gs g).tab.get) O
theorem VR.frm {h h' : Heap} {O O' : Addr → Prop} {v rv} (k : Frm h O h' O') (r : VR h O v rv) : VR h' O' v rv :=
  r.mono (fun b o e l => k.keep b o l.1 e l.2.2.2 l.2.1) k.thin
theorem VRs.frm {h h' : Heap} {O O' : Addr → Prop} {v rv} (k : Frm h O h' O') (r : VRs h O v rv) : VRs h' O' v rv :=
  r.mono (fun b o e l => k.keep b o l.1 e l.2.2.2 l.2.1) k.thin
theorem OkO.frm {h h' : Heap} {O : Addr → Prop} (x : OkO O h) {O' : Addr → Prop} (k : Frm h O' h' O') : OkO O h' := fun a ha => let ⟨h1, o, h2⟩ := x a ha; ⟨h1, k.alive a o h2⟩
theorem Frm.turn {h h' : Heap} {O : Addr → Prop} {X : Addr → Prop} (hk : ∀ b o, ¬ X b → h.get? b = some o → h'.get? b = some o) (ha : ∀ b, X b → ∃ o', h'.get? b = some o')
    (hX : ∀ b o, X b → h.get? b = some o → O b ∨ ¬ Hardy o) : Frm h O h' O := by
  refine ⟨fun b o e => ?_, fun b o hb e hd hO => ?_, fun _ _ _ q => q⟩
  · by_cases hb : X b
    · exact ha b hb
    · exact ⟨o, hk b o hb e⟩
  · refine hk b o (fun hx => ?_) e
    rcases hX b o hx e with q | q
    · exact hO q
    · exact q hd
def IsIt (o : Obj) : Prop := Hardy o ∧ ∃ T, o.cls = .type T ∧ T ∈ ["list_iterator", "range_iterator", "enumerate", "zip", "tuple", "str_ascii_iterator"]
theorem IsIt.ne {o : Obj} (x : IsIt o) {T : String} (h : T ∉ ["list_iterator", "range_iterator", "enumerate", "zip", "tuple", "str_ascii_iterator"]) : o.cls ≠ .type T := fun e => by
  obtain ⟨_, T', h1, h2⟩ := x; rw [h1] at e; injection e with e; exact h (e ▸ h2)
theorem IsIt.nn {o : Obj} (x : IsIt o) : o.cls ≠ .none := fun e => by
  obtain ⟨_, T', h1, h2⟩ := x; rw [h1] at e; cases e
theorem TabOk.others {h h' : Heap} {X : Addr → Prop} (x : TabOk h) (hk : ∀ b o, ¬ X b → h.get? b = some o → h'.get? b = some o)
    (hX : ∀ b o, X b → h.get? b = some o → (o.cls ≠ .none ∧ o.cls ≠ .type "code") ∨ ¬ Hardy o) : TabOk h' := by
  obtain ⟨ps, t, i, e⟩ := x; have hA : ¬ X zao := fun q => by
    rcases hX _ _ q t.2 with ⟨h1, _⟩ | h1
    · exact h1 rfl
    · exact h1 (.fields rfl (show Value.none ≠ Value.type "frame" by decide))
  obtain ⟨⟨oc, vs, g1, g2, g3, g4⟩, t2⟩ := id t; have hC : ¬ X zc1 := fun q => by
    rcases hX _ _ q g1 with ⟨_, h1⟩ | h1
    · exact h1 g2
    · exact h1 (.fields g3 (zat g2 (by decide)))
  have hk' : ∀ b o', b = zao ∨ b = zc1 → h.get? b = some o' → h'.get? b = some o' := fun b o' hb e => hk b o' (by rcases hb with rfl | rfl; exact hA; exact hC) e
  refine ⟨ps, ⟨⟨oc, vs, hk' _ _ (.inr rfl) g1, g2, g3, g4⟩, hk' _ _ (.inl rfl) t2⟩, ?_, fun pos c hc => ?_⟩
  · obtain ⟨o1, v1, f, tf, fl, tg, b, n, tt, op, a1, r1, r2, r3, r4, r5, r6, b1, r⟩ := i; exact ⟨o1, v1, f, tf, fl, tg, b, n, tt, op, hk' _ _ (.inr rfl) a1, r1, r2, r3, r4, r5, r6, hk' _ _ (.inl rfl) b1, r⟩
  · obtain ⟨a', q, rfl, h5, o', h6, h7⟩ := e pos c hc; obtain ⟨c', oo, vv, tt, e1, e2, e3, e4⟩ := h5
    cases e1
    have hne : ¬ X a' := fun q => by
      rcases hX _ _ q e2 with ⟨_, h1⟩ | h1
      · rw [h6] at e2; cases e2; exact h1 h7
      · rw [h6] at e2; cases e2; exact h1 (.fields e3 (zat h7 (by decide)))
    exact ⟨a', q, rfl, ⟨a', oo, vv, tt, rfl, hk _ _ hne e2, e3, e4⟩, o', hk _ _ hne h6, h7⟩
theorem Kp.turns {hb : HB} {s₀ s : Shared} {h' : Heap} {X : Addr → Prop} {tk : Nat} (x : Kp hb s₀ s) (g₀ : GS hb s₀) (hk : ∀ b o, ¬ X b → s.heap.get? b = some o → h'.get? b = some o) (hn : ∀ b, X b → s₀.heap.get? b = Option.none)
    (hX : ∀ b o, X b → s.heap.get? b = some o → (o.cls ≠ .none ∧ o.cls ≠ .type "code") ∨ ¬ Hardy o) : Kp hb s₀ { s with heap := h', toks := tk } := by
  have hne : ∀ b o, s₀.heap.get? b = some o → ¬ X b := fun b o e q => by rw [hn b q] at e; cases e
  have sf : Soft s₀.heap h' := fun b o' hb e => by
    rcases x.soft b o' hb e with e' | ⟨hc, sl, e'⟩
    · exact .inl (hk _ _ (hne b o' e) e')
    · exact .inr ⟨hc, sl, hk _ _ (hne b o' e) e'⟩
  refine ⟨sf, x.os, fun g => ⟨fun b o' hb e => ?_, (x.gs g).tab.others hk hX, (x.gs g).gens, g.fdS sf⟩⟩
  · exact hk _ _ (hne b o' (g₀.hard b o' hb e)) ((x.gs g).hard b o' hb e)
structure ItW (prog : Program) (w : World) (A : Around) (tg : Expr) (I : Addr) (wr : List Addr) (xs : List PV) (St : Nat → Heap → (Addr → Prop) → Prop) : Prop where
  frm : ∀ i h O h' O', St i h O → Frm h O h' O' → (∀ b ∈ wr, O' b) → (∀ b ∈ wr, ∀ o, h.get? b = some o → h'.get? b = some o) → St i h' O'
  its : ∀ i h O, St i h O → ∀ b ∈ wr, ∃ o, h.get? b = some o ∧ IsIt o
  item : ∀ i (s : Shared) O x (Q : Value → Shared → Prop) (E : Value → Shared → Prop), St i s.heap O → (∀ b ∈ wr, O b) → OkO O s.heap → zao < s.heap.objs.size → xs[i]? = some x →
    (∀ rv h' tk, St (i + 1) h' O → (∀ b o, b ∉ wr → s.heap.get? b = some o → h'.get? b = some o) → VR h' O x rv → Q rv { s with heap := h', toks := tk }) →
    wpAny (model prog w) A (pyNext (.ref I)) (fun r s₁ => match r with | none => False | some v => wpAny (model prog w) A (letOwnedTupleGo tg (.ref I) v) (fun _ s₂ => Q v s₂) E s₁) E s
  done : ∀ i (s : Shared) O (Q : Option Value → Shared → Prop) (E : Value → Shared → Prop), St i s.heap O → xs[i]? = none →  i ≤ xs.length →
    (∀ h' tk, (∀ b o, b ∉ wr → s.heap.get? b = some o → h'.get? b = some o) → Q none { s with heap := h', toks := tk }) → wpAny (model prog w) A (pyNext (.ref I)) Q E s
  self : ∀ i (s : Shared) O (Q : Value → Shared → Prop) (E : Value → Shared → Prop), St i s.heap O → Q (.ref I) s → wpAny (model prog w) A (pyIter (.ref I)) Q E s
section
variable {prog : Program} {w : World} {A : Around} {hb : HB}
def StL (I a : Addr) (xs : List PV) (vs : List Value) (i : Nat) (h : Heap) (O : Addr → Prop) : Prop :=
  h.IsListIter I a i ∧ h.PlainList a vs.toArray ∧ a ≠ zao ∧ ¬ O a ∧ VRs h O xs vs
theorem itw_list {tg : Expr} (ht : ∀ I v, letOwnedTupleGo tg I v = pure ()) (hA : A.handled = none) (I a : Addr) (xs : List PV) (vs : List Value) (hne : a ≠ I) : ItW prog w A tg I [I] xs (StL I a xs vs) where
  frm := fun i h O h' O' st k hO' hw => ⟨st.1.at fun o e => hw I (List.mem_singleton.mpr rfl) o e, by
    obtain ⟨_, ⟨n, e⟩, ha, hO, _⟩ := st; exact ⟨n, k.keep _ _ ha e (.seq rfl (zat rfl (by decide))) hO⟩, st.2.2.1, by
    obtain ⟨_, ⟨n, e⟩, ha, hO, _⟩ := st; exact k.thin _ _ e hO, st.2.2.2.2.frm k⟩
  its := fun i h O st b hb => by
    rw [List.mem_singleton.mp hb]; obtain ⟨⟨o, ho, hc, hd⟩, _⟩ := st; exact ⟨o, ho, .fields hd (zat hc (by decide)), _, hc, by decide⟩
  item := fun i s O x Q E st hO ok hz hx hQ => by
    obtain ⟨h1, h2, ha, hOa, hr⟩ := st; obtain ⟨rv, h3, h4⟩ := hr.get hx; refine wpAny_pyNext_list_item h1 h2.isList (x := rv) (by rw [List.getElem?_toArray]; exact h3) fun h' hit' hs' => ?_
    have kk : ∀ b o, b ≠ I → s.heap.get? b = some o → h'.get? b = some o := fun b o hb e => hs'.extBut b o hb e
    have fr : Frm s.heap O h' O := .turn (X := (· = I)) (fun b o hb e => kk b o hb e) (fun b e => by subst e; obtain ⟨o, ho, _⟩ := hit'; exact ⟨o, ho⟩) fun b o e _ => .inl (hO b (by rw [show b = I from e]; exact List.mem_singleton.mpr rfl))
    refine wpAny_of_eq (ht _ _) (hQ rv h' s.toks ⟨hit', ?_, ha, hOa, hr.frm fr⟩ (fun b o hb e => kk b o (fun q => hb (List.mem_singleton.mpr q)) e) (h4.frm fr))
    obtain ⟨n, e⟩ := h2; exact ⟨n, kk _ _ hne e⟩
  done := fun i s O Q E st hx _ hQ => by
    obtain ⟨h1, h2, ha, hOa, hr⟩ := st; refine wpAny_pyNext_list_end hA h1 h2.isList ?_ fun h' he' => hQ h' s.toks fun b o hb e => he' b o (fun h => hb (List.mem_singleton.mpr h)) e
    rw [List.getElem?_toArray]; rw [List.getElem?_eq_none_iff] at hx ⊢; rw [hr.length]; exact hx
  self := fun _ _ _ _ _ st hQ => wpAny_pyIter_listiter st.1 hQ
end
end Mine
namespace Mine
open PySem PyProof.Rows PySem.Spec
section
variable {prog : Program} {w : World} {A : Around} {hb : HB}
theorem zf5 : ∀ (n i j : Nat), (zcw i n)[j]? = if j < n then some (.int ((i + j : Nat) : Int)) else none
  | 0, i, j => by simp [zcw]
  | n + 1, i, 0 => by simp [zcw]
  | n + 1, i, j + 1 => by
    rw [zcw, List.getElem?_cons_succ, zf5 n (i + 1) j]; by_cases h : j < n
    · rw [if_pos h, if_pos (by omega)]; congr 2; push_cast; omega
    · rw [if_neg h, if_neg (by omega)]
theorem zge : ∀ (n i : Nat), (zcw i n).length = n
  | 0, i => rfl
  | n + 1, i => by rw [zcw, List.length_cons, zge n]
def StR (I : Addr) (n i : Nat) (h : Heap) (O : Addr → Prop) : Prop := IsRangeIter h I (i : Int) ((n : Int) - i) 1
theorem itw_range {tg : Expr} (ht : ∀ I v, letOwnedTupleGo tg I v = pure ()) (hA : A.handled = none) (I : Addr) (n : Nat) : ItW prog w A tg I [I] (zcw 0 n) (StR I n) where
  frm := fun i h O h' O' st k hO' hw => hw I (List.mem_singleton.mpr rfl) _ st
  its := fun i h O st b hb => by
    rw [List.mem_singleton.mp hb]; exact ⟨_, st, .fields rfl (zat rfl (by decide)), _, rfl, by decide⟩
  item := fun i s O x Q E st hO ok hz hx hQ => by
    rw [zf5] at hx
    split at hx
    · rename_i hi
      cases hx
      have st : IsRangeIter s.heap I (i : Int) ((n : Int) - i) 1 := st; refine wpAny_pyNext_range_item st (by omega) fun h' hit' hs' => ?_
      refine wpAny_of_eq (ht _ _) (hQ _ h' _ ?_ (fun b o hb e => hs'.extBut b o (fun q => hb (List.mem_singleton.mpr q)) e) ⟨s.toks, by simp⟩)
      show IsRangeIter h' I ((i + 1 : Nat) : Int) ((n : Int) - (i + 1 : Nat)) 1; have e2 : (n : Int) - ((i + 1 : Nat) : Int) = (n : Int) - (i : Int) - 1 := by push_cast; omega
      rw [e2]; exact hit'
    · cases hx
  done := fun i s O Q E st hx _ hQ => by
    rw [zf5] at hx
    split at hx
    · cases hx
    · rename_i hi; have st : IsRangeIter s.heap I (i : Int) ((n : Int) - i) 1 := st; exact wpAny_pyNext_range_end hA st (by omega) fun h' he' => hQ h' s.toks fun b o hb e => he' b o (fun h => hb (List.mem_singleton.mpr h)) e
  self := fun _ _ _ _ _ st hQ => wpAny_pyIter_rangeiter st hQ
theorem zgm {elts : List Expr} {k : Nat} {pos : Pos} {I : Addr} {fp wr wr' : List Addr} {n : Nat} {Pt : Nat → Array Value → Prop} {StW : Nat → Heap → Prop} {Mid : Nat → Addr → Heap → Prop} {xs : List PV} {Rel : Heap → (Addr → Prop) → Prop}
    (W : WalksT prog w A I fp wr' n Pt StW Mid) (hw : ∀ b ∈ wr', b ∈ wr) (hn : n = xs.length)
    (hR : ∀ h O h' O', Rel h O → Frm h O h' O' → Rel h' O')
    (hits : ∀ i h, StW i h → ∀ b ∈ wr, ∃ o, h.get? b = some o ∧ IsIt o)
    (hmid : ∀ i T h, Mid i T h → ∀ b ∈ wr', ∃ o, h.get? b = some o)
    (hPt : ∀ i vals h O, Pt i vals → Rel h O → ∃ x1 x2 v1 v2, vals = #[v1, v2] ∧ VR h O x1 v1 ∧ VR h O x2 v2 ∧ xs[i]? = some (.tup [x1, x2])) :
    ItW prog w A (.Tuple elts k pos) I wr xs (fun i h O => StW i h ∧ (∀ b ∈ fp, b ∈ wr ∨ (b ≠ zao ∧ ¬ O b ∧ ∃ o, h.get? b = some o ∧ Hardy o)) ∧ Rel h O) where
  frm := fun i h O h' O' st kk hO' hww => by
    obtain ⟨h1, h2, h3⟩ := st; refine ⟨W.frame i h h' h1 fun b hb o e => ?_, fun b hb => ?_, hR _ _ _ _ h3 kk⟩
    · rcases h2 b hb with q | ⟨q1, q2, o', e', q3⟩
      · exact hww b q o e
      · rw [e'] at e; cases e; exact kk.keep b _ q1 e' q3 q2
    · rcases h2 b hb with q | ⟨q1, q2, o', e', q3⟩
      · exact .inl q
      · exact .inr ⟨q1, kk.thin b _ e' q2, o', kk.keep b _ q1 e' q3 q2, q3⟩
  its := fun i h O st b hb => hits i h st.1 b hb
  item := fun i s O x Q E st hO ok hz hx hQ => by
    obtain ⟨h1, h2, h3⟩ := st; have hi : i < n := by rw [hn]; exact (List.getElem?_eq_some_iff.mp hx).1
    refine W.item i s _ _ hi h1 fun T vals h' tk hp hT ht hm hk => ?_
    refine W.go elts k pos i T _ _ _ hm fun h'' st' hk' => ?_
    have hk2 : ∀ b o, b ∉ wr' → s.heap.get? b = some o → h''.get? b = some o := fun b o hb e => hk' b o hb (hk b o hb e)
    have hk3 : ∀ b o, b ∉ wr → s.heap.get? b = some o → h''.get? b = some o := fun b o hb e => hk2 b o (fun q => hb (hw b q)) e
    have al : ∀ b ∈ wr, ∃ o, h''.get? b = some o := fun b hb => let ⟨o, e, _⟩ := hits _ _ st' b hb; ⟨o, e⟩
    have fr : Frm s.heap O h'' O := .turn (X := (· ∈ wr)) (fun b o hb e => hk3 b o hb e) al fun b o e _ => .inl (hO b e)
    obtain ⟨x1, x2, v1, v2, rfl, r1, r2, hx'⟩ := hPt i _ s.heap O hp h3; rw [hx] at hx'; cases hx'; refine hQ (.ref T) h'' tk ⟨st', fun b hb => ?_, hR _ _ _ _ h3 fr⟩ hk3 ?_
    · rcases h2 b hb with q | ⟨q1, q2, o', e', q3⟩
      · exact .inl q
      · exact .inr ⟨q1, q2, o', fr.keep b _ q1 e' q3 q2, q3⟩
    · obtain ⟨o, ho, hc, nn, hd⟩ := ht; have e := hk' T o (W.apart i T _ hm) ho; refine ⟨by show 2 ≤ small; decide, T, [v1, v2], rfl, ?_, ?_, ⟨o, e, hc, nn, hd⟩, _, _, rfl, r1.frm fr, _, _, rfl, r2.frm fr, rfl⟩
      · exact Nat.ne_of_gt (Nat.lt_of_lt_of_le hz hT)
      · intro q; obtain ⟨_, o', e'⟩ := ok T q; exact Nat.lt_irrefl _ (Nat.lt_of_lt_of_le (Heap.lt_size e') hT)
  done := fun i s O Q E st hx hi hQ => by
    have : i = n := by rw [List.getElem?_eq_none_iff] at hx; omega
    subst this; exact W.done s Q E st.1 fun h' tk hk => hQ h' tk fun b o hb e => hk b o (fun q => hb (hw b q)) e
  self := fun i s O Q E st hQ => W.self i s Q E st.1 hQ
theorem enumL_get : ∀ (xs : List PV) (i j : Nat), (zdr i xs)[j]? = (xs[j]?).map fun x => .tup [.int ((i + j : Nat) : Int), x]
  | [], i, j => by simp [zdr]
  | x :: xs, i, 0 => by simp [zdr]
  | x :: xs, i, j + 1 => by
    rw [zdr, List.getElem?_cons_succ, enumL_get xs (i + 1) j, List.getElem?_cons_succ]; congr 2; funext y; congr 3; push_cast; omega
theorem zeq : ∀ (xs : List PV) (i : Nat), (zdr i xs).length = xs.length
  | [], i => rfl
  | x :: xs, i => by rw [zdr, List.length_cons, List.length_cons, zeq xs]
theorem zipL_get : ∀ (xs ys : List PV) (j : Nat), (zcn xs ys)[j]? = match xs[j]?, ys[j]? with | some x, some y => some (.tup [x, y]) | _, _ => none
  | [], ys, j => by cases ys <;> simp [zcn]
  | x :: xs, [], j => by simp [zcn]
  | x :: xs, y :: ys, 0 => by simp [zcn]
  | x :: xs, y :: ys, j + 1 => by rw [zcn, List.getElem?_cons_succ, zipL_get xs ys j, List.getElem?_cons_succ, List.getElem?_cons_succ]
theorem zdo : ∀ (xs ys : List PV), (zcn xs ys).length = min xs.length ys.length
  | [], ys => by cases ys <;> simp [zcn]
  | x :: xs, [] => by simp [zcn]
  | x :: xs, y :: ys => by rw [zcn, List.length_cons, zdo xs ys, List.length_cons, List.length_cons]; omega
theorem itw_enum {elts : List Expr} {k : Nat} {pos : Pos} (hA : A.handled = none) (e it l : Addr) (hei : e ≠ it) (hle : l ≠ e) (hli : l ≠ it) (xs : List PV) (vs : List Value) (hlen : vs.length = xs.length) :
    ItW prog w A (.Tuple elts k pos) e [e, it] (zdr 0 xs) (fun i h O => ((∃ old, IsEnum h e it i old) ∧ h.IsListIter it l i ∧ h.IsList l vs.toArray) ∧ (∀ b ∈ [e, it, l], b ∈ [e, it] ∨ (b ≠ zao ∧ ¬ O b ∧ ∃ o, h.get? b = some o ∧ Hardy o)) ∧ VRs h O xs vs) := by
  refine zgm (WalksT.enumerate (prog := prog) (w := w) hA e it l hei hle hli vs.toArray) (fun _ h => h) (by rw [List.size_toArray, zeq, hlen]) (fun h O h' O' r k => r.frm k) ?_ ?_ ?_
  · intro i h st b hb; obtain ⟨⟨old, he⟩, ⟨o, ho, hc, hd⟩, _⟩ := st; rcases List.mem_cons.mp hb with rfl | hb
    · exact ⟨_, he, .fields rfl (zat rfl (by decide)), _, rfl, by decide⟩
    · rw [List.mem_singleton.mp hb]; exact ⟨o, ho, .fields hd (zat hc (by decide)), _, hc, by decide⟩
  · intro i T h st b hb; obtain ⟨⟨x, he⟩, ⟨o, ho, hc, hd⟩, _⟩ := st; rcases List.mem_cons.mp hb with rfl | hb
    · exact ⟨_, he⟩
    · rw [List.mem_singleton.mp hb]; exact ⟨o, ho⟩
  · intro i vals h O hp r; obtain ⟨t, x, hx, rfl⟩ := hp; rw [List.getElem?_toArray] at hx; have hi : i < xs.length := by rw [← hlen]; exact (List.getElem?_eq_some_iff.mp hx).1
    obtain ⟨rv, h1, h2⟩ := r.get (List.getElem?_eq_getElem hi); rw [hx] at h1; cases h1; exact ⟨.int i, xs[i], _, _, rfl, ⟨t, rfl⟩, h2, by rw [enumL_get, List.getElem?_eq_getElem hi]; simp⟩
theorem itw_zip {elts : List Expr} {k : Nat} {pos : Pos} (hA : A.handled = none) (z TI TO i1 i2 l1 l2 : Addr) (D : ZipApart z TI TO i1 i2 l1 l2) (xs ys : List PV) (vs us : List Value) (hlen : vs.length = xs.length) (hlen' : us.length = ys.length) :
    ItW prog w A (.Tuple elts k pos) z [z, TI, TO, i1, i2] (zcn xs ys) (fun i h O => (IsZip h z TI TO .none ∧ IsPair h TI (.ref i1) (.ref i2) ∧ (∃ a b, IsPair h TO a b) ∧ h.IsListIter i1 l1 i ∧ h.IsListIter i2 l2 i ∧ h.IsList l1 vs.toArray ∧ h.IsList l2 us.toArray) ∧
      (∀ b ∈ [z, TI, TO, i1, i2, l1, l2], b ∈ [z, TI, TO, i1, i2] ∨ (b ≠ zao ∧ ¬ O b ∧ ∃ o, h.get? b = some o ∧ Hardy o)) ∧ VRs h O xs vs ∧ VRs h O ys us) := by
  refine zgm (Rel := fun h O => VRs h O xs vs ∧ VRs h O ys us) (WalksT.zip2 (prog := prog) (w := w) hA z TI TO i1 i2 l1 l2 D vs.toArray us.toArray) ?_ (by rw [List.size_toArray, List.size_toArray, zdo, hlen, hlen']) (fun h O h' O' r k => ⟨r.1.frm k, r.2.frm k⟩) ?_ ?_ ?_
  · intro b hb; simp at hb ⊢; rcases hb with rfl | rfl | rfl | rfl <;> simp
  · intro i h st b hb; obtain ⟨hz, hTI, ⟨a, c, hTO⟩, ⟨o1, h1, hc1, hd1⟩, ⟨o2, h2, hc2, hd2⟩, _⟩ := st; simp only [List.mem_cons, List.not_mem_nil, or_false] at hb; rcases hb with rfl | rfl | rfl | rfl | rfl
    · exact ⟨_, hz, .fields rfl (zat rfl (by decide)), _, rfl, by decide⟩
    · exact ⟨_, hTI, .seq rfl (zat rfl (by decide)), _, rfl, by decide⟩
    · exact ⟨_, hTO, .seq rfl (zat rfl (by decide)), _, rfl, by decide⟩
    · exact ⟨_, h1, .fields hd1 (zat hc1 (by decide)), _, hc1, by decide⟩
    · exact ⟨_, h2, .fields hd2 (zat hc2 (by decide)), _, hc2, by decide⟩
  · intro i T h st b hb; obtain ⟨hz, hTI, ⟨a, c, hTO⟩, ⟨o1, h1, hc1, hd1⟩, ⟨o2, h2, hc2, hd2⟩, _⟩ := st; simp only [List.mem_cons, List.not_mem_nil, or_false] at hb; rcases hb with rfl | rfl | rfl | rfl
    · exact ⟨_, hz⟩
    · exact ⟨_, hTO⟩
    · exact ⟨_, h1⟩
    · exact ⟨_, h2⟩
  · intro i vals h O hp r; obtain ⟨x, y, hx, hy, rfl⟩ := hp; rw [List.getElem?_toArray] at hx hy; have hi : i < xs.length := by rw [← hlen]; exact (List.getElem?_eq_some_iff.mp hx).1
    have hj : i < ys.length := by rw [← hlen']; exact (List.getElem?_eq_some_iff.mp hy).1
    obtain ⟨rv, h1, h2⟩ := r.1.get (List.getElem?_eq_getElem hi); obtain ⟨rv', h1', h2'⟩ := r.2.get (List.getElem?_eq_getElem hj); rw [hx] at h1; cases h1; rw [hy] at h1'; cases h1'; exact ⟨xs[i], ys[i], _, _, rfl, h2, h2', by rw [zipL_get, List.getElem?_eq_getElem hi, List.getElem?_eq_getElem hj]⟩
end
end Mine
namespace Mine
open PySem PyProof.Rows PySem.Spec
section
variable {prog : Program} {w : World} {A : Around} {E : Value → Shared → Prop} {s : Shared}
structure zfe (z TI TO i1 i2 l1 : Addr) : Prop where
  TIz : TI ≠ z
  TOz : TO ≠ z
  i1z : i1 ≠ z
  i2z : i2 ≠ z
  TITO : TI ≠ TO
  TIi1 : TI ≠ i1
  TIi2 : TI ≠ i2
  TOi1 : TO ≠ i1
  TOi2 : TO ≠ i2
  i12 : i1 ≠ i2
  l1z : l1 ≠ z
  l1TO : l1 ≠ TO
  l1i1 : l1 ≠ i1
  l1i2 : l1 ≠ i2
abbrev AscI (h : Heap) (it : Addr) (x : Str) (t : Tok) (i : Nat) : Prop := h.IsStrIter it "str_ascii_iterator" x t i
theorem ascI_ext {h h' : Heap} {a x t i} (y : AscI h a x t i) (hk : ∀ o, h.get? a = some o → h'.get? a = some o) : AscI h' a x t i := let ⟨o, ho, r⟩ := y; ⟨o, hk o ho, r⟩
theorem zh4 {z TI TO i1 i2 l1 : Addr} {k1 k2 : Nat} {xs : Array Value} {y : Str} {t : Tok} {x a b : Value} {c₀ : Nat} {Q : Value → Shared → Prop} (D : zfe z TI TO i1 i2 l1)
    (hz : IsZip s.heap z TI TO .none) (hTI : IsPair s.heap TI (.ref i1) (.ref i2)) (hTO : IsPair s.heap TO a b)
    (h1 : s.heap.IsListIter i1 l1 k1) (h2 : AscI s.heap i2 y t k2) (hl1 : s.heap.IsList l1 xs) (hx : xs[k1]? = some x) (hy : y.cps[k2]? = some c₀)
    (hQ : ∀ h' tk u, IsZip h' z TI TO (rawInt s.heap.objs.size) → IsPair h' TO x (.str ⟨#[c₀]⟩ u) → h'.IsListIter i1 l1 (k1 + 1) → AscI h' i2 y t (k2 + 1) → IsPair h' s.heap.objs.size x (.str ⟨#[c₀]⟩ u) → h'.objs.size = s.heap.objs.size + 1 →
      (∀ c o, c ≠ z → c ≠ TO → c ≠ i1 → c ≠ i2 → s.heap.get? c = some o → h'.get? c = some o) → Q (.ref s.heap.objs.size) { s with heap := h', toks := tk }) :
    wpAny (model prog w) A (Builtin.«zip.__next__» ⟨[.ref z], []⟩) (fun fin s' => ∃ v, fin = .done (.ret v) ∧ Q v s') E s := by
  show wpAny _ _ (field (.ref z) 2 >>= _) _ _ _; refine wpAny_bind (wpAny_field hz rfl (x := .bool false) rfl ?_); show wpAny _ _ (field (.ref z) 3 >>= _) _ _ _; refine wpAny_bind (wpAny_field hz rfl (x := .ref TI) rfl ?_); refine wpAny_bind (wpAny_seqItems hTI rfl ?_); show wpAny _ _ (Builtin.SmallTypes.ownedTupleIsFree (.ref z) >>= _) _ _ _; refine wpAny_bind ?_; unfold Builtin.SmallTypes.ownedTupleIsFree; refine wpAny_bind (wpAny_field hz rfl (x := .none) rfl (wpAny_pure ?_)); simp only [if_true]; refine wpAny_bind (wpAny_rule ?_); refine wpAny_bind (wpAny_field hz rfl (x := .ref TO) rfl ?_); refine wpAny_bind (wpAny_setField_rec hz (by simp) fun h₁ hz₁ hs₁ => ?_)
  replace hz₁ : IsZip h₁ z TI TO .ellipsis := hz₁; refine wpAny_bind ?_; simp only [List.zipIdx_cons, List.zipIdx_nil, List.forIn_cons, List.forIn_nil]; refine wpAny_bind (wpAny_bind (wpAny_onRaise ?_)); show wpAny _ _ (Builtin.SmallTypes.nextOf (.ref i1) >>= _) _ _ _; refine wpAny_bind (wpAny_nextOf_list_item (h1.extBut hs₁.extBut D.i1z) (hl1.extBut hs₁.extBut D.l1z) hx fun h₂ h1₂ hs₂ => wpAny_pure ?_)
  have hTO₂ : IsPair h₂ TO a b := hs₂.extBut _ _ D.TOi1 (hs₁.extBut _ _ D.TOz hTO); refine wpAny_bind (wpAny_seqItems hTO₂ rfl ?_); refine wpAny_bind (wpAny_updateSeq_pair hTO₂ fun h₃ hTO₃ hs₃ => ?_)
  replace hTO₃ : IsPair h₃ TO x b := hTO₃; refine wpAny_bind (wpAny_letGo (wpAny_pure ?_)); refine wpAny_bind (wpAny_bind (wpAny_onRaise ?_)); show wpAny _ _ (Builtin.SmallTypes.nextOf (.ref i2) >>= _) _ _ _; refine wpAny_bind (wpAny_nextOf_ascii_item (((h2.extBut hs₁.extBut D.i2z).extBut hs₂.extBut D.i12.symm).extBut hs₃.extBut D.TOi2.symm) hy fun h₄ h2₄ hs₄ => wpAny_pure ?_)
  have hTO₄ : IsPair h₄ TO x b := hs₄.extBut _ _ D.TOi2 hTO₃; refine wpAny_bind (wpAny_seqItems hTO₄ rfl ?_); refine wpAny_bind (wpAny_updateSeq_pair hTO₄ fun h₅ hTO₅ hs₅ => ?_)
  replace hTO₅ : IsPair h₅ TO x (.str ⟨#[c₀]⟩ s.toks) := hTO₅; refine wpAny_bind (wpAny_letGo (wpAny_pure (wpAny_pure ?_))); refine wpAny_bind (wpAny_seqItems hTO₅ rfl ?_); refine wpAny_bind (wpAny_newTuple ?_); have hsz : h₅.objs.size = s.heap.objs.size := by rw [hs₅.1, hs₄.1, hs₃.1, hs₂.1, hs₁.1]
  have hz₅ : IsZip h₅ z TI TO .ellipsis := hs₅.extBut _ _ D.TOz.symm (hs₄.extBut _ _ D.i2z.symm (hs₃.extBut _ _ D.TOz.symm (hs₂.extBut _ _ D.i1z.symm hz₁))); have hk₅ : ∀ c o, c ≠ z → c ≠ TO → c ≠ i1 → c ≠ i2 → s.heap.get? c = some o → h₅.get? c = some o := fun c o c1 c2 c3 c4 e =>
    hs₅.extBut _ _ c2 (hs₄.extBut _ _ c4 (hs₃.extBut _ _ c2 (hs₂.extBut _ _ c3 (hs₁.extBut _ _ c1 e))))
  have h1₅ : h₅.IsListIter i1 l1 (k1 + 1) := ((h1₂.extBut hs₃.extBut D.TOi1.symm).extBut hs₄.extBut D.i12).extBut hs₅.extBut D.TOi1.symm; have h2₅ : AscI h₅ i2 y t (k2 + 1) := h2₄.extBut hs₅.extBut D.TOi2.symm; have hzlt : z < h₅.objs.size := Heap.lt_size hz₅; show wpAny _ _ (Builtin.SmallTypes.ownedTupleHandOut (.ref z) (.ref h₅.objs.size) >>= _) _ _ _; refine wpAny_bind ?_; unfold Builtin.SmallTypes.ownedTupleHandOut; have hz₆ : IsZip (h₅.push { cls := .type "tuple", data := .seq #[x, .str ⟨#[c₀]⟩ s.toks] }) z TI TO .ellipsis := Heap.get?_push_of_some _ hz₅; refine wpAny_bind (wpAny_setField_rec hz₆ (by simp) fun h₇ hz₇ hs₇ => ?_)
  replace hz₇ : IsZip h₇ z TI TO (rawInt h₅.objs.size) := hz₇; refine wpAny_setField_rec hz₇ (by simp) fun h₈ hz₈ hs₈ => ?_
  replace hz₈ : IsZip h₈ z TI TO (rawInt h₅.objs.size) := hz₈; have up : ∀ c o, c ≠ z → h₅.get? c = some o → h₈.get? c = some o := fun c o c1 e => hs₈.extBut _ _ c1 (hs₇.extBut _ _ c1 (Heap.get?_push_of_some _ e))
  have hT₈ : IsPair h₈ h₅.objs.size x (.str ⟨#[c₀]⟩ s.toks) := hs₈.extBut _ _ (Nat.ne_of_gt hzlt) (hs₇.extBut _ _ (Nat.ne_of_gt hzlt) (Heap.get?_push_size _ rfl)); have hz8 : h₈.objs.size = h₅.objs.size + 1 := by rw [hs₈.1, hs₇.1, Heap.size_push]
  rw [hsz] at hz₈ hT₈ hz8; refine wpAny_pure ⟨_, rfl, ?_⟩; show Q (.ref h₅.objs.size) _; rw [hsz]; exact hQ h₈ _ _ hz₈ (up _ _ D.TOz hTO₅) (h1₅.at fun o e => up _ o D.i1z e) (ascI_ext h2₅ fun o e => up _ o D.i2z e) hT₈ hz8 fun c o c1 c2 c3 c4 e => up c o c1 (hk₅ c o c1 c2 c3 c4 e)
theorem zipS_next_end {z TI TO i1 i2 l1 : Addr} {k1 k2 : Nat} {xs : Array Value} {y : Str} {t : Tok} {a b : Value} {Q : Fin → Shared → Prop} (hh : A.handled = none) (D : zfe z TI TO i1 i2 l1)
    (hz : IsZip s.heap z TI TO .none) (hTI : IsPair s.heap TI (.ref i1) (.ref i2)) (hTO : IsPair s.heap TO a b)
    (h1 : s.heap.IsListIter i1 l1 k1) (h2 : AscI s.heap i2 y t k2) (hl1 : s.heap.IsList l1 xs) (hend : xs[k1]? = none ∨ y.cps[k2]? = none)
    (hE : ∀ h' e, (∀ c o, c ≠ z → c ≠ TO → c ≠ i1 → c ≠ i2 → s.heap.get? c = some o → h'.get? c = some o) → (∃ o, h'.get? e = some o ∧ o.cls = .type "StopIteration") → E (.ref e) { s with heap := h' }) :
    wpAny (model prog w) A (Builtin.«zip.__next__» ⟨[.ref z], []⟩) Q E s := by
  show wpAny _ _ (field (.ref z) 2 >>= _) _ _ _; refine wpAny_bind (wpAny_field hz rfl (x := .bool false) rfl ?_); show wpAny _ _ (field (.ref z) 3 >>= _) _ _ _; refine wpAny_bind (wpAny_field hz rfl (x := .ref TI) rfl ?_); refine wpAny_bind (wpAny_seqItems hTI rfl ?_); show wpAny _ _ (Builtin.SmallTypes.ownedTupleIsFree (.ref z) >>= _) _ _ _; refine wpAny_bind ?_; unfold Builtin.SmallTypes.ownedTupleIsFree; refine wpAny_bind (wpAny_field hz rfl (x := .none) rfl (wpAny_pure ?_)); simp only [if_true]; refine wpAny_bind (wpAny_rule ?_); refine wpAny_bind (wpAny_field hz rfl (x := .ref TO) rfl ?_); refine wpAny_bind (wpAny_setField_rec hz (by simp) fun h₁ hz₁ hs₁ => ?_)
  replace hz₁ : IsZip h₁ z TI TO .ellipsis := hz₁; refine wpAny_bind ?_; simp only [List.zipIdx_cons, List.zipIdx_nil, List.forIn_cons, List.forIn_nil]; refine wpAny_bind (wpAny_bind (wpAny_onRaise ?_)); show wpAny _ _ (Builtin.SmallTypes.nextOf (.ref i1) >>= _) _ _ _
  cases hx : xs[k1]? with
  | none =>
    refine wpAny_bind (wpAny_nextOf_list_end hh (h1.extBut hs₁.extBut D.i1z) (hl1.extBut hs₁.extBut D.l1z) hx fun h₂ e hs₂ he => ?_)
    obtain ⟨oe, hoe, hce⟩ := he
    have hz₂ : IsZip h₂ z TI TO .ellipsis := hs₂ _ _ D.i1z.symm hz₁
    have hez : e ≠ z := fun x => by subst x; rw [hz₂] at hoe; cases hoe; simp at hce
    refine wpAny_setField_rec hz₂ (by simp) fun h₃ _ hs₃ => hE h₃ e (fun c o c1 _ c3 _ x => hs₃.extBut _ _ c1 (hs₂ _ _ c3 (hs₁.extBut _ _ c1 x))) ⟨oe, hs₃.extBut _ _ hez hoe, hce⟩
  | some x =>
    have hy : y.cps[k2]? = none := by rcases hend with h | h; rw [hx] at h; cases h; exact h
    refine wpAny_bind (wpAny_nextOf_list_item (h1.extBut hs₁.extBut D.i1z) (hl1.extBut hs₁.extBut D.l1z) hx fun h₂ h1₂ hs₂ => wpAny_pure ?_)
    have hTO₂ : IsPair h₂ TO a b := hs₂.extBut _ _ D.TOi1 (hs₁.extBut _ _ D.TOz hTO)
    refine wpAny_bind (wpAny_seqItems hTO₂ rfl ?_)
    refine wpAny_bind (wpAny_updateSeq_pair hTO₂ fun h₃ hTO₃ hs₃ => ?_)
    refine wpAny_bind (wpAny_letGo (wpAny_pure ?_))
    refine wpAny_bind (wpAny_bind (wpAny_onRaise ?_))
    show wpAny _ _ (Builtin.SmallTypes.nextOf (.ref i2) >>= _) _ _ _
    refine wpAny_bind (wpAny_nextOf_ascii_end hh (((h2.extBut hs₁.extBut D.i2z).extBut hs₂.extBut D.i12.symm).extBut hs₃.extBut D.TOi2.symm) hy fun h₄ e hs₄ he => ?_)
    obtain ⟨oe, hoe, hce⟩ := he
    have hz₄ : IsZip h₄ z TI TO .ellipsis := hs₄ _ _ D.i2z.symm (hs₃.extBut _ _ D.TOz.symm (hs₂.extBut _ _ D.i1z.symm hz₁))
    have hez : e ≠ z := fun x => by subst x; rw [hz₄] at hoe; cases hoe; simp at hce
    refine wpAny_setField_rec hz₄ (by simp) fun h₅ _ hs₅ => hE h₅ e (fun c o c1 c2 c3 c4 x => hs₅.extBut _ _ c1 (hs₄ _ _ c4 (hs₃.extBut _ _ c2 (hs₂.extBut _ _ c3 (hs₁.extBut _ _ c1 x))))) ⟨oe, hs₅.extBut _ _ hez hoe, hce⟩
theorem zfb {z TI TO i1 i2 l1 : Addr} {k1 k2 : Nat} {xs : Array Value} {y : Str} {t : Tok} {x a b : Value} {c₀ : Nat} {Q : Option Value → Shared → Prop} (D : zfe z TI TO i1 i2 l1)
    (hz : IsZip s.heap z TI TO .none) (hTI : IsPair s.heap TI (.ref i1) (.ref i2)) (hTO : IsPair s.heap TO a b)
    (h1 : s.heap.IsListIter i1 l1 k1) (h2 : AscI s.heap i2 y t k2) (hl1 : s.heap.IsList l1 xs) (hx : xs[k1]? = some x) (hy : y.cps[k2]? = some c₀)
    (hQ : ∀ h' tk u, IsZip h' z TI TO (rawInt s.heap.objs.size) → IsPair h' TO x (.str ⟨#[c₀]⟩ u) → h'.IsListIter i1 l1 (k1 + 1) → AscI h' i2 y t (k2 + 1) → IsPair h' s.heap.objs.size x (.str ⟨#[c₀]⟩ u) → h'.objs.size = s.heap.objs.size + 1 →
      (∀ c o, c ≠ z → c ≠ TO → c ≠ i1 → c ≠ i2 → s.heap.get? c = some o → h'.get? c = some o) → Q (some (.ref s.heap.objs.size)) { s with heap := h', toks := tk }) :
    wpAny (model prog w) A (pyNext (.ref z)) Q E s := by
  have hT : s.TypeIs (.ref z) "zip" := ⟨_, hz, rfl⟩; unfold pyNext; exact wpAny_bind (wpAny_attempt (wpAny_callSpecial?_slot (name := Str.ofString "__next__") hT F.slot_zip_next
    (wpAny_call_entry F.slot_zip_next hT F.entry_zip_next
      (zh4 D hz hTI hTO h1 h2 hl1 hx hy fun h' tk u a1 a2 a3 a4 a5 a6 a7 => wpAny_pure (hQ h' tk u a1 a2 a3 a4 a5 a6 a7)) (F.args_zip_next_1 _))))
theorem zfr {z TI TO i1 i2 l1 : Addr} {k1 k2 : Nat} {xs : Array Value} {y : Str} {t : Tok} {a b : Value} {Q : Option Value → Shared → Prop} (hh : A.handled = none) (D : zfe z TI TO i1 i2 l1)
    (hz : IsZip s.heap z TI TO .none) (hTI : IsPair s.heap TI (.ref i1) (.ref i2)) (hTO : IsPair s.heap TO a b)
    (h1 : s.heap.IsListIter i1 l1 k1) (h2 : AscI s.heap i2 y t k2) (hl1 : s.heap.IsList l1 xs) (hend : xs[k1]? = none ∨ y.cps[k2]? = none)
    (hQ : ∀ h', (∀ c o, c ≠ z → c ≠ TO → c ≠ i1 → c ≠ i2 → s.heap.get? c = some o → h'.get? c = some o) → Q none { s with heap := h' }) : wpAny (model prog w) A (pyNext (.ref z)) Q E s := by
  have hT : s.TypeIs (.ref z) "zip" := ⟨_, hz, rfl⟩; unfold pyNext; refine wpAny_bind (wpAny_attempt (wpAny_callSpecial?_slot (name := Str.ofString "__next__") hT F.slot_zip_next
    (wpAny_call_entry F.slot_zip_next hT F.entry_zip_next (zipS_next_end hh D hz hTI hTO h1 h2 hl1 hend fun h' e hk he => ?_) (F.args_zip_next_1 _))))
  obtain ⟨o, ho, hc⟩ := he; refine wpAny_bind (wpAny_isInstance (T := "StopIteration") (b := true) ⟨o, ho, hc⟩ isSubtype_stop ?_); exact wpAny_pure (hQ _ hk)
theorem WalksT.zipS (hh : A.handled = none) (z TI TO i1 i2 l1 : Addr) (D : zfe z TI TO i1 i2 l1) (xs : Array Value) (y : Str) (t : Tok) :
    WalksT prog w A z [z, TI, TO, i1, i2, l1] [z, TO, i1, i2] (min xs.size y.cps.size)
      (fun i vals => ∃ x c u, xs[i]? = some x ∧ y.cps[i]? = some c ∧ vals = #[x, .str ⟨#[c]⟩ u])
      (fun i h => IsZip h z TI TO .none ∧ IsPair h TI (.ref i1) (.ref i2) ∧ (∃ a b, IsPair h TO a b) ∧ h.IsListIter i1 l1 i ∧ AscI h i2 y t i ∧ h.IsList l1 xs)
      (fun i T h => IsZip h z TI TO (rawInt T) ∧ IsPair h TI (.ref i1) (.ref i2) ∧ (∃ a b, IsPair h TO a b) ∧ h.IsListIter i1 l1 (i + 1) ∧ AscI h i2 y t (i + 1) ∧ h.IsList l1 xs ∧
        T ≠ z ∧ T ≠ TO ∧ T ≠ i1 ∧ T ≠ i2) where
  sub := fun c hc => by simp at hc ⊢; rcases hc with rfl | rfl | rfl | rfl <;> simp
  frame := fun i h h' hst hk => by
    obtain ⟨hz, hTI, ⟨a, b, hTO⟩, h1, h2, hl1⟩ := hst; exact ⟨hk z (by simp) _ hz, hk TI (by simp) _ hTI, ⟨a, b, hk TO (by simp) _ hTO⟩, h1.at fun o e => hk i1 (by simp) o e, ascI_ext h2 fun o e => hk i2 (by simp) o e,
      hl1.at fun o e => hk l1 (by simp) o e⟩
  item := fun i s Q E hi hst hQ => by
    obtain ⟨hz, hTI, ⟨a, b, hTO⟩, h1, h2, hl1⟩ := hst; have hix : i < xs.size := Nat.lt_of_lt_of_le hi (Nat.min_le_left ..); have hiy : i < y.cps.size := Nat.lt_of_lt_of_le hi (Nat.min_le_right ..); refine zfb D hz hTI hTO h1 h2 hl1 (Array.getElem?_eq_getElem hix) (Array.getElem?_eq_getElem hiy) fun h' tk u a1 a2 a3 a4 a5 a6 hk => ?_
    have lt : ∀ {c o}, s.heap.get? c = some o → s.heap.objs.size ≠ c := fun e => Nat.ne_of_gt (Heap.lt_size e)
    exact hQ s.heap.objs.size #[xs[i], .str ⟨#[y.cps[i]]⟩ u] h' tk ⟨_, _, u, Array.getElem?_eq_getElem hix, Array.getElem?_eq_getElem hiy, rfl⟩ (Nat.le_refl _) ⟨_, a5, rfl, _, rfl⟩
      ⟨a1, hk _ _ D.TIz D.TITO D.TIi1 D.TIi2 hTI, ⟨_, _, a2⟩, a3, a4, hl1.at fun o e => hk _ o D.l1z D.l1TO D.l1i1 D.l1i2 e,
        lt hz, lt hTO, (by obtain ⟨_, e, _⟩ := h1; exact lt e), (by obtain ⟨_, e, _⟩ := h2; exact lt e)⟩
      fun c o hc e => hk c o (fun x => hc (by simp [x])) (fun x => hc (by simp [x])) (fun x => hc (by simp [x])) (fun x => hc (by simp [x])) e
  go := fun elts k pos i T s Q E hm hQ => by
    obtain ⟨hz, hTI, ⟨a, b, hTO⟩, h1, h2, hl1, _⟩ := hm; refine wpAny_letOwnedTupleGo_zip hz fun h' hz' hs' => hQ h' ⟨hz', hs'.extBut _ _ D.TIz hTI, ⟨a, b, hs'.extBut _ _ D.TOz hTO⟩, h1.extBut hs'.extBut D.i1z, h2.extBut hs'.extBut D.i2z,
      hl1.extBut hs'.extBut D.l1z⟩ fun c o hc e => hs'.extBut _ _ (fun x => hc (by simp [x])) e
  apart := fun i T h hm hT => by
    obtain ⟨_, _, _, _, _, _, t1, t2, t3, t4⟩ := hm; simp at hT; rcases hT with rfl | rfl | rfl | rfl
    · exact t1 rfl
    · exact t2 rfl
    · exact t3 rfl
    · exact t4 rfl
  done := fun s Q E hst hQ => by
    obtain ⟨hz, hTI, ⟨a, b, hTO⟩, h1, h2, hl1⟩ := hst; have hend : xs[min xs.size y.cps.size]? = none ∨ y.cps[min xs.size y.cps.size]? = none := by
      rcases Nat.le_total xs.size y.cps.size with h | h
      · exact .inl (by rw [Nat.min_eq_left h]; exact Array.getElem?_eq_none (Nat.le_refl _))
      · exact .inr (by rw [Nat.min_eq_right h]; exact Array.getElem?_eq_none (Nat.le_refl _))
    exact zfr hh D hz hTI hTO h1 h2 hl1 hend fun h' hk => hQ h' s.toks fun c o hc e =>
      hk c o (fun x => hc (by simp [x])) (fun x => hc (by simp [x])) (fun x => hc (by simp [x])) (fun x => hc (by simp [x])) e
  self := fun i s Q E hst hQ => wpAny_pyIter_zip hst.1 hQ
abbrev zipS2 (h : Heap) (l1 : Addr) (y : Str) (t : Tok) : Heap := (zipH1 h l1).push { cls := .type "str_ascii_iterator", data := .fields #[.str y t, .int 0 0] }
abbrev zipS3 (h : Heap) (l1 : Addr) (y : Str) (t : Tok) : Heap := (zipS2 h l1 y t).push { cls := .type "tuple", data := .seq #[.ref h.objs.size, .ref (zipH1 h l1).objs.size] }
abbrev zipS4 (h : Heap) (l1 : Addr) (y : Str) (t : Tok) : Heap := (zipS3 h l1 y t).push { cls := .type "tuple", data := .seq #[.none, .none] }
abbrev zipS5 (h : Heap) (l1 : Addr) (y : Str) (t : Tok) : Heap := (zipS4 h l1 y t).push { cls := .type "zip", data := .fields #[.none, .bool false, .bool false, .ref (zipS2 h l1 y t).objs.size, .ref (zipS3 h l1 y t).objs.size] }
set_option maxHeartbeats 4000000 in
theorem zh0 (l1 : Addr) (xs : Array Value) (y : Str) (t : Tok) (hy : y.cps.all (· < 128) = true) :
    Meets (Builtin.«zip.__new__» ⟨[.type "zip", .ref l1, .str y t], []⟩) (fun _ R s => s.heap.IsList l1 xs ∧
      R (.ok (.ret (.ref (zipS4 s.heap l1 y t).objs.size))) { s with heap := zipS5 s.heap l1 y t }) :=
  .of_wp fun prog w A R s h => by
    obtain ⟨hp, g, d, tk, os⟩ := s; obtain ⟨hl1, h⟩ := h; have hsub := sub_zip; have hL1 : Heap.IsList (Shared.heap ⟨hp, g, d, tk, os⟩) l1 xs := hl1
    wp_walk using wpAny_pyIter_list hL1, wpAny_pyIter_ascii hy
    exact ⟨_, rfl, h⟩
theorem call_zip_str {l1 : Addr} {xs : Array Value} {y : Str} {t : Tok} {Q : Value → Shared → Prop} (hl1 : s.heap.IsList l1 xs) (hy : y.cps.all (· < 128) = true)
    (h : ∀ h', IsZip h' (s.heap.objs.size + 4) (s.heap.objs.size + 2) (s.heap.objs.size + 3) .none → IsPair h' (s.heap.objs.size + 2) (.ref s.heap.objs.size) (.ref (s.heap.objs.size + 1)) →
      IsPair h' (s.heap.objs.size + 3) .none .none → h'.IsListIter s.heap.objs.size l1 0 → AscI h' (s.heap.objs.size + 1) y t 0 → h'.objs.size = s.heap.objs.size + 5 →
      (∀ c o, s.heap.get? c = some o → h'.get? c = some o) → Q (.ref (s.heap.objs.size + 4)) { s with heap := h' }) :
    wpAny (model prog w) A (call (.type "zip") [.ref l1, .str y t]) Q E s := by
  refine callType_new F.called_zip (by decide) (F.typeCall_zip_2 _ _) (F.newCall_zip_2 _ _) (fun obj => F.args_object_init_3 obj _ _) F.entry_zip_new
    (zh0 l1 xs y t hy) ⟨hl1, ?_⟩
  have z1 : (zipH1 s.heap l1).objs.size = s.heap.objs.size + 1 := Heap.size_push ..; have z2 : (zipS2 s.heap l1 y t).objs.size = s.heap.objs.size + 2 := by rw [Heap.size_push, z1]
  have z3 : (zipS3 s.heap l1 y t).objs.size = s.heap.objs.size + 3 := by rw [Heap.size_push, z2]
  have z4 : (zipS4 s.heap l1 y t).objs.size = s.heap.objs.size + 4 := by rw [Heap.size_push, z3]
  have z5 : (zipS5 s.heap l1 y t).objs.size = s.heap.objs.size + 5 := by rw [Heap.size_push, z4]
  have g5 : (zipS5 s.heap l1 y t).get? (zipS4 s.heap l1 y t).objs.size = some _ := Heap.get?_push_size _ rfl; have g4 : (zipS5 s.heap l1 y t).get? (zipS3 s.heap l1 y t).objs.size = some _ := Heap.get?_push_of_some _ (Heap.get?_push_size _ rfl); have g3 : (zipS5 s.heap l1 y t).get? (zipS2 s.heap l1 y t).objs.size = some _ := Heap.get?_push_of_some _ (Heap.get?_push_of_some _ (Heap.get?_push_size _ rfl)); have g2 : (zipS5 s.heap l1 y t).get? (zipH1 s.heap l1).objs.size = some _ := Heap.get?_push_of_some _ (Heap.get?_push_of_some _ (Heap.get?_push_of_some _ (Heap.get?_push_size _ rfl))); have g1 : (zipS5 s.heap l1 y t).get? s.heap.objs.size = some _ := Heap.get?_push_of_some _ (Heap.get?_push_of_some _ (Heap.get?_push_of_some _ (Heap.get?_push_of_some _ (Heap.get?_push_size _ rfl)))); show _ ∧ _; rw [z2, z3, z4] at g5; rw [z1, z2] at g3; rw [z3] at g4; rw [z1] at g2; rw [z4]; exact ⟨⟨_, g5, rfl⟩, h _ g5 g3 g4 ⟨_, g1, rfl, rfl⟩ ⟨_, g2, rfl, rfl⟩ z5 fun c o x =>
    Heap.get?_push_of_some _ (Heap.get?_push_of_some _ (Heap.get?_push_of_some _ (Heap.get?_push_of_some _ (Heap.get?_push_of_some _ x))))⟩
end
section
variable {prog : Program} {w : World} {A : Around}
theorem itw_zipS {elts : List Expr} {k : Nat} {pos : Pos} (hA : A.handled = none) (z TI TO i1 i2 l1 : Addr) (D : zfe z TI TO i1 i2 l1) (xs : List PV) (vs : List Value) (hlen : vs.length = xs.length) (y : List Nat) (t : Tok) (hy : okS y) :
    ItW prog w A (.Tuple elts k pos) z [z, TI, TO, i1, i2] (zcn xs (y.map fun c => .str [c])) (fun i h O => (IsZip h z TI TO .none ∧ IsPair h TI (.ref i1) (.ref i2) ∧ (∃ a b, IsPair h TO a b) ∧ h.IsListIter i1 l1 i ∧ AscI h i2 ⟨y.toArray⟩ t i ∧ h.IsList l1 vs.toArray) ∧
      (∀ b ∈ [z, TI, TO, i1, i2, l1], b ∈ [z, TI, TO, i1, i2] ∨ (b ≠ zao ∧ ¬ O b ∧ ∃ o, h.get? b = some o ∧ Hardy o)) ∧ VRs h O xs vs) := by
  refine zgm (Rel := fun h O => VRs h O xs vs) (WalksT.zipS (prog := prog) (w := w) hA z TI TO i1 i2 l1 D vs.toArray ⟨y.toArray⟩ t) ?_ (by rw [List.size_toArray, zdo, hlen]; simp) (fun h O h' O' r k => r.frm k) ?_ ?_ ?_
  · intro b hb; simp at hb ⊢; rcases hb with rfl | rfl | rfl | rfl <;> simp
  · intro i h st b hb; obtain ⟨hz, hTI, ⟨a, c, hTO⟩, ⟨o1, h1, hc1, hd1⟩, ⟨o2, h2, hc2, hd2⟩, _⟩ := st; simp only [List.mem_cons, List.not_mem_nil, or_false] at hb; rcases hb with rfl | rfl | rfl | rfl | rfl
    · exact ⟨_, hz, .fields rfl (zat rfl (by decide)), _, rfl, by decide⟩
    · exact ⟨_, hTI, .seq rfl (zat rfl (by decide)), _, rfl, by decide⟩
    · exact ⟨_, hTO, .seq rfl (zat rfl (by decide)), _, rfl, by decide⟩
    · exact ⟨_, h1, .fields hd1 (zat hc1 (by decide)), _, hc1, by decide⟩
    · exact ⟨_, h2, .fields hd2 (zat hc2 (by decide)), _, hc2, by decide⟩
  · intro i T h st b hb; obtain ⟨hz, hTI, ⟨a, c, hTO⟩, ⟨o1, h1, hc1, hd1⟩, ⟨o2, h2, hc2, hd2⟩, _⟩ := st; simp only [List.mem_cons, List.not_mem_nil, or_false] at hb; rcases hb with rfl | rfl | rfl | rfl
    · exact ⟨_, hz⟩
    · exact ⟨_, hTO⟩
    · exact ⟨_, h1⟩
    · exact ⟨_, h2⟩
  · intro i vals h O hp r; obtain ⟨x, c, u, hx, hc, rfl⟩ := hp; rw [List.getElem?_toArray] at hx; have hi : i < xs.length := by rw [← hlen]; exact (List.getElem?_eq_some_iff.mp hx).1
    have hc' : y[i]? = some c := by simpa using hc
    obtain ⟨rv, h1, h2⟩ := r.get (List.getElem?_eq_getElem hi); rw [hx] at h1; cases h1; refine ⟨xs[i], .str [c], _, _, rfl, h2, ⟨⟨by show 1 ≤ small; decide, fun d hd => ?_⟩, u, rfl⟩, ?_⟩
    · rw [List.mem_singleton.mp hd]; exact hy.2 c (List.mem_of_getElem? hc')
    · rw [zipL_get, List.getElem?_eq_getElem hi, List.getElem?_map, hc']; rfl
end
end Mine
namespace Mine
open PySem PyProof.Rows PySem.Spec
section
variable {prog : Program} {w : World} {A : Around} {hb : HB} {Γ : Gam} {c : CT}
def TgFit (k : IK) (tg : Expr) : Prop := match k with
  | .plain => ∀ I v, letOwnedTupleGo tg I v = pure ()
  | .range => ∀ I v, letOwnedTupleGo tg I v = pure ()
  | _ => ∃ elts kk p, tg = .Tuple elts kk p
def SIt (prog : Program) (w : World) (A : Around) (hb : HB) (Γ : Gam) (c : CT) (it : Expr) (k : IK) (a b : PE) : Prop :=
  ∀ (env : Env) (O : Addr → Prop) (ow : Nat → Option Addr) (σ : zad) (s : Shared), FR hb c env O ow σ s.heap → XC hb O s → 1 ≤ s.toks →
    ∀ x y items tg, evE Γ a .val σ = some x → evE Γ b .val σ = some y → zau k x y = some items → TgFit k tg →
    ∀ (Q : Value → Shared → Prop) (E : Value → Shared → Prop), (∀ I wr St s', Kp hb s s' → 1 ≤ s'.toks → ItW prog w A tg I wr items St → St 0 s'.heap (fun b => O b ∨ b ∈ wr) → (∀ b ∈ wr, s.heap.get? b = none) → items.length ≤ small → Q (.ref I) s') →
      wpAny (model prog w) A (eval it env) (fun xv s₁ => wpAny (model prog w) A (pyIter xv) Q E s₁) E s
theorem zbh {h : Heap} {a : Addr} (ha : h.objs.size ≤ a) : h.get? a = none := by
  cases e : h.get? a with
  | none => rfl
  | some o' => exact absurd (Heap.lt_size e) (Nat.not_lt.mpr ha)
theorem zbm {s s' : Shared} {b : Addr} (x : Kp hb s s') (g : GS hb s) (h : s'.heap.get? b = none) : s.heap.get? b = none := by
  cases q : s.heap.get? b with
  | none => rfl
  | some o =>
    obtain ⟨o', e⟩ := (Frm.kp x g (fun _ => False)).alive b o q
    rw [h] at e; cases e
theorem Frm.keeps {h h' : Heap} {O : Addr → Prop} {wr : List Addr} (k : ∀ b o, h.get? b = some o → h'.get? b = some o) (hn : ∀ b ∈ wr, h.get? b = none) : Frm h O h' (fun b => O b ∨ b ∈ wr) :=
  ⟨fun b o e => ⟨o, k b o e⟩, fun b o _ e _ _ => k b o e, fun b o e hO q => by
    rcases q with q | q
    · exact hO q
    · rw [hn b q] at e; cases e⟩
theorem zdd {it : Expr} {a : PE} (ha : SE prog w A hb Γ c it a) (hA : A.handled = none) : SIt prog w A hb Γ c it .plain a (.lit .nul) := by
  intro env O ow σ s fr xc ht x y items tg hx hy hi htg Q E hQ; refine ha.val fr xc ht hx _ _ fun rv s₁ k₁ t₁ r₁ => ?_
  cases x with
  | list xs =>
    have hi : some _ = some items := hi
    have hi := Option.some.inj hi
    subst hi
    obtain ⟨z, l, vs, rfl, hl0, hO, hl, r⟩ := r₁
    refine wpAny_pyIter_list hl.isList ?_
    have hlt : l < s₁.heap.objs.size := by obtain ⟨_, e⟩ := hl; exact Heap.lt_size e
    have kp2 : Kp hb s₁ { s₁ with heap := s₁.heap.push { cls := .type "list_iterator", data := .fields #[.ref l, .int 0 0] } } := Kp.push (tk := s₁.toks)
    have hn : ∀ b ∈ [s₁.heap.objs.size], s₁.heap.get? b = none := fun b hb => by rw [List.mem_singleton.mp hb]; exact zbh (Nat.le_refl _)
    have fm : Frm s₁.heap O (s₁.heap.push { cls := .type "list_iterator", data := .fields #[.ref l, .int 0 0] }) (fun b => O b ∨ b ∈ [s₁.heap.objs.size]) := .keeps (fun b o e => Heap.get?_push_of_some _ e) hn
    refine hQ _ [s₁.heap.objs.size] _ _ (k₁.trans kp2) t₁ (itw_list htg hA _ l xs vs (Nat.ne_of_lt hlt)) ?_ (fun b hb => zbm k₁ xc.gs (hn b hb)) z
    obtain ⟨n, e⟩ := hl
    exact ⟨⟨_, Heap.get?_push_size _ rfl, rfl, rfl⟩, ⟨n, Heap.get?_push_of_some _ e⟩, hl0, fm.thin _ _ e hO, r.frm fm⟩
  | _ => cases hi
theorem sit_range {x : Str} {np pos : Pos} {e : Expr} {a : PE} (h : zam x = true) (hg : c.glob x = some (.type "range")) (hc : cE c e = some a) (ha : SE prog w A hb Γ c e a) (hA : A.handled = none) :
    SIt prog w A hb Γ c (.Call (.Name x np) [e] [] pos) .range a (.lit .nul) := by
  intro env O ow σ s fr xc ht vx y items tg hx hy hi htg Q E hQ; refine wpAny_with_toks ht ?_; refine wpAny_Call_NameR (wpAny_Name (zc7 fr.fk xc.gs hg ?_) (zax h).1); have hun := zbi (c := c) (env := env) (es := [e]) (pes := [a]) (by rw [cEs, hc]; rfl) pos; refine PySem.callWith_type hun.1 ?_; rw [zb7 hc]; refine Calls.evalArgs_plain (Calls.spliced_cons (ha.val fr xc ht hx _ _ fun rv s₁ k₁ t₁ r₁ => ?_))
  refine Calls.spliced_nil ?_
  cases vx with
  | int n =>
    obtain ⟨t, rfl⟩ := r₁
    have hi : (if -4096 ≤ n ∧ n ≤ 4096 then some (zcw 0 n.toNat) else none) = some items := hi
    split at hi
    · rename_i hz
      cases hi
      refine call_range_1 ?_; intro _; refine wpAny_with_toks (n := 1) (by show 1 ≤ s₁.toks + 1 + 1; omega) ?_; refine wpAny_pyIter_range (IsRange.new ..) (small_one (by decide) (by decide) (by omega) (by omega)) ?_; have hsz : Builtin.Range.rangeSize 0 n 1 = (n.toNat : Int) := by rw [rangeSize_one]; split <;> omega
      intro tk; have hn : ∀ b ∈ [s₁.heap.objs.size + 1], s₁.heap.get? b = none := fun b hb => by rw [List.mem_singleton.mp hb]; exact zbh (Nat.le_succ _)
      have e1 : (s₁.heap.push { cls := .type "range", data := .fields #[.int 0 s₁.toks, .int n t, .int 1 (s₁.toks + 1)] }).objs.size = s₁.heap.objs.size + 1 := Heap.size_push ..; rw [e1]; refine hQ _ [s₁.heap.objs.size + 1] _ _ (k₁.trans ((Kp.push (tk := s₁.toks + 1 + 1)).trans (Kp.push (tk := s₁.toks + 1 + 1)))) tk (itw_range htg hA _ n.toNat) ?_ (fun b hb => zbm k₁ xc.gs (hn b hb)) ?_
      · show IsRangeIter _ _ _ _ _; rw [hsz]; have := Heap.get?_push_size (s₁.heap.push { cls := .type "range", data := .fields #[.int 0 s₁.toks, .int n t, .int 1 (s₁.toks + 1)] }) (o := { cls := .type "range_iterator", data := .fields #[rawInt 0, rawInt (n.toNat : Int), rawInt 1] }) rfl; rw [e1] at this; simpa using this
      · rw [zge]; have h2 : small = 1048576 := rfl; omega
    · cases hi
  | _ => cases hi
theorem sit_enum {x : Str} {np pos : Pos} {e : Expr} {a : PE} (h : zam x = true) (hg : c.glob x = some (.type "enumerate")) (hc : cE c e = some a) (ha : SE prog w A hb Γ c e a) (hA : A.handled = none) :
    SIt prog w A hb Γ c (.Call (.Name x np) [e] [] pos) .enum a (.lit .nul) := by
  intro env O ow σ s fr xc ht vx y items tg hx hy hi htg Q E hQ; obtain ⟨elts, kk, p, rfl⟩ := htg; refine wpAny_Call_NameR (wpAny_Name (zc7 fr.fk xc.gs hg ?_) (zax h).1); have hun := zbi (c := c) (env := env) (es := [e]) (pes := [a]) (by rw [cEs, hc]; rfl) pos; refine PySem.callWith_type hun.1 ?_; rw [zb7 hc]; refine Calls.evalArgs_plain (Calls.spliced_cons (ha.val fr xc ht hx _ _ fun rv s₁ k₁ t₁ r₁ => ?_))
  refine Calls.spliced_nil ?_
  cases vx with
  | list xs =>
    have hi : some _ = some items := hi
    have hi := Option.some.inj hi
    subst hi
    obtain ⟨z, l, vs, rfl, hl0, hO, hl, r⟩ := r₁
    have hlt : l < s₁.heap.objs.size := by obtain ⟨_, e⟩ := hl; exact Heap.lt_size e
    refine call_enumerate_list hl.isList fun h' he hit hz hk => ?_
    refine wpAny_pyIter_enum he ?_
    have hn : ∀ b ∈ [s₁.heap.objs.size + 1, s₁.heap.objs.size], s₁.heap.get? b = none := fun b hb => by
      rcases List.mem_cons.mp hb with rfl | hb
      · exact zbh (Nat.le_succ _)
      · rw [List.mem_singleton.mp hb]; exact zbh (Nat.le_refl _)
    have fm : Frm s₁.heap O h' (fun b => O b ∨ b ∈ [s₁.heap.objs.size + 1, s₁.heap.objs.size]) := .keeps hk hn
    refine hQ _ [s₁.heap.objs.size + 1, s₁.heap.objs.size] _ _ (k₁.trans (.keeps (tk := s₁.toks) hk)) t₁ (itw_enum hA _ _ l (Nat.ne_of_gt (Nat.lt_succ_self _)) (Nat.ne_of_lt (Nat.lt_succ_of_lt hlt)) (Nat.ne_of_lt hlt) xs vs r.length) ?_ (fun b hb => zbm k₁ xc.gs (hn b hb)) (by rw [zeq]; exact z)
    obtain ⟨n, e⟩ := hl
    refine ⟨⟨⟨_, he⟩, hit, ⟨_, hk _ _ e, rfl, _, rfl⟩⟩, fun b hb => ?_, r.frm fm⟩
    simp only [List.mem_cons, List.not_mem_nil, or_false] at hb ⊢
    rcases hb with rfl | rfl | rfl
    · exact .inl (.inl rfl)
    · exact .inl (.inr rfl)
    · exact .inr ⟨hl0, by simpa only [List.mem_cons, List.not_mem_nil, or_false] using fm.thin _ _ e hO, _, hk _ _ e, .seq rfl (zat rfl (by decide))⟩
  | _ => cases hi
theorem sit_zip {x : Str} {np pos : Pos} {e1 e2 : Expr} {a b : PE} (h : zam x = true) (hg : c.glob x = some (.type "zip")) (hc1 : cE c e1 = some a) (hc2 : cE c e2 = some b) (ha : SE prog w A hb Γ c e1 a) (hb' : SE prog w A hb Γ c e2 b) (hA : A.handled = none) :
    SIt prog w A hb Γ c (.Call (.Name x np) [e1, e2] [] pos) .zip a b := by
  intro env O ow σ s fr xc ht vx vy items tg hx hy hi htg Q E hQ; obtain ⟨elts, kk, p, rfl⟩ := htg; refine wpAny_Call_NameR (wpAny_Name (zc7 fr.fk xc.gs hg ?_) (zax h).1); have hun := zbi (c := c) (env := env) (es := [e1, e2]) (pes := [a, b]) (by rw [cEs, hc1, cEs, hc2]; rfl) pos; refine PySem.callWith_type hun.1 ?_; rw [zb7 hc1]; refine Calls.evalArgs_plain (Calls.spliced_cons (ha.val fr xc ht hx _ _ fun rv s₁ k₁ t₁ r₁ => ?_))
  rw [zb7 hc2]; refine Calls.spliced_cons (hb'.val (fr.kp k₁) (xc.kp k₁) t₁ hy _ _ fun rv2 s₂ k₂ t₂ r₂ => ?_)
  refine Calls.spliced_nil ?_; have r₁ := VR.kp k₂ r₁; have hi : (match za7 vx, zes vy with | some x, some y => some (zcn x y) | _, _ => none) = some items := hi
  have hn : ∀ b ∈ [s₂.heap.objs.size + 4, s₂.heap.objs.size + 2, s₂.heap.objs.size + 3, s₂.heap.objs.size, s₂.heap.objs.size + 1], s₂.heap.get? b = none := fun b hb => by
    simp only [List.mem_cons, List.not_mem_nil, or_false] at hb; rcases hb with rfl | rfl | rfl | rfl | rfl <;> first | exact zbh (Nat.le_refl _) | exact zbh (Nat.le_add_right _ _)
  cases vx with
  | list xs =>
    obtain ⟨z, l, vs, rfl, hl0, hO, hl, r⟩ := r₁
    have hlt : l < s₂.heap.objs.size := by obtain ⟨_, e⟩ := hl; exact Heap.lt_size e
    cases vy with
    | list ys =>
      have hi := Option.some.inj hi
      subst hi
      obtain ⟨z', l', us, rfl, hl0', hO', hl', r'⟩ := r₂
      have hlt' : l' < s₂.heap.objs.size := by obtain ⟨_, e⟩ := hl'; exact Heap.lt_size e
      refine call_zip_2 hl.isList hl'.isList fun h' hz hTI hTO h1 h2 hsz hk => ?_
      refine wpAny_pyIter_zip hz ?_
      have fm : Frm s₂.heap O h' (fun b => O b ∨ b ∈ [s₂.heap.objs.size + 4, s₂.heap.objs.size + 2, s₂.heap.objs.size + 3, s₂.heap.objs.size, s₂.heap.objs.size + 1]) := .keeps hk hn
      refine hQ _ _ _ _ ((k₁.trans k₂).trans (.keeps (tk := s₂.toks) hk)) t₂ (itw_zip hA _ _ _ _ _ l l' (zipApart_new hlt hlt') xs ys vs us r.length r'.length) ?_ (fun b hb => zbm (k₁.trans k₂) xc.gs (hn b hb)) (by rw [zdo]; omega)
      obtain ⟨n, e⟩ := hl
      obtain ⟨n', e'⟩ := hl'
      refine ⟨⟨hz, hTI, ⟨_, _, hTO⟩, h1, h2, ⟨_, hk _ _ e, rfl, _, rfl⟩, ⟨_, hk _ _ e', rfl, _, rfl⟩⟩, fun b hb => ?_, r.frm fm, r'.frm fm⟩
      by_cases hbw : b ∈ [s₂.heap.objs.size + 4, s₂.heap.objs.size + 2, s₂.heap.objs.size + 3, s₂.heap.objs.size, s₂.heap.objs.size + 1]
      · exact .inl hbw
      · have hb2 : b = l ∨ b = l' := by
          simp only [List.mem_cons, List.not_mem_nil, or_false] at hb hbw; rcases hb with q | q | q | q | q | q | q
          · exact absurd (.inl q) hbw
          · exact absurd (.inr (.inl q)) hbw
          · exact absurd (.inr (.inr (.inl q))) hbw
          · exact absurd (.inr (.inr (.inr (.inl q)))) hbw
          · exact absurd (.inr (.inr (.inr (.inr q)))) hbw
          · exact .inl q
          · exact .inr q
        rcases hb2 with rfl | rfl
        · exact .inr ⟨hl0, fm.thin _ _ e hO, _, hk _ _ e, .seq rfl (zat rfl (by decide))⟩
        · exact .inr ⟨hl0', fm.thin _ _ e' hO', _, hk _ _ e', .seq rfl (zat rfl (by decide))⟩
    | str y =>
      have hi : (match (if zbq y then some (y.map fun c => PV.str [c]) else none) with | some y => some (zcn xs y) | none => none) = some items := by
        cases hq : zbq y <;> simp [za7, zes, hq] at hi ⊢ <;> exact hi
      by_cases hy' : zbq y = true
      · rw [if_pos hy'] at hi
        cases hi
        obtain ⟨zy, t, rfl⟩ := r₂; have hasc : (⟨y.toArray⟩ : Str).cps.all (· < 128) = true := by
          show y.toArray.all (· < 128) = true; rw [List.all_toArray]; exact hy'
        refine call_zip_str hl.isList hasc fun h' hz hTI hTO h1 h2 hsz hk => ?_
        refine wpAny_pyIter_zip hz ?_; have fm : Frm s₂.heap O h' (fun b => O b ∨ b ∈ [s₂.heap.objs.size + 4, s₂.heap.objs.size + 2, s₂.heap.objs.size + 3, s₂.heap.objs.size, s₂.heap.objs.size + 1]) := .keeps hk hn
        have ap := zipApart_new hlt hlt; refine hQ _ _ _ _ ((k₁.trans k₂).trans (.keeps (tk := s₂.toks) hk)) t₂ (itw_zipS hA _ _ _ _ _ l ⟨ap.TIz, ap.TOz, ap.i1z, ap.i2z, ap.TITO, ap.TIi1, ap.TIi2, ap.TOi1, ap.TOi2, ap.i12, ap.l1z, ap.l1TO, ap.l1i1, ap.l1i2⟩ xs vs r.length y t zy) ?_ (fun b hb => zbm (k₁.trans k₂) xc.gs (hn b hb)) (by rw [zdo]; omega)
        obtain ⟨n, e⟩ := hl; refine ⟨⟨hz, hTI, ⟨_, _, hTO⟩, h1, h2, ⟨_, hk _ _ e, rfl, _, rfl⟩⟩, fun b hb => ?_, r.frm fm⟩
        by_cases hbw : b ∈ [s₂.heap.objs.size + 4, s₂.heap.objs.size + 2, s₂.heap.objs.size + 3, s₂.heap.objs.size, s₂.heap.objs.size + 1]
        · exact .inl hbw
        · have hb2 : b = l := by
            simp only [List.mem_cons, List.not_mem_nil, or_false] at hb hbw; rcases hb with q | q | q | q | q | q
            · exact absurd (.inl q) hbw
            · exact absurd (.inr (.inl q)) hbw
            · exact absurd (.inr (.inr (.inl q))) hbw
            · exact absurd (.inr (.inr (.inr (.inl q)))) hbw
            · exact absurd (.inr (.inr (.inr (.inr q)))) hbw
            · exact q
          subst hb2; exact .inr ⟨hl0, fm.thin _ _ e hO, _, hk _ _ e, .seq rfl (zat rfl (by decide))⟩
      · rw [if_neg hy'] at hi; cases hi
    | _ => cases hi
  | _ => cases hi
end
end Mine
namespace Mine
open PySem PyProof.Rows PySem.Spec
theorem zbv : ∀ (names : List (Str × NameKind)) (n : Nat) (acc : List (Str × Addr)), cellsFrom n names acc = cellsFrom n names [] ++ acc
  | [], n, acc => rfl
  | (name, kind) :: r, n, acc => by
    unfold cellsFrom
    split
    · rw [zbv r (n + 1) ((name, n) :: acc), zbv r (n + 1) [(name, n)]]; simp
    · exact zbv r n acc
theorem zc4 : ∀ (names : List (Str × NameKind)) (n : Nat) (acc : List (Str × Addr)) (x : Str), (x, NameKind.cell) ∈ names → ∃ a, (x, a) ∈ cellsFrom n names acc
  | (name, kind) :: r, n, acc, x, h => by
    unfold cellsFrom; rcases List.mem_cons.mp h with e | h
    · cases e
      rw [if_pos (by rfl), zbv]; exact ⟨n, List.mem_append_right _ (List.mem_cons_self ..)⟩
    · split
      · exact zc4 r _ _ x h
      · exact zc4 r _ _ x h
theorem zdy : ∀ (names : List (Str × NameKind)) (n : Nat) (x : Str) (a : Addr), (x, a) ∈ cellsFrom n names [] → (x, NameKind.cell) ∈ names
  | [], n, x, a, h => by cases h
  | (name, kind) :: r, n, x, a, h => by
    unfold cellsFrom at h
    split at h
    · rename_i hk; rw [zbv] at h; rcases List.mem_append.mp h with h | h
      · exact List.mem_cons_of_mem _ (zdy r _ x a h)
      · cases List.mem_singleton.mp h
        rw [beq_iff_eq.mp hk]; exact List.mem_cons_self ..
    · exact List.mem_cons_of_mem _ (zdy r _ x a h)
theorem zc5 : ∀ {l : List (Str × Addr)} {n : Str} {a : Addr}, (n, a) ∈ l → ∃ a', l.lookup n = some a'
  | (k, v) :: r, n, a, h => by
    rw [List.lookup_cons]
    cases hb : n == k with
    | true => exact ⟨_, rfl⟩
    | false =>
      rcases List.mem_cons.mp h with e | h
      · cases e; simp at hb
      · exact zc5 h
theorem zdt {α : Type} : ∀ (l r : List (Str × α)) (n : Str), (l ++ r).lookup n = match l.lookup n with | some a => some a | none => r.lookup n
  | [], r, n => rfl
  | (k, v) :: l, r, n => by
    rw [List.cons_append, List.lookup_cons, List.lookup_cons]
    cases n == k with
    | true => rfl
    | false => exact zdt l r n
theorem zc2 {α : Type} : ∀ {l : List (Str × α)} {n : Str} {a : α}, (l.map (·.1)).Nodup → (n, a) ∈ l → l.lookup n = some a
  | (k, v) :: r, n, a, hn, h => by
    rw [List.lookup_cons]; rw [List.map_cons, List.nodup_cons] at hn; rcases List.mem_cons.mp h with e | h
    · cases e; simp
    · have : n ≠ k := fun e => hn.1 (by show k ∈ _; rw [← e]; exact List.mem_map_of_mem (f := fun x : Str × α => x.1) h)
      rw [beq_eq_false_iff_ne.mpr this]; exact zc2 hn.2 h
section
variable {M : Model} {A : Around} {E : Value → Shared → Prop} {s : Shared} {env : Env}
theorem newEnvComp {scope : Scope} {cl : List (Str × Addr)} {Q : Env → Shared → Prop}
    (hQ : Q { scope, locals := s.heap.objs.size, globals := env.globals, cells := cellsFrom (s.heap.objs.size + 1) scope.names cl, qual := env.qual, func := none, code := env.code, frame := env.frame, builtins := env.builtins }
      { s with heap := pushCells (s.heap.push { cls := .type "dict", data := .dict #[] }) scope.names }) :
    wpAny M A (newFunctionEnv scope env.globals cl [] env.qual none .none (some env)) Q E s := by
  simp only [newFunctionEnv, Option.isSome_some, if_true]; refine wpAny_bind (wpAny_alloc ?_); refine wpAny_bind (wpAny_layCells _ (fun name kind cells => by cases hkc : kind == NameKind.cell <;> simp [hkc]) _ _ _ _ ?_)
  rw [show ({ s with heap := s.heap.push { cls := .type "dict", data := .dict #[] } } : Shared).heap.objs.size = s.heap.objs.size + 1 from Heap.size_push ..]; refine wpAny_bind ?_; rw [List.forIn_nil]; exact wpAny_pure (wpAny_pure hQ)
theorem zfw : ∀ (names : List (Str × NameKind)) (acc : List (Str × Addr)), (∀ n, (n, NameKind.free) ∈ names → ∃ a, env.cells.lookup n = some a) →
    ∃ cl, (forIn names acc fun x (cs : List (Str × Addr)) => (match x with | (name, kind) => (if (kind == NameKind.free) = true then (do let a ← cellOf env name; pure (ForInStep.yield ((name, a) :: cs))) else pure (ForInStep.yield cs)) : Sem (ForInStep (List (Str × Addr))))) = (pure (cl ++ acc) : Sem (List (Str × Addr))) ∧
      (∀ n a, cl.lookup n = some a → env.cells.lookup n = some a) ∧ (∀ n, (n, NameKind.free) ∈ names → ∃ a, (n, a) ∈ cl) ∧ (∀ n a, (n, a) ∈ cl → (n, NameKind.free) ∈ names)
  | [], acc, h => ⟨[], rfl, fun _ _ e => (nomatch e), fun _ e => (nomatch e), fun _ _ e => (nomatch e)⟩
  | (n, k) :: r, acc, h => by
    have h' : ∀ n, (n, NameKind.free) ∈ r → ∃ a, env.cells.lookup n = some a := fun n hn => h n (List.mem_cons_of_mem _ hn)
    rw [List.forIn_cons]; by_cases hk : k = .free
    · subst hk; obtain ⟨a, ha⟩ := h n (List.mem_cons_self ..); obtain ⟨cl, e1, e2, e3, e4⟩ := zfw r ((n, a) :: acc) h'; refine ⟨cl ++ [(n, a)], ?_, ?_, ?_, fun n' a' q => ?_⟩
      rotate_left 3
      · rcases List.mem_append.mp q with q | q
        · exact List.mem_cons_of_mem _ (e4 _ _ q)
        · cases List.mem_singleton.mp q; exact List.mem_cons_self ..
      · have ec : cellOf env n = pure a := by unfold cellOf; rw [ha]
        simp only [beq_self_eq_true, if_true, ec]; rw [show cl ++ [(n, a)] ++ acc = cl ++ (n, a) :: acc by simp]; exact e1
      · intro n' a' q; rw [zdt] at q
        split at q
        · rename_i a'' q'; cases q; exact e2 _ _ q'
        · rw [List.lookup_cons] at q
          cases hb : n' == n with
          | true => rw [hb] at q; cases q; rw [beq_iff_eq.mp hb]; exact ha
          | false => rw [hb] at q; cases q
      · intro n' hn'; rcases List.mem_cons.mp hn' with e | hn'
        · cases e; exact ⟨a, List.mem_append_right _ (List.mem_cons_self ..)⟩
        · obtain ⟨a', q⟩ := e3 n' hn'; exact ⟨a', List.mem_append_left _ q⟩
    · obtain ⟨cl, e1, e2, e3, e4⟩ := zfw r acc h'; refine ⟨cl, ?_, e2, ?_, fun n' a' q => List.mem_cons_of_mem _ (e4 _ _ q)⟩
      · have : (k == NameKind.free) = false := beq_eq_false_iff_ne.mpr hk; simp only [this, Bool.false_eq_true, if_false]; exact e1
      · intro n' hn'; rcases List.mem_cons.mp hn' with e | hn'
        · cases e; exact absurd rfl hk
        · exact e3 n' hn'
theorem closure_of {scope : Scope} (h : ∀ n, (n, NameKind.free) ∈ scope.names → ∃ a, env.cells.lookup n = some a) :
    ∃ cl, closureFor scope env = pure cl ∧ (∀ n a, cl.lookup n = some a → env.cells.lookup n = some a) ∧ (∀ n, (n, NameKind.free) ∈ scope.names → ∃ a, (n, a) ∈ cl) ∧ (∀ n a, (n, a) ∈ cl → (n, NameKind.free) ∈ scope.names) := by
  obtain ⟨cl, e1, e2, e3, e4⟩ := zfw (env := env) scope.names [] h; refine ⟨cl, ?_, e2, e3, e4⟩; rw [List.append_nil] at e1; unfold closureFor; show (forIn scope.names [] _ >>= fun cs => pure cs) = _
  have : (forIn scope.names ([] : List (Str × Addr)) fun x (cs : List (Str × Addr)) => (do
      match x with
      | (name, kind) => if (kind == NameKind.free) = true then (do let a ← cellOf env name; pure PUnit.unit; pure (ForInStep.yield ((name, a) :: cs))) else do pure PUnit.unit; pure (ForInStep.yield cs) : Sem (ForInStep (List (Str × Addr))))) = pure cl := e1
  rw [this]; rfl
end
def cEnv (sc : Scope) (cl : List (Str × Addr)) (C : Addr) (env : Env) : Env :=
  { scope := relabel sc env, locals := C, globals := env.globals, cells := cellsFrom (C + 1) sc.names cl, qual := env.qual, func := none, code := env.code, frame := env.frame, builtins := env.builtins }
theorem zfl {env : Env} : ∀ {names : List (Str × NameKind)} {x : Str} {k : NameKind}, names.lookup x = some k →
    ∃ k', (names.map fun (n, k) => if (k == NameKind.free && env.scope.kind == .function && env.kindOf n == some .cell) then (n, NameKind.cell) else (n, k)).lookup x = some k' ∧ (k ≠ .free → k' = k) ∧ (k = .free → k' = .cell ∨ k' = .free)
  | [], _, _, h => by simp at h
  | (n, k0) :: r, x, k, h => by
    show ∃ k', List.lookup x ((if (k0 == NameKind.free && env.scope.kind == .function && env.kindOf n == some .cell) = true then (n, NameKind.cell) else (n, k0)) :: _) = some k' ∧ _
    cases hx : x == n with
    | true =>
      simp only [List.lookup_cons, hx] at h
      cases h
      by_cases hc : (k0 == NameKind.free && env.scope.kind == .function && env.kindOf n == some .cell) = true
      · rw [if_pos hc]; simp only [List.lookup_cons, hx]; simp only [Bool.and_eq_true] at hc; have := beq_iff_eq.mp hc.1.1; exact ⟨_, rfl, fun q => absurd this q, fun _ => .inl rfl⟩
      · rw [if_neg hc]; simp only [List.lookup_cons, hx]; exact ⟨_, rfl, fun _ => rfl, fun q => .inr q⟩
    | false =>
      simp only [List.lookup_cons, hx] at h
      have ih := zfl (env := env) h
      by_cases hc : (k0 == NameKind.free && env.scope.kind == .function && env.kindOf n == some .cell) = true
      · rw [if_pos hc]; simp only [List.lookup_cons, hx]; exact ih
      · rw [if_neg hc]; simp only [List.lookup_cons, hx]; exact ih
theorem zcu : ∀ {l : List Str} {x : Str} {i : Nat}, l.idxOf? x = some i → l[i]? = some x := by
  intro l x i h; have := List.idxOf?_eq_some_iff.mp h; obtain ⟨h1, h2, _⟩ := this; rw [List.getElem?_eq_getElem h1]; exact congrArg some (by first | exact h2 | exact beq_iff_eq.mp h2)
section
variable {prog : Program} {w : World} {A : Around} {hb : HB} {Γ : Gam} {c : CT}
structure ScOk (c : CT) (sc : Scope) : Prop where
  fn : sc.kind = .function
  nd : (sc.names.map (·.1)).Nodup
  free : ∀ n, (n, NameKind.free) ∈ sc.names → ∃ i, c.slot n = some i ∧ (c.kind.lookup n = some .cell ∨ c.kind.lookup n = some .free)
theorem zek {sc : Scope} (h : scOk c sc = true) : ScOk c sc := by
  unfold scOk at h; simp only [Bool.and_eq_true, decide_eq_true_eq, List.all_eq_true] at h; refine ⟨beq_iff_eq.mp h.1.1, h.1.2, fun n hn => ?_⟩
  have := h.2 _ hn; simp only [bne_self_eq_false, Bool.false_or, Bool.and_eq_true, Bool.or_eq_true, beq_iff_eq] at this; obtain ⟨i, hi⟩ := Option.isSome_iff_exists.mp this.1; exact ⟨i, hi, this.2⟩
end
end Mine
namespace Mine
open PySem PyProof.Rows PySem.Spec
def KeepH (h h' : Heap) : Prop := ∀ b o, b ≠ zao → h.get? b = some o → Hardy o → h'.get? b = some o
theorem SlotR.keepH {h h' : Heap} {O : Addr → Prop} {ow : Nat → Option Addr} {i : Nat} (k : KeepH h h') {sl : Option Slot} {ov : Option Value} (x : SlotR h O ow i sl ov) : SlotR h' O ow i sl ov := by
  have km : ∀ b o, h.get? b = some o → zd3 O b o → h'.get? b = some o := fun b o e l => k b o l.1 e l.2.2.2
  unfold SlotR at x ⊢
  split
  · obtain ⟨rv, e, r⟩ := x; exact ⟨rv, e, r.mono km fun _ _ _ q => q⟩
  · obtain ⟨z, a, vs, e, ho, ha, ⟨n, hl⟩, r⟩ := x; exact ⟨z, a, vs, e, ho, ha, ⟨n, k _ _ ha hl (.seq rfl (zat rfl (by decide)))⟩, r.mono km fun _ _ _ q => q⟩
  · obtain ⟨b, e, hb, r⟩ := x; exact ⟨b, e, hb, fun a q => let ⟨o, vs, ho, hc, hd, h1⟩ := r a q; ⟨o, vs, k _ _ hb ho (.fields hd (zat hc (by decide))), hc, hd, h1⟩⟩
  · trivial
def Less (σ' σ : zad) : Prop := ∀ i : Nat, σ'[i]? = σ[i]? ∨ σ'[i]? = some Mine.Slot.unset ∨ σ'[i]? = none
theorem Less.slot {σ' σ : zad} (x : Less σ' σ) {h : Heap} {O : Addr → Prop} {ow : Nat → Option Addr} {i : Nat} {ov : Option Value} (r : SlotR h O ow i σ[i]? ov) : SlotR h O ow i σ'[i]? ov := by
  rcases x i with e | e | e
  · rw [e]; exact r
  · rw [e]; trivial
  · rw [e]; trivial
theorem FR.less {hb : HB} {h : Heap} {c : CT} {env : Env} {O : Addr → Prop} {ow : Nat → Option Addr} {σ σ' : zad} (x : FR hb c env O ow σ h) (l : Less σ' σ) : FR hb c env O ow σ' h := by
  refine ⟨x.fk, ?_, ?_⟩
  · obtain ⟨m, hn, hr⟩ := x.ns; exact ⟨m, hn, fun n i h1 h2 => l.slot (hr n i h1 h2)⟩
  · intro n i h1 h2; obtain ⟨a, e, ha, ov, hc, r⟩ := x.cells n i h1 h2; exact ⟨a, e, ha, ov, hc, l.slot r⟩
theorem clear_get (σ : zad) (i j : Nat) : (σ.map fun t => match t with | .app r => if r = i then Slot.unset else t | t => t)[j]? = σ[j]? ∨ (σ.map fun t => match t with | .app r => if r = i then Slot.unset else t | t => t)[j]? = some Mine.Slot.unset := by
  rw [List.getElem?_map]
  cases σ[j]? with
  | none => exact .inl rfl
  | some t =>
    cases t with
    | app r =>
      by_cases h : r = i
      · right; simp [h]
      · left; simp [h]
    | _ => exact .inl rfl
theorem setSlot_ne (σ : zad) (i j : Nat) (s s' : Slot) (h : j ≠ i) : (zaa σ i s)[j]? = (zaa σ i s')[j]? := by
  unfold zaa; rw [List.getElem?_set_ne (Ne.symm h), List.getElem?_set_ne (Ne.symm h)]
theorem zdv (σ : zad) (i : Nat) (s : Slot) : (zaa σ i s)[i]? = some s ∨ (zaa σ i s)[i]? = none := by
  unfold zaa; by_cases h : i < σ.length
  · left; rw [List.getElem?_set_self (by rw [List.length_map]; exact h)]
  · right; rw [List.getElem?_eq_none]; rw [List.length_set, List.length_map]; omega
theorem less_set (σ : zad) (i : Nat) : Less (zaa σ i .unset) σ := by
  intro j; by_cases h : j = i
  · subst h; rcases zdv σ j .unset with e | e
    · exact .inr (.inl e)
    · exact .inr (.inr e)
  · unfold zaa; rw [List.getElem?_set_ne (Ne.symm h)]; rcases clear_get σ i j with e | e
    · exact .inl e
    · exact .inr (.inl e)
theorem FR.turn {hb : HB} {h h' : Heap} {c : CT} {env : Env} {O : Addr → Prop} {ow : Nat → Option Addr} {σ : zad} (x : FR hb c env O ow σ h) {X : Addr → Prop} (hk : ∀ b o, ¬ X b → h.get? b = some o → h'.get? b = some o)
    (hX : ∀ b o, X b → h.get? b = some o → Hardy o ∧ O b ∧ (∀ i, ow i ≠ some b) ∧ o.cls ≠ .type "builtin_function_or_method") : FR hb c env O ow σ h' := by
  have km : ∀ b o, h.get? b = some o → zd3 O b o → h'.get? b = some o := fun b o e l => hk b o (fun q => l.2.1 (hX b o q e).2.1) e
  have ks : ∀ {i sl ov}, SlotR h O ow i sl ov → SlotR h' O ow i sl ov := by
    intro i sl ov x; unfold SlotR at x ⊢
    split
    · obtain ⟨rv, e, r⟩ := x; exact ⟨rv, e, r.mono km fun _ _ _ q => q⟩
    · obtain ⟨z, a, vs, e, ho, ha, ⟨n, hl⟩, r⟩ := x; exact ⟨z, a, vs, e, ho, ha, ⟨n, hk _ _ (fun q => (hX _ _ q hl).2.2.1 _ ho) hl⟩, r.mono km fun _ _ _ q => q⟩
    · obtain ⟨b, e, hb, r⟩ := x; exact ⟨b, e, hb, fun a q => let ⟨o, vs, ho, hc, hd, h1⟩ := r a q; ⟨o, vs, hk _ _ (fun q => (hX _ _ q ho).2.2.2 hc) ho, hc, hd, h1⟩⟩
    · trivial
  refine ⟨x.fk, ?_, fun n i h1 h2 => ?_⟩
  · obtain ⟨m, ⟨o, es, ep, ho, hd, r⟩, hr⟩ := x.ns; exact ⟨m, ⟨o, es, ep, hk _ _ (fun q => (hX _ _ q ho).1.1 _ _ hd) ho, hd, r⟩, fun n i h1 h2 => ks (hr n i h1 h2)⟩
  · obtain ⟨a, e, ha, ov, ⟨o, ho, hd⟩, r⟩ := x.cells n i h1 h2; exact ⟨a, e, ha, ov, ⟨o, hk _ _ (fun q => (hX _ _ q ho).1.2.1 _ hd) ho, hd⟩, ks r⟩
structure OwnN (s₀ : Shared) (env : Env) (n : Str) : Prop where
  loc : env.kindOf n = some .local → s₀.heap.get? env.locals = none
  cel : env.kindOf n = some .cell → ∀ a, env.cells.lookup n = some a → s₀.heap.get? a = none
  fre : env.kindOf n ≠ some .free
section
variable {M : Model} {A : Around} {E : Value → Shared → Prop} {s₀ s : Shared} {hb : HB} {c : CT} {env : Env} {O : Addr → Prop} {ow : Nat → Option Addr} {σ : zad}
theorem zf8 {n n' : Str} {i : Nat} (h : c.slot n = some i) (h' : c.slot n' = some i) : n = n' := by
  have key : ∀ {n}, c.slot n = some i → c.ns[i]? = some n := by
    intro n h; unfold CT.slot at h
    split at h
    · exact zcu h
    · exact zcu h
    · exact zcu h
    · cases h
  have := key h; rw [key h'] at this
  cases this; rfl
theorem ze5 {n : Str} {i : Nat} {sl : Slot} {rv : Value} {Q : Unit → Shared → Prop} (fr : FR hb c env O ow (zaa σ i .unset) s.heap) (hi : c.slot n = some i) (kp : Kp hb s₀ s) (g₀ : GS hb s₀) (own : OwnN s₀ env n)
    (r : SlotR s.heap O ow i (some sl) (some rv)) (hQ : ∀ h' tk, Kp hb s₀ { s with heap := h', toks := tk } → Frm s.heap O h' O → KeepH s.heap h' → FR hb c env O ow (zaa σ i sl) h' → (∃ p, (p = env.locals ∨ ∃ ov, s.heap.IsCell p ov) ∧ ∀ b o, b ≠ p → s.heap.get? b = some o → h'.get? b = some o) → Q () { s with heap := h', toks := tk }) :
    wpAny M A (storeName env n rv) Q E s := by
  have hk := fr.fk.kind; have hp : (env.scope.kind == .class || (env.scope.kind == .module && env.locals != env.globals)) = false := by rw [hk]; rfl
  have sel : ∀ {h : Heap} {j : Nat} {ov : Option Value}, j ≠ i → SlotR h O ow j (zaa σ i .unset)[j]? ov → SlotR h O ow j (zaa σ i sl)[j]? ov := fun hj q => by rw [setSlot_ne σ i _ sl .unset hj]; exact q
  have seli : ∀ {h : Heap} {ov : Option Value}, SlotR h O ow i (some sl) ov → SlotR h O ow i (zaa σ i sl)[i]? ov := fun q => by
    rcases zdv σ i sl with e | e
    · rw [e]; exact q
    · rw [e]; trivial
  rcases fr.fk.kinds n i hi with hl | hl | hl
  · obtain ⟨m, hn, hr⟩ := fr.ns; refine wpAny_storeName_local hl hn (fun h' hn' hs' => ?_) hp
    obtain ⟨oL, es, ep, hoL, hdL, _⟩ := id hn; have hkk : ∀ b o, ¬ b = env.locals → s.heap.get? b = some o → h'.get? b = some o := fun b o hb e => hs'.extBut b o hb e
    have nL : ∀ b o, b = env.locals → s.heap.get? b = some o → ¬ Hardy o := fun b o hb e q => by subst hb; rw [hoL] at e; cases e; exact q.1 _ _ hdL
    have kh : KeepH s.heap h' := fun b o hb e hd => hkk b o (fun q => nL b o q e hd) e
    obtain ⟨oL', _, _, hoL', _⟩ := id hn'; refine hQ h' (s.toks + 1) (kp.turns (X := (· = env.locals)) g₀ hkk (fun b q => by rw [q]; exact own.loc hl) fun b o q e => .inr (nL b o q e))
      (.turn (X := (· = env.locals)) hkk (fun b q => ⟨oL', by rw [q]; exact hoL'⟩) fun b o q e => .inr (nL b o q e)) kh ⟨fr.fk, ⟨_, hn', fun n' j h1 h2 => ?_⟩, fun n' j h1 h2 => ?_⟩ ⟨env.locals, .inl rfl, fun b o hb e => hkk b o hb e⟩
    · by_cases e : n' = n
      · subst e; rw [hi] at h1; cases h1; rw [if_pos rfl]; exact seli (r.keepH kh)
      · rw [if_neg e]; have hj : j ≠ i := fun q => e (zf8 h1 (q ▸ hi))
        exact sel hj ((hr n' j h1 h2).keepH kh)
    · obtain ⟨a, e, ha, ov, ⟨o, ho, hd⟩, r'⟩ := fr.cells n' j h1 h2; have hj : j ≠ i := fun q => by
        have := zf8 h1 (q ▸ hi); subst this; rcases h2 with h2 | h2 <;> rw [hl] at h2 <;> cases h2
      exact ⟨a, e, ha, ov, ⟨o, hkk _ _ (fun q => by subst q; rw [hoL] at ho; cases ho; rw [hdL] at hd; cases hd) ho, hd⟩, sel hj (r'.keepH kh)⟩
  · obtain ⟨a, e, ha, ov, hc, _⟩ := fr.cells n i hi (.inl hl); refine wpAny_storeName_cell hk hl e hc (fun h' hc' hs' => ?_)
    obtain ⟨oL, hoL, hdL⟩ := id hc; have hkk : ∀ b o, ¬ b = a → s.heap.get? b = some o → h'.get? b = some o := fun b o hb e => hs'.extBut b o hb e
    have nL : ∀ b o, b = a → s.heap.get? b = some o → ¬ Hardy o := fun b o hb e' q => by rw [hb, hoL] at e'; cases e'; exact q.2.1 _ hdL
    have kh : KeepH s.heap h' := fun b o hb e hd => hkk b o (fun q => nL b o q e hd) e
    obtain ⟨oL', hoL', _⟩ := id hc'; refine hQ h' s.toks (kp.turns (X := (· = a)) g₀ hkk (fun b q => by rw [q]; exact own.cel hl a e) fun b o q e => .inr (nL b o q e))
      (.turn (X := (· = a)) hkk (fun b q => ⟨oL', by rw [q]; exact hoL'⟩) fun b o q e => .inr (nL b o q e)) kh ⟨fr.fk, ?_, fun n' j h1 h2 => ?_⟩ ⟨a, .inr ⟨ov, hc⟩, fun b o hb e => hkk b o hb e⟩
    · obtain ⟨m, ⟨o, es, ep, ho, hd, hr0⟩, hr⟩ := fr.ns; refine ⟨m, ⟨o, es, ep, hkk _ _ (fun q => by rw [← q, ho] at hoL; cases hoL; rw [hd] at hdL; cases hdL) ho, hd, hr0⟩, fun n' j h1 h2 => ?_⟩
      have hj : j ≠ i := fun q => by
        have := zf8 h1 (q ▸ hi); subst this; rw [hl] at h2; cases h2
      exact sel hj ((hr n' j h1 h2).keepH kh)
    · obtain ⟨a', e', ha', ov', ⟨o, ho, hd⟩, r'⟩ := fr.cells n' j h1 h2; by_cases en : n' = n
      · subst en; rw [hi] at h1; cases h1; rw [e] at e'; cases e'; exact ⟨a, e, ha, some rv, hc', seli (r.keepH kh)⟩
      · have hj : j ≠ i := fun q => en (zf8 h1 (q ▸ hi))
        exact ⟨a', e', ha', ov', ⟨o, hkk _ _ (fun q => en (fr.fk.apart n' n a (q ▸ e') e)) ho, hd⟩, sel hj (r'.keepH kh)⟩
  · exact absurd hl own.fre
theorem store_ok {n : Str} {i : Nat} {v : PV} {rv : Value} {Q : Unit → Shared → Prop} (fr : FR hb c env O ow σ s.heap) (hi : c.slot n = some i) (kp : Kp hb s₀ s) (g₀ : GS hb s₀) (own : OwnN s₀ env n)
    (r : VR s.heap O v rv) (hQ : ∀ h' tk, Kp hb s₀ { s with heap := h', toks := tk } → Frm s.heap O h' O → KeepH s.heap h' → FR hb c env O ow (zaa σ i (.val v)) h' → Q () { s with heap := h', toks := tk }) :
    wpAny M A (storeName env n rv) Q E s :=
  ze5 (sl := .val v) (fr.less (less_set σ i)) hi kp g₀ own ⟨rv, rfl, r⟩ fun h' tk k1 k2 k3 k4 _ => hQ h' tk k1 k2 k3 k4
end
end Mine
namespace Mine
open PySem PyProof.Rows PySem.Spec
def tgNames : Expr → List Str
  | .Name x _ => [x]
  | .Tuple [.Name x _, .Name y _] _ _ => [x, y]
  | _ => []
section
variable {prog : Program} {w : World} {A : Around} {E : Value → Shared → Prop} {s₀ s : Shared} {hb : HB} {c : CT} {env : Env} {O : Addr → Prop} {ow : Nat → Option Addr} {σ σ1 : zad}
theorem zey {tg : Expr} {t : Tgt} {x : PV} {rv : Value} {Q : Unit → Shared → Prop} (hA : A.handled = none) (ht : zca c tg = some t) (hp : t.put σ x = some σ1) (fr : FR hb c env O ow σ s.heap) (kp : Kp hb s₀ s) (g₀ : GS hb s₀)
    (own : ∀ n ∈ tgNames tg, OwnN s₀ env n) (r : VR s.heap O x rv)
    (hQ : ∀ h' tk, Kp hb s₀ { s with heap := h', toks := tk } → Frm s.heap O h' O → KeepH s.heap h' → FR hb c env O ow σ1 h' → Q () { s with heap := h', toks := tk }) :
    wpAny (model prog w) A (assign tg env rv) Q E s := by
  unfold zca at ht
  split at ht
  · rename_i n p; obtain ⟨i, hi, rfl⟩ := Option.map_eq_some_iff.mp ht
    cases hp
    exact wpAny_assign_Name (store_ok fr hi kp g₀ (own n (List.mem_singleton.mpr rfl)) r hQ)
  · rename_i n p n' p' k pp
    split at ht
    · rename_i i j hi hj
      cases ht
      unfold Tgt.put at hp
      split at hp
      · rename_i q; cases q
      · rename_i i' j' a b q
        cases q; cases hp
        obtain ⟨_, T, vs, rfl, _, _, ⟨o, ho, hc, nn, hd⟩, va, _, rfl, ra, vb, _, rfl, rb, rfl⟩ := r; refine wpAny_assign_Tuple hA (t := T) (items := #[va, vb]) ⟨o, ho, hc, nn, hd⟩ rfl rfl fun h₃ hx₃ => ?_
        have hk : ∀ b o, s.heap.get? b = some o → h₃.get? b = some o := fun b o e => hx₃ b o (Nat.ne_of_lt (Heap.lt_size e)) e
        have kp3 : Kp hb s₀ { s with heap := h₃ } := kp.trans (.keeps (tk := s.toks) hk); have fm3 : Frm s.heap O h₃ O := ⟨fun b o e => ⟨o, hk b o e⟩, fun b o _ e _ _ => hk b o e, fun _ _ _ q => q⟩
        have kh3 : KeepH s.heap h₃ := fun b o _ e _ => hk b o e
        show wpAny (model prog w) A (do holding [vb] (assign (.Name n p) env va); do holding [] (assign (.Name n' p') env vb); pure ()) _ _ _; refine wpAny_bind (wpAny_holding (wpAny_assign_Name (store_ok (fr.soft (.of_keeps hk)) hi kp3 g₀ (own n (List.mem_cons_self ..)) (ra.frm fm3) fun h₄ tk₄ kp4 fm4 kh4 fr4 => ?_)))
        refine wpAny_bind (wpAny_holding (wpAny_assign_Name (store_ok fr4 hj kp4 g₀ (own n' (List.mem_cons_of_mem _ (List.mem_singleton.mpr rfl))) ((rb.frm fm3).frm fm4) fun h₅ tk₅ kp5 fm5 kh5 fr5 => wpAny_pure ?_)))
        exact hQ h₅ tk₅ kp5 ((fm3.trans fm4).trans fm5) (fun b o hb e hd => kh5 b o hb (kh4 b o hb (kh3 b o hb e hd) hd) hd) fr5
      · cases hp
    · cases ht
  · cases ht
end
end Mine
namespace Mine
open PySem PyProof.Rows PySem.Spec
structure TR (D : Addr) (h h' : Heap) : Prop where
  alive : ∀ b o, h.get? b = some o → ∃ o', h'.get? b = some o'
  keep : ∀ b o, b ≠ zao → h.get? b = some o → Hardy o → b ≠ D → h'.get? b = some o
theorem TR.trans {D : Addr} {h h' h'' : Heap} (x : TR D h h') (y : TR D h' h'') : TR D h h'' :=
  ⟨fun b o e => let ⟨o', e'⟩ := x.alive b o e; y.alive b o' e', fun b o hb e hd hO => y.keep b o hb (x.keep b o hb e hd hO) hd hO⟩
theorem TR.frm {D : Addr} {h h' : Heap} (x : TR D h h') {O : Addr → Prop} (hD : O D) : Frm h O h' O :=
  ⟨x.alive, fun b o hb e hd hO => x.keep b o hb e hd fun q => hO (q ▸ hD), fun _ _ _ q => q⟩
theorem TR.kp {hb : HB} {s s' : Shared} (k : Kp hb s s') (g : GS hb s) (D : Addr) : TR D s.heap s'.heap :=
  let f := Frm.kp k g (fun _ => False)
  ⟨f.alive, fun b o hb e hd _ => f.keep b o hb e hd id⟩
def zcp (t : Tgt) (σ : zad) (g : zad → Option (List PV)) : List PV → Option (List PV)
  | [] => some []
  | x :: xs => match t.put σ x with
    | none => none
    | some σ1 => match g σ1 with
      | none => none
      | some vs => (zcp t σ g xs).map (vs ++ ·)
def oneG (test : zad → Option Bool) (elt : zad → Option PV) (σ : zad) : Option (List PV) := match test σ with
  | none => none
  | some true => (match elt σ with | none => none | some v => some [v])
  | some false => some []
theorem zeb {t : Tgt} {σ : zad} {test : zad → Option Bool} {elt : zad → Option PV} : ∀ {xs r : List PV}, zbc t σ test elt xs = some r → zcp t σ (oneG test elt) xs = some r ∧ r.length ≤ xs.length
  | [], r, h => by cases h; exact ⟨rfl, Nat.le_refl _⟩
  | x :: xs, r, h => by
    rw [zbc] at h; rw [zcp]
    split at h
    · cases h
    · rename_i σ1 e1
      try rw [e1]
      try dsimp only
      unfold oneG
      split at h
      · cases h
      · rename_i e2
        split at h
        · cases h
        · rename_i v e3; obtain ⟨r', h', rfl⟩ := Option.map_eq_some_iff.mp h; have ih := zeb h'
          try rw [e2]
          try rw [e3]
          try dsimp only
          rw [show zcp t σ (fun σ => match test σ with
            | none => none
            | some true => (match elt σ with | none => none | some v => some [v])
            | some false => some []) xs = _ from ih.1]
          exact ⟨rfl, by rw [List.length_cons, List.length_cons]; omega⟩
      · rename_i e2; have ih := zeb h
        try rw [e2]
        try dsimp only
        rw [show zcp t σ (fun σ => match test σ with
            | none => none
            | some true => (match elt σ with | none => none | some v => some [v])
            | some false => some []) xs = _ from ih.1]
        exact ⟨rfl, by rw [List.length_cons]; omega⟩
theorem zg1 {t : Tgt} {σ : zad} {g : zad → Option (List PV)} : ∀ {xs r : List PV}, zc0 t σ g xs = some r → zcp t σ g xs = some r ∧ r.length ≤ small
  | [], r, h => by cases h; exact ⟨rfl, Nat.zero_le _⟩
  | x :: xs, r, h => by
    rw [zc0] at h; rw [zcp]
    split at h
    · cases h
    · rename_i σ1 e1
      try rw [e1]
      try dsimp only
      split at h
      · cases h
      · rename_i vs e2
        try rw [e2]
        try dsimp only
        split at h
        · cases h
        · rename_i r' h'
          split at h
          · rename_i hz
            cases h
            rw [(zg1 h').1]; exact ⟨rfl, by rw [List.length_append]; exact hz⟩
          · cases h
theorem compGen_get {t : Tgt} {σ : zad} {g : zad → Option (List PV)} {x : PV} {xs r : List PV} (h : zcp t σ g (x :: xs) = some r) : ∃ σ1 vs r', t.put σ x = some σ1 ∧ g σ1 = some vs ∧ zcp t σ g xs = some r' ∧ r = vs ++ r' := by
  rw [zcp] at h
  split at h
  · cases h
  · rename_i σ1 e1
    split at h
    · cases h
    · rename_i vs e2; obtain ⟨r', h', rfl⟩ := Option.map_eq_some_iff.mp h; exact ⟨σ1, vs, r', e1, e2, h', rfl⟩
theorem FR.grow {hb : HB} {h : Heap} {c : CT} {env : Env} {O O' : Addr → Prop} {ow : Nat → Option Addr} {σ : zad} (x : FR hb c env O ow σ h) (hO : ∀ b o, h.get? b = some o → ¬ O b → ¬ O' b) : FR hb c env O' ow σ h := by
  have ks : ∀ {i sl ov}, SlotR h O ow i sl ov → SlotR h O' ow i sl ov := by
    intro i sl ov x; unfold SlotR at x ⊢
    split
    · obtain ⟨rv, e, r⟩ := x; exact ⟨rv, e, r.mono (fun _ _ e _ => e) hO⟩
    · obtain ⟨z, a, vs, e, ho, ha, hl, r⟩ := x; exact ⟨z, a, vs, e, ho, ha, hl, r.mono (fun _ _ e _ => e) hO⟩
    · exact x
    · trivial
  refine ⟨x.fk, ?_, fun n i h1 h2 => ?_⟩
  · obtain ⟨m, hn, hr⟩ := x.ns; exact ⟨m, hn, fun n i h1 h2 => ks (hr n i h1 h2)⟩
  · obtain ⟨a, e, ha, ov, hc, r⟩ := x.cells n i h1 h2; exact ⟨a, e, ha, ov, hc, ks r⟩
theorem FR.mono {hb : HB} {h : Heap} {c : CT} {env : Env} {O O' : Addr → Prop} {ow : Nat → Option Addr} {σ : zad} (x : FR hb c env O ow σ h) (hO : ∀ b, O' b → O b) : FR hb c env O' ow σ h :=
  x.grow fun b _ _ q q' => q (hO b q')
section
variable {prog : Program} {w : World} {A : Around} {hb : HB} {R : Result → Shared → Prop}
structure LpS (hb : HB) (s si : Shared) (D : Addr) (c : CT) (env : Env) (O : Addr → Prop) (σ : zad) (dn : List PV) (s' : Shared) : Prop where
  kp : Kp hb s s'
  tr : TR D si.heap s'.heap
  fr : FR hb c env O (fun _ => none) σ s'.heap
  acc : ∃ acc : List Value, s'.heap.PlainList D acc.toArray ∧ VRs s'.heap O dn acc
  ok : OkO O s'.heap
  tk : 1 ≤ s'.toks
theorem ItW.step {α : Type} {tg : Expr} {I : Addr} {wr : List Addr} {xs : List PV} {St : Nat → Heap → (Addr → Prop) → Prop} (W : ItW prog w A tg I wr xs St) {i : Nat} {s : Shared} {O : Addr → Prop} {x : PV} {z : Sem α} {k : Value → Sem α} {Q : α → Shared → Prop} {E : Value → Shared → Prop}
    (st : St i s.heap O) (hO : ∀ b ∈ wr, O b) (ok : OkO O s.heap) (ht : zao < s.heap.objs.size) (hx : xs[i]? = some x) (tk : 1 ≤ s.toks)
    (h : ∀ rv h' tk, St (i + 1) h' O → (∀ b o, b ∉ wr → s.heap.get? b = some o → h'.get? b = some o) → VR h' O x rv → 1 ≤ tk → wpAny (model prog w) A (k rv) Q E { s with heap := h', toks := tk }) :
    wpAny (model prog w) A (pyNext (.ref I) >>= fun r => match r with | none => z | some v => letOwnedTupleGo tg (.ref I) v >>= fun _ => k v) Q E s := by
  refine wpAny_bind (wpAny_with_toks tk (wpAny_mono (W.item i s O x (fun v s₂ => 1 ≤ s₂.toks → wpAny (model prog w) A (k v) Q E s₂) (fun e s'' => 1 ≤ s''.toks → E e s'') st hO ok ht hx fun rv h' tk st1 hk hv htk => h rv h' tk st1 hk hv htk) (fun r s₁ h₁ => ?_) fun e s'' he => he))
  cases r with
  | none => exact h₁.elim
  | some v => exact fun htk => wpAny_bind (wpAny_with_toks htk h₁)
theorem ItW.fin {α : Type} {tg : Expr} {I : Addr} {wr : List Addr} {xs : List PV} {St : Nat → Heap → (Addr → Prop) → Prop} (W : ItW prog w A tg I wr xs St) {i : Nat} {s : Shared} {O : Addr → Prop} {z : Sem α} {k : Value → Sem α} {Q : α → Shared → Prop} {E : Value → Shared → Prop}
    (st : St i s.heap O) (hx : xs[i]? = none) (hi : i ≤ xs.length) (tk : 1 ≤ s.toks)
    (h : ∀ h' tk, (∀ b o, b ∉ wr → s.heap.get? b = some o → h'.get? b = some o) → 1 ≤ tk → wpAny (model prog w) A z Q E { s with heap := h', toks := tk }) :
    wpAny (model prog w) A (pyNext (.ref I) >>= fun r => match r with | none => z | some v => k v) Q E s := by
  refine wpAny_bind (wpAny_with_toks tk (wpAny_mono (W.done i s O (fun r s'' => r = none ∧ (1 ≤ s''.toks → wpAny (model prog w) A z Q E s'')) (fun e s'' => 1 ≤ s''.toks → E e s'') st hx hi fun h' tk hk => ⟨rfl, fun htk => h h' tk hk htk⟩) (fun r s'' hr => ?_) fun e s'' he => he))
  obtain ⟨rfl, hr⟩ := hr; exact hr
theorem drop_cons {xs : List PV} {i : Nat} {x : PV} (h : xs[i]? = some x) : xs.drop i = x :: xs.drop (i + 1) := by
  obtain ⟨h1, h2⟩ := List.getElem?_eq_some_iff.mp h; rw [List.drop_eq_getElem_cons h1, h2]
theorem zd9 {elt₀ : Expr} {gens₀ : List Comprehension} {sc₀ : Scope} {pos₀ : Pos} {e : Expr} (he : e = .ListComp elt₀ gens₀ sc₀ pos₀) {d : Nat} {tg : Expr} {I D : Addr} {wr : List Addr} {items : List PV} {St : Nat → Heap → (Addr → Prop) → Prop} {s si s₄ : Shared} {c : CT} {env : Env} {O : Addr → Prop} {σ : zad} {t : Tgt} {g : zad → Option (List PV)}
    {dn total : List PV} {p : Pos} {body : Sem Unit}
    (hA : A.handled = none)
    (hturn : compTurn e d (.ref I) (.ref D) env = (standAt p >>= fun _ => pyNext (.ref I) >>= fun r => match r with
        | none => pure (.done .next)
        | some v => letOwnedTupleGo tg (.ref I) v >>= fun _ => assign tg env v >>= fun _ => body >>= fun _ => again (.compLoop e d (.ref I) (.ref D) env)))
    (W : ItW prog w A tg I wr items St) (hD : D ∉ wr) (hO : ∀ b ∈ wr, O b) (hOD : O D) (hwr : ∀ b ∈ wr, si.heap.get? b = none) (kpi : Kp hb s si) (g₀ : GS hb s) (hDs : s.heap.get? D = none) (hDt : D ≠ zao)
    (own : ∀ n ∈ tgNames tg, OwnN s env n) (ht : zca c tg = some t) (hless : ∀ x σ1, t.put σ x = some σ1 → Less σ σ1)
    (step : ∀ x σ1 vs s' dn, t.put σ x = some σ1 → g σ1 = some vs → dn.length + vs.length ≤ small → LpS hb s si D c env O σ1 dn s' → ∀ (Q : Unit → Shared → Prop) (E : Value → Shared → Prop),
      (∀ s'', LpS hb s si D c env O σ1 (dn ++ vs) s'' → TR D s'.heap s''.heap → Q () s'') → wpAny (model prog w) A body Q E s')
    (hgen : zcp t σ g items = some total) (hlen : dn.length + total.length ≤ small)
    (st : St 0 s₄.heap O) (L : LpS hb s si D c env O σ dn s₄)
    (hR : ∀ s', Kp hb s s' → TR D si.heap s'.heap → FR hb c env O (fun _ => none) σ s'.heap → (∃ acc : List Value, s'.heap.PlainList D acc.toArray ∧ VRs s'.heap O (dn ++ total) acc) → 1 ≤ s'.toks → R (.ok .next) s') :
    codeAny (model prog w) A (.compLoop e d (.ref I) (.ref D) env) R s₄ := by
  have wt : ∀ b ∈ wr, b ≠ zao := fun b hb q => by
    obtain ⟨o, e⟩ := (kpi.gs g₀).tab.get; rw [← q, hwr b hb] at e; cases e
  have lt : ∀ {s' : Shared}, Kp hb s s' → zao < s'.heap.objs.size := fun k => (k.gs g₀).tab.lt
  refine codeAny_loop rfl (fun n s' => ∃ j dn' rest, n = items.length + 1 - j ∧ j ≤ items.length ∧ zcp t σ g (items.drop j) = some rest ∧ dn' ++ rest = dn ++ total ∧ St j s'.heap O ∧ LpS hb s si D c env O σ dn' s')
    (fun n s' hI => ?_) (items.length + 1) ⟨0, dn, total, rfl, Nat.zero_le _, hgen, rfl, st, L⟩
  obtain ⟨j, dn', rest, rfl, hj, hrest, htot, st', L'⟩ := hI; subst he; show wpAny _ A ((compTurn (.ListComp elt₀ gens₀ sc₀ pos₀) d (.ref I) (.ref D) env).onRaise (fun x => do noteFrame x env; theTreesLotGoes x)) _ _ s'
  refine wpAny_noted ?_; rw [hturn]; refine wpAny_bind (wpAny_standAt ?_); have hits := W.its j s'.heap O st'; have hwX : ∀ b o, b ∈ wr → s'.heap.get? b = some o → IsIt o := fun b o hb e => by
    obtain ⟨o', e', h⟩ := hits b hb; rw [e] at e'; cases e'; exact h
  -- the state behind a draw
  have after : ∀ {h' : Heap} {tk : Nat}, (∀ b o, b ∉ wr → s'.heap.get? b = some o → h'.get? b = some o) → 1 ≤ tk → (∀ b ∈ wr, ∃ o, h'.get? b = some o) ∨ True → Kp hb s { s' with heap := h', toks := tk } ∧ TR D si.heap h' ∧ FR hb c env O (fun _ => none) σ h' ∧
      (∃ acc : List Value, h'.PlainList D acc.toArray ∧ (∀ b o, s'.heap.get? b = some o → zd3 O b o → h'.get? b = some o) ∧ VRs s'.heap O dn' acc) := fun {h' tk} hk htk _ => by
    refine ⟨L'.kp.turns (X := (· ∈ wr)) g₀ (fun b o hb e => hk b o hb e) (fun b hb => zbm kpi g₀ (hwr b hb)) fun b o hb e => .inl ⟨(hwX b o hb e).nn, (hwX b o hb e).ne (by decide)⟩, ⟨fun b o e => ?_, fun b o hb e hd hbD => ?_⟩,
      L'.fr.turn (X := (· ∈ wr)) (fun b o hb e => hk b o hb e) fun b o hb e => ⟨(hwX b o hb e).1, hO b hb, fun _ q => (nomatch q), (hwX b o hb e).ne (by decide)⟩, ?_⟩
    · obtain ⟨o', e'⟩ := L'.tr.alive b o e; have : b ∉ wr := fun q => by rw [hwr b q] at e; cases e
      exact ⟨o', hk b o' this e'⟩
    · have : b ∉ wr := fun q => by rw [hwr b q] at e; cases e
      exact hk b o this (L'.tr.keep b o hb e hd hbD)
    · obtain ⟨acc, ⟨n, ha⟩, hr⟩ := L'.acc; exact ⟨acc, ⟨n, hk _ _ hD ha⟩, fun b o e l => hk b o (fun q => l.2.1 (hO b q)) e, hr⟩
  cases hx : items[j]? with
  | none =>
    have hrest' : rest = [] := by
      rw [List.drop_eq_nil_of_le (by rw [List.getElem?_eq_none_iff] at hx; exact hx)] at hrest
      cases hrest; rfl
    subst hrest'
    rw [List.append_nil] at htot
    subst htot
    refine W.fin st' hx hj L'.tk fun h' tk hk htk => ?_
    obtain ⟨k1, k2, k3, acc, k4, k5, k6⟩ := after hk htk (.inr trivial)
    exact wpAny_pure (hR _ k1 k2 k3 ⟨acc, k4, k6.mono k5 fun _ _ _ q => q⟩ htk)
  | some x =>
    rw [drop_cons hx] at hrest
    obtain ⟨σ1, vs, rest', e1, e2, e3, rfl⟩ := compGen_get hrest
    have hjl : j < items.length := (List.getElem?_eq_some_iff.mp hx).1
    refine W.step st' hO L'.ok (lt L'.kp) hx L'.tk fun rv h' tk st1 hk hv htk => ?_
    · have al : ∀ b ∈ wr, ∃ o, h'.get? b = some o := fun b hb => let ⟨o, e, _⟩ := W.its _ _ _ st1 b hb; ⟨o, e⟩
      have fm : Frm s'.heap O h' O := .turn (X := (· ∈ wr)) (fun b o hb e => hk b o hb e) al fun b o hb _ => .inl (hO b hb)
      obtain ⟨k1, k2, k3, acc, k4, k5, k6⟩ := after hk htk (.inr trivial); refine wpAny_bind (wpAny_with_toks (n := 1) htk (zey hA ht e1 k3 k1 g₀ own hv fun h2 tk2 kp2 fm2 kh2 fr2 htk2 => ?_))
      have tr2 : TR D si.heap h2 := k2.trans ⟨fun b o e => fm2.alive b o e, fun b o hb e hd _ => kh2 b o hb e hd⟩
      have L2 : LpS hb s si D c env O σ1 dn' { s' with heap := h2, toks := tk2 } := ⟨kp2, tr2, fr2, ⟨acc, by obtain ⟨n, e⟩ := k4; exact ⟨n, kh2 _ _ hDt e (.seq rfl (zat rfl (by decide)))⟩, (k6.mono k5 fun _ _ _ q => q).frm fm2⟩, (L'.ok.frm fm).frm fm2, htk2⟩
      have hz : dn'.length + vs.length ≤ small := by
        have := congrArg List.length htot; simp only [List.length_append] at this; omega
      refine wpAny_bind (step x σ1 vs _ dn' e1 e2 hz L2 _ _ fun s3 L3 tr3 => wpAny_pure ⟨rfl, items.length + 1 - (j + 1), by omega, j + 1, dn' ++ vs, rest', rfl, hjl, e3, by rw [List.append_assoc]; exact htot, ?_, L3.kp, L3.tr, L3.fr.less (hless x σ1 e1), L3.acc, L3.ok, L3.tk⟩)
      have fm3 : Frm h' O s3.heap O := fm2.trans (tr3.frm hOD); refine W.frm _ _ _ _ _ st1 fm3 hO fun b hb o e => ?_
      obtain ⟨o', e', hit⟩ := W.its _ _ _ st1 b hb; rw [e] at e'; cases e'; have hbt := wt b hb; exact tr3.keep b o hbt (kh2 b o hbt e hit.1) hit.1 fun q => hD (q ▸ hb)
end
end Mine
namespace Mine
open PySem PyProof.Rows PySem.Spec
section
variable {hb : HB} {c : CT} {env : Env} {O O₂ : Addr → Prop} {ow : Nat → Option Addr} {σ : zad} {sc : Scope} {cl : List (Str × Addr)} {C : Addr}
theorem zec {n : Str} {i : Nat} (sok : ScOk c sc) (h : (c.inner sc).slot n = some i) : ∃ k, sc.names.lookup n = some k ∧ (k = .local ∨ k = .cell ∨ k = .free) ∧ (n, k) ∈ sc.names ∧
    (zav σ (c.cap sc))[i]? = some (match (if k == .free then c.slot n else none) with | some j => (match zaw σ j with | some v => Mine.Slot.val v | none => Mine.Slot.unset) | none => Mine.Slot.unset) := by
  have h0 := h; have key : (c.inner sc).ns[i]? = some n ∧ ∃ k, sc.names.lookup n = some k ∧ (k = .local ∨ k = .cell ∨ k = .free) := by
    unfold CT.slot at h
    split at h
    · rename_i e; exact ⟨zcu h, _, e, .inl rfl⟩
    · rename_i e; exact ⟨zcu h, _, e, .inr (.inl rfl)⟩
    · rename_i e; exact ⟨zcu h, _, e, .inr (.inr rfl)⟩
    · cases h
  obtain ⟨h1, k, h2, h3⟩ := key; have h1 : ((sc.names.filter fun x => zez x.2).map (·.1))[i]? = some n := h1
  rw [List.getElem?_map] at h1; obtain ⟨⟨n', k'⟩, h4, rfl⟩ := Option.map_eq_some_iff.mp h1; have hm : (n', k') ∈ sc.names := (List.mem_filter.mp (List.mem_of_getElem? h4)).1; have := zc2 sok.nd hm; have h2 : sc.names.lookup n' = some k := h2; rw [this] at h2; cases h2; refine ⟨k, this, h3, hm, ?_⟩; unfold zav CT.cap; rw [List.getElem?_map, List.getElem?_map, h4]; rfl
theorem zcb {n : Str} {k : NameKind} (h : sc.names.lookup n = some k) : ∃ k', (cEnv sc cl C env).kindOf n = some k' ∧ (k ≠ .free → k' = k) ∧ (k = .free → k' = .cell ∨ k' = .free) := zfl h
structure ClOk (env : Env) (sc : Scope) (cl : List (Str × Addr)) : Prop where
  sub : ∀ n a, cl.lookup n = some a → env.cells.lookup n = some a
  all : ∀ n, (n, NameKind.free) ∈ sc.names → ∃ a, (n, a) ∈ cl
  only : ∀ n a, (n, a) ∈ cl → (n, NameKind.free) ∈ sc.names
theorem zg6 (sok : ScOk c sc) (ck : ClOk env sc cl) {n : Str} {k : NameKind} (h : sc.names.lookup n = some k) (hm : (n, k) ∈ sc.names) :
    (k = .cell → ∃ a, (cEnv sc cl C env).cells.lookup n = some a ∧ (n, a) ∈ cellsFrom (C + 1) sc.names []) ∧
    (k ≠ .cell → (cEnv sc cl C env).cells.lookup n = cl.lookup n) := by
  have e : (cEnv sc cl C env).cells = cellsFrom (C + 1) sc.names [] ++ cl := zbv ..; rw [e, zdt]; refine ⟨fun q => ?_, fun q => ?_⟩
  · subst q; obtain ⟨a, ha⟩ := zc4 sc.names (C + 1) [] n hm; obtain ⟨a', ha'⟩ := zc5 ha; rw [ha']; exact ⟨a', rfl, mem_of_lookup ha'⟩
  · cases h' : (cellsFrom (C + 1) sc.names []).lookup n with
    | none => rfl
    | some a =>
      have := zdy _ _ _ _ (mem_of_lookup h')
      have := zc2 sok.nd this
      rw [h] at this; cases this; exact absurd rfl q
theorem inner_fr {h h' : Heap} (sok : ScOk c sc) (fr : FR hb c env O ow σ h) (ck : ClOk env sc cl) (hk : ∀ b o, h.get? b = some o → h'.get? b = some o) (hC : h'.Ns C fun _ => none) (hCt : C ≠ zao)
    (hlt : ∀ b o, h.get? b = some o → b ≤ C) (hcs : CellsOk h' (C + 1) (cellsFrom (C + 1) sc.names [])) (hct : zao ≤ C) (hO : ∀ b o, h.get? b = some o → ¬ O b → ¬ O₂ b) :
    FR hb (c.inner sc) (cEnv sc cl C env) O₂ (fun _ => none) (zav σ (c.cap sc)) h' := by
  have old : ∀ n a, (cEnv sc cl C env).cells.lookup n = some a → (n, a) ∈ cellsFrom (C + 1) sc.names [] ∨ (env.cells.lookup n = some a) := by
    intro n a q; rw [show (cEnv sc cl C env).cells = cellsFrom (C + 1) sc.names [] ++ cl from zbv .., zdt] at q
    split at q
    · rename_i a' q'; cases q; exact .inl (mem_of_lookup q')
    · exact .inr (ck.sub _ _ q)
  have freeOf : ∀ n, (n, NameKind.free) ∈ sc.names → ∃ a j ov, cl.lookup n = some a ∧ env.cells.lookup n = some a ∧ c.slot n = some j ∧ a ≠ zao ∧ h.IsCell a ov ∧ SlotR h O ow j σ[j]? ov := by
    intro n hn; obtain ⟨a0, ha0⟩ := ck.all n hn; obtain ⟨a, ha⟩ := zc5 ha0; obtain ⟨j, hj, hkj⟩ := sok.free n hn; obtain ⟨a', e', ht', ov, hc', r'⟩ := fr.cells n j hj (fr.fk.kindc n hkj); have := ck.sub _ _ ha; rw [e'] at this; cases this; exact ⟨a, j, ov, ha, e', hj, ht', hc', r'⟩
  refine ⟨⟨?_, hCt, ?_, fr.fk.globs, ?_, ?_, ?_, fr.fk.gl, fr.fk.bu⟩, ⟨_, hC, ?_⟩, ?_⟩
  · exact sok.fn
  · intro n i hi; obtain ⟨k, h1, h2, _⟩ := zec (σ := σ) sok hi; obtain ⟨k', h3, h4, h5⟩ := zcb (cl := cl) (C := C) (env := env) h1; rw [h3]; rcases h2 with rfl | rfl | rfl
    · rw [h4 (by decide)]; exact .inl rfl
    · rw [h4 (by decide)]; exact .inr (.inl rfl)
    · rcases h5 rfl with rfl | rfl
      · exact .inr (.inl rfl)
      · exact .inr (.inr rfl)
  · intro n hn; obtain ⟨k', h3, h4, _⟩ := zcb (cl := cl) (C := C) (env := env) hn; rw [h3, h4 (by decide)]
  · intro n hn; rcases hn with hn | hn
    · obtain ⟨k', h3, h4, _⟩ := zcb (cl := cl) (C := C) (env := env) hn; rw [h3, h4 (by decide)]; exact .inl rfl
    · obtain ⟨k', h3, _, h5⟩ := zcb (cl := cl) (C := C) (env := env) hn; rw [h3]; rcases h5 rfl with rfl | rfl
      · exact .inl rfl
      · exact .inr rfl
  · intro n n' a h1 h2; have below : ∀ n n0, cl.lookup n = some a → (n0, a) ∈ cellsFrom (C + 1) sc.names [] → False := by
      intro n n0 q hm; obtain ⟨a', j, ov, q1, _, _, _, ⟨o, q5, _⟩, _⟩ := freeOf n (ck.only n a (mem_of_lookup q)); rw [q] at q1; cases q1; exact Nat.lt_irrefl _ (Nat.lt_of_lt_of_le (Nat.lt_succ_self C) (Nat.le_trans (hcs.empty n0 a hm).2 (hlt a o q5)))
    have alive : ∀ n, (cEnv sc cl C env).cells.lookup n = some a → (n, a) ∈ cellsFrom (C + 1) sc.names [] ∨ (env.cells.lookup n = some a ∧ cl.lookup n = some a) := by
      intro n q; rw [show (cEnv sc cl C env).cells = cellsFrom (C + 1) sc.names [] ++ cl from zbv .., zdt] at q
      split at q
      · rename_i a' q'; cases q; exact .inl (mem_of_lookup q')
      · exact .inr ⟨ck.sub _ _ q, q⟩
    rcases alive n h1 with q1 | ⟨q1, _⟩
    · rcases alive n' h2 with q2 | ⟨q2, q3⟩
      · exact name_of_addr hcs.apart q1 q2
      · exact (below _ _ q3 q1).elim
    · rename_i q3; rcases alive n' h2 with q2 | ⟨q2, _⟩
      · exact (below _ _ q3 q2).elim
      · exact fr.fk.apart n n' a q1 q2
  · intro n i hi hkn; obtain ⟨k, h1, h2, h3, h4⟩ := zec (σ := σ) sok hi; obtain ⟨k', h5, h6, h7⟩ := zcb (cl := cl) (C := C) (env := env) h1; rw [h5] at hkn; cases hkn; have : k ≠ .free := fun q => by rcases h7 q with q | q <;> cases q
    rw [h4]; have : (k == NameKind.free) = false := beq_eq_false_iff_ne.mpr this; rw [this]
    trivial
  · intro n i hi hkn; obtain ⟨k, h1, h2, h3, h4⟩ := zec (σ := σ) sok hi; obtain ⟨k', h5, h6, h7⟩ := zcb (cl := cl) (C := C) (env := env) h1; obtain ⟨h8, h9⟩ := zg6 (C := C) sok ck h1 h3; rcases h2 with rfl | rfl | rfl
    · rw [h6 (by decide)] at h5; rw [h5] at hkn; rcases hkn with q | q <;> cases q
    · obtain ⟨a, ha, hm⟩ := h8 rfl; refine ⟨a, ha, ?_, none, (hcs.empty n a hm).1, ?_⟩
      · have := (hcs.empty n a hm).2; exact Nat.ne_of_gt (Nat.lt_of_le_of_lt hct (Nat.lt_of_succ_le this))
      · rw [h4]; trivial
    · obtain ⟨a, j, ov, q1, q2, q3, q4, ⟨o, q5, q6⟩, q7⟩ := freeOf n h3; refine ⟨a, by rw [h9 (by decide)]; exact q1, q4, ov, ⟨o, hk _ _ q5, q6⟩, ?_⟩; rw [h4, if_pos (by rfl), q3]; dsimp only
      cases hv : zaw σ j with
      | none => trivial
      | some v =>
        obtain ⟨rv, e, r⟩ := val_of hv q7
        exact ⟨rv, e, r.mono (fun b o e _ => hk b o e) hO⟩
end
end Mine
namespace Mine
open PySem PyProof.Rows PySem.Spec
section
variable {prog : Program} {w : World} {A : Around} {hb : HB} {Γ : Gam} {c : CT}
structure Setup (prog : Program) (w : World) (A : Around) (hb : HB) (s si : Shared) (tg : Expr) (I D : Addr) (wr : List Addr) (items : List PV) (St : Nat → Heap → (Addr → Prop) → Prop) (O : Addr → Prop) (c : CT) (env : Env) (σ : zad) (dn : List PV) (s₄ : Shared) : Prop where
  W : ItW prog w A tg I wr items St
  hD : D ∉ wr
  hO : ∀ b ∈ wr, O b
  hOD : O D
  hwr : ∀ b ∈ wr, si.heap.get? b = none
  hDs : s.heap.get? D = none
  hDt : D ≠ zao
  st : St 0 s₄.heap O
  L : LpS hb s si D c env O σ dn s₄
  len : items.length ≤ small
theorem comp_core {elt tgE it : Expr} {ifs : List Expr} {gens : List Comprehension} {sc : Scope} {pos : Pos} {k : IK} {a b : PE} (hit : SIt prog w A hb Γ c it k a b) (hset : ∀ env x, foldedSetIterable it env x = pure x) (sok : ScOk c sc)
    {env : Env} {O : Addr → Prop} {ow : Nat → Option Addr} {σ : zad} {s : Shared} (fr : FR hb c env O ow σ s.heap) (xc : XC hb O s) (tk : 1 ≤ s.toks)
    {x y : PV} {items total : List PV} (hx : evE Γ a .val σ = some x) (hy : evE Γ b .val σ = some y) (hi : zau k x y = some items) (htg : TgFit k tgE) (htot : items.length ≤ small → total.length ≤ small) {use : Option (Value → Sem Unit)} {Q : Value → Shared → Prop} {E : Value → Shared → Prop}
    (loop : ∀ I wr St D C cl s₄ O₂ R, Setup prog w A hb s s tgE I D wr items St O₂ (c.inner sc) (cEnv sc cl C env) (zav σ (c.cap sc)) [] s₄ →
      (∀ n, sc.names.lookup n = some .local ∨ sc.names.lookup n = some .cell → OwnN s (cEnv sc cl C env) n) →
      (∀ s', Kp hb s s' → TR D s.heap s'.heap → FR hb (c.inner sc) (cEnv sc cl C env) O₂ (fun _ => none) (zav σ (c.cap sc)) s'.heap → (∃ acc : List Value, s'.heap.PlainList D acc.toArray ∧ VRs s'.heap O₂ total acc) → 1 ≤ s'.toks → R (.ok .next) s') →
      codeAny (model prog w) A (.compLoop (.ListComp elt (⟨tgE, it, ifs, 0⟩ :: gens) sc pos) 0 (.ref I) (.ref D) (cEnv sc cl C env)) R s₄)
    (hP : ∀ C s' rv m, Kp hb s s' → s'.heap.Ns C m → s.heap.get? C = none → VR s'.heap O (.list total) rv → 1 ≤ s'.toks → compPost (model prog w) A E use Q rv C (.ok .next) s') :
    wpAny (model prog w) A (comprehension (.ListComp elt (⟨tgE, it, ifs, 0⟩ :: gens) sc pos) sc env it.pos (newList []) false (eval it env) use) Q E s := by
  have hfree : ∀ n, (n, NameKind.free) ∈ sc.names → ∃ a, env.cells.lookup n = some a := fun n hn => by
    obtain ⟨j, hj, hkj⟩ := sok.free n hn; obtain ⟨a', e', _⟩ := fr.cells n j hj (fr.fk.kindc n hkj); exact ⟨a', e'⟩
  obtain ⟨cl, hclos, ck1, ck2, ck3⟩ := closure_of (env := env) (scope := sc) hfree; refine wpAny_comprehension_free (use := use) (g := ⟨tgE, it, ifs, 0⟩) (gs := gens) rfl (fun x => hset env x) hclos sok.fn (fun x hx hl => by
    obtain ⟨n, kk⟩ := x; have hl : kk = .local := hl; subst hl; exact zc2 sok.nd hx) ?_
  refine hit env O ow σ s fr xc tk x y items tgE hx hy hi htg _ _ fun I wr St s₂ k₂ t₂ W st hwr hlen => ?_
  refine wpAny_with_toks t₂ (wpAny_newObj_type ?_); intro t₃; refine newEnvComp ?_; generalize hH3 : s₂.heap.push { cls := .type "list", dict := none, data := .seq ([] : List Value).toArray } = H3; have hC : H3.objs.size = s₂.heap.objs.size + 1 := by rw [← hH3, Heap.size_push]
  have xc2 := xc.kp k₂; have hkH3 : ∀ b o, s₂.heap.get? b = some o → H3.get? b = some o := fun b o e => hH3 ▸ Heap.get?_push_of_some _ e
  have ok := cellsFrom_ok sc.names (H3.push { cls := .type "dict", data := .dict #[] }) (H3.objs.size + 1) [] ⟨fun _ _ hm => (nomatch hm), List.Pairwise.nil⟩ (by rw [Heap.size_push]; exact Nat.le_refl _)
  rw [Heap.size_push] at ok; have hns : (pushCells (H3.push { cls := .type "dict", data := .dict #[] }) sc.names).Ns H3.objs.size fun _ => none := (Heap.Ns.new H3 (.type "dict")).keeps (pushCells_keeps _ _)
  have hk3 : ∀ b o, H3.get? b = some o → (pushCells (H3.push { cls := .type "dict", data := .dict #[] }) sc.names).get? b = some o := fun b o e => pushCells_keeps _ _ b o (Heap.get?_push_of_some _ e)
  generalize pushCells (H3.push { cls := .type "dict", data := .dict #[] }) sc.names = H4 at ok hns hk3; have hk4 : ∀ b o, s₂.heap.get? b = some o → H4.get? b = some o := fun b o e => hk3 b o (hkH3 b o e)
  have hD4 : H4.PlainList s₂.heap.objs.size #[] := ⟨0, hk3 _ _ (hH3 ▸ Heap.get?_push_size _ rfl)⟩; have hDn : s₂.heap.get? s₂.heap.objs.size = none := zbh (Nat.le_refl _); have hDw : s₂.heap.objs.size ∉ wr := fun q => by
    obtain ⟨o, e, _⟩ := W.its _ _ _ st _ q; rw [hDn] at e; cases e
  have tlt := xc2.gs.tab.lt; have fm : Frm s₂.heap (fun b => O b ∨ b ∈ wr) H4 (fun b => (O b ∨ b ∈ wr) ∨ b = s₂.heap.objs.size) :=
    ⟨fun b o e => ⟨o, hk4 b o e⟩, fun b o _ e _ _ => hk4 b o e, fun b o e hO q => by
      rcases q with q | q
      · exact hO q
      · rw [q, hDn] at e; cases e⟩
  have kp4 : Kp hb s { s₂ with heap := H4, toks := s₂.toks } := k₂.trans (.keeps (tk := s₂.toks) hk4); have hCn : s.heap.get? H3.objs.size = none := zbm k₂ xc.gs (zbh (by rw [hC]; exact Nat.le_succ _)); have frg : FR hb c env (fun b => O b ∨ b ∈ wr) ow σ s₂.heap := (fr.grow fun b o e hO q => by
      rcases q with q | q
      · exact hO q
      · rw [hwr b q] at e; cases e).kp k₂
  have ifr := inner_fr (C := H3.objs.size) (O₂ := fun b => (O b ∨ b ∈ wr) ∨ b = s₂.heap.objs.size) sok frg (cl := cl) ⟨ck1, ck2, ck3⟩ hk4 hns (Nat.ne_of_gt (by rw [hC]; exact Nat.lt_succ_of_lt tlt)) (fun b o e => by rw [hC]; exact Nat.le_succ_of_le (Nat.le_of_lt (Heap.lt_size e))) ok (by rw [hC]; exact Nat.le_succ_of_le (Nat.le_of_lt tlt)) fm.thin
  have okk : OkO (fun b => (O b ∨ b ∈ wr) ∨ b = s₂.heap.objs.size) H4 := fun a ha => by
    rcases ha with (ha | ha) | ha
    · obtain ⟨h1, o, h2⟩ := xc2.ok a ha; exact ⟨h1, o, hk4 _ _ h2⟩
    · obtain ⟨o, e, _⟩ := W.its _ _ _ st a ha; refine ⟨fun q => ?_, o, hk4 _ _ e⟩
      obtain ⟨o', e'⟩ := xc.gs.tab.get; rw [← q, hwr a ha] at e'; cases e'
    · rw [ha]; exact ⟨Nat.ne_of_gt tlt, _, hD4.choose_spec⟩
  have hDs : s.heap.get? s₂.heap.objs.size = none := zbm k₂ xc.gs hDn; refine codeAny_compStart_list (env := cEnv sc cl H3.objs.size env) ?_ ?_
  all_goals
    first
    | refine W.self 0 _ (fun b => (O b ∨ b ∈ wr) ∨ b = s₂.heap.objs.size) _ _ (W.frm _ _ _ _ _ st fm (fun b hb => .inl (.inr hb)) fun b _ o e => hk4 b o e) ?_
    | skip
  all_goals
    refine loop I wr St s₂.heap.objs.size H3.objs.size cl _ (fun b => (O b ∨ b ∈ wr) ∨ b = s₂.heap.objs.size) _ ⟨W, hDw, fun b hb => .inl (.inr hb), .inr rfl, hwr, hDs, Nat.ne_of_gt tlt, W.frm _ _ _ _ _ st fm (fun b hb => .inl (.inr hb)) fun b _ o e => hk4 b o e, ⟨kp4, .kp kp4 xc.gs _, ifr, ⟨[], hD4, rfl⟩, okk, t₂⟩, hlen⟩ ?_ ?_
    · intro n hn; refine ⟨fun _ => hCn, fun hk a ha => ?_, fun hk => ?_⟩
      · rcases hn with hn | hn
        · obtain ⟨k', h3, h4, _⟩ := zcb (cl := cl) (C := H3.objs.size) (env := env) hn; rw [h3, h4 (by decide)] at hk; cases hk
        · obtain ⟨h8, _⟩ := zg6 (C := H3.objs.size) (env := env) (cl := cl) sok ⟨ck1, ck2, ck3⟩ hn (mem_of_lookup hn); obtain ⟨a', ha', hm⟩ := h8 rfl; rw [ha] at ha'; cases ha'; have := (ok.empty n a hm).2; exact zbm k₂ xc.gs (zbh (Nat.le_trans (by rw [hC]; exact Nat.le_succ_of_le (Nat.le_succ _)) this))
      · rcases hn with hn | hn
        · obtain ⟨k', h3, h4, _⟩ := zcb (cl := cl) (C := H3.objs.size) (env := env) hn; rw [h3, h4 (by decide)] at hk; cases hk
        · obtain ⟨k', h3, h4, _⟩ := zcb (cl := cl) (C := H3.objs.size) (env := env) hn; rw [h3, h4 (by decide)] at hk; cases hk
    · intro s' k' tr' fr' hacc tk'; obtain ⟨acc, hpl, hr⟩ := hacc; obtain ⟨m, hm, _⟩ := fr'.ns; refine hP H3.objs.size s' _ m k' hm hCn ⟨htot hlen, s₂.heap.objs.size, acc, rfl, Nat.ne_of_gt tlt, fun q => ?_, hpl, hr.mono (fun _ _ e _ => e) fun b _ _ q q' => q (.inl (.inl q'))⟩ tk'
      obtain ⟨_, o, e⟩ := xc2.ok _ q; rw [hDn] at e; cases e
end
end Mine
namespace Mine
open PySem PyProof.Rows PySem.Spec
section
variable {prog : Program} {w : World} {A : Around} {hb : HB} {Γ : Gam} {c : CT}
def testsT (ifs : List Expr) (env : Env) : Sem Bool := forIn ifs true fun c r => if r = true then do let ok ← isTrue c env (eval c env); pure (ForInStep.yield ok) else pure (ForInStep.yield r)
def STs (prog : Program) (w : World) (A : Around) (hb : HB) (Γ : Gam) (c : CT) (es : List Expr) (pes : List PE) : Prop :=
  ∀ (env : Env) (O : Addr → Prop) (ow : Nat → Option Addr) (σ : zad) (s : Shared), FR hb c env O ow σ s.heap → XC hb O s → 1 ≤ s.toks →
    ∀ b, zah Γ pes σ = some b → OkB prog w A hb (testsT es env) b s
theorem sts_nil : STs prog w A hb Γ c [] [] := by
  intro env O ow σ s fr xc ht b hv Q E hQ
  cases hv
  exact wpAny_pure (hQ _ (.refl ..) ht)
theorem tests_off : ∀ (es : List Expr) (env : Env), (forIn es false fun c r => if r = true then do let ok ← isTrue c env (eval c env); pure (ForInStep.yield ok) else pure (ForInStep.yield r) : Sem Bool) = pure false
  | [], _ => rfl
  | e :: es, env => by
    rw [List.forIn_cons]; exact tests_off es env
theorem sts_cons {e : Expr} {es : List Expr} {pe : PE} {pes : List PE} (h1 : SE prog w A hb Γ c e pe) (h2 : STs prog w A hb Γ c es pes) : STs prog w A hb Γ c (e :: es) (pe :: pes) := by
  intro env O ow σ s fr xc ht b hv Q E hQ; rw [zah] at hv; unfold testsT; rw [List.forIn_cons]; simp only [if_true]
  cases hx : asB (evE Γ pe .test σ) with
  | none => rw [hx] at hv; cases hv
  | some t =>
    rw [hx] at hv
    refine wpAny_bind (wpAny_bind (h1.test fr xc ht hx _ _ fun s₁ k₁ t₁ => wpAny_pure ?_))
    cases t
    · cases hv
      show wpAny _ _ (forIn es false _) Q E s₁; rw [tests_off]; exact wpAny_pure (hQ _ k₁ t₁)
    · exact h2 env O ow σ s₁ (fr.kp k₁) (xc.kp k₁) t₁ b hv _ _ fun s' k => hQ s' (k₁.trans k)
theorem append_ok {s si s' : Shared} {D : Addr} {c : CT} {env : Env} {O : Addr → Prop} {σ : zad} {dn : List PV} {v : PV} {rv : Value} {Q : Value → Shared → Prop} {E : Value → Shared → Prop} (g₀ : GS hb s) (hDs : s.heap.get? D = none) (hOD : O D)
    (L : LpS hb s si D c env O σ dn s') (hz : dn.length + 1 ≤ small) (r : VR s'.heap O v rv) (hQ : ∀ s'', LpS hb s si D c env O σ (dn ++ [v]) s'' → TR D s'.heap s''.heap → Q .none s'') :
    wpAny (model prog w) A (call (.builtin "list.append") [.ref D, rv]) Q E s' := by
  obtain ⟨acc, hpl, hr⟩ := L.acc; have h2 : small = 1048576 := rfl; refine wpAny_list_append_plain hpl (fun h' hl' hs' => ?_) (by rw [List.size_toArray, hr.length]; exact Nat.le_trans (by omega) zbb)
  obtain ⟨n, hD⟩ := id hpl; obtain ⟨n', hD'⟩ := id hl'; have hk : ∀ b o, ¬ b = D → s'.heap.get? b = some o → h'.get? b = some o := fun b o hb e => hs'.extBut b o hb e
  have km : ∀ b o, s'.heap.get? b = some o → zd3 O b o → h'.get? b = some o := fun b o e l => hk b o (fun q => l.2.1 (q ▸ hOD)) e
  have tr : TR D s'.heap h' := ⟨fun b o e => by
    by_cases hb : b = D
    · subst hb; exact ⟨_, hD'⟩
    · exact ⟨o, hk b o hb e⟩, fun b o _ e _ hb => hk b o hb e⟩
  refine hQ _ ⟨L.kp.turns (tk := s'.toks) (X := (· = D)) g₀ hk (fun b q => by rw [q]; exact hDs) fun b o q e => ?_, L.tr.trans tr, L.fr.turn (X := (· = D)) hk fun b o q e => ?_, ⟨acc ++ [rv], ?_, ?_⟩, L.ok.frm (tr.frm hOD), L.tk⟩ tr
  · rw [q, hD] at e; cases e; exact .inl ⟨(show Value.type "list" ≠ Value.none by decide), (show Value.type "list" ≠ Value.type "code" by decide)⟩
  · rw [q, hD] at e; cases e; exact ⟨.seq rfl (zat rfl (by decide)), q ▸ hOD, fun _ q => (nomatch q), (show Value.type "list" ≠ Value.type "builtin_function_or_method" by decide)⟩
  · have e : (acc ++ [rv]).toArray = acc.toArray.push rv := by simp
    rw [e]; exact hl'
  · exact (hr.mono km fun _ _ _ q => q).append ⟨rv, [], rfl, r.mono km fun _ _ _ q => q, rfl⟩
theorem LpS.xc {s si s' : Shared} {D : Addr} {c : CT} {env : Env} {O : Addr → Prop} {σ : zad} {dn : List PV} (L : LpS hb s si D c env O σ dn s') {O₁ : Addr → Prop} (x₀ : XC hb O₁ s) : XC hb O s' := ⟨L.kp.gs x₀.gs, L.ok, x₀.own.soft L.kp.soft⟩
theorem LpS.run {s si s' s'' : Shared} {D : Addr} {c : CT} {env : Env} {O : Addr → Prop} {σ : zad} {dn : List PV} (L : LpS hb s si D c env O σ dn s') (g₀ : GS hb s) (hDt : D ≠ zao) (k : Kp hb s' s'') (tk : 1 ≤ s''.toks) : LpS hb s si D c env O σ dn s'' :=
  ⟨L.kp.trans k, L.tr.trans (.kp k (L.kp.gs g₀) D), L.fr.kp k, by
    obtain ⟨acc, hpl, hr⟩ := L.acc; exact ⟨acc, zb4 k.soft hDt hpl, hr.soft k.soft⟩, L.ok.kp k, tk⟩
def bodyT (elt : Expr) (ifs : List Expr) (D : Addr) (env : Env) : Sem Unit :=
  testsT ifs env >>= fun ok => if ok = true then (eval elt env >>= fun x => call (.builtin "list.append") [.ref D, x] >>= fun _ => pure ()) else pure ()
theorem turn_one (elt target iter : Expr) (ifs : List Expr) (scope : Scope) (pos : Pos) (it : Value) (D : Addr) (env : Env) :
    compTurn (.ListComp elt [⟨target, iter, ifs, 0⟩] scope pos) 0 it (.ref D) env = (standAt iter.pos >>= fun _ => pyNext it >>= fun r => match r with
        | none => pure (.done .next)
        | some v => letOwnedTupleGo target it v >>= fun _ => assign target env v >>= fun _ => bodyT elt ifs D env >>= fun _ => again (.compLoop (.ListComp elt [⟨target, iter, ifs, 0⟩] scope pos) 0 it (.ref D) env)) := by
  rw [compTurn_list]; unfold bodyT testsT; refine congrArg (standAt iter.pos >>= ·) (funext fun _ => congrArg (pyNext it >>= ·) (funext fun r => ?_))
  cases r with
  | none => rfl
  | some v =>
    simp only [bind_assoc]
    refine congrArg (letOwnedTupleGo target it v >>= ·) (funext fun _ => congrArg (assign target env v >>= ·) (funext fun _ => ?_))
    refine congrArg ((forIn ifs true fun c r => if r = true then do let ok ← isTrue c env (eval c env); pure (ForInStep.yield ok) else pure (ForInStep.yield r)) >>= ·) (funext fun ok => ?_)
    cases ok
    · rfl
    · simp [bind_assoc]
def Tgt.has : Tgt → Nat → Prop
  | .one a, i => i = a
  | .two a b, i => i = a ∨ i = b
theorem put_two {a b : Nat} {σ σ1 : zad} {x : PV} (h : (Tgt.two a b).put σ x = some σ1) : ∃ v1 v2, x = .tup [v1, v2] ∧ σ1 = zaa (zaa σ a (.val v1)) b (.val v2) := by
  cases x with
  | tup l =>
    match l, h with
    | [v1, v2], h => exact ⟨v1, v2, rfl, (Option.some.inj h).symm⟩
    | [], h => cases h
    | [_], h => cases h
    | _ :: _ :: _ :: _, h => cases h
  | _ => cases h
theorem put_less {t : Tgt} {σ σ1 : zad} {x : PV} (h : t.put σ x = some σ1) (hn : ∀ i : Nat, t.has i → σ[i]? = some Mine.Slot.unset ∨ σ[i]? = none) (ha : ∀ (i r : Nat), σ[i]? ≠ some (Mine.Slot.app r)) : Less σ σ1 := by
  have clear : ∀ (σ : zad) (a : Nat), (∀ (i r : Nat), σ[i]? ≠ some (Mine.Slot.app r)) → ∀ (s : Mine.Slot) (i : Nat), i ≠ a → (zaa σ a s)[i]? = σ[i]? := by
    intro σ a ha s i hi; unfold zaa; rw [List.getElem?_set_ne (Ne.symm hi)]; rw [List.getElem?_map]
    cases hs : σ[i]? with
    | none => rfl
    | some q =>
      cases q with
      | app r => exact absurd hs (ha i r)
      | _ => rfl
  cases t with
  | one a =>
    cases h
    intro i
    by_cases hi : i = a
    · rcases hn i hi with q | q
      · exact .inr (.inl q)
      · exact .inr (.inr q)
    · exact .inl (clear σ a ha _ i hi).symm
  | two a b =>
    obtain ⟨v1, v2, rfl, rfl⟩ := put_two h
    · intro i; by_cases hi : i = a ∨ i = b
      · rcases hn i hi with q | q
        · exact .inr (.inl q)
        · exact .inr (.inr q)
      · have h1 : i ≠ a := fun q => hi (.inl q)
        have h2 : i ≠ b := fun q => hi (.inr q)
        refine .inl ?_; rw [clear (zaa σ a (.val v1)) b (fun j r => ?_) _ i h2, clear σ a ha _ i h1]
        by_cases hj : j = a
        · subst hj; rcases zdv σ j (.val v1) with q | q <;> rw [q] <;> intro q' <;> cases q'
        · rw [clear σ a ha _ j hj]; exact ha j r
theorem zfv {c : CT} {tg : Expr} {t : Tgt} (ht : zca c tg = some t) : (∃ x p i, tg = .Name x p ∧ c.slot x = some i ∧ t = .one i) ∨
    (∃ x p y p' k pp i j, tg = .Tuple [.Name x p, .Name y p'] k pp ∧ c.slot x = some i ∧ c.slot y = some j ∧ t = .two i j) := by
  unfold zca at ht
  split at ht
  · obtain ⟨i, hi, rfl⟩ := Option.map_eq_some_iff.mp ht; exact .inl ⟨_, _, i, rfl, hi, rfl⟩
  · split at ht
    · rename_i hi hj
      cases ht
      exact .inr ⟨_, _, _, _, _, _, _, _, rfl, hi, hj, rfl⟩
    · cases ht
  · cases ht
theorem tg_slots {sc : Scope} {tg : Expr} {t : Tgt} (ht : zca (c.inner sc) tg = some t) (ok : tgOk sc tg = true) (sok : ScOk c sc) (σ : zad) :
    (∀ i : Nat, t.has i → (zav σ (c.cap sc))[i]? = some Mine.Slot.unset ∨ (zav σ (c.cap sc))[i]? = none) ∧
    (∀ n ∈ tgNames tg, sc.names.lookup n = some .local ∨ sc.names.lookup n = some .cell) := by
  have one : ∀ {n : Str} {i : Nat}, (c.inner sc).slot n = some i → sc.names.lookup n = some .local ∨ sc.names.lookup n = some .cell → (zav σ (c.cap sc))[i]? = some Mine.Slot.unset := by
    intro n i hi hk; obtain ⟨k, h1, _, _, h4⟩ := zec (σ := σ) sok hi; have : (k == NameKind.free) = false := by
      rcases hk with hk | hk <;> rw [hk] at h1 <;> cases h1 <;> rfl
    rw [h4, this]; rfl
  rcases zfv ht with ⟨n, p, i, rfl, hi, rfl⟩ | ⟨n, p, n', p', k, pp, i, j, rfl, hi, hj, rfl⟩
  · simp only [tgOk, Bool.or_eq_true, beq_iff_eq] at ok; refine ⟨fun j hj => ?_, fun n' hn' => ?_⟩
    · have hj : j = i := hj; subst hj; exact .inl (one hi ok)
    · rw [List.mem_singleton.mp hn']; exact ok
  · simp only [tgOk, Bool.or_eq_true, Bool.and_eq_true, beq_iff_eq] at ok; refine ⟨fun q hq => ?_, fun m hm => ?_⟩
    · rcases hq with rfl | rfl
      · exact .inl (one hi ok.1.1)
      · exact .inl (one hj ok.1.2)
    · rcases List.mem_cons.mp hm with rfl | hm
      · exact ok.1.1
      · rw [List.mem_singleton.mp hm]; exact ok.1.2
theorem zgg {σ : zad} {cap : List (Option Nat)} (i r : Nat) : (zav σ cap)[i]? ≠ some (Mine.Slot.app r) := by
  unfold zav; rw [List.getElem?_map]
  cases cap[i]? with
  | none => exact fun q => nomatch q
  | some o =>
    cases o with
    | none => exact fun q => nomatch q
    | some j =>
      intro q
      have q := Option.some.inj q
      dsimp only at q
      split at q <;> cases q
theorem zfh {k : IK} {tg : Expr} {t : Tgt} (ht : zca c tg = some t) (h : zb2 k t = true) : TgFit k tg := by
  unfold zca at ht
  split at ht
  · obtain ⟨i, hi, rfl⟩ := Option.map_eq_some_iff.mp ht
    cases k
    · exact fun I v => rfl
    · exact fun I v => rfl
    · cases h
    · cases h
  · split at ht
    · cases ht
      cases k
      · cases h
      · cases h
      · exact ⟨_, _, _, rfl⟩
      · exact ⟨_, _, _, rfl⟩
    · cases ht
  · cases ht
theorem zg3 {elt tg it : Expr} {ifs : List Expr} {sc : Scope} {pos : Pos} {k : IK} {a b : PE} {t : Tgt} {pifs : List PE} {pe : PE} (hA : A.handled = none) (hit : SIt prog w A hb Γ c it k a b) (hset : ∀ env x, foldedSetIterable it env x = pure x) (sok : ScOk c sc)
    (ht : zca (c.inner sc) tg = some t) (hfit : zb2 k t = true) (hok : tgOk sc tg = true) (h3 : STs prog w A hb Γ (c.inner sc) ifs pifs) (h4 : SE prog w A hb Γ (c.inner sc) elt pe)
    {env : Env} {O : Addr → Prop} {ow : Nat → Option Addr} {σ : zad} {s : Shared} (fr : FR hb c env O ow σ s.heap) (xc : XC hb O s) (tk : 1 ≤ s.toks)
    {x y : PV} {items total : List PV} (hx : evE Γ a .val σ = some x) (hy : evE Γ b .val σ = some y) (hi : zau k x y = some items) (hgo : zbc t (zav σ (c.cap sc)) (zah Γ pifs) (evE Γ pe .val) items = some total)
    {use : Option (Value → Sem Unit)} {Q : Value → Shared → Prop} {E : Value → Shared → Prop}
    (hP : ∀ C s' rv m, Kp hb s s' → s'.heap.Ns C m → s.heap.get? C = none → VR s'.heap O (.list total) rv → 1 ≤ s'.toks → compPost (model prog w) A E use Q rv C (.ok .next) s') :
    wpAny (model prog w) A (comprehension (.ListComp elt [⟨tg, it, ifs, 0⟩] sc pos) sc env it.pos (newList []) false (eval it env) use) Q E s := by
  obtain ⟨hgen, hlen⟩ := zeb hgo; obtain ⟨ts1, ts2⟩ := tg_slots ht hok sok σ; refine comp_core hit hset sok fr xc tk hx hy hi (zfh ht hfit) (fun hil => Nat.le_trans hlen hil) (fun I wr St D C cl s₄ O₂ R S own hR => ?_) hP
  refine zd9 rfl hA (turn_one ..) S.W S.hD S.hO S.hOD S.hwr (.refl ..) xc.gs S.hDs S.hDt (fun n hn => own n (ts2 n hn)) ht (fun x σ1 h => put_less h ts1 zgg) (fun x' σ1 vs s' dn hp hg hz L Q E hQ => ?_) hgen (by simpa using Nat.le_trans hlen S.len) S.st S.L fun s' k1 k2 k3 k4 k5 => hR s' k1 k2 k3 (by simpa using k4) k5
  unfold bodyT; unfold oneG at hg
  split at hg
  · cases hg
  · rename_i e1
    split at hg
    · cases hg
    · rename_i v e2
      cases hg
      refine wpAny_bind (h3 _ _ _ _ _ L.fr (L.xc xc) L.tk _ e1 _ _ fun s1 k1 t1 => ?_)
      have L1 := L.run xc.gs S.hDt k1 t1; rw [if_pos rfl]; refine wpAny_bind (h4.val L1.fr (L1.xc xc) L1.tk e2 _ _ fun rv s2 k2 t2 r2 => ?_)
      have L2 := L1.run xc.gs S.hDt k2 t2; refine wpAny_bind (append_ok xc.gs S.hDs S.hOD L2 hz r2 fun s3 L3 tr3 => wpAny_pure (hQ s3 L3 ?_))
      exact ((TR.kp k1 (L.kp.gs xc.gs) D).trans (.kp k2 (L1.kp.gs xc.gs) D)).trans tr3
  · rename_i e1
    cases hg
    refine wpAny_bind (h3 _ _ _ _ _ L.fr (L.xc xc) L.tk _ e1 _ _ fun s1 k1 t1 => ?_)
    have L1 := L.run xc.gs S.hDt k1 t1; rw [if_neg (by decide)]; exact wpAny_pure (hQ s1 (by rw [List.append_nil]; exact L1) (.kp k1 (L.kp.gs xc.gs) D))
theorem zhj {O : Addr → Prop} {s : Shared} {total : List PV} {Q : Value → Shared → Prop} {E : Value → Shared → Prop} (xc : XC hb O s) (hQ : ∀ rv s', Kp hb s s' → VR s'.heap O (.list total) rv → Q rv s') :
    ∀ C s' rv m, Kp hb s s' → s'.heap.Ns C m → s.heap.get? C = none → VR s'.heap O (.list total) rv → 1 ≤ s'.toks → compPost (model prog w) A E none Q rv C (.ok .next) s' := by
  intro C s' rv m k hm hC r tk; refine ⟨m, hm, fun h' hs => ?_⟩
  obtain ⟨o, es, ep, ho, hd, _⟩ := id hm; have hk : ∀ b o, ¬ b = C → s'.heap.get? b = some o → h'.get? b = some o := fun b o hb e => hs.extBut b o hb e
  have nL : ∀ b o, b = C → s'.heap.get? b = some o → ¬ Hardy o := fun b o' hb e q => by rw [hb, ho] at e; cases e; exact q.1 _ _ hd
  exact hQ rv { s' with heap := h' } (k.turns (tk := s'.toks) (X := (· = C)) xc.gs hk (fun b q => by rw [q]; exact hC) fun b o q e => .inr (nL b o q e)) (r.mono (fun b o e l => hk b o (fun q => nL b o q e l.2.2.2) e) fun _ _ _ q => q)
theorem se_comp {elt tg it : Expr} {ifs : List Expr} {sc : Scope} {pos : Pos} {k : IK} {a b : PE} {t : Tgt} {pifs : List PE} {pe : PE} (hA : A.handled = none) (hit : SIt prog w A hb Γ c it k a b) (hset : ∀ env x, foldedSetIterable it env x = pure x) (sok : ScOk c sc)
    (ht : zca (c.inner sc) tg = some t) (hfit : zb2 k t = true) (hok : tgOk sc tg = true) (h3 : STs prog w A hb Γ (c.inner sc) ifs pifs) (h4 : SE prog w A hb Γ (c.inner sc) elt pe) :
    SE prog w A hb Γ c (.ListComp elt [⟨tg, it, ifs, 0⟩] sc pos) (.comp pe t k a b pifs (c.cap sc)) := by
  refine SE.gen (fun _ => rfl) (fun σ => match evE Γ a .val σ with
    | some x => (match evE Γ b .val σ with
      | some y => (match zau k x y with
        | some items => (zbc t (zav σ (c.cap sc)) (zah Γ pifs) (evE Γ pe .val) items).map .list
        | none => none)
      | none => none)
    | none => none) (fun m σ => rfl) fun env O ow σ s fr xc tk v hv => ?_
  intro Q E hQ
  split at hv
  · rename_i x hx
    split at hv
    · rename_i y hy
      split at hv
      · rename_i items hi; obtain ⟨total, hgo, rfl⟩ := Option.map_eq_some_iff.mp hv; rw [eval_ListComp]; exact zg3 hA hit hset sok ht hfit hok h3 h4 fr xc tk hx hy hi hgo (zhj xc hQ)
      · cases hv
    · cases hv
  · cases hv
end
end Mine
namespace Mine
open PySem PyProof.Rows PySem.Spec
section
variable {prog : Program} {w : World} {A : Around} {hb : HB} {Γ : Gam} {c : CT} {R : Result → Shared → Prop} {s : Shared}
theorem compStart_one {elt it1 it2 t1 t2 : Expr} {sc : Scope} {pos : Pos} {it acc : Value} {env : Env}
    (h0 : codeAny (model prog w) A (.compLoop (.ListComp elt [⟨t1, it1, [], 0⟩, ⟨t2, it2, [], 0⟩] sc pos) 1 it acc env) R s)
    (h : wpAny (model prog w) A (pyIter it) (fun it' s' => codeAny (model prog w) A (.compLoop (.ListComp elt [⟨t1, it1, [], 0⟩, ⟨t2, it2, [], 0⟩] sc pos) 1 it' acc env) R s')
      (notedBy (model prog w) A env fun x s' => R (.error x) s') s) :
    codeAny (model prog w) A (.compStart (.ListComp elt [⟨t1, it1, [], 0⟩, ⟨t2, it2, [], 0⟩] sc pos) 1 it acc env) R s := by
  refine codeAny_of_tree ?_; show wpAny _ _ ((compStart (.ListComp elt [⟨t1, it1, [], 0⟩, ⟨t2, it2, [], 0⟩] sc pos) 1 it acc env).onRaise (fun x => do noteFrame x env; standAt theWindowsPlace)) _ _ s
  refine wpAny_notedAt ?_; unfold compStart; show wpAny _ _ (ask >>= _) _ _ s; refine wpAny_bind (wpAny_askSetting (wpAny_ite ?_))
  split
  · first
      | exact wpAny_bind (wpAny_pure (wpAny_pure (And.intro rfl h0)))
      | exact wpAny_pure (And.intro rfl h0)
  · first
      | exact wpAny_bind (wpAny_rule (wpAny_bind (wpAny_standAt (wpAny_bind (wpAny_mono h (fun it' s' h' => wpAny_pure (And.intro rfl h')) fun _ _ x => x)))))
      | (refine wpAny_bind (wpAny_rule ?_); show wpAny _ _ (standAt it2.pos >>= _) _ _ s; exact wpAny_bind (wpAny_standAt (wpAny_bind (wpAny_mono h (fun it' s' h' => wpAny_pure (And.intro rfl h')) fun _ _ x => x))))
def body1 (elt : Expr) (D : Addr) (env : Env) : Sem Unit := eval elt env >>= fun x => call (.builtin "list.append") [.ref D, x] >>= fun _ => pure ()
theorem turn_inner (elt t1 it1 t2 it2 : Expr) (sc : Scope) (pos : Pos) (it : Value) (D : Addr) (env : Env) :
    compTurn (.ListComp elt [⟨t1, it1, [], 0⟩, ⟨t2, it2, [], 0⟩] sc pos) 1 it (.ref D) env = (standAt it2.pos >>= fun _ => pyNext it >>= fun r => match r with
        | none => pure (.done .next)
        | some v => letOwnedTupleGo t2 it v >>= fun _ => assign t2 env v >>= fun _ => body1 elt D env >>= fun _ => again (.compLoop (.ListComp elt [⟨t1, it1, [], 0⟩, ⟨t2, it2, [], 0⟩] sc pos) 1 it (.ref D) env)) := by
  unfold body1
  first | rfl | (simp only [bind_assoc]; rfl)
def body2 (elt t1 it1 t2 it2 : Expr) (sc : Scope) (pos : Pos) (D : Addr) (env : Env) : Sem Unit :=
  eval it2 env >>= fun x => standAt it2.pos >>= fun _ => foldedSetIterable it2 env x >>= fun x => holding [x] (pyIter x) >>= fun i => runOwn (.compStart (.ListComp elt [⟨t1, it1, [], 0⟩, ⟨t2, it2, [], 0⟩] sc pos) 1 i (.ref D) env) env >>= fun _ => pure ()
theorem turn_outer (elt t1 it1 t2 it2 : Expr) (sc : Scope) (pos : Pos) (it : Value) (D : Addr) (env : Env) :
    compTurn (.ListComp elt [⟨t1, it1, [], 0⟩, ⟨t2, it2, [], 0⟩] sc pos) 0 it (.ref D) env = (standAt it1.pos >>= fun _ => pyNext it >>= fun r => match r with
        | none => pure (.done .next)
        | some v => letOwnedTupleGo t1 it v >>= fun _ => assign t1 env v >>= fun _ => body2 elt t1 it1 t2 it2 sc pos D env >>= fun _ => again (.compLoop (.ListComp elt [⟨t1, it1, [], 0⟩, ⟨t2, it2, [], 0⟩] sc pos) 0 it (.ref D) env)) := by
  unfold body2
  first | rfl | (simp only [bind_assoc]; rfl)
theorem put_other {t t2 : Tgt} {σ σ1 : zad} {x : PV} (h : t.put σ x = some σ1) (ap : apartT t t2 = true) (ha : ∀ (i r : Nat), σ[i]? ≠ some (Mine.Slot.app r)) :
    (∀ i : Nat, t2.has i → σ1[i]? = σ[i]?) ∧ ∀ (i r : Nat), σ1[i]? ≠ some (Mine.Slot.app r) := by
  have clear : ∀ (σ : zad) (a : Nat), (∀ (i r : Nat), σ[i]? ≠ some (Mine.Slot.app r)) → ∀ (s : Mine.Slot) (i : Nat), i ≠ a → (zaa σ a s)[i]? = σ[i]? := by
    intro σ a ha s i hi; unfold zaa; rw [List.getElem?_set_ne (Ne.symm hi), List.getElem?_map]
    cases hs : σ[i]? with
    | none => rfl
    | some q =>
      cases q with
      | app r => exact absurd hs (ha i r)
      | _ => rfl
  have noapp : ∀ (σ : zad) (a : Nat) (v : PV), (∀ (i r : Nat), σ[i]? ≠ some (Mine.Slot.app r)) → ∀ (i r : Nat), (zaa σ a (.val v))[i]? ≠ some (Mine.Slot.app r) := by
    intro σ a v ha i r; by_cases hj : i = a
    · subst hj; rcases zdv σ i (.val v) with q | q <;> rw [q] <;> intro q' <;> cases q'
    · rw [clear σ a ha _ i hj]; exact ha i r
  have hin : ∀ i : Nat, t2.has i → i ∈ t2.slots := by
    intro i hi
    cases t2 with
    | one a => exact List.mem_singleton.mpr hi
    | two a b => rcases hi with rfl | rfl <;> simp [Tgt.slots]
  have hne : ∀ i : Nat, t2.has i → ∀ a ∈ t.slots, i ≠ a := by
    intro i hi a hat e; have := List.all_eq_true.mp ap a hat; have h2 := hin i hi; rw [e] at h2; simp [List.contains_iff_mem, h2] at this
  cases t with
  | one a =>
    cases h
    exact ⟨fun i hi => clear σ a ha _ i (hne i hi a (List.mem_singleton.mpr rfl)), noapp σ a x ha⟩
  | two a b =>
    obtain ⟨v1, v2, rfl, rfl⟩ := put_two h
    refine ⟨fun i hi => ?_, noapp _ b v2 (noapp σ a v1 ha)⟩
    rw [clear _ b (noapp σ a v1 ha) _ i (hne i hi b (by simp [Tgt.slots])), clear σ a ha _ i (hne i hi a (by simp [Tgt.slots]))]
theorem zg2 {elt t1 it1 t2 it2 : Expr} {sc : Scope} {pos : Pos} {k : IK} {a b a2 : PE} {tg tg2 : Tgt} {pe : PE} (hA : A.handled = none) (hit : SIt prog w A hb Γ c it1 k a b) (hset : ∀ env x, foldedSetIterable it1 env x = pure x) (sok : ScOk c sc)
    (ht : zca (c.inner sc) t1 = some tg) (hfit : zb2 k tg = true) (hok : tgOk sc t1 = true) (ht2 : zca (c.inner sc) t2 = some tg2) (hfit2 : zb2 .plain tg2 = true) (hok2 : tgOk sc t2 = true) (hap : apartT tg tg2 = true)
    (h3 : SE prog w A hb Γ (c.inner sc) it2 a2) (hset2 : ∀ env x, foldedSetIterable it2 env x = pure x) (h4 : SE prog w A hb Γ (c.inner sc) elt pe)
    {env : Env} {O : Addr → Prop} {ow : Nat → Option Addr} {σ : zad} (fr : FR hb c env O ow σ s.heap) (xc : XC hb O s) (tk : 1 ≤ s.toks)
    {x y : PV} {items total : List PV} (hx : evE Γ a .val σ = some x) (hy : evE Γ b .val σ = some y) (hi : zau k x y = some items)
    (hgo : zc0 tg (zav σ (c.cap sc)) (fun σ1 => match evE Γ a2 .val σ1 with
            | some z => (match zau .plain z .nul with
              | some items2 => zbc tg2 σ1 (fun _ => some true) (evE Γ pe .val) items2
              | none => none)
            | none => none) items = some total)
    {use : Option (Value → Sem Unit)} {Q : Value → Shared → Prop} {E : Value → Shared → Prop}
    (hP : ∀ C s' rv m, Kp hb s s' → s'.heap.Ns C m → s.heap.get? C = none → VR s'.heap O (.list total) rv → 1 ≤ s'.toks → compPost (model prog w) A E use Q rv C (.ok .next) s') :
    wpAny (model prog w) A (comprehension (.ListComp elt [⟨t1, it1, [], 0⟩, ⟨t2, it2, [], 0⟩] sc pos) sc env it1.pos (newList []) false (eval it1 env) use) Q E s := by
  obtain ⟨hgen, hlen⟩ := zg1 hgo; obtain ⟨ts1, ts2⟩ := tg_slots ht hok sok σ; obtain ⟨us1, us2⟩ := tg_slots ht2 hok2 sok σ; refine comp_core hit hset sok fr xc tk hx hy hi (zfh ht hfit) (fun _ => hlen) (fun I wr St D C cl s₄ O₂ R S own hR => ?_) hP
  refine zd9 rfl hA (turn_outer ..) S.W S.hD S.hO S.hOD S.hwr (.refl ..) xc.gs S.hDs S.hDt (fun n hn => own n (ts2 n hn)) ht (fun x σ1 h => put_less h ts1 zgg) (fun x' σ1 vs s' dn hp hg hz L Q E hQ => ?_) hgen (by simpa using hlen) S.st S.L fun s' k1 k2 k3 k4 k5 => hR s' k1 k2 k3 (by simpa using k4) k5
  have hg : (match evE Γ a2 .val σ1 with
            | some z => (match zau .plain z .nul with
              | some items2 => zbc tg2 σ1 (fun _ => some true) (evE Γ pe .val) items2
              | none => none)
            | none => none) = some vs := hg
  split at hg
  · rename_i z e1
    split at hg
    · rename_i items2 e2; obtain ⟨hgen2, hlen2⟩ := zeb hg; obtain ⟨po1, po2⟩ := put_other hp hap zgg; have fit2 := zfh ht2 hfit2; unfold body2; have xc' := L.xc xc; have main := zdd h3 hA _ _ _ _ _ L.fr xc' L.tk z .nul items2 t2 e1 rfl e2 fit2; have tail : ∀ I2 wr2 St2 s₅, Kp hb s' s₅ → 1 ≤ s₅.toks → ItW prog w A t2 I2 wr2 items2 St2 → St2 0 s₅.heap (fun b => O₂ b ∨ b ∈ wr2) → (∀ b ∈ wr2, s'.heap.get? b = none) → items2.length ≤ small →
          ∀ RR : Result → Shared → Prop, (∀ s6, LpS hb s s D (c.inner sc) (cEnv sc cl C env) O₂ σ1 (dn ++ vs) s6 → TR D s'.heap s6.heap → RR (.ok .next) s6) →
          codeAny (model prog w) A (.compLoop (.ListComp elt [⟨t1, it1, [], 0⟩, ⟨t2, it2, [], 0⟩] sc pos) 1 (.ref I2) (.ref D) (cEnv sc cl C env)) RR s₅ := by
        intro I2 wr2 St2 s₅ k5 t5 W2 st2 hwr2 hl2 RR hRR; have L5 := L.run xc.gs S.hDt k5 t5; have thin : ∀ b o, s'.heap.get? b = some o → ¬ O₂ b → ¬ (O₂ b ∨ b ∈ wr2) := fun b o e hO q => by
          rcases q with q | q
          · exact hO q
          · rw [hwr2 b q] at e; cases e
        have fr5 : FR hb (c.inner sc) (cEnv sc cl C env) (fun b => O₂ b ∨ b ∈ wr2) (fun _ => none) σ1 s₅.heap := (L.fr.grow thin).kp k5
        obtain ⟨acc, hpl, hr⟩ := L.acc; have hr' : VRs s₅.heap (fun b => O₂ b ∨ b ∈ wr2) dn acc := (hr.mono (fun _ _ e _ => e) thin).soft k5.soft
        have ok5 : OkO (fun b => O₂ b ∨ b ∈ wr2) s₅.heap := fun q hq => by
          rcases hq with hq | hq
          · exact L5.ok q hq
          · obtain ⟨o, e, _⟩ := W2.its _ _ _ st2 q hq; refine ⟨fun q' => ?_, o, e⟩
            obtain ⟨o', e'⟩ := xc'.gs.tab.get; rw [← q', hwr2 q hq] at e'; cases e'
        have hDw2 : D ∉ wr2 := fun q => by
          obtain ⟨n, e⟩ := hpl; rw [hwr2 D q] at e; cases e
        refine zd9 (si := s') (O := fun b => O₂ b ∨ b ∈ wr2) (dn := dn) (total := vs) (σ := σ1) rfl hA (turn_inner ..) W2 hDw2 (fun b hb => .inr hb) (.inl S.hOD) hwr2 L.kp xc.gs S.hDs S.hDt (fun n hn => own n (us2 n hn)) ht2
          (fun x'' σ2 h => put_less h (fun i hi => by rw [po1 i hi]; exact us1 i hi) po2) (fun x'' σ2 vs2 s7 dn2 hp2 hg2 hz2 L7 Q E hQ => ?_) hgen2 hz st2 ⟨L5.kp, .kp k5 xc'.gs D, fr5, ⟨acc, zb4 k5.soft S.hDt hpl, hr'⟩, ok5, t5⟩ fun s6 k1 k2 k3 k4 k5' => ?_
        · unfold body1; unfold oneG at hg2
          split at hg2
          · cases hg2
          · split at hg2
            · cases hg2
            · rename_i v e3
              cases hg2
              refine wpAny_bind (h4.val L7.fr (L7.xc xc) L7.tk e3 _ _ fun rv s8 k8 t8 r8 => ?_)
              have L8 := L7.run xc.gs S.hDt k8 t8; refine wpAny_bind (append_ok xc.gs S.hDs (.inl S.hOD) L8 hz2 r8 fun s9 L9 tr9 => wpAny_pure (hQ s9 L9 ?_))
              exact (TR.kp k8 (L7.kp.gs xc.gs) D).trans tr9
          · rename_i q; cases q
        · obtain ⟨acc', p1, p2⟩ := k4; refine hRR s6 ⟨k1, L.tr.trans k2, k3.mono fun b q => .inl q, ⟨acc', p1, p2.mono (fun _ _ e _ => e) fun b _ _ q q' => q (.inl q')⟩, fun q hq => ?_, k5'⟩ k2
          obtain ⟨h1, o, h2⟩ := L.ok q hq; exact ⟨h1, k2.alive q o h2⟩
      refine wpAny_bind (wpAny_mono (main (fun iv s₅ => wpAny (model prog w) A (runOwn (.compStart (.ListComp elt [⟨t1, it1, [], 0⟩, ⟨t2, it2, [], 0⟩] sc pos) 1 iv (.ref D) (cEnv sc cl C env)) (cEnv sc cl C env) >>= fun _ => pure ()) Q E s₅) E fun I2 wr2 St2 s₅ k5 t5 W2 st2 hwr2 hl2 => ?_)
        (fun xv s5 h => wpAny_bind (wpAny_standAt (wpAny_bind (wpAny_of_eq (hset2 _ _) (wpAny_bind (wpAny_holding h)))))) fun _ _ e => e)
      refine wpAny_bind (wpAny_runOwn (compStart_one ?_ ?_))
      · exact tail I2 wr2 St2 s₅ k5 t5 W2 st2 hwr2 hl2 _ fun s6 L6 tr6 => wpAny_pure (hQ s6 L6 tr6)
      · exact W2.self 0 _ _ _ _ st2 (tail I2 wr2 St2 s₅ k5 t5 W2 st2 hwr2 hl2 _ fun s6 L6 tr6 => wpAny_pure (hQ s6 L6 tr6))
    · cases hg
  · cases hg
theorem se_comp2 {elt t1 it1 t2 it2 : Expr} {sc : Scope} {pos : Pos} {k : IK} {a b a2 : PE} {tg tg2 : Tgt} {pe : PE} (hA : A.handled = none) (hit : SIt prog w A hb Γ c it1 k a b) (hset : ∀ env x, foldedSetIterable it1 env x = pure x) (sok : ScOk c sc)
    (ht : zca (c.inner sc) t1 = some tg) (hfit : zb2 k tg = true) (hok : tgOk sc t1 = true) (ht2 : zca (c.inner sc) t2 = some tg2) (hfit2 : zb2 .plain tg2 = true) (hok2 : tgOk sc t2 = true) (hap : apartT tg tg2 = true)
    (h3 : SE prog w A hb Γ (c.inner sc) it2 a2) (hset2 : ∀ env x, foldedSetIterable it2 env x = pure x) (h4 : SE prog w A hb Γ (c.inner sc) elt pe) :
    SE prog w A hb Γ c (.ListComp elt [⟨t1, it1, [], 0⟩, ⟨t2, it2, [], 0⟩] sc pos) (.comp2 pe tg k a b tg2 a2 (c.cap sc)) := by
  refine SE.gen (fun _ => rfl) (fun σ => match evE Γ a .val σ with
    | some x => (match evE Γ b .val σ with
      | some y => (match zau k x y with
        | some items => (zc0 tg (zav σ (c.cap sc)) (fun σ1 => match evE Γ a2 .val σ1 with
            | some z => (match zau .plain z .nul with
              | some items2 => zbc tg2 σ1 (fun _ => some true) (evE Γ pe .val) items2
              | none => none)
            | none => none) items).map .list
        | none => none)
      | none => none)
    | none => none) (fun m σ => rfl) fun env O ow σ s fr xc tk v hv => ?_
  intro Q E hQ
  split at hv
  · rename_i x hx
    split at hv
    · rename_i y hy
      split at hv
      · rename_i items hi; obtain ⟨total, hgo, rfl⟩ := Option.map_eq_some_iff.mp hv; rw [eval_ListComp]; exact zg2 hA hit hset sok ht hfit hok ht2 hfit2 hok2 hap h3 hset2 h4 fr xc tk hx hy hi hgo (zhj xc hQ)
      · cases hv
    · cases hv
  · cases hv
end
end Mine
namespace Mine
open PySem PyProof.Rows PySem.Spec
section
variable {prog : Program} {w : World} {A : Around} {hb : HB} {Γ : Gam} {c : CT}
theorem zhy (x : List Nat) (xs : List (List Nat)) : zap [] (x :: xs) = x ++ zap [] xs := by
  cases xs with
  | nil => simp [zap]
  | cons y ys => simp [zap]
theorem str_app (a b : List Nat) : (⟨a.toArray⟩ : Str) ++ (⟨b.toArray⟩ : Str) = ⟨(a ++ b).toArray⟩ := by
  show (⟨a.toArray ++ b.toArray⟩ : Str) = _; simp
def SPs (prog : Program) (w : World) (A : Around) (hb : HB) (Γ : Gam) (c : CT) (es : List Expr) (pes : List PE) : Prop :=
  ∀ (env : Env) (O : Addr → Prop) (ow : Nat → Option Addr) (σ : zad) (s : Shared), FR hb c env O ow σ s.heap → XC hb O s → 1 ≤ s.toks →
    ∀ vs l, zag Γ pes σ = some vs → zb6? vs = some l → ∀ acc, okS acc → (acc ++ zap [] l).length ≤ small → ∀ (Q : Str → Shared → Prop) (E : Value → Shared → Prop),
      (∀ s', Kp hb s s' → 1 ≤ s'.toks → okS (acc ++ zap [] l) → Q ⟨(acc ++ zap [] l).toArray⟩ s') → Joins (model prog w) A E (evalEach es env) ⟨acc.toArray⟩ Q s
theorem sps_nil : SPs prog w A hb Γ c [] [] := by
  intro env O ow σ s fr xc ht vs l hv hl acc ha hz Q E hQ
  cases hv; cases hl
  simp only [zap, List.append_nil] at hQ hz; exact hQ _ (.refl ..) ht ha
theorem sps_cons {e : Expr} {es : List Expr} {pe : PE} {pes : List PE}
    (h1 : ∀ (env : Env) (O : Addr → Prop) (ow : Nat → Option Addr) (σ : zad) (s : Shared), FR hb c env O ow σ s.heap → XC hb O s → 1 ≤ s.toks → ∀ l, evE Γ pe .val σ = some (.str l) → OkM prog w A hb O .val (eval e env) (.str l) s)
    (h2 : SPs prog w A hb Γ c es pes) : SPs prog w A hb Γ c (e :: es) (pe :: pes) := by
  intro env O ow σ s fr xc ht vs l hv hl acc ha hz Q E hQ; rw [zag] at hv
  split at hv
  · rename_i v hx
    split at hv
    · rename_i r hr
      cases hv
      unfold zb6? at hl
      split at hl
      · rename_i q; cases q
      · rename_i x r' q
        cases q
        obtain ⟨l', hl', rfl⟩ := Option.map_eq_some_iff.mp hl; rw [zhy] at hz hQ; refine h1 env O ow σ s fr xc ht x hx _ _ fun rv s₁ k₁ t₁ r₁ => ?_
        obtain ⟨z, t, rfl⟩ := r₁; have hz1 : (acc ++ x).length ≤ small := by rw [← List.append_assoc] at hz; rw [List.length_append] at hz; omega
        refine ⟨_, _, rfl, ?_, ?_⟩
        · rw [str_app, lenS]; exact Nat.le_trans hz1 zbb
        · rw [str_app]; refine h2 env O ow σ s₁ (fr.kp k₁) (xc.kp k₁) t₁ r l' hr hl' (acc ++ x) (zf3 ha z hz1) (by rw [List.append_assoc]; exact hz) _ _ fun s' k t q => ?_
          rw [List.append_assoc] at q ⊢; exact hQ _ (k₁.trans k) t q
      · cases hl
    · cases hv
  · cases hv
theorem sps_fmt {e : Expr} {es : List Expr} {p : Pos} {pe : PE} {pes : List PE} (h1 : SE prog w A hb Γ c e pe) (h2 : SPs prog w A hb Γ c es pes) : SPs prog w A hb Γ c (.FormattedValue e (-1) none p :: es) (pe :: pes) := by
  refine sps_cons (fun env O ow σ s fr xc ht l hv Q E hQ => ?_) h2
  refine wpAny_with_toks ht (wpAny_FormattedValue_plain (h1.val fr xc ht hv _ _ fun rv s₁ k₁ t₁ r₁ => ?_))
  obtain ⟨z, t, rfl⟩ := r₁; refine formatField_str (fun t' tk => fun ht => hQ _ _ (k₁.trans (.tok (tk := tk))) ht ⟨z, t', rfl⟩) ?_
  rw [lenS]; exact Nat.le_trans z.1 zbb
theorem sps_const {k : Const} {es : List Expr} {p : Pos} {q} {v : PV} {pes : List PE} (h : zfg k = some v) (h2 : SPs prog w A hb Γ c es pes) : SPs prog w A hb Γ c (.Constant k q p :: es) (.lit v :: pes) :=
  sps_cons (fun env O ow σ s fr xc ht l hv => (zeu (Γ := Γ) (c := c) h).val fr xc ht hv) h2
theorem se_fstr {v1 v2 : Expr} {es : List Expr} {p : Pos} {pes : List PE} (h : SPs prog w A hb Γ c (v1 :: v2 :: es) pes) : SE prog w A hb Γ c (.JoinedStr (v1 :: v2 :: es) p) (.fstr pes) := by
  refine SE.gen (fun _ => rfl) (fun σ => match zag Γ pes σ with
    | some vs => (match zb6? vs with
      | some l => if (zap [] l).length ≤ small then some (.str (zap [] l)) else none
      | none => none)
    | none => none) (fun m σ => rfl) fun env O ow σ s fr xc ht v hv => ?_
  intro Q E hQ
  split at hv
  · rename_i vs hvs
    split at hv
    · rename_i l hl
      split at hv
      · rename_i hz
        cases hv
        refine wpAny_JoinedStr ?_; refine h env O ow σ s fr xc ht vs l hvs hl [] ⟨Nat.zero_le _, fun _ h => nomatch h⟩ (by simpa using hz) _ _ fun s' k t q => ⟨?_, ?_⟩
        · rw [lenS]; exact Nat.le_trans q.1 zbb
        · exact hQ _ _ (k.trans (.tok (tk := s'.toks + 1))) ⟨by simpa using q, s'.toks, by simp⟩
      · cases hv
    · cases hv
  · cases hv
end
section
variable {prog : Program} {w : World} {A : Around} {hb : HB} {Γ : Gam}
theorem cEs_one {c : CT} {es : List Expr} {p : PE} (h : cEs c es = some [p]) : ∃ e, es = [e] ∧ cE c e = some p := by
  cases es with
  | nil => cases h
  | cons e es =>
    rw [cEs] at h
    split at h
    · rename_i a b h1 h2
      cases h
      cases es with
      | nil => exact ⟨e, rfl, h1⟩
      | cons e' es =>
        rw [cEs] at h2
        split at h2 <;> cases h2
    · cases h
theorem zck {c : CT} {e : Expr} (h : (∃ p, cE c e = some p) ∨ ∃ r, cIt c e = some r) : ∀ env x, foldedSetIterable e env x = pure x := by
  intro env x
  cases e <;> first | rfl | (rcases h with ⟨_, h⟩ | ⟨_, h⟩ <;> simp [cE, cIt] at h)
theorem zcq {a : Option (IK × PE × PE)} {b : Option PE} {k : IK} {x y : PE} (h : zej a b = some (k, x, y)) : a = some (k, x, y) ∨ (b = some x ∧ k = .plain ∧ y = .lit .nul) := by
  unfold zej at h
  split at h
  · cases h; exact .inl rfl
  · obtain ⟨p, hp, q⟩ := Option.map_eq_some_iff.mp h
    cases q
    exact .inr ⟨hp, rfl, rfl⟩
mutual
theorem zaq (cx : Cx prog w A hb Γ) (c : CT) (e : Expr) (pe : PE) (h : cE c e = some pe) : SE prog w A hb Γ c e pe := by
  rw [cE.eq_def] at h
  split at h
  · obtain ⟨v, hv, rfl⟩ := Option.map_eq_some_iff.mp h; exact zeu hv
  · split at h
    · rename_i hn
      split at h
      · rename_i i hi; cases h; exact zdc hn hi
      · obtain ⟨v, hv, rfl⟩ := Option.map_eq_some_iff.mp h; exact se_gl hn hv
    · cases h
  · split at h
    · rename_i l op r pos a b ha hb'
      cases h; exact se_bin (zaq cx c _ _ ha) (zaq cx c _ _ hb')
    · cases h
  · cases h; exact se_neg
  · obtain ⟨a, ha, rfl⟩ := Option.map_eq_some_iff.mp h; exact se_not (zaq cx c _ _ ha)
  · exact se_bop (soundB cx c _ _ _ h)
  · split at h
    · cases h
    · rename_i hm
      split at h
      · rename_i a b ha hb'
        cases h; exact se_cmp (by simpa using hm) (zaq cx c _ _ ha) (zaq cx c _ _ hb') cx.units
      · cases h
  · split at h
    · rename_i x y z hx hy hz
      cases h; exact se_ife (zaq cx c _ _ hx) (zaq cx c _ _ hy) (zaq cx c _ _ hz)
    · cases h
  · split at h
    · rename_i x y z hx hy hz
      cases h; exact se_slc (zaq cx c _ _ hx) (soundO cx c _ _ hy) (soundO cx c _ _ hz)
    · cases h
  · rename_i hns
    split at h
    · rename_i x y hx hy
      cases h; exact se_idx (fun lo hi p q => hns _ _ _ q) (zaq cx c _ _ hx) (zaq cx c _ _ hy)
    · cases h
  · split at h
    · rename_i hn
      split at h
      · rename_i v as hv has
        split at h
        · cases h
          obtain ⟨e', rfl, he'⟩ := cEs_one has; exact se_len hn hv he' (zaq cx c _ _ he') cx.handled
        · cases h
          exact se_call hn hv has (zfo cx c _ _ has) cx
      · cases h
    · cases h
  · split at h
    · rename_i hg; simp only [Bool.and_eq_true, decide_eq_true_eq] at hg; obtain ⟨⟨⟨⟨⟨h1, h2⟩, h3⟩, h4⟩, h5⟩, h6⟩ := hg
      split at h
      · rename_i x hx
        cases h
        rw [beq_iff_eq.mp h1]; exact se_repl h5 h6 h2 h3 (zaq cx c _ _ hx)
      · cases h
    · cases h
  · split at h
    · rename_i hg; simp only [Bool.and_eq_true, decide_eq_true_eq] at hg
      split at h
      · rename_i x as hx has
        cases h
        exact se_meth hg.1.1 hg.1.2 hg.2 (zaq cx c _ _ hx) has (zfo cx c _ _ has) cx
      · cases h
    · cases h
  · split at h
    · rename_i hl; obtain ⟨v, hv, rfl⟩ := Option.map_eq_some_iff.mp h; exact se_lst hl hv (zfo cx c _ _ hv)
    · cases h
  · split at h
    · rename_i hl; obtain ⟨v, hv, rfl⟩ := Option.map_eq_some_iff.mp h; exact se_tpl hl hv (zfo cx c _ _ hv)
    · cases h
  · rename_i elt tt it ifs sc pos
    split at h
    · rename_i k a b tg pifs pe h1 h2 h3 h4
      split at h
      · rename_i hg
        cases h
        simp only [Bool.and_eq_true] at hg; rcases zcq h1 with h1 | ⟨h1', rfl, rfl⟩
        · exact se_comp cx.handled (zfn cx c it k a b h1) (zck (.inr ⟨_, h1⟩)) (zek hg.1.2) h2 hg.1.1 hg.2 (soundT cx _ ifs pifs h3) (zaq cx _ elt pe h4)
        · exact se_comp cx.handled (zdd (zaq cx c it a h1') cx.handled) (zck (.inl ⟨_, h1'⟩)) (zek hg.1.2) h2 hg.1.1 hg.2 (soundT cx _ ifs pifs h3) (zaq cx _ elt pe h4)
      · cases h
    · cases h
  · rename_i elt t1 it1 t2 it2 sc pos
    split at h
    · rename_i k a b tg tg2 a2 pe h1 h2 h3 h4 h5
      split at h
      · rename_i hg
        cases h
        simp only [Bool.and_eq_true] at hg; obtain ⟨⟨⟨⟨⟨g1, g2⟩, g3⟩, g4⟩, g5⟩, g6⟩ := hg; rcases zcq h1 with h1 | ⟨h1', rfl, rfl⟩
        · exact se_comp2 cx.handled (zfn cx c it1 k a b h1) (zck (.inr ⟨_, h1⟩)) (zek g4) h2 g1 g5 h3 g2 g6 g3 (zaq cx _ it2 a2 h4) (zck (.inl ⟨_, h4⟩)) (zaq cx _ elt pe h5)
        · exact se_comp2 cx.handled (zdd (zaq cx c it1 a h1') cx.handled) (zck (.inl ⟨_, h1'⟩)) (zek g4) h2 g1 g5 h3 g2 g6 g3 (zaq cx _ it2 a2 h4) (zck (.inl ⟨_, h4⟩)) (zaq cx _ elt pe h5)
      · cases h
    · cases h
  · obtain ⟨v, hv, rfl⟩ := Option.map_eq_some_iff.mp h; exact se_fstr (soundP cx c _ _ hv)
  · cases h
termination_by sizeOf e
theorem soundB (cx : Cx prog w A hb Γ) (c : CT) (op : BoolOp) (es : List Expr) (pe : PE) (h : cBop c (op == .And) es = some pe) : SBs prog w A hb Γ c op es pe := by
  match es with
  | [] => cases h
  | [x] => exact sbs_one (zaq cx c _ _ h)
  | x :: y :: ys =>
    rw [cBop] at h
    · split at h
      · rename_i a b ha hb'
        cases h; exact sbs_cons (zaq cx c _ _ ha) (soundB cx c op _ _ hb')
      · cases h
    · intro q; cases q
termination_by sizeOf es
theorem soundO (cx : Cx prog w A hb Γ) (c : CT) (e : Option Expr) (pe : PE) (h : cEo c e = some pe) : SEo prog w A hb Γ c e pe := by
  match e with
  | none => cases h; exact seo_none
  | some e => exact seo_some (zaq cx c _ _ h)
termination_by sizeOf e
theorem zfo (cx : Cx prog w A hb Γ) (c : CT) (es : List Expr) (pes : List PE) (h : cEs c es = some pes) : SEs prog w A hb Γ c es pes := by
  match es with
  | [] => cases h; exact ses_nil
  | e :: es =>
    rw [cEs] at h
    split at h
    · rename_i a b ha hb'
      cases h; exact ses_cons ha (zaq cx c _ _ ha) (zfo cx c _ _ hb')
    · cases h
termination_by sizeOf es
theorem soundT (cx : Cx prog w A hb Γ) (c : CT) (es : List Expr) (pes : List PE) (h : cEs c es = some pes) : STs prog w A hb Γ c es pes := by
  match es with
  | [] => cases h; exact sts_nil
  | e :: es =>
    rw [cEs] at h
    split at h
    · rename_i a b ha hb'
      cases h; exact sts_cons (zaq cx c _ _ ha) (soundT cx c _ _ hb')
    · cases h
termination_by sizeOf es
theorem zfn (cx : Cx prog w A hb Γ) (c : CT) (it : Expr) (k : IK) (a b : PE) (h : cIt c it = some (k, a, b)) : SIt prog w A hb Γ c it k a b := by
  rw [cIt.eq_def] at h
  split at h
  · split at h
    · rename_i hn
      split at h
      · rename_i x hg hx
        cases h
        exact sit_range hn hg hx (zaq cx c _ _ hx) cx.handled
      · rename_i x hg hx
        cases h
        exact sit_enum hn hg hx (zaq cx c _ _ hx) cx.handled
      · cases h
    · cases h
  · split at h
    · rename_i hn
      split at h
      · rename_i x y hg hx hy
        cases h
        exact sit_zip hn hg hx hy (zaq cx c _ _ hx) (zaq cx c _ _ hy) cx.handled
      · cases h
    · cases h
  · cases h
termination_by sizeOf it
theorem soundP (cx : Cx prog w A hb Γ) (c : CT) (es : List Expr) (pes : List PE) (h : cParts c es = some pes) : SPs prog w A hb Γ c es pes := by
  rw [cParts.eq_def] at h
  split at h
  · cases h; exact sps_nil
  · split at h
    · rename_i a b ha hb'
      cases h; exact sps_fmt (zaq cx c _ _ ha) (soundP cx c _ _ hb')
    · cases h
  · split at h
    · rename_i a b ha hb'
      cases h; exact sps_const ha (soundP cx c _ _ hb')
    · cases h
  · cases h
termination_by sizeOf es
end
end
end Mine
namespace Mine
open PySem PyProof.Rows PySem.Spec
def zd2 : Array Nat := #[14, 14, 4, 1, 1, 9, 0, 64, 0, 1342177280, 0, 0, 0, 0, 0, 17, 0, 13, 11, 9, 0, 64, 0, 1342177280, 0, 0, 0, 0, 0, 17, 1, 1]
def ReOk (h : Heap) : Prop := ∃ o vs cd it, h.get? 43 = some o ∧ o.cls = .type "re.Pattern" ∧ o.dict = none ∧ o.data = .fields vs ∧ vs.getD 5 .none = .ref cd ∧ cd ≠ zao ∧ IsTup h cd it ∧ (it.map Builtin.Re.reRawOf).map (·.toNat) = zd2 ∧
  Builtin.Re.reRawNat (vs.getD 6 .none) = 0 ∧ Builtin.Re.reRawNat (vs.getD 2 .none) = 1
def zbd (O₀ : Addr → Prop) (ow : Nat → Option Addr) (a : Addr) : Prop := O₀ a ∨ ∃ i, ow i = some a
structure KS (h : Heap) (ow : Nat → Option Addr) (h' : Heap) (ow' : Nat → Option Addr) : Prop where
  alive : ∀ b o, h.get? b = some o → ∃ o', h'.get? b = some o'
  keep : ∀ b o, b ≠ zao → h.get? b = some o → Hardy o → (∀ i, ow i ≠ some b) → h'.get? b = some o
  thin : ∀ b o, h.get? b = some o → (∀ i, ow i ≠ some b) → ∀ i, ow' i ≠ some b
theorem KS.refl (h : Heap) (ow : Nat → Option Addr) : KS h ow h ow := ⟨fun _ o e => ⟨o, e⟩, fun _ _ _ e _ _ => e, fun _ _ _ q => q⟩
theorem KS.trans {h h' h'' : Heap} {ow ow' ow'' : Nat → Option Addr} (x : KS h ow h' ow') (y : KS h' ow' h'' ow'') : KS h ow h'' ow'' :=
  ⟨fun b o e => let ⟨o', e'⟩ := x.alive b o e; y.alive b o' e', fun b o hb e hd hO => y.keep b o hb (x.keep b o hb e hd hO) hd (x.thin b o e hO),
   fun b o e hO => let ⟨o', e'⟩ := x.alive b o e; y.thin b o' e' (x.thin b o e hO)⟩
theorem KS.frm {h h' : Heap} {ow ow' : Nat → Option Addr} (x : KS h ow h' ow') (O₀ : Addr → Prop) : Frm h (zbd O₀ ow) h' (zbd O₀ ow') :=
  ⟨x.alive, fun b o hb e hd hO => x.keep b o hb e hd fun i q => hO (.inr ⟨i, q⟩), fun b o e hO q => by
    rcases q with q | ⟨i, q⟩
    · exact hO (.inl q)
    · exact x.thin b o e (fun i q => hO (.inr ⟨i, q⟩)) i q⟩
theorem KS.kp {hb : HB} {s s' : Shared} (k : Kp hb s s') (g : GS hb s) (ow : Nat → Option Addr) : KS s.heap ow s'.heap ow :=
  let f := Frm.kp k g (fun _ => False)
  ⟨f.alive, fun b o hb e hd _ => f.keep b o hb e hd id, fun _ _ _ q => q⟩
theorem KS.keepH {h h' : Heap} (ow : Nat → Option Addr) (k : KeepH h h') (al : ∀ b o, h.get? b = some o → ∃ o', h'.get? b = some o') : KS h ow h' ow :=
  ⟨al, fun b o hb e hd _ => k b o hb e hd, fun _ _ _ q => q⟩
structure SS (hb : HB) (s₀ : Shared) (c : CT) (env : Env) (O₀ : Addr → Prop) (ow : Nat → Option Addr) (σ : zad) (s : Shared) : Prop where
  kp : Kp hb s₀ s
  fr : FR hb c env (zbd O₀ ow) ow σ s.heap
  ok : OkO (zbd O₀ ow) s.heap
  inj : ∀ i j a, ow i = some a → ow j = some a → i = j
  fresh : ∀ i a, ow i = some a → s₀.heap.get? a = none
  apart : ∀ i a, ow i = some a → ¬ O₀ a
  tk : 1 ≤ s.toks
  own : hb.own = env.locals
structure zdq (h : Heap) : Prop where
  lim : h.NoLimit
  bm : ∃ mg bm ob, BMod h mainGlobals mg bm ob ∧ bm ≠ zao
  re : ReOk h
structure Fx (prog : Program) (w : World) (A : Around) (hb : HB) (Γ : Gam) (c : CT) (env : Env) (s₀ : Shared) : Prop where
  cx : Cx prog w A hb Γ
  g₀ : GS hb s₀
  own : ∀ n i, c.slot n = some i → OwnN s₀ env n
  base : zdq hb.h
  code : c.inT = true → env.code = .ref zc1
  room : A.depth < recursionLimit
section
variable {prog : Program} {w : World} {A : Around} {hb : HB} {Γ : Gam} {c : CT} {env : Env} {s₀ s : Shared} {O₀ : Addr → Prop} {ow : Nat → Option Addr} {σ : zad}
theorem SS.xc (x : SS hb s₀ c env O₀ ow σ s) (g₀ : GS hb s₀) : XC hb (zbd O₀ ow) s := ⟨x.kp.gs g₀, x.ok, by rw [x.own]; obtain ⟨_, n, _⟩ := x.fr.ns; exact .ns x.fr.fk.loc n⟩
theorem SS.run {s' : Shared} (x : SS hb s₀ c env O₀ ow σ s) (g₀ : GS hb s₀) (k : Kp hb s s') (tk : 1 ≤ s'.toks) : SS hb s₀ c env O₀ ow σ s' :=
  ⟨x.kp.trans k, x.fr.kp k, ((x.xc g₀).kp k).ok, x.inj, x.fresh, x.apart, tk, x.own⟩
def Post (hb : HB) (s₀ : Shared) (c : CT) (env : Env) (O₀ : Addr → Prop) (ow : Nat → Option Addr) (s : Shared) (ch : Nat → Bool) (fl : Fl) (σ' : zad) (f : Flow) (s' : Shared) : Prop := match fl with
  | .ret v => ∃ rv, f = .ret rv ∧ Kp hb s₀ s' ∧ 1 ≤ s'.toks ∧ VR s'.heap O₀ v rv
  | .next => f = .next ∧ ∃ ow', SS hb s₀ c env O₀ ow' σ' s' ∧ KS s.heap ow s'.heap ow' ∧ ∀ j, ch j = false → ow' j = ow j
  | .brk => f = .brk ∧ ∃ ow', SS hb s₀ c env O₀ ow' σ' s' ∧ KS s.heap ow s'.heap ow' ∧ ∀ j, ch j = false → ow' j = ow j
  | .cont => f = .cont ∧ ∃ ow', SS hb s₀ c env O₀ ow' σ' s' ∧ KS s.heap ow s'.heap ow' ∧ ∀ j, ch j = false → ow' j = ow j
theorem Post.from {s s1 : Shared} {ow1 : Nat → Option Addr} {ch ch1 : Nat → Bool} {fl : Fl} {σ' : zad} {f : Flow} {s' : Shared} (k : KS s.heap ow s1.heap ow1) (hw : ∀ j, ch j = false → ow1 j = ow j) (hc : ∀ j, ch j = false → ch1 j = false)
    (x : Post hb s₀ c env O₀ ow1 s1 ch1 fl σ' f s') : Post hb s₀ c env O₀ ow s ch fl σ' f s' := by
  cases fl with
  | ret v => exact x
  | _ => obtain ⟨h1, ow', h2, h3, h4⟩ := x; exact ⟨h1, ow', h2, k.trans h3, fun j q => (h4 j (hc j q)).trans (hw j q)⟩
def SSt (prog : Program) (w : World) (A : Around) (hb : HB) (Γ : Gam) (c : CT) (env : Env) (s₀ : Shared) (st : Stmt) (ps : PS) : Prop :=
  ∀ O₀ ow σ s, SS hb s₀ c env O₀ ow σ s → ∀ fl σ', evS Γ 0 ps σ = some (fl, σ') → ∀ (Q : Flow → Shared → Prop) (E : Value → Shared → Prop), (∀ f s', Post hb s₀ c env O₀ ow s (sets ps) fl σ' f s' → Q f s') → wpAny (model prog w) A (exec st env) Q E s
def SSs (prog : Program) (w : World) (A : Around) (hb : HB) (Γ : Gam) (c : CT) (env : Env) (s₀ : Shared) (st : List Stmt) (ps : List PS) : Prop :=
  ∀ O₀ ow σ s, SS hb s₀ c env O₀ ow σ s → ∀ fl σ', zac Γ 0 ps σ = some (fl, σ') → ∀ (Q : Flow → Shared → Prop) (E : Value → Shared → Prop), (∀ f s', Post hb s₀ c env O₀ ow s (zcd ps) fl σ' f s' → Q f s') → wpAny (model prog w) A (execs st env) Q E s
theorem zf7 {p : PS} {ps : List PS} {j : Nat} (h : zcd (p :: ps) j = false) : sets p j = false ∧ zcd ps j = false := by
  rw [zcd, Bool.or_eq_false_iff] at h; exact h
theorem sss_nil : SSs prog w A hb Γ c env s₀ [] [] := by
  intro O₀ ow σ s x fl σ' h Q E hQ
  cases h
  exact wpAny_execs_nil (hQ _ _ ⟨rfl, ow, x, .refl .., fun _ _ => rfl⟩)
theorem sss_cons {st : Stmt} {r : List Stmt} {p : PS} {ps : List PS} (h1 : SSt prog w A hb Γ c env s₀ st p) (h2 : SSs prog w A hb Γ c env s₀ r ps) : SSs prog w A hb Γ c env s₀ (st :: r) (p :: ps) := by
  intro O₀ ow σ s x fl σ' h Q E hQ; rw [zac] at h
  split at h
  · cases h
  · rename_i σ1 e1; refine wpAny_execs_cons (h1 O₀ ow σ s x _ _ e1 _ _ fun f s1 q => ?_)
    obtain ⟨rfl, ow1, x1, k1, w1⟩ := q; exact h2 O₀ ow1 σ1 s1 x1 fl σ' h Q E fun f s' q => hQ f s' (q.from k1 (fun j hj => w1 j (zf7 hj).1) fun j hj => (zf7 hj).2)
  · rename_i e1; refine wpAny_execs_cons (h1 O₀ ow σ s x _ _ h _ _ fun f s1 q => ?_)
    have q' : Post hb s₀ c env O₀ ow s (zcd (p :: ps)) fl σ' f s1 := q.from (.refl ..) (fun _ _ => rfl) fun j hj => (zf7 hj).1
    cases fl with
    | next => exact (e1 _ h).elim
    | brk => have := q.1; subst this; exact hQ _ _ q'
    | cont => have := q.1; subst this; exact hQ _ _ q'
    | ret v => obtain ⟨rv, e, _⟩ := id q; subst e; exact hQ _ _ q'
end
end Mine
namespace Mine
open PySem PyProof.Rows PySem.Spec
section
variable {hb : HB} {c : CT} {env : Env} {O O' : Addr → Prop} {ow ow' : Nat → Option Addr} {σ : zad} {h h' : Heap}
theorem FR.names (x : FR hb c env O ow σ h) {C : Addr} (hk : ∀ b o, b ≠ C → h.get? b = some o → h'.get? b = some o) (hC : ∀ o, h.get? C = some o → ∃ es ep, o.data = .dict es ep) (hL : C ≠ env.locals) : FR hb c env O ow σ h' := by
  have kh : KeepH h h' := fun b o hb e hd => hk b o (fun q => by
    subst q; obtain ⟨es, ep, q⟩ := hC o e; exact hd.1 _ _ q) e
  refine ⟨x.fk, ?_, fun n i h1 h2 => ?_⟩
  · obtain ⟨m, ⟨o, es, ep, ho, hd, r⟩, hr⟩ := x.ns; exact ⟨m, ⟨o, es, ep, hk _ _ (Ne.symm hL) ho, hd, r⟩, fun n i h1 h2 => (hr n i h1 h2).keepH kh⟩
  · obtain ⟨a, e, ha, ov, ⟨o, ho, hd⟩, r⟩ := x.cells n i h1 h2; exact ⟨a, e, ha, ov, ⟨o, hk _ _ (fun q => by subst q; obtain ⟨es, ep, q⟩ := hC o ho; rw [hd] at q; cases q) ho, hd⟩, r.keepH kh⟩
theorem FR.reown (fr : FR hb c env O ow σ h) {x : Nat} (hw : ∀ i, i ≠ x → ow' i = ow i) (hO : ∀ b o, h.get? b = some o → ¬ O b → ¬ O' b) : FR hb c env O' ow' (zaa σ x .unset) h := by
  have ks : ∀ {i ov}, SlotR h O ow i σ[i]? ov → SlotR h O' ow' i (zaa σ x .unset)[i]? ov := by
    intro i ov r; by_cases hi : i = x
    · subst hi; rcases zdv σ i .unset with e | e <;> rw [e] <;> trivial
    · unfold zaa; rw [List.getElem?_set_ne (Ne.symm hi), List.getElem?_map]
      cases hs : σ[i]? with
      | none => trivial
      | some sl =>
        rw [hs] at r
        cases sl with
        | unset => trivial
        | val v =>
          obtain ⟨rv, e, r⟩ := r
          exact ⟨rv, e, r.mono (fun _ _ e _ => e) hO⟩
        | own xs =>
          obtain ⟨z, a, vs, e, ho, ha, hl, r⟩ := r
          exact ⟨z, a, vs, e, by rw [hw i hi]; exact ho, ha, hl, r.mono (fun _ _ e _ => e) hO⟩
        | app q =>
          obtain ⟨b, e, hb, r⟩ := r
          by_cases hq : q = x
          · simp [hq, SlotR]
          · simp only [Option.map_some, if_neg hq]; exact ⟨b, e, hb, fun a ha => r a (by rw [← hw q hq]; exact ha)⟩
  refine ⟨fr.fk, ?_, fun n i h1 h2 => ?_⟩
  · obtain ⟨m, hn, hr⟩ := fr.ns; exact ⟨m, hn, fun n i h1 h2 => ks (hr n i h1 h2)⟩
  · obtain ⟨a, e, ha, ov, hc, r⟩ := fr.cells n i h1 h2; exact ⟨a, e, ha, ov, hc, ks r⟩
end
section
variable {prog : Program} {w : World} {A : Around} {hb : HB} {Γ : Gam} {c : CT} {env : Env} {s₀ s : Shared} {O₀ : Addr → Prop} {ow : Nat → Option Addr} {σ : zad}
theorem SS.freeze (x : SS hb s₀ c env O₀ ow σ s) {ow1 : Nat → Option Addr} {σ1 : zad} (h1 : ∀ i a, ow1 i = some a → ow i = some a)
    (h2 : ∀ i : Nat, σ1[i]? = σ[i]? ∨ (ow1 i = none ∧ ∃ xs, σ[i]? = some (.own xs) ∧ σ1[i]? = some (.val (.list xs)))) (h3 : ∀ (i : Nat) xs, σ1[i]? = some (.own xs) → ow1 i = ow i) : SS hb s₀ c env O₀ ow1 σ1 s := by
  have sub : ∀ b, zbd O₀ ow1 b → zbd O₀ ow b := fun b q => by
    rcases q with q | ⟨i, q⟩
    · exact .inl q
    · exact .inr ⟨i, h1 i b q⟩
  have ks : ∀ {i ov}, SlotR s.heap (zbd O₀ ow) ow i σ[i]? ov → SlotR s.heap (zbd O₀ ow1) ow1 i σ1[i]? ov := by
    intro i ov r; rcases h2 i with e | ⟨e1, xs, e2, e3⟩
    · have h3 := h3 i; rw [← e] at r
      cases hs : σ1[i]? with
      | none => trivial
      | some sl =>
        rw [hs] at r h3
        cases sl with
        | unset => trivial
        | val v =>
          obtain ⟨rv, e, r⟩ := r
          exact ⟨rv, e, r.mono (fun _ _ e _ => e) fun b _ _ q q' => q (sub b q')⟩
        | own xs =>
          obtain ⟨z, a, vs, e, ho, ha, hl, r⟩ := r
          exact ⟨z, a, vs, e, by rw [h3 xs rfl]; exact ho, ha, hl, r.mono (fun _ _ e _ => e) fun b _ _ q q' => q (sub b q')⟩
        | app q =>
          obtain ⟨b, e, hb, r⟩ := r
          exact ⟨b, e, hb, fun a ha => r a (h1 q a ha)⟩
    · rw [e2] at r; rw [e3]; obtain ⟨z, a, vs, e, ho, ha, hl, r⟩ := r; refine ⟨.ref a, e, z, a, vs, rfl, ha, fun q => ?_, hl, r.mono (fun _ _ e _ => e) fun b _ _ q q' => q (sub b q')⟩
      rcases q with q | ⟨j, q⟩
      · exact x.apart i a ho q
      · have := x.inj i j a ho (h1 j a q); subst this; rw [e1] at q; cases q
  refine ⟨x.kp, ⟨x.fr.fk, ?_, fun n i h1 h2 => ?_⟩, fun a ha => x.ok a (sub a ha), fun i j a p q => x.inj i j a (h1 i a p) (h1 j a q), fun i a p => x.fresh i a (h1 i a p), fun i a p => x.apart i a (h1 i a p), x.tk, x.own⟩
  · obtain ⟨m, hn, hr⟩ := x.fr.ns; exact ⟨m, hn, fun n i h1 h2 => ks (hr n i h1 h2)⟩
  · obtain ⟨a, e, ha, ov, hc, r⟩ := x.fr.cells n i h1 h2; exact ⟨a, e, ha, ov, hc, ks r⟩
theorem SS.frz1 (x : SS hb s₀ c env O₀ ow σ s) (j : Nat) : SS hb s₀ c env O₀ (fun i => if i = j then none else ow i) (frz1 σ j) s := by
  have hne : ∀ (s' : Mine.Slot) (i : Nat), i ≠ j → (σ.set j s')[i]? = σ[i]? := fun s' i hi => List.getElem?_set_ne (Ne.symm hi)
  refine x.freeze (fun i a q => ?_) (fun i => ?_) fun i xs q => ?_
  · by_cases hi : i = j
    · rw [if_pos hi] at q; cases q
    · rw [if_neg hi] at q; exact q
  · unfold Mine.frz1
    split
    · rename_i xs e; by_cases hi : i = j
      · subst hi; refine .inr ⟨if_pos rfl, xs, e, ?_⟩; rw [List.getElem?_set_self (List.getElem?_eq_some_iff.mp e).1]
      · exact .inl (hne _ i hi)
    · exact .inl rfl
  · by_cases hi : i = j
    · subst hi; unfold Mine.frz1 at q
      split at q
      · rename_i xs' e; rw [List.getElem?_set_self (List.getElem?_eq_some_iff.mp e).1] at q; cases q
      · rename_i hn; exact absurd q (hn xs)
    · rw [if_neg hi]
theorem SS.frzA (x : SS hb s₀ c env O₀ ow σ s) : SS hb s₀ c env O₀ (fun _ => none) (frzA σ) s := by
  refine x.freeze (fun i a q => nomatch q) (fun i => ?_) fun i xs q => ?_
  · unfold Mine.frzA; rw [List.getElem?_map]
    cases hs : σ[i]? with
    | none => exact .inl rfl
    | some sl =>
      cases sl with
      | own xs => exact .inr ⟨rfl, xs, rfl, rfl⟩
      | _ => exact .inl rfl
  · unfold Mine.frzA at q; rw [List.getElem?_map] at q
    cases hs : σ[i]? with
    | none => rw [hs] at q; cases q
    | some sl => rw [hs] at q; cases sl <;> cases q
theorem ks_less {ow1 : Nat → Option Addr} (h : Heap) (h1 : ∀ i a, ow1 i = some a → ow i = some a) : KS h ow h ow1 :=
  ⟨fun _ o e => ⟨o, e⟩, fun _ _ _ e _ _ => e, fun b _ _ q i q' => q i (h1 i b q')⟩
theorem zcy {n : Str} {i : Nat} {v : PV} {rv : Value} {Q : Unit → Shared → Prop} {E : Value → Shared → Prop} {A₁ : Around} (fx : Fx prog w A₁ hb Γ c env s₀) (x : SS hb s₀ c env O₀ ow σ s) (hi : c.slot n = some i) (r : VR s.heap (zbd O₀ ow) v rv)
    (hQ : ∀ s', SS hb s₀ c env O₀ ow (zaa σ i (.val v)) s' → KS s.heap ow s'.heap ow → (∃ p, (p = env.locals ∨ ∃ ov, s.heap.IsCell p ov) ∧ ∀ b o, b ≠ p → s.heap.get? b = some o → s'.heap.get? b = some o) → Q () s') : wpAny (model prog w) A (storeName env n rv) Q E s := by
  refine wpAny_with_toks x.tk (ze5 (sl := .val v) (x.fr.less (less_set σ i)) hi x.kp fx.g₀ (fx.own n i hi) ⟨rv, rfl, r⟩ fun h' tk k1 k2 k3 k4 k5 tk' => ?_)
  exact hQ _ ⟨k1, k4, x.ok.frm k2, x.inj, x.fresh, x.apart, tk', x.own⟩ (.keepH ow k3 k2.alive) k5
theorem swaps_of {v : Expr} {pe : PE} (h : cE c v = some pe) (n : Str) (p : Pos) (line : Nat) (env : Env) : swapsWith v (some (.Name n p)) line env = pure false ∨ (swapsWith v (some (.Name n p)) line env = pure true ∧ ∃ elt gens sc pos, v = .ListComp elt gens sc pos) := by
  have key : ∀ (sc : Scope) (pp : Pos), ∃ b, (pure (env.blockKind == .function && env.kindOf n == some .local && p.line == pp.line && !(sc.names.any fun (m, k) => m == n && (k == .local || k == .cell))) : Sem Bool) = pure b := fun _ _ => ⟨_, rfl⟩
  cases v with
  | ListComp elt gens sc pos =>
    have e : swapsWith (.ListComp elt gens sc pos) (some (.Name n p)) line env = pure (env.blockKind == .function && env.kindOf n == some .local && p.line == pos.line && !(sc.names.any fun (m, k) => m == n && (k == .local || k == .cell))) := rfl
    rw [e]
    cases (env.blockKind == .function && env.kindOf n == some .local && p.line == pos.line && !(sc.names.any fun (m, k) => m == n && (k == .local || k == .cell))) with
    | false => exact .inl rfl
    | true => exact .inr ⟨rfl, _, _, _, _, rfl⟩
  | SetComp _ _ _ _ => simp [cE] at h
  | DictComp _ _ _ _ _ => simp [cE] at h
  | _ => exact .inl rfl
theorem sst_ret {e : Expr} {pe : PE} {p : Pos} (fx : Fx prog w A hb Γ c env s₀) (he : SE prog w A hb Γ c e pe) : SSt prog w A hb Γ c env s₀ (.Return (some e) p) (.ret pe) := by
  intro O₀ ow σ s x fl σ' h Q E hQ; rw [evS] at h
  split at h
  · rename_i v hv
    cases h
    have xf := x.frzA; refine wpAny_Return_some (he.val xf.fr (xf.xc fx.g₀) x.tk hv _ _ fun rv s' k t r => ?_)
    exact hQ _ _ ⟨rv, rfl, x.kp.trans k, t, VR.mono (fun _ _ e _ => e) (fun b _ _ q q' => q (.inl q')) r⟩
  · cases h
theorem sst_ret0 {p : Pos} (fx : Fx prog w A hb Γ c env s₀) : SSt prog w A hb Γ c env s₀ (.Return none p) (.ret (.lit .nul)) := by
  intro O₀ ow σ s x fl σ' h Q E hQ
  cases h
  exact wpAny_Return_none (hQ _ _ ⟨.none, rfl, x.kp, x.tk, rfl⟩)
theorem sst_brk {p : Pos} : SSt prog w A hb Γ c env s₀ (.Break p) .brk := by
  intro O₀ ow σ s x fl σ' h Q E hQ
  cases h
  exact wpAny_Break (hQ _ _ ⟨rfl, ow, x, .refl .., fun _ _ => rfl⟩)
theorem sst_asrt {e : Expr} {pe : PE} {p : Pos} (fx : Fx prog w A hb Γ c env s₀) (he : SE prog w A hb Γ c e pe) : SSt prog w A hb Γ c env s₀ (.Assert e none p) (.asrt pe) := by
  intro O₀ ow σ s x fl σ' h Q E hQ; rw [evS] at h
  split at h
  · rename_i hv
    cases h
    refine wpAny_Assert_holds (he.test x.fr (x.xc fx.g₀) x.tk hv _ _ fun s' k t => ⟨rfl, ?_⟩)
    exact hQ _ _ ⟨rfl, ow, x.run fx.g₀ k t, .kp k (x.kp.gs fx.g₀) ow, fun _ _ => rfl⟩
  · cases h
theorem or_false {pe : PE} {pa pb : List PS} {j : Nat} (h : sets (.ite pe pa pb) j = false) : zcd pa j = false ∧ zcd pb j = false := by
  rw [sets, Bool.or_eq_false_iff] at h; exact h
theorem sst_ite {e : Expr} {pe : PE} {p : Pos} {a b : List Stmt} {pa pb : List PS} (fx : Fx prog w A hb Γ c env s₀) (he : SE prog w A hb Γ c e pe) (ha : SSs prog w A hb Γ c env s₀ a pa) (hb' : SSs prog w A hb Γ c env s₀ b pb) : SSt prog w A hb Γ c env s₀ (.If e a b p) (.ite pe pa pb) := by
  intro O₀ ow σ s x fl σ' h Q E hQ; rw [evS] at h
  split at h
  · rename_i hv; refine wpAny_If (he.test x.fr (x.xc fx.g₀) x.tk hv _ _ fun s' k t => ?_)
    exact ha O₀ ow σ s' (x.run fx.g₀ k t) fl σ' h Q E fun f s'' q => hQ f s'' (q.from (.kp k (x.kp.gs fx.g₀) ow) (fun _ _ => rfl) fun j hj => (or_false hj).1)
  · rename_i hv; refine wpAny_If (he.test x.fr (x.xc fx.g₀) x.tk hv _ _ fun s' k t => ?_)
    exact hb' O₀ ow σ s' (x.run fx.g₀ k t) fl σ' h Q E fun f s'' q => hQ f s'' (q.from (.kp k (x.kp.gs fx.g₀) ow) (fun _ _ => rfl) fun j hj => (or_false hj).2)
  · cases h
end
end Mine
namespace Mine
open PySem PyProof.Rows PySem.Spec
section
variable {prog : Program} {w : World} {A : Around} {hb : HB} {Γ : Gam} {c : CT} {env : Env} {s₀ s : Shared} {O₀ : Addr → Prop} {ow : Nat → Option Addr} {σ : zad}
def SCu (prog : Program) (w : World) (A : Around) (hb : HB) (Γ : Gam) (c : CT) (elt : Expr) (gens : List Comprehension) (sc : Scope) (pos : Pos) (pe : PE) : Prop :=
  ∀ (env : Env) (O : Addr → Prop) (ow : Nat → Option Addr) (σ : zad) (s : Shared), FR hb c env O ow σ s.heap → XC hb O s → 1 ≤ s.toks →
    ∀ v, evE Γ pe .val σ = some v → ∀ (use : Option (Value → Sem Unit)) (Q : Value → Shared → Prop) (E : Value → Shared → Prop),
      (∀ C s' rv m, Kp hb s s' → s'.heap.Ns C m → s.heap.get? C = none → VR s'.heap O v rv → 1 ≤ s'.toks → compPost (model prog w) A E use Q rv C (.ok .next) s') →
      wpAny (model prog w) A (comprehension (.ListComp elt gens sc pos) sc env (firstIterPos gens pos) (newList []) (firstAsync gens) (firstIter gens env) use) Q E s
theorem soundU (cx : Cx prog w A hb Γ) (c : CT) {elt : Expr} {gens : List Comprehension} {sc : Scope} {pos : Pos} {pe : PE} (h : cE c (.ListComp elt gens sc pos) = some pe) : SCu prog w A hb Γ c elt gens sc pos pe := by
  generalize he : Expr.ListComp elt gens sc pos = e at h; rw [cE.eq_def] at h
  split at h
  all_goals first | (cases he; done) | skip
  rotate_left 2
  · cases h
  · rename_i elt tt it ifs sc pos
    cases he
    split at h
    · rename_i k a b tg pifs pe' h1 h2 h3 h4
      split at h
      · rename_i hg
        cases h
        simp only [Bool.and_eq_true] at hg; intro env O ow σ s fr xc tk v hv use Q E hP; have hit : SIt prog w A hb Γ c it k a b ∧ ∀ env x, foldedSetIterable it env x = pure x := by
          rcases zcq h1 with h1 | ⟨h1', rfl, rfl⟩
          · exact ⟨zfn cx c it k a b h1, zck (.inr ⟨_, h1⟩)⟩
          · exact ⟨zdd (zaq cx c it a h1') cx.handled, zck (.inl ⟨_, h1'⟩)⟩
        have hv : (match evE Γ a .val σ with
          | some x => (match evE Γ b .val σ with
            | some y => (match zau k x y with
              | some items => (zbc tg (zav σ (c.cap sc)) (zah Γ pifs) (evE Γ pe' .val) items).map .list
              | none => none)
            | none => none)
          | none => none) = some v := hv
        split at hv
        · rename_i x hx
          split at hv
          · rename_i y hy
            split at hv
            · rename_i items hi; obtain ⟨total, hgo, rfl⟩ := Option.map_eq_some_iff.mp hv; exact zg3 cx.handled hit.1 hit.2 (zek hg.1.2) h2 hg.1.1 hg.2 (soundT cx _ ifs pifs h3) (zaq cx _ elt pe' h4) fr xc tk hx hy hi hgo hP
            · cases hv
          · cases hv
        · cases hv
      · cases h
    · cases h
  · rename_i elt t1 it1 t2 it2 sc pos
    cases he
    split at h
    · rename_i k a b tg tg2 a2 pe' h1 h2 h3 h4 h5
      split at h
      · rename_i hg
        cases h
        simp only [Bool.and_eq_true] at hg; obtain ⟨⟨⟨⟨⟨g1, g2⟩, g3⟩, g4⟩, g5⟩, g6⟩ := hg; intro env O ow σ s fr xc tk v hv use Q E hP; have hit : SIt prog w A hb Γ c it1 k a b ∧ ∀ env x, foldedSetIterable it1 env x = pure x := by
          rcases zcq h1 with h1 | ⟨h1', rfl, rfl⟩
          · exact ⟨zfn cx c it1 k a b h1, zck (.inr ⟨_, h1⟩)⟩
          · exact ⟨zdd (zaq cx c it1 a h1') cx.handled, zck (.inl ⟨_, h1'⟩)⟩
        have hv : (match evE Γ a .val σ with
          | some x => (match evE Γ b .val σ with
            | some y => (match zau k x y with
              | some items => (zc0 tg (zav σ (c.cap sc)) (fun σ1 => match evE Γ a2 .val σ1 with
                  | some z => (match zau .plain z .nul with
                    | some items2 => zbc tg2 σ1 (fun _ => some true) (evE Γ pe' .val) items2
                    | none => none)
                  | none => none) items).map .list
              | none => none)
            | none => none)
          | none => none) = some v := hv
        split at hv
        · rename_i x hx
          split at hv
          · rename_i y hy
            split at hv
            · rename_i items hi; obtain ⟨total, hgo, rfl⟩ := Option.map_eq_some_iff.mp hv; exact zg2 cx.handled hit.1 hit.2 (zek g4) h2 g1 g5 h3 g2 g6 g3 (zaq cx _ it2 a2 h4) (zck (.inl ⟨_, h4⟩)) (zaq cx _ elt pe' h5) fr xc tk hx hy hi hgo hP
            · cases hv
          · cases hv
        · cases hv
      · cases h
    · cases h
theorem zeh {n : Str} {i : Nat} {v : Expr} {pe : PE} {px p : Pos} (fx : Fx prog w A hb Γ c env s₀) (hi : c.slot n = some i) (hc : cE c v = some pe) : SSt prog w A hb Γ c env s₀ (.Assign [.Name n px] v p) (.assign i pe) := by
  intro O₀ ow σ s x fl σ' h Q E hQ; rw [evS] at h
  split at h
  · rename_i u hu
    cases h
    have he := zaq fx.cx c v pe hc; have x1 := x.frz1 i; have k0 : KS s.heap ow s.heap (fun j => if j = i then none else ow j) := ks_less _ fun j a q => by
      by_cases hj : j = i
      · rw [if_pos hj] at q; cases q
      · rw [if_neg hj] at q; exact q
    have hch : ∀ j, sets (.assign i pe) j = false → (if j = i then none else ow j) = ow j := fun j hj => by
      rw [sets] at hj; rw [if_neg fun q => by rw [q] at hj; simp at hj]
    rcases swaps_of hc n px p.line env with hs | ⟨hs, elt, gens, sc, pos, rfl⟩
    · rw [exec_Assign_Name _ _ _ _ _ hs]; refine wpAny_bind (wpAny_standAt (wpAny_bind (he.val x1.fr (x1.xc fx.g₀) x1.tk hu _ _ fun rv s1 k1 t1 r1 => ?_)))
      refine wpAny_bind (wpAny_standAt (wpAny_bind (wpAny_bindName (zcy fx (x1.run fx.g₀ k1 t1) hi r1 fun s2 x2 k2 _ => wpAny_pure ?_))))
      exact hQ _ _ ⟨rfl, _, x2, (k0.trans (.kp k1 (x1.kp.gs fx.g₀) _)).trans k2, hch⟩
    · rw [exec_Assign_Name_used _ _ _ _ hs, arm_evalThenUse_ListComp]; have hL : ∃ o, s.heap.get? env.locals = some o := let ⟨_, ⟨o, _, _, ho, _⟩, _⟩ := x.fr.ns; ⟨o, ho⟩; refine wpAny_bind (wpAny_standAt (wpAny_bind (wpAny_bind (soundU fx.cx c hc env _ _ _ s x1.fr (x1.xc fx.g₀) x1.tk u hu (some (assign (.Name n px) env)) _ _ fun C s1 rv m k1 hm hC r1 t1 => ?_))))
      have x1' := x1.run fx.g₀ k1 t1; refine wpAny_assign_Name (zcy fx x1' hi r1 fun s2 x2 k2 hp => ?_)
      obtain ⟨pl, hpl, hkp⟩ := hp; have hCL : C ≠ env.locals := fun q => by obtain ⟨o, ho⟩ := hL; rw [← q, hC] at ho; cases ho
      obtain ⟨oC, es, ep, hoC, hdC, hrC⟩ := id hm; have hCp : C ≠ pl := fun q => by
        rcases hpl with q' | q'
        · exact hCL (q.trans q')
        · obtain ⟨ov, o, ho, hd⟩ := q'; rw [← q, hoC] at ho; cases ho; rw [hdC] at hd; cases hd
      have hm2 : s2.heap.Ns C m := ⟨oC, es, ep, hkp _ _ hCp hoC, hdC, hrC⟩; refine ⟨m, hm2, fun h' hs' => wpAny_pure (wpAny_pure (hQ _ _ ⟨rfl, (fun j => if j = i then none else ow j), ?_, ?_, hch⟩))⟩
      · have hk : ∀ b o, ¬ b = C → s2.heap.get? b = some o → h'.get? b = some o := fun b o hb e => hs'.extBut b o hb e
        have hC0 : s₀.heap.get? C = none := zbm x.kp fx.g₀ hC; have dC : ∀ o, s2.heap.get? C = some o → ∃ es ep, o.data = .dict es ep := fun o e => by
          obtain ⟨o', es', ep', h1, h2, _⟩ := hm2; rw [e] at h1; cases h1; exact ⟨es', ep', h2⟩
        refine ⟨x2.kp.turns (tk := s2.toks) (X := (· = C)) fx.g₀ hk (fun b q => by rw [q]; exact hC0) fun b o q e => .inr fun hd => ?_, x2.fr.names (C := C) hk dC hCL, fun a ha => ?_, x2.inj, x2.fresh, x2.apart, x2.tk, x2.own⟩
        · rw [q] at e; obtain ⟨es', ep', q'⟩ := dC o e; exact hd.1 _ _ q'
        · obtain ⟨h1, o, h2⟩ := x2.ok a ha; obtain ⟨_, o', h3⟩ := x1.ok a ha; exact ⟨h1, o, hk a o (fun q => by rw [q, hC] at h3; cases h3) h2⟩
      · have k3 := (k0.trans (.kp k1 (x1.kp.gs fx.g₀) _)).trans k2; have ne : ∀ b o, s.heap.get? b = some o → b ≠ C := fun b o e q => by rw [q, hC] at e; cases e
        exact ⟨fun b o e => let ⟨o', e'⟩ := k3.alive b o e; ⟨o', hs'.extBut b o' (ne b o e) e'⟩, fun b o hb e hd hO => hs'.extBut b o (ne b o e) (k3.keep b o hb e hd hO), k3.thin⟩
  · cases h
end
end Mine
namespace Mine
open PySem PyProof.Rows PySem.Spec
section
variable {prog : Program} {w : World} {A : Around} {hb : HB} {Γ : Gam} {c : CT} {env : Env} {s₀ s : Shared} {O₀ : Addr → Prop} {ow : Nat → Option Addr} {σ : zad}
theorem SS.alive (x : SS hb s₀ c env O₀ ow σ s) {i : Nat} {a : Addr} (h : ow i = some a) : ∃ o, s.heap.get? a = some o := let ⟨_, q⟩ := x.ok a (.inr ⟨i, h⟩); q
theorem sst_own {n : Str} {i : Nat} {px pl p : Pos} (fx : Fx prog w A hb Γ c env s₀) (hi : c.slot n = some i) : SSt prog w A hb Γ c env s₀ (.Assign [.Name n px] (.List [] pl) p) (.own i) := by
  intro O₀ ow σ s x fl σ' h Q E hQ
  cases h
  have xc := x.xc fx.g₀; have hDn : s.heap.get? s.heap.objs.size = none := zbh (Nat.le_refl _); have hOD : ∀ j, ow j ≠ some s.heap.objs.size := fun j q => by
    obtain ⟨o, e⟩ := x.alive q; rw [hDn] at e; cases e
  have hO0 : ¬ O₀ s.heap.objs.size := fun q => by
    obtain ⟨_, o, e⟩ := x.ok _ (.inl q); rw [hDn] at e; cases e
  refine wpAny_with_toks x.tk ?_; rw [exec_Assign_Name _ _ _ _ _ rfl]; refine wpAny_bind (wpAny_standAt (wpAny_bind (wpAny_List_spliced (wpAny_items_nil ⟨Nat.zero_le _, ?_⟩)))); generalize hH : s.heap.push { cls := .type "list", data := .seq ([] : List Value).toArray } = H; have hk : ∀ b o, s.heap.get? b = some o → H.get? b = some o := fun b o e => hH ▸ Heap.get?_push_of_some _ e
  have hD : H.get? s.heap.objs.size = some { cls := .type "list", data := .seq ([] : List Value).toArray } := hH ▸ Heap.get?_push_size _ rfl; have thin : ∀ b o, s.heap.get? b = some o → ¬ zbd O₀ ow b → ¬ zbd O₀ (fun j => if j = i then some s.heap.objs.size else ow j) b := fun b o e hO q => by
    rcases q with q | ⟨j, q⟩
    · exact hO (.inl q)
    · by_cases hj : j = i
      · simp only [if_pos hj] at q; cases q; rw [hDn] at e; cases e
      · simp only [if_neg hj] at q; exact hO (.inr ⟨j, q⟩)
  have fr1 := (x.fr.reown (x := i) (ow' := fun j => if j = i then some s.heap.objs.size else ow j) (fun j hj => if_neg hj) thin).soft (.of_keeps hk)
  have kp1 : Kp hb s₀ { s with heap := H } := x.kp.trans (.keeps (tk := s.toks) hk); refine wpAny_bind (wpAny_standAt (wpAny_bind (wpAny_bindName (ze5 (O := zbd O₀ (fun j => if j = i then some s.heap.objs.size else ow j)) (sl := .own []) fr1 hi kp1 fx.g₀ (fx.own n i hi)
    ⟨Nat.zero_le _, s.heap.objs.size, [], rfl, if_pos rfl, xc.off, ⟨_, hD⟩, rfl⟩ fun h' tk k1 k2 k3 k4 k5 => wpAny_pure fun tk' => ?_))))
  have ok1 : OkO (zbd O₀ (fun j => if j = i then some s.heap.objs.size else ow j)) H := fun a ha => by
    rcases ha with ha | ⟨j, ha⟩
    · obtain ⟨h1, o, h2⟩ := x.ok a (.inl ha); exact ⟨h1, o, hk _ _ h2⟩
    · by_cases hj : j = i
      · simp only [if_pos hj] at ha; cases ha; exact ⟨xc.off, _, hD⟩
      · simp only [if_neg hj] at ha; obtain ⟨h1, o, h2⟩ := x.ok a (.inr ⟨j, ha⟩); exact ⟨h1, o, hk _ _ h2⟩
  refine hQ _ _ ⟨rfl, (fun j => if j = i then some s.heap.objs.size else ow j), ⟨k1, k4, ok1.frm k2, fun j j' a q q' => ?_, fun j a q => ?_, fun j a q => ?_, tk', x.own⟩, ⟨fun b o e => k2.alive b o (hk b o e), fun b o hb e hd _ => k3 b o hb (hk b o e) hd, fun b o e hO j q => ?_⟩, fun j hj => ?_⟩
  · by_cases h1 : j = i <;> by_cases h2 : j' = i
    · rw [h1, h2]
    · simp only [if_pos h1] at q; simp only [if_neg h2] at q'; cases q; exact absurd q' (hOD _)
    · simp only [if_neg h1] at q; simp only [if_pos h2] at q'; cases q'; exact absurd q (hOD _)
    · simp only [if_neg h1] at q; simp only [if_neg h2] at q'; exact x.inj _ _ _ q q'
  · by_cases h1 : j = i
    · simp only [if_pos h1] at q; cases q; exact zbm x.kp fx.g₀ hDn
    · simp only [if_neg h1] at q; exact x.fresh _ _ q
  · by_cases h1 : j = i
    · simp only [if_pos h1] at q; cases q; exact hO0
    · simp only [if_neg h1] at q; exact x.apart _ _ q
  · by_cases h1 : j = i
    · simp only [if_pos h1] at q; cases q; rw [hDn] at e; cases e
    · simp only [if_neg h1] at q; exact hO _ q
  · rw [sets] at hj; exact if_neg fun q => by rw [q] at hj; simp at hj
theorem sst_aug {n : Str} {i : Nat} {v : Expr} {op : Operator} {pe : PE} {px p : Pos} {A₁ : Around} (fx : Fx prog w A₁ hb Γ c env s₀) (hn : zam n = true) (hi : c.slot n = some i) (he : SE prog w A hb Γ c v pe) : SSt prog w A hb Γ c env s₀ (.AugAssign (.Name n px) op v p) (.aug i op pe) := by
  intro O₀ ow σ s x fl σ' h Q E hQ; rw [evS] at h
  split at h
  · rename_i u hu
    split at h
    · rename_i vv hv; rw [exec_AugAssign_Name]; refine wpAny_bind (wpAny_standAt (wpAny_bind (zc8 x.fr hi (zax hn).2 fun ov r => ?_)))
      obtain ⟨rv, e, r0⟩ := val_of hu r; refine ⟨rv, e, wpAny_bind (wpAny_holding (he.val x.fr (x.xc fx.g₀) x.tk hv _ _ fun rv2 s1 k1 t1 r1 => wpAny_bind (wpAny_standAt (wpAny_bind ?_))))⟩
      have x1 := x.run fx.g₀ k1 t1; have r0 := VR.kp k1 r0; have fin : ∀ (v' : PV) (rv' : Value) (s2 : Shared), Kp hb s1 s2 → 1 ≤ s2.toks → VR s2.heap (zbd O₀ ow) v' rv' → (fl, σ') = (Fl.next, zaa σ i (.val v')) → wpAny (model prog w) A (standAt px >>= fun _ => bindName env n rv' >>= fun _ => pure .next) Q E s2 := by
        intro v' rv' s2 k2 t2 r2 e2
        cases e2
        refine wpAny_bind (wpAny_standAt (wpAny_bind (wpAny_bindName (zcy fx (x1.run fx.g₀ k2 t2) hi r2 fun s3 x3 k3 _ => wpAny_pure ?_))))
        exact hQ _ _ ⟨rfl, _, x3, (KS.kp (k1.trans k2) (x.kp.gs fx.g₀) ow).trans k3, fun _ _ => rfl⟩
      split at h
      · obtain ⟨t, rfl⟩ := r0; obtain ⟨u, rfl⟩ := r1; refine wpAny_operating (wpAny_with_toks t1 (PyProof.Rows.iadd_int fun tk => ?_))
        exact fin (.int _) _ _ .tok tk ⟨_, rfl⟩ (Option.some.inj h).symm
      · split at h
        · rename_i hz; obtain ⟨z, t, rfl⟩ := r0; obtain ⟨z', u, rfl⟩ := r1; refine wpAny_operating (wpAny_with_toks t1 (PyProof.Rows.iadd_str (fun t' tk htk => ?_) ?_))
          · refine fin (.str _) _ _ .tok htk ⟨zf3 z z' (by rw [List.length_append]; exact hz), t', ?_⟩ (Option.some.inj h).symm; rw [str_app]
          · rw [lenS, lenS]; exact Nat.le_trans hz zbb
        · cases h
      · cases h
    · cases h
  · cases h
theorem SS.grow (x : SS hb s₀ c env O₀ ow σ s) (g₀ : GS hb s₀) {i : Nat} {a : Addr} {xs : List PV} {v : PV} {rv : Value} {vs : List Value} {h' : Heap} (hw : ow i = some a) (hs : σ[i]? = some (.own xs)) (hl : s.heap.PlainList a vs.toArray) (hl' : h'.PlainList a (vs.toArray.push rv)) (hsb : Heap.SameBut a s.heap h')
    (hr : VRs s.heap (zbd O₀ ow) xs vs) (r : VR s.heap (zbd O₀ ow) v rv) (hz : xs.length < small) :
    SS hb s₀ c env O₀ ow (σ.set i (.own (xs ++ [v]))) { s with heap := h' } ∧ KS s.heap ow h' ow := by
  obtain ⟨n, hD⟩ := id hl; obtain ⟨n', hD'⟩ := id hl'; have hk : ∀ b o, ¬ b = a → s.heap.get? b = some o → h'.get? b = some o := fun b o hb e => hsb.extBut b o hb e
  have km : ∀ b o, s.heap.get? b = some o → zd3 (zbd O₀ ow) b o → h'.get? b = some o := fun b o e l => hk b o (fun q => l.2.1 (q ▸ .inr ⟨i, hw⟩)) e
  have hta : a ≠ zao := (x.ok a (.inr ⟨i, hw⟩)).1; have sl : ∀ {j ov}, SlotR s.heap (zbd O₀ ow) ow j σ[j]? ov → SlotR h' (zbd O₀ ow) ow j (σ.set i (.own (xs ++ [v])))[j]? ov := by
    intro j ov q; by_cases hj : j = i
    · subst hj; rw [hs] at q; rw [List.getElem?_set_self (List.getElem?_eq_some_iff.mp hs).1]; obtain ⟨z, a', vs', e, ho, ha, hl0, r0⟩ := q; rw [hw] at ho; cases ho; refine ⟨by rw [List.length_append, List.length_singleton]; exact hz, a, vs ++ [rv], e, hw, ha, ?_, (hr.mono km fun _ _ _ q => q).append ⟨rv, [], rfl, r.mono km fun _ _ _ q => q, rfl⟩⟩
      have e : (vs ++ [rv]).toArray = vs.toArray.push rv := by simp
      rw [e]; exact hl'
    · rw [List.getElem?_set_ne (Ne.symm hj)]
      cases hsj : σ[j]? with
      | none => trivial
      | some sl =>
      rw [hsj] at q
      cases sl with
      | unset => trivial
      | val v' =>
        obtain ⟨rv, e, r⟩ := q; exact ⟨rv, e, r.mono km fun _ _ _ q => q⟩
      | own xs' =>
        obtain ⟨z, a', vs', e, ho, ha, ⟨m, hm⟩, r0⟩ := q
        exact ⟨z, a', vs', e, ho, ha, ⟨m, hk _ _ (fun q => hj (x.inj j i a (q ▸ ho) hw)) hm⟩, r0.mono km fun _ _ _ q => q⟩
      | app r' =>
        obtain ⟨b, e, hb, r0⟩ := q
        exact ⟨b, e, hb, fun a' q => let ⟨o, us, ho, hc, hd, h1⟩ := r0 a' q; ⟨o, us, hk _ _ (fun q => by subst q; rw [hD] at ho; cases ho; exact absurd hc (by show Value.type "list" ≠ Value.type "builtin_function_or_method"; decide)) ho, hc, hd, h1⟩⟩
  have al : ∀ b o, s.heap.get? b = some o → ∃ o', h'.get? b = some o' := fun b o e => by
    by_cases hb : b = a
    · subst hb; exact ⟨_, hD'⟩
    · exact ⟨o, hk b o hb e⟩
  refine ⟨⟨x.kp.turns (tk := s.toks) (X := (· = a)) g₀ hk (fun b q => by rw [q]; exact x.fresh i a hw) fun b o q e => ?_, ⟨x.fr.fk, ?_, fun n j h1 h2 => ?_⟩, fun b hb => ?_, x.inj, x.fresh, x.apart, x.tk, x.own⟩, ⟨al, fun b o hb e hd hO => hk b o (fun q => hO i (q ▸ hw)) e, fun _ _ _ q => q⟩⟩
  · rw [q, hD] at e; cases e; exact .inl ⟨(show Value.type "list" ≠ Value.none by decide), (show Value.type "list" ≠ Value.type "code" by decide)⟩
  · obtain ⟨m, ⟨o, es, ep, ho, hd, r0⟩, hr0⟩ := x.fr.ns; exact ⟨m, ⟨o, es, ep, hk _ _ (fun q => by rw [q, hD] at ho; cases ho; cases hd) ho, hd, r0⟩, fun n j h1 h2 => sl (hr0 n j h1 h2)⟩
  · obtain ⟨a', e, ha, ov, ⟨o, ho, hd⟩, r0⟩ := x.fr.cells n j h1 h2; exact ⟨a', e, ha, ov, ⟨o, hk _ _ (fun q => by rw [q, hD] at ho; cases ho; cases hd) ho, hd⟩, sl r0⟩
  · obtain ⟨h1, o, h2⟩ := x.ok b hb; exact ⟨h1, al b o h2⟩
theorem sst_push {n : Str} {i : Nat} {v : Expr} {pe : PE} {px ap cp p : Pos} (fx : Fx prog w A hb Γ c env s₀) (hn : zam n = true) (hline : (ap.endLine == cp.line) = true) (hi : c.slot n = some i) (hc : cE c v = some pe) (he : SE prog w A hb Γ c v pe) :
    SSt prog w A hb Γ c env s₀ (.Expr (.Call (.Attribute (.Name n px) ("append" : Str) ap) [v] [] cp) p) (.push i pe) := by
  intro O₀ ow σ s x fl σ' h Q E hQ; rw [evS] at h
  split at h
  · rename_i u hu
    split at h
    · rename_i xs hs
      split at h
      · rename_i hz
        cases h
        have hint : interactive env = false := by unfold interactive; rw [x.fr.fk.kind]; rfl
        refine wpAny_Expr ?_ hint rfl; have hun : zce env [v] := zbi (c := c) (pes := [pe]) (by rw [cEs, hc]; rfl); refine wpAny_Call_method (zct rfl ..) (zd8 hun (by show 1 < 20; decide)) hline F.plainAttrs_list F.slot_list_append F.type_list_append ?_; refine wpAny_Name (zc8 x.fr hi (zax hn).2 fun ov r => ?_) (zax hn).1
        rw [hs] at r; obtain ⟨z, a, vs, rfl, hw, hta, hl, hr⟩ := r; refine ⟨_, rfl, ⟨_, hl.choose_spec, rfl⟩, fun b e => by cases e; exact ⟨_, hl.choose_spec, rfl⟩, ?_⟩
        refine Calls.callWith_builtin (hun cp).1 ?_; rw [zb7 hc]; refine Calls.evalArgs_plain (Calls.spliced_cons (he.val x.fr (x.xc fx.g₀) x.tk hu _ _ fun rv s1 k1 t1 r1 => ?_))
        refine Calls.spliced_nil ?_; have x1 := x.run fx.g₀ k1 t1; have hl1 := zb4 k1.soft hta hl; have hr1 := VRs.kp k1 hr; refine wpAny_list_append_plain hl1 (fun h' hl' hsb => ?_) (by rw [List.size_toArray, hr1.length]; exact Nat.le_trans z zbb)
        obtain ⟨x2, k2⟩ := x1.grow fx.g₀ hw hs hl1 hl' hsb hr1 r1 hz; exact hQ _ _ ⟨rfl, ow, x2, (KS.kp k1 (x.kp.gs fx.g₀) ow).trans k2, fun _ _ => rfl⟩
      · cases h
    · cases h
  · cases h
theorem sst_whl {e : Expr} {pe : PE} {p : Pos} {b : List Stmt} {pb : List PS} (fx : Fx prog w A hb Γ c env s₀) (he : SE prog w A hb Γ c e pe) (hb' : SSs prog w A hb Γ c env s₀ b pb) : SSt prog w A hb Γ c env s₀ (.While e b [] p) (.whl pe pb) := by
  intro O₀ ow σ s x fl σ' h Q E hQ; rw [evS] at h; refine wpAny_While (codeAny_whileLoop (fun n s' => ∃ σ1 ow1, zcz (fun σ => asB (evE Γ pe .test σ)) (zac Γ 0 pb) n σ1 = some (fl, σ') ∧ SS hb s₀ c env O₀ ow1 σ1 s' ∧ KS s.heap ow s'.heap ow1 ∧ ∀ j, zcd pb j = false → ow1 j = ow j) (fun n s' hI => ?_) zb9 ⟨σ, ow, h, x, .refl .., fun _ _ => rfl⟩)
  obtain ⟨σ1, ow1, h1, x1, k1, w1⟩ := hI
  cases n with
  | zero => cases h1
  | succ n =>
    rw [zcz] at h1
    split at h1
    · cases h1
    · rename_i e1
      cases h1
      refine he.test x1.fr (x1.xc fx.g₀) x1.tk e1 _ _ fun s2 k2 t2 => ?_
      exact wpAny_execs_nil (hQ _ _ ⟨rfl, ow1, x1.run fx.g₀ k2 t2, k1.trans (.kp k2 (x1.kp.gs fx.g₀) ow1), w1⟩)
    · rename_i e1; refine he.test x1.fr (x1.xc fx.g₀) x1.tk e1 _ _ fun s2 k2 t2 => ?_
      have x2 := x1.run fx.g₀ k2 t2; have k12 := k1.trans (.kp k2 (x1.kp.gs fx.g₀) ow1); show wpAny _ _ (execs b env) _ _ s2
      split at h1
      · cases h1
      · rename_i σ2 e2; refine hb' O₀ ow1 σ1 s2 x2 _ _ e2 _ _ fun f s3 q => ?_
        obtain ⟨rfl, ow3, x3, k3, w3⟩ := q; exact ⟨n, Nat.lt_succ_self n, σ2, ow3, h1, x3, k12.trans k3, fun j hj => (w3 j hj).trans (w1 j hj)⟩
      · rename_i σ2 e2; refine hb' O₀ ow1 σ1 s2 x2 _ _ e2 _ _ fun f s3 q => ?_
        obtain ⟨rfl, ow3, x3, k3, w3⟩ := q; exact ⟨n, Nat.lt_succ_self n, σ2, ow3, h1, x3, k12.trans k3, fun j hj => (w3 j hj).trans (w1 j hj)⟩
      · rename_i σ2 e2
        cases h1
        refine hb' O₀ ow1 σ1 s2 x2 _ _ e2 _ _ fun f s3 q => ?_
        obtain ⟨rfl, ow3, x3, k3, w3⟩ := q; exact hQ _ _ ⟨rfl, ow3, x3, k12.trans k3, fun j hj => (w3 j hj).trans (w1 j hj)⟩
      · rename_i v σ2 e2
        cases h1
        refine hb' O₀ ow1 σ1 s2 x2 _ _ e2 _ _ fun f s3 q => ?_
        obtain ⟨rv, rfl, q⟩ := q; exact hQ _ _ ⟨rv, rfl, q⟩
end
end Mine
namespace Mine
open PySem PyProof.Rows PySem.Spec
section
variable {prog : Program} {w : World} {A : Around} {hb : HB} {Γ : Gam} {c : CT} {env : Env} {s₀ s : Shared} {O₀ O₁ : Addr → Prop} {ow : Nat → Option Addr} {σ : zad}
theorem SS.shrink (x : SS hb s₀ c env O₁ ow σ s) (h : ∀ b, O₀ b → O₁ b) : SS hb s₀ c env O₀ ow σ s := by
  have sub : ∀ b, zbd O₀ ow b → zbd O₁ ow b := fun b q => q.imp (h b) id
  exact ⟨x.kp, x.fr.mono sub, fun a ha => x.ok a (sub a ha), x.inj, x.fresh, fun i a q q' => x.apart i a q (h a q'), x.tk, x.own⟩
theorem SS.turnIt (x : SS hb s₀ c env O₁ ow σ s) (g₀ : GS hb s₀) {wr : List Addr} {h' : Heap} {tk : Nat} (hO : ∀ b ∈ wr, O₁ b) (its : ∀ b ∈ wr, ∃ o, s.heap.get? b = some o ∧ IsIt o) (hf : ∀ b ∈ wr, s₀.heap.get? b = none)
    (hk : ∀ b o, b ∉ wr → s.heap.get? b = some o → h'.get? b = some o) (tk' : 1 ≤ tk) (sub : ∀ b, O₀ b → O₁ b) (hal : ∀ b, O₀ b → b ∈ wr → ∃ o, h'.get? b = some o) : SS hb s₀ c env O₀ ow σ { s with heap := h', toks := tk } := by
  have hw : ∀ b o, b ∈ wr → s.heap.get? b = some o → IsIt o := fun b o hb e => by
    obtain ⟨o', e', h⟩ := its b hb; rw [e] at e'; cases e'; exact h
  have hne : ∀ i b, ow i = some b → b ∉ wr := fun i b q q' => x.apart i b q (hO b q')
  refine ⟨x.kp.turns (X := (· ∈ wr)) g₀ (fun b o hb e => hk b o hb e) (fun b hb => hf b hb) fun b o hb e => .inl ⟨(hw b o hb e).nn, (hw b o hb e).ne (by decide)⟩,
    (x.fr.turn (X := (· ∈ wr)) (fun b o hb e => hk b o hb e) fun b o hb e => ⟨(hw b o hb e).1, .inl (hO b hb), fun i q => hne i b q hb, (hw b o hb e).ne (by decide)⟩).mono fun b q => q.imp (sub b) id, fun a ha => ?_, x.inj, x.fresh, fun i a q q' => x.apart i a q (sub a q'), tk', x.own⟩
  obtain ⟨h1, o, h2⟩ := x.ok a (ha.imp (sub a) id); by_cases haw : a ∈ wr
  · rcases ha with ha | ⟨i, ha⟩
    · exact ⟨h1, hal a ha haw⟩
    · exact absurd haw (hne i a ha)
  · exact ⟨h1, o, hk a o haw h2⟩
theorem ItW.item2 {tg : Expr} {I : Addr} {wr : List Addr} {xs : List PV} {St : Nat → Heap → (Addr → Prop) → Prop} (W : ItW prog w A tg I wr xs St) {i : Nat} {O : Addr → Prop} {x : PV} {Q : Value → Shared → Prop} {E1 E2 : Value → Shared → Prop}
    (st : St i s.heap O) (hO : ∀ b ∈ wr, O b) (ok : OkO O s.heap) (ht : zao < s.heap.objs.size) (hx : xs[i]? = some x) (tk : 1 ≤ s.toks)
    (h : ∀ rv h' tk, St (i + 1) h' O → (∀ b o, b ∉ wr → s.heap.get? b = some o → h'.get? b = some o) → VR h' O x rv → 1 ≤ tk → Q rv { s with heap := h', toks := tk }) :
    wpAny (model prog w) A (pyNext (.ref I)) (fun r s₁ => match r with | none => False | some v => wpAny (model prog w) A (letOwnedTupleGo tg (.ref I) v) (fun _ s₂ => Q v s₂) E2 s₁) E1 s := by
  refine wpAny_with_toks tk (wpAny_mono (W.item i s O x (fun v s₂ => 1 ≤ s₂.toks → Q v s₂) (fun _ _ => False) st hO ok ht hx fun rv h' tk st1 hk hv htk => h rv h' tk st1 hk hv htk) (fun r s₁ h₁ htk => ?_) fun e s'' he => he.elim)
  cases r with
  | none => exact h₁.elim
  | some v => exact wpAny_with_toks htk (wpAny_mono h₁ (fun _ _ q => q) fun _ _ q => q.elim)
theorem ItW.stepR {α : Type} {tg : Expr} {I : Addr} {wr : List Addr} {xs : List PV} {St : Nat → Heap → (Addr → Prop) → Prop} (W : ItW prog w A tg I wr xs St) {i : Nat} {O : Addr → Prop} {x : PV} {z : Sem α} {k : Value → Sem α} {hd : Value → Sem Unit} {Q : α → Shared → Prop} {E : Value → Shared → Prop}
    (st : St i s.heap O) (hO : ∀ b ∈ wr, O b) (ok : OkO O s.heap) (ht : zao < s.heap.objs.size) (hx : xs[i]? = some x) (tk : 1 ≤ s.toks)
    (h : ∀ rv h' tk, St (i + 1) h' O → (∀ b o, b ∉ wr → s.heap.get? b = some o → h'.get? b = some o) → VR h' O x rv → 1 ≤ tk → wpAny (model prog w) A (k rv) Q E { s with heap := h', toks := tk }) :
    wpAny (model prog w) A ((pyNext (.ref I)).onRaise hd >>= fun r => match r with | none => z | some v => letOwnedTupleGo tg (.ref I) v >>= fun _ => k v) Q E s := by
  refine wpAny_bind (wpAny_onRaise (wpAny_mono (W.item2 (Q := fun v s₂ => wpAny (model prog w) A (k v) Q E s₂) (E1 := fun _ _ => False) (E2 := E) st hO ok ht hx tk h) (fun r s₁ h₁ => ?_) fun _ _ q => q.elim))
  cases r with
  | none => exact h₁.elim
  | some v => exact wpAny_bind h₁
theorem tg_own {tg : Expr} {t : Tgt} (fx : Fx prog w A hb Γ c env s₀) (ht : zca c tg = some t) : ∀ n ∈ tgNames tg, OwnN s₀ env n := by
  rcases zfv ht with ⟨n, p, i, rfl, hi, rfl⟩ | ⟨n, p, n', p', k, pp, i, j, rfl, hi, hj, rfl⟩
  · intro m hm; rw [List.mem_singleton.mp hm]; exact fx.own n i hi
  · intro m hm; rcases List.mem_cons.mp hm with rfl | hm
    · exact fx.own _ i hi
    · rw [List.mem_singleton.mp hm]; exact fx.own n' j hj
theorem for_loop {tg : Expr} {t : Tgt} {I : Addr} {wr : List Addr} {items : List PV} {St : Nat → Heap → (Addr → Prop) → Prop} {body : List Stmt} {pb : List PS} {s' : Shared} (fx : Fx prog w A hb Γ c env s₀) (x : SS hb s₀ c env O₀ ow σ s)
    (ht : zca c tg = some t) (hb' : SSs prog w A hb Γ c env s₀ body pb) (W : ItW prog w A tg I wr items St) (k : Kp hb s s') (tk : 1 ≤ s'.toks) (st : St 0 s'.heap (fun b => zbd O₀ ow b ∨ b ∈ wr)) (hwr : ∀ b ∈ wr, s.heap.get? b = none)
    {fl : Fl} {σ' : zad} (hgo : zbx t (zac Γ 0 pb) items σ = some (fl, σ')) {R : Result → Shared → Prop}
    (hR : ∀ f s'', Post hb s₀ c env O₀ ow s (zcd pb) fl σ' f s'' → R (.ok f) s'') : codeAny (model prog w) A (.forLoop tg (.ref I) body [] env) R s' := by
  have g₀ := fx.g₀; have gs := x.kp.gs g₀; have hwO : ∀ b ∈ wr, ∀ i, ow i ≠ some b := fun b hb i q => by
    obtain ⟨o, e⟩ := x.alive q; rw [hwr b hb] at e; cases e
  have hw0 : ∀ b ∈ wr, ¬ O₀ b := fun b hb q => by
    obtain ⟨_, o, e⟩ := x.ok b (.inl q); rw [hwr b hb] at e; cases e
  have hwf : ∀ b ∈ wr, s₀.heap.get? b = none := fun b hb => zbm x.kp g₀ (hwr b hb)
  have wt : ∀ b ∈ wr, b ≠ zao := fun b hb q => by
    obtain ⟨o, e⟩ := gs.tab.get; rw [← q, hwr b hb] at e; cases e
  have x1 := x.run g₀ k tk; have sub : ∀ b, O₀ b → O₀ b ∨ b ∈ wr := fun b q => .inl q
  have xs : SS hb s₀ c env (fun b => O₀ b ∨ b ∈ wr) ow σ s' := by
    refine ⟨x1.kp, (x.fr.grow fun b o e hO q => ?_).kp k, fun a ha => ?_, x1.inj, x1.fresh, fun i a q q' => ?_, tk, x1.own⟩
    · rcases q with (q | q) | q
      · exact hO (.inl q)
      · rw [hwr b q] at e; cases e
      · exact hO (.inr q)
    · rcases ha with (ha | ha) | ha
      · exact x1.ok a (.inl ha)
      · obtain ⟨o, e, _⟩ := W.its _ _ _ st a ha; exact ⟨wt a ha, o, e⟩
      · exact x1.ok a (.inr ha)
    · rcases q' with q' | q'
      · exact x.apart i a q q'
      · exact hwO a q' i q
  have st' : St 0 s'.heap (zbd (fun b => O₀ b ∨ b ∈ wr) ow) := W.frm _ _ _ _ _ st ⟨fun _ o e => ⟨o, e⟩, fun _ _ _ e _ _ => e, fun b o e hO q => by
    rcases q with (q | q) | q
    · exact hO (.inl (.inl q))
    · exact hO (.inr q)
    · exact hO (.inl (.inr q))⟩ (fun b hb => .inl (.inr hb)) fun _ _ _ e => e
  refine codeAny_loop' rfl (fun n s'' => ∃ j σ1 ow1, n = items.length + 1 - j ∧ j ≤ items.length ∧ zbx t (zac Γ 0 pb) (items.drop j) σ1 = some (fl, σ') ∧ SS hb s₀ c env (fun b => O₀ b ∨ b ∈ wr) ow1 σ1 s'' ∧ St j s''.heap (zbd (fun b => O₀ b ∨ b ∈ wr) ow1) ∧
      KS s.heap ow s''.heap ow1 ∧ ∀ j, zcd pb j = false → ow1 j = ow j) (fun n s'' hI => ?_) (items.length + 1) ⟨0, σ, ow, rfl, Nat.zero_le _, hgo, xs, st', .kp k gs ow, fun _ _ => rfl⟩
  obtain ⟨j, σ1, ow1, rfl, hj, h1, x2, st2, k2, w2⟩ := hI; show wpAny _ A ((forTurn tg (.ref I) body [] env).onRaise (fun x => do noteFrame x env; theTreesLotGoes x)) _ _ s''
  refine wpAny_noted ?_; simp only [forTurn]; refine wpAny_bind (wpAny_standAt ?_); have its := W.its j s''.heap _ st2; have hwO1 : ∀ b ∈ wr, ∀ i, ow1 i ≠ some b := fun b hb i q => x2.apart i b q (.inr hb)
  cases hx : items[j]? with
  | none =>
    rw [List.drop_eq_nil_of_le (by rw [List.getElem?_eq_none_iff] at hx; exact hx)] at h1
    cases h1
    refine wpAny_bind (wpAny_onRaise (wpAny_with_toks x2.tk (W.done j s'' _ _ _ st2 hx hj fun h' tk' hk htk => wpAny_pure (.inr ⟨rfl, codeAny_block (wpAny_execs_nil ?_)⟩))))
    have x3 := x2.turnIt (O₀ := O₀) g₀ (fun b hb => .inr hb) its hwf hk htk sub fun b q q' => absurd q (hw0 b q')
    have ne : ∀ b o, s.heap.get? b = some o → b ∉ wr := fun b o e q => by rw [hwr b q] at e; cases e
    exact hR _ _ ⟨rfl, ow1, x3, ⟨fun b o e => let ⟨o', e'⟩ := k2.alive b o e; ⟨o', hk b o' (ne b o e) e'⟩, fun b o hb e hd hO => hk b o (ne b o e) (k2.keep b o hb e hd hO), k2.thin⟩, w2⟩
  | some y =>
    rw [drop_cons hx, zbx] at h1
    split at h1
    · cases h1
    · rename_i σ2 e2; refine W.stepR st2 (fun b hb => .inl (.inr hb)) x2.ok (x2.kp.gs g₀).tab.lt hx x2.tk fun rv h' tk' st3 hk hv htk => ?_
      · have al : ∀ b ∈ wr, ∃ o, h'.get? b = some o := fun b hb => let ⟨o, e, _⟩ := W.its _ _ _ st3 b hb; ⟨o, e⟩
        have x3 := x2.turnIt (O₀ := fun b => O₀ b ∨ b ∈ wr) g₀ (fun b hb => .inr hb) its hwf hk htk (fun b q => q) fun b _ q => al b q
        have ne : ∀ b o, s.heap.get? b = some o → b ∉ wr := fun b o e q => by rw [hwr b q] at e; cases e
        have k3 : KS s.heap ow h' ow1 := ⟨fun b o e => let ⟨o', e'⟩ := k2.alive b o e; ⟨o', hk b o' (ne b o e) e'⟩, fun b o hb e hd hO => hk b o (ne b o e) (k2.keep b o hb e hd hO), k2.thin⟩
        refine wpAny_bind (wpAny_with_toks (n := 1) htk (zey fx.cx.handled ht e2 x3.fr x3.kp g₀ (tg_own fx ht) hv fun h4 tk4 kp4 fm4 kh4 fr4 htk4 => ?_))
        have x4 : SS hb s₀ c env (fun b => O₀ b ∨ b ∈ wr) ow1 σ2 { s'' with heap := h4, toks := tk4 } := ⟨kp4, fr4, x3.ok.frm fm4, x3.inj, x3.fresh, x3.apart, htk4, x3.own⟩
        have ks4 : KS h' ow1 h4 ow1 := .keepH ow1 kh4 fm4.alive; have next : ∀ s5 ow5 σ5, SS hb s₀ c env (fun b => O₀ b ∨ b ∈ wr) ow5 σ5 s5 → KS h4 ow1 s5.heap ow5 → St (j + 1) s5.heap (zbd (fun b => O₀ b ∨ b ∈ wr) ow5) := by
          intro s5 ow5 σ5 x5 k5; refine W.frm _ _ _ _ _ st3 ((ks4.trans k5).frm _) (fun b hb => .inl (.inr hb)) fun b hb o e => ?_
          obtain ⟨o', e', hit⟩ := W.its _ _ _ st3 b hb; rw [e] at e'; cases e'; exact (ks4.trans k5).keep b o (wt b hb) e hit.1 (hwO1 b hb)
        refine wpAny_bind ?_
        split at h1
        · cases h1
        · rename_i σ5 e5; refine hb' _ ow1 σ2 _ x4 _ _ e5 _ _ fun f s5 q => ?_
          obtain ⟨rfl, ow5, x5, k5, w5⟩ := q; exact wpAny_pure (.inl ⟨rfl, items.length + 1 - (j + 1), by have := (List.getElem?_eq_some_iff.mp hx).1; omega, j + 1, σ5, ow5, rfl, (List.getElem?_eq_some_iff.mp hx).1, h1, x5, next s5 ow5 σ5 x5 k5, (k3.trans ks4).trans k5, fun i hi => (w5 i hi).trans (w2 i hi)⟩)
        · rename_i σ5 e5; refine hb' _ ow1 σ2 _ x4 _ _ e5 _ _ fun f s5 q => ?_
          obtain ⟨rfl, ow5, x5, k5, w5⟩ := q; exact wpAny_pure (.inl ⟨rfl, items.length + 1 - (j + 1), by have := (List.getElem?_eq_some_iff.mp hx).1; omega, j + 1, σ5, ow5, rfl, (List.getElem?_eq_some_iff.mp hx).1, h1, x5, next s5 ow5 σ5 x5 k5, (k3.trans ks4).trans k5, fun i hi => (w5 i hi).trans (w2 i hi)⟩)
        · rename_i σ5 e5
          cases h1
          refine hb' _ ow1 σ2 _ x4 _ _ e5 _ _ fun f s5 q => ?_
          obtain ⟨rfl, ow5, x5, k5, w5⟩ := q; exact wpAny_pure (hR _ _ ⟨rfl, ow5, x5.shrink sub, (k3.trans ks4).trans k5, fun i hi => (w5 i hi).trans (w2 i hi)⟩)
        · rename_i v σ5 e5
          cases h1
          refine hb' _ ow1 σ2 _ x4 _ _ e5 _ _ fun f s5 q => ?_
          obtain ⟨rv, rfl, q1, q2, q3⟩ := q; exact wpAny_pure (hR _ _ ⟨rv, rfl, q1, q2, q3.mono (fun _ _ e _ => e) fun b _ _ q q' => q (sub b q')⟩)
theorem sst_for {tg it : Expr} {t : Tgt} {k : IK} {a b : PE} {p : Pos} {body : List Stmt} {pb : List PS} (fx : Fx prog w A hb Γ c env s₀) (hit : SIt prog w A hb Γ c it k a b) (hset : ∀ env x, foldedSetIterable it env x = pure x) (ht : zca c tg = some t) (hfit : zb2 k t = true)
    (hb' : SSs prog w A hb Γ c env s₀ body pb) : SSt prog w A hb Γ c env s₀ (.For tg it body [] p) (.for t k a b pb) := by
  intro O₀ ow σ s x fl σ' h Q E hQ; rw [evS] at h
  split at h
  · rename_i u hu
    split at h
    · rename_i v hv
      split at h
      · rename_i items hi; refine wpAny_For (hit env _ ow σ s x.fr (x.xc fx.g₀) x.tk u v items tg hu hv hi (zfh ht hfit) _ _ fun I wr St s' k' t' W st hwr hlen => ?_) (fun y => hset env y)
        exact for_loop fx x ht hb' W k' t' st hwr h fun f s'' q => hQ f s'' q
      · cases h
    · cases h
  · cases h
end
end Mine
namespace Mine
open PySem PyProof.Rows PySem.Spec
section
variable {prog : Program} {w : World} {A : Around} {hb : HB} {Γ : Gam} {c : CT} {env : Env} {s₀ s : Shared} {O₀ O₁ : Addr → Prop} {ow : Nat → Option Addr} {σ : zad}
theorem SS.own_of (x : SS hb s₀ c env O₀ ow σ s) {n : Str} {i : Nat} {xs : List PV} (hi : c.slot n = some i) (hs : σ[i]? = some (.own xs)) : xs.length ≤ small ∧ ∃ a vs, ow i = some a ∧ a ≠ zao ∧ s.heap.PlainList a vs.toArray ∧ VRs s.heap (zbd O₀ ow) xs vs := by
  have key : ∀ ov, SlotR s.heap (zbd O₀ ow) ow i σ[i]? ov → xs.length ≤ small ∧ ∃ a vs, ow i = some a ∧ a ≠ zao ∧ s.heap.PlainList a vs.toArray ∧ VRs s.heap (zbd O₀ ow) xs vs := by
    intro ov r; rw [hs] at r; obtain ⟨z, a, vs, _, ho, ha, hl, hr⟩ := r; exact ⟨z, a, vs, ho, ha, hl, hr⟩
  rcases x.fr.fk.kinds n i hi with hk | hk
  · obtain ⟨m, _, hr⟩ := x.fr.ns; exact key _ (hr n i hi hk)
  · obtain ⟨a, _, _, ov, _, r⟩ := x.fr.cells n i hi hk; exact key ov r
theorem sst_forOwn {tg : Expr} {t : Tgt} {n : Str} {i : Nat} {pn p : Pos} {body : List Stmt} {pb : List PS} (fx : Fx prog w A hb Γ c env s₀) (hn : zam n = true) (hi : c.slot n = some i) (ht : zca c tg = some t) (hfit : zb2 .plain t = true) (hset : zcd pb i = false)
    (hb' : SSs prog w A hb Γ c env s₀ body pb) : SSt prog w A hb Γ c env s₀ (.For tg (.Name n pn) body [] p) (.forOwn t i pb) := by
  intro O₀ ow σ s x fl σ' h Q E hQ; rw [evS] at h; have g₀ := fx.g₀; have h0 := h; unfold zb9 at h0; rw [show (100000 : Nat) = 99999 + 1 from rfl, loopO] at h0
  split at h0
  · rename_i ys0 hs0; clear h0; obtain ⟨z0, a, vs0, hwa, hta, hl0, hr0⟩ := x.own_of hi hs0; refine wpAny_For (wpAny_Name (zc8 x.fr hi (zax hn).2 fun ov r => ?_) (zax hn).1)
    rw [hs0] at r; obtain ⟨_, a', vs', rfl, hwa', _, hl', _⟩ := r; rw [hwa] at hwa'; cases hwa'; refine ⟨_, rfl, wpAny_pyIter_list hl'.isList ?_⟩; have hDn : s.heap.get? s.heap.objs.size = none := zbh (Nat.le_refl _); generalize hI : s.heap.objs.size = I at *; have hk0 : ∀ b o, s.heap.get? b = some o → (s.heap.push { cls := .type "list_iterator", data := .fields #[.ref a, .int 0 0] }).get? b = some o := fun b o e => Heap.get?_push_of_some _ e
    have hIt : (s.heap.push { cls := .type "list_iterator", data := .fields #[.ref a, .int 0 0] }).IsListIter I a 0 := ⟨_, hI ▸ Heap.get?_push_size _ rfl, rfl, rfl⟩; generalize s.heap.push { cls := .type "list_iterator", data := .fields #[.ref a, .int 0 0] } = H at *; have kp1 : Kp hb s { s with heap := H } := .keeps (tk := s.toks) hk0; have hIO : ¬ O₀ I := fun q => by obtain ⟨_, o, e⟩ := x.ok I (.inl q); rw [hDn] at e; cases e
    have hIw : ∀ j, ow j ≠ some I := fun j q => by obtain ⟨o, e⟩ := x.alive q; rw [hDn] at e; cases e
    have hIt0 : I ≠ zao := fun q => by obtain ⟨o, e⟩ := (x.kp.gs g₀).tab.get; rw [← q, hDn] at e; cases e
    have hIa : a ≠ I := fun q => by obtain ⟨o, e⟩ := x.alive hwa; rw [q, hDn] at e; cases e
    have x1 := x.run g₀ kp1 x.tk; have xs : SS hb s₀ c env (fun b => O₀ b ∨ b ∈ [I]) ow σ { s with heap := H } := by
      refine ⟨x1.kp, (x.fr.grow fun b o e hO q => ?_).kp kp1, fun a ha => ?_, x1.inj, x1.fresh, fun i a q q' => ?_, x.tk, x.own⟩
      · rcases q with (q | q) | q
        · exact hO (.inl q)
        · rw [List.mem_singleton.mp q, hDn] at e; cases e
        · exact hO (.inr q)
      · rcases ha with (ha | ha) | ha
        · exact x1.ok a (.inl ha)
        · rw [List.mem_singleton.mp ha]; obtain ⟨o, e, _⟩ := hIt; exact ⟨hIt0, o, e⟩
        · exact x1.ok a (.inr ha)
      · rcases q' with q' | q'
        · exact x.apart i a q q'
        · exact hIw i (List.mem_singleton.mp q' ▸ q)
    have sub : ∀ b, O₀ b → O₀ b ∨ b ∈ [I] := fun b q => .inl q
    have hf0 : ∀ b ∈ [I], s₀.heap.get? b = none := fun b hb => by rw [List.mem_singleton.mp hb]; exact zbm x.kp g₀ hDn
    refine codeAny_loop' rfl (fun n s'' => ∃ j σ1 ow1, loopO t i (zac Γ 0 pb) j n σ1 = some (fl, σ') ∧ SS hb s₀ c env (fun b => O₀ b ∨ b ∈ [I]) ow1 σ1 s'' ∧ s''.heap.IsListIter I a j ∧ ow1 i = some a ∧
      KS s.heap ow s''.heap ow1 ∧ ∀ j, zcd pb j = false → ow1 j = ow j) (fun n s'' hI => ?_) zb9 ⟨0, σ, ow, h, xs, hIt, hwa, .kp kp1 (x.kp.gs g₀) ow, fun _ _ => rfl⟩
    obtain ⟨j, σ1, ow1, h1, x2, hit, hwi, k2, w2⟩ := hI; show wpAny _ A ((forTurn tg (.ref I) body [] env).onRaise (fun x => do noteFrame x env; theTreesLotGoes x)) _ _ s''
    refine wpAny_noted ?_; simp only [forTurn]; refine wpAny_bind (wpAny_standAt (wpAny_bind (wpAny_onRaise ?_))); have its : ∀ b ∈ [I], ∃ o, s''.heap.get? b = some o ∧ IsIt o := fun b hb => by
      rw [List.mem_singleton.mp hb]; obtain ⟨o, ho, hc, hd⟩ := hit; exact ⟨o, ho, .fields hd (zat hc (by decide)), _, hc, by decide⟩
    have ne : ∀ b o, s.heap.get? b = some o → b ≠ I := fun b o e q => by rw [q, hDn] at e; cases e
    cases n with
    | zero => cases h1
    | succ n =>
      rw [loopO] at h1
      split at h1
      · rename_i ys hs; obtain ⟨z, a2, vs, hwa2, _, hl, hr⟩ := x2.own_of hi hs; rw [hwi] at hwa2; cases hwa2
        split at h1
        · rename_i hx
          cases h1
          refine wpAny_pyNext_list_end fx.cx.handled hit hl.isList ?_ fun h' he' => wpAny_pure (.inr ⟨rfl, codeAny_block (wpAny_execs_nil (hQ _ _ ?_))⟩)
          · rw [List.getElem?_toArray]; rw [List.getElem?_eq_none_iff] at hx ⊢; rw [hr.length]; exact hx
          · have hk : ∀ b o, b ∉ [I] → s''.heap.get? b = some o → h'.get? b = some o := fun b o hb e => he' b o (fun q => hb (List.mem_singleton.mpr q)) e
            have x3 := x2.turnIt (O₀ := O₀) (tk := s''.toks) g₀ (fun b hb => .inr hb) its hf0 hk x2.tk sub fun b q q' => absurd (List.mem_singleton.mp q' ▸ q) hIO
            exact ⟨rfl, ow1, x3, ⟨fun b o e => let ⟨o', e'⟩ := k2.alive b o e; ⟨o', he' b o' (ne b o e) e'⟩, fun b o hb e hd hO => he' b o (ne b o e) (k2.keep b o hb e hd hO), k2.thin⟩, w2⟩
        · rename_i y hy
          split at h1
          · cases h1
          · rename_i σ2 e2; obtain ⟨rv, h3, h4⟩ := hr.get hy; refine wpAny_pyNext_list_item hit hl.isList (x := rv) (by rw [List.getElem?_toArray]; exact h3) fun h' hit' hs' => ?_
            have hk : ∀ b o, b ∉ [I] → s''.heap.get? b = some o → h'.get? b = some o := fun b o hb e => hs'.extBut b o (fun q => hb (List.mem_singleton.mpr q)) e
            have x3 := x2.turnIt (O₀ := fun b => O₀ b ∨ b ∈ [I]) (tk := s''.toks) g₀ (fun b hb => .inr hb) its hf0 hk x2.tk (fun b q => q) fun b _ q => by
              rw [List.mem_singleton.mp q]; obtain ⟨o, ho, _⟩ := hit'; exact ⟨o, ho⟩
            have al : Frm s''.heap (zbd (fun b => O₀ b ∨ b ∈ [I]) ow1) h' (zbd (fun b => O₀ b ∨ b ∈ [I]) ow1) := .turn (X := (· ∈ [I])) (fun b o hb e => hk b o hb e) (fun b q => by rw [List.mem_singleton.mp q]; obtain ⟨o, ho, _⟩ := hit'; exact ⟨o, ho⟩) fun b o hb _ => .inl (.inl (.inr hb))
            have k3 : KS s.heap ow h' ow1 := ⟨fun b o e => let ⟨o', e'⟩ := k2.alive b o e; ⟨o', hs'.extBut b o' (ne b o e) e'⟩, fun b o hb e hd hO => hs'.extBut b o (ne b o e) (k2.keep b o hb e hd hO), k2.thin⟩
            refine wpAny_bind (wpAny_of_eq (zfh ht hfit _ _) ?_); refine wpAny_bind (wpAny_with_toks (n := 1) x2.tk (zey fx.cx.handled ht e2 x3.fr x3.kp g₀ (tg_own fx ht) (h4.frm al) fun h5 tk5 kp5 fm5 kh5 fr5 htk5 => ?_))
            have x5 : SS hb s₀ c env (fun b => O₀ b ∨ b ∈ [I]) ow1 σ2 { s'' with heap := h5, toks := tk5 } := ⟨kp5, fr5, x3.ok.frm fm5, x3.inj, x3.fresh, x3.apart, htk5, x3.own⟩
            have ks5 : KS h' ow1 h5 ow1 := .keepH ow1 kh5 fm5.alive; have next : ∀ (s6 : Shared) ow6, KS h5 ow1 s6.heap ow6 → s6.heap.IsListIter I a (j + 1) := by
              intro s6 ow6 k6; obtain ⟨o, ho, hc, hd⟩ := hit'; exact ⟨o, (ks5.trans k6).keep I o hIt0 ho (.fields hd (zat hc (by decide))) (fun i q => x2.apart i I q (.inr (List.mem_singleton.mpr rfl))), hc, hd⟩
            refine wpAny_bind ?_
            split at h1
            · cases h1
            · rename_i σ6 e6; refine hb' _ ow1 σ2 _ x5 _ _ e6 _ _ fun f s6 q => ?_
              obtain ⟨rfl, ow6, x6, k6, w6⟩ := q; exact wpAny_pure (.inl ⟨rfl, n, Nat.lt_succ_self n, j + 1, σ6, ow6, h1, x6, next s6 ow6 k6, by rw [w6 i hset]; exact hwi, (k3.trans ks5).trans k6, fun i hi => (w6 i hi).trans (w2 i hi)⟩)
            · rename_i σ6 e6; refine hb' _ ow1 σ2 _ x5 _ _ e6 _ _ fun f s6 q => ?_
              obtain ⟨rfl, ow6, x6, k6, w6⟩ := q; exact wpAny_pure (.inl ⟨rfl, n, Nat.lt_succ_self n, j + 1, σ6, ow6, h1, x6, next s6 ow6 k6, by rw [w6 i hset]; exact hwi, (k3.trans ks5).trans k6, fun i hi => (w6 i hi).trans (w2 i hi)⟩)
            · rename_i σ6 e6
              cases h1
              refine hb' _ ow1 σ2 _ x5 _ _ e6 _ _ fun f s6 q => ?_
              obtain ⟨rfl, ow6, x6, k6, w6⟩ := q; exact wpAny_pure (hQ _ _ ⟨rfl, ow6, x6.shrink sub, (k3.trans ks5).trans k6, fun i hi => (w6 i hi).trans (w2 i hi)⟩)
            · rename_i v σ6 e6
              cases h1
              refine hb' _ ow1 σ2 _ x5 _ _ e6 _ _ fun f s6 q => ?_
              obtain ⟨rv, rfl, q1, q2, q3⟩ := q; exact wpAny_pure (hQ _ _ ⟨rv, rfl, q1, q2, q3.mono (fun _ _ e _ => e) fun b _ _ q q' => q (sub b q')⟩)
      · cases h1
  · cases h0
end
end Mine
namespace Mine
open PySem PyProof.Rows PySem.Spec
section
variable {prog : Program} {w : World} {A : Around} {E : Value → Shared → Prop} {s : Shared}
theorem ze6 : isSubtype (.type "list") (.type "module") = pure false := by rw [isSubtype_type]; kernel_rfl
theorem check_app {a : Addr} {x : Value} {vs : Array Value} {Q : Unit → Shared → Prop} (hl : s.heap.PlainList a vs) (h : Q () s) : wpAny (model prog w) A (checkBoundCall "list.append" ⟨[.ref a, x], []⟩) Q E s := by
  have hT : s.TypeIs (.ref a) "list" := hl.isList.typeIs; obtain ⟨n, ho⟩ := hl; unfold checkBoundCall; rw [signature?_of (id := "list.append") (n := ['d', 'n', 'e', 'p', 'p', 'a']) (o := ['t', 's', 'i', 'l']) (by kernel_rfl) F.owner_list]; have hs := ze6; have hk : builtinKind "list.append" = some .method := by kernel_rfl
  rw [hk]; dsimp only; refine wpAny_ite ?_; rw [if_neg (by decide)]; refine wpAny_bind (wpAny_isInstance hT ze6 ?_); refine wpAny_ite ?_; rw [if_neg (by decide +kernel)]; refine wpAny_bind ?_; show wpAny _ _ (do return match (← loadHead a).data with | .cls _ => true | _ => false) _ _ s
  refine wpAny_bind (wpAny_loadPart ho (wpAny_pure ?_)); dsimp only; rw [if_neg (by decide)]; refine wpAny_bind (wpAny_typeOf hT ?_); refine wpAny_of_eq (a := ()) ?_ h
  kernel_rfl
theorem call_app {a b : Addr} {x : Value} {vs : Array Value} {Q : Value → Shared → Prop} (hb : AppObj s.heap b a) (hl : s.heap.PlainList a vs) (hz : vs.size ≤ sizeLine)
    (hQ : ∀ h', h'.PlainList a (vs.push x) → Heap.SameBut a s.heap h' → Q .none { s with heap := h' }) : wpAny (model prog w) A (call (.ref b) [x]) Q E s := by
  obtain ⟨o, fs, ho, hc, hd, h0, h1⟩ := hb; refine wpAny_call (codeAny_of_tree ?_); show wpAny _ A.in1 (callAny (.ref b) ⟨[x], []⟩) _ _ s; simp only [callAny]; refine wpAny_bind (wpAny_load ho ?_); rw [hd]; dsimp only; rw [hc, if_pos (by decide), h0, h1]; dsimp only; rw [if_pos (by decide)]; refine wpAny_bind (check_app hl ?_); refine wpAny_bind (wpAny_pure (wpAny_pure ⟨Code.quiet_builtin _ (by decide +kernel), codeAny_builtin entry_list_append ?_⟩)); obtain ⟨n, hD⟩ := hl; show wpAny _ _ (updateSeq a (·.push x) >>= fun _ => ret .none) _ _ s
  refine wpAny_bind ?_; refine wpAny_updateSeq hD rfl (wpAny_pure (hQ _ ⟨n + 1, ?_⟩ (Heap.SameBut.update ..))); rw [Heap.get?_update_self _ hD (by rw [Obj.mapSeq_push_plain]; rfl), Obj.mapSeq_push_plain]
theorem zhw {pos : Pos} {b a : Addr} {args : List (Bool × Sem Value)} {Q : Value → Shared → Prop} (hplain : args.any (·.1) = false)
    (h : wpAny (model prog w) A (evalArgs (.ref b) true args []) (fun x s₁ => AppObj s₁.heap b a ∧ wpAny (model prog w) A (call (.ref b) x.pos x.kw) Q E s₁) E s) : wpAny (model prog w) A (callWith pos (.ref b) [] args []) Q E s := by
  unfold callWith; refine wpAny_bind (wpAny_holding (wpAny_mono h (fun x s₁ h₁ => wpAny_bind (wpAny_standAt ?_)) fun _ _ x => x))
  obtain ⟨⟨o, fs, ho, hc, hd, h0, h1⟩, hcall⟩ := h₁; simp only [hplain, List.any_nil, Bool.or_false]; refine wpAny_bind (m := keeperOf (.ref b)) ?_; unfold keeperOf; refine wpAny_bind (wpAny_load ho ?_); rw [hd]; dsimp only; rw [hc, if_pos (by decide), if_pos (by decide)]; refine wpAny_pure ?_; exact wpAny_bind (wpAny_mono hcall (fun r s₂ hr => wpAny_bind (wpAny_holding (wpAny_point (wpAny_pure hr)))) fun _ _ x => x)
end
section
variable {prog : Program} {w : World} {A : Around} {hb : HB} {Γ : Gam} {c : CT} {env : Env} {s₀ s : Shared} {O₀ O₁ : Addr → Prop} {ow : Nat → Option Addr} {σ : zad}
theorem sst_pushA {n : Str} {i : Nat} {v : Expr} {pe : PE} {px cp p : Pos} (fx : Fx prog w A hb Γ c env s₀) (hn : zam n = true) (hi : c.slot n = some i) {m : Str} {r : Nat} (hm : c.slot m = some r) (hc : cE c v = some pe) (he : SE prog w A hb Γ c v pe) :
    SSt prog w A hb Γ c env s₀ (.Expr (.Call (.Name n px) [v] [] cp) p) (.pushA i r pe) := by
  intro O₀ ow σ s x fl σ' h Q E hQ; rw [evS] at h
  split at h
  · rename_i r' hsr
    split at h
    · rename_i hrr; subst hrr
      split at h
      · rename_i u hu
        split at h
        · rename_i xs hs
          split at h
          · rename_i hz
            cases h
            have hint : interactive env = false := by unfold interactive; rw [x.fr.fk.kind]; rfl
            refine wpAny_Expr ?_ hint rfl; refine wpAny_Call_NameR (wpAny_Name (zc8 x.fr hi (zax hn).2 fun ov q => ?_) (zax hn).1)
            rw [hsr] at q; obtain ⟨b, rfl, hbt, happ⟩ := q; obtain ⟨z, a, vs, hw, hta, hl, hr⟩ := x.own_of hm hs; have happ := happ a hw; refine ⟨_, rfl, ?_⟩; have hun : zce env [v] := zbi (c := c) (pes := [pe]) (by rw [cEs, hc]; rfl); refine zhw (a := a) (hun cp).1 ?_; rw [zb7 hc]; refine Calls.evalArgs_plain (Calls.spliced_cons (he.val x.fr (x.xc fx.g₀) x.tk hu _ _ fun rv s1 k1 t1 r1 => ?_))
            refine Calls.spliced_nil ?_; have x1 := x.run fx.g₀ k1 t1; have hl1 := zb4 k1.soft hta hl; have hr1 := VRs.kp k1 hr; refine ⟨happ.soft k1.soft hbt, call_app (happ.soft k1.soft hbt) hl1 (by rw [List.size_toArray, hr1.length]; exact Nat.le_trans z zbb) fun h' hl' hsb => ?_⟩
            obtain ⟨x2, k2⟩ := x1.grow fx.g₀ hw hs hl1 hl' hsb hr1 r1 hz; exact hQ _ _ ⟨rfl, ow, x2, (KS.kp k1 (x.kp.gs fx.g₀) ow).trans k2, fun _ _ => rfl⟩
          · cases h
        · cases h
      · cases h
    · cases h
  · cases h
end
end Mine
namespace Mine
open PySem PyProof.Rows PySem.Spec
theorem slot_md_get : PySem.Slot "method_descriptor" "__get__" "method_descriptor.__get__" :=
  .of (owner := "method_descriptor") (n := "__get__") (by rw [typeLookup_type, builtinLookup_eq_fast]; kernel_rfl) (by decide +kernel) (by decide +kernel) (by decide +kernel)
    (by first | exact .inl (by decide +kernel) | exact .inr (by decide +kernel)) (by rw [isSubtype_type]; kernel_rfl)
theorem entry_md_get : entryFor table "method_descriptor.__get__" = some Builtin.«method_descriptor.__get__» := entryFor_of_tree (by kernel_rfl)
theorem args_md_get (a b c : Value) : argsOk "method_descriptor.__get__" ⟨[a, b, c], []⟩ := by unfold argsOk; kernel_rfl
theorem lk_md_set : typeLookup (.type "method_descriptor") "__set__" = pure none := by rw [typeLookup_type, builtinLookup_eq_fast]; kernel_rfl
theorem lk_md_del : typeLookup (.type "method_descriptor") "__delete__" = pure none := by rw [typeLookup_type, builtinLookup_eq_fast]; kernel_rfl
theorem zhz : typeLookup (.type "list") "append" = pure (some (.builtin "list.append")) := by rw [typeLookup_type, builtinLookup_eq_fast]; kernel_rfl
section
variable {prog : Program} {w : World} {A : Around} {E : Value → Shared → Prop} {h : Heap} {g : Array GenState} {d : Drawn} {t : Nat} {os : OsState} {a : Addr} {o : Obj}
theorem sub_list_list : isSubtype (.type "list") (.type (".".intercalate ("list.append".cutAt '.').dropLast)) = pure true := by
  rw [show ".".intercalate ("list.append".cutAt '.').dropLast = "list" by first | decide +kernel | (simp +decide [String.cutAt])]; rw [isSubtype_type]; kernel_rfl
theorem app_get {R : Result → Shared → Prop} {vs : Array Value} {n : Nat} (hx : h.get? a = some { cls := .type "list", data := .seq vs n }) (hq : R (.ok (.ret (.ref h.objs.size))) ⟨h.push { cls := .type "builtin_function_or_method", data := .fields #[.builtin "list.append", .ref a] }, g, d, t, os⟩) :
    codeAny (model prog w) A (.call (.builtin "method_descriptor.__get__") ⟨[.builtin "list.append", .ref a, .type "list"], []⟩) R ⟨h, g, d, t, os⟩ := by
  have hT : (⟨h, g, d, t, os⟩ : Shared).TypeIs (.ref a) "list" := ⟨_, hx, rfl⟩; have hT5 : (⟨h, g, d, t, os⟩ : Shared).TypeIs (.builtin "list.append") "method_descriptor" := F.type_list_append; have f8 := sub_list_list; refine codeAny_call_builtin slot_md_get.plain entry_md_get (slot_md_get.check _ _ _ _ _ _ _ _ hT5 (args_md_get _ _ _) ?_)
  repeat (any_goals (first | assumption | wp_step))
theorem app_entry {tk : Tok} {Q : Fin → Shared → Prop} {vs : Array Value} {n : Nat} (hx : h.get? a = some { cls := .type "list", data := .seq vs n }) (hq : Q (.done (.ret (.ref h.objs.size))) ⟨h.push { cls := .type "builtin_function_or_method", data := .fields #[.builtin "list.append", .ref a] }, g, d, t, os⟩) :
    wpAny (model prog w) A (Builtin.«object.__getattribute__» ⟨[.ref a, .str "append" tk], []⟩) Q E ⟨h, g, d, t, os⟩ := by
  have hT : (⟨h, g, d, t, os⟩ : Shared).TypeIs (.ref a) "list" := ⟨_, hx, rfl⟩; have hT5 : (⟨h, g, d, t, os⟩ : Shared).TypeIs (.builtin "list.append") "method_descriptor" := F.type_list_append; have f4 := zhz; have f5 := F.type_list_append; have f6 := slot_md_get.lookup; have f7 := lk_md_set; have f8 := lk_md_del
  repeat (any_goals (first | assumption | wp_step))
  refine app_get hx ?_
  repeat (any_goals (first | assumption | wp_step))
theorem app_call {tk : Tok} {R : Result → Shared → Prop} {vs : Array Value} {n : Nat} (hx : h.get? a = some { cls := .type "list", data := .seq vs n }) (hq : R (.ok (.ret (.ref h.objs.size))) ⟨h.push { cls := .type "builtin_function_or_method", data := .fields #[.builtin "list.append", .ref a] }, g, d, t, os⟩) :
    codeAny (model prog w) A (.call (.builtin "list.__getattribute__") ⟨[.ref a, .str "append" tk], []⟩) R ⟨h, g, d, t, os⟩ :=
  codeAny_call_builtin F.slot_list_getattribute.plain F.entry_list_ga (F.slot_list_getattribute.check _ _ _ _ _ _ _ _ (show (⟨h, g, d, t, os⟩ : Shared).TypeIs (.ref a) "list" from ⟨_, hx, rfl⟩) (F.args_list_getattribute_2 _ _) (app_entry hx hq))
theorem app_by {tk : Tok} {Q : Value → Shared → Prop} {vs : Array Value} {n : Nat} (hx : h.get? a = some { cls := .type "list", data := .seq vs n }) (hq : Q (.ref h.objs.size) ⟨h.push { cls := .type "builtin_function_or_method", data := .fields #[.builtin "list.append", .ref a] }, g, d, t, os⟩) :
    wpAny (model prog w) A (getAttrBy (.ref a) (.str "append" tk) true true) Q E ⟨h, g, d, t, os⟩ := by
  have hT : (⟨h, g, d, t, os⟩ : Shared).TypeIs (.ref a) "list" := ⟨_, hx, rfl⟩; have f2 := F.slot_list_getattribute.lookup; have f3 := F.slot_list_getattribute.bind (.ref a)
  repeat (any_goals (first | assumption | wp_step))
  refine app_call hx ?_
  repeat (any_goals (first | assumption | wp_step))
theorem app_attr {Q : Value → Shared → Prop} {vs : Array Value} {n : Nat} (hx : h.get? a = some { cls := .type "list", data := .seq vs n }) (hq : Q (.ref h.objs.size) ⟨h.push { cls := .type "builtin_function_or_method", data := .fields #[.builtin "list.append", .ref a] }, g, d, t + 1, os⟩) :
    wpAny (model prog w) A (getAttr (.ref a) "append" true) Q E ⟨h, g, d, t, os⟩ := by
  unfold getAttr
  repeat (any_goals (first | assumption | with_reducible apply app_by hx | wp_step))
end
end Mine
namespace Mine
open PySem PyProof.Rows PySem.Spec
section
variable {prog : Program} {w : World} {A : Around} {hb : HB} {Γ : Gam} {c : CT} {env : Env} {s₀ s : Shared} {O₀ O₁ : Addr → Prop} {ow : Nat → Option Addr} {σ : zad}
theorem sst_app {n y : Str} {i j : Nat} {px py pa p : Pos} (fx : Fx prog w A hb Γ c env s₀) (hn : zam y = true) (hi : c.slot n = some i) (hj : c.slot y = some j) : SSt prog w A hb Γ c env s₀ (.Assign [.Name n px] (.Attribute (.Name y py) ("append" : Str) pa) p) (.app i j) := by
  intro O₀ ow σ s x fl σ' h Q E hQ; rw [evS] at h
  split at h
  · rename_i xs hs
    split at h
    · cases h
    · rename_i hne
      cases h
      refine wpAny_with_toks x.tk ?_; rw [exec_Assign_Name _ _ _ _ _ rfl]; refine wpAny_bind (wpAny_standAt (wpAny_bind (Attribute_name (wpAny_Name (zc8 x.fr hj (zax hn).2 fun ov r => ?_) (zax hn).1))))
      rw [hs] at r; obtain ⟨z, a, vs, rfl, hw, hta, ⟨m, hl⟩, hr⟩ := r; refine ⟨_, rfl, app_attr hl ?_⟩; generalize hH : s.heap.push { cls := .type "builtin_function_or_method", data := .fields #[.builtin "list.append", .ref a] } = H
      have hk : ∀ b o, s.heap.get? b = some o → H.get? b = some o := fun b o e => hH ▸ Heap.get?_push_of_some _ e
      have hB : H.get? s.heap.objs.size = some { cls := .type "builtin_function_or_method", data := .fields #[.builtin "list.append", .ref a] } := hH ▸ Heap.get?_push_size _ rfl
      have kp1 : Kp hb s { s with heap := H, toks := s.toks + 1 } := .keeps hk; have xc := x.xc fx.g₀; have x1 := x.run fx.g₀ kp1 (Nat.le_succ_of_le x.tk); refine wpAny_bind (wpAny_standAt (wpAny_bind (wpAny_bindName (ze5 (sl := .app j) (x1.fr.less (less_set σ i)) hi x1.kp fx.g₀ (fx.own n i hi) ⟨s.heap.objs.size, rfl, xc.off, fun a' q => ?_⟩ fun h' tk k1 k2 k3 k4 k5 => wpAny_pure fun tk' => ?_))))
      · rw [hw] at q; cases q; exact ⟨_, _, hB, rfl, rfl, rfl, rfl⟩
      · exact hQ _ _ ⟨rfl, ow, ⟨k1, k4, x1.ok.frm k2, x1.inj, x1.fresh, x1.apart, tk', x1.own⟩, (KS.kp kp1 (x.kp.gs fx.g₀) ow).trans (.keepH ow k3 k2.alive), fun _ _ => rfl⟩
  · cases h
end
end Mine
namespace Mine
open PySem PyProof.Rows PySem.Spec
theorem zd6 (σ : zad) (i : Nat) (v : PV) (k : Nat) : (zaa σ i (.val v))[k]? = if k = i then (if k < σ.length then some (Mine.Slot.val v) else none) else (σ[k]?).map fun t => match t with | .app r => if r = i then Mine.Slot.unset else t | t => t := by
  unfold zaa; by_cases h : k = i
  · subst h; rw [if_pos rfl]; by_cases hk : k < σ.length
    · rw [if_pos hk, List.getElem?_set_self (by rw [List.length_map]; exact hk)]
    · rw [if_neg hk, List.getElem?_eq_none]; rw [List.length_set, List.length_map]; omega
  · rw [if_neg h, List.getElem?_set_ne (Ne.symm h), List.getElem?_map]
    first | done | rfl | (congr 1; done) | (congr 1; funext t; cases t <;> rfl)
theorem zfm (σ : zad) (i : Nat) (s : Mine.Slot) : (zaa σ i s).length = σ.length := by
  unfold zaa; rw [List.length_set, List.length_map]
theorem setSlot_comm (σ : zad) {i j : Nat} (h : i ≠ j) (u v : PV) : zaa (zaa σ i (.val u)) j (.val v) = zaa (zaa σ j (.val v)) i (.val u) := by
  apply List.ext_getElem?; intro k; rw [zd6, zd6, zd6, zd6, zfm, zfm]; by_cases h1 : k = j
  · subst h1; rw [if_pos rfl, if_neg (Ne.symm h), if_pos rfl]; by_cases hk : k < σ.length
    · rw [if_pos hk]; rfl
    · rw [if_neg hk]; rfl
  · rw [if_neg h1]; by_cases h2 : k = i
    · subst h2; rw [if_pos rfl, if_pos rfl]; by_cases hk : k < σ.length
      · rw [if_pos hk]; rfl
      · rw [if_neg hk]; rfl
    · rw [if_neg h2, if_neg h2, if_neg h1]
      cases σ[k]? with
      | none => rfl
      | some t =>
        cases t with
        | app r =>
          by_cases hr : r = i <;> by_cases hr' : r = j <;> simp [hr, hr', h, Ne.symm h]
          all_goals (try (subst hr; simp [hr']))
          all_goals (try (subst hr'; simp [hr]))
        | _ => rfl
section
variable {prog : Program} {w : World} {A : Around} {hb : HB} {Γ : Gam} {c : CT} {env : Env} {s₀ s : Shared} {O₀ O₁ : Addr → Prop} {ow : Nat → Option Addr} {σ : zad}
theorem swapped_of {n1 n2 : Str} {p1 p2 tp vp : Pos} {k k2 : Nat} {a b : Expr} (hk : env.scope.kind = .function) (ha : ∀ e q, a ≠ .Starred e q) (hb' : ∀ e q, b ≠ .Starred e q) (hcon : [a, b].all (constantsAlone 8) = false) :
    swappedStores [.Tuple [.Name n1 p1, .Name n2 p2] k tp] (.Tuple [a, b] k2 vp) env = pure none ∨ swappedStores [.Tuple [.Name n1 p1, .Name n2 p2] k tp] (.Tuple [a, b] k2 vp) env = pure (some [n1, n2]) := by
  have hbk : (env.blockKind != .function) = false := by unfold Env.blockKind; rw [hk]; rfl
  unfold swappedStores; simp only [List.length_cons, List.length_nil, hbk, Bool.or_false]; rw [if_neg (by decide)]
  split
  · exact .inl rfl
  split
  · exact .inl rfl
  · rename_i hlen
    split
    · exact .inl rfl
    · rw [if_neg (by rw [hcon]; decide)]; refine .inr ?_; have key : ∀ (p q : Prop) [Decidable p] [Decidable q], (List.filterMap (fun x : Option Str => x) [if p then some n1 else none, if q then some n2 else none]).length = 2 → p ∧ q := by
        intro p q _ _ h; by_cases hp : p <;> by_cases hq : q <;> simp [hp, hq] at h ⊢
      simp only [List.filterMap_cons, List.filterMap_nil] at hlen ⊢; by_cases h1 : (env.kindOf n1 == some NameKind.local && p1.line == (Option.map (fun x : Expr => x.pos.line) [Expr.Name n1 p1, Expr.Name n2 p2].head?).getD 0) = true <;>
      by_cases h2 : (env.kindOf n2 == some NameKind.local && p2.line == (Option.map (fun x : Expr => x.pos.line) [Expr.Name n1 p1, Expr.Name n2 p2].head?).getD 0) = true
      · simp only [h1, h2, if_true]
      · exfalso; apply hlen; simp only [h1, h2, if_true]; rfl
      · exfalso; apply hlen; simp only [h1, h2, if_true]; rfl
      · exfalso; apply hlen; simp only [h1, h2]; rfl
theorem sst_tup2 {n1 n2 : Str} {i j : Nat} {p1 p2 tp vp p : Pos} {k k2 : Nat} {a b : Expr} {pa pb : PE} (fx : Fx prog w A hb Γ c env s₀) (hi : c.slot n1 = some i) (hj : c.slot n2 = some j) (ha : cE c a = some pa) (hb' : cE c b = some pb) (hcon : [a, b].all (constantsAlone 8) = false) :
    SSt prog w A hb Γ c env s₀ (.Assign [.Tuple [.Name n1 p1, .Name n2 p2] k tp] (.Tuple [a, b] k2 vp) p) (.tup2 i j pa pb) := by
  intro O₀ ow σ s x fl σ' h Q E hQ; rw [evS] at h
  split at h
  · rename_i u hu
    split at h
    · rename_i v hv
      split at h
      · cases h
      · rename_i hne
        cases h
        have hes : cEs c [a, b] = some [pa, pb] := by rw [cEs, ha, cEs, hb']; rfl
        have he : SE prog w A hb Γ c (.Tuple [a, b] k2 vp) (.tpl [pa, pb]) := se_tpl (by show 2 ≤ 64; decide) hes (zfo fx.cx c _ _ hes); have hval : evE Γ (.tpl [pa, pb]) .val σ = some (.tup [u, v]) := by
          show fin .val ((zag Γ [pa, pb] σ).map .tup) = _; rw [zag, hu, zag, hv]; rfl
        have na : ∀ e q, a ≠ .Starred e q := fun e q h => by subst h; simp [cE] at ha
        have nb : ∀ e q, b ≠ .Starred e q := fun e q h => by subst h; simp [cE] at hb'
        rcases swapped_of (env := env) (n1 := n1) (n2 := n2) (p1 := p1) (p2 := p2) (tp := tp) (vp := vp) (k := k) (k2 := k2) x.fr.fk.kind na nb hcon with hw | hw
        · refine Assign_Tuple ?_ rfl hw; refine he.val x.fr (x.xc fx.g₀) x.tk hval _ _ fun rv s1 k1 t1 r1 => ?_
          have x1 := x.run fx.g₀ k1 t1; have ht : zca c (.Tuple [.Name n1 p1, .Name n2 p2] k tp) = some (.two i j) := by simp [zca, hi, hj]
          refine wpAny_with_toks t1 (zey fx.cx.handled ht (σ1 := zaa (zaa σ i (.val u)) j (.val v)) rfl x1.fr x1.kp fx.g₀ (tg_own fx ht) r1 fun h2 tk2 kp2 fm2 kh2 fr2 htk2 => ?_)
          exact hQ _ _ ⟨rfl, ow, ⟨kp2, fr2, x1.ok.frm fm2, x1.inj, x1.fresh, x1.apart, htk2, x1.own⟩, (KS.kp k1 (x.kp.gs fx.g₀) ow).trans (.keepH ow kh2 fm2.alive), fun _ _ => rfl⟩
        · refine Assign_Tuple_swapped ?_ rfl hw; refine he.val x.fr (x.xc fx.g₀) x.tk hval _ _ fun rv s1 k1 t1 r1 => ?_
          have x1 := x.run fx.g₀ k1 t1; obtain ⟨_, T, vs, rfl, _, _, ⟨o, ho, hc, nn, hd⟩, va, _, rfl, ra, vb, _, rfl, rb, rfl⟩ := r1; refine wpAny_unpackItems_tuple (items := #[va, vb]) fx.cx.handled ⟨o, ho, hc, nn, hd⟩ fun h3 hx3 => ?_
          have hk3 : ∀ b o, s1.heap.get? b = some o → h3.get? b = some o := fun b o e => hx3 b o (Nat.ne_of_lt (Heap.lt_size e)) e
          have kp3 : Kp hb s1 { s1 with heap := h3 } := .keeps (tk := s1.toks) hk3; have x3 := x1.run fx.g₀ kp3 t1; show wpAny (model prog w) A (do holding [va] (bindName env n2 vb); do holding [] (bindName env n1 va); pure ()) _ _ _; refine wpAny_bind (wpAny_holding (wpAny_bindName (zcy fx x3 hj (VR.kp kp3 rb) fun s4 x4 k4 _ => ?_)))
          refine wpAny_bind (wpAny_holding (wpAny_bindName (zcy fx x4 hi ((VR.kp kp3 ra).frm (k4.frm O₀)) fun s5 x5 k5 _ => wpAny_pure ?_)))
          refine hQ _ _ ⟨rfl, ow, ?_, ((KS.kp (k1.trans kp3) (x.kp.gs fx.g₀) ow).trans k4).trans k5, fun _ _ => rfl⟩
          rw [setSlot_comm _ hne]; exact x5
    · cases h
  · cases h
end
end Mine
namespace Mine
open PySem PyProof.Rows PySem.Spec
theorem codeAmong_app {pos : Pos} {x y c : Value} : ∀ (l : List Value) {r : Value}, TriplesOk l → codeAmong pos (l ++ [x, y, c]) = some r → codeAmong pos l = some r ∨ r = c := by
  intro l r h
  fun_induction TriplesOk l with
  | case1 =>
    intro q
    right
    cases x <;> cases y <;> simp [codeAmong] at q
    exact q.2.symm
  | case2 a t b u z rest ih =>
    intro q
    simp only [List.cons_append, codeAmong] at q ⊢
    split at q
    · rename_i hc; left; rw [if_pos hc]; exact q
    · rename_i hc; rw [if_neg hc]; exact ih h q
  | case3 => exact absurd h (by simp_all)
section
variable {M : Model} {A : Around} {E : Value → Shared → Prop} {s : Shared} {hb : HB} {env : Env} {pos : Pos}
theorem made_ok {ps : Array Value} {c' : Addr} {q : Str} {h' : Heap} {tk : Nat} {P' : Addr} (t : s.heap.TableAt zc1 zao ps) (i : s.heap.IsCode zc1 zao ps) (e : ∀ pos c, codeAmong pos ps.toList = some c → ∃ a q, c = .ref a ∧ s.heap.CodeRec c q ∧ ∃ o, s.heap.get? a = some o ∧ o.cls = .type "code")
    (hx : Heap.ExtBut zao s.heap h') (hI : h'.IsCode zc1 zao (ps ++ #[rawInt pos.line, rawInt pos.col, .ref c'])) (hR : h'.CodeRec (.ref c') q) (hT : h'.TableAt zc1 zao (ps ++ #[rawInt pos.line, rawInt pos.col, .ref c'])) (hT' : h'.TableAt c' P' #[]) :
    Kp hb s { s with heap := h', toks := tk } := by
  have sf : Soft s.heap h' := fun b o hb' e => .inl (hx b o hb' e)
  refine ⟨sf, rfl, fun g => ⟨fun b o hb' e => hx b o hb' (g.hard b o hb' e), ⟨_, hT, hI, fun pos' c hc => ?_⟩, g.gens, g.fdS sf⟩⟩
  have hc' : codeAmong pos' (ps.toList ++ [rawInt pos.line, rawInt pos.col, .ref c']) = some c := by simpa using hc
  have htr : TriplesOk ps.toList := let ⟨_, _, _, _, _, _, _, _, _, _, _, _, _, _, _, _, _, _, _, ht, _⟩ := i; ht; rcases codeAmong_app _ htr hc' with h1 | rfl
  · obtain ⟨a, q', rfl, ⟨c2, oo, vv, tt, e1, e2, e3⟩, o, h3, h4⟩ := e pos' c h1
    cases e1
    have hne : a ≠ zao := fun q => by
      have := t.2; rw [← q, h3] at this; cases this; cases h4
    exact ⟨a, q', rfl, ⟨a, oo, vv, tt, rfl, hx _ _ hne e2, e3⟩, o, hx _ _ hne h3, h4⟩
  · obtain ⟨⟨o, vs, a1, a2, _⟩, _⟩ := hT'; exact ⟨c', q, rfl, hR, o, a1, a2⟩
theorem genCode_ok {qualname : Str} {scope : Scope} {Q : Value → Shared → Prop} (hc : env.code = .ref zc1) (g : GS hb s) (hQ : ∀ c' q s', Kp hb s s' → s.heap.objs.size ≤ s'.heap.objs.size → s'.heap.CodeRec (.ref c') q → Q (.ref c') s') :
    wpAny M A (genexprCode env pos qualname scope) Q E s := by
  obtain ⟨ps, t, i, e⟩ := g.tab
  cases hn : codeAmong pos ps.toList with
  | none => exact wpAny_genexprCodeX hc i t hn fun c' h' tk hx h1 h2 hI hR hT ⟨P', _, _, hT'⟩ => hQ c' _ _ (made_ok t i e hx hI hR hT hT') (by show _ ≤ h'.objs.size; omega) hR
  | some c =>
    obtain ⟨a, q, rfl, hR, _⟩ := e pos c hn
    exact wpAny_codeAt_hit hc i hn (hQ a q s (.refl ..) (Nat.le_refl _) hR)
theorem fnCode_ok {firstLine : Nat} {name qualname : Str} {p : Arguments} {scope : Scope} {body : FuncBody} {Q : Value → Shared → Prop} (hc : env.code = .ref zc1) (g : GS hb s) (hQ : ∀ c' q s', Kp hb s s' → s'.heap.CodeRec (.ref c') q → c' ≠ zao → Q (.ref c') s') :
    wpAny M A (functionCode env pos firstLine name qualname p scope body) Q E s := by
  obtain ⟨ps, t, i, e⟩ := g.tab
  cases hn : codeAmong pos ps.toList with
  | none => exact wpAny_functionCodeX hc i t hn fun c' h' tk hx h1 h2 hI hR hT ⟨P', _, _, hT'⟩ => hQ c' _ _ (made_ok t i e hx hI hR hT hT') hR (fun q => by
      obtain ⟨⟨o, vs, a1, a2, _⟩, _⟩ := hT'; have := hT.2; rw [← q, a1] at this; cases this; cases a2)
  | some c =>
    obtain ⟨a, q, rfl, hR, o, h3, h4⟩ := e pos c hn
    exact wpAny_functionCode_hit hc i hn (hQ a q s (.refl ..) hR fun q => by
      have := t.2; rw [← q, h3] at this; cases this; cases h4)
end
end Mine
namespace Mine
open PySem PyProof.Rows PySem.Spec
section
variable {prog : Program} {w : World} {A : Around} {E : Value → Shared → Prop} {s : Shared} {env : Env}
theorem repl_eval {o : Expr} {ap pos p1 p2 : Pos} {a b : Str} {k1 k2 : Nat} {Q : Value → Shared → Prop} (h1 : zd0 o = true) (h2 : (ap.endLine == pos.line) = true)
    (h : wpAny (model prog w) A (eval o env) (fun rx s₁ => ∃ x t, rx = .str x t ∧ wpAny (model prog w) A (call (.builtin "str.replace") [.str x t, .str a s₁.toks, .str b (s₁.toks + 1)]) Q E { s₁ with toks := s₁.toks + 1 + 1 }) E s) :
    wpAny (model prog w) A (eval (.Call (.Attribute o ("replace" : Str) ap) [.Constant (.str a) k1 p1, .Constant (.str b) k2 p2] [] pos) env) Q E s := by
  have hun : zce env [.Constant (.str a) k1 p1, .Constant (.str b) k2 p2] := fun _ => ⟨rfl, rfl⟩
  refine wpAny_Call_method (zct h1 ..) (zd8 hun (by show 2 < 20; decide)) h2 F.plainAttrs_str F.slot_str_replace F.type_str_replace (wpAny_mono h (fun rx s₁ h₁ => ?_) fun _ _ x => x)
  obtain ⟨x, t, rfl, hc⟩ := h₁; refine ⟨rfl, (fun _ e => nomatch e), ?_⟩
  refine Calls.callWith_builtin (hun pos).1 ?_; exact Calls.evalArgs_plain (Calls.spliced_cons (wpAny_Constant_str (k := k1) (pos := p1) (Calls.spliced_cons (wpAny_Constant_str (k := k2) (pos := p2) (Calls.spliced_nil hc)))))
theorem replace_none {x y z : Str} {t u v : Tok} {Q : Value → Shared → Prop} (hn : ((Builtin.Str.occurrences x y 0 x.length (x.length + 1)).isEmpty || (y.length == 0 && z.length == 0)) = true) (hQ : Q (.str x t) s) :
    wpAny (model prog w) A (call (.builtin "str.replace") [.str x t, .str y u, .str z v]) Q E s := by
  refine PySem.call_gives F.slot_str_replace (typeIs_str _ _ _) F.entry_str_replace (F.args_str_replace_3 _ _ _) (gives_str_replace x y z t u v fun q => by rw [hn] at q; cases q) ?_
  rw [if_pos hn]; exact hQ
structure GenShape (elt tgt : Expr) (sc : Scope) : Prop where
  ex : ∃ v pv a1 a2 p0 p1 p2 q1 q2 q3 q4 k1 k2 k3 k4, tgt = .Name v pv ∧ elt = .Call (.Attribute (.Call (.Attribute (.Name v p0) ("replace" : Str) a1) [.Constant (.str "\\") k1 q1, .Constant (.str "\\\\") k2 q2] [] p1) ("replace" : Str) a2) [.Constant (.str "-") k3 q3, .Constant (.str "\\-") k4 q4] [] p2 ∧
    (a1.endLine == p1.line) = true ∧ (a2.endLine == p2.line) = true ∧ zam v = true ∧ sc.kind = .function ∧ sc.isCoroutine = false ∧ sc.names = [((".0" : Str), NameKind.local), (v, NameKind.local)] ∧ v ≠ (".0" : Str)
theorem shape_of {elt tgt : Expr} {sc : Scope} (h : okGen elt tgt sc = true) : GenShape elt tgt sc := by
  unfold okGen at h
  split at h
  · simp only [Bool.and_eq_true, beq_iff_eq, bne_iff_ne, ne_eq] at h; obtain ⟨⟨⟨⟨⟨⟨⟨⟨⟨⟨⟨⟨⟨rfl, rfl⟩, rfl⟩, rfl⟩, rfl⟩, rfl⟩, rfl⟩, h8⟩, h9⟩, h10⟩, h11⟩, h12⟩, h13⟩, h14⟩ := h; exact ⟨_, _, _, _, _, _, _, _, _, _, _, _, _, _, _, rfl, rfl, by simpa using h8, by simpa using h9, h10, h11, by simpa using h12, h13, h14⟩
  · cases h
theorem elt_run {elt tgt : Expr} {sc : Scope} (G : GenShape elt tgt sc) {m : Str → Option Value} {v : Str} {pv : Pos} {t : Tok} (ht : tgt = .Name v pv) (hsc : env.scope = sc) (hn : s.heap.Ns env.locals m) (hm : m v = some (.str ⟨#[33, 45]⟩ t)) {Q : Value → Shared → Prop}
    (hQ : ∀ t' k, Q (.str ⟨#[33, 92, 45]⟩ t') { s with toks := k }) : wpAny (model prog w) A (eval elt env) Q E s := by
  obtain ⟨v', pv', a1, a2, p0, p1, p2, q1, q2, q3, q4, k1, k2, k3, k4, rfl, rfl, h1, h2, hv, hk, hco, hns, hne⟩ := G.ex
  cases ht
  refine repl_eval rfl h2 (repl_eval rfl h1 ?_); have hl : env.scope.names.lookup v = some .local := by
    rw [hsc, hns]; have : (v == (".0" : Str)) = false := by simpa using hne
    simp [List.lookup, this]
  refine ldG hn hm ⟨_, t, rfl, ?_⟩ (by rw [hsc]; exact hk) hl (zax hv).1; refine replace_none (by decide +kernel) ⟨_, t, rfl, ?_⟩; refine SC.replaceW (Nat.succ_ne_zero _) (Nat.succ_ne_zero _) (Nat.ne_of_lt (Nat.lt_succ_self _)) (by decide +kernel) (by decide +kernel) (by decide +kernel) fun t' k => ?_
  have e : Txt.replace ⟨#[33, 45]⟩ "-" "\\-" = ⟨#[33, 92, 45]⟩ := by decide +kernel
  rw [e]; exact hQ t' k
end
end Mine
namespace Mine
open PySem PyProof.Rows PySem.Spec
section
variable {prog : Program} {w : World} {A : Around} {hb : HB} {Γ : Gam} {c : CT} {env : Env} {s₀ s : Shared} {O₀ : Addr → Prop} {ow : Nat → Option Addr} {σ : zad}
theorem closure_nil {sc : Scope} {v : Str} (h : sc.names = [((".0" : Str), NameKind.local), (v, NameKind.local)]) (env : Env) : closureFor sc env = pure [] := by
  simp only [closureFor, h]; rfl
theorem gen_join {elt tgt : Expr} {sc : Scope} {z : Str} {iz : Nat} {k1 : Nat} {p1 ap pz gp cp : Pos} (fx : Fx prog w A hb Γ c env s₀) (hT : c.inT = true) (G : GenShape elt tgt sc) (hline : (ap.endLine == cp.line) = true) (hz : c.slot z = some iz) (oz : zam z = true)
    (x : SS hb s₀ c env O₀ ow σ s) (hv : zbe σ iz = some (.list [.str [33, 45]])) {Q : Value → Shared → Prop} {E : Value → Shared → Prop} (hQ : ∀ rv s', Kp hb s s' → 1 ≤ s'.toks → VR s'.heap (zbd O₀ ow) (.str [33, 92, 45]) rv → Q rv s') :
    wpAny (model prog w) A (eval (.Call (.Attribute (.Constant (.str "-") k1 p1) ("join" : Str) ap) [.GeneratorExp elt [⟨tgt, .Name z pz, [], 0⟩] sc gp] [] cp) env) Q E s := by
  have g₀ := fx.g₀; have hA := fx.cx.handled; have hun : zce env [.GeneratorExp elt [⟨tgt, .Name z pz, [], 0⟩] sc gp] := fun _ => ⟨rfl, rfl⟩
  refine wpAny_with_toks x.tk ?_; refine wpAny_Call_method (zct rfl ..) (zd8 hun (by show 1 < 20; decide)) hline F.plainAttrs_str F.slot_str_join F.type_str_join (wpAny_Constant_str (k := k1) (pos := p1) ?_); refine ⟨rfl, (fun _ e => nomatch e), ?_⟩
  refine Calls.callWith_builtin (hun cp).1 ?_; have kp1 : Kp hb s { s with toks := s.toks + 1 } := .tok; have x1 := x.run g₀ kp1 (Nat.le_add_left 1 _); refine Calls.evalArgs_plain (Calls.spliced_cons ?_); have G' := G; obtain ⟨v, pv, a1, a2, p0, pp1, p2, q1, q2, q3, q4, kk1, kk2, kk3, kk4, rfl, _, _, _, hv', hk, hco, hns, hne⟩ := G'.ex; have hl0 : sc.names.lookup (".0" : Str) = some NameKind.local := by rw [hns]; rfl
  have hlv : sc.names.lookup v = some NameKind.local := by
    rw [hns]; have : (v == (".0" : Str)) = false := by simpa using hne
    simp [List.lookup, this]
  have hcell : ∀ y ∈ sc.names, y.2 ≠ NameKind.cell := by
    rw [hns]; intro y hy; rcases List.mem_cons.mp hy with rfl | hy
    · exact fun q => nomatch q
    · rcases List.mem_cons.mp hy with rfl | hy
      · exact fun q => nomatch q
      · cases hy
  refine wpAny_GeneratorExp_walksQ hA hco (closure_nil hns env) hcell hl0 hlv hk fx.room ?_ (fun _ => rfl)
  have hpk := (zdc (prog := prog) (w := w) (A := A) (hb := hb) (Γ := Γ) (c := c) (p := pz) oz hz).peek x1.fr (x1.xc g₀) x1.tk hv; refine hpk _ _ fun xv s2 k2 t2 r2 => ?_
  have x2 := x1.run g₀ k2 t2; have hl : ∃ l rv, xv = .ref l ∧ l ≠ zao ∧ s2.heap.PlainList l [rv].toArray ∧ ∃ t, rv = .str ⟨#[33, 45]⟩ t := by
    rcases r2 with r2 | ⟨xs, a, vs, e1, e2, z', ha, hl, r⟩
    · obtain ⟨_, a, vs, e, ha, _, hl, rv, _, rfl, ⟨_, t, ht⟩, rfl⟩ := r2; exact ⟨a, rv, e, ha, hl, t, ht⟩
    · cases e1
      obtain ⟨rv, _, rfl, ⟨_, t, ht⟩, rfl⟩ := r; exact ⟨a, rv, e2, ha, hl, t, ht⟩
  obtain ⟨l, rv, rfl, hlA, hpl, t, rfl⟩ := hl; refine wpAny_pyIter_list hpl.isList ?_; generalize hI : s2.heap.objs.size = I; generalize hH3 : s2.heap.push { cls := .type "list_iterator", data := .fields #[.ref l, .int 0 0] } = H3; have hk3 : ∀ b o, s2.heap.get? b = some o → H3.get? b = some o := fun b o e => hH3 ▸ Heap.get?_push_of_some _ e
  have kp3 : Kp hb s2 { s2 with heap := H3 } := .keeps (tk := s2.toks) hk3; have x3 := x2.run g₀ kp3 t2; have g3 := x3.kp.gs g₀; have hIt : H3.get? I = some { cls := .type "list_iterator", data := .fields #[.ref l, .int 0 0] } := by rw [← hI, ← hH3]; exact Heap.get?_push_size _ rfl
  have hbase := fx.base; have lim : ∀ {h : Heap}, Hard hb.h h → h.NoLimit := fun {h} hh => let ⟨mc, h1, h2⟩ := hbase.lim; ⟨mc, (let ⟨o, es, ep, e, r⟩ := h1; ⟨o, es, ep, hh _ _ (by decide) e, r⟩), h2⟩
  refine ⟨lim g3.hard, genCode_ok (fx.code hT) g3 fun c' q s4 k4 hsz4 _ => ?_⟩
  have g4 := k4.gs g3; obtain ⟨mg, bm, ob, BM, hbmA⟩ := hbase.bm; have nsG : s4.heap.Ns env.globals mg := by
    rw [x.fr.fk.gl]; obtain ⟨o, es, ep, e, r⟩ := BM.ns; exact ⟨o, es, ep, g4.hard _ _ (by decide) e, r⟩
  refine wpAny_builtinsFor nsG BM.name BM.ne (g4.hard _ _ hbmA BM.obj) BM.cls BM.dict BM.data ?_; have keep4 : ∀ b o, b ≠ zao → (∀ es ep, o.data ≠ .dict es ep) → H3.get? b = some o → s4.heap.get? b = some o := fun b o hb' hd e => k4.soft.get hb' hd e
  have hIA : I ≠ zao := by rw [← hI]; exact (x2.xc g₀).off
  have hlI : l ≠ I := by rw [← hI]; obtain ⟨n, e⟩ := hpl; exact Nat.ne_of_lt (Heap.lt_size e)
  have hIt4 := keep4 I { cls := .type "list_iterator", data := .fields #[.ref l, .int 0 0] } hIA (fun _ _ q => (nomatch q)) hIt
  have hpl4 : s4.heap.PlainList l #[.str ⟨#[33, 45]⟩ t] := zb4 k4.soft hlA (zb4 kp3.soft hlA hpl); have hlt4 : I < s4.heap.objs.size := Heap.lt_size hIt4; have hll4 : l < s4.heap.objs.size := by obtain ⟨n, e⟩ := hpl4; exact Heap.lt_size e
  refine ⟨I, [I, l], [I], 1, (fun i v => (#[Value.str ⟨#[33, 45]⟩ t] : Array Value)[i]? = some v), (fun i h => h.IsListIter I l i ∧ h.IsList l #[.str ⟨#[33, 45]⟩ t]), (fun _ => true), (fun _ y => ∃ t', y = .str ⟨#[33, 92, 45]⟩ t'), rfl,
    (fun A' hA' => Walks.list hA' I l hlI #[.str ⟨#[33, 45]⟩ t]), ⟨⟨_, hIt4, rfl, rfl⟩, hpl4.isList⟩, ?_, lim g4.hard, ?_, fun href _ => ⟨?_, ?_⟩, fun a h₅ tk gs hbare hlt hsz hk5 W hst => ?_⟩
  · intro b hb'; rcases List.mem_cons.mp hb' with rfl | hb'
    · exact hlt4
    · rcases List.mem_cons.mp hb' with rfl | hb'
      · exact hll4
      · cases hb'
  · intro hm; have e : cStatics = I := List.mem_singleton.mp hm; obtain ⟨_, ⟨o, es, ep, ho, hd, _⟩, _⟩ := lim (h := s2.heap) (x2.kp.gs g₀).hard; have := Heap.lt_size ho; rw [e, ← hI] at this; exact Nat.lt_irrefl _ this
  · intro A' E' i vv s5 m2 hA' hP hn hm _; exact wpAny_pure ⟨rfl, s5.heap, s5.toks, rfl, fun _ _ e => e⟩
  · intro A' E' i vv s5 m2 hA' hP hp hn hm _; have hvv : vv = .str ⟨#[33, 45]⟩ t := by
      cases i with
      | zero => simpa using hP.symm
      | succ i => simp at hP
    subst hvv; exact elt_run G rfl rfl hn hm fun t' k => ⟨⟨t', rfl⟩, s5.heap, k, rfl, fun _ _ e => e⟩
  · refine Calls.spliced_nil ?_; have W := W.in4_2; have hTy : ∀ i s', GenAt prog w A.in4 a s4.gens.size s4.heap.objs.size (List.range s4.heap.objs.size) [I] (fun _ => true) 1 (fun _ y => ∃ t', y = Value.str ⟨#[33, 92, 45]⟩ t') i s' → s'.TypeIs (.ref a) "generator" := fun i s' st => st.1.typeIs
    refine SC.joinGen W hTy hst (fun b hb' => ?_) (List.mem_cons_self ..) (fun i vv ⟨j, _, t', e⟩ => ⟨_, t', e⟩) (fun s6 lt hm hacc => ?_) (by decide)
    · show b < h₅.objs.size; rw [hsz]; rcases List.mem_cons.mp hb' with rfl | hb'
      · exact Nat.lt_succ_self _
      · rcases List.mem_cons.mp hb' with rfl | hb'
        · exact Nat.lt_succ_of_lt hlt
        · exact Nat.lt_succ_of_lt (Nat.lt_trans (List.mem_range.mp hb') hlt)
    · have hn1 : (passing (fun _ => true) 1 0).length = 1 := by decide
      rw [hn1] at hacc; have hsz1 : lt.length = 1 := by simpa [strValues] using hacc.1
      obtain ⟨y, rfl⟩ : ∃ y, lt = [y] := by
        match lt, hsz1 with
        | [y], _ => exact ⟨y, rfl⟩
      obtain ⟨j, _, t', e⟩ := hacc.2 0 (.str y.1 y.2) (by simp [strValues]); injection e with e1 e2; have hwr : ∀ b o, s2.heap.get? b = some o → b ∉ (s4.heap.objs.size :: [I]) := fun b o e hb' => by
        rcases List.mem_cons.mp hb' with rfl | hb'
        · have h1 := Heap.lt_size e; have h2 : s2.heap.objs.size < s4.heap.objs.size := by rw [hI]; exact hlt4
          exact Nat.lt_irrefl _ (Nat.lt_trans h1 h2)
        · have : b = I := List.mem_singleton.mp hb'; rw [this, ← hI] at e; exact Nat.lt_irrefl _ (Heap.lt_size e)
      have keep6 : ∀ b o, b ∉ (s4.heap.objs.size :: [I]) → s4.heap.get? b = some o → s6.heap.get? b = some o := fun b o hb' e => hm.heap b o hb' (hk5 b o e)
      have k24 := kp3.trans k4; have sf : Soft s2.heap s6.heap := fun b o hb' e => by
        rcases k24.soft b o hb' e with q | ⟨hd, sl, q⟩
        · exact .inl (keep6 b o (hwr b o e) q)
        · exact .inr ⟨hd, sl, keep6 b _ (hwr b o e) q⟩
      have kp : ∀ k, Kp hb s2 { s6 with toks := k } := fun k => by
        refine ⟨sf, hm.os.trans k24.os, fun g => ?_⟩
        have g4 := k24.gs g; refine ⟨fun b o hb' e => keep6 b o (hwr b o (g.hard b o hb' e)) (g4.hard b o hb' e), g4.tab.others (X := (· ∈ (s4.heap.objs.size :: [I]))) keep6 (fun b o hb' e => ?_), ?_, g.fdS sf⟩
        · rcases List.mem_cons.mp hb' with rfl | hb'
          · exact absurd (Heap.lt_size e) (Nat.lt_irrefl _)
          · have : b = I := List.mem_singleton.mp hb'; rw [this, hIt4] at e; cases e; exact .inl ⟨fun q => (nomatch q), by show Value.type "list_iterator" ≠ Value.type "code"; decide⟩
        · exact (g4.gens.push hbare).moved hm.gens
      refine ⟨by rw [List.map_singleton, e1]; decide +kernel, fun t2' k htk => ?_⟩
      have hj : Txt.join "-" ([y].map (·.1)) = ⟨#[33, 92, 45]⟩ := by rw [List.map_singleton, e1]; decide +kernel
      rw [hj]; exact hQ _ _ ((kp1.trans k2).trans (kp k)) htk ⟨⟨by decide, by decide⟩, t2', rfl⟩
theorem sst_djoin {n : Str} {i : Nat} {elt tgt : Expr} {sc : Scope} {z : Str} {iz : Nat} {k1 : Nat} {px p1 ap pz gp cp p : Pos} (fx : Fx prog w A hb Γ c env s₀) (hi : c.slot n = some i) (hT : c.inT = true) (hG : okGen elt tgt sc = true) (hline : (ap.endLine == cp.line) = true) (hz : c.slot z = some iz) (oz : zam z = true) :
    SSt prog w A hb Γ c env s₀ (.Assign [.Name n px] (.Call (.Attribute (.Constant (.str "-") k1 p1) ("join" : Str) ap) [.GeneratorExp elt [⟨tgt, .Name z pz, [], 0⟩] sc gp] [] cp) p) (.djoin i iz) := by
  intro O₀ ow σ s x fl σ' h Q E hQ; rw [evS] at h
  split at h
  · rename_i hv
    cases h
    rw [exec_Assign_Name _ _ _ _ _ rfl]; refine wpAny_bind (wpAny_standAt (wpAny_bind (gen_join fx hT (shape_of hG) hline hz oz x hv fun rv s1 k1 t1 r1 => ?_)))
    refine wpAny_bind (wpAny_standAt (wpAny_bind (wpAny_bindName (zcy fx (x.run fx.g₀ k1 t1) hi r1 fun s2 x2 k2 _ => wpAny_pure ?_))))
    exact hQ _ _ ⟨rfl, _, x2, (KS.kp k1 (x.kp.gs fx.g₀) _).trans k2, fun _ _ => rfl⟩
  · cases h
end
end Mine
namespace Mine
open PySem PyProof.Rows PySem.Spec
def endOf (m : Sre.M) : Nat := match m.outcome with
  | some .matched => 1
  | some .failed => 2
  | _ => 0
def zdj (l : List Nat) (start : Nat) (must : Bool) : Sre.M := Sre.M.runFor 60 (Sre.forSearch zd2 l.toArray 1 start l.length must)
theorem twin_no : ∀ l ∈ zdn, endOf (zdj l 0 false) = 2 := by decide +kernel
theorem twin_yes : ∀ l ∈ zc6, endOf (zdj l 0 false) = 1 ∧ (zdj l 0 false).start = 1 ∧ (zdj l 0 false).handed = 2 ∧ (zdj l 0 false).marks = #[some 1, some 2] ∧ (zdj l 0 false).lastmark = 1 ∧ endOf (zdj l 2 false) = 2 := by decide +kernel
section
variable {M : Model} {A : Around} {E : Value → Shared → Prop} {s : Shared}
theorem drive_run : ∀ (turns n : Nat) (m : Sre.M) (Q : Sre.M → Shared → Prop), n ≤ 4 * turns → 0 < turns → (Sre.M.runFor n m).outcome.isSome = true → Q (Sre.M.runFor n m) s → wpAny M A (Builtin.Re.reDrive turns m) Q E s
  | 0, n, m, Q, _, h0, _, _ => absurd h0 (by decide)
  | turns + 1, n, m, Q, hn, _, hr, hQ => by
    rw [Builtin.Re.reDrive]; by_cases ho : (Sre.M.runFor Builtin.Re.reTurnSteps m).outcome.isSome = true
    · rw [if_pos ho]; refine wpAny_pure ?_; have : Sre.M.runFor Builtin.Re.reTurnSteps m = Sre.M.runFor n m := by
        show Sre.M.runFor 4 m = _; by_cases hle : n ≤ 4
        · rw [show (4 : Nat) = n + (4 - n) by omega, zdh, zc3 hr]
        · rw [show n = 4 + (n - 4) by omega, zdh]; exact (zc3 ho _).symm
      show Q (Sre.M.runFor Builtin.Re.reTurnSteps m) s; rw [this]; exact hQ
    · rw [if_neg ho]; refine wpAny_bind (wpAny_rule ?_); have hle : 4 < n := Nat.lt_of_not_le fun hle => ho (by
        have e : (4 : Nat) = n + (4 - n) := by omega
        show (Sre.M.runFor 4 m).outcome.isSome = true
        rw [e, zdh, zc3 hr]; exact hr)
      have e : n = 4 + (n - 4) := by omega
      rw [e, zdh] at hr hQ; exact drive_run turns (n - 4) _ Q (by omega) (by omega) hr hQ
theorem end_no {n : Nat} {m : Sre.M} {Q : Option Sre.M → Shared → Prop} (hn : n ≤ 4 * 2 ^ 64) (h : endOf (Sre.M.runFor n m) = 2) (hQ : Q none s) : wpAny M A (Builtin.Re.reRunToEnd m) Q E s := by
  have ho : (Sre.M.runFor n m).outcome = some .failed := by
    unfold endOf at h
    split at h
    · cases h
    · assumption
    · cases h
  exact drive_end hn ho hQ
theorem end_yes {n : Nat} {m : Sre.M} {Q : Option Sre.M → Shared → Prop} (hn : n ≤ 4 * 2 ^ 64) (h : endOf (Sre.M.runFor n m) = 1) (hQ : Q (some (Sre.M.runFor n m)) s) : wpAny M A (Builtin.Re.reRunToEnd m) Q E s := by
  have ho : (Sre.M.runFor n m).outcome = some .matched := by
    unfold endOf at h
    split at h
    · assumption
    · cases h
    · cases h
  unfold Builtin.Re.reRunToEnd; refine wpAny_bind (drive_run (2 ^ 64) n m _ hn (by decide) (by rw [ho]; rfl) ?_); refine wpAny_bind (wpAny_forIn_list _ (fun _ _ s' => s' = s) _ (fun i rest b s' hs => ?_) (fun b s' hs => ?_) _ _ rfl)
  · subst hs
    split
    · exact wpAny_bind (wpAny_rule (wpAny_pure rfl))
    · exact wpAny_pure rfl
  · subst hs; rw [ho]; exact wpAny_pure hQ
end
end Mine
namespace Mine
open PySem PyProof.Rows PySem.Spec
theorem slot_pat_sub : PySem.Slot "re.Pattern" "sub" "re.Pattern.sub" :=
  .of (owner := "re.Pattern") (n := "sub") (by rw [typeLookup_type, builtinLookup_eq_fast]; kernel_rfl) (by decide +kernel) (by decide +kernel) (by decide +kernel)
    (by first | exact .inl (by decide +kernel) | exact .inr (by decide +kernel)) (by rw [isSubtype_type]; kernel_rfl)
theorem entry_pat_sub : entryFor table "re.Pattern.sub" = some Builtin.«re.Pattern.sub» := entryFor_of_tree (by kernel_rfl)
theorem zea : entryFor table "re.Pattern.sub.loop" = some Builtin.«re.Pattern.sub.loop» := entryFor_of_tree (by kernel_rfl)
theorem type_pat_sub : typeOf (.builtin "re.Pattern.sub") = pure (.type "method_descriptor") := by show builtinType _ = _; rw [builtinType_eq_fast]; kernel_rfl
theorem args_pat_sub (a b c : Value) : argsOk "re.Pattern.sub" ⟨[a, b, c], []⟩ := by unfold argsOk; kernel_rfl
theorem zhx : typeLookup (.type "function") "__call__" = pure (some (.builtin "function.__call__")) := by rw [typeLookup_type, builtinLookup_eq_fast]; kernel_rfl
section
variable {prog : Program} {w : World} {A : Around} {E : Value → Shared → Prop} {s : Shared} {hb : HB} {O : Addr → Prop}
def PatAt (h : Heap) : Prop := ∃ o vs cd it, h.get? 43 = some o ∧ o.data = .fields vs ∧ vs.getD 5 .none = .ref cd ∧ IsTup h cd it ∧ (it.map Builtin.Re.reRawOf).map (·.toNat) = zd2 ∧ Builtin.Re.reRawNat (vs.getD 6 .none) = 0 ∧ Builtin.Re.reRawNat (vs.getD 2 .none) = 1
theorem pat_at (hp : ReOk hb.h) (g : GS hb s) : PatAt s.heap := by
  obtain ⟨op, vs, cd, it, ho, hc, hdi, hdd, h5, hcd, ⟨oc, hoc, hcc, r⟩, hcode, h6, h2⟩ := hp; exact ⟨op, vs, cd, it, g.hard _ _ (by decide) ho, hdd, h5, ⟨oc, g.hard _ _ hcd hoc, hcc, r⟩, hcode, h6, h2⟩
theorem whole_ok {l : List Nat} {t : Tok} {Q : Builtin.Re.ReTarget → Shared → Prop} (hp : PatAt s.heap)
    (hQ : Q { pattern := .ref 43, string := .str ⟨l.toArray⟩ t, code := zd2, text := l.toArray, kind := 0, groups := 1, pos := 0, lim := l.length } s) :
    wpAny (model prog w) A (Builtin.Re.reWholeTarget (.ref 43) (.str ⟨l.toArray⟩ t)) Q E s := by
  obtain ⟨op, vs, cd, it, ho, hdd, h5, ⟨oc, hoc, hcc, nn, hcd2⟩, hcode, h6, h2⟩ := hp; unfold Builtin.Re.reWholeTarget; refine wpAny_bind (wpAny_fieldsOf ho hdd ?_); refine wpAny_bind (wpAny_of_eq (a := (l.toArray, 0)) rfl ?_); dsimp only; rw [h6, if_neg (by decide), if_neg (by decide)]; refine wpAny_bind (wpAny_of_eq (a := ()) rfl ?_); rw [h5]; refine wpAny_bind ?_; unfold Builtin.Re.reRawItems; refine wpAny_bind (wpAny_seqItems hoc hcd2 ?_); refine wpAny_pure (wpAny_pure ?_); have e1 : Array.map (fun x => Int.toNat x) (Array.map Builtin.Re.reRawOf ((some it).getD #[])) = zd2 := hcode
  rw [e1, h2, List.size_toArray]; exact hQ
theorem held_ok {id : String} {x : Str} {t : Tok} {Q : Unit → Shared → Prop} (hQ : Q () s) : wpAny (model prog w) A (Builtin.Re.reNotHeld id (.str x t)) Q E s := by
  unfold Builtin.Re.reNotHeld; have e : isInstance (.str x t) (.type "bytearray") = pure false := by
    show isSubtype _ _ = _; rw [isSubtype_type]; kernel_rfl
  refine wpAny_bind (wpAny_of_eq e ?_); exact wpAny_pure hQ
abbrev loopArgs (f : Addr) (l : List Nat) (t : Tok) (n dn st : Int) (must : Bool) (p : Addr) : Args :=
  ⟨[.ref 43, .str ⟨l.toArray⟩ t, .ref f, rawInt 1, rawInt 0, rawInt n, rawInt dn, rawInt st, .bool must, .ref p, .bool false], []⟩
theorem sub_start {f : Addr} {l : List Nat} {t : Tok} {o : Obj} {Q : Value → Shared → Prop} (hp : ReOk hb.h) (xc : XC hb O s) (hf : s.heap.get? f = some o) (hfc : o.cls = .type "function")
    (h : codeAny (model prog w) A (.builtin "re.Pattern.sub.loop" (loopArgs f l t 0 0 0 false s.heap.objs.size)) (fun r s' => match r with | .ok (.ret v) => Q v s' | .ok _ => False | .error e => E e s')
      { s with heap := s.heap.push { cls := .type "list", data := .seq #[] } }) :
    wpAny (model prog w) A (call (.builtin "re.Pattern.sub") [.ref 43, .ref f, .str ⟨l.toArray⟩ t]) Q E s := by
  obtain ⟨op, vs, cd, it, ho, hc, _⟩ := id hp; have ho' := xc.gs.hard _ _ (by decide) ho; have hT : s.TypeIs (.ref f) "function" := ⟨o, hf, hfc⟩
  refine wpAny_call (codeAny_call_builtin slot_pat_sub.plain entry_pat_sub (slot_pat_sub.check _ _ _ _ _ _ _ _ ⟨op, ho', hc⟩ (args_pat_sub _ _ _) ?_)); unfold Builtin.«re.Pattern.sub» Builtin.Re.reSubstitute; dsimp only; refine wpAny_bind (wpAny_of_eq (a := [some (.ref f), some (.str ⟨l.toArray⟩ t), none]) (by kernel_rfl) ?_); dsimp only; refine wpAny_bind (wpAny_pure ?_); refine wpAny_bind (wpAny_specialOf hT zhx ?_); rw [if_pos (show (some (Value.builtin "function.__call__")).isSome = true from rfl)]
  refine wpAny_bind (wpAny_pure ?_); rw [if_pos (show (some (Value.builtin "function.__call__")).isSome = true from rfl)]
  refine wpAny_bind (wpAny_pure ?_); dsimp only; refine wpAny_bind (wpAny_holding (whole_ok (pat_at hp xc.gs) ?_)); rw [if_pos (show ((1 : Int) == 1) = true from rfl)]; refine wpAny_bind (held_ok ?_); refine wpAny_bind (wpAny_newList ?_ (by decide)); exact wpAny_pure ⟨Code.quiet_builtin _ (by decide +kernel), h⟩
end
end Mine
namespace Mine
open PySem PyProof.Rows PySem.Spec
section
variable {prog : Program} {w : World} {A : Around} {E : Value → Shared → Prop} {s s₀ : Shared} {hb : HB} {O : Addr → Prop}
theorem zew {l : List Nat} {b e : Nat} {Q : Value → Shared → Prop} (hz : l.length ≤ 64) (hQ : Q (.str ⟨((l.take e).drop b).toArray⟩ s.toks) { s with toks := s.toks + 1 }) : wpAny (model prog w) A (Builtin.Re.reSlice l.toArray 0 b e) Q E s := by
  unfold Builtin.Re.reSlice; rw [if_pos (show ((0 : Nat) == 0) = true from rfl)]; have e1 : l.toArray.extract b e = ((l.take e).drop b).toArray := by
    rw [List.extract_toArray, List.extract_eq_drop_take]; congr 1; rw [List.drop_take]
  rw [e1]; refine wpAny_mkStr hQ ?_; rw [lenS]; have : ((l.take e).drop b).length ≤ l.length := by rw [List.length_drop, List.length_take]; omega
  have : sizeLine ≥ small := zbb; have : small = 1048576 := rfl; omega
theorem strs_any {h h' : Heap} {O O' : Addr → Prop} : ∀ {l : List (List Nat)} {vs : List Value}, VRs h O (l.map .str) vs → VRs h' O' (l.map .str) vs
  | [], _, r => r
  | _ :: _, _, ⟨v, r, e, h1, h2⟩ => ⟨v, r, e, h1, strs_any h2⟩
theorem zfa : ∀ l : List (List Nat), zb6? (l.map .str) = some l
  | [] => rfl
  | x :: r => by rw [List.map_cons, zb6?, zfa r]; rfl
structure Pcs (hb : HB) (s₀ : Shared) (O : Addr → Prop) (p : Addr) (ps : List (List Nat)) (s : Shared) : Prop where
  kp : Kp hb s₀ s
  new : s₀.heap.get? p = none
  pl : ∃ vs, s.heap.PlainList p vs.toArray ∧ VRs s.heap O (ps.map .str) vs
  tk : 1 ≤ s.toks
theorem Pcs.run {p : Addr} {ps : List (List Nat)} {s' : Shared} (P : Pcs hb s₀ O p ps s) (hp : p ≠ zao) (k : Kp hb s s') (tk : 1 ≤ s'.toks) : Pcs hb s₀ O p ps s' := by
  obtain ⟨vs, hpl, hr⟩ := P.pl; exact ⟨P.kp.trans k, P.new, ⟨vs, zb4 k.soft hp hpl, strs_any hr⟩, tk⟩
theorem Pcs.push {p : Addr} {ps : List (List Nat)} {v : List Nat} {rv : Value} {Q : Unit → Shared → Prop} (P : Pcs hb s₀ O p ps s) (g₀ : GS hb s₀) (hz : ps.length ≤ 64) (r : VR s.heap O (.str v) rv) (hQ : ∀ s', Pcs hb s₀ O p (ps ++ [v]) s' → Q () s') :
    wpAny (model prog w) A (updateSeq p (·.push rv)) Q E s := by
  obtain ⟨vs, ⟨n, hpl⟩, hr⟩ := P.pl; have hsb := Heap.SameBut.update s.heap p (Obj.mapSeq (·.push rv)); have hget : (s.heap.update p (Obj.mapSeq (·.push rv))).get? p = some { cls := .type "list", data := .seq (vs.toArray.push rv) (n + 1) } := by
    rw [Heap.get?_update_self _ hpl (by rw [Obj.mapSeq_push_plain]; rfl), Obj.mapSeq_push_plain]
  have hlen : vs.length ≤ 64 := by rw [hr.length, List.length_map]; exact hz
  have hsm : sizeLine ≥ small := zbb; have hsm2 : small = 1048576 := rfl; refine wpAny_updateSeq hpl rfl (hQ _ ⟨P.kp.turn (tk := s.toks) g₀ hsb P.new hpl (fun q => (nomatch q)) (by show Value.type "list" ≠ Value.type "code"; decide), P.new, ⟨vs ++ [rv], ⟨n + 1, ?_⟩, ?_⟩, P.tk⟩) (by rw [List.size_toArray]; omega) (by rw [Array.size_push, List.size_toArray]; omega)
  · rw [hget]; simp
  · rw [List.map_append]; exact (strs_any hr).append ⟨rv, [], rfl, r, rfl⟩
theorem loop_no {f p : Addr} {l : List Nat} {t : Tok} {n dn st : Nat} {must : Bool} {ps : List (List Nat)} {R : Result → Shared → Prop} (hp : ReOk hb.h) (g₀ : GS hb s₀) (hO : OkO O s₀.heap) (hl : okS l) (hl64 : l.length ≤ 64) (P : Pcs hb s₀ O p ps s) (hz : ps.length ≤ 32) (hpt : p ≠ zao)
    (hend : endOf (zdj l st must) = 2) (hne : dn < l.length ∨ ps ≠ [])
    (hj : ∀ ps', ps' = (if dn < l.length then ps ++ [l.drop dn] else ps) → okS (zap [] ps') ∧ (zap [] ps').length ≤ small)
    (hR : ∀ rv s', Kp hb s₀ s' → VR s'.heap O (.str (zap [] (if dn < l.length then ps ++ [l.drop dn] else ps))) rv → R (.ok (.ret rv)) s') :
    codeAny (model prog w) A (.builtin "re.Pattern.sub.loop" (loopArgs f l t n dn st must p)) R s := by
  refine codeAny_builtin zea ?_; rw [Around.under_plainId (by decide +kernel)]; unfold Builtin.«re.Pattern.sub.loop»; dsimp only; have gs := P.kp.gs g₀; refine wpAny_bind (whole_ok (pat_at hp gs) ?_); rw [if_neg (show ¬ ((1 : Int) == 0) = true from by decide)]; dsimp only; refine wpAny_bind ?_; rw [if_neg (show ¬ (((0 : Int) != 0 && decide ((n : Int) ≥ 0)) = true) from by simp)]; unfold Builtin.Re.reNextFound; dsimp only; refine end_no (n := 60) (by decide) hend ?_; dsimp only; rw [Int.toNat_natCast]; by_cases hd : dn < l.length
  · rw [if_pos hd] at hj hR ⊢; have hps : ps ++ [l.drop dn] ≠ [] := by simp
    have hlen : (ps ++ [l.drop dn]).length ≤ 64 := by rw [List.length_append, List.length_singleton]; omega
    refine wpAny_bind (zew hl64 ?_); rw [List.take_length]; have P0 := P.run (s' := { s with toks := s.toks + 1 }) hpt .tok (Nat.le_add_left 1 _); refine wpAny_bind (P0.push g₀ (by omega) (v := l.drop dn) ⟨okS_sub hl (by rw [List.length_drop]; omega) fun c hc => List.mem_of_mem_drop hc, s.toks, rfl⟩ fun s1 P1 => ?_)
    refine wpAny_bind (zew hl64 ?_); have P' := P1.run (s' := { s1 with toks := s1.toks + 1 }) hpt .tok (Nat.le_add_left 1 _); obtain ⟨vs, ⟨nn, hpl⟩, hr⟩ := P'.pl; refine wpAny_bind (wpAny_seqItems (o := { cls := .type "list", data := .seq vs.toArray nn }) hpl rfl ?_); have hvs : vs ≠ [] := fun q => by
      rw [q] at hr; have := hr.length; rw [List.length_map] at this; exact hps (List.length_eq_zero_iff.mp this.symm)
    rw [if_neg (show ¬ (((some vs.toArray).getD #[]).isEmpty = true) from by simpa using hvs)]; have hOp : ¬ O p := fun q => by obtain ⟨_, o, e⟩ := hO p q; rw [P.new] at e; cases e
    have hjj := hj _ rfl; refine wpAny_bind (join_ok (hb := hb) (O := O) (sep := []) (zfa _) hjj.2 ⟨⟨Nat.zero_le _, fun _ q => (nomatch q)⟩, s1.toks, rfl⟩ ⟨by rw [List.length_map]; exact Nat.le_trans hlen (by decide), p, vs, rfl, hpt, hOp, ⟨nn, hpl⟩, hr⟩ fun rv s2 k2 r2 => ?_)
    rw [if_neg (by decide)]; exact wpAny_pure (hR rv s2 (P'.kp.trans k2) r2)
  · rw [if_neg hd] at hj hR ⊢; have hps : ps ≠ [] := hne.resolve_left hd; have hlen : ps.length ≤ 64 := by omega
    have P1 := P; generalize s = s1 at P1 ⊢; refine wpAny_bind (zew hl64 ?_); have P' := P1.run (s' := { s1 with toks := s1.toks + 1 }) hpt .tok (Nat.le_add_left 1 _); obtain ⟨vs, ⟨nn, hpl⟩, hr⟩ := P'.pl; refine wpAny_bind (wpAny_seqItems (o := { cls := .type "list", data := .seq vs.toArray nn }) hpl rfl ?_); have hvs : vs ≠ [] := fun q => by
      rw [q] at hr; have := hr.length; rw [List.length_map] at this; exact hps (List.length_eq_zero_iff.mp this.symm)
    rw [if_neg (show ¬ (((some vs.toArray).getD #[]).isEmpty = true) from by simpa using hvs)]; have hOp : ¬ O p := fun q => by obtain ⟨_, o, e⟩ := hO p q; rw [P.new] at e; cases e
    have hjj := hj _ rfl; refine wpAny_bind (join_ok (hb := hb) (O := O) (sep := []) (zfa _) hjj.2 ⟨⟨Nat.zero_le _, fun _ q => (nomatch q)⟩, s1.toks, rfl⟩ ⟨by rw [List.length_map]; exact Nat.le_trans hlen (by decide), p, vs, rfl, hpt, hOp, ⟨nn, hpl⟩, hr⟩ fun rv s2 k2 r2 => ?_)
    rw [if_neg (by decide)]; exact wpAny_pure (hR rv s2 (P'.kp.trans k2) r2)
end
end Mine
namespace Mine
open PySem PyProof.Rows PySem.Spec
def zei (h : Heap) (mt : Addr) (l : List Nat) : Prop := ∃ t a b d tp n1 n2 dd, h.get? mt = some { cls := .type "re.Match", data := .fields #[.str ⟨l.toArray⟩ t, .ref 43, a, b, d, .ref tp], dict := none } ∧ h.get? tp = some { cls := .type "tuple", data := .seq #[rawInt 1, rawInt 2, rawInt 1, rawInt 2] n1, dict := dd, slots := n2 }
section
variable {prog : Program} {w : World} {A : Around} {E : Value → Shared → Prop} {s s₀ : Shared} {hb : HB} {O : Addr → Prop}
theorem loop_yes {f p : Addr} {c : Nat} {t : Tok} {R : Result → Shared → Prop} (hc : [33, c] ∈ zc6) (hp : ReOk hb.h) (g₀ : GS hb s₀) (hO : OkO O s₀.heap) (P : Pcs hb s₀ O p [] s) (hpt : p ≠ zao)
    (hcall : ∀ s1 mt, Kp hb s₀ s1 → 1 ≤ s1.toks → zei s1.heap mt [33, c] → ∀ (Q : Value → Shared → Prop) E, (∀ rv s2, Kp hb s1 s2 → 1 ≤ s2.toks → VR s2.heap O (.str [92, c]) rv → Q rv s2) → wpAny (model prog w) A.in1 (call (.ref f) [.ref mt]) Q E s1)
    (hR : ∀ rv s', Kp hb s₀ s' → VR s'.heap O (.str [33, 92, c]) rv → R (.ok (.ret rv)) s') :
    codeAny (model prog w) A (.builtin "re.Pattern.sub.loop" (loopArgs f [33, c] t 0 0 0 false p)) R s := by
  obtain ⟨h1, h2, h3, h4, h5, h6⟩ := twin_yes _ hc; have hc2 : c < 1114112 := by
    have hc' : c = 38 ∨ c = 126 ∨ c = 124 := by simpa [zc6] using hc
    rcases hc' with rfl | rfl | rfl <;> decide
  refine codeAny_builtin zea ?_; rw [Around.under_plainId (by decide +kernel)]; unfold Builtin.«re.Pattern.sub.loop»; dsimp only; have gs := P.kp.gs g₀; refine wpAny_bind (whole_ok (pat_at hp gs) ?_); rw [if_neg (show ¬ ((1 : Int) == 0) = true from by decide)]; dsimp only; refine wpAny_bind ?_; rw [if_neg (show ¬ (((0 : Int) != 0 && decide ((0 : Int) ≥ 0)) = true) from by simp)]; unfold Builtin.Re.reNextFound; dsimp only; refine end_yes (n := 60) (by decide) h1 ?_; dsimp only; generalize hm : zdj [33, c] 0 false = m at h2 h3 h4 h5; have hm' : Sre.M.runFor 60 (Sre.forSearch zd2 [33, c].toArray 1 (Int.toNat 0) [33, c].length false) = m := hm; rw [hm', h2, h3]; rw [if_pos (by decide)]; refine wpAny_bind (zew (by show 2 ≤ 64; decide) ?_); have P0 := P.run (s' := { s with toks := s.toks + 1 }) hpt .tok (Nat.le_add_left 1 _); refine wpAny_bind (P0.push g₀ (by decide) (v := [33]) ⟨⟨by decide, by decide⟩, s.toks, rfl⟩ fun s1 P1 => ?_)
  rw [if_neg (show ¬ ((1 : Int) == 0) = true from by decide)]; have P1 : Pcs hb s₀ O p [[33]] s1 := P1; refine wpAny_bind ?_; unfold Builtin.Re.reNewMatch; dsimp only; rw [h4, h5, h2, h3]; refine wpAny_bind (wpAny_newTuple (items := [rawInt 1, rawInt 2, rawInt 1, rawInt 2]) ?_ (by decide)); generalize hH2 : s1.heap.push { cls := .type "tuple", data := .seq [rawInt 1, rawInt 2, rawInt 1, rawInt 2].toArray } = H2; have hk2 : ∀ b o, s1.heap.get? b = some o → H2.get? b = some o := fun b o e => hH2 ▸ Heap.get?_push_of_some _ e
  have hT2 : H2.get? s1.heap.objs.size = some { cls := .type "tuple", data := .seq [rawInt 1, rawInt 2, rawInt 1, rawInt 2].toArray } := hH2 ▸ Heap.get?_push_size _ rfl; have P2 := P1.run (s' := { s1 with heap := H2 }) hpt (.keeps (tk := s1.toks) hk2) P1.tk; unfold newFields; refine wpAny_newObj_type ?_; generalize hH3 : H2.push { cls := .type "re.Match", dict := none, data := .fields [.str ⟨#[33, c]⟩ t, .ref 43, rawInt ↑(0 : Nat), rawInt ↑[33, c].length, rawInt m.lastindex, .ref s1.heap.objs.size].toArray } = H3; have hk3 : ∀ b o, H2.get? b = some o → H3.get? b = some o := fun b o e => hH3 ▸ Heap.get?_push_of_some _ e
  have hM3 : H3.get? H2.objs.size = some { cls := .type "re.Match", dict := none, data := .fields [.str ⟨#[33, c]⟩ t, .ref 43, rawInt ↑(0 : Nat), rawInt ↑[33, c].length, rawInt m.lastindex, .ref s1.heap.objs.size].toArray } := hH3 ▸ Heap.get?_push_size _ rfl; have P3 := P2.run (s' := { s1 with heap := H3 }) hpt (.keeps (s := { s1 with heap := H2 }) (tk := s1.toks) hk3) P1.tk; refine wpAny_bind (wpAny_holding ?_); rw [if_pos (show ((1 : Int) == 1) = true from rfl)]; refine hcall _ _ P3.kp P3.tk ⟨t, _, _, _, _, _, _, _, hM3, hk3 _ _ hT2⟩ _ _ fun rv s4 k4 t4 r4 => ?_
  have P4 := P3.run hpt k4 t4; obtain ⟨z4, u4, rfl⟩ := id r4; rw [if_pos (by simp)]; refine wpAny_bind (P4.push g₀ (by decide) r4 fun s5 P5 => ?_)
  have P5 : Pcs hb s₀ O p [[33], [92, c]] s5 := P5; refine wpAny_pure ⟨Code.quiet_builtin _ (by decide +kernel), ?_⟩; refine loop_no (n := 1) (dn := 2) (st := 2) (must := false) hp g₀ hO ⟨by show 2 ≤ small; decide, List.forall_mem_cons.mpr ⟨by decide, List.forall_mem_cons.mpr ⟨hc2, fun _ q => nomatch q⟩⟩⟩ (by show 2 ≤ 64; decide) P5 (by show 2 ≤ 32; decide) hpt h6 (.inr (by simp)) (fun ps' e => ?_) fun rv s6 k6 r6 => ?_
  · rw [if_neg (show ¬ 2 < [33, c].length from by simp)] at e; subst e; exact ⟨⟨by show 3 ≤ small; decide, (List.forall_mem_cons (p := fun d => d < 1114112) (a := 33) (l := [92, c])).mpr ⟨by decide, List.forall_mem_cons.mpr ⟨by decide, List.forall_mem_cons.mpr ⟨hc2, fun _ q => nomatch q⟩⟩⟩⟩, by show 3 ≤ small; decide⟩
  · rw [if_neg (show ¬ 2 < [33, c].length from by simp)] at r6; exact hR rv s6 k6 r6
end
end Mine
namespace Mine
open PySem PyProof.Rows PySem.Spec
theorem zhe : PlainAttrs "re.Match" :=
  ⟨⟨"object.__getattribute__", by rw [typeLookup_type, builtinLookup_eq_fast]; kernel_rfl, by decide +kernel⟩, by rw [typeLookup_type, builtinLookup_eq_fast]; kernel_rfl⟩
theorem zex : PySem.Slot "re.Match" "group" "re.Match.group" :=
  .of (owner := "re.Match") (n := "group") (by rw [typeLookup_type, builtinLookup_eq_fast]; kernel_rfl) (by decide +kernel) (by decide +kernel) (by decide +kernel)
    (by first | exact .inl (by decide +kernel) | exact .inr (by decide +kernel)) (by rw [isSubtype_type]; kernel_rfl)
theorem zgy : entryFor table "re.Match.group" = some Builtin.«re.Match.group» := entryFor_of_tree (by kernel_rfl)
theorem zhf : typeOf (.builtin "re.Match.group") = pure (.type "method_descriptor") := by show builtinType _ = _; rw [builtinType_eq_fast]; kernel_rfl
theorem zhb (a b : Value) : argsOk "re.Match.group" ⟨[a, b], []⟩ := by unfold argsOk; kernel_rfl
section
variable {prog : Program} {w : World} {A : Around} {E : Value → Shared → Prop} {s s₀ : Shared} {hb : HB} {O : Addr → Prop}
theorem group_ok {mt : Addr} {c : Nat} {t : Tok} {Q : Value → Shared → Prop} (hm : zei s.heap mt [33, c]) (hQ : Q (.str ⟨#[c]⟩ s.toks) { s with toks := s.toks + 1 }) : wpAny (model prog w) A (call (.builtin "re.Match.group") [.ref mt, .int 1 t]) Q E s := by
  obtain ⟨u, a, b, d, tp, n1, n2, dd, h1, h2⟩ := hm; refine wpAny_call_entry zex ⟨_, h1, rfl⟩ zgy ?_ (zhb _ _); unfold Builtin.«re.Match.group»; refine wpAny_bind (wpAny_of_eq (a := ()) (by rfl) ?_); dsimp only; refine wpAny_bind ?_; unfold Builtin.Re.reFound; refine wpAny_bind (wpAny_fieldsOf h1 rfl ?_); unfold Builtin.Re.reRawItems; refine wpAny_bind (wpAny_bind (wpAny_seqItems h2 rfl (wpAny_pure (wpAny_pure ?_)))); refine wpAny_bind ?_; unfold Builtin.Re.reGroupNumber; have e1 : asInt? (.int 1 t) = pure (some 1) := rfl; have e2 : asIndex (.int 1 t) = pure 1 := rfl; refine wpAny_bind (wpAny_of_eq e1 ?_); rw [if_pos (by rfl)]; refine wpAny_bind (wpAny_of_eq e2 ?_); have key : Array.map Builtin.Re.reRawOf ((some #[rawInt 1, rawInt 2, rawInt 1, rawInt 2]).getD #[]) = #[1, 2, 1, 2] := by simp [Builtin.Re.reRawOf, rawInt]
  dsimp only; rw [key]; refine wpAny_ite_false (by rfl) ?_; refine wpAny_pure ?_; refine wpAny_bind ?_; unfold Builtin.Re.reGroupText; dsimp only; refine wpAny_ite_false (by rfl) ?_; refine wpAny_bind (wpAny_of_eq (a := (#[33, c], 0)) rfl ?_); refine zew (l := [33, c]) (b := 1) (e := 2) (by show 2 ≤ 64; decide) ?_; exact wpAny_pure ⟨_, rfl, hQ⟩
structure zfs (la : Arguments) (lb : Expr) (ls : Scope) : Prop where
  ex : ∃ m pm k1 p1 p2 ap k2 p3 p k3 p4 p5 p6, la = ⟨[], [⟨m, none, pm⟩], none, [], [], none, []⟩ ∧
    lb = .BinOp (.Constant (.str "\\") k1 p1) .Add (.BoolOp .Or [.Call (.Attribute (.Name m p2) ("group" : Str) ap) [.Constant (.int 1) k2 p3] [] p, .Constant (.str "") k3 p4] p5) p6 ∧
    (ap.endLine == p.line) = true ∧ zam m = true ∧ ls.kind = .function ∧ ls.isCoroutine = false ∧ ls.isGenerator = false ∧ ls.names = [(m, NameKind.local)]
theorem lam_of {la : Arguments} {lb : Expr} {ls : Scope} (h : okLam la lb ls = true) : zfs la lb ls := by
  unfold okLam at h
  split at h
  · simp only [Bool.and_eq_true, beq_iff_eq] at h; obtain ⟨⟨⟨⟨⟨⟨⟨⟨⟨rfl, rfl⟩, rfl⟩, rfl⟩, h5⟩, h6⟩, h7⟩, h8⟩, h9⟩, h10⟩ := h; exact ⟨_, _, _, _, _, _, _, _, _, _, _, _, _, rfl, rfl, by simpa using h5, h6, h7, by simpa using h8, by simpa using h9, h10⟩
  · cases h
theorem lam_body {env : Env} {la : Arguments} {lb : Expr} {ls : Scope} {mt : Addr} {c : Nat} {mp : Str → Option Value} (L : zfs la lb ls) (hsc : env.scope = ls) (hn : s.heap.Ns env.locals mp) (hv : ∀ m pm, la.args = [⟨m, none, pm⟩] → mp m = some (.ref mt)) (hm : zei s.heap mt [33, c]) (hc : c < 1114112) (ht : 1 ≤ s.toks) (hO : OkO O s.heap)
    {Q : Value → Shared → Prop} (hQ : ∀ rv tk, VR s.heap O (.str [92, c]) rv → Q rv { s with toks := tk }) : wpAny (model prog w) A (eval lb env) Q E s := by
  obtain ⟨m, pm, k1, p1, p2, ap, k2, p3, p, k3, p4, p5, p6, rfl, rfl, hline, om, hk, hco, hge, hns⟩ := L.ex; have hun : zce env [.Constant (.int 1) k2 p3] := fun _ => ⟨rfl, rfl⟩
  have hl : env.scope.names.lookup m = some .local := by
    rw [hsc, hns]; simp [List.lookup]
  refine wpAny_BinOp (wpAny_Constant_str (k := k1) (pos := p1) ?_); generalize hs1 : { s with toks := s.toks + 1 } = s1; have hh1 : s1.heap = s.heap := by rw [← hs1]
  have ht1 : 1 ≤ s1.toks := by rw [← hs1]; exact Nat.le_add_left 1 _
  rw [arm_eval_BoolOp]; show wpAny _ _ (do
    let v ← eval (.Call (.Attribute (.Name m p2) ("group" : Str) ap) [.Constant (.int 1) k2 p3] [] p) env
    standAt p5
    let t ← holding [v] (PySem.truthy v)
    match BoolOp.Or, t with
    | .And, false | .Or, true => pure v
    | _, _ => boolOp p5 .Or (evalEach [.Constant (.str "") k3 p4] env)) _ _ _
  refine wpAny_bind ?_; have hm1 : zei s1.heap mt [33, c] := hh1.symm ▸ hm; refine wpAny_Call_method (zct rfl ..) (zd8 hun (by show 1 < 20; decide)) hline zhe zex zhf (ldG (hh1.symm ▸ hn) (hv m pm rfl) ?_ (by rw [hsc]; exact hk) hl (zax om).1); obtain ⟨u, a, b, d, tp, n1, n2, dd, hh, hh2⟩ := id hm1; refine ⟨⟨_, hh, rfl⟩, (fun b e => by cases e; exact ⟨_, hh, rfl⟩), ?_⟩
  refine Calls.callWith_builtin (hun p).1 ?_; refine Calls.evalArgs_plain (Calls.spliced_cons ?_); refine wpAny_Constant_int (k := k2) (pos := p3) ?_; refine Calls.spliced_nil ?_; refine group_ok (by exact hm1) ?_; refine wpAny_bind (wpAny_standAt (wpAny_bind (wpAny_holding ?_))); refine PySem.P.truthy_str (show ¬ (((1 : Nat) : Int) ≥ 2 ^ 63) from by decide) ?_; have e1 : (((⟨#[c]⟩ : Str).length : Int) != 0) = true := rfl; rw [e1]; refine wpAny_pure ?_; refine PyProof.Rows.add_str (fun t' tk => ?_) (by show 1 + 1 ≤ sizeLine; decide)
  have e2 : (("\\" : Str) ++ (⟨#[c]⟩ : Str)) = ⟨[92, c].toArray⟩ := str_app [92] [c]; rw [e2]; have := hQ (.str ⟨[92, c].toArray⟩ t') tk ⟨⟨by show 2 ≤ small; decide, List.forall_mem_cons.mpr ⟨by decide, List.forall_mem_cons.mpr ⟨hc, fun _ q => nomatch q⟩⟩⟩, t', rfl⟩
  rw [← hs1]; exact this
end
end Mine
namespace Mine
open PySem PyProof.Rows PySem.Spec
section
variable {prog : Program} {w : World} {A : Around} {hb : HB} {Γ : Gam} {c : CT} {env : Env} {s₀ s : Shared} {O₀ : Addr → Prop} {ow : Nat → Option Addr} {σ : zad}
theorem closure_one {sc : Scope} {v : Str} (h : sc.names = [(v, NameKind.local)]) (env : Env) : closureFor sc env = pure [] := by
  simp only [closureFor, h]; rfl
theorem hard_lim {hb : HB} {h : Heap} (hbase : zdq hb.h) (hh : Hard hb.h h) : h.NoLimit :=
  let ⟨mc, h1, h2⟩ := hbase.lim; ⟨mc, (let ⟨o, es, ep, e, r⟩ := h1; ⟨o, es, ep, hh _ _ (by decide) e, r⟩), h2⟩
theorem lam_make {la : Arguments} {lb : Expr} {ls : Scope} {lp : Pos} (fx : Fx prog w A hb Γ c env s₀) (hT : c.inT = true) (L : zfs la lb ls) (x : SS hb s₀ c env O₀ ow σ s) {Q : Value → Shared → Prop} {E : Value → Shared → Prop}
    (hQ : ∀ f s' qual pm c' q, Kp hb s s' → 1 ≤ s'.toks → s'.heap.get? f = some { cls := .type "function", data := .func (PySem.W.kla_fn "<lambda>" qual la lb ls [] pm (.ref c') .none) } → s'.heap.CodeRec (.ref c') q → c' ≠ zao → Q (.ref f) s') :
    wpAny (model prog w) A (eval (.Lambda la lb ls lp) env) Q E s := by
  have g₀ := fx.g₀; obtain ⟨m, pm, k1, p1, p2, ap, k2, p3, p, k3, p4, p5, p6, hla, _, hline, om, hk, hco, hge, hns⟩ := L.ex; refine PySem.W.kla_eval (by rw [hla]; rfl) ?_; refine wpAny_with_toks x.tk ?_; rw [makeFunction_eq]; simp only [List.zip_nil_right, List.filterMap_nil, List.isEmpty_nil, if_true, pure_bind]; unfold makeTail; rw [closure_one hns env]; refine wpAny_bind (wpAny_pure ?_); simp only [List.isEmpty_nil, if_true]; refine wpAny_bind (wpAny_pure ?_); have g := x.kp.gs g₀; refine wpAny_bind (fnCode_ok (fx.code hT) g fun c' q s1 k1 hR hcA => ?_)
  have g1 := k1.gs g; obtain ⟨mg, bm, ob, BM, hbmA⟩ := fx.base.bm; have nsG : s1.heap.Ns env.globals mg := by
    rw [x.fr.fk.gl]; obtain ⟨o, es, ep, e, r⟩ := BM.ns; exact ⟨o, es, ep, g1.hard _ _ (by decide) e, r⟩
  refine wpAny_bind (wpAny_builtinsFor nsG BM.name BM.ne (g1.hard _ _ hbmA BM.obj) BM.cls BM.dict BM.data ?_); refine wpAny_bind (wpAny_nsGet nsG ?_); refine wpAny_bind (wpAny_pure (wpAny_newObj_type (fun htk => ?_) (by size_fits)))
  rw [x.fr.fk.gl]; refine hQ _ _ _ _ _ _ (k1.trans (.push (tk := s1.toks))) htk (Heap.get?_push_size _ rfl) (hR.push _) hcA
theorem callE {a : Addr} {args : Args} {o : Obj} {fd : FuncData} {body : Expr} {q : Str} {R : Result → Shared → Prop} (hroom : A.depth < recursionLimit)
    (ho : s.heap.get? a = some o)
    (hd' : o.data = .func fd) (hco : fd.scope.isCoroutine = false) (hgen : fd.scope.isGenerator = false) (hbody : fd.body = .expr body) (hcd : s.heap.CodeRec fd.code q)
    (h : wpAny (model prog w) A.in1 (bindArgs fd args) (fun binds s₁ =>
      wpAny (model prog w) A.in1 (newFunctionEnv fd.scope fd.globals fd.closure binds (q ++ ".<locals>.") (some a) fd.code none fd.builtins)
        (fun env s₂ => s₂.heap.NoLimit ∧ codeAny (model prog w) A (.expr body env) R s₂) (fun e s' => R (.error e) s') s₁) (fun e s' => R (.error e) s') s) :
    codeAny (model prog w) A (.call (.ref a) args) R s := by
  refine codeAny_of_tree ?_; show wpAny _ A.in1 (callAny (.ref a) args) _ _ s; simp only [callAny]; refine wpAny_bind (wpAny_load ho ?_); obtain ⟨c, oc, vs, tq, hc, hoc, hdc, hq⟩ := hcd; simp only [hd', callFunction, hco, hgen, hbody, hc]; rw [hc] at h; refine wpAny_bind (m := field (.ref c) 1) (wpAny_field hoc hdc hq (wpAny_bind (wpAny_pure ?_))); exact wpAny_bind (wpAny_mono h (fun binds s₁ h₁ => wpAny_bind (wpAny_mono h₁ (fun env s₂ h₂ => wpAny_bind (wpAny_enterFrame h₂.1 hroom
    (wpAny_pure (And.intro rfl h₂.2)))) fun _ _ h' => h')) fun _ _ h' => h')
theorem lam_call {f mt : Addr} {ch : Nat} {la : Arguments} {lb : Expr} {ls : Scope} {qual : Str} {pm : Value} {c' : Addr} {q : Str} {O : Addr → Prop} (hbase : zdq hb.h) (hroom : A.depth < recursionLimit) (g : GS hb s) (hO : OkO O s.heap) (L : zfs la lb ls) (ht : 1 ≤ s.toks)
    (hf : s.heap.get? f = some { cls := .type "function", data := .func (PySem.W.kla_fn "<lambda>" qual la lb ls [] pm (.ref c') .none) }) (hcd : s.heap.CodeRec (.ref c') q) (hm : zei s.heap mt [33, ch]) (hch : ch < 1114112)
    {Q : Value → Shared → Prop} {E : Value → Shared → Prop} (hQ : ∀ rv s', Kp hb s s' → 1 ≤ s'.toks → VR s'.heap O (.str [92, ch]) rv → Q rv s') : wpAny (model prog w) A (call (.ref f) [.ref mt]) Q E s := by
  obtain ⟨m, pm', k1, p1, p2, ap, k2, p3, p, k3, p4, p5, p6, hla, _, hline, om, hk, hco, hge, hns⟩ := L.ex; refine wpAny_with_toks ht (wpAny_call (callE hroom hf rfl hco hge rfl hcd ?_)); have hbind : bindArgs (PySem.W.kla_fn "<lambda>" qual la lb ls [] pm (.ref c') .none) ⟨[.ref mt], []⟩ = pure [(m, .ref mt)] := by
    subst hla; simp [bindArgs, seqItems?]; rfl
  rw [hbind]; have hcell : ∀ y ∈ ls.names, y.2 ≠ NameKind.cell := by
    rw [hns]; intro y hy; rcases List.mem_cons.mp hy with rfl | hy
    · exact fun q => nomatch q
    · cases hy
  have hbinds : ∀ y ∈ ([(m, Value.ref mt)] : List (Str × Value)), ls.names.lookup y.1 = some NameKind.local := by
    intro y hy; rcases List.mem_cons.mp hy with rfl | hy
    · rw [hns]; simp [List.lookup]
    · cases hy
  refine wpAny_pure (wpAny_newFunctionEnv hcell hbinds (fun h' hn' hs' => ?_) hk)
  have hkk : ∀ b o, s.heap.get? b = some o → h'.get? b = some o := fun b o e => hs'.extBut b o (Nat.ne_of_lt (Heap.lt_size e)) (Heap.get?_push_of_some _ e)
  have kp : Kp hb s { s with heap := h', toks := s.toks + [(m, Value.ref mt)].length } := .keeps hkk; refine ⟨(hard_lim hbase g.hard).keeps hkk, ?_⟩; refine PySem.W.kla_codeExpr ?_; have hm' : zei h' mt [33, ch] := by
    obtain ⟨t, a, b, d, tp, n1, n2, dd, h1, h2⟩ := hm; exact ⟨t, a, b, d, tp, n1, n2, dd, hkk _ _ h1, hkk _ _ h2⟩
  refine lam_body (O := O) L rfl hn' (fun m2 pm2 e => ?_) hm' hch (Nat.le_add_left 1 _) (hO.kp kp) fun rv tk r => ?_
  · rw [hla] at e; injection e with e _; injection e with e _; subst e; simp [List.lookup]
  · intro htk; exact hQ rv _ (kp.trans .tok) htk r
end
end Mine
namespace Mine
open PySem PyProof.Rows PySem.Spec
theorem resub_same : ∀ l ∈ zdn, zdb l = l ∧ l.length ≤ 64 ∧ l ≠ [] ∧ ∀ c ∈ l, c < 1114112 := by decide
theorem resub_two : ∀ l ∈ zc6, ∃ c, l = [33, c] ∧ zdb l = [33, 92, c] := by
  intro l hl; have : l = [33, 38] ∨ l = [33, 126] ∨ l = [33, 124] := by simpa [zc6] using hl
  rcases this with rfl | rfl | rfl
  · exact ⟨38, rfl, rfl⟩
  · exact ⟨126, rfl, rfl⟩
  · exact ⟨124, rfl, rfl⟩
section
variable {prog : Program} {w : World} {A : Around} {hb : HB} {Γ : Gam} {c : CT} {env : Env} {s₀ s : Shared} {O₀ : Addr → Prop} {ow : Nat → Option Addr} {σ : zad}
theorem not_tab {s : Shared} (g : GS hb s) {a : Addr} {o : Obj} (h : s.heap.get? a = some o) (hc : o.cls ≠ .none) : a ≠ zao := fun q => by
  obtain ⟨_, t, _⟩ := g.tab; have := t.2; rw [← q, h] at this
  cases this
  exact hc rfl
theorem sst_resub {n y z : Str} {i : Nat} {la : Arguments} {lb : Expr} {ls : Scope} {px py ap lp pz cp p : Pos} (fx : Fx prog w A hb Γ c env s₀) (hi : c.slot n = some i) (hT : c.inT = true) (hg : c.glob y = some (.ref 43)) (oy : zam y = true) (hz : c.slot z = some i) (oz : zam z = true) (hL : okLam la lb ls = true) (hline : (ap.endLine == cp.line) = true) :
    SSt prog w A hb Γ c env s₀ (.Assign [.Name n px] (.Call (.Attribute (.Name y py) ("sub" : Str) ap) [.Lambda la lb ls lp, .Name z pz] [] cp) p) (.resub i) := by
  intro O₀ ow σ s x fl σ' h Q E hQ; have g₀ := fx.g₀; rw [evS] at h
  split at h
  · rename_i l hv
    split at h
    · rename_i hst
      cases h
      rw [exec_Assign_Name _ _ _ _ _ rfl]; refine wpAny_bind (wpAny_standAt (wpAny_bind ?_)); have hun : zce env [.Lambda la lb ls lp, .Name z pz] := fun _ => ⟨rfl, rfl⟩
      have L := lam_of hL; have re := fx.base.re; obtain ⟨op, vs, cd, it, ho, hc, hdi, _⟩ := id re; refine wpAny_Call_method (zct rfl ..) (zd8 hun (by show 2 < 20; decide)) hline zfk slot_pat_sub type_pat_sub (wpAny_Name (zc7 x.fr.fk (x.xc g₀).gs hg ?_) (zax oy).1); have ho' := (x.xc g₀).gs.hard _ _ (by decide) ho; refine ⟨⟨_, ho', hc⟩, (fun b e => by cases e; exact ⟨_, ho', hdi⟩), ?_⟩
      refine Calls.callWith_builtin (hun cp).1 ?_; refine Calls.evalArgs_plain (Calls.spliced_cons (lam_make fx hT L x fun f s1 qual pm c' q k1 t1 hf hcd hcA => ?_))
      have x1 := x.run g₀ k1 t1; have hz' : cE c (.Name z pz) = some (.var i) := by simp [cE, oz, hz]
      refine Calls.spliced_cons ((zdc (prog := prog) (w := w) (A := A) (hb := hb) (Γ := Γ) (c := c) (p := pz) oz hz).val x1.fr (x1.xc g₀) x1.tk (v := .str l) hv _ _ fun rv s2 k2 t2 r2 => ?_)
      refine Calls.spliced_nil ?_; have x2 := x1.run g₀ k2 t2; obtain ⟨zl, u, rfl⟩ := id r2; have xc2 := x2.xc g₀; have g2 := xc2.gs; have hfA : f ≠ zao := not_tab (k1.gs (x.kp.gs g₀)) hf (fun q => by cases q)
      have hf2 := k2.soft.get hfA (fun _ _ q => by cases q) hf
      have hcd2 : ∀ {s3 : Shared}, Kp hb s1 s3 → s3.heap.CodeRec (.ref c') q := fun k3 => by
        obtain ⟨cc, oo, vv, tt, e1, e2, e3, e4⟩ := hcd
        cases e1
        exact ⟨_, oo, vv, tt, rfl, k3.soft.get hcA (fun _ _ q => by rw [e3] at q; cases q) e2, e3, e4⟩
      have fin : ∀ rv s3, Kp hb s2 s3 → 1 ≤ s3.toks → VR s3.heap (zbd O₀ ow) (.str (zdb l)) rv → wpAny (model prog w) A (standAt px >>= fun _ => bindName env n rv >>= fun _ => pure .next) Q E s3 := fun rv s3 k3 t3 r3 => by
        refine wpAny_bind (wpAny_standAt (wpAny_bind (wpAny_bindName (zcy fx (x2.run g₀ k3 t3) hi r3 fun s4 x4 k4 _ => wpAny_pure ?_))))
        exact hQ _ _ ⟨rfl, _, x4, (KS.kp ((k1.trans k2).trans k3) (x.kp.gs g₀) _).trans k4, fun _ _ => rfl⟩
      refine wpAny_with_toks t2 (sub_start re xc2 hf2 rfl ?_); generalize hH : s2.heap.push { cls := .type "list", data := .seq #[] } = H; have hkH : ∀ b o, s2.heap.get? b = some o → H.get? b = some o := fun b o e => hH ▸ Heap.get?_push_of_some _ e
      have hpA : s2.heap.objs.size ≠ zao := xc2.off; have P : Pcs hb s2 (zbd O₀ ow) s2.heap.objs.size [] { s2 with heap := H } :=
        ⟨.keeps (tk := s2.toks) hkH, zbh (Nat.le_refl _), ⟨[], ⟨_, hH ▸ Heap.get?_push_size _ rfl⟩, rfl⟩, t2⟩
      rcases hst with hst | hst
      · obtain ⟨e1, e2, e3, e4⟩ := resub_same l hst; have hpos : 0 < l.length := List.length_pos_iff.mpr e3; refine loop_no (n := 0) (dn := 0) (st := 0) re g2 xc2.ok zl e2 P (by decide) hpA (twin_no l hst) (.inl hpos) (fun ps' e => ?_) fun rv s3 k3 r3 => ?_
        · rw [if_pos hpos] at e; subst e; exact ⟨zl, zl.1⟩
        · rw [if_pos hpos] at r3; intro t3; refine fin rv s3 k3 t3 ?_; rw [e1]; exact r3
      · obtain ⟨ch, rfl, e1⟩ := resub_two l hst; have hch : ch < 1114112 := zl.2 ch (List.mem_cons_of_mem _ (List.mem_cons_self ..)); refine loop_yes hst re g2 xc2.ok P hpA (fun s3 mt k3 t3 hm Q' E' hQ' => ?_) fun rv s3 k3 r3 => ?_
        · exact lam_call (A := A.in1) fx.base fx.room (k3.gs g2) (xc2.ok.kp k3) L t3 (k3.soft.get hfA (fun _ _ q => by cases q) hf2) (hcd2 (k2.trans k3)) hm hch hQ'
        · intro t3; refine fin rv s3 k3 t3 ?_; rw [e1]; exact r3
    · cases h
  · cases h
end
end Mine
namespace Mine
open PySem PyProof.Rows PySem.Spec
section
variable {prog : Program} {w : World} {A : Around} {hb : HB} {Γ : Gam} {c : CT} {env : Env} {s₀ s : Shared} {O₀ O₁ : Addr → Prop} {ow : Nat → Option Addr} {σ : zad}
theorem zay {st : Stmt} {n : Nat} : SSt prog w A hb Γ c env s₀ st (.bad n) := by
  intro O₀ ow σ s x fl σ' h Q E hQ
  cases h
theorem sst_down {f : Str} {n : Str} {i : Nat} {np fp cp p q1 q2 : Pos} {k1} {a e : Expr} {pa pe : PE} {body : List Stmt} (fx : Fx prog w A hb Γ c env s₀) (hf : zam f = true) (hg : c.glob f = some (.type "range")) (ha : cE c a = some pa) (he : cE c e = some pe) :
    SSt prog w A hb Γ c env s₀ (.For (.Name n np) (.Call (.Name f fp) [a, e, .UnaryOp .USub (.Constant (.int 1) k1 q1) q2] [] cp) body [] p) (.down i pa pe) := by
  intro O₀ ow σ s x fl σ' h Q E hQ; rw [evS] at h
  split at h
  · rename_i u hu
    split at h
    · rename_i v hv
      split at h
      · rename_i hz
        cases h
        refine wpAny_For ?_ (fun _ => rfl)
        have hcn : cE c (.UnaryOp .USub (.Constant (.int 1) k1 q1) q2) = some (.neg 1) := rfl; have hun := zbi (c := c) (env := env) (es := [a, e, .UnaryOp .USub (.Constant (.int 1) k1 q1) q2]) (pes := [pa, pe, .neg 1]) (by rw [cEs, ha, cEs, he, cEs, hcn]; rfl) cp; refine wpAny_Call_NameR (wpAny_Name (zc7 x.fr.fk (x.xc fx.g₀).gs hg ?_) (zax hf).1); refine PySem.callWith_type hun.1 ?_; rw [zb7 ha]; refine Calls.evalArgs_plain (Calls.spliced_cons ((zaq fx.cx c a pa ha).val x.fr (x.xc fx.g₀) x.tk hu _ _ fun rv s1 k1 t1 r1 => ?_))
        rw [zb7 he]; have x1 := x.run fx.g₀ k1 t1; refine Calls.spliced_cons ((zaq fx.cx c e pe he).val x1.fr (x1.xc fx.g₀) t1 hv _ _ fun rv2 s2 k2 t2 r2 => ?_)
        rw [zb7 hcn]; have x2 := x1.run fx.g₀ k2 t2; refine Calls.spliced_cons ((zaq fx.cx c _ _ hcn).val (v := .int (-1)) x2.fr (x2.xc fx.g₀) t2 rfl _ _ fun rv3 s3 k3 t3 r3 => ?_)
        have x3 := x2.run fx.g₀ k3 t3; refine Calls.spliced_nil ?_; obtain ⟨t, rfl⟩ := r1; obtain ⟨t', rfl⟩ := r2; obtain ⟨t'', rfl⟩ := r3; obtain ⟨z1, z2, z3⟩ := hz; refine call_range_3 (by decide) ?_ (.inl (PyProof.noPylong_small (by decide))); have hsz : Builtin.Range.rangeSize u v (-1) = 0 := by
          unfold Builtin.Range.rangeSize; rw [if_neg (by decide), if_neg (by omega)]
        have hsm : Builtin.Range.small u v (-1) = true := by
          unfold Builtin.Range.small; rw [hsz]; simp only [Builtin.Range.rangeFitsLong, Bool.and_eq_true, Bool.or_eq_true, decide_eq_true_eq, beq_iff_eq]; refine ⟨⟨⟨⟨?_, ?_⟩, ?_⟩, ?_⟩, .inl trivial⟩ <;> omega
        refine wpAny_pyIter_range (IsRange.new ..) hsm ?_; rw [hsz]; generalize hH1 : s3.heap.push { cls := .type "range", data := .fields #[.int u t, .int v t', .int (-1) t''] } = H1; have hk1 : ∀ b o, s3.heap.get? b = some o → H1.get? b = some o := fun b o e => hH1 ▸ Heap.get?_push_of_some _ e
        generalize hH2 : H1.push { cls := .type "range_iterator", data := .fields #[rawInt u, rawInt 0, rawInt (-1)] } = H2; have hk2 : ∀ b o, H1.get? b = some o → H2.get? b = some o := fun b o e => hH2 ▸ Heap.get?_push_of_some _ e
        have hit : IsRangeIter H2 H1.objs.size u 0 (-1) := hH2 ▸ Heap.get?_push_size _ rfl; have hne : ∀ b o, s3.heap.get? b = some o → b ≠ H1.objs.size := fun b o e => Nat.ne_of_lt (Heap.lt_size (hk1 b o e))
        refine codeAny_loop' rfl (fun _ s' => s' = { s3 with heap := H2 }) (fun m s' hs' => ?_) 0 rfl
        subst hs'; show wpAny _ A ((forTurn (.Name n np) (.ref H1.objs.size) body [] env).onRaise (fun x => do noteFrame x env; theTreesLotGoes x)) _ _ _
        refine wpAny_noted ?_; simp only [forTurn]; refine wpAny_bind (wpAny_standAt (wpAny_bind (wpAny_onRaise ?_))); refine wpAny_pyNext_range_end fx.cx.handled hit (by decide) fun h' he' => wpAny_pure (.inr ⟨rfl, codeAny_block (wpAny_execs_nil (hQ _ _ ?_))⟩)
        have kp4 : Kp hb s3 { s3 with heap := h' } := .keeps (tk := s3.toks) fun b o e => he' b o (hne b o e) (hk2 b o (hk1 b o e))
        exact ⟨rfl, ow, x3.run fx.g₀ kp4 t3, .kp (((k1.trans k2).trans k3).trans kp4) (x.kp.gs fx.g₀) ow, fun _ _ => rfl⟩
      · cases h
    · cases h
  · cases h
end
section
variable {prog : Program} {w : World} {A : Around} {hb : HB} {Γ : Gam} {c : CT} {env : Env} {s₀ : Shared}
mutual
theorem soundS (fx : Fx prog w A hb Γ c env s₀) (st : Stmt) : SSt prog w A hb Γ c env s₀ st (cS c st) := by
  rw [cS.eq_def]
  split
  · split
    · exact zay
    · rename_i i hi
      split
      · split
        · exact sst_own fx hi
        · split
          · rename_i e he; exact zeh fx hi he
          · exact zay
      · split
        · rename_i hm; simp only [Bool.and_eq_true] at hm
          split
          · rename_i j hj; rw [beq_iff_eq.mp hm.1]; exact sst_app fx hm.2 hi hj
          · exact zay
        · exact zay
      · split
        · intro O₀ ow σ s x fl σ' h; cases h
        · split
          · rename_i e he; exact zeh fx hi he
          · exact zay
      · split
        · rename_i hm; simp only [Bool.and_eq_true, beq_iff_eq] at hm; obtain ⟨⟨⟨⟨⟨⟨⟨h1, h2⟩, h3⟩, h4⟩, h5⟩, h6⟩, h7⟩, h8⟩ := hm; subst h1; exact sst_resub fx hi h4 h2 h5 h3 h6 h8 (by simpa using h7)
        · exact zay
      · split
        · rename_i hm; simp only [Bool.and_eq_true, beq_iff_eq] at hm; obtain ⟨⟨⟨⟨⟨h1, h2⟩, h3⟩, h4⟩, h5⟩, h6⟩ := hm; subst h1 h2
          split
          · rename_i j hj; exact sst_djoin fx hi h3 h6 (by simpa using h5) hj h4
          · exact zay
        · exact zay
      · split
        · rename_i e he; exact zeh fx hi he
        · exact zay
  · split
    · intro O₀ ow σ s x fl σ' h; cases h
    · exact zay
  · split
    · rename_i i j pa pb hi hj ha hb'
      split
      · exact zay
      · rename_i hc; exact sst_tup2 fx hi hj ha hb' (by simpa using hc)
    · exact zay
  · split
    · rename_i i e hi he
      split
      · rename_i hn; exact sst_aug fx hn hi (zaq fx.cx c _ _ he)
      · exact zay
    · exact zay
  · split
    · rename_i i e hi he
      split
      · rename_i hm; simp only [Bool.and_eq_true] at hm; rw [beq_iff_eq.mp hm.1.1]; exact sst_push fx hm.1.2 hm.2 hi he (zaq fx.cx c _ _ he)
      · exact zay
    · exact zay
  · split
    · rename_i i j e hi hj he
      split
      · rename_i hn
        cases hl : c.app.lookup _ with
        | none => rw [hl] at hj; cases hj
        | some m =>
          rw [hl] at hj
          exact sst_pushA fx hn hi hj he (zaq fx.cx c _ _ he)
      · exact zay
    · exact zay
  · split
    · rename_i e he; exact sst_ite fx (zaq fx.cx c _ _ he) (zcs fx _) (zcs fx _)
    · exact zay
  · split
    · rename_i e he; exact sst_whl fx (zaq fx.cx c _ _ he) (zcs fx _)
    · exact zay
  · rename_i t it b p
    split
    · rename_i x f fp a e k1 q1 q2 cp ht; rcases zfv ht with ⟨n, np, i, rfl, hi, hti⟩ | ⟨n, np, n', p', k, pp, i, j, rfl, hi, hj, hti⟩
      · cases hti
        split
        · rename_i pa pe ha he
          split
          · rename_i hg; simp only [Bool.and_eq_true, beq_iff_eq] at hg; exact sst_down fx hg.1 hg.2 ha he
          · exact zay
        · exact zay
      · cases hti
    · rename_i tg y py ht
      split
      · split
        · rename_i j hj
          split
          · rename_i hg; simp only [Bool.and_eq_true, Bool.not_eq_true'] at hg; exact sst_forOwn fx hg.1.1 hj ht hg.1.2 hg.2 (zcs fx _)
          · exact zay
        · exact zay
      · split
        · rename_i k a x h1
          split
          · rename_i hf; rcases zcq h1 with h1 | ⟨h1', rfl, rfl⟩
            · exact sst_for fx (zfn fx.cx c _ _ _ _ h1) (zck (.inr ⟨_, h1⟩)) ht hf (zcs fx _)
            · exact sst_for fx (zdd (zaq fx.cx c _ _ h1') fx.cx.handled) (zck (.inl ⟨_, h1'⟩)) ht hf (zcs fx _)
          · exact zay
        · exact zay
    · rename_i tg it ht _ _
      split
      · rename_i k a x h1
        split
        · rename_i hf; rcases zcq h1 with h1 | ⟨h1', rfl, rfl⟩
          · exact sst_for fx (zfn fx.cx c _ _ _ _ h1) (zck (.inr ⟨_, h1⟩)) ht hf (zcs fx _)
          · exact sst_for fx (zdd (zaq fx.cx c _ _ h1') fx.cx.handled) (zck (.inl ⟨_, h1'⟩)) ht hf (zcs fx _)
        · exact zay
      · exact zay
    · exact zay
  · exact sst_ret0 fx
  · split
    · rename_i e he; exact sst_ret fx (zaq fx.cx c _ _ he)
    · exact zay
  · exact sst_brk
  · split
    · rename_i e he; exact sst_asrt fx (zaq fx.cx c _ _ he)
    · exact zay
  · exact zay
termination_by sizeOf st
theorem zcs (fx : Fx prog w A hb Γ c env s₀) (st : List Stmt) : SSs prog w A hb Γ c env s₀ st (cSs c st) := by
  match st with
  | [] => exact sss_nil
  | s :: r => exact sss_cons (soundS fx s) (zcs fx r)
termination_by sizeOf st
end
end
end Mine
namespace Mine
open PySem PyProof.Rows PySem.Spec
structure Room (A : Around) (r : Nat) : Prop where
  handled : A.handled = none
  depth : A.depth + r < recursionLimit
  units : A.units + 3 * r + 64 < cLine
theorem Room.deeper {A : Around} {r : Nat} (x : Room A (r + 1)) (env : Env) : Room (A.deeper env) r :=
  ⟨x.handled, by have := x.depth; show A.depth + 1 + r < _; omega, by have := x.units; show A.units + 3 + 3 * r + 64 < _; omega⟩
def HB.deep (hb : HB) (L : Addr) : HB := ⟨hb.h, hb.own :: hb.fm, L⟩
theorem GS.deep {hb : HB} {s : Shared} {L : Addr} (g : GS hb s) (own : NFat s.heap hb.own) : GS (hb.deep L) s :=
  ⟨g.hard, g.tab, g.gens, fun a ha => by
    rcases List.mem_cons.mp ha with rfl | ha
    · exact own
    · exact g.fd a ha⟩
theorem Kp.up {hb : HB} {s s' : Shared} {L : Addr} (k : Kp (hb.deep L) s s') (own : NFat s.heap hb.own) : Kp hb s s' :=
  ⟨k.soft, k.os, fun g => let g' := k.gs (g.deep own); ⟨g'.hard, g'.tab, g'.gens, fun a ha => g'.fd a (List.mem_cons_of_mem _ ha)⟩⟩
theorem Kp.dn {hb : HB} {s s' : Shared} {L : Addr} (k : Kp hb s s') (g : GS hb s) (own : NFat s.heap hb.own) : Kp (hb.deep L) s s' :=
  ⟨k.soft, k.os, fun _ => let g' := k.gs g; g'.deep (own.soft k.soft)⟩
theorem Frs.deep {A : Around} {hb : HB} {env : Env} {L : Addr} (x : Frs A hb) (hf : env.frame = some L) (hn : hb.h.get? L = none) (hk : env.scope.kind = .function) : Frs (A.deeper env) (hb.deep L) := by
  obtain ⟨l, e, h⟩ := x; refine ⟨env :: l, Around.frames_deeper e, fun e' he' => ?_⟩
  rcases List.mem_cons.mp he' with rfl | he'
  · exact ⟨by rw [hk]; decide, L, hf, hn, .inr rfl⟩
  · obtain ⟨h1, L', h2, hn', h3⟩ := h e' he'; refine ⟨h1, L', h2, hn', .inl ?_⟩; rcases h3 with h3 | h3
    · exact List.mem_cons_of_mem _ h3
    · exact h3 ▸ List.mem_cons_self ..
structure FnAt (hb : Heap) (a : Addr) (fd : FuncData) (params : List Str) (body : List Stmt) : Prop where
  obj : ∃ o, hb.get? a = some o ∧ o.data = .func fd
  ne : a ≠ zao
  body : fd.body = .stmts body
  clo : fd.closure = []
  code : ∃ cd, fd.code = .ref cd ∧ cd ≠ zao ∧ hb.CodeRec fd.code fd.qualname
  glob : fd.globals = mainGlobals
  bu : fd.builtins = builtinsNs
  kind : fd.scope.kind = .function
  co : fd.scope.isCoroutine = false
  gen : fd.scope.isGenerator = false
  bind : ∀ vals : List Value, vals.length = params.length → bindArgs fd ⟨vals, []⟩ = pure (params.zip vals)
  nd : params.Nodup
  par : ∀ p ∈ params, fd.scope.names.lookup p = some .local ∨ fd.scope.names.lookup p = some .cell
  free : ∀ x ∈ fd.scope.names, x.2 ≠ .free
theorem zfu (kd : Str → Option NameKind) (n : Str) : ∀ (binds : List (Str × Value)) (m : Str → Option Value), (∀ x ∈ binds, x.1 ≠ n) → bindL kd binds m n = m n
  | [], _, _ => rfl
  | (k, v) :: r, m, h => by
    unfold bindL; rw [zfu kd n r _ fun x hx => h x (List.mem_cons_of_mem _ hx)]
    split
    · exact if_neg (Ne.symm (h (k, v) (List.mem_cons_self ..)))
    · rfl
theorem zft (kd : Str → Option NameKind) (n : Str) : ∀ (binds : List (Str × Value)) (m : Str → Option Value), (∀ x ∈ binds, x.1 ≠ n) → bindC kd binds m n = m n
  | [], _, _ => rfl
  | (k, v) :: r, m, h => by
    unfold bindC; rw [zft kd n r _ fun x hx => h x (List.mem_cons_of_mem _ hx)]
    split
    · rfl
    · exact if_neg (Ne.symm (h (k, v) (List.mem_cons_self ..)))
theorem bindL_get (kd : Str → Option NameKind) {n : Str} {v : Value} (hk : kd n = some .local) : ∀ (binds : List (Str × Value)) (m : Str → Option Value), (binds.map (·.1)).Nodup → (n, v) ∈ binds → bindL kd binds m n = some v
  | (k, u) :: r, m, hn, h => by
    rw [List.map_cons, List.nodup_cons] at hn; unfold bindL; rcases List.mem_cons.mp h with e | h
    · cases e
      rw [if_pos hk, zfu kd n r _ fun x hx e => hn.1 (by show n ∈ _; rw [← e]; exact List.mem_map_of_mem (f := fun x : Str × Value => x.1) hx)]
      exact if_pos rfl
    · exact bindL_get kd hk r _ hn.2 h
theorem bindC_get (kd : Str → Option NameKind) {n : Str} {v : Value} (hk : kd n ≠ some .local) : ∀ (binds : List (Str × Value)) (m : Str → Option Value), (binds.map (·.1)).Nodup → (n, v) ∈ binds → bindC kd binds m n = some v
  | (k, u) :: r, m, hn, h => by
    rw [List.map_cons, List.nodup_cons] at hn; unfold bindC; rcases List.mem_cons.mp h with e | h
    · cases e
      rw [if_neg hk, zft kd n r _ fun x hx e => hn.1 (by show n ∈ _; rw [← e]; exact List.mem_map_of_mem (f := fun x : Str × Value => x.1) hx)]
      exact if_pos rfl
    · exact bindC_get kd hk r _ hn.2 h
theorem zip_fst : ∀ {ps : List Str} {vs : List Value}, vs.length = ps.length → (ps.zip vs).map (·.1) = ps
  | [], vs, _ => by simp
  | p :: ps, [], h => by simp at h
  | p :: ps, v :: vs, h => by rw [List.zip_cons_cons, List.map_cons, zip_fst (by simpa using h)]
theorem zip_mem {ps : List Str} {vs : List Value} {i : Nat} {p : Str} {v : Value} (h1 : ps[i]? = some p) (h2 : vs[i]? = some v) : (p, v) ∈ ps.zip vs := by
  have : (ps.zip vs)[i]? = some (p, v) := by rw [List.getElem?_zip_eq_some]; exact ⟨h1, h2⟩
  exact List.mem_of_getElem? this
def TkOk (s : Shared) (params : List Str) (sc : Scope) : Prop := 1 ≤ s.toks ∨ (∃ p, params = [p] ∧ sc.names.lookup p = some .local) ∧ ∀ x ∈ sc.names, x.2 ≠ .cell
theorem zgh : ∀ (names : List (Str × NameKind)) (n : Nat) (acc : List (Str × Addr)), (∀ x ∈ names, x.2 ≠ .cell) → cellsFrom n names acc = acc
  | [], _, _, _ => rfl
  | (y, k) :: r, n, acc, h => by
    unfold cellsFrom; have : (k == NameKind.cell) = false := beq_eq_false_iff_ne.mpr (h (y, k) (List.mem_cons_self ..)); rw [this]; exact zgh r n acc fun x hx => h x (List.mem_cons_of_mem _ hx)
theorem env_any {M : Model} {A : Around} {E : Value → Shared → Prop} {s : Shared} {scope : Scope} {globals : Addr} {params : List Str} {vals : List Value} {qual : Str} {func : Option Addr} {code : Value} {builtins : Addr} {Q : Env → Shared → Prop}
    (tk : TkOk s params scope) (hvl : vals.length = params.length)
    (hk : scope.kind = .function)
    (hkind : ∀ x ∈ params.zip vals, scope.names.lookup x.1 = some .local ∨ (scope.names.lookup x.1 = some .cell ∧ ((cellsFrom (s.heap.objs.size + 1) scope.names []).lookup x.1).isSome = true))
    (hQ : ∀ env, env = newEnv scope s.heap.objs.size globals (cellsFrom (s.heap.objs.size + 1) scope.names []) qual func code none builtins →
      ∀ s', InCallC s env.locals (bindL env.kindOf (params.zip vals) fun _ => none) env.cells (bindC env.kindOf (params.zip vals) fun _ => none) s' → 1 ≤ s'.toks → Q env s') :
    wpAny M A (newFunctionEnv scope globals [] (params.zip vals) qual func code none builtins) Q E s := by
  rcases tk with tk | ⟨⟨p, rfl, hl⟩, hc⟩
  · exact wpAny_with_toks tk (wpAny_newFunctionEnv_cells hk hkind fun env he s' ic htk => hQ env he s' ic htk)
  · match vals, hvl with
    | [v], _ =>
      have ec := zgh scope.names (s.heap.objs.size + 1) [] hc
      refine wpAny_newFunctionEnv hc (fun x hx => ?_) (fun h' hns hsb => ?_) hk
      · simp only [List.zip_cons_cons, List.zip_nil_right, List.mem_singleton] at hx; rw [hx]; exact hl
      · refine hQ _ (by rw [ec]) _ ⟨⟨⟨h', _, rfl⟩, ?_, ?_, Nat.le_refl _⟩, fun n c q => (nomatch q), List.Pairwise.nil, fun n c q => (nomatch q)⟩ (by simp)
        · have hm : (fun x => ([p].zip [v]).reverse.lookup x) = bindL (newEnv scope s.heap.objs.size globals [] qual func code none builtins).kindOf ([p].zip [v]) fun _ => none := by
            funext x
            have hkd : (newEnv scope s.heap.objs.size globals [] qual func code none builtins).kindOf p = some .local := hl
            simp only [List.zip_cons_cons, List.zip_nil_right, List.reverse_singleton, bindL, if_pos hkd, List.lookup_cons, List.lookup_nil]; by_cases e : x = p
            · subst e; simp
            · rw [if_neg e, beq_eq_false_iff_ne.mpr e]
          rw [← hm]; exact hns
        · intro b o e; have hb : b ≠ s.heap.objs.size := fun q => by rw [q] at e; exact Nat.lt_irrefl _ (Heap.lt_size e)
          rw [hsb.2 b hb]; exact Heap.get?_push_of_some _ e
section
variable {prog : Program} {w : World} {A : Around} {hb : HB} {Γ : Gam} {c : CT} {s : Shared} {O : Addr → Prop}
def RetP (hb : HB) (s : Shared) (O : Addr → Prop) (v : PV) (f : Flow) (s' : Shared) : Prop := Kp hb s s' ∧ ((∃ rv, f = .ret rv ∧ VR s'.heap O v rv) ∨ (f = .next ∧ v = .nul))
theorem fn_enter {a : Addr} {fd : FuncData} {params : List Str} {body : List Stmt} (F : FnAt hb.h a fd params body) (hbase : zdq hb.h) (hcodeT : c.inT = true → fd.code = .ref zc1) (hroom : A.depth < recursionLimit) (hrm : A.depth + 1 < recursionLimit) (cx : ∀ L env, env.frame = some L → hb.h.get? L = none → env.scope.kind = .function → Cx prog w (A.deeper env) (hb.deep L) Γ)
    (hns : ∃ rest, c.ns = params ++ rest) (hkind : c.kind = fd.scope.names) (hgl : ∀ n v, c.gl.lookup n = some v → Glob hb.h n v)
    {args : List PV} {rvs : List Value} {v : PV} (hlen : args.length = params.length) (xc : XC hb O s) (tk : TkOk s params fd.scope) (hr : VRs s.heap O args rvs)
    (hbody : ∀ L env s₁, env.frame = some env.locals → Fx prog w (A.deeper env) (hb.deep L) Γ c env s → SS (hb.deep L) s c env O (fun _ => none) (args.map Mine.Slot.val ++ List.replicate (c.ns.length - args.length) Mine.Slot.unset) s₁ →
      ∀ (Q' : Flow → Shared → Prop) E', (∀ f s', RetP (hb.deep L) s O v f s' → Q' f s') → wpAny (model prog w) (A.deeper env) (execs body env) Q' E' s₁)
    {Q : Value → Shared → Prop} {E : Value → Shared → Prop} (hQ : ∀ rv s', Kp hb s s' → VR s'.heap O v rv → Q rv s') : wpAny (model prog w) A (call (.ref a) rvs) Q E s := by
  obtain ⟨o, ho, hd⟩ := F.obj; have gs := xc.gs; have hvl : rvs.length = params.length := by rw [hr.length, hlen]
  have ns : ∀ {a m}, hb.h.Ns a m → a ≠ zao → s.heap.Ns a m := fun ⟨o, es, ep, e, r⟩ ha => ⟨o, es, ep, gs.hard _ _ ha e, r⟩
  have hlim' : s.heap.NoLimit := let ⟨mc, h1, h2⟩ := hbase.lim; ⟨mc, ns h1 (by decide), h2⟩; have hcode : s.heap.CodeRec fd.code fd.qualname := by
    obtain ⟨cd, e, hne, cc, oo, vv, t, e1, e2, r⟩ := F.code; rw [e] at e1; cases e1; exact ⟨cd, oo, vv, t, e, gs.hard _ _ hne e2, r⟩
  have hkd : ∀ x ∈ params.zip rvs, fd.scope.names.lookup x.1 = some .local ∨ (fd.scope.names.lookup x.1 = some .cell ∧ ((cellsFrom (s.heap.objs.size + 1) fd.scope.names []).lookup x.1).isSome = true) := fun x hx => by
    have hp : x.1 ∈ params := by
      have := List.mem_map_of_mem (f := fun x : Str × Value => x.1) hx
      rw [zip_fst hvl] at this; exact this
    rcases F.par x.1 hp with h | h
    · exact .inl h
    · obtain ⟨a', ha'⟩ := zc4 fd.scope.names (s.heap.objs.size + 1) [] x.1 (mem_of_lookup h); obtain ⟨a'', ha''⟩ := zc5 ha'; exact .inr ⟨h, by rw [ha'']; rfl⟩
  refine wpAny_call (codeAny_call_function hroom (gs.hard _ _ F.ne ho) hd F.co F.gen F.body hcode ?_)
  rw [F.bind rvs hvl, F.clo]; refine wpAny_pure (env_any tk hvl F.kind hkd fun env he s₁ ic htk => ?_)
  have hL : env.locals = s.heap.objs.size := by rw [he]; rfl
  have hcl : env.cells = cellsFrom (s.heap.objs.size + 1) fd.scope.names [] := by rw [he]; rfl
  have hsc : env.scope = fd.scope := by rw [he]; rfl
  have hKO : ∀ n, env.kindOf n = fd.scope.names.lookup n := fun n => by unfold Env.kindOf; rw [hsc]
  refine ⟨hlim'.keeps ic.toInCall.keep, codeAny_func ?_⟩
  obtain ⟨rest, hns⟩ := hns; have keep := ic.toInCall.keep; have kp1' : Kp hb s s₁ := by
    obtain ⟨h', tk', rfl, hk⟩ := ic.done; exact .keeps hk
  have kp1 : Kp (hb.deep s.heap.objs.size) s s₁ := kp1'.dn gs xc.own; have gs' : GS (hb.deep s.heap.objs.size) s := gs.deep xc.own; have hLb : hb.h.get? s.heap.objs.size = none := by
    cases q : hb.h.get? s.heap.objs.size with
    | none => rfl
    | some o' => exact absurd (Heap.lt_size (gs.hard _ _ xc.off q)) (Nat.lt_irrefl _)
  have hF : env.frame = some s.heap.objs.size := by rw [he]; rfl
  have hLn : s.heap.get? env.locals = none := by rw [hL]; exact zbh (Nat.le_refl _)
  have hLt : env.locals ≠ zao := by rw [hL]; exact xc.off
  have slotI : ∀ {n i}, c.slot n = some i → c.ns[i]? = some n := by
    intro n i h; unfold CT.slot at h
    split at h
    · exact zcu h
    · exact zcu h
    · exact zcu h
    · cases h
  have slotK : ∀ {n i}, c.slot n = some i → env.kindOf n = some .local ∨ env.kindOf n = some .cell := by
    intro n i h; rw [hKO, ← hkind]; unfold CT.slot at h
    split at h
    · rename_i e; exact .inl e
    · rename_i e; exact .inr e
    · rename_i e; rw [hkind] at e; exact absurd rfl (F.free _ (mem_of_lookup e))
    · cases h
  have cel : ∀ {n}, env.kindOf n = some .cell → ∃ a', env.cells.lookup n = some a' ∧ (n, a') ∈ env.cells := by
    intro n h; rw [hKO] at h; obtain ⟨a', ha'⟩ := zc4 fd.scope.names (s.heap.objs.size + 1) [] n (mem_of_lookup h); obtain ⟨a'', ha''⟩ := zc5 ha'; rw [hcl]; exact ⟨a'', ha'', mem_of_lookup ha''⟩
  have celF : ∀ {n a'}, (n, a') ∈ env.cells → s.heap.get? a' = none ∧ a' ≠ zao := by
    intro n a' h; have := ic.above n a' h; rw [hL] at this; exact ⟨zbh (Nat.le_of_lt this), Nat.ne_of_gt (Nat.lt_trans gs.tab.lt this)⟩
  have par : ∀ {n i}, c.slot n = some i → SlotR s₁.heap (zbd O fun _ => none) (fun _ => none) i (args.map Mine.Slot.val ++ List.replicate (c.ns.length - args.length) Mine.Slot.unset)[i]? (if i < params.length then rvs[i]? else none) := by
    intro n i h; by_cases hi : i < params.length
    · rw [if_pos hi]; have hia : i < args.length := by rw [hlen]; exact hi
      rw [List.getElem?_append_left (by rw [List.length_map]; exact hia), List.getElem?_map, List.getElem?_eq_getElem hia]; obtain ⟨rv, h1, h2⟩ := hr.get (List.getElem?_eq_getElem hia); exact ⟨rv, h1, (h2.soft kp1.soft).mono (fun _ _ e _ => e) fun b _ _ q q' => by
        rcases q' with q' | ⟨_, q'⟩
        · exact q q'
        · cases q'⟩
    · rw [List.getElem?_append_right (by rw [List.length_map, hlen]; exact Nat.le_of_not_lt hi), List.getElem?_replicate]
      split <;> trivial
  have pname : ∀ {n i}, c.slot n = some i → i < params.length → params[i]? = some n := fun h hi => by
    have := slotI h; rw [hns, List.getElem?_append_left hi] at this; exact this
  have pnot : ∀ {n i}, c.slot n = some i → ¬ i < params.length → ∀ x ∈ params.zip rvs, x.1 ≠ n := fun {n i} h hi x hx e => by
    have hp : n ∈ params := by
      have := List.mem_map_of_mem (f := fun x : Str × Value => x.1) hx
      rw [zip_fst hvl] at this; rw [← e]; exact this
    obtain ⟨j, hj, hjn⟩ := List.getElem_of_mem hp; have hkn : c.kind.lookup n = some .local ∨ c.kind.lookup n = some .cell := by
      rw [hkind]; exact F.par n hp
    have : c.ns.idxOf? n = some i := by
      unfold CT.slot at h; rcases hkn with hkn | hkn <;> rw [hkn] at h <;> exact h
    obtain ⟨h1, h2, h3⟩ := List.idxOf?_eq_some_iff.mp this; have hji : j < i := Nat.lt_of_lt_of_le hj (Nat.le_of_not_lt hi); have := h3 j hji; apply this; have e1 : c.ns[j]? = some n := by rw [hns, List.getElem?_append_left hj, List.getElem?_eq_getElem hj, hjn]
    have e2 := List.getElem?_eq_getElem (Nat.lt_trans hji h1); rw [e1] at e2; exact (by first | exact beq_iff_eq.mpr (Option.some.inj e2).symm | exact (Option.some.inj e2).symm)
  have nodup : ((params.zip rvs).map (·.1)).Nodup := by rw [zip_fst hvl]; exact F.nd
  have fx : Fx prog w (A.deeper env) (hb.deep s.heap.objs.size) Γ c env s := ⟨cx _ env hF hLb (by rw [hsc]; exact F.kind), gs', fun n i h => ⟨fun _ => hLn, fun hk a' ha' => (celF (mem_of_lookup ha')).1, fun hk => by
    rcases slotK h with q | q <;> rw [q] at hk <;> cases hk⟩, hbase, fun q => by rw [he]; exact hcodeT q, hrm⟩
  have ss : SS (hb.deep s.heap.objs.size) s c env O (fun _ => none) (args.map Mine.Slot.val ++ List.replicate (c.ns.length - args.length) Mine.Slot.unset) s₁ := by
    refine ⟨kp1, ⟨⟨by rw [hsc]; exact F.kind, hLt, fun n i h => (slotK h).imp id .inl, hgl, fun n h => by rw [hKO, ← hkind]; exact h, fun n h => by rw [hKO, ← hkind]; exact h, fun n n' a' h1 h2 => name_of_addr ic.apart (mem_of_lookup h1) (mem_of_lookup h2), ?_, ?_⟩, ⟨_, ic.toInCall.ns, fun n i h hk => ?_⟩, fun n i h hk => ?_⟩, fun a' ha' => ?_, fun i j a' q => (nomatch q), fun i a' q => (nomatch q), fun i a' q => (nomatch q), htk, hL.symm⟩
    · rw [he]; exact F.glob
    · rw [he]; exact F.bu
    · have := par h; by_cases hi : i < params.length
      · rw [if_pos hi] at this; obtain ⟨rv, hrv⟩ : ∃ rv, rvs[i]? = some rv := ⟨_, List.getElem?_eq_getElem (by rw [hvl]; exact hi)⟩; rw [hrv] at this; rw [bindL_get _ hk _ _ nodup (zip_mem (pname h hi) hrv)]; exact this
      · rw [if_neg hi] at this; rw [zfu _ _ _ _ (pnot h hi)]; exact this
    · rcases slotK h with q | q
      · rcases hk with hk | hk <;> rw [q] at hk <;> cases hk
      · obtain ⟨a', ha', hm⟩ := cel q; refine ⟨a', ha', (celF hm).2, _, ic.cell n a' ha', ?_⟩; have := par h; have hnl : env.kindOf n ≠ some .local := by rw [q]; decide
        by_cases hi : i < params.length
        · rw [if_pos hi] at this; obtain ⟨rv, hrv⟩ : ∃ rv, rvs[i]? = some rv := ⟨_, List.getElem?_eq_getElem (by rw [hvl]; exact hi)⟩; rw [hrv] at this; rw [bindC_get _ hnl _ _ nodup (zip_mem (pname h hi) hrv)]; exact this
        · rw [if_neg hi] at this; rw [zft _ _ _ _ (pnot h hi)]; exact this
    · rcases ha' with ha' | ⟨_, q⟩
      · exact (xc.kp kp1').ok a' ha'
      · cases q
  refine hbody _ env _ (hF.trans (by rw [hL])) fx ss _ _ fun f s' q => ?_
  obtain ⟨k2, ⟨rv, rfl, r2⟩ | ⟨rfl, rfl⟩⟩ := q
  · exact hQ rv s' (k2.up xc.own) r2
  · exact hQ .none s' (k2.up xc.own) rfl
theorem fn_call {a : Addr} {fd : FuncData} {params : List Str} {body : List Stmt} (F : FnAt hb.h a fd params body) (hbase : zdq hb.h) (hcodeT : c.inT = true → fd.code = .ref zc1) (hroom : A.depth < recursionLimit) (hrm : A.depth + 1 < recursionLimit) (cx : ∀ L env, env.frame = some L → hb.h.get? L = none → env.scope.kind = .function → Cx prog w (A.deeper env) (hb.deep L) Γ)
    (hns : ∃ rest, c.ns = params ++ rest) (hkind : c.kind = fd.scope.names) (hgl : ∀ n v, c.gl.lookup n = some v → Glob hb.h n v)
    {args : List PV} {rvs : List Value} {v : PV} (hlen : args.length = params.length) (hv : evF Γ 0 c.ns.length (cSs c body) args = some v) (xc : XC hb O s) (tk : TkOk s params fd.scope) (hr : VRs s.heap O args rvs)
    {Q : Value → Shared → Prop} {E : Value → Shared → Prop} (hQ : ∀ rv s', Kp hb s s' → VR s'.heap O v rv → Q rv s') : wpAny (model prog w) A (call (.ref a) rvs) Q E s := by
  refine fn_enter F hbase hcodeT hroom hrm cx hns hkind hgl hlen xc tk hr (v := v) (fun L env s₁ _ fx ss Q' E' hQ' => ?_) hQ
  unfold evF at hv
  split at hv
  · rename_i v' σ' e
    cases hv
    refine zcs fx body O _ _ _ ss _ _ e _ _ fun f s' q => ?_
    obtain ⟨rv, rfl, k2, _, r2⟩ := q; exact hQ' _ _ ⟨k2, .inl ⟨rv, rfl, r2⟩⟩
  · rename_i σ' e
    cases hv
    refine zcs fx body O _ _ _ ss _ _ e _ _ fun f s' q => ?_
    obtain ⟨rfl, ow', x2, _⟩ := q; exact hQ' _ _ ⟨x2.kp, .inr ⟨rfl, rfl⟩⟩
  · cases hv
end
end Mine
namespace Mine
open PySem
def tD1 : List PS := [.own 10, .assign 11 (.ife (.cmp .Eq (.idx (.var 0) (.var 5)) (.lit (.str [33]))) (.bin .Add (.var 5) (.lit (.int 2))) (.bin .Add (.var 5) (.lit (.int 1))))]
def tD2 : List PS := [.assign 11 (.meth "find" (.var 0) [(.lit (.str [45])), (.var 11), (.var 8)]), .ite (.cmp .Lt (.var 11) (.lit (.int 0))) [.brk] [], .push 10 (.slc (.var 0) (.var 5) (.var 11)), .assign 5 (.bin .Add (.var 11) (.lit (.int 1))), .assign 11 (.bin .Add (.var 11) (.lit (.int 3)))]
def tD3 : List PS := [.assign 12 (.slc (.var 0) (.var 5) (.var 8)), .ite (.var 12) [.push 10 (.var 12)] [.bad 24], .down 11 (.bin .Sub (.len (.var 10)) (.lit (.int 1))) (.lit (.int 0)), .djoin 9 10]
def tD : List PS := tD1 ++ (.whl (.lit (.bool true)) tD2 :: tD3)
def tE1 : List PS := [.assign 9 (.slc (.var 0) (.var 5) (.var 8)), .ite (.cmp .NotIn (.lit (.str [45])) (.var 9)) [.assign 9 (.repl (.var 9) 92 [92, 92])] tD]
def tE2 : List PS := [.resub 9, .assign 5 (.bin .Add (.var 8) (.lit (.int 1))), .ite (.nt (.var 9)) [.pushA 4 3 (.lit (.str [40, 63, 33, 41]))] [.ite (.cmp .Eq (.var 9) (.lit (.str [33]))) [.pushA 4 3 (.lit (.str [46]))] [.ite (.cmp .Eq (.idx (.var 9) (.lit (.int 0))) (.lit (.str [33]))) [.assign 9 (.bin .Add (.lit (.str [94])) (.slc (.var 9) (.lit (.int 1)) (.lit .nul)))] [.ite (.cmp .In (.idx (.var 9) (.lit (.int 0))) (.tpl [(.lit (.str [94])), (.lit (.str [91]))])) [.assign 9 (.bin .Add (.lit (.str [92])) (.var 9))] []], .pushA 4 3 (.fstr [(.lit (.str [91])), (.var 9), (.lit (.str [93]))])]]]
def tCi : List PS := [.assign 8 (.var 5), .ite (.bop true (.cmp .Lt (.var 8) (.var 6)) (.cmp .Eq (.idx (.var 0) (.var 8)) (.lit (.str [33])))) [.assign 8 (.bin .Add (.var 8) (.lit (.int 1)))] [], .ite (.bop true (.cmp .Lt (.var 8) (.var 6)) (.cmp .Eq (.idx (.var 0) (.var 8)) (.lit (.str [93])))) [.assign 8 (.bin .Add (.var 8) (.lit (.int 1)))] []]
def tCw : PE := (.bop true (.cmp .Lt (.var 8) (.var 6)) (.cmp .NotEq (.idx (.var 0) (.var 8)) (.lit (.str [93]))))
def tCb : List PS := [.assign 8 (.bin .Add (.var 8) (.lit (.int 1)))]
def tC : List PS := tCi ++ (.whl tCw tCb :: [.ite (.cmp .GtE (.var 8) (.var 6)) [.pushA 4 3 (.lit (.str [92, 91]))] (tE1 ++ tE2)])
def tb : List PS := [.assign 7 (.idx (.var 0) (.var 5)), .assign 5 (.bin .Add (.var 5) (.lit (.int 1))), .ite (.cmp .Eq (.var 7) (.lit (.str [42]))) [.ite (.bop false (.nt (.var 3)) (.cmp .IsNot (.idx (.var 3) (.neg 1)) (.var 1))) [.pushA 4 3 (.var 1)] []] [.ite (.cmp .Eq (.var 7) (.lit (.str [63]))) [.pushA 4 3 (.var 2)] [.ite (.cmp .Eq (.var 7) (.lit (.str [91]))) tC [.pushA 4 3 (.call (.ref 62) [(.var 7)])]]]]
def tc : PE := (.cmp .Lt (.var 5) (.var 6))
def jc : PE := (.bop true (.cmp .Lt (.var 4) (.var 5)) (.cmp .IsNot (.idx (.var 0) (.var 4)) (.var 1)))
def j1 : List PS := [.pushA 3 2 (.idx (.var 0) (.var 4)), .aug 4 .Add (.lit (.int 1))]
def j2 : List PS := [.push 6 (.idx (.var 0) (.var 4)), .aug 4 .Add (.lit (.int 1))]
def jo1 : List PS := [.asrt (.cmp .Is (.idx (.var 0) (.var 4)) (.var 1)), .aug 4 .Add (.lit (.int 1))]
def jo2 : List PS := [.asrt (.cmp .IsNot (.idx (.var 0) (.var 4)) (.var 1)), .own 6]
def jo3 : List PS := [.assign 6 (.meth "join" (.lit (.str [])) [(.var 6)]), .ite (.cmp .Eq (.var 4) (.var 5)) [.pushA 3 2 (.lit (.str [46, 42])), .pushA 3 2 (.var 6)] [.pushA 3 2 (.fstr [(.lit (.str [40, 63, 62, 46, 42, 63])), (.var 6), (.lit (.str [41]))])]]
def jif : PS := .ite (.cmp .Eq (.var 4) (.var 5)) [.pushA 3 2 (.lit (.str [46, 42])), .brk] []
def jo : List PS := jo1 ++ (jif :: (jo2 ++ (.whl jc j2 :: jo3)))
def jend : List PS := [.asrt (.cmp .Eq (.var 4) (.var 5)),
  .assign 2 (.meth "join" (.lit (.str [])) [(.var 2)]),
  .ret (.fstr [(.lit (.str [40, 63, 115, 58])), (.var 2), (.lit (.str [41, 92, 90]))])]
def rc : PE := (.cmp .Lt (.var 2) (.var 3))
def rB1 : List PS := [.assign 4 (.cmp .Eq (.idx (.var 0) (.bin .Add (.var 2) (.lit (.int 1)))) (.lit (.str [94]))), .aug 2 .Add (.ife (.var 4) (.lit (.int 2)) (.lit (.int 1))), .assign 5 (.lit (.str []))]
def rBc : PE := (.bop false (.cmp .Eq (.var 5) (.lit (.str []))) (.cmp .NotEq (.idx (.var 0) (.var 2)) (.lit (.str [93]))))
def rBb : List PS := [.ite (.cmp .Eq (.idx (.var 0) (.var 2)) (.lit (.str [92]))) [.aug 2 .Add (.lit (.int 1))] [], .aug 5 .Add (.idx (.var 0) (.var 2)), .aug 2 .Add (.lit (.int 1))]
def rB3 : List PS := [.push 1 (.tpl [(.var 4), (.var 5)]), .aug 2 .Add (.lit (.int 1))]
def rB : List PS := rB1 ++ (.whl rBc rBb :: rB3)
def rE : List PS := [.ite (.cmp .In (.idx (.var 0) (.var 2)) (.lit (.str [40, 41, 42, 43, 63, 123, 125, 124, 94, 36]))) [.ret (.lit .nul)] [.push 1 (.tpl [(.lit (.bool false)), (.idx (.var 0) (.var 2))]), .aug 2 .Add (.lit (.int 1))]]
def rb : List PS := [.ite (.cmp .Eq (.slc (.var 0) (.var 2) (.bin .Add (.var 2) (.lit (.int 2)))) (.lit (.str [46, 42]))) [.push 1 (.lit .nul), .aug 2 .Add (.lit (.int 2))] [.ite (.cmp .Eq (.idx (.var 0) (.var 2)) (.lit (.str [46]))) [.push 1 (.tpl [(.lit (.bool true)), (.lit (.str []))]), .aug 2 .Add (.lit (.int 1))] [.ite (.cmp .Eq (.idx (.var 0) (.var 2)) (.lit (.str [92]))) [.push 1 (.tpl [(.lit (.bool false)), (.idx (.var 0) (.bin .Add (.var 2) (.lit (.int 1))))]), .aug 2 .Add (.lit (.int 2))] [.ite (.cmp .Eq (.idx (.var 0) (.var 2)) (.lit (.str [91]))) rB rE]]]]
def fb : List PS := [.ite (.cmp .Eq (.cmp .In (.var 3) (.idx (.var 2) (.lit (.int 1)))) (.idx (.var 2) (.lit (.int 0)))) [.ret (.lit (.bool false))] []]
def kb : List PS := [.assign 8 (.bin .Sub (.len (.var 7)) (.len (.var 5))), .ite (.bop true (.ife (.var 2) (.cmp .GtE (.var 8) (.var 3)) (.cmp .Eq (.var 8) (.var 3))) (.bop true (.call (.ref 149) [(.var 4), (.var 7)]) (.call (.ref 149) [(.var 5), (.slc (.var 7) (.var 8) (.lit .nul))]))) [.push 6 (.var 7)] []]
def pb : List PS := [.assign 7 (.bin .Mod (.bin .FloorDiv (.bin .FloorDiv (.var 1) (.lit (.int 9))) (.bin .Pow (.lit (.int 4)) (.var 5))) (.lit (.int 4))), .ite (.bop true (.cmp .Lt (.var 7) (.lit (.int 2))) (.cmp .NotEq (.var 6) (.idx (.var 0) (.var 7)))) [.ret (.lit (.bool false))] [], .ite (.bop true (.cmp .Eq (.var 7) (.lit (.int 3))) (.cmp .Eq (.var 6) (.idx (.var 0) (.lit (.int 0))))) [.ret (.lit (.bool false))] []]
def lb : List PS := [.assign 5 (.call (.ref 142) [(.call (.ref 50) [(.call (.ref 128) [(.var 0), (.var 4)])])]), .ite (.cmp .Is (.var 5) (.lit .nul)) [.ret (.lit .nul)] [], .assign 6 (.call (.ref 156) [(.var 5), (.var 2)]), .assign 7 (.comp (.var 1) (.one 1) .plain (.var 3) (.lit .nul) [(.cmp .NotIn (.var 1) (.var 2))] [none, none, some 6]), .assign 8 (.comp (.var 1) (.one 1) .plain (.var 6) (.lit .nul) [(.cmp .NotIn (.var 1) (.var 2))] [none, none, some 3]), .assign 9 (.tpl [(.call (.type "list") [(.var 3)]), (.call (.type "list") [(.var 6)])]), .ite (.bop false (.cmp .NotEq (.call (.ref 38) [(.var 3), (.var 6)]) (.tpl [(.var 7), (.var 8)])) (.cmp .NotEq (.tpl [(.var 3), (.var 6)]) (.var 9))) [.ret (.lit .nul)] [], .assign 3 (.call (.builtin "sorted") [(.bin .Add (.var 7) (.var 8))])]
def oddC : PE := (.comp (.var 1) (.one 1) .plain (.var 2) (.lit .nul) [(.cmp .Eq (.bin .Mod (.call (.builtin "sum") [(.comp (.call (.ref 135) [(.var 3), (.var 1), (.var 2)]) (.one 1) .plain (.var 2) (.lit .nul) [] [none, none, some 1, some 3])]) (.lit (.int 2))) (.lit (.int 1)))] [none, none, some 1, some 0])
def bb : List PS := [.assign 5 (.comp (.call (.ref 123) [(.var 2), (.meth "index" (.var 2) [(.var 1)])]) (.one 1) .plain (.meth "split" (.var 4) [(.lit (.str [46]))]) (.lit .nul) [] [none, none, some 0]), .assign 6 (.call (.ref 142) [(.call (.ref 50) [(.bin .Add (.meth "join" (.lit (.str [46])) [(.var 5)]) (.lit (.str [46, 42])))])]), .ite (.cmp .Is (.var 6) (.lit .nul)) [.ret (.lit .nul)] [], .assign 7 (.comp (.slc (.call (.ref 109) [(.slc (.call (.ref 109) [(.var 1)]) (.lit (.int 1)) (.lit .nul))]) (.lit (.int 1)) (.lit .nul)) (.one 1) .plain (.call (.ref 156) [(.var 6), (.var 2)]) (.lit .nul) [] [none, none]), .push 3 (.var 7)]
def eb : List PS := [.assign 4 (.comp (.call (.ref 102) [(.meth "upper" (.var 1) []), (.bin .Add (.lit (.str [46])) (.var 2))]) (.one 1) .plain (.var 1) (.lit .nul) [] [none, none, some 3]), .ite (.comp (.var 1) (.one 1) .plain (.var 4) (.lit .nul) [(.cmp .IsNot (.call (.type "type") [(.var 1)]) (.gl (.type "bool")))] [none, none]) [.ret (.lit .nul)] [], .push 2 (.comp (.slc (.var 1) (.lit .nul) (.lit (.int 3))) (.two 1 2) .zip (.var 1) (.var 4) [(.var 2)] [none, none, none])]
def rki : List PS := [.ite (.cmp .In (.idx (.var 4) (.lit (.int 0))) (.var 3)) [.assign 5 (.call (.ref 38) [(.var 3), (.var 4)]), .assign 3 (.call (.builtin "sorted") [(.bin .Add (.idx (.var 5) (.lit (.int 0))) (.idx (.var 5) (.lit (.int 1))))])] []]
def rkb : List PS := [.assign 3 (.var 2), .forOwn (.one 4) 1 rki, .ite (.var 3) [.push 1 (.var 3)] []]
def catE (i j : Nat) : PE := (.bin .Add (.bin .Add (.var i) (.lit (.str [46]))) (.var j))
def c1 : PE := .comp2 (catE 1 2) (.one 1) .plain (.var 0) (.lit .nul) (.one 2) (.var 3) [none, none, none, some 0]
def c2 : PE := .comp2 (catE 1 2) (.one 1) .plain (.var 2) (.lit .nul) (.one 2) (.var 3) [none, none, none, some 2]
def c3 : PE := .comp2 (catE 1 3) (.two 1 2) .zip (.var 2) (.var 5) (.one 3) (.var 2) [none, none, none, none]
def c4 : PE := .comp2 (catE 3 1) (.two 1 2) .zip (.var 2) (.var 6) (.one 3) (.var 2) [none, none, none, none]
def rt : PE := (.bop true (.cmp .Eq (.var 7) (.call (.ref 178) [(.var 6)])) (.cmp .LtE (.var 7) (.lit (.int 3))))
def b62 : List PS := [.ite (.call (.builtin "isinstance") [(.var 0), (.gl (.type "str"))]) [.ret (.meth "translate" (.var 0) [(.gl (.ref 52))])] [.assign 0 (.call (.type "str") [(.var 0), (.lit (.str [108, 97, 116, 105, 110, 49]))]), .ret (.meth "encode" (.meth "translate" (.var 0) [(.gl (.ref 52))]) [(.lit (.str [108, 97, 116, 105, 110, 49]))])]]
def b69 : List PS := [.own 3, .app 4 3, .tup2 5 6 (.lit (.int 0)) (.len (.var 0)), .whl tc tb, .asrt (.cmp .Eq (.var 5) (.var 6)), .ret (.var 3)]
def b76 : List PS := [.own 2, .app 3 2, .tup2 4 5 (.lit (.int 0)) (.len (.var 0)), .whl jc j1, .whl (.cmp .Lt (.var 4) (.var 5)) jo] ++ jend
def b88 : List PS := [.ite (.meth "search" (.gl (.ref 81)) [(.var 0)]) [.ret (.lit (.bool false))] [],
  .ite (.cmp .Eq (.var 0) (.lit (.str []))) [.ret (.lit (.bool false))] [],
  .ite (.bop false (.cmp .Eq (.idx (.var 0) (.lit (.int 0))) (.lit (.str [46]))) (.cmp .Eq (.idx (.var 0) (.neg 1)) (.lit (.str [46])))) [.ret (.lit (.bool false))] [],
  .ret (.lit (.bool true))]
def b95 : List PS := [.ite (.meth "search" (.gl (.ref 81)) [(.var 0)]) [.ret (.lit (.bool false))] [],
  .ret (.lit (.bool true))]
def b102 : List PS := [.assign 0 (.meth "lower" (.var 0) []),
  .assign 1 (.meth "lower" (.var 1) []),
  .ite (.nt (.bop true (.call (.ref 95) [(.var 0)]) (.call (.ref 95) [(.var 1)]))) [.ite (.cmp .Eq (.var 0) (.var 1)) [.ret (.lit (.bool true))] [], .ret (.lit (.bool false))] [],
  .assign 2 (.meth "startswith" (.var 1) [(.lit (.str [46]))]),
  .ite (.bop true (.var 2) (.meth "endswith" (.var 0) [(.var 1)])) [.ret (.lit (.bool true))] [],
  .ite (.bop true (.nt (.var 2)) (.cmp .Eq (.var 0) (.var 1))) [.ret (.lit (.bool true))] [],
  .ret (.lit (.bool false))]
def b109 : List PS := [.assign 1 (.meth "find" (.var 0) [(.lit (.str [46]))]),
  .ite (.cmp .GtE (.var 1) (.lit (.int 0))) [.assign 2 (.slc (.var 0) (.bin .Add (.var 1) (.lit (.int 1))) (.lit .nul)), .assign 1 (.meth "find" (.var 2) [(.lit (.str [46]))]), .ite (.bop true (.call (.ref 88) [(.var 0)]) (.bop false (.cmp .GtE (.var 1) (.lit (.int 0))) (.cmp .Eq (.var 2) (.lit (.str [108, 111, 99, 97, 108]))))) [.ret (.bin .Add (.lit (.str [46])) (.var 2))] []] [],
  .ret (.var 0)]
def b116 : List PS := [.assign 1 (.lit (.str [97, 98, 42, 63, 91, 93, 33, 45, 94, 92, 38, 126, 124, 32, 36, 43])),
  .assign 2 (.bin .Mod (.var 0) (.lit (.int 16))),
  .assign 3 (.bin .Mod (.bin .Add (.bin .Add (.var 2) (.lit (.int 1))) (.bin .Mod (.bin .FloorDiv (.var 0) (.lit (.int 16))) (.lit (.int 15)))) (.lit (.int 16))),
  .ret (.call (.builtin "sorted") [(.lst [(.idx (.var 1) (.var 2)), (.idx (.var 1) (.var 3))])])]
def b123 : List PS := [.ite (.cmp .Eq (.var 1) (.lit (.int 2))) [.ret (.lit (.str [63]))] [],
  .ite (.cmp .Eq (.var 1) (.lit (.int 3))) [.ret (.bin .Add (.bin .Add (.lit (.str [91, 33])) (.idx (.var 0) (.lit (.int 0)))) (.lit (.str [93])))] [],
  .ite (.cmp .In (.idx (.var 0) (.var 1)) (.lit (.str [42, 63, 91]))) [.ret (.bin .Add (.bin .Add (.lit (.str [91])) (.idx (.var 0) (.var 1))) (.lit (.str [93])))] [],
  .ret (.idx (.var 0) (.var 1))]
def b128 : List PS := [.assign 2 (.bin .Mod (.var 1) (.lit (.int 3))),
  .assign 3 (.bin .Mod (.bin .FloorDiv (.var 1) (.lit (.int 3))) (.lit (.int 3))),
  .assign 4 (.comp (.call (.ref 123) [(.var 3), (.bin .Mod (.bin .FloorDiv (.bin .FloorDiv (.var 2) (.lit (.int 9))) (.bin .Pow (.lit (.int 4)) (.var 1))) (.lit (.int 4)))]) (.one 1) .range (.bin .Add (.var 2) (.var 3)) (.lit .nul) [] [none, none, some 1, some 0]),
  .assign 5 (.ife (.cmp .Eq (.bin .Add (.var 2) (.var 3)) (.lit (.int 4))) (.lst []) (.lst [(.lit (.str [42]))])),
  .ret (.meth "join" (.lit (.str [46])) [(.bin .Add (.bin .Add (.slc (.var 4) (.lit .nul) (.var 2)) (.var 5)) (.slc (.var 4) (.var 2) (.lit .nul)))])]
def b135 : List PS := [.assign 3 (.meth "split" (.var 2) [(.lit (.str [46]))]),
  .assign 4 (.bin .Add (.slc (.var 3) (.lit .nul) (.bin .Mod (.var 1) (.lit (.int 3)))) (.slc (.var 3) (.bin .Sub (.lit (.int 4)) (.bin .Mod (.bin .FloorDiv (.var 1) (.lit (.int 3))) (.lit (.int 3)))) (.lit .nul))),
  .for (.two 5 6) .enum (.var 4) (.lit .nul) pb, .ret (.lit (.bool true))]
def b142 : List PS := [.own 1,
  .assign 2 (.lit (.int 4)),
  .assign 3 (.bin .Sub (.len (.var 0)) (.lit (.int 3))),
  .ite (.bop false (.cmp .NotEq (.slc (.var 0) (.lit .nul) (.lit (.int 4))) (.lit (.str [40, 63, 115, 58]))) (.cmp .NotEq (.slc (.var 0) (.var 3) (.lit .nul)) (.lit (.str [41, 92, 90])))) [.ret (.lit .nul)] [],
  .whl rc rb, .ret (.var 1)]
def b149 : List PS := [.for (.two 2 3) .zip (.var 0) (.var 1) fb, .ret (.lit (.bool true))]
def b156 : List PS := [.assign 2 (.cmp .In (.lit .nul) (.var 0)),
  .assign 3 (.ife (.var 2) (.meth "index" (.var 0) [(.lit .nul)]) (.len (.var 0))),
  .assign 4 (.slc (.var 0) (.lit .nul) (.var 3)),
  .assign 5 (.slc (.var 0) (.bin .Add (.var 3) (.lit (.int 1))) (.lit .nul)),
  .own 6,
  .for (.one 7) .plain (.var 1) (.lit .nul) kb, .ret (.var 6)]
def b161 : List PS := [.assign 3 (.lst []), .for (.one 4) .plain (.var 1) (.lit .nul) lb, .assign 10 oddC, .ret (.ife (.cmp .Eq (.var 3) (.var 10)) (.var 3) (.lit .nul))]
def b166 : List PS := [.own 3, .for (.one 4) .plain (.var 1) (.lit .nul) bb, .ret (.var 3)]
def b171 : List PS := [.own 2, .for (.one 3) .plain (.var 0) (.lit .nul) eb, .ret (.var 2)]
def b178 : List PS := [.own 1, .for (.one 2) .plain (.var 0) (.lit .nul) rkb, .ret (.len (.var 1))]
def b183 : List PS := [.assign 2 c1, .assign 3 c2, .assign 4 (.call (.ref 161) [(.var 0), (.var 1), (.var 3)]),
  .ite (.cmp .Is (.var 4) (.lit .nul)) [.ret (.lit (.bool false))] [],
  .assign 5 (.call (.ref 166) [(.var 0), (.var 2), (.var 4)]),
  .assign 6 (.call (.ref 171) [(.var 2), (.var 4)]),
  .ite (.bop false (.cmp .Is (.var 5) (.lit .nul)) (.cmp .Is (.var 6) (.lit .nul))) [.ret (.lit (.bool false))] [],
  .ite (.cmp .NotEq c3 (.var 4)) [.ret (.lit (.bool false))] [],
  .ite (.cmp .NotEq (.call (.builtin "sorted") [c4]) (.var 4)) [.ret (.lit (.bool false))] [],
  .assign 7 (.call (.ref 178) [(.var 5)]), .ret rt]
def b188 : List PS := [.assign 1 (.comp (.bin .Mod (.var 1) (.bin .Pow (.lit (.int 10)) (.lit (.int 8)))) (.one 1) .plain (.slc (.var 0) (.lit .nul) (.lit (.int 4))) (.lit .nul) [] [none, none]),
  .assign 2 (.bin .Add (.var 1) (.slc (.lst [(.lit (.int 16)), (.lit (.int 40)), (.lit (.int 110)), (.lit (.int 33))]) (.len (.var 1)) (.lit .nul))),
  .ret (.call (.ref 183) [(.call (.ref 116) [(.idx (.var 2) (.lit (.int 0)))]), (.slc (.var 2) (.lit (.int 1)) (.lit .nul))])]
def tbl : Addr → Option (Nat × Nat × List PS)
  | 62 => some (1, 1, b62)
  | 69 => some (3, 13, b69)
  | 76 => some (2, 7, b76)
  | 88 => some (1, 1, b88)
  | 95 => some (1, 1, b95)
  | 102 => some (2, 3, b102)
  | 109 => some (1, 3, b109)
  | 116 => some (1, 4, b116)
  | 123 => some (2, 2, b123)
  | 128 => some (2, 6, b128)
  | 135 => some (3, 8, b135)
  | 142 => some (1, 6, b142)
  | 149 => some (2, 4, b149)
  | 156 => some (2, 9, b156)
  | 161 => some (3, 11, b161)
  | 166 => some (3, 8, b166)
  | 171 => some (2, 5, b171)
  | 178 => some (1, 6, b178)
  | 183 => some (2, 8, b183)
  | 188 => some (1, 3, b188)
  | _ => none
end Mine
namespace Mine
open PySem PyProof.Rows PySem.Spec
def zb1 : List (List Nat) → Bool
  | [] => true
  | [_] => true
  | x :: y :: r => decide (x < y) && zb1 (y :: r)
def sld (vs : List PV) : Option PV := match vs with
  | [.list a, .list b] => match zb6? a, zb6? b with
    | some x, some y => if zb1 x && zb1 y && decide (x.length ≤ 64) && decide (y.length ≤ 64) then
        some (.tup [.list ((x.filter fun t => !y.contains t).map .str), .list ((y.filter fun t => !x.contains t).map .str)]) else none
    | _, _ => none
  | _ => none
def trOk (Γ : Gam) (l : List Nat) (r : PV) : Prop := ∀ a, ∃ v, Γ (.ref 69) [.str l, .ob a, .str [46]] = some v ∧ Γ (.ref 76) [v, .ob a] = some (.str (match r with | .str t => t | _ => [])) ∧ ∃ t, r = .str t
open Classical in
noncomputable def trs (Γ : Gam) (vs : List PV) : Option PV := match vs with
  | [.str l] => if h : ∃ r, trOk Γ l r then some h.choose else none
  | _ => none
theorem trs_eq {Γ : Gam} {l t : List Nat} (h : ∀ a, ∃ v, Γ (.ref 69) [.str l, .ob a, .str [46]] = some v ∧ Γ (.ref 76) [v, .ob a] = some (.str t)) : trs Γ [.str l] = some (.str t) := by
  have hx : ∃ r, trOk Γ l r := ⟨.str t, fun a => let ⟨v, h1, h2⟩ := h a; ⟨v, h1, h2, t, rfl⟩⟩
  have e : trs Γ [.str l] = some hx.choose := by unfold trs; exact dif_pos hx
  rw [e]; obtain ⟨v, h1, h2, t', h3⟩ := hx.choose_spec 0; obtain ⟨v', h1', h2'⟩ := h 0; rw [h1] at h1'; cases h1'; rw [h2'] at h2; rw [h3] at h2 ⊢; injection h2 with h2; rw [h2]
theorem trs_inv {Γ : Gam} {vs : List PV} {r : PV} (h : trs Γ vs = some r) : ∃ l t, vs = [.str l] ∧ r = .str t ∧ ∀ a, ∃ v, Γ (.ref 69) [.str l, .ob a, .str [46]] = some v ∧ Γ (.ref 76) [v, .ob a] = some (.str t) := by
  unfold trs at h
  split at h
  · rename_i l
    split at h
    · rename_i hx; injection h with h; have sp := hx.choose_spec; rw [h] at sp; obtain ⟨_, _, _, t, h3⟩ := sp 0; refine ⟨l, t, rfl, h3, fun a => ?_⟩
      obtain ⟨v, h1, h2, _⟩ := sp a; rw [h3] at h2; exact ⟨v, h1, h2⟩
    · cases h
  · cases h
noncomputable def gam : Nat → Gam
  | 0 => fun _ _ => none
  | k + 1 => fun f vs => match f with
    | .ref a => if a = 38 then sld vs else if a = 50 then trs (gam k) vs else match tbl a with
      | some (m, n, b) => if vs.length = m then evF (gam k) 0 n b vs else none
      | none => none
    | _ => none
def zfd (prog : Program) (w : World) (A : Around) (hb : HB) (f : Value) (vs : List PV) (v : PV) : Prop :=
  ∃ a o fd, f = .ref a ∧ a ≠ zao ∧ hb.h.get? a = some o ∧ o.data = .func fd ∧ ∀ O s rvs Q E, XC hb O s → 1 ≤ s.toks → VRs s.heap O vs rvs → (∀ rv s', Kp hb s s' → VR s'.heap O v rv → Q rv s') → wpAny (model prog w) A (call f rvs) Q E s
structure zbp (h : Heap) (a : Addr) (m n : Nat) (b : List PS) : Prop where
  ex : ∃ fd params body c, FnAt h a fd params body ∧ (∃ rest, CT.ns c = params ++ rest) ∧ c.kind = fd.scope.names ∧ (∀ n v, c.gl.lookup n = some v → Glob h n v) ∧ params.length = m ∧ c.ns.length = n ∧ cSs c body = b ∧ (c.inT = true → fd.code = .ref zc1)
def zfc (prog : Program) (w : World) (A : Around) (hb : HB) (Γ : Gam) : Prop := ∀ L env, env.frame = some L → hb.h.get? L = none → env.scope.kind = .function → Cx prog w (A.deeper env) (hb.deep L) Γ
structure Ground' (prog : Program) (w : World) (h : Heap) : Prop where
  base : zdq h
  pats : Pats prog w h
  tbl : ∀ a m n b, tbl a = some (m, n, b) → zbp h a m n b
  sl : ∀ A fm own r Γ, Room A (r + 1) → zfc prog w A ⟨h, fm, own⟩ Γ → ∀ vs v, sld vs = some v → zfd prog w A ⟨h, fm, own⟩ (.ref 38) vs v
  tr : ∀ A fm own r Γ, Room A (r + 1) → zfc prog w A ⟨h, fm, own⟩ Γ → ∀ vs v, trs Γ vs = some v → zfd prog w A ⟨h, fm, own⟩ (.ref 50) vs v
section
variable {prog : Program} {w : World} {h : Heap}
theorem Room.cx {A : Around} {k : Nat} {Γ : Gam} {hb : HB} (x : Room A k) (fr : Frs A hb) (p : Pats prog w hb.h) (h : ∀ f vs v, Γ f vs = some v → zfd prog w A hb f vs v) : Cx prog w A hb Γ :=
  ⟨x.handled, by have := x.units; omega, p, fr, h⟩
theorem gam_ok (G : Ground' prog w h) : ∀ k A fm own, Room A k → Frs A ⟨h, fm, own⟩ → ∀ f vs v, gam k f vs = some v → zfd prog w A ⟨h, fm, own⟩ f vs v := by
  intro k
  induction k with
  | zero => intro A fm own r fr f vs v h; cases h
  | succ k ih =>
    intro A fm own r fr f vs v h'
    have hcx : zfc prog w A ⟨h, fm, own⟩ (gam k) := fun L env he hn hk => (r.deeper env).cx (fr.deep he hn hk) G.pats (ih _ _ _ (r.deeper env) (fr.deep he hn hk))
    unfold gam at h'
    split at h'
    · rename_i a
      split at h'
      · rename_i ha; subst ha; exact G.sl A fm own k _ r hcx vs v h'
      · split at h'
        · rename_i ha; subst ha; exact G.tr A fm own k _ r hcx vs v h'
        · split at h'
          · rename_i m n b hb'
            split at h'
            · rename_i hm; obtain ⟨fd, params, body, c, F, hns, hk, hg, hp, hn, hc, hco⟩ := (G.tbl a m n b hb').ex; obtain ⟨o, ho, hd⟩ := F.obj; refine ⟨a, o, fd, rfl, F.ne, ho, hd, fun O s rvs Q E xc tk hr hQ => ?_⟩
              refine fn_call F G.base hco ?_ ?_ hcx hns hk hg (hm.trans hp.symm) ?_ xc (.inl tk) hr hQ
              · have := r.depth; omega
              · have := r.depth; omega
              · rw [hn, hc]; exact h'
            · cases h'
          · cases h'
    · cases h'
end
end Mine
namespace Mine
open PySem PyProof.Rows PySem.Spec
theorem zgz : typeLookup (.type "object") "__new__" = pure (some (.builtin "object.__new__")) := by rw [typeLookup_type, builtinLookup_eq_fast]; kernel_rfl
theorem called_object : TypeCalled "object" "object.__new__" "object.__init__" :=
  ⟨by decide +kernel, by decide +kernel, ⟨_, _, F.mro_object⟩, madeBy_type F.mro_object zgz (by decide +kernel), by decide +kernel, by rw [isSubtype_type]; kernel_rfl, F.slot_object_init⟩
theorem zhu : checkTypeCall "object" ⟨[], []⟩ = pure () := by kernel_rfl
theorem zh1 : checkBuiltinCall "object.__new__" ⟨[.type "object"], []⟩ = pure () := by kernel_rfl
theorem zhl (obj : Value) : argsOk "object.__init__" ⟨[obj], []⟩ := by
  unfold argsOk; rw [signature?_of (id := "object.__init__") (n := ['_', '_', 't', 'i', 'n', 'i', '_', '_']) (o := ['t', 'c', 'e', 'j', 'b', 'o']) (by kernel_rfl) F.owner_object]; kernel_rfl
theorem zho : Bind.madeHere "object.__new__" (.type "object") = pure () := by
  unfold Bind.madeHere; have e : Bind.staticBase (.type "object") = pure (.type "object") := by first | rfl | kernel_rfl
  rw [e]; simp only [pure_bind, called_object.made]
  first | rfl | kernel_rfl | (simp; rfl)
theorem zhd : Meets (Builtin.«object.__new__» ⟨[.type "object"], []⟩) (fun _ R s => R (.ok (.ret (.ref s.heap.objs.size))) { s with heap := s.heap.push { cls := .type "object", data := .plain } }) :=
  .of_wp fun prog w A R s h => by
    obtain ⟨hp, g, d, tk, os⟩ := s; have hmh := zho; have hsub : isSubtype (.type "type") (.type "type") = pure true := F.sub_type_type; have hnn : ((Manifest.find? "object").elim false (·.mro.any fun t => (Manifest.find? t).elim false (·.noNew))) = false := by decide +kernel
    have hdd : typeHasDict (.type "object") = false := by decide +kernel
    have hdl : diesByItsTypesDel "object" = false := by decide +kernel
    wp_walk using wpAny_newObj_type ?_
    exact ⟨_, rfl, h⟩
theorem zgp (obj : Value) : Meets (Builtin.«object.__init__» ⟨[obj], []⟩) (fun _ R s => R (.ok (.ret .none)) s) :=
  .of_wp fun prog w A R s h => wpAny_pure ⟨_, rfl, h⟩
section
variable {prog : Program} {w : World} {A : Around} {E : Value → Shared → Prop} {s : Shared}
theorem call_object {Q : Value → Shared → Prop} (h : Q (.ref s.heap.objs.size) { s with heap := s.heap.push { cls := .type "object", data := .plain } }) : wpAny (model prog w) A (call (.type "object") []) Q E s :=
  callType_meets (Q₁ := fun obj s₁ => obj = .ref s.heap.objs.size ∧ s₁ = { s with heap := s.heap.push { cls := .type "object", data := .plain } }) called_object zhu zh1 F.entry_object_new F.entry_object_init zhd ⟨rfl, rfl⟩
    fun obj s₁ q => by
      obtain ⟨rfl, rfl⟩ := q; exact ⟨⟨_, Heap.get?_push_size _ rfl, rfl⟩, zhl _, _, zgp _, rfl, h⟩
end
end Mine
namespace Mine
open PySem PyProof.Rows PySem.Spec
section
variable {prog : Program} {w : World} {A : Around} {hb : HB} {Γ : Gam} {c : CT} {env : Env} {s₀ s : Shared} {O₀ : Addr → Prop} {ow : Nat → Option Addr} {σ : zad}
theorem obj_run {n f : Str} {i : Nat} {px fp cp p : Pos} (fx : Fx prog w A hb Γ c env s₀) (hi : c.slot n = some i) (hf : zam f = true) (hg : c.glob f = some (.type "object")) (x : SS hb s₀ c env O₀ ow σ s)
    {Q : Flow → Shared → Prop} {E : Value → Shared → Prop} (hQ : ∀ a s', SS hb s₀ c env O₀ ow (zaa σ i (.val (.ob a))) s' → Q .next s') :
    wpAny (model prog w) A (exec (.Assign [.Name n px] (.Call (.Name f fp) [] [] cp) p) env) Q E s := by
  rw [exec_Assign_Name _ _ _ _ _ rfl]; refine wpAny_bind (wpAny_standAt (wpAny_bind ?_)); have xc := x.xc fx.g₀; refine wpAny_with_toks x.tk (wpAny_Call_NameR (wpAny_Name (zc7 x.fr.fk xc.gs hg ?_) (zax hf).1)); refine PySem.callWith_type rfl ?_; refine wpAny_pure ?_; refine call_object fun tk1 => ?_
  generalize hH : s.heap.push { cls := .type "object", data := .plain } = H; have hk : ∀ b o, s.heap.get? b = some o → H.get? b = some o := fun b o e => hH ▸ Heap.get?_push_of_some _ e
  have k1 : Kp hb s { s with heap := H } := .keeps (tk := s.toks) hk; have x1 := x.run fx.g₀ k1 tk1; have r : VR H (zbd O₀ ow) (.ob s.heap.objs.size) (.ref s.heap.objs.size) :=
    ⟨rfl, xc.off, xc.fresh, { cls := .type "object", data := .plain }, hH ▸ Heap.get?_push_size _ rfl, rfl, ⟨fun _ _ e => (nomatch e), fun _ e => (nomatch e), by decide⟩⟩
  refine wpAny_bind (wpAny_standAt (wpAny_bind (wpAny_bindName (zcy fx x1 hi r fun s2 x2 k2 _ => wpAny_pure ?_))))
  exact hQ _ _ x2
end
structure TrEntry (hb : Heap) : Prop where
  ex : ∃ fd params rest c n f px fp cp p, FnAt hb 50 fd params (.Assign [.Name n px] (.Call (.Name f fp) [] [] cp) p :: rest) ∧ (∃ rest, CT.ns c = params ++ rest) ∧ c.kind = fd.scope.names ∧ (∀ n v, c.gl.lookup n = some v → Glob hb n v) ∧ params.length = 1 ∧ c.ns.length = 3 ∧ c.inT = false ∧
    c.slot n = some 1 ∧ zam f = true ∧ c.glob f = some (.type "object") ∧
    cSs c rest = [.assign 2 (.call (.ref 69) [(.var 0), (.var 1), (.lit (.str [46]))]), .ret (.call (.ref 76) [(.var 2), (.var 1)])]
section
variable {prog : Program} {w : World} {A : Around} {hb : HB} {Γ : Gam}
theorem tr_ok (T : TrEntry hb.h) (hbase : zdq hb.h) {r : Nat} (room : Room A (r + 1)) (hcx : zfc prog w A hb Γ) (vs : List PV) (v : PV) (h : trs Γ vs = some v) : zfd prog w A hb (.ref 50) vs v := by
  obtain ⟨fd, params, rest, c, n, f, px, fp, cp, p, F, hns, hk, hg, hp, hn, hT, hi, hf, hgo, hc⟩ := T.ex; obtain ⟨o, ho, hd⟩ := F.obj; obtain ⟨l, t, rfl, rfl, hl⟩ := trs_inv h; refine ⟨50, o, fd, rfl, F.ne, ho, hd, fun O s rvs Q E xc tk hr hQ => ?_⟩
  refine fn_enter F hbase (fun q => by rw [hT] at q; cases q) ?_ ?_ hcx hns hk hg (args := [.str l]) hp.symm xc (.inl tk) hr (v := .str t) (fun L env s₁ _ fx ss Q' E' hQ' => ?_) hQ
  · have := room.depth; omega
  · have := room.depth; omega
  · rw [hn] at ss; refine wpAny_execs_cons (obj_run fx hi hf hgo ss fun a s2 x2 => ?_)
    obtain ⟨v, h1, h2⟩ := hl a; have e : zac Γ 0 (cSs c rest) [.val (.str l), .val (.ob a), .unset] = some (.ret (.str t), [.val (.str l), .val (.ob a), .val v]) := by
      rw [hc]; have e1 : evE Γ (.call (.ref 69) [(.var 0), (.var 1), (.lit (.str [46]))]) .val [.val (.str l), .val (.ob a), .unset] = some v := h1; have e2 : evS Γ 0 (.assign 2 (.call (.ref 69) [(.var 0), (.var 1), (.lit (.str [46]))])) [.val (.str l), .val (.ob a), .unset] = some (.next, [.val (.str l), .val (.ob a), .val v]) := by
        rw [evS]; show (match evE Γ (.call (.ref 69) [(.var 0), (.var 1), (.lit (.str [46]))]) .val [.val (.str l), .val (.ob a), .unset] with
          | some v => some (Fl.next, zaa [.val (.str l), .val (.ob a), .unset] 2 (.val v))
          | none => none) = _
        rw [e1]; rfl
      rw [zac, e2]; show zac Γ 0 [.ret (.call (.ref 76) [(.var 2), (.var 1)])] [.val (.str l), .val (.ob a), .val v] = _; have e3 : evE Γ (.call (.ref 76) [(.var 2), (.var 1)]) .val [.val (.str l), .val (.ob a), .val v] = some (.str t) := h2; rw [zac, evS]; show (match (match evE Γ (.call (.ref 76) [(.var 2), (.var 1)]) .val [.val (.str l), .val (.ob a), .val v] with
        | some v' => some (Fl.ret v', frzA [.val (.str l), .val (.ob a), .val v])
        | none => none) with | none => none | some (.next, σ') => zac Γ 0 [] σ' | x => x) = _
      rw [e3]; rfl
    refine zcs fx rest O _ _ _ x2 _ _ e _ _ fun f s' q => ?_
    obtain ⟨rv, rfl, k2, _, r2⟩ := q; exact hQ' _ _ ⟨k2, .inl ⟨rv, rfl, r2⟩⟩
end
end Mine
namespace Mine
open PySem PyProof.Rows PySem.Spec
def Raw (h : Heap) (e : Addr) (cx : Bool) : Prop := ∃ o vs, h.get? e = some o ∧ o.cls = .type "IndexError" ∧ o.data = .fields vs ∧ vs.size = 6 ∧ vs[1]? = some .none ∧ (cx = true → vs[2]? = some .none)
def HdOk (A : Around) (s : Shared) : Prop := A.handled = none ∨ ∃ e1 o vs, A.handled = some (.ref e1) ∧ s.heap.get? e1 = some o ∧ o.data = .fields vs ∧ vs[2]? = some .none
theorem entry_unchain : entryFor table "proto.unchain" = some Builtin.«proto.unchain» := entryFor_of_tree (by kernel_rfl)
section
variable {prog : Program} {w : World} {A : Around} {E : Value → Shared → Prop} {s : Shared}
theorem unchain_ok {e e1 : Addr} {o : Obj} {vs : Array Value} {Q : Value → Shared → Prop} (ho : s.heap.get? e1 = some o) (hd : o.data = .fields vs) (h2 : vs[2]? = some .none) (hQ : Q .none s) :
    wpAny (model prog w) A (runValue (.builtin "proto.unchain" ⟨[.ref e, .ref e1, .ref e1, .bool false], []⟩)) Q E s := by
  refine wpAny_runValue (codeAny_builtin entry_unchain ?_); unfold Builtin.«proto.unchain»; dsimp only; refine wpAny_bind (wpAny_field ho hd h2 ?_); exact wpAny_pure hQ
theorem raiseNew_ok {α : Type} {e : Addr} {o : Obj} {t : Value} {Q : α → Shared → Prop} (hh : HdOk A s) (he : s.heap.get? e = some o) (hc : o.cls = .type "IndexError") (hd : o.data = .fields #[t, .none, .none, .none, .bool false, .none])
    (hne : ∀ e1, A.handled = some (.ref e1) → e1 ≠ e)
    (hE : ∀ h', (∀ b o, b ≠ e → s.heap.get? b = some o → h'.get? b = some o) → Raw h' e A.handled.isNone → E (.ref e) { s with heap := h' }) : wpAny (model prog w) A (raiseNew (.ref e) : Sem α) Q E s := by
  unfold raiseNew; refine wpAny_bind (wpAny_handled ?_); rcases hh with hh | ⟨e1, o1, vs, hh, h1, h2, h3⟩
  · rw [hh]; have : E (.ref e) s := hE s.heap (fun b o _ q => q) ⟨o, _, he, hc, hd, rfl, rfl, fun _ => rfl⟩
    first
      | exact wpAny_throw this
      | exact wpAny_bind (wpAny_pure (wpAny_throw this))
  · rw [hh]; dsimp only; have n1 := hne e1 hh; rw [if_pos (show (Value.ref e1 != Value.ref e) = true by simp [n1])]; refine wpAny_bind (wpAny_holding (unchain_ok h1 h2 h3 ?_)); refine wpAny_bind (wpAny_setField (i := 2) (x := .ref e1) he hd (by decide : 2 < 6) (wpAny_throw (hE _ (fun b o' hb q => (Heap.get?_update_other _ _ (Ne.symm hb)).trans q) ?_)))
    · refine ⟨_, _, Heap.get?_update_self _ he (Obj.isFreed_of_fields (Obj.data_mapFields hd _)), (Obj.cls_mapFields _ _).trans hc, Obj.data_mapFields hd _, rfl, rfl, fun q => ?_⟩
      rw [hh] at q; cases q
theorem zd5 {α : Type} {msg : String} {Q : α → Shared → Prop} (hh : HdOk A s)
    (hE : ∀ h' tk e, (∀ b o, s.heap.get? b = some o → h'.get? b = some o) → s.heap.get? e = none → Raw h' e A.handled.isNone → E (.ref e) { s with heap := h', toks := tk }) :
    wpAny (model prog w) A (raiseErrorWords "IndexError" msg : Sem α) Q E s := by
  unfold raiseErrorWords; refine wpAny_bind (wpAny_mkText (wpAny_bind (wpAny_newExc_plain plainExc_IndexError fun h' e hm => ?_)))
  obtain ⟨t, ht, _⟩ := hm.there; refine raiseNew_ok ?_ ht rfl rfl (fun e1 q q' => ?_) fun h'' hk hr => ?_
  · rcases hh with hh | ⟨e1, o1, vs, hh, h1, h2, h3⟩
    · exact .inl hh
    · exact .inr ⟨e1, o1, vs, hh, hm.keeps _ _ h1, h2, h3⟩
  · rcases hh with hh | ⟨e2, o1, vs, hh, h1, h2, h3⟩
    · rw [hh] at q; cases q
    · rw [hh] at q; cases q; have := hm.new; rw [← q', h1] at this; cases this
  · exact hE _ _ _ (fun b o q => hk b o (fun q' => by have := hm.new; rw [← q', q] at this; cases this) (hm.keeps _ _ q)) hm.new hr
theorem getItem_out {l : Addr} {items : Array Value} {k : Int} {t : Tok} {Q : Value → Shared → Prop} (hA : HdOk A s) (hl : s.heap.IsList l items)
    (hout : (items.size : Int) ≤ k) (hhi : k < 2 ^ 63)
    (hE : ∀ h' tk e, (∀ b o, s.heap.get? b = some o → h'.get? b = some o) → s.heap.get? e = none → Raw h' e A.handled.isNone → E (.ref e) { s with heap := h', toks := tk }) :
    wpAny (model prog w) A (getItem (.ref l) (.int k t)) Q E s := by
  obtain ⟨o, ho, hc, ne, hd⟩ := id hl; unfold getItem
  try with_reducible refine wpAny_holding ?_
  first | refine wpAny_bind (wpAny_pure ?_) | skip
  refine wpAny_bind (wpAny_sequenceKey hl.typeIs (by decide) ?_); refine wpAny_bind (wpAny_callSpecial?_slot (name := Str.ofString "__getitem__") hl.typeIs slot_list_getitem
    (wpAny_call_entry slot_list_getitem hl.typeIs entry_list_getitem ?_ (args_list_getitem _ _)))
  show wpAny _ _ (Builtin.List.listSubscript? (.int k t) >>= _) _ _ s; have h0 : 0 ≤ k := by have : (0 : Int) ≤ (items.size : Int) := Int.natCast_nonneg _; omega
  refine wpAny_bind (wpAny_listSubscript_int (fitsIndex_both (by omega) hhi) ?_); clear hhi
  cases k with
  | ofNat j =>
    have hx : items[j]? = none := Array.getElem?_eq_none (by have : (items.size : Int) ≤ (j : Int) := hout; omega)
    show wpAny _ _ ((seqItemAt l j >>= fun r => pure (r.map (j, ·))) >>= _) _ _ s
    refine wpAny_bind (wpAny_bind (wpAny_seqItemAt ho hd (wpAny_pure ?_)))
    rw [hx]
    first
      | exact wpAny_bind (wpAny_rule (zd5 hA hE))
      | exact wpAny_bind (wpAny_rule (wpAny_bind (zd5 hA hE)))
      | exact wpAny_bind (wpAny_bind (wpAny_rule (zd5 hA hE)))
      | exact wpAny_rule (zd5 hA hE)
  | negSucc j => exact absurd h0 (by have := Int.negSucc_lt_zero j; omega)
end
end Mine
namespace Mine
open PySem PyProof.Rows PySem.Spec
def Rec (o : Obj) : Prop := (∃ vs, o.data = .fields vs) ∧ ∃ T, o.cls = .type T ∧ T ∉ ["list", "tuple", "object", "code", "builtin_function_or_method", "frame"]
theorem Rec.ne {o : Obj} (x : Rec o) {T : String} (h : T ∈ ["list", "tuple", "object", "code", "builtin_function_or_method", "frame"]) : o.cls ≠ .type T := fun e => by
  obtain ⟨_, T', h1, h2⟩ := x; rw [h1] at e; injection e with e; exact h2 (e ▸ h)
theorem FR.turnX {hb : HB} {h h' : Heap} {c : CT} {env : Env} {O : Addr → Prop} {ow : Nat → Option Addr} {σ : zad} (x : FR hb c env O ow σ h) {a : Addr} {oa : Obj} (ha : h.get? a = some oa) (hr : Rec oa)
    (hk : ∀ b o, b ≠ a → h.get? b = some o → h'.get? b = some o) : FR hb c env O ow σ h' := by
  have ne : ∀ {b o}, h.get? b = some o → (∀ vs, o.data ≠ .fields vs) → b ≠ a := fun e n q => by
    obtain ⟨⟨vs, hd⟩, _⟩ := hr; rw [q, ha] at e; cases e; exact n _ hd
  have nc : ∀ {b o T}, h.get? b = some o → o.cls = .type T → T ∈ ["list", "tuple", "object", "code", "builtin_function_or_method", "frame"] → b ≠ a := fun e n m q => by
    rw [q, ha] at e; cases e; exact hr.ne m n
  have km : ∀ b o, h.get? b = some o → zd3 O b o → h'.get? b = some o := fun b o e l => hk b o (by
    rcases l.2.2.1 with q | q | q
    · exact nc e q (by decide)
    · exact nc e q (by decide)
    · exact nc e q (by decide)) e
  have ks : ∀ {i sl ov}, SlotR h O ow i sl ov → SlotR h' O ow i sl ov := by
    intro i sl ov x; unfold SlotR at x ⊢
    split
    · obtain ⟨rv, e, r⟩ := x; exact ⟨rv, e, r.mono km fun _ _ _ q => q⟩
    · obtain ⟨z, a', vs, e, ho, ha', ⟨n, hl⟩, r⟩ := x; exact ⟨z, a', vs, e, ho, ha', ⟨n, hk _ _ (nc hl rfl (by decide)) hl⟩, r.mono km fun _ _ _ q => q⟩
    · obtain ⟨b, e, hb, r⟩ := x; exact ⟨b, e, hb, fun a' q => let ⟨o, vs, ho, hc, hd, h1⟩ := r a' q; ⟨o, vs, hk _ _ (nc ho hc (by decide)) ho, hc, hd, h1⟩⟩
    · trivial
  refine ⟨x.fk, ?_, fun n i h1 h2 => ?_⟩
  · obtain ⟨m, ⟨o, es, ep, ho, hd, r⟩, hr'⟩ := x.ns; exact ⟨m, ⟨o, es, ep, hk _ _ (ne ho fun vs q => by rw [hd] at q; cases q) ho, hd, r⟩, fun n i h1 h2 => ks (hr' n i h1 h2)⟩
  · obtain ⟨a', e, ha', ov, ⟨o, ho, hd⟩, r⟩ := x.cells n i h1 h2; exact ⟨a', e, ha', ov, ⟨o, hk _ _ (ne ho fun vs q => by rw [hd] at q; cases q) ho, hd⟩, ks r⟩
section
variable {prog : Program} {w : World} {A : Around} {hb : HB} {Γ : Gam} {c : CT} {env : Env} {s₀ s : Shared} {O₀ : Addr → Prop} {ow : Nat → Option Addr} {σ : zad}
theorem SS.turnX (x : SS hb s₀ c env O₀ ow σ s) (g₀ : GS hb s₀) {a : Addr} {oa : Obj} (ha : s.heap.get? a = some oa) (hr : Rec oa) (hf : s₀.heap.get? a = none) {h' : Heap}
    (hk : ∀ b o, b ≠ a → s.heap.get? b = some o → h'.get? b = some o) (ha' : ∃ o, h'.get? a = some o) : SS hb s₀ c env O₀ ow σ { s with heap := h' } := by
  refine ⟨x.kp.turns (tk := s.toks) (X := (· = a)) g₀ (fun b o q e => hk b o q e) (fun b q => by rw [q]; exact hf) (fun b o q e => .inl ?_), x.fr.turnX ha hr hk, fun b hb' => ?_, x.inj, x.fresh, x.apart, x.tk, x.own⟩
  · rw [q, ha] at e; cases e; exact ⟨fun q => (by obtain ⟨_, T, h1, _⟩ := hr; rw [h1] at q; cases q), hr.ne (by decide)⟩
  · obtain ⟨h1, o, h2⟩ := x.ok b hb'; refine ⟨h1, ?_⟩; by_cases q : b = a
    · rw [q]; exact ha'
    · exact ⟨o, hk b o q h2⟩
theorem Kp.slots {S : List Addr} {h' : Heap} (x : Heap.SlotsOnly S s.heap h') (hS : ∀ b ∈ S, hb.h.get? b = Option.none ∧ NFat s.heap b) : Kp hb s { s with heap := h' } := by
  have sf : Soft s.heap h' := fun b o hb' e => by
    by_cases q : b ∈ S
    · obtain ⟨_, _, o', e', hd⟩ := hS b q; rw [e] at e'; cases e'; exact .inr ⟨hd, x.2.2 b o e⟩
    · exact .inl ((x.2.1 b q).trans e)
  refine ⟨sf, rfl, fun g => ⟨fun b o hb' e => ?_, g.tab.others (X := (· ∈ S)) (fun b o q e => (x.2.1 b q).trans e) (fun b o q e => .inr fun hd => ?_), g.gens, g.fdS sf⟩⟩
  · have q : b ∉ S := fun q => by rw [(hS b q).1] at e; cases e
    exact (x.2.1 b q).trans (g.hard b o hb' e)
  · obtain ⟨_, _, o', e', es, ep, hd'⟩ := hS b q; rw [e] at e'; cases e'; exact hd.1 _ _ hd'
def Noted (h₀ : Heap) (ow : Nat → Option Addr) (h : Heap) (e : Addr) (cx : Bool) (fl : Value) : Prop := ∃ o vs T oT ts, h.get? e = some o ∧ o.cls = .type "IndexError" ∧ o.data = .fields vs ∧ vs.size = 6 ∧ vs[1]? = some (.ref T) ∧ (cx = true → vs[2]? = some .none) ∧
  T ≠ e ∧ h.get? T = some oT ∧ oT.cls = .type "traceback" ∧ oT.data = .fields ts ∧ ts[3]? = some fl ∧ h₀.get? e = none ∧ h₀.get? T = none ∧ (∀ i, ow i ≠ some e) ∧ ∀ i, ow i ≠ some T
def hp0 : Heap := { objs := #[] }
theorem ff_of (x : XC hb O₀ s) : ∀ l : List Env, (∀ e ∈ l, e.scope.kind ≠ .module ∧ ∃ L, e.frame = some L ∧ hb.h.get? L = none ∧ (L ∈ hb.fm ∨ L = hb.own)) → s.heap.FunFrames hp0 l
  | [], _ => trivial
  | env :: r, h => by
    obtain ⟨h1, L, h2, h3, h4⟩ := h env (List.mem_cons_self ..); have nf : NFat s.heap L := by
      rcases h4 with h4 | h4
      · exact x.gs.fd L h4
      · exact h4 ▸ x.own
    obtain ⟨_, o, ho, es, ep, hd⟩ := nf; exact ⟨h1, ⟨L, o, h2, by simp [hp0, Heap.get?], ho, fun vs q => by rw [hd] at q; cases q⟩, ff_of x r fun e he => h e (List.mem_cons_of_mem _ he)⟩
theorem frs_in (fr : Frs A hb) (x : XC hb O₀ s) : ∃ l, A.frames = some l ∧ s.heap.FunFrames hp0 l ∧ ∀ b ∈ l.filterMap (·.frame), hb.h.get? b = none ∧ NFat s.heap b := by
  obtain ⟨l, e, h⟩ := fr; refine ⟨l, e, ff_of x l h, fun b hb' => ?_⟩
  obtain ⟨env, he, hf⟩ := List.mem_filterMap.mp hb'; obtain ⟨h1, L, h2, h3, h4⟩ := h env he; rw [h2] at hf; cases hf; refine ⟨h3, ?_⟩; rcases h4 with h4 | h4
  · exact x.gs.fd b h4
  · exact h4 ▸ x.own
theorem note_new (fr : Frs A hb) (hA : ∃ l, A.frames = some (env :: l)) (hf : env.frame = some env.locals) (x : SS hb s₀ c env O₀ ow σ s) (g₀ : GS hb s₀) {e : Addr} {cx : Bool} (hr : Raw s.heap e cx) (h0 : s₀.heap.get? e = none) (hw : ∀ i, ow i ≠ some e)
    {Q : Unit → Shared → Prop} {E : Value → Shared → Prop} (hQ : ∀ s', SS hb s₀ c env O₀ ow σ s' → Noted s₀.heap ow s'.heap e cx (rawInt env.locals) → Q () s') : wpAny (model prog w) A (noteFrame (.ref e) env) Q E s := by
  obtain ⟨o, vs, he, hc, hd, hz, h1, h2⟩ := hr; obtain ⟨l, hl, hff, hS⟩ := frs_in fr (x.xc g₀); obtain ⟨l', hl'⟩ := hA; rw [hl] at hl'; cases hl'; have hsz : 1 < vs.size := by omega
  unfold noteFrame; simp only [hf]; refine wpAny_bind (wpAny_field he hd h1 ?_); rw [if_neg (by decide)]; refine wpAny_bind (wpAny_frameOf_fun hl hff hf fun h₁ hs₁ => ?_)
  have k1 : Kp hb s { s with heap := h₁ } := .slots hs₁ hS; have x1 := x.run g₀ k1 x.tk; have ene : e ∉ (env :: l').filterMap (·.frame) := fun q => by
    obtain ⟨_, _, o', e', es, ep, hd'⟩ := hS e q; rw [he] at e'; cases e'; rw [hd] at hd'; cases hd'
  have he1 : h₁.get? e = some o := (hs₁.2.1 e ene).trans he; refine wpAny_bind (wpAny_entryPlaceOf fun pl hpl => ?_)
  unfold EntryCells.newEntry newFields; refine wpAny_bind (wpAny_newObj_type ?_ (hpl.sizeOk5 _ _ _ _ _)); generalize hob : ({ cls := .type "traceback", dict := none, data := .fields ([Value.none, .ref env.locals, .none, rawInt env.locals, .none] ++ (if pl.isEmpty then List.replicate 6 Value.none else pl)).toArray } : Obj) = ob; have k2 : Kp hb { s with heap := h₁ } { s with heap := h₁.push ob } := .push (s := { s with heap := h₁ }) (tk := s.toks); have x2 := x1.run g₀ k2 x.tk; have he2 : (h₁.push ob).get? e = some o := Heap.get?_push_of_some ob he1; have hTe : h₁.objs.size ≠ e := Nat.ne_of_gt (Heap.lt_size he1); have hT2 : (h₁.push ob).get? h₁.objs.size = some ob := Heap.get?_push_size _ (by rw [← hob]; rfl); have hT0 : s₀.heap.get? h₁.objs.size = none := zbm x1.kp g₀ (zbh (h := h₁) (Nat.le_refl _)); refine wpAny_setField he2 hd hsz ?_; have re : Rec o := ⟨⟨vs, hd⟩, _, hc, by decide⟩; have hself := Heap.get?_update_self (Obj.mapFields (·.setIfInBounds 1 (Value.ref h₁.objs.size))) he2 (Obj.isFreed_of_fields (Obj.data_mapFields hd _)); have x3 := x2.turnX g₀ (a := e) he2 re h0 (h' := (h₁.push ob).update e (Obj.mapFields (·.setIfInBounds 1 (Value.ref h₁.objs.size)))) (fun b o' hb' q => (Heap.get?_update_other _ _ (Ne.symm hb')).trans q) ⟨_, hself⟩
  refine hQ _ x3 ⟨_, _, h₁.objs.size, ob, _, hself, (Obj.cls_mapFields _ _).trans hc, Obj.data_mapFields hd _, by simp [hz], by simp [hsz], fun q => ?_, hTe, (Heap.get?_update_other _ _ (Ne.symm hTe)).trans hT2, by rw [← hob], by rw [← hob], by simp, h0, hT0, hw, fun i q => ?_⟩
  · simpa [Array.getElem?_setIfInBounds] using h2 q
  · obtain ⟨_, o', q'⟩ := x1.ok _ (.inr ⟨i, q⟩); exact Nat.lt_irrefl _ (Heap.lt_size q')
theorem Noted.ks {h₀ h h' : Heap} {e : Addr} {cx : Bool} {fl : Value} (x : Noted h₀ ow h e cx fl) (k : ∀ b o, h.get? b = some o → Rec o → (∀ i, ow i ≠ some b) → h'.get? b = some o) : Noted h₀ ow h' e cx fl :=
  let ⟨o, vs, T, oT, ts, he, hc, hd, hz, h1, h2, hTe, hT, hTc, hTd, h3, h0, h0T, w1, w2⟩ := x
  ⟨o, vs, T, oT, ts, k _ _ he ⟨⟨_, hd⟩, _, hc, by decide⟩ w1, hc, hd, hz, h1, h2, hTe, k _ _ hT ⟨⟨_, hTd⟩, _, hTc, by decide⟩ w2, hTc, hTd, h3, h0, h0T, w1, w2⟩
theorem zee (hf : env.frame = some env.locals) {h₀ : Heap} {e : Addr} {cx : Bool} (hn : Noted h₀ ow s.heap e cx (rawInt env.locals)) {M : Model} {Q : Unit → Shared → Prop} {E : Value → Shared → Prop} (hQ : Q () s) : wpAny M A (noteFrame (.ref e) env) Q E s := by
  obtain ⟨o, vs, T, oT, ts, he, hc, hd, hz, h1, h2, hTe, hT, hTc, hTd, h3, _⟩ := hn; exact wpAny_noteFrame_inFlight hf he hd h1 hT hTd h3 hQ
theorem flight (x : SS hb s₀ c env O₀ ow σ s) (g₀ : GS hb s₀) {e : Addr} {cx : Bool} {fl : Value} (hn : Noted s₀.heap ow s.heap e cx fl) (fr : Option Addr) {M : Model} {Q : Unit → Shared → Prop} {E : Value → Shared → Prop}
    (hQ : ∀ s', SS hb s₀ c env O₀ ow σ s' → Noted s₀.heap ow s'.heap e cx (fr.elim .none fun f => rawInt f) → (∀ e' cx', e' ≠ e → Raw s.heap e' cx' → Raw s'.heap e' cx') → Q () s') : wpAny M A (setFlight (.ref e) fr) Q E s := by
  obtain ⟨o, vs, T, oT, ts, he, hc, hd, hz, h1, h2, hTe, hT, hTc, hTd, h3, h0, h0T, w1, w2⟩ := hn; have hsz : 3 < ts.size := (Array.getElem?_eq_some_iff.mp h3).1; unfold setFlight; refine wpAny_bind (wpAny_field he hd h1 ?_); rw [if_pos (show (Value.ref T != Value.none) = true from by simp)]; refine wpAny_setField hT hTd hsz ?_; have hself := Heap.get?_update_self (Obj.mapFields (·.setIfInBounds 3 (fr.elim Value.none fun f => rawInt f))) hT (Obj.isFreed_of_fields (Obj.data_mapFields hTd _))
  have hk : ∀ b o', b ≠ T → s.heap.get? b = some o' → (s.heap.update T (Obj.mapFields (·.setIfInBounds 3 (fr.elim Value.none fun f => rawInt f)))).get? b = some o' := fun b o' hb' q => (Heap.get?_update_other _ _ (Ne.symm hb')).trans q
  have x3 := x.turnX g₀ (a := T) hT ⟨⟨ts, hTd⟩, _, hTc, by decide⟩ h0T hk ⟨_, hself⟩; refine hQ _ x3 ⟨o, vs, T, _, _, hk _ _ (Ne.symm hTe) he, hc, hd, hz, h1, h2, hTe, hself, (Obj.cls_mapFields _ _).trans hTc, Obj.data_mapFields hTd _, by simp [hsz], h0, h0T, w1, w2⟩ fun e' cx' hne hr => ?_
  obtain ⟨o', vs', he', hc', hd', r⟩ := hr; exact ⟨o', vs', hk _ _ (fun q => by rw [q, hT] at he'; cases he'; rw [hTc] at hc'; injection hc' with hc'; exact absurd hc' (by decide)) he', hc', hd', r⟩
end
end Mine
namespace Mine
open PySem PyProof.Rows PySem.Spec
section
variable {prog : Program} {w : World} {A A₁ : Around} {hb : HB} {Γ : Gam} {c : CT} {env : Env} {s₀ s : Shared} {O₀ : Addr → Prop} {ow : Nat → Option Addr} {σ : zad}
theorem SS.growL (x : SS hb s₀ c env O₀ ow σ s) (g₀ : GS hb s₀) {i : Nat} {a : Addr} {xs ys : List PV} {vs ws : List Value} {h' : Heap} {tk : Nat} (htk : 1 ≤ tk) (hw : ow i = some a) (hs : σ[i]? = some (.own xs)) (hl : s.heap.PlainList a vs.toArray) (hl' : h'.PlainList a (vs ++ ws).toArray) (hsb : Heap.SameBut a s.heap h')
    (hr : VRs s.heap (zbd O₀ ow) xs vs) (r : VRs s.heap (zbd O₀ ow) ys ws) (hz : xs.length + ys.length ≤ small) :
    SS hb s₀ c env O₀ ow (σ.set i (.own (xs ++ ys))) { s with heap := h', toks := tk } ∧ KS s.heap ow h' ow := by
  obtain ⟨n, hD⟩ := id hl; obtain ⟨n', hD'⟩ := id hl'; have hk : ∀ b o, ¬ b = a → s.heap.get? b = some o → h'.get? b = some o := fun b o hb e => hsb.extBut b o hb e
  have km : ∀ b o, s.heap.get? b = some o → zd3 (zbd O₀ ow) b o → h'.get? b = some o := fun b o e l => hk b o (fun q => l.2.1 (q ▸ .inr ⟨i, hw⟩)) e
  have hta : a ≠ zao := (x.ok a (.inr ⟨i, hw⟩)).1; have sl : ∀ {j ov}, SlotR s.heap (zbd O₀ ow) ow j σ[j]? ov → SlotR h' (zbd O₀ ow) ow j (σ.set i (.own (xs ++ ys)))[j]? ov := by
    intro j ov q; by_cases hj : j = i
    · subst hj; rw [hs] at q; rw [List.getElem?_set_self (List.getElem?_eq_some_iff.mp hs).1]; obtain ⟨z, a', vs', e, ho, ha, hl0, r0⟩ := q; rw [hw] at ho; cases ho; exact ⟨by rw [List.length_append]; exact hz, a, vs ++ ws, e, hw, ha, hl', (hr.mono km fun _ _ _ q => q).append (r.mono km fun _ _ _ q => q)⟩
    · rw [List.getElem?_set_ne (Ne.symm hj)]
      cases hsj : σ[j]? with
      | none => trivial
      | some sl =>
      rw [hsj] at q
      cases sl with
      | unset => trivial
      | val v' =>
        obtain ⟨rv, e, r⟩ := q; exact ⟨rv, e, r.mono km fun _ _ _ q => q⟩
      | own xs' =>
        obtain ⟨z, a', vs', e, ho, ha, ⟨m, hm⟩, r0⟩ := q
        exact ⟨z, a', vs', e, ho, ha, ⟨m, hk _ _ (fun q => hj (x.inj j i a (q ▸ ho) hw)) hm⟩, r0.mono km fun _ _ _ q => q⟩
      | app r' =>
        obtain ⟨b, e, hb, r0⟩ := q
        exact ⟨b, e, hb, fun a' q => let ⟨o, us, ho, hc, hd, h1⟩ := r0 a' q; ⟨o, us, hk _ _ (fun q => by subst q; rw [hD] at ho; cases ho; exact absurd hc (by show Value.type "list" ≠ Value.type "builtin_function_or_method"; decide)) ho, hc, hd, h1⟩⟩
  have al : ∀ b o, s.heap.get? b = some o → ∃ o', h'.get? b = some o' := fun b o e => by
    by_cases hb : b = a
    · subst hb; exact ⟨_, hD'⟩
    · exact ⟨o, hk b o hb e⟩
  refine ⟨⟨x.kp.turns (tk := tk) (X := (· = a)) g₀ hk (fun b q => by rw [q]; exact x.fresh i a hw) fun b o q e => ?_, ⟨x.fr.fk, ?_, fun n j h1 h2 => ?_⟩, fun b hb => ?_, x.inj, x.fresh, x.apart, htk, x.own⟩, ⟨al, fun b o hb e hd hO => hk b o (fun q => hO i (q ▸ hw)) e, fun _ _ _ q => q⟩⟩
  · rw [q, hD] at e; cases e; exact .inl ⟨(show Value.type "list" ≠ Value.none by decide), (show Value.type "list" ≠ Value.type "code" by decide)⟩
  · obtain ⟨m, ⟨o, es, ep, ho, hd, r0⟩, hr0⟩ := x.fr.ns; exact ⟨m, ⟨o, es, ep, hk _ _ (fun q => by rw [q, hD] at ho; cases ho; cases hd) ho, hd, r0⟩, fun n i h1 h2 => sl (hr0 n i h1 h2)⟩
  · obtain ⟨a', e, ha, ov, ⟨o, ho, hd⟩, r0⟩ := x.fr.cells n j h1 h2; exact ⟨a', e, ha, ov, ⟨o, hk _ _ (fun q => by rw [q, hD] at ho; cases ho; cases hd) ho, hd⟩, sl r0⟩
  · obtain ⟨h1, o, h2⟩ := x.ok b hb; exact ⟨h1, al b o h2⟩
theorem extend_plain {l b : Addr} {xs ys : Array Value} {Q : Value → Shared → Prop} {E : Value → Shared → Prop} (hl : s.heap.PlainList l xs) (hl2 : s.heap.PlainList b ys) (hz : xs.size + ys.size ≤ 2 * small)
    (hQ : ∀ h' tk, h'.PlainList l (xs ++ ys) → Heap.SameBut l s.heap h' → Q .none { s with heap := h', toks := tk }) : wpAny (model prog w) A (call (.builtin "list.extend") [.ref l, .ref b]) Q E s := by
  obtain ⟨n, ho⟩ := hl; obtain ⟨n2, ho2⟩ := hl2; have hsm : 2 * small ≤ sizeLine := by decide
  have hd : ¬(!xs.isEmpty && Builtin.List.listTooLong (xs.size + ys.size)) = true := by
    have : Builtin.List.listTooLong (xs.size + ys.size) = false := by
      unfold Builtin.List.listTooLong; exact decide_eq_false (by omega)
    rw [this]; simp
  refine call_meets F.slot_list_extend ⟨_, ho, rfl⟩ F.entry_list_extend (F.args_list_extend_2 _ _) (AutoSeq1.list_extend_list_list_0 l xs n b ys n2 hd (by omega) (by omega)) ⟨ho, ho2, ?_⟩; refine hQ (s.heap.update l (Obj.mapSeq fun x => x ++ ys)) _ ⟨if (xs ++ ys).size == xs.size then n else n + 1, ?_⟩ (Heap.SameBut.update ..)
  rw [Heap.get?_update_self _ ho rfl]; rfl
structure XF (prog : Program) (w : World) (A₁ : Around) (hb : HB) (Γ : Gam) (c : CT) (env : Env) (s₀ : Shared) : Prop where
  fx : Fx prog w A₁ hb Γ c env s₀
  fr : ∃ l, A₁.frames = some (env :: l)
  hf : env.frame = some env.locals
def Out (hb : HB) (s₀ : Shared) (c : CT) (env : Env) (O₀ : Addr → Prop) (ow : Nat → Option Addr) (σ : zad) (s : Shared) (cx : Bool) (noted : Bool) (e : Addr) (s' : Shared) : Prop :=
  SS hb s₀ c env O₀ ow σ s' ∧ (if noted then Noted s₀.heap ow s'.heap e cx (rawInt env.locals) else Raw s'.heap e cx ∧ s₀.heap.get? e = none ∧ ∀ i, ow i ≠ some e)
theorem idx_raise {nx nk : Str} {ix ik : Nat} {px pk p : Pos} {xs : List PV} {k : Int} (x : SS hb s₀ c env O₀ ow σ s) (g₀ : GS hb s₀) (hd : HdOk A s) (hx : c.slot nx = some ix) (ox : zam nx = true) (hk : c.slot nk = some ik) (ok : zam nk = true)
    (sx : σ[ix]? = some (.val (.list xs))) (sk : σ[ik]? = some (.val (.int k))) (hout : (xs.length : Int) ≤ k) (hhi : k < 2 ^ 63)
    {Q : Value → Shared → Prop} {E : Value → Shared → Prop} (hE : ∀ e s', Out hb s₀ c env O₀ ow σ s A.handled.isNone false e s' → E (.ref e) s') :
    wpAny (model prog w) A (eval (.Subscript (.Name nx px) (.Name nk pk) p) env) Q E s := by
  refine wpAny_with_toks x.tk (sub_idx (fun _ _ _ q => (nomatch q)) ?_)
  refine wpAny_Name (zc8 x.fr hx (zax ox).2 fun ov r => ?_) (zax ox).1
  rw [sx] at r; obtain ⟨rv, rfl, r⟩ := r; refine ⟨rv, rfl, ?_⟩; refine wpAny_Name (zc8 x.fr hk (zax ok).2 fun ov r2 => ?_) (zax ok).1
  rw [sk] at r2; obtain ⟨rv2, rfl, t, rfl⟩ := r2; refine ⟨_, rfl, ?_⟩; obtain ⟨z, a, vs, rfl, _, _, hl, hr⟩ := r; refine ⟨⟨_, _, hl.isList.typeIs, slot_list_getitem.lookup⟩, ?_⟩; refine getItem_out hd hl.isList (by rw [List.size_toArray, hr.length]; exact hout) hhi fun h' tk e hk' h0 hraw htk => ?_
  have kp : Kp hb s { s with heap := h', toks := tk } := .keeps hk'; have xc := x.xc g₀; refine hE e _ ⟨x.run g₀ kp htk, hraw, ?_, fun i q => ?_⟩
  · exact zbm x.kp g₀ h0
  · obtain ⟨_, o, q'⟩ := x.ok e (.inr ⟨i, q⟩); rw [h0] at q'; cases q'
end
end Mine
namespace Mine
open PySem PyProof.Rows PySem.Spec
section
variable {prog : Program} {w : World} {A A₁ : Around} {hb : HB} {Γ : Gam} {c : CT} {env : Env} {s₀ s : Shared} {O₀ : Addr → Prop} {ow : Nat → Option Addr} {σ : zad}
theorem came_back {e : Addr} {cx : Bool} {s : Shared} (x : SS hb s₀ c env O₀ ow σ s) (g₀ : GS hb s₀) (hf : env.frame = some env.locals) (hn : Noted s₀.heap ow s.heap e cx (rawInt env.locals)) {M : Model} {E : Value → Shared → Prop}
    (hE : ∀ s', Out hb s₀ c env O₀ ow σ s cx true e s' → E (.ref e) s') : cameBackBy M A env E (.ref e) s := by
  unfold cameBackBy; have hn' := hn; obtain ⟨o, vs, T, oT, ts, he, hc, hd, hz, h1, _⟩ := hn'; refine wpAny_bind (wpAny_field he hd h1 ?_); rw [if_neg (show ¬ ((Value.ref T == Value.none) = true) from by simp)]; refine flight x g₀ hn env.frame fun s' x' n' _ => hE s' ⟨x', ?_⟩
  rw [hf] at n'; exact n'
theorem noted_kp {h₀ : Heap} {s s' : Shared} {e : Addr} {cx : Bool} {fl : Value} (x : Noted h₀ ow s.heap e cx fl) (k : Kp hb s s') (g : GS hb s) : Noted h₀ ow s'.heap e cx fl :=
  x.ks fun b o q hr _ => k.soft.get (fun q' => by
    obtain ⟨_, t, _⟩ := g.tab; obtain ⟨⟨vs, hd⟩, T, hc, _⟩ := hr; have := t.2; rw [← q', q] at this
    cases this
    cases hc) (fun _ _ q' => by obtain ⟨⟨vs, hd⟩, _⟩ := hr; rw [hd] at q'; cases q') q
section
variable {nx nk nv : Str} {ix ik iv : Nat} {px pk p pv pc pw : Pos} {body : List Stmt}
theorem skip_next (Γ : Gam) {xs : List (List Nat)} {k : Nat} {t t' : List Nat} (hu : A.units + 64 < cLine) (x : SS hb s₀ c env O₀ ow σ s) (g₀ : GS hb s₀) (hx : c.slot nx = some ix) (ox : zam nx = true) (hk : c.slot nk = some ik) (ok : zam nk = true) (hv : c.slot nv = some iv) (ov : zam nv = true)
    (sx : σ[ix]? = some (.val (.list (xs.map .str)))) (sk : σ[ik]? = some (.val (.int k))) (sv : σ[iv]? = some (.val (.str t))) (ht : xs[k]? = some t') (hne : t' ≠ t)
    {Q : Flow → Shared → Prop} {E : Value → Shared → Prop} (hQ : ∀ s', SS hb s₀ c env O₀ ow σ s' → Kp hb s s' → Q .next s') :
    wpAny (model prog w) A (exec (.While (.Compare (.Subscript (.Name nx px) (.Name nk pk) p) [.Eq] [.Name nv pv] pc) body [] pw) env) Q E s := by
  refine wpAny_While (codeAny_whileLoop (fun n s' => s' = s) (fun n s' hI => ?_) 0 rfl)
  subst hI; have se : SE prog w A hb Γ c (.Compare (.Subscript (.Name nx px) (.Name nk pk) p) [.Eq] [.Name nv pv] pc) (.cmp .Eq (.idx (.var ix) (.var ik)) (.var iv)) :=
    se_cmp rfl (se_idx (fun _ _ _ q => (nomatch q)) (zdc ox hx) (zdc ok hk)) (zdc ov hv) hu
  have e : asB (evE Γ (.cmp .Eq (.idx (.var ix) (.var ik)) (.var iv)) .test σ) = some false := by
    have e1 : zbe σ ix = some (.list (xs.map .str)) := by unfold zbe; rw [sx]
    have e2 : zaw σ ik = some (.int k) := by unfold zaw; rw [sk]
    have e3 : zaw σ iv = some (.str t) := by unfold zaw; rw [sv]
    have hlt : k < xs.length := (List.getElem?_eq_some_iff.mp ht).1; have e4 : zan (.list (xs.map .str)) (.int k) = some (.str t') := by
      unfold zan za8; have hg := (List.getElem?_eq_some_iff.mp ht).2; simp [hlt, hg]
    show asB (fin .test (match fin .val (match zbe σ ix with
      | some x => (match zaw σ ik with | some y => zan x y | none => none)
      | none => none) with
      | some x => (match zaw σ iv with | some y => (zae .Eq x y).map .bool | none => none)
      | none => none)) = _
    rw [e1, e2, e3]; show asB (fin .test (match zan (.list (xs.map .str)) (.int k) with
      | some x => (zae .Eq x (.str t)).map .bool
      | none => none)) = _
    rw [e4]; show asB (fin .test (some (.bool (decide (t' = t))))) = _; rw [decide_eq_false hne]; rfl
  refine se.test x.fr (x.xc g₀) x.tk e _ _ fun s1 k1 t1 => ?_
  exact wpAny_execs_nil (hQ s1 (x.run g₀ k1 t1) k1)
theorem skip_raise {xs : List PV} {k : Int} (xf : XF prog w A₁ hb Γ c env s₀) (hfr : A.frames = A₁.frames) (hd : HdOk A s) (x : SS hb s₀ c env O₀ ow σ s) (hx : c.slot nx = some ix) (ox : zam nx = true) (hk : c.slot nk = some ik) (ok : zam nk = true)
    (sx : σ[ix]? = some (.val (.list xs))) (sk : σ[ik]? = some (.val (.int k))) (hout : (xs.length : Int) ≤ k) (hhi : k < 2 ^ 63)
    {Q : Flow → Shared → Prop} {E : Value → Shared → Prop} (hE : ∀ e s', Out hb s₀ c env O₀ ow σ s A.handled.isNone true e s' → E (.ref e) s') :
    wpAny (model prog w) A (exec (.While (.Compare (.Subscript (.Name nx px) (.Name nk pk) p) [.Eq] [.Name nv pv] pc) body [] pw) env) Q E s := by
  have g₀ := xf.fx.g₀; refine wpAny_While (codeAny_whileLoop (fun n s' => s' = s) (fun n s' hI => ?_) 0 rfl)
  subst hI; refine wpAny_isTrue_Compare1 ?_ rfl; refine idx_raise x g₀ hd hx ox hk ok sx sk hout hhi fun e s1 ho => ?_
  obtain ⟨x1, hr, h0, hw⟩ := ho; show wpAny _ A (noteFrame (.ref e) env) _ _ s1; have frs : Frs A hb := by
    obtain ⟨l, e, h⟩ := xf.fx.cx.frs; exact ⟨l, hfr.trans e, h⟩
  refine note_new frs (by obtain ⟨l, e⟩ := xf.fr; exact ⟨l, hfr.trans e⟩) xf.hf x1 g₀ hr h0 hw fun s2 x2 n2 => ?_
  exact came_back x2 g₀ xf.hf n2 fun s3 o3 => hE e s3 o3
end
theorem inc_ok {nk : Str} {ik : Nat} {pk pc q : Pos} {kd : Nat} {k : Int} (xf : XF prog w A₁ hb Γ c env s₀) (x : SS hb s₀ c env O₀ ow σ s) (hk : c.slot nk = some ik) (ok : zam nk = true) (sk : σ[ik]? = some (.val (.int k)))
    {Q : Flow → Shared → Prop} {E : Value → Shared → Prop} (hQ : ∀ s' ow', ow' = ow → SS hb s₀ c env O₀ ow (zaa σ ik (.val (.int (k + 1)))) s' → KS s.heap ow s'.heap ow → Q .next s') :
    wpAny (model prog w) A (exec (.AugAssign (.Name nk pk) .Add (.Constant (.int 1) kd pc) q) env) Q E s := by
  have he : SE prog w A hb Γ c (.Constant (.int 1) kd pc) (.lit (.int 1)) := zeu rfl; have h := sst_aug (A := A) (p := q) (px := pk) (op := .Add) xf.fx ok hk he O₀ ow σ s x .next (zaa σ ik (.val (.int (k + 1)))) (by
    rw [evS]
    have e2 : zaw σ ik = some (.int k) := by unfold zaw; rw [sk]
    rw [e2]; rfl)
  refine h Q E fun f s' hp => ?_
  obtain ⟨rfl, ow', x', k', hw⟩ := hp; have : ow' = ow := funext fun j => hw j rfl
  subst this; exact hQ s' _ rfl x' k'
end
end Mine
namespace Mine
open PySem PyProof.Rows PySem.Spec
def IsAsg (v x k : Str) (st : Stmt) : Prop := ∃ pv p1 p2 p3 p, st = .Assign [.Name v pv] (.Subscript (.Name x p1) (.Name k p2) p3) p
def zde (k : Str) (st : Stmt) : Prop := ∃ pk kd pc q, st = .AugAssign (.Name k pk) .Add (.Constant (.int 1) kd pc) q
def zcg (x k v : Str) (st : Stmt) : Prop := ∃ px pk p pv pc body pw, st = .While (.Compare (.Subscript (.Name x px) (.Name k pk) p) [.Eq] [.Name v pv] pc) body [] pw
def zel (m v : Str) (st : Stmt) : Prop := ∃ pm ap pv cp p, st = .Expr (.Call (.Attribute (.Name m pm) ("append" : Str) ap) [.Name v pv] [] cp) p ∧ (ap.endLine == cp.line) = true
def IsExt (m x k : Str) (st : Stmt) : Prop := ∃ pm ap px pk ps p cp q, st = .Expr (.Call (.Attribute (.Name m pm) ("extend" : Str) ap) [.Subscript (.Name x px) (.Slice (some (.Name k pk)) none none ps) p] [] cp) q ∧ (ap.endLine == cp.line) = true
structure SN (c : CT) (nx ny ni nj nm nu ne na nI : Str) : Prop where
  x : c.slot nx = some 0
  ox : zam nx = true
  y : c.slot ny = some 1
  oy : zam ny = true
  i : c.slot ni = some 2
  oi : zam ni = true
  j : c.slot nj = some 3
  oj : zam nj = true
  m : c.slot nm = some 4
  om : zam nm = true
  u : c.slot nu = some 5
  ou : zam nu = true
  e : c.slot ne = some 6
  oe : zam ne = true
  a : c.slot na = some 7
  oa : zam na = true
  I : c.glob nI = some (.type "IndexError")
  oI : zam nI = true
def oS : Option (List Nat) → Slot
  | none => .unset
  | some t => .val (.str t)
def sg (X Y : List (List Nat)) (i j : Nat) (m u : List (List Nat)) (e a : Option (List Nat)) : zad :=
  [.val (.list (X.map .str)), .val (.list (Y.map .str)), .val (.int i), .val (.int j), .own (m.map .str), .own (u.map .str), oS e, oS a]
section
variable {X Y : List (List Nat)} {i j : Nat} {m u : List (List Nat)} {e a : Option (List Nat)}
theorem sg_i {k : Nat} : zaa (sg X Y i j m u e a) 2 (.val (.int k)) = sg X Y k j m u e a := by cases e <;> cases a <;> rfl
theorem sg_j {k : Nat} : zaa (sg X Y i j m u e a) 3 (.val (.int k)) = sg X Y i k m u e a := by cases e <;> cases a <;> rfl
theorem sg_e {t : List Nat} : zaa (frz1 (sg X Y i j m u e a) 6) 6 (.val (.str t)) = sg X Y i j m u (some t) a := by cases e <;> cases a <;> rfl
theorem sg_a {t : List Nat} : zaa (frz1 (sg X Y i j m u e a) 7) 7 (.val (.str t)) = sg X Y i j m u e (some t) := by cases e <;> cases a <;> rfl
theorem sg_m {t : List (List Nat)} : (sg X Y i j m u e a).set 4 (.own (m.map .str ++ t.map .str)) = sg X Y i j (m ++ t) u e a := by
  unfold sg; rw [List.map_append]; rfl
theorem sg_u {t : List (List Nat)} : (sg X Y i j m u e a).set 5 (.own (u.map .str ++ t.map .str)) = sg X Y i j m (u ++ t) e a := by
  unfold sg; rw [List.map_append]; rfl
end
section
variable {prog : Program} {w : World} {A A₁ : Around} {hb : HB} {Γ : Gam} {c : CT} {env : Env} {s₀ s : Shared} {O₀ : Addr → Prop} {ow : Nat → Option Addr} {σ : zad}
theorem ext_ok (Γ : Gam) {nm nx nk : Str} {st : Stmt} {im ix ik : Nat} {xs ms : List PV} {k : Nat} (hst : IsExt nm nx nk st) (hu : A.units + 64 < cLine) (x : SS hb s₀ c env O₀ ow σ s) (g₀ : GS hb s₀) (hm : c.slot nm = some im) (om : zam nm = true) (hx : c.slot nx = some ix) (ox : zam nx = true)
    (hk : c.slot nk = some ik) (ok : zam nk = true) (sm : σ[im]? = some (.own ms)) (sx : σ[ix]? = some (.val (.list xs))) (sk : σ[ik]? = some (.val (.int k))) (hz : ms.length + xs.length ≤ small)
    {Q : Flow → Shared → Prop} {E : Value → Shared → Prop} (hQ : ∀ s', SS hb s₀ c env O₀ ow (σ.set im (.own (ms ++ xs.drop k))) s' → Q .next s') : wpAny (model prog w) A (exec st env) Q E s := by
  obtain ⟨pm, ap, px, pk, ps, p, cp, q, rfl, hline⟩ := hst; have hint : interactive env = false := by unfold interactive; rw [x.fr.fk.kind]; rfl
  have hc : cE c (.Subscript (.Name nx px) (.Slice (some (.Name nk pk)) none none ps) p) = some (.slc (.var ix) (.var ik) (.lit .nul)) := by
    simp [cE, cEo, ox, hx, ok, hk]
  have he : SE prog w A hb Γ c (.Subscript (.Name nx px) (.Slice (some (.Name nk pk)) none none ps) p) (.slc (.var ix) (.var ik) (.lit .nul)) :=
    se_slc (zdc ox hx) (seo_some (zdc ok hk)) seo_none
  have hv : evE Γ (.slc (.var ix) (.var ik) (.lit .nul)) .val σ = some (.list (xs.drop k)) := by
    have e1 : zaw σ ix = some (.list xs) := by unfold zaw; rw [sx]
    have e2 : zaw σ ik = some (.int k) := by unfold zaw; rw [sk]
    show fin .val (match zaw σ ix with
      | some x => (match zaw σ ik with
        | some y => zas x y .nul
        | none => none)
      | none => none) = _
    rw [e1, e2]; show some (PV.list (cut xs (zaz xs.length k) xs.length)) = _; unfold cut zaz; rw [if_neg (by omega), List.take_length]; show some (PV.list (xs.drop (min k xs.length))) = _; rcases Nat.le_total k xs.length with h | h
    · rw [Nat.min_eq_left h]
    · rw [Nat.min_eq_right h, List.drop_length, List.drop_eq_nil_of_le h]
  refine wpAny_Expr ?_ hint rfl; have hun : zce env [_] := zbi (c := c) (pes := [_]) (by rw [cEs, hc]; rfl); refine wpAny_Call_method (zct rfl ..) (zd8 hun (by show 1 < 20; decide)) hline F.plainAttrs_list F.slot_list_extend F.type_list_extend ?_; refine wpAny_Name (zc8 x.fr hm (zax om).2 fun ov r => ?_) (zax om).1
  rw [sm] at r; obtain ⟨z, a, vs, rfl, hw, hta, hl, hr⟩ := r; refine ⟨_, rfl, ⟨_, hl.choose_spec, rfl⟩, fun b e => by cases e; exact ⟨_, hl.choose_spec, rfl⟩, ?_⟩
  refine Calls.callWith_builtin (hun cp).1 ?_; rw [zb7 hc]; refine Calls.evalArgs_plain (Calls.spliced_cons (he.val x.fr (x.xc g₀) x.tk hv _ _ fun rv s1 k1 t1 r1 => ?_))
  refine Calls.spliced_nil ?_; have x1 := x.run g₀ k1 t1; have hl1 := zb4 k1.soft hta hl; have hr1 := VRs.kp k1 hr; obtain ⟨z2, a2, ws, rfl, hta2, hO2, hl2, hr2⟩ := r1; have hz2 : (xs.drop k).length ≤ xs.length := by rw [List.length_drop]; omega
  refine wpAny_with_toks t1 (extend_plain hl1 hl2 (by rw [List.size_toArray, List.size_toArray, hr1.length, hr2.length]; omega) fun h' tk hl' hsb htk => ?_)
  obtain ⟨x2, k2⟩ := x1.growL g₀ htk hw sm hl1 (by rw [show (vs ++ ws).toArray = vs.toArray ++ ws.toArray by simp]; exact hl') hsb hr1 hr2 (by omega); exact hQ _ x2
end
def mns (a b : List (List Nat)) : List (List Nat) := a.filter fun t => !b.contains t
theorem asc_tail {x : List Nat} {r : List (List Nat)} (h : zb1 (x :: r) = true) : zb1 r = true := by
  cases r with
  | nil => rfl
  | cons y r => simp only [zb1, Bool.and_eq_true] at h; exact h.2
theorem lt_tr {a b c : List Nat} (h1 : a < b) (h2 : b < c) : a < c := List.lt_trans h1 h2
theorem asc_lt {x : List Nat} : ∀ {r : List (List Nat)}, zb1 (x :: r) = true → ∀ y ∈ r, x < y
  | [], _, y, hy => by cases hy
  | z :: r, h, y, hy => by
    simp only [zb1, Bool.and_eq_true, decide_eq_true_eq] at h; rcases List.mem_cons.mp hy with rfl | hy
    · exact h.1
    · exact lt_tr h.1 (asc_lt h.2 y hy)
theorem zen : ∀ {X : List (List Nat)} (i : Nat), zb1 X = true → zb1 (X.drop i) = true
  | [], i, h => by simp [zb1]
  | x :: r, 0, h => h
  | x :: r, i + 1, h => zen i (asc_tail h)
theorem mns_nil (a : List (List Nat)) : mns a [] = a := by simp [mns]
theorem mns_lt {x : List Nat} {r b : List (List Nat)} (h : x ∉ b) : mns (x :: r) b = x :: mns r b := by
  unfold mns; rw [List.filter_cons_of_pos (by simpa using h)]
theorem mns_in {x : List Nat} {r b : List (List Nat)} (h : x ∈ b) : mns (x :: r) b = mns r b := by
  unfold mns; rw [List.filter_cons_of_neg (by simpa using h)]
theorem mns_skip {x : List Nat} {r b : List (List Nat)} (h : x ∉ b) : mns b (x :: r) = mns b r := by
  unfold mns; refine List.filter_congr fun t ht => ?_
  have : t ≠ x := fun q => h (q ▸ ht)
  simp [this]
theorem lt_irr (a : List Nat) : ¬ a < a := List.lt_irrefl a
theorem zf2 {x : List Nat} {b : List (List Nat)} (h : ∀ y ∈ b, x < y) : x ∉ b := fun q => lt_irr x (h x q)
def Inv (X Y M U : List (List Nat)) (i j : Nat) (m u : List (List Nat)) : Prop := m ++ mns (X.drop i) (Y.drop j) = M ∧ u ++ mns (Y.drop j) (X.drop i) = U
section
variable {X Y M U : List (List Nat)} {i j : Nat} {m u : List (List Nat)}
theorem inv_lt (hX : zb1 X = true) (hY : zb1 Y = true) (I : Inv X Y M U i j m u) {e a : List Nat} (he : X[i]? = some e) (ha : Y[j]? = some a) (h : e < a) : Inv X Y M U (i + 1) j (m ++ [e]) u := by
  obtain ⟨hi, he⟩ := List.getElem?_eq_some_iff.mp he; obtain ⟨hj, ha⟩ := List.getElem?_eq_some_iff.mp ha; have dX : X.drop i = e :: X.drop (i + 1) := by rw [← List.getElem_cons_drop hi, he]
  have dY : Y.drop j = a :: Y.drop (j + 1) := by rw [← List.getElem_cons_drop hj, ha]
  have aY := zen j hY; have nm : e ∉ Y.drop j := by
    rw [dY] at aY ⊢; exact zf2 fun y hy => by
      rcases List.mem_cons.mp hy with rfl | hy
      · exact h
      · exact lt_tr h (asc_lt aY y hy)
  refine ⟨?_, ?_⟩
  · rw [← I.1, dX, mns_lt nm, List.append_assoc]; rfl
  · rw [← I.2, dX, mns_skip nm]
theorem inv_gt (hX : zb1 X = true) (hY : zb1 Y = true) (I : Inv X Y M U i j m u) {e a : List Nat} (he : X[i]? = some e) (ha : Y[j]? = some a) (h : a < e) : Inv X Y M U i (j + 1) m (u ++ [a]) := by
  have := inv_lt (X := Y) (Y := X) (M := U) (U := M) hY hX ⟨I.2, I.1⟩ ha he h; exact ⟨this.2, this.1⟩
theorem inv_eq (hX : zb1 X = true) (hY : zb1 Y = true) (I : Inv X Y M U i j m u) {e : List Nat} (he : X[i]? = some e) (ha : Y[j]? = some e) : Inv X Y M U (i + 1) (j + 1) m u := by
  obtain ⟨hi, he⟩ := List.getElem?_eq_some_iff.mp he; obtain ⟨hj, ha⟩ := List.getElem?_eq_some_iff.mp ha; have dX : X.drop i = e :: X.drop (i + 1) := by rw [← List.getElem_cons_drop hi, he]
  have dY : Y.drop j = e :: Y.drop (j + 1) := by rw [← List.getElem_cons_drop hj, ha]
  have aX := zen i hX; have aY := zen j hY; rw [dX] at aX; rw [dY] at aY; have n1 : e ∉ X.drop (i + 1) := zf2 (asc_lt aX); have n2 : e ∉ Y.drop (j + 1) := zf2 (asc_lt aY); refine ⟨?_, ?_⟩
  · rw [← I.1, dX, dY, mns_in (List.mem_cons_self ..), mns_skip n1]
  · rw [← I.2, dX, dY, mns_in (List.mem_cons_self ..), mns_skip n2]
theorem inv_end (I : Inv X Y M U i j m u) (h : X.length ≤ i ∨ Y.length ≤ j) : m ++ X.drop i = M ∧ u ++ Y.drop j = U := by
  refine ⟨?_, ?_⟩
  · rw [← I.1]; rcases h with h | h
    · rw [List.drop_eq_nil_of_le h]; rfl
    · rw [List.drop_eq_nil_of_le h, mns_nil]
  · rw [← I.2]; rcases h with h | h
    · rw [List.drop_eq_nil_of_le h, mns_nil]
    · rw [List.drop_eq_nil_of_le h]; rfl
theorem asc_next (hX : zb1 X = true) {e t : List Nat} (he : X[i]? = some e) (ht : X[i + 1]? = some t) : t ≠ e := by
  obtain ⟨hi, he⟩ := List.getElem?_eq_some_iff.mp he; obtain ⟨hi', ht⟩ := List.getElem?_eq_some_iff.mp ht; have aX := zen i hX; rw [← List.getElem_cons_drop hi, he] at aX; have := asc_lt aX t (by rw [← List.getElem_cons_drop hi', ht]; exact List.mem_cons_self ..); exact fun q => lt_irr e (q ▸ this)
end
end Mine
namespace Mine
open PySem PyProof.Rows PySem.Spec
section
variable {prog : Program} {w : World} {A A₁ : Around} {hb : HB} {Γ : Gam} {c : CT} {env : Env} {s₀ s : Shared} {O₀ : Addr → Prop} {ow : Nat → Option Addr} {σ : zad}
variable {X Y M U : List (List Nat)} {i j : Nat} {m u : List (List Nat)} {e a : Option (List Nat)}
def Nxt (hb : HB) (s₀ : Shared) (c : CT) (env : Env) (O₀ : Addr → Prop) (X Y M U : List (List Nat)) (n : Nat) (s' : Shared) : Prop :=
  ∃ ow i j m u e a, SS hb s₀ c env O₀ ow (sg X Y i j m u e a) s' ∧ Inv X Y M U i j m u ∧ i ≤ X.length ∧ j ≤ Y.length ∧ m.length ≤ i ∧ u.length ≤ j ∧ (X.length - i) + (Y.length - j) < n
def Thr (hb : HB) (s₀ : Shared) (c : CT) (env : Env) (O₀ : Addr → Prop) (X Y M U : List (List Nat)) (v : Value) (s' : Shared) : Prop :=
  ∃ x ow i j m u e a nt cx, v = .ref x ∧ Out hb s₀ c env O₀ ow (sg X Y i j m u e a) s' cx nt x s' ∧ Inv X Y M U i j m u ∧ (X.length ≤ i ∨ Y.length ≤ j) ∧ i ≤ X.length ∧ j ≤ Y.length ∧ m.length ≤ i ∧ u.length ≤ j
theorem getV {k : Nat} {v : PV} (h : σ[k]? = some (.val v)) : zaw σ k = some v := by unfold zaw; rw [h]
theorem getP {k : Nat} {v : PV} (h : σ[k]? = some (.val v)) : zbe σ k = some v := by unfold zbe; rw [h]
theorem asg_ok {nv nx nk : Str} {st : Stmt} {iv ix ik : Nat} {xs : List (List Nat)} {k : Nat} {t : List Nat} (hst : IsAsg nv nx nk st) (fx : Fx prog w A hb Γ c env s₀) (x : SS hb s₀ c env O₀ ow σ s) (hv : c.slot nv = some iv) (hx : c.slot nx = some ix) (ox : zam nx = true)
    (hk : c.slot nk = some ik) (ok : zam nk = true) (sx : (frz1 σ iv)[ix]? = some (.val (.list (xs.map .str)))) (sk : (frz1 σ iv)[ik]? = some (.val (.int k))) (ht : xs[k]? = some t)
    {Q : Flow → Shared → Prop} {E : Value → Shared → Prop} (hQ : ∀ s' ow', (∀ j, (iv == j) = false → ow' j = ow j) → SS hb s₀ c env O₀ ow' (zaa (frz1 σ iv) iv (.val (.str t))) s' → Q .next s') : wpAny (model prog w) A (exec st env) Q E s := by
  obtain ⟨pv, p1, p2, p3, p, rfl⟩ := hst; have hc : cE c (.Subscript (.Name nx p1) (.Name nk p2) p3) = some (.idx (.var ix) (.var ik)) := by simp [cE, ox, hx, ok, hk]
  refine zeh fx hv hc O₀ ow σ s x .next (zaa (frz1 σ iv) iv (.val (.str t))) ?_ Q E fun f s' hp => ?_
  · rw [evS]; have : evE Γ (.idx (.var ix) (.var ik)) .val (frz1 σ iv) = some (.str t) := by
      show fin .val (match zbe (frz1 σ iv) ix with
        | some x => (match zaw (frz1 σ iv) ik with | some y => zan x y | none => none)
        | none => none) = _
      rw [getP sx, getV sk]; have hlt : k < xs.length := (List.getElem?_eq_some_iff.mp ht).1; have hg := (List.getElem?_eq_some_iff.mp ht).2; show zan (.list (xs.map .str)) (.int k) = _; unfold zan za8; simp [hlt, hg]
    rw [this]
  · obtain ⟨rfl, ow', x', _, h⟩ := hp; exact hQ s' ow' h x'
theorem asg_raise {nv nx nk : Str} {st : Stmt} {ix ik : Nat} {xs : List PV} {k : Int} (hst : IsAsg nv nx nk st) (hd : HdOk A s) (x : SS hb s₀ c env O₀ ow σ s) (g₀ : GS hb s₀) (hx : c.slot nx = some ix) (ox : zam nx = true)
    (hk : c.slot nk = some ik) (ok : zam nk = true) (sx : σ[ix]? = some (.val (.list xs))) (sk : σ[ik]? = some (.val (.int k))) (hout : (xs.length : Int) ≤ k) (hhi : k < 2 ^ 63)
    {Q : Flow → Shared → Prop} {E : Value → Shared → Prop} (hE : ∀ e s', Out hb s₀ c env O₀ ow σ s A.handled.isNone false e s' → E (.ref e) s') : wpAny (model prog w) A (exec st env) Q E s := by
  obtain ⟨pv, p1, p2, p3, p, rfl⟩ := hst; rw [exec_Assign_Name _ _ _ _ _ rfl]; exact wpAny_bind (wpAny_standAt (wpAny_bind (idx_raise x g₀ hd hx ox hk ok sx sk hout hhi hE)))
theorem push_ok {nm nv : Str} {st : Stmt} {im iv : Nat} {ms : List PV} {t : List Nat} (hst : zel nm nv st) (fx : Fx prog w A hb Γ c env s₀) (x : SS hb s₀ c env O₀ ow σ s) (hm : c.slot nm = some im) (om : zam nm = true) (hv : c.slot nv = some iv) (ov : zam nv = true)
    (sm : σ[im]? = some (.own ms)) (sv : σ[iv]? = some (.val (.str t))) (hz : ms.length < small) {Q : Flow → Shared → Prop} {E : Value → Shared → Prop} (hQ : ∀ s', SS hb s₀ c env O₀ ow (σ.set im (.own (ms ++ [.str t]))) s' → Q .next s') : wpAny (model prog w) A (exec st env) Q E s := by
  obtain ⟨pm, ap, pv, cp, p, rfl, hline⟩ := hst; have hc : cE c (.Name nv pv) = some (.var iv) := by simp [cE, ov, hv]
  refine sst_push fx om hline hm hc (zdc ov hv) O₀ ow σ s x .next (σ.set im (.own (ms ++ [.str t]))) ?_ Q E fun f s' hp => ?_
  · rw [evS]; have : evE Γ (.var iv) .val σ = some (.str t) := getV sv; rw [this, sm]; show (if ms.length < small then _ else _) = _; rw [if_pos hz]
  · obtain ⟨rfl, ow', x', _, h⟩ := hp; have : ow' = ow := funext fun j => h j rfl
    exact hQ s' (this ▸ x')
theorem zev {nx nk nv : Str} {st : Stmt} {ix ik iv : Nat} {xs : List (List Nat)} {k : Nat} {t : List Nat} (hst : zcg nx nk nv st) (xf : XF prog w A₁ hb Γ c env s₀) (hfr : A.frames = A₁.frames) (hu : A.units + 64 < cLine) (hd : HdOk A s) (x : SS hb s₀ c env O₀ ow σ s)
    (hx : c.slot nx = some ix) (ox : zam nx = true) (hk : c.slot nk = some ik) (ok : zam nk = true) (hv : c.slot nv = some iv) (ov : zam nv = true)
    (sx : σ[ix]? = some (.val (.list (xs.map .str)))) (sk : σ[ik]? = some (.val (.int (k + 1 : Nat)))) (sv : σ[iv]? = some (.val (.str t))) (hX : zb1 xs = true) (ht : xs[k]? = some t) (hz : xs.length ≤ 64)
    {Q : Flow → Shared → Prop} {E : Value → Shared → Prop} (hQ : ∀ s', k + 1 < xs.length → SS hb s₀ c env O₀ ow σ s' → Kp hb s s' → Q .next s') (hE : ∀ e s', k + 1 = xs.length → Out hb s₀ c env O₀ ow σ s A.handled.isNone true e s' → E (.ref e) s') :
    wpAny (model prog w) A (exec st env) Q E s := by
  obtain ⟨px, pk, p, pv, pc, body, pw, rfl⟩ := hst; have hlt : k < xs.length := (List.getElem?_eq_some_iff.mp ht).1; by_cases h : k + 1 < xs.length
  · exact skip_next Γ hu x xf.fx.g₀ hx ox hk ok hv ov sx sk sv (List.getElem?_eq_getElem h) (asc_next hX ht (List.getElem?_eq_getElem h)) fun s' x' k' => hQ s' h x' k'
  · refine skip_raise xf hfr hd x hx ox hk ok sx sk ?_ ?_ fun e s' o => hE e s' (by omega) o
    · rw [List.length_map]; omega
    · have : (2 : Int) ^ 63 = 9223372036854775808 := by decide
      omega
end
end Mine
namespace Mine
open PySem PyProof.Rows PySem.Spec
section
variable {prog : Program} {w : World} {A A₁ : Around} {hb : HB} {Γ : Gam} {c : CT} {env : Env} {s₀ s : Shared} {O₀ : Addr → Prop} {ow : Nat → Option Addr} {σ : zad}
variable {X Y M U : List (List Nat)} {i j : Nat} {m u : List (List Nat)} {e a : Option (List Nat)}
variable {nx ny ni nj nm nu ne na nI : Str}
theorem noted_ks {h₀ : Heap} {s s' : Shared} {e : Addr} {cx : Bool} {fl : Value} (x : Noted h₀ ow s.heap e cx fl) (k : KS s.heap ow s'.heap ow) (g : GS hb s) : Noted h₀ ow s'.heap e cx fl :=
  x.ks fun b o q hr ho => k.keep b o (fun q' => by
    obtain ⟨_, t, _⟩ := g.tab; obtain ⟨⟨vs, hd⟩, T, hc, _⟩ := hr; have := t.2; rw [← q', q] at this
    cases this
    cases hc) q (by obtain ⟨⟨vs, hd⟩, _⟩ := id hr; exact .fields hd (hr.ne (by decide))) ho
theorem hd_mark {e1 : Addr} {fl : Value} {h₀ : Heap} {s : Shared} (hA : A.handled = none) (hn : Noted h₀ ow s.heap e1 true fl) : HdOk (A.mark (some (.ref e1))) s := by
  obtain ⟨o, vs, T, oT, ts, he, hc, hd, hz, h1, h2, _⟩ := hn; refine .inr ⟨e1, o, vs, ?_, he, hd, h2 rfl⟩; show (some (Value.ref e1)).or A.handled = _; rw [hA]; rfl
theorem through {x : Addr} {cx : Bool} {M : Model} {E : Value → Shared → Prop} (g₀ : GS hb s₀) (hf : env.frame = some env.locals) (o : Out hb s₀ c env O₀ ow σ s cx true x s)
    (hE : ∀ s', Out hb s₀ c env O₀ ow σ s cx true x s' → E (.ref x) s') : notedBy M A₁ env (cameBackBy M A env E) (.ref x) s :=
  zee hf o.2 (came_back o.1 g₀ hf o.2 fun s' o' => hE s' o')
theorem inner_try {w3 j2 w4 : Stmt} {pt : Pos} {t : List Nat} (N : SN c nx ny ni nj nm nu ne na nI) (xf : XF prog w A hb Γ c env s₀) (h3 : zcg nx ni ne w3) (hj : zde nj j2) (h4 : zcg ny nj na w4) (x : SS hb s₀ c env O₀ ow (sg X Y (i + 1) j m u (some t) (some t)) s)
    (hX : zb1 X = true) (hY : zb1 Y = true) (zX : X.length ≤ 64) (zY : Y.length ≤ 64) (hx : X[i]? = some t) (hy : Y[j]? = some t)
    {Q : Flow → Shared → Prop} {E : Value → Shared → Prop} (hQ : ∀ s', SS hb s₀ c env O₀ ow (sg X Y (i + 1) (j + 1) m u (some t) (some t)) s' → Q .next s')
    (hE : ∀ v s' cx, (X.length = i + 1 ∨ Y.length = j + 1) → Out hb s₀ c env O₀ ow (sg X Y (i + 1) (j + 1) m u (some t) (some t)) s' cx true v s' → E (.ref v) s') :
    wpAny (model prog w) A (exec (.Try [w3] [] [] [j2, w4] pt) env) Q E s := by
  have g₀ := xf.fx.g₀; have hA := xf.fx.cx.handled; have hu := xf.fx.cx.units; obtain ⟨pk, kd, pc, pq, rfl⟩ := hj; refine wpAny_Try_finally (wpAny_execs_cons ?_); refine zev h3 xf rfl hu (.inl hA) x N.x N.ox N.i N.oi N.e N.oe rfl rfl rfl hX hx zX (fun s1 hlt x1 k1 => ?_) fun x1 s1 hlen o1 => ?_
  · refine wpAny_execs_nil (wpAny_execs_nil ?_); refine wpAny_execs_cons (inc_ok xf x1 N.j N.oj (k := (j : Int)) rfl fun s2 _ _ x2 k2 => ?_)
    rw [show ((j : Int) + 1) = ((j + 1 : Nat) : Int) from rfl, sg_j] at x2; refine wpAny_execs_cons (zev h4 xf rfl hu (.inl hA) x2 N.y N.oy N.j N.oj N.a N.oa rfl rfl rfl hY hy zY (fun s3 hlt3 x3 k3 => ?_) fun x3 s3 hlen o3 => ?_)
    · exact wpAny_execs_nil (hQ s3 x3)
    · exact through g₀ xf.hf o3 fun s4 o4 => hE x3 s4 _ (.inr hlen.symm) o4
  · refine zee xf.hf o1.2 ⟨ref_ne_byPass _, zee xf.hf o1.2 ?_⟩; have cx1 : A.handled.isNone = true := by rw [hA]; rfl
    refine flight o1.1 g₀ o1.2 none fun s2 x2 n2 _ => ?_
    rw [cx1] at n2; refine wpAny_execs_cons (inc_ok (A := A.mark (some (.ref x1))) xf x2 N.j N.oj (k := (j : Int)) rfl fun s3 _ _ x3 k3 => ?_)
    rw [show ((j : Int) + 1) = ((j + 1 : Nat) : Int) from rfl, sg_j] at x3; have n3 := noted_ks n2 k3 (x2.kp.gs g₀); refine wpAny_execs_cons (zev (A := A.mark (some (.ref x1))) h4 xf rfl hu (hd_mark hA n3) x3 N.y N.oy N.j N.oj N.a N.oa rfl rfl rfl hY hy zY (fun s4 hlt4 x4 k4 => ?_) fun x4 s4 hlen4 o4 => ?_)
    · refine wpAny_execs_nil ?_; have n4 := noted_kp n3 k4 (x3.kp.gs g₀); show wpAny _ A (PySem.passOn "try.finally" (.ref x1) env) Q E s4; unfold PySem.passOn; have n4' := n4; obtain ⟨o, vs, T, oT, ts, he, hc, hd, hz, h1, _⟩ := n4'; refine wpAny_bind (wpAny_field he hd h1 ?_); rw [if_neg (show ¬ ((Value.ref T == Value.none) = true) from by simp)]; refine wpAny_bind (flight x4 g₀ n4 env.frame fun s5 x5 n5 _ => wpAny_throw (hE x1 s5 true (.inl hlen.symm) ⟨x5, ?_⟩))
      rw [xf.hf] at n5; exact n5
    · exact through g₀ xf.hf o4 fun s5 o5 => hE x4 s5 _ (.inr hlen4.symm) o5
end
end Mine
namespace Mine
open PySem PyProof.Rows PySem.Spec
section
variable {prog : Program} {w : World} {A A₁ : Around} {hb : HB} {Γ : Gam} {c : CT} {env : Env} {s₀ s : Shared} {O₀ : Addr → Prop} {ow : Nat → Option Addr} {σ : zad}
variable {X Y M U : List (List Nat)} {i j : Nat} {m u : List (List Nat)} {e a : Option (List Nat)}
variable {nx ny ni nj nm nu ne na nI : Str}
theorem two63 : (2 : Int) ^ 63 = 9223372036854775808 := by decide
theorem test_ok (Γ : Gam) {op : CmpOp} {n1 n2 : Str} {i1 i2 : Nat} {p1 p2 p : Pos} {t t' : List Nat} {b : Bool} (hu : A.units + 64 < cLine) (x : SS hb s₀ c env O₀ ow σ s) (g₀ : GS hb s₀) (h1 : c.slot n1 = some i1) (o1 : zam n1 = true) (h2 : c.slot n2 = some i2) (o2 : zam n2 = true)
    (s1 : σ[i1]? = some (.val (.str t))) (s2 : σ[i2]? = some (.val (.str t'))) (hb' : zae op (.str t) (.str t') = some b) {Q : Bool → Shared → Prop} {E : Value → Shared → Prop} (hQ : ∀ s', SS hb s₀ c env O₀ ow σ s' → Q b s') :
    wpAny (model prog w) A (isTrue (.Compare (.Name n1 p1) [op] [.Name n2 p2] p) env (eval (.Compare (.Name n1 p1) [op] [.Name n2 p2] p) env)) Q E s := by
  have se : SE prog w A hb Γ c (.Compare (.Name n1 p1) [op] [.Name n2 p2] p) (.cmp op (.var i1) (.var i2)) := se_cmp (by cases op <;> rfl) (zdc o1 h1) (zdc o2 h2) hu
  have e : asB (evE Γ (.cmp op (.var i1) (.var i2)) .test σ) = some b := by
    show asB (fin .test (match zaw σ i1 with
      | some x => (match zaw σ i2 with | some y => (zae op x y).map .bool | none => none)
      | none => none)) = _
    rw [getV s1, getV s2]; show asB (fin .test ((zae op (.str t) (.str t')).map .bool)) = _; rw [hb']; cases b <;> rfl
  exact se.test x.fr (x.xc g₀) x.tk e _ _ fun s' k t => hQ s' (x.run g₀ k t)
theorem try_body {a1 a2 p1 i1 w1 p2 j1 w2 i2 w3 j2 w4 : Stmt} {q1 q2 q3 q4 q5 q6 q7 q8 pt : Pos} (N : SN c nx ny ni nj nm nu ne na nI) (xf : XF prog w A hb Γ c env s₀)
    (ha1 : IsAsg ne nx ni a1) (ha2 : IsAsg na ny nj a2) (hp1 : zel nm ne p1) (hi1 : zde ni i1) (hw1 : zcg nx ni ne w1) (hp2 : zel nu na p2) (hj1 : zde nj j1) (hw2 : zcg ny nj na w2)
    (hi2 : zde ni i2) (hw3 : zcg nx ni ne w3) (hj2 : zde nj j2) (hw4 : zcg ny nj na w4)
    (x : SS hb s₀ c env O₀ ow (sg X Y i j m u e a) s) (hX : zb1 X = true) (hY : zb1 Y = true) (zX : X.length ≤ 64) (zY : Y.length ≤ 64) (I : Inv X Y M U i j m u) (li : i ≤ X.length) (lj : j ≤ Y.length) (lm : m.length ≤ i) (lu : u.length ≤ j) :
    wpAny (model prog w) A (execs [a1, a2, .If (.Compare (.Name ne q1) [.Lt] [.Name na q2] q3) [p1, i1, w1] [.If (.Compare (.Name ne q4) [.Gt] [.Name na q5] q6) [p2, j1, w2] [i2, .Try [w3] [] [] [j2, w4] pt] q7] q8] env)
      (fun f s' => f = .next ∧ Nxt hb s₀ c env O₀ X Y M U ((X.length - i) + (Y.length - j)) s') (Thr hb s₀ c env O₀ X Y M U) s := by
  have g₀ := xf.fx.g₀; have hA := xf.fx.cx.handled; have hu := xf.fx.cx.units; have hsm : small = 1048576 := rfl; by_cases hi : i < X.length
  · refine wpAny_execs_cons (asg_ok ha1 xf.fx x N.e N.x N.ox N.i N.oi (xs := X) (k := i) (t := X[i]) (by cases e <;> rfl) (by cases e <;> rfl) (List.getElem?_eq_getElem hi) fun s1 ow1 _ x1 => ?_)
    rw [sg_e] at x1; by_cases hj : j < Y.length
    · refine wpAny_execs_cons (asg_ok ha2 xf.fx x1 N.a N.y N.oy N.j N.oj (xs := Y) (k := j) (t := Y[j]) (by cases a <;> rfl) (by cases a <;> rfl) (List.getElem?_eq_getElem hj) fun s2 ow2 _ x2 => ?_)
      rw [sg_a] at x2; have gX := List.getElem?_eq_getElem hi; have gY := List.getElem?_eq_getElem hj; generalize X[i] = et at x2 gX; generalize Y[j] = at' at x2 gY; refine wpAny_execs_cons (wpAny_If (test_ok Γ hu x2 g₀ N.e N.oe N.a N.oa rfl rfl (b := decide (et < at')) rfl fun s3 x3 => ?_))
      by_cases hlt : et < at'
      · rw [if_pos (decide_eq_true hlt)]; refine wpAny_execs_cons (push_ok hp1 xf.fx x3 N.m N.om N.e N.oe rfl rfl (by rw [List.length_map]; omega) fun s4 x4 => ?_)
        have x4 : SS hb s₀ c env O₀ ow2 (sg X Y i j (m ++ [et]) u (some et) (some at')) s4 := by rw [← sg_m]; exact x4
        obtain ⟨pk, kd, pc, pq, rfl⟩ := hi1; refine wpAny_execs_cons (inc_ok xf x4 N.i N.oi (k := (i : Int)) rfl fun s5 _ _ x5 _ => ?_)
        rw [show ((i : Int) + 1) = ((i + 1 : Nat) : Int) from rfl, sg_i] at x5; have I' := inv_lt hX hY I gX gY hlt; refine wpAny_execs_cons (zev hw1 xf rfl hu (.inl hA) x5 N.x N.ox N.i N.oi N.e N.oe rfl rfl rfl hX gX zX (fun s6 hl x6 _ => ?_) fun v s6 hl o6 => ?_)
        · exact wpAny_execs_nil (wpAny_execs_nil ⟨rfl, ow2, i + 1, j, _, _, _, _, x6, I', by omega, lj, by rw [List.length_append]; exact Nat.succ_le_succ lm, lu, by omega⟩)
        · exact ⟨v, ow2, i + 1, j, _, _, _, _, _, _, rfl, o6, I', .inl (by omega), by omega, lj, by rw [List.length_append]; exact Nat.succ_le_succ lm, lu⟩
      · rw [if_neg (by simpa using hlt)]; refine wpAny_execs_cons (wpAny_If (test_ok Γ hu x3 g₀ N.e N.oe N.a N.oa rfl rfl (b := decide (at' < et)) rfl fun s4 x4 => ?_))
        by_cases hgt : at' < et
        · rw [if_pos (decide_eq_true hgt)]; refine wpAny_execs_cons (push_ok hp2 xf.fx x4 N.u N.ou N.a N.oa rfl rfl (by rw [List.length_map]; omega) fun s5 x5 => ?_)
          have x5 : SS hb s₀ c env O₀ ow2 (sg X Y i j m (u ++ [at']) (some et) (some at')) s5 := by rw [← sg_u]; exact x5
          obtain ⟨pk, kd, pc, pq, rfl⟩ := hj1; refine wpAny_execs_cons (inc_ok xf x5 N.j N.oj (k := (j : Int)) rfl fun s6 _ _ x6 _ => ?_)
          rw [show ((j : Int) + 1) = ((j + 1 : Nat) : Int) from rfl, sg_j] at x6; have I' := inv_gt hX hY I gX gY hgt; refine wpAny_execs_cons (zev hw2 xf rfl hu (.inl hA) x6 N.y N.oy N.j N.oj N.a N.oa rfl rfl rfl hY gY zY (fun s7 hl x7 _ => ?_) fun v s7 hl o7 => ?_)
          · exact wpAny_execs_nil (wpAny_execs_nil (wpAny_execs_nil ⟨rfl, ow2, i, j + 1, _, _, _, _, x7, I', li, by omega, lm, by rw [List.length_append]; exact Nat.succ_le_succ lu, by omega⟩))
          · exact ⟨v, ow2, i, j + 1, _, _, _, _, _, _, rfl, o7, I', .inr (by omega), li, by omega, lm, by rw [List.length_append]; exact Nat.succ_le_succ lu⟩
        · rw [if_neg (by simpa using hgt)]; have heq : at' = et := List.le_antisymm (List.not_lt.mp hlt) (List.not_lt.mp hgt); subst heq; obtain ⟨pk, kd, pc, pq, rfl⟩ := hi2; refine wpAny_execs_cons (inc_ok xf x4 N.i N.oi (k := (i : Int)) rfl fun s5 _ _ x5 _ => ?_)
          rw [show ((i : Int) + 1) = ((i + 1 : Nat) : Int) from rfl, sg_i] at x5; have I' := inv_eq hX hY I gX gY; refine wpAny_execs_cons (inner_try N xf hw3 hj2 hw4 x5 hX hY zX zY gX gY (fun s6 x6 => ?_) fun v s6 cx hl o6 => ?_)
          · exact wpAny_execs_nil (wpAny_execs_nil (wpAny_execs_nil ⟨rfl, ow2, i + 1, j + 1, _, _, _, _, x6, I', hi, hj, by omega, by omega, by omega⟩))
          · exact ⟨v, ow2, i + 1, j + 1, _, _, _, _, _, _, rfl, o6, I', by omega, hi, hj, by omega, by omega⟩
    · refine wpAny_execs_cons (asg_raise ha2 (.inl hA) x1 g₀ N.y N.oy N.j N.oj rfl rfl (by rw [List.length_map]; omega) (by rw [two63]; omega) fun v s2 o2 => ?_)
      exact ⟨v, ow1, i, j, _, _, _, _, _, _, rfl, o2, I, .inr (by omega), li, lj, lm, lu⟩
  · refine wpAny_execs_cons (asg_raise ha1 (.inl hA) x g₀ N.x N.ox N.i N.oi rfl rfl (by rw [List.length_map]; omega) (by rw [two63]; omega) fun v s1 o1 => ?_)
    exact ⟨v, ow, i, j, _, _, _, _, _, _, rfl, o1, I, .inl (by omega), li, lj, lm, lu⟩
end
end Mine
namespace Mine
open PySem PyProof.Rows PySem.Spec
theorem zh3 : isSubtype (.type "IndexError") (.type "IndexError") = pure true := by rw [isSubtype_type]; kernel_rfl
section
variable {prog : Program} {w : World} {A A₁ : Around} {hb : HB} {Γ : Gam} {c : CT} {env : Env} {s₀ s : Shared} {O₀ : Addr → Prop} {ow : Nat → Option Addr} {σ : zad}
variable {X Y M U : List (List Nat)} {i j : Nat} {m u : List (List Nat)} {e a : Option (List Nat)}
variable {nx ny ni nj nm nu ne na nI : Str}
def Fin' (hb : HB) (s₀ : Shared) (c : CT) (env : Env) (O₀ : Addr → Prop) (X Y M U : List (List Nat)) (s' : Shared) : Prop :=
  ∃ ow i j e a, SS hb s₀ c env O₀ ow (sg X Y i j M U e a) s'
theorem handler_ok {x1 x2 : Stmt} {pI pb ph : Pos} {v : Value} (N : SN c nx ny ni nj nm nu ne na nI) (xf : XF prog w A hb Γ c env s₀) (h1 : IsExt nm nx ni x1) (h2 : IsExt nu ny nj x2) (zX : X.length ≤ 64) (zY : Y.length ≤ 64)
    (T : Thr hb s₀ c env O₀ X Y M U v s) {Q : Flow → Shared → Prop} {E : Value → Shared → Prop} (hQ : ∀ s', Fin' hb s₀ c env O₀ X Y M U s' → Q .brk s') :
    wpAny (model prog w) A (noteFrame v env) (fun _ s₂ => wpAny (model prog w) A (setFlight v none) (fun _ s₃ => wpAny (model prog w) A (handleBy v env [.ExceptHandler (some (.Name nI pI)) none [x1, x2, .Break pb] ph]) Q E s₃) E s₂) E s := by
  have g₀ := xf.fx.g₀; have hA := xf.fx.cx.handled; have hu := xf.fx.cx.units; have hsm : small = 1048576 := rfl; obtain ⟨x, ow, i, j, m, u, e, a, nt, cx, rfl, o, I, hend, li, lj, lm, lu⟩ := T; have key : ∀ s1, SS hb s₀ c env O₀ ow (sg X Y i j m u e a) s1 → Noted s₀.heap ow s1.heap x cx (rawInt env.locals) →
      wpAny (model prog w) A (setFlight (.ref x) none) (fun _ s₃ => wpAny (model prog w) A (handleBy (.ref x) env [.ExceptHandler (some (.Name nI pI)) none [x1, x2, .Break pb] ph]) Q E s₃) E s1 := by
    intro s1 xx n1; refine flight xx g₀ n1 none fun s2 xx2 n2 _ => ?_
    refine wpAny_handleBy_builtin (X := "IndexError") (T := "IndexError") (b := true) F.isExc_IndexError F.notTuple_IndexError zh3 ?_; refine wpAny_Name (zc7 xx2.fr.fk (xx2.xc g₀).gs N.I ⟨rfl, ?_, ?_⟩) (zax N.oI).1
    · obtain ⟨ob, vs, T, oT, ts, he, hc, _⟩ := n2; exact ⟨ob, he, hc⟩
    · rw [if_pos rfl]; refine flight xx2 g₀ n2 none fun s3 xx3 n3 _ => ?_
      have hu' : (A.mark (some (.ref x))).units + 64 < cLine := hu; refine wpAny_execs_cons (ext_ok Γ h1 hu' xx3 g₀ N.m N.om N.x N.ox N.i N.oi (ms := m.map .str) (xs := X.map .str) (k := i) rfl rfl rfl (by rw [List.length_map, List.length_map]; omega) fun s4 xx4 => ?_)
      rw [← List.map_drop, sg_m] at xx4; refine wpAny_execs_cons (ext_ok Γ h2 hu' xx4 g₀ N.u N.ou N.y N.oy N.j N.oj (ms := u.map .str) (xs := Y.map .str) (k := j) rfl rfl rfl (by rw [List.length_map, List.length_map]; omega) fun s5 xx5 => ?_)
      rw [← List.map_drop, sg_u] at xx5; obtain ⟨e1, e2⟩ := inv_end I hend; rw [e1, e2] at xx5; have hb' := sst_brk (prog := prog) (w := w) (A := A.mark (some (.ref x))) (Γ := Γ) (p := pb) O₀ ow _ s5 xx5 .brk _ rfl; refine wpAny_execs_cons (hb' _ _ fun f s6 hp => ?_)
      obtain ⟨rfl, ow', xx6, _⟩ := hp; exact hQ s6 ⟨ow', i, j, e, a, xx6⟩
  cases nt with
  | true => exact zee xf.hf o.2 (key s o.1 o.2)
  | false =>
    obtain ⟨xx, hr, h0, hw⟩ := o
    exact note_new xf.fx.cx.frs xf.fr xf.hf xx g₀ hr h0 hw fun s1 xx1 n1 => key s1 xx1 n1
def IsLoop (nx ny ni nj nm nu ne na nI : Str) (st : Stmt) : Prop :=
  ∃ a1 a2 p1 i1 w1 p2 j1 w2 i2 w3 j2 w4 x1 x2 q1 q2 q3 q4 q5 q6 q7 q8 pt kd pc pI pb ph ptt pw,
    st = .While (.Constant (.bool true) kd pc) [.Try [a1, a2, .If (.Compare (.Name ne q1) [.Lt] [.Name na q2] q3) [p1, i1, w1] [.If (.Compare (.Name ne q4) [.Gt] [.Name na q5] q6) [p2, j1, w2] [i2, .Try [w3] [] [] [j2, w4] pt] q7] q8]
      [.ExceptHandler (some (.Name nI pI)) none [x1, x2, .Break pb] ph] [] [] ptt] [] pw ∧
    IsAsg ne nx ni a1 ∧ IsAsg na ny nj a2 ∧ zel nm ne p1 ∧ zde ni i1 ∧ zcg nx ni ne w1 ∧ zel nu na p2 ∧ zde nj j1 ∧ zcg ny nj na w2 ∧
    zde ni i2 ∧ zcg nx ni ne w3 ∧ zde nj j2 ∧ zcg ny nj na w4 ∧ IsExt nm nx ni x1 ∧ IsExt nu ny nj x2
theorem loop_ok {st : Stmt} (N : SN c nx ny ni nj nm nu ne na nI) (xf : XF prog w A hb Γ c env s₀) (hst : IsLoop nx ny ni nj nm nu ne na nI st) (hX : zb1 X = true) (hY : zb1 Y = true) (zX : X.length ≤ 64) (zY : Y.length ≤ 64)
    (x : SS hb s₀ c env O₀ ow (sg X Y 0 0 [] [] e a) s) {Q : Flow → Shared → Prop} {E : Value → Shared → Prop} (hQ : ∀ s', Fin' hb s₀ c env O₀ X Y (mns X Y) (mns Y X) s' → Q .next s') : wpAny (model prog w) A (exec st env) Q E s := by
  obtain ⟨a1, a2, p1, i1, w1, p2, j1, w2, i2, w3, j2, w4, x1, x2, q1, q2, q3, q4, q5, q6, q7, q8, pt, kd, pc, pI, pb, ph, ptt, pw, rfl, ha1, ha2, hp1, hi1, hw1, hp2, hj1, hw2, hi2, hw3, hj2, hw4, hx1, hx2⟩ := hst; have g₀ := xf.fx.g₀; refine wpAny_While (codeAny_whileLoop (fun n s' => Nxt hb s₀ c env O₀ X Y (mns X Y) (mns Y X) n s') (fun n s' hI => ?_) (X.length + Y.length + 1) ⟨ow, 0, 0, [], [], e, a, x, ⟨rfl, rfl⟩, Nat.zero_le _, Nat.zero_le _, Nat.le_refl _, Nat.le_refl _, by omega⟩)
  obtain ⟨ow, i, j, m, u, e, a, x, I, li, lj, lm, lu, hn⟩ := hI; have se : SE prog w A hb Γ c (.Constant (.bool true) kd pc) (.lit (.bool true)) := zeu rfl; refine se.test x.fr (x.xc g₀) x.tk (b := true) rfl _ _ fun s1 k1 t1 => ?_
  have xx := x.run g₀ k1 t1; rw [if_pos rfl]; refine wpAny_execs_cons (wpAny_Try_except (wpAny_mono (try_body N xf ha1 ha2 hp1 hi1 hw1 hp2 hj1 hw2 hi2 hw3 hj2 hw4 xx hX hY zX zY I li lj lm lu) (fun f s2 hf => ?_) fun v s2 T => ?_))
  · obtain ⟨rfl, ow', i', j', m', u', e', a', x', I', li', lj', lm', lu', hn'⟩ := hf; refine wpAny_execs_nil (wpAny_execs_nil ⟨_, hn, ow', i', j', m', u', e', a', x', I', li', lj', lm', lu', hn'⟩)
  · refine handler_ok N xf hx1 hx2 zX zY T fun s3 hfin => ?_
    exact hQ s3 hfin
end
end Mine
namespace Mine
open PySem PyProof.Rows PySem.Spec
theorem strs_map : ∀ {xs : List PV} {l : List (List Nat)}, zb6? xs = some l → xs = l.map .str
  | [], l, h => by cases h; rfl
  | x :: r, l, h => by
    cases x with
    | str s =>
      simp only [zb6?, Option.map_eq_some_iff] at h
      obtain ⟨l', h1, rfl⟩ := h
      rw [strs_map h1]; rfl
    | _ => cases h
structure SlEntry (h : Heap) : Prop where
  ex : ∃ fd params body c nx ny ni nj nm nu ne na nI, FnAt h 38 fd params body ∧ (∃ rest, CT.ns c = params ++ rest) ∧ c.kind = fd.scope.names ∧ (∀ n v, c.gl.lookup n = some v → Glob h n v) ∧ params.length = 2 ∧ c.ns.length = 8 ∧ c.inT = false ∧
    SN c nx ny ni nj nm nu ne na nI ∧ ∃ p1 p2 kd p3 p4 p5 p6 p7 p8 p9 p10 lp pa pb k2 p11 p12, IsLoop nx ny ni nj nm nu ne na nI lp ∧
      body = [.Assign [.Name ni p1, .Name nj p2] (.Constant (.int 0) kd p3) p4, .Assign [.Name nm p5] (.List [] p6) p7, .Assign [.Name nu p8] (.List [] p9) p10, lp, .Return (some (.Tuple [.Name nm pa, .Name nu pb] k2 p11)) p12]
section
variable {prog : Program} {w : World} {A : Around} {hb : HB} {Γ : Gam}
theorem sl_ok (T : SlEntry hb.h) (hbase : zdq hb.h) {r : Nat} (room : Room A (r + 1)) (hcx : zfc prog w A hb Γ) (vs : List PV) (v : PV) (h : sld vs = some v) : zfd prog w A hb (.ref 38) vs v := by
  obtain ⟨fd, params, body, c, nx, ny, ni, nj, nm, nu, ne, na, nI, F, hns, hk, hg, hp, hn, hT, N, p1, p2, kd, p3, p4, p5, p6, p7, p8, p9, p10, lp, pa, pb, k2, p11, p12, hlp, rfl⟩ := T.ex; obtain ⟨o, ho, hd⟩ := F.obj; unfold sld at h
  split at h
  · rename_i xs ys
    split at h
    · rename_i X Y h1 h2
      split at h
      · rename_i hc
        cases h
        simp only [Bool.and_eq_true, decide_eq_true_eq] at hc; obtain ⟨⟨⟨hX, hY⟩, zX⟩, zY⟩ := hc; have e1 := strs_map h1; have e2 := strs_map h2; subst e1 e2; refine ⟨38, o, fd, rfl, F.ne, ho, hd, fun O s rvs Q E xc tk hr hQ => ?_⟩
        refine fn_enter F hbase (fun q => by rw [hT] at q; cases q) ?_ ?_ hcx hns hk hg (args := [.list (X.map .str), .list (Y.map .str)]) hp.symm xc (.inl tk) hr (fun L env s₁ hf fx ss Q' E' hQ' => ?_) hQ
        · have := room.depth; omega
        · have := room.depth; omega
        · rw [hn] at ss; have fr : ∃ l, (A.deeper env).frames = some (env :: l) := by
            obtain ⟨l, e, _⟩ := fx.cx.frs; have e : A.frames.map (env :: ·) = some l := e
            cases hA : A.frames with
            | none => rw [hA] at e; cases e
            | some l0 => exact ⟨l0, Around.frames_deeper hA⟩
          have xf : XF prog w (A.deeper env) (hb.deep L) Γ c env s := ⟨fx, fr, hf⟩; have g₀ := fx.g₀; refine wpAny_execs_cons (wpAny_Assign_two ?_); have he : SE prog w (A.deeper env) (hb.deep L) Γ c (.Constant (.int 0) kd p3) (.lit (.int 0)) := zeu rfl; refine he.val ss.fr (ss.xc g₀) ss.tk (v := .int 0) rfl _ _ fun rv s1 k1 t1 r1 => ?_
          have x1 := ss.run g₀ k1 t1; refine wpAny_assign_Name (zcy fx x1 N.i r1 fun s2 x2 k2' _ => ?_)
          obtain ⟨t0, rfl⟩ := r1; refine wpAny_assign_Name (zcy fx x2 N.j (v := .int 0) ⟨t0, rfl⟩ fun s3 x3 _ _ => ?_)
          refine wpAny_execs_cons (sst_own fx N.m O _ _ s3 x3 .next _ rfl _ _ fun f s4 hp4 => ?_)
          obtain ⟨rfl, ow4, x4, _⟩ := hp4; refine wpAny_execs_cons (sst_own fx N.u O _ _ s4 x4 .next _ rfl _ _ fun f s5 hp5 => ?_)
          obtain ⟨rfl, ow5, x5, _⟩ := hp5; have x5 : SS (hb.deep L) s c env O ow5 (sg X Y 0 0 [] [] none none) s5 := x5; refine wpAny_execs_cons (loop_ok N xf hlp hX hY zX zY x5 fun s6 hfin => ?_)
          obtain ⟨ow6, i, j, e, a, x6⟩ := hfin; have hc : cE c (.Tuple [.Name nm pa, .Name nu pb] k2 p11) = some (.tpl [.var 4, .var 5]) := by simp [cE, cEs, N.om, N.m, N.ou, N.u]
          refine wpAny_execs_cons (sst_ret fx (zaq fx.cx c _ _ hc) O _ _ s6 x6 (.ret (.tup [.list ((mns X Y).map .str), .list ((mns Y X).map .str)])) (frzA (sg X Y i j (mns X Y) (mns Y X) e a)) ?_ _ _ fun f s7 hp7 => ?_)
          · cases e <;> cases a <;> rfl
          · obtain ⟨rv, rfl, k7, _, r7⟩ := hp7; exact hQ' _ _ ⟨k7, .inl ⟨rv, rfl, r7⟩⟩
      · cases h
    · cases h
  · cases h
end
end Mine
namespace Mine
open PySem PySem.W PyProof.Rows
set_option maxHeartbeats 8000000 in
open_top hd for PySem.Challenge.rw_in0220_01
end Mine
namespace Mine
open PySem PyProof.Rows PySem.Spec
def glT : List (Str × Value) := List.cons ((Str.ofString "sorted_list_difference", Value.ref 38) : Str × Value) (List.cons ((Str.ofString "_twin_re_1", Value.ref 43) : Str × Value) (List.cons ((Str.ofString "translate", Value.ref 50) : Str × Value) (List.cons ((Str.ofString "_special_chars_map", Value.ref 52) : Str × Value) (List.cons ((Str.ofString "escape", Value.ref 62) : Str × Value) (List.cons ((Str.ofString "_translate", Value.ref 69) : Str × Value) (List.cons ((Str.ofString "_join_translated_parts", Value.ref 76) : Str × Value) (List.cons ((Str.ofString "IPV4_RE", Value.ref 81) : Str × Value) (List.cons ((Str.ofString "is_HDN", Value.ref 88) : Str × Value) (List.cons ((Str.ofString "liberal_is_HDN", Value.ref 95) : Str × Value) (List.cons ((Str.ofString "user_domain_match", Value.ref 102) : Str × Value) (List.cons ((Str.ofString "reach", Value.ref 109) : Str × Value) (List.cons ((Str.ofString "_law_pair", Value.ref 116) : Str × Value) (List.cons ((Str.ofString "_law_item", Value.ref 123) : Str × Value) (List.cons ((Str.ofString "_law_pattern", Value.ref 128) : Str × Value) (List.cons ((Str.ofString "_law_plain", Value.ref 135) : Str × Value) (List.cons ((Str.ofString "_law_read", Value.ref 142) : Str × Value) (List.cons ((Str.ofString "_law_fits", Value.ref 149) : Str × Value) (List.cons ((Str.ofString "_law_taken", Value.ref 156) : Str × Value) (List.cons ((Str.ofString "_law_language", Value.ref 161) : Str × Value) (List.cons ((Str.ofString "_law_beginnings", Value.ref 166) : Str × Value) (List.cons ((Str.ofString "_law_endings", Value.ref 171) : Str × Value) (List.cons ((Str.ofString "_law_rank", Value.ref 178) : Str × Value) (List.cons ((Str.ofString "_law_right", Value.ref 183) : Str × Value) (List.cons ((Str.ofString "law", Value.ref 188) : Str × Value) (List.cons ((Str.ofString "len", Value.builtin "len") : Str × Value) (List.cons ((Str.ofString "sorted", Value.builtin "sorted") : Str × Value) (List.cons ((Str.ofString "sum", Value.builtin "sum") : Str × Value) (List.cons ((Str.ofString "isinstance", Value.builtin "isinstance") : Str × Value) (List.cons ((Str.ofString "list", Value.type "list") : Str × Value) (List.cons ((Str.ofString "type", Value.type "type") : Str × Value) (List.cons ((Str.ofString "bool", Value.type "bool") : Str × Value) (List.cons ((Str.ofString "object", Value.type "object") : Str × Value) (List.cons ((Str.ofString "zip", Value.type "zip") : Str × Value) (List.cons ((Str.ofString "enumerate", Value.type "enumerate") : Str × Value) (List.cons ((Str.ofString "range", Value.type "range") : Str × Value) (List.cons ((Str.ofString "str", Value.type "str") : Str × Value) (List.cons ((Str.ofString "IndexError", Value.type "IndexError") : Str × Value) List.nil)))))))))))))))))))))))))))))))))))))
section
variable {P : Params} {g : Heap} {mg mb : Str → Option Value} {p : Program} {loose : List Str} {mean : ExcName → Option Value}
noncomputable abbrev KH (P : Params) : PySem.W.Frag := hd.heap_39 P
def GlOk (P : Params) (x : Str × Value) : Prop := PySem.W.nsIn (KH P) mainGlobals x.1 = some (some x.2) ∨ (PySem.W.nsIn (KH P) mainGlobals x.1 = some none ∧ bootBuiltins x.1 = some x.2 ∧ x.1 ≠ "__name__")
theorem gl_all (P : Params) : ∀ x ∈ glT, GlOk P x := by
  unfold glT; simp only [List.forall_mem_cons]; refine ⟨.inl rfl, .inl rfl, .inl rfl, .inl rfl, .inl rfl, .inl rfl, .inl rfl, .inl rfl, .inl rfl, .inl rfl, .inl rfl, .inl rfl, .inl rfl, .inl rfl, .inl rfl, .inl rfl, .inl rfl, .inl rfl, .inl rfl, .inl rfl, .inl rfl, .inl rfl, .inl rfl, .inl rfl, .inl rfl, .inr ⟨rfl, by decide +kernel, by decide +kernel⟩, .inr ⟨rfl, by decide +kernel, by decide +kernel⟩, .inr ⟨rfl, by decide +kernel, by decide +kernel⟩, .inr ⟨rfl, by decide +kernel, by decide +kernel⟩, .inr ⟨rfl, by decide +kernel, by decide +kernel⟩, .inr ⟨rfl, by decide +kernel, by decide +kernel⟩, .inr ⟨rfl, by decide +kernel, by decide +kernel⟩, .inr ⟨rfl, by decide +kernel, by decide +kernel⟩, .inr ⟨rfl, by decide +kernel, by decide +kernel⟩, .inr ⟨rfl, by decide +kernel, by decide +kernel⟩, .inr ⟨rfl, by decide +kernel, by decide +kernel⟩, .inr ⟨rfl, by decide +kernel, by decide +kernel⟩, .inr ⟨rfl, by decide +kernel, by decide +kernel⟩, fun _ q => nomatch q⟩
theorem zer (X : (KH P).In g) (T : Top p loose mean mg mb g) (n : Str) (v : Value) (h : glT.lookup n = some v) : Glob g n v := by
  have hm := mem_of_lookup h; rcases gl_all P _ hm with h1 | ⟨h1, h2, h3⟩
  · exact ⟨mg, T.g, .inl (PySem.W.mg_of X T.g h1)⟩
  · exact ⟨mg, T.g, .inr ⟨PySem.W.mg_none_of X T.g h1, mb, T.b, (T.builtins _ h3).trans h2⟩⟩
theorem code_rec (X : (KH P).In g) {cd : Addr} {o : Obj} {vs : Array Value} {q : Str} {t : Tok} (h1 : (KH P).lookup cd = some o) (h2 : o.data = .fields vs) (h3 : vs[1]? = some (.str q t)) : g.CodeRec (.ref cd) q :=
  ⟨cd, o, vs, t, rfl, X _ _ h1, h2, h3⟩
theorem zdl {α : Type} {vs : List α} (h : vs.length = 1) : ∃ a, vs = [a] := by
  match vs, h with | [a], _ => exact ⟨a, rfl⟩
theorem zdw {α : Type} {vs : List α} (h : vs.length = 2) : ∃ a b, vs = [a, b] := by
  match vs, h with | [a, b], _ => exact ⟨a, b, rfl⟩
theorem zgc {α : Type} {vs : List α} (h : vs.length = 3) : ∃ a b c, vs = [a, b, c] := by
  match vs, h with | [a, b, c], _ => exact ⟨a, b, c, rfl⟩
def zba (fd : FuncData) : List Str := fd.params.args.map fun x => x.arg
structure Seen (P : Params) (a cd : Addr) (fd : FuncData) (body : List Stmt) (q : Str) : Prop where
  fn : ∃ o, (KH P).lookup a = some o ∧ o.data = .func fd
  ne : a ≠ zao
  body : fd.body = .stmts body
  clo : fd.closure = []
  code : fd.code = .ref cd
  cne : cd ≠ zao
  cobj : ∃ o vs t, (KH P).lookup cd = some o ∧ o.data = .fields vs ∧ vs[1]? = some (.str q t)
  qual : fd.qualname = q
  glob : fd.globals = mainGlobals
  bu : fd.builtins = builtinsNs
  kind : fd.scope.kind = .function
  co : fd.scope.isCoroutine = false
  gen : fd.scope.isGenerator = false
  nd : (zba fd).Nodup
  par : ∀ p ∈ zba fd, fd.scope.names.lookup p = some .local ∨ fd.scope.names.lookup p = some .cell
  free : ∀ x ∈ fd.scope.names, x.2 ≠ .free
theorem Seen.at {a cd : Addr} {fd : FuncData} {body : List Stmt} {q : Str} (S : Seen P a cd fd body q) (X : (KH P).In g) (hb : ∀ vals : List Value, vals.length = (zba fd).length → bindArgs fd ⟨vals, []⟩ = pure ((zba fd).zip vals)) : FnAt g a fd (zba fd) body := by
  obtain ⟨o, h1, h2⟩ := S.fn; obtain ⟨o', vs, t, h3, h4, h5⟩ := S.cobj; exact ⟨⟨o, X _ _ h1, h2⟩, S.ne, S.body, S.clo, ⟨cd, S.code, S.cne, by rw [S.code, S.qual]; exact code_rec X h3 h4 h5⟩, S.glob, S.bu, S.kind, S.co, S.gen, hb, S.nd, S.par, S.free⟩
theorem zbs {a cd : Addr} {fd : FuncData} {body : List Stmt} {q : Str} {m n : Nat} {b : List PS} (S : Seen P a cd fd body q) (X : (KH P).In g) (T : Top p loose mean mg mb g) (hb : ∀ vals : List Value, vals.length = (zba fd).length → bindArgs fd ⟨vals, []⟩ = pure ((zba fd).zip vals))
    (hns : ∃ rest, zb5 fd.params fd.scope = zba fd ++ rest) (hm : (zba fd).length = m) (hn : (zb5 fd.params fd.scope).length = n) (hc : cSs (fnCT glT fd.params body fd.scope) body = b) : zbp g a m n b :=
  ⟨fd, zba fd, body, fnCT glT fd.params body fd.scope, S.at X hb, hns, rfl, zer X T, hm, hn, hc, fun q => nomatch q⟩
theorem entT_of {a cd : Addr} {fd : FuncData} {body : List Stmt} {q : Str} {m n : Nat} {b : List PS} (S : Seen P a cd fd body q) (X : (KH P).In g) (T : Top p loose mean mg mb g) (hb : ∀ vals : List Value, vals.length = (zba fd).length → bindArgs fd ⟨vals, []⟩ = pure ((zba fd).zip vals))
    (hns : ∃ rest, zb5 fd.params fd.scope = zba fd ++ rest) (hm : (zba fd).length = m) (hn : (zb5 fd.params fd.scope).length = n) (hc : cSs { fnCT glT fd.params body fd.scope with inT := true } body = b) (hcd : cd = zc1) : zbp g a m n b :=
  ⟨fd, zba fd, body, { fnCT glT fd.params body fd.scope with inT := true }, S.at X hb, hns, rfl, zer X T, hm, hn, hc, fun _ => S.code.trans (by rw [hcd])⟩
theorem ent_62 (X : (KH P).In g) (T : Top p loose mean mg mb g) : zbp g 62 1 1 b62 := by
  have S : Seen P 62 _ _ _ _ := ⟨⟨_, rfl, rfl⟩, by decide, rfl, rfl, rfl, by decide, ⟨_, _, _, rfl, rfl, rfl⟩, rfl, rfl, rfl, rfl, rfl, rfl, by decide +kernel, by decide +kernel, by decide +kernel⟩; refine zbs S X T (fun vals h => ?_) ⟨_, rfl⟩ rfl rfl (by kernel_rfl)
  obtain ⟨a, rfl⟩ := zdl h; rfl
theorem ent_69 (X : (KH P).In g) (T : Top p loose mean mg mb g) : zbp g 69 3 13 b69 := by
  have S : Seen P 69 _ _ _ _ := ⟨⟨_, rfl, rfl⟩, by decide, rfl, rfl, rfl, by decide, ⟨_, _, _, rfl, rfl, rfl⟩, rfl, rfl, rfl, rfl, rfl, rfl, by decide +kernel, by decide +kernel, by decide +kernel⟩; refine entT_of S X T (fun vals h => ?_) ⟨_, rfl⟩ rfl rfl (by kernel_rfl) rfl
  obtain ⟨a, b, c, rfl⟩ := zgc h; rfl
theorem ent_76 (X : (KH P).In g) (T : Top p loose mean mg mb g) : zbp g 76 2 7 b76 := by
  have S : Seen P 76 _ _ _ _ := ⟨⟨_, rfl, rfl⟩, by decide, rfl, rfl, rfl, by decide, ⟨_, _, _, rfl, rfl, rfl⟩, rfl, rfl, rfl, rfl, rfl, rfl, by decide +kernel, by decide +kernel, by decide +kernel⟩; refine zbs S X T (fun vals h => ?_) ⟨_, rfl⟩ rfl rfl (by kernel_rfl)
  obtain ⟨a, b, rfl⟩ := zdw h; rfl
theorem ent_88 (X : (KH P).In g) (T : Top p loose mean mg mb g) : zbp g 88 1 1 b88 := by
  have S : Seen P 88 _ _ _ _ := ⟨⟨_, rfl, rfl⟩, by decide, rfl, rfl, rfl, by decide, ⟨_, _, _, rfl, rfl, rfl⟩, rfl, rfl, rfl, rfl, rfl, rfl, by decide +kernel, by decide +kernel, by decide +kernel⟩; refine zbs S X T (fun vals h => ?_) ⟨_, rfl⟩ rfl rfl (by kernel_rfl)
  obtain ⟨a, rfl⟩ := zdl h; rfl
theorem ent_95 (X : (KH P).In g) (T : Top p loose mean mg mb g) : zbp g 95 1 1 b95 := by
  have S : Seen P 95 _ _ _ _ := ⟨⟨_, rfl, rfl⟩, by decide, rfl, rfl, rfl, by decide, ⟨_, _, _, rfl, rfl, rfl⟩, rfl, rfl, rfl, rfl, rfl, rfl, by decide +kernel, by decide +kernel, by decide +kernel⟩; refine zbs S X T (fun vals h => ?_) ⟨_, rfl⟩ rfl rfl (by kernel_rfl)
  obtain ⟨a, rfl⟩ := zdl h; rfl
theorem ent_102 (X : (KH P).In g) (T : Top p loose mean mg mb g) : zbp g 102 2 3 b102 := by
  have S : Seen P 102 _ _ _ _ := ⟨⟨_, rfl, rfl⟩, by decide, rfl, rfl, rfl, by decide, ⟨_, _, _, rfl, rfl, rfl⟩, rfl, rfl, rfl, rfl, rfl, rfl, by decide +kernel, by decide +kernel, by decide +kernel⟩; refine zbs S X T (fun vals h => ?_) ⟨_, rfl⟩ rfl rfl (by kernel_rfl)
  obtain ⟨a, b, rfl⟩ := zdw h; rfl
theorem ent_109 (X : (KH P).In g) (T : Top p loose mean mg mb g) : zbp g 109 1 3 b109 := by
  have S : Seen P 109 _ _ _ _ := ⟨⟨_, rfl, rfl⟩, by decide, rfl, rfl, rfl, by decide, ⟨_, _, _, rfl, rfl, rfl⟩, rfl, rfl, rfl, rfl, rfl, rfl, by decide +kernel, by decide +kernel, by decide +kernel⟩; refine zbs S X T (fun vals h => ?_) ⟨_, rfl⟩ rfl rfl (by kernel_rfl)
  obtain ⟨a, rfl⟩ := zdl h; rfl
theorem ent_116 (X : (KH P).In g) (T : Top p loose mean mg mb g) : zbp g 116 1 4 b116 := by
  have S : Seen P 116 _ _ _ _ := ⟨⟨_, rfl, rfl⟩, by decide, rfl, rfl, rfl, by decide, ⟨_, _, _, rfl, rfl, rfl⟩, rfl, rfl, rfl, rfl, rfl, rfl, by decide +kernel, by decide +kernel, by decide +kernel⟩; refine zbs S X T (fun vals h => ?_) ⟨_, rfl⟩ rfl rfl (by kernel_rfl)
  obtain ⟨a, rfl⟩ := zdl h; rfl
theorem ent_123 (X : (KH P).In g) (T : Top p loose mean mg mb g) : zbp g 123 2 2 b123 := by
  have S : Seen P 123 _ _ _ _ := ⟨⟨_, rfl, rfl⟩, by decide, rfl, rfl, rfl, by decide, ⟨_, _, _, rfl, rfl, rfl⟩, rfl, rfl, rfl, rfl, rfl, rfl, by decide +kernel, by decide +kernel, by decide +kernel⟩; refine zbs S X T (fun vals h => ?_) ⟨_, rfl⟩ rfl rfl (by kernel_rfl)
  obtain ⟨a, b, rfl⟩ := zdw h; rfl
theorem ent_128 (X : (KH P).In g) (T : Top p loose mean mg mb g) : zbp g 128 2 6 b128 := by
  have S : Seen P 128 _ _ _ _ := ⟨⟨_, rfl, rfl⟩, by decide, rfl, rfl, rfl, by decide, ⟨_, _, _, rfl, rfl, rfl⟩, rfl, rfl, rfl, rfl, rfl, rfl, by decide +kernel, by decide +kernel, by decide +kernel⟩; refine zbs S X T (fun vals h => ?_) ⟨_, rfl⟩ rfl rfl (by kernel_rfl)
  obtain ⟨a, b, rfl⟩ := zdw h; rfl
theorem ent_135 (X : (KH P).In g) (T : Top p loose mean mg mb g) : zbp g 135 3 8 b135 := by
  have S : Seen P 135 _ _ _ _ := ⟨⟨_, rfl, rfl⟩, by decide, rfl, rfl, rfl, by decide, ⟨_, _, _, rfl, rfl, rfl⟩, rfl, rfl, rfl, rfl, rfl, rfl, by decide +kernel, by decide +kernel, by decide +kernel⟩; refine zbs S X T (fun vals h => ?_) ⟨_, rfl⟩ rfl rfl (by kernel_rfl)
  obtain ⟨a, b, c, rfl⟩ := zgc h; rfl
theorem ent_142 (X : (KH P).In g) (T : Top p loose mean mg mb g) : zbp g 142 1 6 b142 := by
  have S : Seen P 142 _ _ _ _ := ⟨⟨_, rfl, rfl⟩, by decide, rfl, rfl, rfl, by decide, ⟨_, _, _, rfl, rfl, rfl⟩, rfl, rfl, rfl, rfl, rfl, rfl, by decide +kernel, by decide +kernel, by decide +kernel⟩; refine zbs S X T (fun vals h => ?_) ⟨_, rfl⟩ rfl rfl (by kernel_rfl)
  obtain ⟨a, rfl⟩ := zdl h; rfl
theorem ent_149 (X : (KH P).In g) (T : Top p loose mean mg mb g) : zbp g 149 2 4 b149 := by
  have S : Seen P 149 _ _ _ _ := ⟨⟨_, rfl, rfl⟩, by decide, rfl, rfl, rfl, by decide, ⟨_, _, _, rfl, rfl, rfl⟩, rfl, rfl, rfl, rfl, rfl, rfl, by decide +kernel, by decide +kernel, by decide +kernel⟩; refine zbs S X T (fun vals h => ?_) ⟨_, rfl⟩ rfl rfl (by kernel_rfl)
  obtain ⟨a, b, rfl⟩ := zdw h; rfl
theorem ent_156 (X : (KH P).In g) (T : Top p loose mean mg mb g) : zbp g 156 2 9 b156 := by
  have S : Seen P 156 _ _ _ _ := ⟨⟨_, rfl, rfl⟩, by decide, rfl, rfl, rfl, by decide, ⟨_, _, _, rfl, rfl, rfl⟩, rfl, rfl, rfl, rfl, rfl, rfl, by decide +kernel, by decide +kernel, by decide +kernel⟩; refine zbs S X T (fun vals h => ?_) ⟨_, rfl⟩ rfl rfl (by kernel_rfl)
  obtain ⟨a, b, rfl⟩ := zdw h; rfl
theorem ent_161 (X : (KH P).In g) (T : Top p loose mean mg mb g) : zbp g 161 3 11 b161 := by
  have S : Seen P 161 _ _ _ _ := ⟨⟨_, rfl, rfl⟩, by decide, rfl, rfl, rfl, by decide, ⟨_, _, _, rfl, rfl, rfl⟩, rfl, rfl, rfl, rfl, rfl, rfl, by decide +kernel, by decide +kernel, by decide +kernel⟩; refine zbs S X T (fun vals h => ?_) ⟨_, rfl⟩ rfl rfl (by kernel_rfl)
  obtain ⟨a, b, c, rfl⟩ := zgc h; rfl
theorem ent_166 (X : (KH P).In g) (T : Top p loose mean mg mb g) : zbp g 166 3 8 b166 := by
  have S : Seen P 166 _ _ _ _ := ⟨⟨_, rfl, rfl⟩, by decide, rfl, rfl, rfl, by decide, ⟨_, _, _, rfl, rfl, rfl⟩, rfl, rfl, rfl, rfl, rfl, rfl, by decide +kernel, by decide +kernel, by decide +kernel⟩; refine zbs S X T (fun vals h => ?_) ⟨_, rfl⟩ rfl rfl (by kernel_rfl)
  obtain ⟨a, b, c, rfl⟩ := zgc h; rfl
theorem ent_171 (X : (KH P).In g) (T : Top p loose mean mg mb g) : zbp g 171 2 5 b171 := by
  have S : Seen P 171 _ _ _ _ := ⟨⟨_, rfl, rfl⟩, by decide, rfl, rfl, rfl, by decide, ⟨_, _, _, rfl, rfl, rfl⟩, rfl, rfl, rfl, rfl, rfl, rfl, by decide +kernel, by decide +kernel, by decide +kernel⟩; refine zbs S X T (fun vals h => ?_) ⟨_, rfl⟩ rfl rfl (by kernel_rfl)
  obtain ⟨a, b, rfl⟩ := zdw h; rfl
theorem ent_178 (X : (KH P).In g) (T : Top p loose mean mg mb g) : zbp g 178 1 6 b178 := by
  have S : Seen P 178 _ _ _ _ := ⟨⟨_, rfl, rfl⟩, by decide, rfl, rfl, rfl, by decide, ⟨_, _, _, rfl, rfl, rfl⟩, rfl, rfl, rfl, rfl, rfl, rfl, by decide +kernel, by decide +kernel, by decide +kernel⟩; refine zbs S X T (fun vals h => ?_) ⟨_, rfl⟩ rfl rfl (by kernel_rfl)
  obtain ⟨a, rfl⟩ := zdl h; rfl
theorem ent_183 (X : (KH P).In g) (T : Top p loose mean mg mb g) : zbp g 183 2 8 b183 := by
  have S : Seen P 183 _ _ _ _ := ⟨⟨_, rfl, rfl⟩, by decide, rfl, rfl, rfl, by decide, ⟨_, _, _, rfl, rfl, rfl⟩, rfl, rfl, rfl, rfl, rfl, rfl, by decide +kernel, by decide +kernel, by decide +kernel⟩; refine zbs S X T (fun vals h => ?_) ⟨_, rfl⟩ rfl rfl (by kernel_rfl)
  obtain ⟨a, b, rfl⟩ := zdw h; rfl
theorem ent_188 (X : (KH P).In g) (T : Top p loose mean mg mb g) : zbp g 188 1 3 b188 := by
  have S : Seen P 188 _ _ _ _ := ⟨⟨_, rfl, rfl⟩, by decide, rfl, rfl, rfl, by decide, ⟨_, _, _, rfl, rfl, rfl⟩, rfl, rfl, rfl, rfl, rfl, rfl, by decide +kernel, by decide +kernel, by decide +kernel⟩; refine zbs S X T (fun vals h => ?_) ⟨_, rfl⟩ rfl rfl (by kernel_rfl)
  obtain ⟨a, rfl⟩ := zdl h; rfl
theorem ent_tbl (X : (KH P).In g) (T : Top p loose mean mg mb g) (a : Addr) (m n : Nat) (b : List PS) (h : Mine.tbl a = some (m, n, b)) : zbp g a m n b := by
  unfold Mine.tbl at h
  split at h
  · cases h; exact ent_62 X T
  · cases h; exact ent_69 X T
  · cases h; exact ent_76 X T
  · cases h; exact ent_88 X T
  · cases h; exact ent_95 X T
  · cases h; exact ent_102 X T
  · cases h; exact ent_109 X T
  · cases h; exact ent_116 X T
  · cases h; exact ent_123 X T
  · cases h; exact ent_128 X T
  · cases h; exact ent_135 X T
  · cases h; exact ent_142 X T
  · cases h; exact ent_149 X T
  · cases h; exact ent_156 X T
  · cases h; exact ent_161 X T
  · cases h; exact ent_166 X T
  · cases h; exact ent_171 X T
  · cases h; exact ent_178 X T
  · cases h; exact ent_183 X T
  · cases h; exact ent_188 X T
  · cases h
theorem tr_of {cd : Addr} {fd : FuncData} {q n f : Str} {px fp cp p' : Pos} {rest : List Stmt} (S : Seen P 50 cd fd (.Assign [.Name n px] (.Call (.Name f fp) [] [] cp) p' :: rest) q) (X : (KH P).In g) (T : Top p loose mean mg mb g) (hb : ∀ vals : List Value, vals.length = (zba fd).length → bindArgs fd ⟨vals, []⟩ = pure ((zba fd).zip vals))
    (hns : ∃ rest, zb5 fd.params fd.scope = zba fd ++ rest) (hm : (zba fd).length = 1) (hn : (zb5 fd.params fd.scope).length = 3)
    (h1 : (fnCT glT fd.params (.Assign [.Name n px] (.Call (.Name f fp) [] [] cp) p' :: rest) fd.scope).slot n = some 1) (h2 : zam f = true) (h3 : (fnCT glT fd.params (.Assign [.Name n px] (.Call (.Name f fp) [] [] cp) p' :: rest) fd.scope).glob f = some (.type "object"))
    (hc : cSs (fnCT glT fd.params (.Assign [.Name n px] (.Call (.Name f fp) [] [] cp) p' :: rest) fd.scope) rest = [.assign 2 (.call (.ref 69) [(.var 0), (.var 1), (.lit (.str [46]))]), .ret (.call (.ref 76) [(.var 2), (.var 1)])]) : TrEntry g :=
  ⟨fd, zba fd, rest, fnCT glT fd.params (.Assign [.Name n px] (.Call (.Name f fp) [] [] cp) p' :: rest) fd.scope, n, f, px, fp, cp, p', S.at X hb, hns, rfl, zer X T, hm, hn, rfl, h1, h2, h3, hc⟩
theorem ent_tr (X : (KH P).In g) (T : Top p loose mean mg mb g) : TrEntry g := by
  have S : Seen P 50 _ _ _ _ := ⟨⟨_, rfl, rfl⟩, by decide, rfl, rfl, rfl, by decide, ⟨_, _, _, rfl, rfl, rfl⟩, rfl, rfl, rfl, rfl, rfl, rfl, by decide +kernel, by decide +kernel, by decide +kernel⟩; refine tr_of S X T (fun vals h => ?_) ⟨_, rfl⟩ rfl rfl (by decide +kernel) (by decide +kernel) ?_ (by kernel_rfl)
  · obtain ⟨a, rfl⟩ := zdl h; rfl
  · kernel_rfl
theorem sl_of {cd : Addr} {fd : FuncData} {q : Str} {body : List Stmt} {nx ny ni nj nm nu ne na nI : Str} (S : Seen P 38 cd fd body q) (X : (KH P).In g) (T : Top p loose mean mg mb g) (hb : ∀ vals : List Value, vals.length = (zba fd).length → bindArgs fd ⟨vals, []⟩ = pure ((zba fd).zip vals))
    (hns : ∃ rest, zb5 fd.params fd.scope = zba fd ++ rest) (hm : (zba fd).length = 2) (hn : (zb5 fd.params fd.scope).length = 8)
    (h1 : SN (fnCT glT fd.params body fd.scope) nx ny ni nj nm nu ne na nI)
    (h2 : ∃ p1 p2 kd p3 p4 p5 p6 p7 p8 p9 p10 lp pa pb k2 p11 p12, IsLoop nx ny ni nj nm nu ne na nI lp ∧
      body = [.Assign [.Name ni p1, .Name nj p2] (.Constant (.int 0) kd p3) p4, .Assign [.Name nm p5] (.List [] p6) p7, .Assign [.Name nu p8] (.List [] p9) p10, lp, .Return (some (.Tuple [.Name nm pa, .Name nu pb] k2 p11)) p12]) : SlEntry g :=
  ⟨fd, zba fd, body, fnCT glT fd.params body fd.scope, nx, ny, ni, nj, nm, nu, ne, na, nI, S.at X hb, hns, rfl, zer X T, hm, hn, rfl, h1, h2⟩
theorem loop_of {nx ny ni nj nm nu ne na nI : Str} {a1 a2 p1 i1 w1 p2 j1 w2 i2 w3 j2 w4 x1 x2 : Stmt} {q1 q2 q3 q4 q5 q6 q7 q8 pt kd pc pI pb ph ptt pw}
    (h : IsAsg ne nx ni a1 ∧ IsAsg na ny nj a2 ∧ zel nm ne p1 ∧ zde ni i1 ∧ zcg nx ni ne w1 ∧ zel nu na p2 ∧ zde nj j1 ∧ zcg ny nj na w2 ∧
    zde ni i2 ∧ zcg nx ni ne w3 ∧ zde nj j2 ∧ zcg ny nj na w4 ∧ IsExt nm nx ni x1 ∧ IsExt nu ny nj x2) :
    IsLoop nx ny ni nj nm nu ne na nI (.While (.Constant (.bool true) kd pc) [.Try [a1, a2, .If (.Compare (.Name ne q1) [.Lt] [.Name na q2] q3) [p1, i1, w1] [.If (.Compare (.Name ne q4) [.Gt] [.Name na q5] q6) [p2, j1, w2] [i2, .Try [w3] [] [] [j2, w4] pt] q7] q8]
      [.ExceptHandler (some (.Name nI pI)) none [x1, x2, .Break pb] ph] [] [] ptt] [] pw) := ⟨_, _, _, _, _, _, _, _, _, _, _, _, _, _, _, _, _, _, _, _, _, _, _, _, _, _, _, _, _, _, rfl, h⟩
theorem ent_sl (X : (KH P).In g) (T : Top p loose mean mg mb g) : SlEntry g := by
  have S : Seen P 38 _ _ _ _ := ⟨⟨_, rfl, rfl⟩, by decide, rfl, rfl, rfl, by decide, ⟨_, _, _, rfl, rfl, rfl⟩, rfl, rfl, rfl, rfl, rfl, rfl, by decide +kernel, by decide +kernel, by decide +kernel⟩; refine sl_of (nx := "expected") (ny := "actual") (ni := "i") (nj := "j") (nm := "missing") (nu := "unexpected") (ne := "e") (na := "a") (nI := "IndexError") S X T (fun vals h => ?_) ⟨_, rfl⟩ rfl rfl ?_ ⟨_, _, _, _, _, _, _, _, _, _, _, _, _, _, _, _, _, loop_of ?_, rfl⟩
  · obtain ⟨a, b, rfl⟩ := zdw h; rfl
  · constructor <;> decide +kernel
  · exact ⟨⟨_, _, _, _, _, rfl⟩, ⟨_, _, _, _, _, rfl⟩, ⟨_, _, _, _, _, rfl, by decide +kernel⟩, ⟨_, _, _, _, rfl⟩, ⟨_, _, _, _, _, _, _, rfl⟩, ⟨_, _, _, _, _, rfl, by decide +kernel⟩, ⟨_, _, _, _, rfl⟩, ⟨_, _, _, _, _, _, _, rfl⟩, ⟨_, _, _, _, rfl⟩, ⟨_, _, _, _, _, _, _, rfl⟩, ⟨_, _, _, _, rfl⟩, ⟨_, _, _, _, _, _, _, rfl⟩, ⟨_, _, _, _, _, _, _, _, rfl, by decide +kernel⟩, ⟨_, _, _, _, _, _, _, _, rfl, by decide +kernel⟩⟩
end
end Mine
namespace Mine
open PySem PyProof.Rows PySem.Spec
section
variable {P : Params} {g : Heap} {mg mb : Str → Option Value} {p : Program} {loose : List Str} {mean : ExcName → Option Value} {prog : Program} {w : World}
theorem base_of (X : (KH P).In g) (T : Top p loose mean mg mb g) : zdq g := by
  refine ⟨T.nolimit, ?_, ?_⟩
  · obtain ⟨bm, ob, a, b, c, d, e, f⟩ := T.bmain; refine ⟨mg, bm, ob, ⟨T.g, a, b, c, d, e, f⟩, ?_⟩; have h1 : mg "__builtins__" = some (.ref 4) := PySem.W.mg_of X T.g rfl; rw [h1] at a
    cases a
    decide
  · refine ⟨_, _, _, _, X 43 _ rfl, rfl, rfl, rfl, rfl, by decide, ⟨_, X 42 _ rfl, rfl, _, rfl⟩, ?_, rfl, rfl⟩
    decide +kernel
def spOk (f : Int → Option Value) (c : Nat) : Bool := if specials.contains c then (match f (c : Int) with | some (.str t _) => t == ⟨#[92, c]⟩ | _ => false) else (f (c : Int)).isNone
def keyOk (e : DictEntry) : Bool := match e.key with | .int k _ => e.hash == hashInt k | _ => false
theorem map_to {o : Obj} {es : Array DictEntry} {ep : Nat} (X : (KH P).In g) (h1 : (KH P).lookup 52 = some o) (h2 : o.ExactDict) (h3 : o.data = .dict es ep) (h4 : es.toList.all keyOk = true) (h5 : (List.range 128).all (spOk fun k => findBy Value.isInt es k) = true) : MapOk prog w g := by
  refine ⟨fun k => findBy Value.isInt es k, ⟨o, es, ep, X _ _ h1, h2, h3, fun e he => ?_, fun k => rfl⟩, fun c hc => ?_⟩
  · have := List.all_eq_true.mp h4 e (by simpa using he); unfold keyOk at this
    split at this
    · rename_i k t hk; exact ⟨k, by rw [hk]; simp [intKind, Value.isInt], by simpa [intKind] using this⟩
    · cases this
  · have := List.all_eq_true.mp h5 c (List.mem_range.mpr hc); unfold spOk at this
    split at this
    · rename_i hs; rw [if_pos hs]
      split at this
      · rename_i t tk e; exact ⟨tk, by rw [e, beq_iff_eq.mp this]⟩
      · cases this
    · rename_i hs; rw [if_neg hs]; exact Option.isNone_iff_eq_none.mp this
theorem map_of (X : (KH P).In g) : MapOk prog w g := map_to X rfl ⟨rfl, rfl, rfl⟩ rfl (by decide +kernel) (by decide +kernel)
theorem pats_of (X : (KH P).In g) : Pats prog w g := by
  refine ⟨map_of X, ?_⟩; refine ⟨_, _, _, _, X 81 _ rfl, rfl, rfl, rfl, rfl, by decide, ⟨_, X 80 _ rfl, rfl, _, rfl⟩, ?_, rfl, rfl⟩
  decide +kernel
theorem ground_of (X : (KH P).In g) (T : Top p loose mean mg mb g) : Ground' prog w g :=
  have B := base_of X T
  ⟨B, pats_of X, ent_tbl X T, fun A fm own r Γ room hcx vs v h => sl_ok (ent_sl X T) B room hcx vs v h, fun A fm own r Γ room hcx vs v h => tr_ok (ent_tr X T) B room hcx vs v h⟩
end
end Mine
namespace Mine
open PySem PySem.W PyProof.Rows PySem.Spec
def PureLaw : Prop := ∀ ns : List Int, ns.length ≤ 63 → evF (gam 20) 0 3 b188 [.list (ns.map .int)] = some (.bool true)
theorem ints_vr {h : Heap} {O : Addr → Prop} : ∀ {vs : List Value} {ns : List Int}, IntsAre vs ns → VRs h O (ns.map .int) vs
  | _, _, .nil => rfl
  | _, _, .cons n t x => ⟨_, _, rfl, ⟨t, rfl⟩, ints_vr x⟩
theorem well_list {P : Params} {h : Heap} {a : Addr} {xs : List WData} (x : Well P h (.ref a) (.list xs)) : ∃ vs : List Value, h.get? a = some { cls := .type "list", data := .seq vs.toArray } := by
  cases x with
  | list e _ => exact ⟨_, e⟩
theorem good_end {cw : ClaimW} {cl : Str → Option Addr} {mean : ExcName → Option Value} {args : List WData} {s₁ s' : Shared} (hgens : AllBare s'.gens) (hos : s'.os = s₁.os) (hard : ∀ b o, b ≠ zao → s₁.heap.get? b = some o → s'.heap.get? b = some o)
    (hc : CodeHd s₁.heap zc1 zao) (h0 : s₁.heap.get? zao = some (tabObj #[])) (ht : TabOk s'.heap) (hr : ∀ a x, cw.raises a x = false) (hp : cw.post args (.bool true) args = true) :
    GoodWG cw cl mean args s₁ (.ok (.ret (.bool true))) s' := by
  obtain ⟨ps, ht, _⟩ := ht; refine ⟨.inl ⟨.bool true, .bool true, [], rfl, fun _ => hr _ _, .bool true, hp, fun _ => ⟨List.nodup_nil, fun _ q => nomatch q⟩⟩, ⟨fun b o e => ?_, fun b o e => ?_⟩, hos, hgens⟩
  · by_cases hb : b = zao
    · subst hb; rw [h0] at e; cases e; exact .inr (.inl ⟨(hc.tab h0).isCodeTable, rfl, #[], ps, rfl, by rw [Array.empty_append]; exact ht.2⟩)
    · exact .inl (hard b o hb e)
  · by_cases hb : b = zao
    · subst hb; exact ⟨_, ht.2⟩
    · exact ⟨o, hard b o hb e⟩
theorem tab_ok {h : Heap} (hc : CodeHd h zc1 zao) (h0 : h.get? zao = some (tabObj #[])) : TabOk h :=
  ⟨#[], hc.tab h0, hc.code h0 trivial, fun pos c q => (nomatch q)⟩
section
variable {P : Params} {g : Heap} {mg mb : Str → Option Value} {p : Program} {loose : List Str} {mean : ExcName → Option Value} {prog : Program} {w : World}
structure LawAt (g : Heap) : Prop where
  ex : ∃ fd q body c, FnAt g 188 fd [q] body ∧ (∃ rest, CT.ns c = [q] ++ rest) ∧ c.kind = fd.scope.names ∧ (∀ n v, c.gl.lookup n = some v → Glob g n v) ∧ c.ns.length = 3 ∧ cSs c body = b188 ∧ c.inT = false ∧ fd.scope.names.lookup q = some .local ∧ ∀ x ∈ fd.scope.names, x.2 ≠ .cell
theorem law_of {cd : Addr} {fd : FuncData} {q x : Str} {body : List Stmt} (S : Seen P 188 cd fd body q) (X : (KH P).In g) (T : Top p loose mean mg mb g) (hb : ∀ vals : List Value, vals.length = (zba fd).length → bindArgs fd ⟨vals, []⟩ = pure ((zba fd).zip vals))
    (hx : zba fd = [x]) (hns : ∃ rest, zb5 fd.params fd.scope = [x] ++ rest) (hn : (zb5 fd.params fd.scope).length = 3) (hc : cSs (fnCT glT fd.params body fd.scope) body = b188) (hl : fd.scope.names.lookup x = some .local) (h : ∀ x ∈ fd.scope.names, x.2 ≠ .cell) : LawAt g :=
  ⟨fd, x, body, fnCT glT fd.params body fd.scope, hx ▸ S.at X hb, hns, rfl, zer X T, hn, hc, rfl, hl, h⟩
theorem law_at (X : (KH P).In g) (T : Top p loose mean mg mb g) : LawAt g := by
  have S : Seen P 188 _ _ _ _ := ⟨⟨_, rfl, rfl⟩, by decide, rfl, rfl, rfl, by decide, ⟨_, _, _, rfl, rfl, rfl⟩, rfl, rfl, rfl, rfl, rfl, rfl, by decide +kernel, by decide +kernel, by decide +kernel⟩; refine law_of (x := "script") S X T (fun vals h => ?_) rfl ⟨_, rfl⟩ rfl (by kernel_rfl) (by decide +kernel) (by decide +kernel)
  obtain ⟨a, rfl⟩ := zdl h; rfl
theorem top_call (G : Ground' prog w g) (L : LawAt g) (hlaw : PureLaw) {s₁ : Shared} {a : Addr} {ns : List Int} (xc : XC ⟨g, [], mainGlobals⟩ (fun _ => False) s₁) (hl : VR s₁.heap (fun _ => False) (.list (ns.map .int)) (.ref a)) (hz : ns.length ≤ 63)
    {Q E} (hQ : ∀ s', Kp ⟨g, [], mainGlobals⟩ s₁ s' → Q (.bool true) s') : wpAny (model prog w) callerA (call (.ref 188) [.ref a]) Q E s₁ := by
  obtain ⟨fd, q, body, c, F, hns, hk, hg, hn, hc, hT, hq, hcell⟩ := L.ex; have room : Room callerA 21 := ⟨rfl, by decide +kernel, by decide +kernel⟩; have fr : Frs callerA ⟨g, [], mainGlobals⟩ := ⟨[], rfl, fun _ q => nomatch q⟩
  have hcx : zfc prog w callerA ⟨g, [], mainGlobals⟩ (gam 20) := fun L env he hn hk => (room.deeper env).cx (fr.deep he hn hk) G.pats (gam_ok G _ _ _ _ (room.deeper env) (fr.deep he hn hk))
  refine fn_call (hb := ⟨g, [], mainGlobals⟩) F G.base (fun e => by rw [hT] at e; cases e) (by decide +kernel) (by decide +kernel) hcx hns hk hg (args := [.list (ns.map .int)]) rfl (v := .bool true) ?_ xc (.inr ⟨⟨q, rfl, hq⟩, hcell⟩) ⟨_, _, rfl, hl, rfl⟩ fun rv s' k r => ?_
  · rw [hn, hc]; exact hlaw ns hz
  · cases r
    exact hQ s' k
theorem join (hlaw : PureLaw) : PySem.Challenge.rw_in0220_01.Holds := by
  refine hd ?_; intro w s₀ s₁ mg mb G Y fa o pm cd doc dV kV ho hd hcd hD hmg hg args vals as hpre hlay hrd hwl hlo; have KX := km_in_of Y; have KT := km_tabs_of Y; refine Ground.open G ?_; intro T B D TE TW; have hT9 : TabsAt ([(68, 64)] : List (Addr × Addr)) s₁.heap := List.forall_mem_cons.mpr ⟨⟨codeHd_of_K (c := 68) (P := 64) KX (by kernel_rfl), KT 64 (List.mem_singleton.mpr rfl)⟩, fun _ h => nomatch h⟩
  have hfa : fa = 188 := by
    have h1 : mg "law" = some (.ref 188) := mg_of KX T.g rfl; have h2 : mg "law" = some (.ref fa) := hmg; rw [h1] at h2
    cases h2; rfl
  subst hfa; clear ho hd hcd hD hmg; have X' := ghost_K hT9 KX (by kernel_rfl); have T' := ghost_top hT9 T
  wrow_args hpre hlay hrd hwl hlo
  rename_i ns hs hlay0 hL1 hr1 hl2 d4 d3 la vs d hL ra w1 r0 hI hr' hc1 hc2; have hz : ns.length ≤ 63 := by omega
  have hg3 : NFat s₁.heap mainGlobals := .ns (m := mg) (by decide) T.g; have hcd : CodeHd s₁.heap zc1 zao := (hT9 _ (List.mem_singleton.mpr rfl)).1; have h0 : s₁.heap.get? zao = some (tabObj #[]) := (hT9 _ (List.mem_singleton.mpr rfl)).2; have hard : Hard (ghostOf s₁.heap [(68, 64)]) s₁.heap := fun b o _ e => of_hideAll _ e
  have gs : GS ⟨ghostOf s₁.heap [(68, 64)], [], mainGlobals⟩ s₁ := ⟨hard, tab_ok hcd h0, .of_eq hg, fun a ha => nomatch ha⟩
  have xc : XC ⟨ghostOf s₁.heap [(68, 64)], [], mainGlobals⟩ (fun _ => False) s₁ := ⟨gs, fun a ha => ha.elim, hg3⟩
  have hvr : VR s₁.heap (fun _ => False) (.list (ns.map .int)) (.ref la) := by
    obtain ⟨vs', hw⟩ := well_list w1; obtain ⟨o, e, hcl, n, hdt⟩ := hL; rw [hw] at e; cases e; have ev : vs' = vs := by
      injection hdt with e1; exact congrArg Array.toList e1
    subst ev; refine ⟨by rw [List.length_map]; unfold small; omega, la, vs', rfl, fun q => ?_, id, ⟨_, hw⟩, ints_vr hI⟩
    rw [q] at hw; rw [h0] at hw; cases hw
  refine top_call (ground_of X' T') (law_at X' T') hlaw xc hvr hz fun s' k => ?_
  have gs' := k.gs gs; refine good_end gs'.gens k.os (fun b o hb e => gs'.hard b o hb (ghost_ne e ?_)) hcd h0 gs'.tab (fun _ _ => rfl) ?_
  · intro q; exact hb (List.mem_singleton.mp q)
  · wrow_post
end
end Mine
namespace Mine
open PySem
theorem zbj {k : Nat} {a : Addr} {vs : List PV} {m n : Nat} {b : List PS} (h1 : a ≠ 38) (h2 : a ≠ 50) (ht : tbl a = some (m, n, b)) (hm : vs.length = m) : gam (k + 1) (.ref a) vs = evF (gam k) 0 n b vs := by
  show (if a = 38 then sld vs else if a = 50 then trs (gam k) vs else match tbl a with
      | some (m, n, b) => if vs.length = m then evF (gam k) 0 n b vs else none
      | none => none) = _
  rw [if_neg h1, if_neg h2, ht]; exact if_pos hm
def fg (i : Nat) : Slot → Slot
  | .app r => if r = i then .unset else .app r
  | t => t
def zak : Slot → Slot
  | .own xs => .val (.list xs)
  | s => s
def gt (σ : zad) (j : Nat) : Option Slot := σ[j]?
def ln (σ : zad) : Nat := σ.length
def gv : Option Slot → Option PV
  | some (.val v) => some v
  | _ => none
def gp : Option Slot → Option PV
  | some (.val v) => some v
  | some (.own v) => some (.list v)
  | _ => none
theorem gE (σ : List Slot) (j : Nat) : σ[j]? = gt σ j := rfl
theorem gV (σ : zad) (j : Nat) : zaw σ j = gv (gt σ j) := rfl
theorem gP (σ : zad) (j : Nat) : zbe σ j = gp (gt σ j) := rfl
theorem zef (σ : zad) (i : Nat) (s : Slot) : zaa σ i s = (σ.map (fg i)).set i s := by
  unfold zaa; congr 1; refine List.map_congr_left fun t _ => ?_
  cases t <;> rfl
theorem gS (σ : zad) (i j : Nat) (s : Slot) : gt (zaa σ i s) j = if i = j then (if j < ln σ then some s else none) else (gt σ j).map (fg i) := by
  unfold gt ln; rw [zef, List.getElem?_set, List.length_map, List.getElem?_map]
  split <;> rename_i h
  · subst h; rfl
  · rfl
theorem lS (σ : zad) (i : Nat) (s : Slot) : ln (zaa σ i s) = ln σ := by
  unfold ln; rw [zef, List.length_set, List.length_map]
theorem lL (σ : zad) (i : Nat) (s : Slot) : ln (σ.set i s) = ln σ := by
  unfold ln; rw [List.length_set]
theorem gZ (σ : zad) (i j : Nat) : gt (frz1 σ i) j = if i = j then (gt σ j).map zak else gt σ j := by
  unfold frz1 gt
  split
  · rename_i xs e; rw [List.getElem?_set]
    split
    · rename_i h; subst h; rw [if_pos (List.getElem?_eq_some_iff.mp e).1, e]; rfl
    · rfl
  · rename_i hn
    split
    · rename_i h; subst h
      cases e : σ[i]? with
      | none => rfl
      | some s => cases s with
        | own xs => exact absurd e (hn xs)
        | _ => rfl
    · rfl
theorem sZ (σ : zad) (i : Nat) (s : Slot) : zaa (frz1 σ i) i s = zaa σ i s := by
  unfold frz1
  split
  · rw [zef, zef, List.map_set, List.set_set]
  · rfl
theorem gA (σ : zad) (j : Nat) : gt (frzA σ) j = (gt σ j).map zak := by
  unfold frzA gt; rw [List.getElem?_map]; congr 1
theorem gL (σ : zad) (i j : Nat) (s : Slot) : gt (σ.set i s) j = if i = j then (if j < ln σ then some s else none) else gt σ j := by
  unfold gt ln; rw [List.getElem?_set]
  split
  · rename_i h; subst h; rfl
  · rfl
structure TI (t : List Nat) (a : Addr) (res : List PV) (i n : Int) (σ : zad) : Prop where
  z : ln σ = 13
  s0 : gt σ 0 = some (.val (.str t))
  s1 : gt σ 1 = some (.val (.ob a))
  s2 : gt σ 2 = some (.val (.str [46]))
  s3 : gt σ 3 = some (.own res)
  s4 : gt σ 4 = some (.app 3)
  s5 : gt σ 5 = some (.val (.int i))
  s6 : gt σ 6 = some (.val (.int n))
theorem zci {Γ : Gam} {A : Addr} {l2 : List PS} {σ' : zad} : ∀ {l1 : List PS} {σ : zad}, zac Γ A l1 σ = some (.next, σ') → zac Γ A (l1 ++ l2) σ = zac Γ A l2 σ'
  | [], σ, h => by simp only [zac, Option.some.injEq, Prod.mk.injEq, true_and] at h; rw [h]; rfl
  | s :: r, σ, h => by
    rw [List.cons_append, zac]; rw [zac] at h
    split at h
    · cases h
    · rename_i σ1 e; exact zci h
    · rename_i hn; exact absurd h (hn σ')
theorem zai {Γ : Gam} {A : Addr} {s : PS} {r : List PS} {σ σ' : zad} (h : evS Γ A s σ = some (.next, σ')) : zac Γ A (s :: r) σ = zac Γ A r σ' := by
  rw [zac, h]
theorem zdx {c : zad → Option Bool} {b : zad → Option (Fl × zad)} {n : Nat} {σ : zad} (h : c σ = some false) : zcz c b (n + 1) σ = some (.next, σ) := by
  rw [zcz, h]
theorem wl_go {c : zad → Option Bool} {b : zad → Option (Fl × zad)} {n : Nat} {σ σ' : zad} (h : c σ = some true) (hb : b σ = some (.next, σ')) : zcz c b (n + 1) σ = zcz c b n σ' := by
  rw [zcz, h, hb]
theorem wl_brk {c : zad → Option Bool} {b : zad → Option (Fl × zad)} {n : Nat} {σ σ' : zad} (h : c σ = some true) (hb : b σ = some (.brk, σ')) : zcz c b (n + 1) σ = some (.next, σ') := by
  rw [zcz, h, hb]
section
variable {Γ : Gam} {t : List Nat} {a : Addr} {res : List PV} {i n : Int} {σ : zad} {c : Nat}
theorem u_lit {e : List Nat} (F0 : zan (.str t) (.int i) = some (.str [c])) (c1 : c ≠ 42) (c2 : c ≠ 63) (c3 : c ≠ 91) (hz : res.length < small) (he : Γ (.ref 62) [.str [c]] = some (.str e)) (I : TI t a res i n σ) :
    ∃ σ', zac Γ 0 tb σ = some (.next, σ') ∧ TI t a (res ++ [.str e]) (i + 1) n σ' := by
  obtain ⟨z, s0, s1, s2, s3, s4, s5, s6⟩ := I; have h : zac Γ 0 tb σ = some (.next, (zaa (zaa σ 7 (.val (.str [c]))) 5 (.val (.int (i + 1)))).set 3 (.own (res ++ [.str e]))) := by
    simp [tb, zac, evS, evE, zag, zah, fin, asB, gV, gP, gE, gv, gp, gZ, gA, gS, gL, lS, lL, sZ, fg, zak, truthy, zae, eqo, zaj, zaf, *]
  refine ⟨_, h, ?_⟩
  constructor <;> simp [gS, gL, lS, lL, fg, *]
theorem u_q (F0 : zan (.str t) (.int i) = some (.str [63])) (hz : res.length < small) (I : TI t a res i n σ) :
    ∃ σ', zac Γ 0 tb σ = some (.next, σ') ∧ TI t a (res ++ [.str [46]]) (i + 1) n σ' := by
  obtain ⟨z, s0, s1, s2, s3, s4, s5, s6⟩ := I; have h : zac Γ 0 tb σ = some (.next, (zaa (zaa σ 7 (.val (.str [63]))) 5 (.val (.int (i + 1)))).set 3 (.own (res ++ [.str [46]]))) := by
    simp [tb, zac, evS, evE, zag, zah, fin, asB, gV, gP, gE, gv, gp, gZ, gA, gS, gL, lS, lL, sZ, fg, zak, truthy, zae, eqo, zaj, zaf, *]
  refine ⟨_, h, ?_⟩
  constructor <;> simp [gS, gL, lS, lL, fg, *]
theorem u_star (F0 : zan (.str t) (.int i) = some (.str [42])) (hz : res.length < small) (hr : res = [] ∨ ∃ x, zan (.list res) (.int (-1)) = some (.str x)) (I : TI t a res i n σ) :
    ∃ σ', zac Γ 0 tb σ = some (.next, σ') ∧ TI t a (res ++ [.ob a]) (i + 1) n σ' := by
  obtain ⟨z, s0, s1, s2, s3, s4, s5, s6⟩ := I; have h : zac Γ 0 tb σ = some (.next, (zaa (zaa σ 7 (.val (.str [42]))) 5 (.val (.int (i + 1)))).set 3 (.own (res ++ [.ob a]))) := by
    rcases hr with rfl | ⟨x, hr⟩
    · simp [tb, zac, evS, evE, zag, zah, fin, asB, gV, gP, gE, gv, gp, gZ, gA, gS, gL, lS, lL, sZ, fg, zak, truthy, zae, eqo, zaj, zaf, small, *]
    · by_cases hn : res = []
      · subst hn; simp [tb, zac, evS, evE, zag, zah, fin, asB, gV, gP, gE, gv, gp, gZ, gA, gS, gL, lS, lL, sZ, fg, zak, truthy, zae, eqo, zaj, zaf, small, *]
      · simp [tb, zac, evS, evE, zag, zah, fin, asB, gV, gP, gE, gv, gp, gZ, gA, gS, gL, lS, lL, sZ, fg, zak, truthy, zae, eqo, zaj, zaf, *]
  refine ⟨_, h, ?_⟩
  constructor <;> simp [gS, gL, lS, lL, fg, *]
theorem c_one {c : Nat} (F1 : zan (.str t) (.int (i + 1)) = some (.str [c])) (F2 : zan (.str t) (.int (i + 1 + 1)) = some (.str [93])) (c1 : c ≠ 33) (c2 : c ≠ 93) (hn : i + 1 + 1 < n) (I : TI t a res (i + 1) n σ) :
    ∃ σ', zac Γ 0 tC σ = zac Γ 0 (tE1 ++ tE2) σ' ∧ TI t a res (i + 1) n σ' ∧ gt σ' 8 = some (.val (.int (i + 1 + 1))) := by
  obtain ⟨z, s0, s1, s2, s3, s4, s5, s6⟩ := I; have hn' : i + 1 < n := by omega
  have h1 : zac Γ 0 tCi σ = some (.next, zaa σ 8 (.val (.int (i + 1)))) := by
    simp [tCi, zac, evS, evE, zag, zah, fin, asB, gV, gP, gE, gv, gp, gZ, gA, gS, gL, lS, lL, sZ, fg, zak, truthy, zae, eqo, zaj, zaf, *]
  have h2 : evS Γ 0 (.whl tCw tCb) (zaa σ 8 (.val (.int (i + 1)))) = some (.next, zaa (zaa σ 8 (.val (.int (i + 1)))) 8 (.val (.int (i + 1 + 1)))) := by
    rw [evS]; refine (wl_go (n := 99999) ?_ ?_).trans (zdx (n := 99998) ?_)
    · simp [tCw, zac, evS, evE, zag, zah, fin, asB, gV, gP, gE, gv, gp, gZ, gA, gS, gL, lS, lL, sZ, fg, zak, truthy, zae, eqo, zaj, zaf, *]
    · simp [tCb, zac, evS, evE, zag, zah, fin, asB, gV, gP, gE, gv, gp, gZ, gA, gS, gL, lS, lL, sZ, fg, zak, truthy, zae, eqo, zaj, zaf, *]
    · simp [tCw, zac, evS, evE, zag, zah, fin, asB, gV, gP, gE, gv, gp, gZ, gA, gS, gL, lS, lL, sZ, fg, zak, truthy, zae, eqo, zaj, zaf, *]
  rw [tC, zci h1, zai h2]; refine ⟨zaa (zaa σ 8 (.val (.int (i + 1)))) 8 (.val (.int (i + 1 + 1))), ?_, ?_, ?_⟩
  · have hge : ¬ n ≤ i + 1 + 1 := by omega
    rw [zac, evS]; have : asB (evE Γ (.cmp .GtE (.var 8) (.var 6)) .test (zaa (zaa σ 8 (.val (.int (i + 1)))) 8 (.val (.int (i + 1 + 1))))) = some false := by
      simp [zac, evS, evE, zag, zah, fin, asB, gV, gP, gE, gv, gp, gZ, gA, gS, gL, lS, lL, sZ, fg, zak, truthy, zae, eqo, zaj, zaf, *]
    rw [this]; dsimp only; generalize zac Γ 0 (tE1 ++ tE2) _ = x
    match x with
    | none => rfl
    | some (.next, σ) => rfl
    | some (.brk, σ) => rfl
    | some (.cont, σ) => rfl
    | some (.ret _, σ) => rfl
  · constructor <;> simp [gS, gL, lS, lL, fg, *]
  · simp [gS, gL, lS, lL, fg, *]
theorem c_neg {p : Nat} (F1 : zan (.str t) (.int (i + 1)) = some (.str [33])) (F2 : zan (.str t) (.int (i + 1 + 1)) = some (.str [p])) (F3 : zan (.str t) (.int (i + 1 + 1 + 1)) = some (.str [93])) (hn : i + 1 + 1 + 1 < n) (I : TI t a res (i + 1) n σ) :
    ∃ σ', zac Γ 0 tC σ = zac Γ 0 (tE1 ++ tE2) σ' ∧ TI t a res (i + 1) n σ' ∧ gt σ' 8 = some (.val (.int (i + 1 + 1 + 1))) := by
  obtain ⟨z, s0, s1, s2, s3, s4, s5, s6⟩ := I; have hn1 : i + 1 < n := by omega
  have hn2 : i + 1 + 1 < n := by omega
  have key : ∃ σ1, zac Γ 0 tCi σ = some (.next, σ1) ∧ ∃ σ2, evS Γ 0 (.whl tCw tCb) σ1 = some (.next, σ2) ∧ TI t a res (i + 1) n σ2 ∧ gt σ2 8 = some (.val (.int (i + 1 + 1 + 1))) := by
    by_cases hp : p = 93
    · subst hp; have h1 : zac Γ 0 tCi σ = some (.next, zaa (zaa (zaa σ 8 (.val (.int (i + 1)))) 8 (.val (.int (i + 1 + 1)))) 8 (.val (.int (i + 1 + 1 + 1)))) := by
        simp [tCi, zac, evS, evE, zag, zah, fin, asB, gV, gP, gE, gv, gp, gZ, gA, gS, gL, lS, lL, sZ, fg, zak, truthy, zae, eqo, zaj, zaf, *]
      refine ⟨_, h1, _, by
        rw [evS]; refine zdx (n := 99999) ?_; simp [tCw, zac, evS, evE, zag, zah, fin, asB, gV, gP, gE, gv, gp, gZ, gA, gS, gL, lS, lL, sZ, fg, zak, truthy, zae, eqo, zaj, zaf, *], ?_, ?_⟩
      · constructor <;> simp [gS, gL, lS, lL, fg, *]
      · simp [gS, gL, lS, lL, fg, *]
    · have h1 : zac Γ 0 tCi σ = some (.next, zaa (zaa σ 8 (.val (.int (i + 1)))) 8 (.val (.int (i + 1 + 1)))) := by
        simp [tCi, zac, evS, evE, zag, zah, fin, asB, gV, gP, gE, gv, gp, gZ, gA, gS, gL, lS, lL, sZ, fg, zak, truthy, zae, eqo, zaj, zaf, *]
      have h2 : evS Γ 0 (.whl tCw tCb) (zaa (zaa σ 8 (.val (.int (i + 1)))) 8 (.val (.int (i + 1 + 1)))) = some (.next, zaa (zaa (zaa σ 8 (.val (.int (i + 1)))) 8 (.val (.int (i + 1 + 1)))) 8 (.val (.int (i + 1 + 1 + 1)))) := by
        rw [evS]; refine (wl_go (n := 99999) ?_ ?_).trans (zdx (n := 99998) ?_)
        · simp [tCw, zac, evS, evE, zag, zah, fin, asB, gV, gP, gE, gv, gp, gZ, gA, gS, gL, lS, lL, sZ, fg, zak, truthy, zae, eqo, zaj, zaf, *]
        · simp [tCb, zac, evS, evE, zag, zah, fin, asB, gV, gP, gE, gv, gp, gZ, gA, gS, gL, lS, lL, sZ, fg, zak, truthy, zae, eqo, zaj, zaf, *]
        · simp [tCw, zac, evS, evE, zag, zah, fin, asB, gV, gP, gE, gv, gp, gZ, gA, gS, gL, lS, lL, sZ, fg, zak, truthy, zae, eqo, zaj, zaf, *]
      refine ⟨_, h1, _, h2, ?_, ?_⟩
      · constructor <;> simp [gS, gL, lS, lL, fg, *]
      · simp [gS, gL, lS, lL, fg, *]
  obtain ⟨σ1, h1, σ2, h2, I2, h8⟩ := key; rw [tC, zci h1, zai h2]; refine ⟨σ2, ?_, I2, h8⟩; obtain ⟨z, s0, s1, s2, s3, s4, s5, s6⟩ := I2; have hge : ¬ n ≤ i + 1 + 1 + 1 := by omega
  rw [zac, evS]; have : asB (evE Γ (.cmp .GtE (.var 8) (.var 6)) .test σ2) = some false := by
    simp [zac, evS, evE, zag, zah, fin, asB, gV, gP, gE, gv, gp, gZ, gA, gS, gL, lS, lL, sZ, fg, zak, truthy, zae, eqo, zaj, zaf, *]
  rw [this]; dsimp only; generalize zac Γ 0 (tE1 ++ tE2) _ = x
  match x with
  | none => rfl
  | some (.next, σ) => rfl
  | some (.brk, σ) => rfl
  | some (.cont, σ) => rfl
  | some (.ret _, σ) => rfl
theorem e1_plain {e : Int} {w w' : List Nat} (I : TI t a res i n σ) (s8 : gt σ 8 = some (.val (.int e))) (hs : zas (.str t) (.int i) (.int e) = some (.str w)) (hd : 45 ∉ w) (hl : w.length ≤ 65536) (hr : zbu 92 [92, 92] w = w') (hl' : w'.length ≤ small) :
    ∃ σ', zac Γ 0 (tE1 ++ tE2) σ = zac Γ 0 tE2 σ' ∧ TI t a res i n σ' ∧ gt σ' 8 = some (.val (.int e)) ∧ gt σ' 9 = some (.val (.str w')) := by
  obtain ⟨z, s0, s1, s2, s3, s4, s5, s6⟩ := I; have h1 : zac Γ 0 tE1 σ = some (.next, zaa (zaa σ 9 (.val (.str w))) 9 (.val (.str w'))) := by
    simp [tE1, zac, evS, evE, zag, zah, fin, asB, gV, gP, gE, gv, gp, gZ, gA, gS, gL, lS, lL, sZ, fg, zak, truthy, zae, eqo, zaj, zaf, *]
  refine ⟨_, zci h1, ?_, ?_, ?_⟩
  · constructor <;> simp [gS, gL, lS, lL, fg, *]
  · simp [gS, gL, lS, lL, fg, *]
  · simp [gS, gL, lS, lL, fg, *]
theorem e1_dash {e : Int} (I : TI t a res i n σ) (s8 : gt σ 8 = some (.val (.int e))) (hs : zas (.str t) (.int i) (.int e) = some (.str [33, 45])) (F1 : zan (.str t) (.int i) = some (.str [33])) (hf : za3 "find" (.str t) [.str [45], .int (i + 2), .int e] = some (.int (-1))) :
    ∃ σ', zac Γ 0 (tE1 ++ tE2) σ = zac Γ 0 tE2 σ' ∧ TI t a res i n σ' ∧ gt σ' 8 = some (.val (.int e)) ∧ gt σ' 9 = some (.val (.str [33, 92, 45])) := by
  obtain ⟨z, s0, s1, s2, s3, s4, s5, s6⟩ := I; have h0 : zac Γ 0 tE1 σ = zac Γ 0 [.ite (.cmp .NotIn (.lit (.str [45])) (.var 9)) [.assign 9 (.repl (.var 9) 92 [92, 92])] tD] (zaa σ 9 (.val (.str [33, 45]))) := by
    refine zai ?_; simp [zac, evS, evE, zag, zah, fin, asB, gV, gP, gE, gv, gp, gZ, gA, gS, gL, lS, lL, sZ, fg, zak, truthy, zae, eqo, zaj, zaf, *]
  have hD1 : zac Γ 0 tD1 (zaa σ 9 (.val (.str [33, 45]))) = some (.next, zaa (zaa (zaa σ 9 (.val (.str [33, 45]))) 10 (.own [])) 11 (.val (.int (i + 2)))) := by
    simp [tD1, zac, evS, evE, zag, zah, fin, asB, gV, gP, gE, gv, gp, gZ, gA, gS, gL, lS, lL, sZ, fg, zak, truthy, zae, eqo, zaj, zaf, *]
  have hD2 : evS Γ 0 (.whl (.lit (.bool true)) tD2) (zaa (zaa (zaa σ 9 (.val (.str [33, 45]))) 10 (.own [])) 11 (.val (.int (i + 2)))) = some (.next, zaa (zaa (zaa (zaa σ 9 (.val (.str [33, 45]))) 10 (.own [])) 11 (.val (.int (i + 2)))) 11 (.val (.int (-1)))) := by
    rw [evS]; refine wl_brk (n := 99999) ?_ ?_
    · simp [zac, evS, evE, zag, zah, fin, asB, gV, gP, gE, gv, gp, gZ, gA, gS, gL, lS, lL, sZ, fg, zak, truthy, zae, eqo, zaj, zaf]
    · simp [tD2, zac, evS, evE, zag, zah, fin, asB, gV, gP, gE, gv, gp, gZ, gA, gS, gL, lS, lL, sZ, fg, zak, truthy, zae, eqo, zaj, zaf, *]
  have hD3 : ∃ σ', zac Γ 0 tD3 (zaa (zaa (zaa (zaa σ 9 (.val (.str [33, 45]))) 10 (.own [])) 11 (.val (.int (i + 2)))) 11 (.val (.int (-1)))) = some (.next, σ') ∧ TI t a res i n σ' ∧ gt σ' 8 = some (.val (.int e)) ∧ gt σ' 9 = some (.val (.str [33, 92, 45])) := by
    refine ⟨zaa ((zaa (zaa (zaa (zaa (zaa σ 9 (.val (.str [33, 45]))) 10 (.own [])) 11 (.val (.int (i + 2)))) 11 (.val (.int (-1)))) 12 (.val (.str [33, 45]))).set 10 (.own [.str [33, 45]])) 9 (.val (.str [33, 92, 45])), ?_, ?_, ?_, ?_⟩
    · simp [tD3, zac, evS, evE, zag, zah, fin, asB, gV, gP, gE, gv, gp, gZ, gA, gS, gL, lS, lL, sZ, fg, zak, truthy, zae, eqo, zaj, zaf, zb3, small, *]
    · constructor <;> simp [gS, gL, lS, lL, fg, *]
    · simp [gS, gL, lS, lL, fg, *]
    · simp [gS, gL, lS, lL, fg, *]
  obtain ⟨σ', h3, I', g8, g9⟩ := hD3; have h1 : zac Γ 0 tE1 σ = some (.next, σ') := by
    rw [h0, zac, evS]; have : asB (evE Γ (.cmp .NotIn (.lit (.str [45])) (.var 9)) .test (zaa σ 9 (.val (.str [33, 45])))) = some false := by
      simp [zac, evS, evE, zag, zah, fin, asB, gV, gP, gE, gv, gp, gZ, gA, gS, gL, lS, lL, sZ, fg, zak, truthy, zae, eqo, zaj, zaf, *]
    rw [this]; dsimp only; rw [tD, zci hD1, zai hD2, h3]; rfl
  exact ⟨σ', zci h1, I', g8, g9⟩
theorem e2_neg {e : Int} {w m : List Nat} (I : TI t a res i n σ) (s8 : gt σ 8 = some (.val (.int e))) (s9 : gt σ 9 = some (.val (.str w))) (hw : w ∈ zdn ∨ w ∈ zc6) (hr : zdb w = 33 :: m) (hm : m ≠ []) (hml : m.length ≤ 60) (hz : res.length < small) :
    ∃ σ', zac Γ 0 tE2 σ = some (.next, σ') ∧ TI t a (res ++ [.str (91 :: 94 :: (m ++ [93]))]) (e + 1) n σ' := by
  obtain ⟨z, s0, s1, s2, s3, s4, s5, s6⟩ := I; have f1 : zan (.str (33 :: m)) (.int 0) = some (.str [33]) := by simp [zan, za8]
  have f2 : zas (.str (33 :: m)) (.int 1) .nul = some (.str m) := by simp [zas, zbw, zaz, cut]
  have f3 : 1 + m.length ≤ small := by unfold small; omega
  have f4 : m.length + 1 + 1 + 1 ≤ small := by unfold small; omega
  have f5 : zap [] [[91], 94 :: m, [93]] = 91 :: 94 :: (m ++ [93]) := by simp [zap]
  refine ⟨(zaa (zaa (zaa σ 9 (.val (.str (33 :: m)))) 5 (.val (.int (e + 1)))) 9 (.val (.str (94 :: m)))).set 3 (.own (res ++ [.str (91 :: 94 :: (m ++ [93]))])), ?_, ?_⟩
  · simp [tE2, zac, evS, evE, zag, zah, fin, asB, gV, gP, gE, gv, gp, gZ, gA, gS, gL, lS, lL, sZ, fg, zak, truthy, zae, eqo, zaj, zaf, zb6?, *]
  · constructor <;> simp [gS, gL, lS, lL, fg, *]
theorem e2_one {e : Int} {c : Nat} (I : TI t a res i n σ) (s8 : gt σ 8 = some (.val (.int e))) (s9 : gt σ 9 = some (.val (.str [c]))) (hc : c = 42 ∨ c = 63 ∨ c = 91) (hz : res.length < small) :
    ∃ σ', zac Γ 0 tE2 σ = some (.next, σ') ∧ TI t a (res ++ [.str (91 :: ((if c = 91 then [92, 91] else [c]) ++ [93]))]) (e + 1) n σ' := by
  obtain ⟨z, s0, s1, s2, s3, s4, s5, s6⟩ := I; have hz' : res.length < 1048576 := hz; rcases hc with rfl | rfl | rfl
  · refine ⟨(zaa (zaa σ 9 (.val (.str [42]))) 5 (.val (.int (e + 1)))).set 3 (.own (res ++ [.str [91, 42, 93]])), ?_, ?_⟩
    · have h1 : zbz (.str [42]) [.str [94], .str [91]] = some false := by decide +kernel
      simp [tE2, zac, evS, evE, zag, zah, fin, asB, gV, gP, gE, gv, gp, gZ, gA, gS, gL, lS, lL, sZ, fg, zak, truthy, zae, eqo, zaj, zaf, zb6?, zdb, zdn, zc6, zan, za8, zap, small, *]
    · constructor <;> simp [gS, gL, lS, lL, fg, *]
  · refine ⟨(zaa (zaa σ 9 (.val (.str [63]))) 5 (.val (.int (e + 1)))).set 3 (.own (res ++ [.str [91, 63, 93]])), ?_, ?_⟩
    · have h1 : zbz (.str [63]) [.str [94], .str [91]] = some false := by decide +kernel
      simp [tE2, zac, evS, evE, zag, zah, fin, asB, gV, gP, gE, gv, gp, gZ, gA, gS, gL, lS, lL, sZ, fg, zak, truthy, zae, eqo, zaj, zaf, zb6?, zdb, zdn, zc6, zan, za8, zap, small, *]
    · constructor <;> simp [gS, gL, lS, lL, fg, *]
  · refine ⟨(zaa (zaa (zaa σ 9 (.val (.str [91]))) 5 (.val (.int (e + 1)))) 9 (.val (.str [92, 91]))).set 3 (.own (res ++ [.str [91, 92, 91, 93]])), ?_, ?_⟩
    · have h1 : zbz (.str [91]) [.str [94], .str [91]] = some true := by decide +kernel
      simp [tE2, zac, evS, evE, zag, zah, fin, asB, gV, gP, gE, gv, gp, gZ, gA, gS, gL, lS, lL, sZ, fg, zak, truthy, zae, eqo, zaj, zaf, zb6?, zdb, zdn, zc6, zan, za8, zap, small, *]
    · constructor <;> simp [gS, gL, lS, lL, fg, *]
theorem tb_brk (F0 : zan (.str t) (.int i) = some (.str [91])) (I : TI t a res i n σ) :
    ∃ σ', zac Γ 0 tb σ = zac Γ 0 tC σ' ∧ TI t a res (i + 1) n σ' := by
  obtain ⟨z, s0, s1, s2, s3, s4, s5, s6⟩ := I; refine ⟨zaa (zaa σ 7 (.val (.str [91]))) 5 (.val (.int (i + 1))), ?_, ?_⟩
  · have e1 : evS Γ 0 (.assign 7 (.idx (.var 0) (.var 5))) σ = some (.next, zaa σ 7 (.val (.str [91]))) := by simp [zac, evS, evE, zag, zah, fin, asB, gV, gP, gE, gv, gp, gZ, gA, gS, gL, lS, lL, sZ, fg, zak, truthy, zae, eqo, zaj, zaf, *]
    have e2 : evS Γ 0 (.assign 5 (.bin .Add (.var 5) (.lit (.int 1)))) (zaa σ 7 (.val (.str [91]))) = some (.next, zaa (zaa σ 7 (.val (.str [91]))) 5 (.val (.int (i + 1)))) := by simp [zac, evS, evE, zag, zah, fin, asB, gV, gP, gE, gv, gp, gZ, gA, gS, gL, lS, lL, sZ, fg, zak, truthy, zae, eqo, zaj, zaf, *]
    rw [tb, zai e1, zai e2]; generalize hσ : zaa (zaa σ 7 (.val (.str [91]))) 5 (.val (.int (i + 1))) = σ2; have g7 : gt σ2 7 = some (.val (.str [91])) := by rw [← hσ]; simp [gS, gL, lS, lL, fg, z]
    have c1 : asB (evE Γ (.cmp .Eq (.var 7) (.lit (.str [42]))) .test σ2) = some false := by simp [zac, evS, evE, zag, zah, fin, asB, gV, gP, gE, gv, gp, gZ, gA, gS, gL, lS, lL, sZ, fg, zak, truthy, zae, eqo, zaj, zaf, *]
    have c2 : asB (evE Γ (.cmp .Eq (.var 7) (.lit (.str [63]))) .test σ2) = some false := by simp [zac, evS, evE, zag, zah, fin, asB, gV, gP, gE, gv, gp, gZ, gA, gS, gL, lS, lL, sZ, fg, zak, truthy, zae, eqo, zaj, zaf, *]
    have c3 : asB (evE Γ (.cmp .Eq (.var 7) (.lit (.str [91]))) .test σ2) = some true := by simp [zac, evS, evE, zag, zah, fin, asB, gV, gP, gE, gv, gp, gZ, gA, gS, gL, lS, lL, sZ, fg, zak, truthy, zae, eqo, zaj, zaf, *]
    rw [zac, evS, c1]; dsimp only; rw [zac, evS, c2]; dsimp only; rw [zac, evS, c3]; dsimp only; generalize zac Γ 0 tC σ2 = x
    match x with
    | none => rfl
    | some (.next, σ) => rfl
    | some (.brk, σ) => rfl
    | some (.cont, σ) => rfl
    | some (.ret _, σ) => rfl
  · constructor <;> simp [gS, gL, lS, lL, fg, *]
theorem u_brk {c : Nat} (hc : c = 42 ∨ c = 63 ∨ c = 91) (F0 : zan (.str t) (.int i) = some (.str [91])) (F1 : zan (.str t) (.int (i + 1)) = some (.str [c])) (F2 : zan (.str t) (.int (i + 1 + 1)) = some (.str [93])) (hn : i + 1 + 1 < n)
    (hs : zas (.str t) (.int (i + 1)) (.int (i + 1 + 1)) = some (.str [c])) (hz : res.length < small) (I : TI t a res i n σ) :
    ∃ σ', zac Γ 0 tb σ = some (.next, σ') ∧ TI t a (res ++ [.str (91 :: ((if c = 91 then [92, 91] else [c]) ++ [93]))]) (i + 3) n σ' := by
  obtain ⟨σ1, e1, I1⟩ := tb_brk (Γ := Γ) F0 I; obtain ⟨σ2, e2, I2, g8⟩ := c_one (Γ := Γ) F1 F2 (by omega) (by omega) hn I1; obtain ⟨σ3, e3, I3, g8', g9⟩ := e1_plain (Γ := Γ) I2 g8 hs (by simp; omega) (by simp) (w' := [c]) (by rcases hc with rfl | rfl | rfl <;> rfl) (by simp [small])
  obtain ⟨σ4, e4, I4⟩ := e2_one (Γ := Γ) I3 g8' g9 hc hz; refine ⟨σ4, by rw [e1, e2, e3, e4], ?_⟩; have : i + 1 + 1 + 1 = i + 3 := by omega
  rw [this] at I4; exact I4
def negT (p : Nat) : List Nat := if p = 92 ∨ p = 45 ∨ p = 38 ∨ p = 126 ∨ p = 124 then [92, p] else [p]
def zby : List Nat := [97, 98, 42, 63, 91, 93, 33, 45, 94, 92, 38, 126, 124, 32, 36, 43]
theorem u_neg {p : Nat} (hp : p ∈ zby) (F0 : zan (.str t) (.int i) = some (.str [91])) (F1 : zan (.str t) (.int (i + 1)) = some (.str [33])) (F2 : zan (.str t) (.int (i + 1 + 1)) = some (.str [p])) (F3 : zan (.str t) (.int (i + 1 + 1 + 1)) = some (.str [93])) (hn : i + 1 + 1 + 1 < n)
    (hs : zas (.str t) (.int (i + 1)) (.int (i + 1 + 1 + 1)) = some (.str [33, p])) (hf : za3 "find" (.str t) [.str [45], .int (i + 1 + 2), .int (i + 1 + 1 + 1)] = some (.int (-1))) (hz : res.length < small) (I : TI t a res i n σ) :
    ∃ σ', zac Γ 0 tb σ = some (.next, σ') ∧ TI t a (res ++ [.str (91 :: 94 :: (negT p ++ [93]))]) (i + 4) n σ' := by
  obtain ⟨σ1, e1, I1⟩ := tb_brk (Γ := Γ) F0 I; obtain ⟨σ2, e2, I2, g8⟩ := c_neg (Γ := Γ) F1 F2 F3 hn I1; have fin4 : i + 1 + 1 + 1 + 1 = i + 4 := by omega
  by_cases h45 : p = 45
  · subst h45; obtain ⟨σ3, e3, I3, g8', g9⟩ := e1_dash (Γ := Γ) I2 g8 hs F1 hf; obtain ⟨σ4, e4, I4⟩ := e2_neg (Γ := Γ) (m := [92, 45]) I3 g8' g9 (.inl (by simp [zdn])) (by simp [zdb]) (by simp) (by simp) hz; rw [fin4] at I4; exact ⟨σ4, by rw [e1, e2, e3, e4], I4⟩
  · obtain ⟨σ3, e3, I3, g8', g9⟩ := e1_plain (Γ := Γ) I2 g8 hs (by simp; omega) (by simp) (w' := zbu 92 [92, 92] [33, p]) rfl (by simp [zbu, small]; split <;> simp)
    have hfin : (zbu 92 [92, 92] [33, p] ∈ zdn ∨ zbu 92 [92, 92] [33, p] ∈ zc6) ∧ zdb (zbu 92 [92, 92] [33, p]) = 33 :: negT p := by
      have : ∀ p ∈ zby, p ≠ 45 → (zbu 92 [92, 92] [33, p] ∈ zdn ∨ zbu 92 [92, 92] [33, p] ∈ zc6) ∧ zdb (zbu 92 [92, 92] [33, p]) = 33 :: negT p := by decide +kernel
      exact this p hp h45
    obtain ⟨σ4, e4, I4⟩ := e2_neg (Γ := Γ) (m := negT p) I3 g8' g9 hfin.1 hfin.2 (by unfold negT; split <;> simp) (by unfold negT; split <;> simp) hz
    rw [fin4] at I4; exact ⟨σ4, by rw [e1, e2, e3, e4], I4⟩
end
end Mine
namespace Mine
open PySem
theorem zfj {t : List Nat} {j c : Nat} {x : Int} (h : t[j]? = some c) (hx : x = (j : Int)) : zan (.str t) (.int x) = some (.str [c]) := by
  subst hx; have hj : j < t.length := (List.getElem?_eq_some_iff.mp h).1; have : za8 t.length (j : Int) = some j := by
    unfold za8; rw [if_pos (by omega), if_pos (by omega)]; simp
  unfold zan; dsimp only; rw [this]; dsimp only; rw [h]; rfl
theorem idx_last {xs : List PV} {v : PV} : zan (.list (xs ++ [v])) (.int (-1)) = some v := by
  have : za8 (xs ++ [v]).length (-1) = some xs.length := by
    unfold za8; rw [if_neg (by omega), if_pos (by simp; omega)]; simp; omega
  unfold zan; dsimp only; rw [this]; simp
theorem slc_nat {t w : List Nat} {j k : Nat} {x y : Int} (hx : x = (j : Int)) (hy : y = (k : Int)) (hj : j ≤ t.length) (hk : k ≤ t.length) (h : cut t j k = w) : zas (.str t) (.int x) (.int y) = some (.str w) := by
  subst hx hy h; have e : ∀ m : Nat, m ≤ t.length → zaz t.length (m : Int) = m := fun m hm => by
    unfold zaz; rw [if_neg (by omega)]; simp; omega
  simp only [zas, zbw, e j hj, e k hk]
theorem cut_app {pre r : List Nat} {j k : Nat} : cut (pre ++ r) (pre.length + j) (pre.length + k) = cut r j k := by
  unfold cut; rw [List.take_length_add_append, List.drop_length_add_append]
theorem get_app {pre r : List Nat} {j : Nat} : (pre ++ r)[pre.length + j]? = r[j]? := by
  rw [List.getElem?_append_right (by omega)]; congr 1; omega
theorem find_none {t : List Nat} {x y : Int} (h0 : 0 ≤ x) (h1 : x = y) (h2 : y ≤ (t.length : Int)) : za3 "find" (.str t) [.str [45], .int x, .int y] = some (.int (-1)) := by
  subst h1; have e : za3 "find" (.str t) [.str [45], .int x, .int x] = if 45 < 128 ∧ 0 ≤ x ∧ x = x ∧ x ≤ (t.length : Int) then some (.int (-1)) else none := rfl; rw [e, if_pos ⟨by decide, h0, rfl, h2⟩]
inductive U where
  | lit (c : Nat) | brk (c : Nat) | q | neg (p : Nat) | star
def okU : U → Prop
  | .lit c => c < 128 ∧ c ≠ 42 ∧ c ≠ 63 ∧ c ≠ 91
  | .brk c => c = 42 ∨ c = 63 ∨ c = 91
  | .neg p => p ∈ zby
  | _ => True
def txt : U → List Nat
  | .lit c => [c] | .brk c => [91, c, 93] | .q => [63] | .neg p => [91, 33, p, 93] | .star => [42]
def rgx : U → List Nat
  | .lit c => escC c | .brk c => 91 :: ((if c = 91 then [92, 91] else [c]) ++ [93]) | .q => [46] | .neg p => 91 :: 94 :: (negT p ++ [93]) | .star => [46, 42]
def prt (a : Addr) : U → PV
  | .star => .ob a
  | u => .str (rgx u)
def zcm : Bool → List U → Bool
  | _, [] => true
  | b, .star :: r => !b && zcm true r
  | _, _ :: r => zcm false r
def za2 : U → Bool
  | .star => true
  | _ => false
section
variable {Γ : Gam} {t pre post : List Nat} {a : Addr} {res : List PV} {σ : zad}
theorem unit_step {u : U} (hu : okU u) (ht : t = pre ++ (txt u ++ post)) (hstar : za2 u = true → res = [] ∨ ∃ x, zan (.list res) (.int (-1)) = some (.str x)) (hz : res.length < small)
    (he : ∀ c, c < 128 → Γ (.ref 62) [.str [c]] = some (.str (escC c))) (I : TI t a res (pre.length : Int) (t.length : Int) σ) :
    ∃ σ', zac Γ 0 tb σ = some (.next, σ') ∧ TI t a (res ++ [prt a u]) ((pre ++ txt u).length : Int) (t.length : Int) σ' := by
  have at0 : ∀ j c, (txt u ++ post)[j]? = some c → ∀ x : Int, x = ((pre.length + j : Nat) : Int) → zan (.str t) (.int x) = some (.str [c]) := fun j c h x hx =>
    zfj (j := pre.length + j) (by rw [ht, get_app]; exact h) hx
  have hlen : t.length = pre.length + ((txt u).length + post.length) := by rw [ht]; simp
  have sl : ∀ j k w, cut (txt u ++ post) j k = w → j ≤ (txt u).length → k ≤ (txt u).length → ∀ x y : Int, x = ((pre.length + j : Nat) : Int) → y = ((pre.length + k : Nat) : Int) → zas (.str t) (.int x) (.int y) = some (.str w) := fun j k w h hj hk x y hx hy =>
    slc_nat hx hy (by omega) (by omega) (by rw [ht, cut_app]; exact h)
  cases u with
  | lit c =>
    obtain ⟨h1, h2, h3, h4⟩ := hu
    obtain ⟨σ', e, I'⟩ := u_lit (Γ := Γ) (at0 0 c rfl _ (by simp)) h2 h3 h4 hz (he c h1) I
    refine ⟨σ', e, ?_⟩
    simpa [txt, prt, rgx] using I'
  | q =>
    obtain ⟨σ', e, I'⟩ := u_q (Γ := Γ) (at0 0 63 rfl _ (by simp)) hz I
    refine ⟨σ', e, ?_⟩
    simpa [txt, prt, rgx] using I'
  | star =>
    obtain ⟨σ', e, I'⟩ := u_star (Γ := Γ) (at0 0 42 rfl _ (by simp)) hz (hstar rfl) I
    refine ⟨σ', e, ?_⟩
    simpa [txt, prt, rgx] using I'
  | brk c =>
    obtain ⟨σ', e, I'⟩ := u_brk (Γ := Γ) (c := c) hu (at0 0 91 rfl _ (by simp)) (at0 1 c rfl _ (by simp)) (at0 2 93 rfl _ (by simp; omega)) (by simp [txt] at hlen; omega) (sl 1 2 [c] rfl (by simp [txt]) (by simp [txt]) _ _ (by simp) (by simp; omega)) hz I
    refine ⟨σ', e, ?_⟩
    simpa [txt, prt, rgx] using I'
  | neg p =>
    obtain ⟨σ', e, I'⟩ := u_neg (Γ := Γ) (p := p) hu (at0 0 91 rfl _ (by simp)) (at0 1 33 rfl _ (by simp)) (at0 2 p rfl _ (by simp; omega)) (at0 3 93 rfl _ (by simp; omega)) (by simp [txt] at hlen; omega) (sl 1 3 [33, p] rfl (by simp [txt]) (by simp [txt]) _ _ (by simp) (by simp; omega))
      (find_none (by omega) (by omega) (by simp [txt] at hlen; omega)) hz I
    refine ⟨σ', e, ?_⟩
    simpa [txt, prt, rgx] using I'
theorem tc_ev {i n : Int} (I : TI t a res i n σ) : asB (evE Γ tc .test σ) = some (decide (i < n)) := by
  obtain ⟨z, s0, s1, s2, s3, s4, s5, s6⟩ := I; simp [tc, zac, evS, evE, zag, zah, fin, asB, gV, gP, gE, gv, gp, gZ, gA, gS, gL, lS, lL, sZ, fg, zak, truthy, zae, eqo, zaj, zaf, *]
theorem txt_pos (u : U) : 0 < (txt u).length := by cases u <;> simp [txt]
theorem units_run (he : ∀ c, c < 128 → Γ (.ref 62) [.str [c]] = some (.str (escC c))) : ∀ (us : List U) (pre : List Nat) (res : List PV) (σ : zad) (b : Bool) (m : Nat), (∀ u ∈ us, okU u) → zcm b us = true → (b = false → res = [] ∨ ∃ x, zan (.list res) (.int (-1)) = some (.str x)) →
    t = pre ++ us.flatMap txt → res.length + us.length ≤ small → TI t a res (pre.length : Int) (t.length : Int) σ →
    ∃ σ', zcz (fun σ => asB (evE Γ tc .test σ)) (zac Γ 0 tb) (us.length + 1 + m) σ = some (.next, σ') ∧ TI t a (res ++ us.map (prt a)) (t.length : Int) (t.length : Int) σ'
  | [], pre, res, σ, b, m, _, _, _, ht, _, I => by
    have hl : pre.length = t.length := by rw [ht]; simp
    rw [hl] at I; refine ⟨σ, ?_, by simpa using I⟩; rw [show ([] : List U).length + 1 + m = m + 1 by simp; omega]; exact zdx ((tc_ev I).trans (by simp))
  | u :: us, pre, res, σ, b, m, hok, hst, hb, ht, hz, I => by
    have hu : okU u := hok u (List.mem_cons_self ..); have ht' : t = pre ++ (txt u ++ us.flatMap txt) := by rw [ht]; simp
    obtain ⟨σ1, e1, I1⟩ := unit_step (Γ := Γ) hu ht' (fun q => hb (by cases u <;> simp [za2] at q; simp [zcm] at hst; exact hst.1)) (by simp at hz; omega) he I
    have hst' : zcm (za2 u) us = true := by cases u <;> simp [zcm] at hst <;> first | exact hst | exact hst.2
    obtain ⟨σ2, e2, I2⟩ := units_run he us (pre ++ txt u) (res ++ [prt a u]) σ1 (za2 u) m (fun v hv => hok v (List.mem_cons_of_mem _ hv)) hst'
      (fun q => .inr (by cases u <;> first | exact ⟨_, idx_last⟩ | cases q)) (by rw [ht', List.append_assoc]) (by simp at hz ⊢; omega) I1
    refine ⟨σ2, ?_, by simpa using I2⟩; have hp := txt_pos u; have hlt : (pre.length : Int) < (t.length : Int) := by rw [ht']; simp; omega
    have hc : asB (evE Γ tc .test σ) = some true := (tc_ev I).trans (by simp [hlt]); rw [show (u :: us).length + 1 + m = (us.length + 1 + m) + 1 by simp; omega, wl_go hc e1]; exact e2
theorem g62 {k c : Nat} (h : c < 128) : gam (k + 1) (.ref 62) [.str [c]] = some (.str (escC c)) := by
  rw [zbj (by decide) (by decide) (by rfl) rfl]; have e : za3 "translate" (.str [c]) [.fn (.ref 52)] = if c < 128 then some (.str (escC c)) else none := rfl; rw [if_pos h] at e; simp [evF, b62, zac, evS, evE, zag, fin, asB, zaw, zbe, zb3, truthy, frzA, e]
theorem g69 {k : Nat} {us : List U} (hok : ∀ u ∈ us, okU u) (hst : zcm false us = true) (hl : us.length ≤ 64) :
    gam (k + 2) (.ref 69) [.str (us.flatMap txt), .ob a, .str [46]] = some (.list (us.map (prt a))) := by
  rw [zbj (by decide) (by decide) (by rfl) rfl]; generalize ht : us.flatMap txt = t; unfold evF; rw [b69]; generalize hσ : (List.map Slot.val [PV.str t, PV.ob a, PV.str [46]] ++ List.replicate (13 - [PV.str t, PV.ob a, PV.str [46]].length) Slot.unset) = σ0; have e1 : evS (gam (k + 1)) 0 (.own 3) σ0 = some (.next, zaa σ0 3 (.own [])) := rfl; have z : ln σ0 = 13 := by rw [← hσ]; rfl
  have s0 : gt σ0 0 = some (.val (.str t)) := by rw [← hσ]; rfl
  have s1 : gt σ0 1 = some (.val (.ob a)) := by rw [← hσ]; rfl
  have s2 : gt σ0 2 = some (.val (.str [46])) := by rw [← hσ]; rfl
  clear hσ; have e2 : evS (gam (k + 1)) 0 (.app 4 3) (zaa σ0 3 (.own [])) = some (.next, zaa (zaa σ0 3 (.own [])) 4 (.app 3)) := by simp [zac, evS, evE, zag, zah, fin, asB, gV, gP, gE, gv, gp, gZ, gA, gS, gL, lS, lL, sZ, fg, zak, truthy, zae, eqo, zaj, zaf, *]
  have e3 : evS (gam (k + 1)) 0 (.tup2 5 6 (.lit (.int 0)) (.len (.var 0))) (zaa (zaa σ0 3 (.own [])) 4 (.app 3)) = some (.next, zaa (zaa (zaa (zaa σ0 3 (.own [])) 4 (.app 3)) 5 (.val (.int 0))) 6 (.val (.int (t.length : Int)))) := by simp [zac, evS, evE, zag, zah, fin, asB, gV, gP, gE, gv, gp, gZ, gA, gS, gL, lS, lL, sZ, fg, zak, truthy, zae, eqo, zaj, zaf, zb3, *]
  have I : TI t a [] (([] : List Nat).length : Int) (t.length : Int) (zaa (zaa (zaa (zaa σ0 3 (.own [])) 4 (.app 3)) 5 (.val (.int 0))) 6 (.val (.int (t.length : Int)))) := by
    constructor <;> simp [gS, gL, lS, lL, fg, *]
  obtain ⟨σ', e4, I'⟩ := units_run (Γ := gam (k + 1)) (fun c hc => g62 hc) us [] [] _ false (zb9 - (us.length + 1)) hok hst (fun _ => .inl rfl) (by rw [← ht]; rfl) (by unfold small; simp; omega) I
  rw [show us.length + 1 + (zb9 - (us.length + 1)) = zb9 by unfold zb9; omega] at e4; have e4' : evS (gam (k + 1)) 0 (.whl tc tb) (zaa (zaa (zaa (zaa σ0 3 (.own [])) 4 (.app 3)) 5 (.val (.int 0))) 6 (.val (.int (t.length : Int)))) = some (.next, σ') := by rw [evS]; exact e4
  rw [zai e1, zai e2, zai e3, zai e4']; obtain ⟨z, s0, s1, s2, s3, s4, s5, s6⟩ := I'; simp [zac, evS, evE, zag, zah, fin, asB, gV, gP, gE, gv, gp, gZ, gA, gS, gL, lS, lL, sZ, fg, zak, truthy, zae, eqo, zaj, zaf, *]
end
end Mine
namespace Mine
open PySem
structure JI (ps : List PV) (a : Addr) (res : List PV) (i n : Int) (σ : zad) : Prop where
  z : ln σ = 7
  s0 : gt σ 0 = some (.val (.list ps))
  s1 : gt σ 1 = some (.val (.ob a))
  s2 : gt σ 2 = some (.own res)
  s3 : gt σ 3 = some (.app 2)
  s4 : gt σ 4 = some (.val (.int i))
  s5 : gt σ 5 = some (.val (.int n))
theorem zdp {t : List PV} {j : Nat} {c : PV} {x : Int} (h : t[j]? = some c) (hx : x = (j : Int)) : zan (.list t) (.int x) = some c := by
  subst hx; have hj : j < t.length := (List.getElem?_eq_some_iff.mp h).1; have : za8 t.length (j : Int) = some j := by
    unfold za8; rw [if_pos (by omega), if_pos (by omega)]; simp
  unfold zan; dsimp only; rw [this]; dsimp only; rw [h]
theorem strsP (xs : List (List Nat)) : zb6? (xs.map .str) = some xs := by
  induction xs with
  | nil => rfl
  | cons x r ih => simp [zb6?, ih]
theorem ze0 (xs : List (List Nat)) : zap [] xs = xs.flatten := by
  induction xs with
  | nil => rfl
  | cons x r ih => cases r with
    | nil => simp [zap]
    | cons y r => rw [zap, ih]; simp; intro h; cases h
theorem zdz {α : Type} {pre r : List α} {j : Nat} : (pre ++ r)[pre.length + j]? = r[j]? := by
  rw [List.getElem?_append_right (by omega)]; congr 1; omega
section
variable {Γ : Gam} {ps pre post : List PV} {a : Addr} {res : List PV} {σ : zad}
theorem jc_go {i n : Int} {x : List Nat} (I : JI ps a res i n σ) (h : i < n) (hx : zan (.list ps) (.int i) = some (.str x)) : asB (evE Γ jc .test σ) = some true := by
  obtain ⟨z, s0, s1, s2, s3, s4, s5⟩ := I; simp [jc, zac, evS, evE, zag, zah, fin, asB, gV, gP, gE, gv, gp, gZ, gA, gS, gL, lS, lL, sZ, fg, zak, truthy, zae, eqo, zaj, zaf, *]
theorem jc_end {i n : Int} (I : JI ps a res i n σ) (h : ¬ i < n) : asB (evE Γ jc .test σ) = some false := by
  obtain ⟨z, s0, s1, s2, s3, s4, s5⟩ := I; simp [jc, zac, evS, evE, zag, zah, fin, asB, gV, gP, gE, gv, gp, gZ, gA, gS, gL, lS, lL, sZ, fg, zak, truthy, zae, eqo, zaj, zaf, *]
theorem jc_star {i n : Int} (I : JI ps a res i n σ) (h : i < n) (hx : zan (.list ps) (.int i) = some (.ob a)) : asB (evE Γ jc .test σ) = some false := by
  obtain ⟨z, s0, s1, s2, s3, s4, s5⟩ := I; simp [jc, zac, evS, evE, zag, zah, fin, asB, gV, gP, gE, gv, gp, gZ, gA, gS, gL, lS, lL, sZ, fg, zak, truthy, zae, eqo, zaj, zaf, *]
theorem jc_stop {i n : Int} {j : Nat} (hi : i = (j : Int)) (hn : n = (ps.length : Int)) (hp : ps = pre ++ post) (hj : pre.length = j) (hs : post = [] ∨ ∃ r, post = .ob a :: r) (I : JI ps a res i n σ) : asB (evE Γ jc .test σ) = some false := by
  rcases hs with rfl | ⟨r, rfl⟩
  · exact jc_end I (by rw [hi, hn, hp]; simp; omega)
  · refine jc_star I (by rw [hi, hn, hp]; simp; omega) (zdp (j := j) ?_ hi); rw [hp, ← hj]; exact zdz (j := 0)
theorem seg1 (hs : post = [] ∨ ∃ r, post = .ob a :: r) : ∀ (xs : List (List Nat)) (pre res : List PV) (σ : zad) (m : Nat), ps = pre ++ (xs.map .str ++ post) → res.length + xs.length ≤ small → JI ps a res (pre.length : Int) (ps.length : Int) σ →
    ∃ σ', zcz (fun σ => asB (evE Γ jc .test σ)) (zac Γ 0 j1) (xs.length + 1 + m) σ = some (.next, σ') ∧ JI ps a (res ++ xs.map .str) ((pre.length + xs.length : Nat) : Int) (ps.length : Int) σ'
  | [], pre, res, σ, m, hp, hz, I => by
    refine ⟨σ, ?_, by simpa using I⟩; rw [show ([] : List (List Nat)).length + 1 + m = m + 1 by simp; omega]; exact zdx (jc_stop (j := pre.length) rfl rfl (by simpa using hp) rfl hs I)
  | x :: xs, pre, res, σ, m, hp, hz, I => by
    have hx : zan (.list ps) (.int (pre.length : Int)) = some (.str x) := zdp (j := pre.length) (by rw [hp]; exact zdz (j := 0)) rfl; have hlt : (pre.length : Int) < (ps.length : Int) := by rw [hp]; simp; omega
    have hb : ∃ σ1, zac Γ 0 j1 σ = some (.next, σ1) ∧ JI ps a (res ++ [.str x]) (((pre ++ [PV.str x]).length : Nat) : Int) (ps.length : Int) σ1 := by
      have hz' : res.length < small := by simp at hz; omega
      obtain ⟨z, s0, s1, s2, s3, s4, s5⟩ := I; refine ⟨zaa (σ.set 2 (.own (res ++ [.str x]))) 4 (.val (.int ((pre.length : Int) + 1))), ?_, ?_⟩
      · clear hlt hp; simp [j1, zac, evS, evE, zag, zah, fin, asB, gV, gP, gE, gv, gp, gZ, gA, gS, gL, lS, lL, sZ, fg, zak, truthy, zae, eqo, zaj, zaf, *]
      · clear hlt hp
        constructor <;> simp [gS, gL, lS, lL, fg, *]
    obtain ⟨σ1, e1, I1⟩ := hb; obtain ⟨σ2, e2, I2⟩ := seg1 hs xs (pre ++ [.str x]) (res ++ [.str x]) σ1 m (by rw [hp]; simp) (by simp at hz ⊢; omega) I1; refine ⟨σ2, ?_, ?_⟩
    · rw [show (x :: xs).length + 1 + m = (xs.length + 1 + m) + 1 by simp; omega, wl_go (jc_go I hlt hx) e1]; exact e2
    · have : (((pre ++ [PV.str x]).length + xs.length : Nat) : Int) = ((pre.length + (x :: xs).length : Nat) : Int) := by simp; omega
      rw [this] at I2; simpa using I2
theorem seg2 (hs : post = [] ∨ ∃ r, post = .ob a :: r) : ∀ (xs : List (List Nat)) (pre fx : List PV) (σ : zad) (m : Nat), ps = pre ++ (xs.map .str ++ post) → fx.length + xs.length ≤ small → JI ps a res (pre.length : Int) (ps.length : Int) σ → gt σ 6 = some (.own fx) →
    ∃ σ', zcz (fun σ => asB (evE Γ jc .test σ)) (zac Γ 0 j2) (xs.length + 1 + m) σ = some (.next, σ') ∧ JI ps a res ((pre.length + xs.length : Nat) : Int) (ps.length : Int) σ' ∧ gt σ' 6 = some (.own (fx ++ xs.map .str))
  | [], pre, fx, σ, m, hp, hz, I, h6 => by
    refine ⟨σ, ?_, by simpa using I, by simpa using h6⟩; rw [show ([] : List (List Nat)).length + 1 + m = m + 1 by simp; omega]; exact zdx (jc_stop (j := pre.length) rfl rfl (by simpa using hp) rfl hs I)
  | x :: xs, pre, fx, σ, m, hp, hz, I, h6 => by
    have hx : zan (.list ps) (.int (pre.length : Int)) = some (.str x) := zdp (j := pre.length) (by rw [hp]; exact zdz (j := 0)) rfl; have hlt : (pre.length : Int) < (ps.length : Int) := by rw [hp]; simp; omega
    have hb : ∃ σ1, zac Γ 0 j2 σ = some (.next, σ1) ∧ JI ps a res (((pre ++ [PV.str x]).length : Nat) : Int) (ps.length : Int) σ1 ∧ gt σ1 6 = some (.own (fx ++ [.str x])) := by
      have hz' : fx.length < small := by simp at hz; omega
      obtain ⟨z, s0, s1, s2, s3, s4, s5⟩ := I; refine ⟨zaa (σ.set 6 (.own (fx ++ [.str x]))) 4 (.val (.int ((pre.length : Int) + 1))), ?_, ?_, ?_⟩
      · clear hlt hp; simp [j2, zac, evS, evE, zag, zah, fin, asB, gV, gP, gE, gv, gp, gZ, gA, gS, gL, lS, lL, sZ, fg, zak, truthy, zae, eqo, zaj, zaf, *]
      · clear hlt hp
        constructor <;> simp [gS, gL, lS, lL, fg, *]
      · clear hlt hp; simp [gS, gL, lS, lL, fg, *]
    obtain ⟨σ1, e1, I1, h61⟩ := hb; obtain ⟨σ2, e2, I2, h62⟩ := seg2 hs xs (pre ++ [.str x]) (fx ++ [.str x]) σ1 m (by rw [hp]; simp) (by simp at hz ⊢; omega) I1 h61; refine ⟨σ2, ?_, ?_, by simpa using h62⟩
    · rw [show (x :: xs).length + 1 + m = (xs.length + 1 + m) + 1 by simp; omega, wl_go (jc_go I hlt hx) e1]; exact e2
    · have : (((pre ++ [PV.str x]).length + xs.length : Nat) : Int) = ((pre.length + (x :: xs).length : Nat) : Int) := by simp; omega
      rw [this] at I2; simpa using I2
theorem zd4 {s : List Nat} {xs : List PV} {l : List (List Nat)} (h : zb6? xs = some l) (hz : (zap s l).length ≤ small) : za3 "join" (.str s) [.list xs] = some (.str (zap s l)) := by
  have e : za3 "join" (.str s) [.list xs] = match zb6? xs with
      | some l => if (zap s l).length ≤ small then some (.str (zap s l)) else none
      | none => none := rfl
  rw [e, h]; exact if_pos hz
theorem jend_ev {i : Int} {xs : List (List Nat)} (I : JI ps a (xs.map .str) i i σ) (hz : xs.flatten.length + 100 ≤ small) : ∃ σ', zac Γ 0 jend σ = some (.ret (.str ([40, 63, 115, 58] ++ xs.flatten ++ [41, 92, 90])), σ') := by
  obtain ⟨z, s0, s1, s2, s3, s4, s5⟩ := I; have hm : za3 "join" (.str []) [.list (xs.map .str)] = some (.str xs.flatten) := by
    rw [zd4 (strsP xs) (by rw [ze0]; omega), ze0]
  have hl : xs.flatten.length + 3 + 1 + 1 + 1 + 1 ≤ small := by omega
  generalize xs.flatten = y at *; refine ⟨?_, ?_⟩
  rotate_left
  · simp [jend, zac, evS, evE, zag, zah, fin, asB, gV, gP, gE, gv, gp, gZ, gA, gS, gL, lS, lL, sZ, fg, zak, truthy, zae, eqo, zaj, zaf, zb6?, zap, hm, z, s0, s1, s2, s3, s4, s5, hl]; rfl
theorem jo_last {pre : List PV} {res : List PV} (hp : ps = pre ++ [.ob a]) (hz : res.length < small) (I : JI ps a res (pre.length : Int) (ps.length : Int) σ) :
    ∃ σ', zac Γ 0 jo σ = some (.brk, σ') ∧ JI ps a (res ++ [.str [46, 42]]) (ps.length : Int) (ps.length : Int) σ' := by
  have hx : zan (.list ps) (.int (pre.length : Int)) = some (.ob a) := zdp (j := pre.length) (by rw [hp]; exact zdz (j := 0)) rfl; have hl : (ps.length : Int) = (pre.length : Int) + 1 := by rw [hp]; simp
  rw [hl] at I ⊢; obtain ⟨z, s0, s1, s2, s3, s4, s5⟩ := I; have e1 : zac Γ 0 jo1 σ = some (.next, zaa σ 4 (.val (.int ((pre.length : Int) + 1)))) := by
    clear hp hl; simp [jo1, zac, evS, evE, zag, zah, fin, asB, gV, gP, gE, gv, gp, gZ, gA, gS, gL, lS, lL, sZ, fg, zak, truthy, zae, eqo, zaj, zaf, *]
  refine ⟨(zaa σ 4 (.val (.int ((pre.length : Int) + 1)))).set 2 (.own (res ++ [.str [46, 42]])), ?_, ?_⟩
  · rw [jo, zci e1]; have e2 : evS Γ 0 jif (zaa σ 4 (.val (.int ((pre.length : Int) + 1)))) = some (.brk, (zaa σ 4 (.val (.int ((pre.length : Int) + 1)))).set 2 (.own (res ++ [.str [46, 42]]))) := by
      clear hp hl; simp [jif, zac, evS, evE, zag, zah, fin, asB, gV, gP, gE, gv, gp, gZ, gA, gS, gL, lS, lL, sZ, fg, zak, truthy, zae, eqo, zaj, zaf, *]
    rw [zac, e2]
  · clear hp hl
    constructor <;> simp [gS, gL, lS, lL, fg, *]
theorem jo_mid {pre : List PV} {res : List PV} {xs : List (List Nat)} (hx0 : xs ≠ []) (hp : ps = pre ++ (.ob a :: xs.map .str)) (hz : res.length + 2 < small) (hxl : xs.length ≤ 64) (hfl : xs.flatten.length ≤ small) (I : JI ps a res (pre.length : Int) (ps.length : Int) σ) :
    ∃ σ', zac Γ 0 jo σ = some (.next, σ') ∧ JI ps a (res ++ [.str [46, 42], .str xs.flatten]) (ps.length : Int) (ps.length : Int) σ' := by
  have hx : zan (.list ps) (.int (pre.length : Int)) = some (.ob a) := zdp (j := pre.length) (by rw [hp]; exact zdz (j := 0)) rfl; obtain ⟨x, r, rfl⟩ : ∃ x r, xs = x :: r := by cases xs with | nil => exact absurd rfl hx0 | cons x r => exact ⟨x, r, rfl⟩
  have hx1 : zan (.list ps) (.int ((pre.length : Int) + 1)) = some (.str x) := zdp (j := pre.length + 1) (by rw [hp]; exact zdz (j := 1)) (by simp); have hl : (ps.length : Int) = (pre.length : Int) + 1 + ((x :: r).length : Int) := by rw [hp]; simp; omega
  have hne : ¬ ((pre.length : Int) + 1 = (ps.length : Int)) := by rw [hl]; simp; omega
  have e1 : zac Γ 0 jo1 σ = some (.next, zaa σ 4 (.val (.int ((pre.length : Int) + 1)))) := by
    obtain ⟨z, s0, s1, s2, s3, s4, s5⟩ := I; clear hp hl; simp [jo1, zac, evS, evE, zag, zah, fin, asB, gV, gP, gE, gv, gp, gZ, gA, gS, gL, lS, lL, sZ, fg, zak, truthy, zae, eqo, zaj, zaf, *]
  have I1 : JI ps a res ((pre.length : Int) + 1) (ps.length : Int) (zaa σ 4 (.val (.int ((pre.length : Int) + 1)))) := by
    obtain ⟨z, s0, s1, s2, s3, s4, s5⟩ := I; clear hp hl
    constructor <;> simp [gS, gL, lS, lL, fg, *]
  generalize zaa σ 4 (.val (.int ((pre.length : Int) + 1))) = σ1 at *; have e2 : evS Γ 0 jif σ1 = some (.next, σ1) := by
    obtain ⟨z, s0, s1, s2, s3, s4, s5⟩ := I1; clear hp hl e1 I; simp [jif, zac, evS, evE, zag, zah, fin, asB, gV, gP, gE, gv, gp, gZ, gA, gS, gL, lS, lL, sZ, fg, zak, truthy, zae, eqo, zaj, zaf, *]
  have e3 : zac Γ 0 jo2 σ1 = some (.next, zaa σ1 6 (.own [])) := by
    obtain ⟨z, s0, s1, s2, s3, s4, s5⟩ := I1; clear hp hl e1 I e2; simp [jo2, zac, evS, evE, zag, zah, fin, asB, gV, gP, gE, gv, gp, gZ, gA, gS, gL, lS, lL, sZ, fg, zak, truthy, zae, eqo, zaj, zaf, *]
  have I2 : JI ps a res (((pre ++ [PV.ob a]).length : Nat) : Int) (ps.length : Int) (zaa σ1 6 (.own [])) := by
    obtain ⟨z, s0, s1, s2, s3, s4, s5⟩ := I1; clear hp hl e1 I e2 e3
    constructor <;> simp [gS, gL, lS, lL, fg, *]
  have g6 : gt (zaa σ1 6 (.own [])) 6 = some (.own []) := by
    obtain ⟨z, s0, s1, s2, s3, s4, s5⟩ := I1; simp [gS, gL, lS, lL, fg, z]
  generalize zaa σ1 6 (.own []) = σ2 at *; obtain ⟨σ3, e4, I3, g63⟩ := seg2 (Γ := Γ) (post := []) (.inl rfl) (x :: r) (pre ++ [.ob a]) [] σ2 (zb9 - ((x :: r).length + 1)) (by rw [hp]; simp) (by simp at hxl ⊢; unfold small; omega) I2 g6; rw [show (x :: r).length + 1 + (zb9 - ((x :: r).length + 1)) = zb9 by unfold zb9; simp at hxl ⊢; omega] at e4; have hl2 : (((pre ++ [PV.ob a]).length + (x :: r).length : Nat) : Int) = (ps.length : Int) := by rw [hl]; simp
  rw [hl2] at I3; have e5 : ∃ σ4, zac Γ 0 jo3 σ3 = some (.next, σ4) ∧ JI ps a (res ++ [.str [46, 42], .str (x :: r).flatten]) (ps.length : Int) (ps.length : Int) σ4 := by
    obtain ⟨z, s0, s1, s2, s3, s4, s5⟩ := I3; have hm : za3 "join" (.str []) [.list ((x :: r).map .str)] = some (.str (x :: r).flatten) := by
      rw [zd4 (strsP _) (by rw [ze0]; omega), ze0]
    have hz1 : res.length < small := by omega
    have hz2 : res.length + 1 < small := by omega
    rw [List.nil_append] at g63; generalize (x :: r).flatten = y at *; generalize (x :: r).map PV.str = ys at *; refine ⟨((zaa σ3 6 (.val (.str y))).set 2 (.own (res ++ [.str [46, 42]]))).set 2 (.own (res ++ [.str [46, 42], .str y])), ?_, ?_⟩
    · simp [jo3, zac, evS, evE, zag, zah, fin, asB, gV, gP, gE, gv, gp, gZ, gA, gS, gL, lS, lL, sZ, fg, zak, truthy, zae, eqo, zaj, zaf, z, s0, s1, s2, s3, s4, s5, hm, g63, hz1, hz2]
    · constructor <;> simp [gS, gL, lS, lL, fg, z, s0, s1, s2, s3, s4, s5]
  obtain ⟨σ4, e5, I4⟩ := e5; refine ⟨σ4, ?_, I4⟩; rw [jo, zci e1, zai e2, zci e3, zai (by rw [evS]; exact e4), e5]
theorem jl_ev {i n : Int} (I : JI ps a res i n σ) : asB (evE Γ (.cmp .Lt (.var 4) (.var 5)) .test σ) = some (decide (i < n)) := by
  obtain ⟨z, s0, s1, s2, s3, s4, s5⟩ := I; simp [zac, evS, evE, zag, zah, fin, asB, gV, gP, gE, gv, gp, gZ, gA, gS, gL, lS, lL, sZ, fg, zak, truthy, zae, eqo, zaj, zaf, *]
theorem zbo {A : Addr} {n : Nat} {b : List PS} {args : List PV} {v : PV} {σ' : zad} (h : zac Γ A b (args.map Mine.Slot.val ++ List.replicate (n - args.length) .unset) = some (.ret v, σ')) : evF Γ A n b args = some v := by
  unfold evF; rw [h]
theorem g76 {k : Nat} {fs ls : List (List Nat)} {st : Bool} (hst : st = false → ls = []) (hf : fs.length ≤ 64) (hl : ls.length ≤ 64) (hfl : fs.flatten.length ≤ 1000) (hll : ls.flatten.length ≤ 1000) :
    gam (k + 1) (.ref 76) [.list (fs.map .str ++ ((if st then [.ob a] else []) ++ ls.map .str)), .ob a] = some (.str ([40, 63, 115, 58] ++ (fs.flatten ++ ((if st then [46, 42] else []) ++ ls.flatten)) ++ [41, 92, 90])) := by
  rw [zbj (by decide) (by decide) (by rfl) rfl]; generalize hps : fs.map PV.str ++ ((if st then [PV.ob a] else []) ++ ls.map PV.str) = ps; have key : ∃ σ', zac (gam k) 0 b76 ([PV.list ps, .ob a].map Mine.Slot.val ++ List.replicate (7 - [PV.list ps, .ob a].length) .unset) = some (.ret (.str ([40, 63, 115, 58] ++ (fs.flatten ++ ((if st then [46, 42] else []) ++ ls.flatten)) ++ [41, 92, 90])), σ') := by
    generalize hσ : ([PV.list ps, .ob a].map Mine.Slot.val ++ List.replicate (7 - [PV.list ps, .ob a].length) .unset : zad) = σ0; have e1 : evS (gam k) 0 (.own 2) σ0 = some (.next, zaa σ0 2 (.own [])) := rfl; have z : ln σ0 = 7 := by rw [← hσ]; rfl
    have s0 : gt σ0 0 = some (.val (.list ps)) := by rw [← hσ]; rfl
    have s1 : gt σ0 1 = some (.val (.ob a)) := by rw [← hσ]; rfl
    clear hσ; have e2 : evS (gam k) 0 (.app 3 2) (zaa σ0 2 (.own [])) = some (.next, zaa (zaa σ0 2 (.own [])) 3 (.app 2)) := by simp [zac, evS, evE, zag, zah, fin, asB, gV, gP, gE, gv, gp, gZ, gA, gS, gL, lS, lL, sZ, fg, zak, truthy, zae, eqo, zaj, zaf, z]
    have e3 : evS (gam k) 0 (.tup2 4 5 (.lit (.int 0)) (.len (.var 0))) (zaa (zaa σ0 2 (.own [])) 3 (.app 2)) = some (.next, zaa (zaa (zaa (zaa σ0 2 (.own [])) 3 (.app 2)) 4 (.val (.int 0))) 5 (.val (.int (ps.length : Int)))) := by simp [zac, evS, evE, zag, zah, fin, asB, gV, gP, gE, gv, gp, gZ, gA, gS, gL, lS, lL, sZ, fg, zak, truthy, zae, eqo, zaj, zaf, zb3, z, s0, s1]
    have I : JI ps a [] (([] : List PV).length : Int) (ps.length : Int) (zaa (zaa (zaa (zaa σ0 2 (.own [])) 3 (.app 2)) 4 (.val (.int 0))) 5 (.val (.int (ps.length : Int)))) := by
      constructor <;> simp [gS, gL, lS, lL, fg, z, s0, s1]
    obtain ⟨σ1, e4, I1⟩ := seg1 (Γ := gam k) (post := (if st then [PV.ob a] else []) ++ ls.map PV.str) (by
        cases st with
        | true => exact .inr ⟨_, rfl⟩
        | false => rw [hst rfl]; exact .inl rfl) fs [] [] _ (zb9 - (fs.length + 1)) (by rw [← hps]; rfl) (by unfold small; simp; omega) I
    rw [show fs.length + 1 + (zb9 - (fs.length + 1)) = zb9 by unfold zb9; omega] at e4; rw [b76, List.cons_append, zai e1, List.cons_append, zai e2, List.cons_append, zai e3, List.cons_append, zai (σ' := σ1) (by rw [evS]; exact e4)]; rw [List.nil_append] at I1
    cases st with
    | false =>
      have hl0 := hst rfl
      subst hl0
      have hpl : ps.length = fs.length := by rw [← hps]; simp
      have I2 : JI ps a (fs.map .str) (ps.length : Int) (ps.length : Int) σ1 := by
        rw [show (([] : List PV).length + fs.length : Nat) = ps.length by rw [hpl]; simp] at I1; exact I1
      rw [List.cons_append, zai (σ' := σ1) (by
        rw [evS]
        exact zdx (n := 99999) ((jl_ev I2).trans (by simp)))]
      obtain ⟨σ2, e5⟩ := jend_ev (Γ := gam k) I2 (by unfold small; omega)
      exact ⟨σ2, by rw [List.nil_append, e5]; simp⟩
    | true =>
      have hps' : ps = fs.map PV.str ++ (PV.ob a :: ls.map PV.str) := by rw [← hps]; rfl
      have hpl : ps.length = fs.length + 1 + ls.length := by rw [hps']; simp; omega
      have I2 : JI ps a (fs.map .str) (((fs.map PV.str).length : Nat) : Int) (ps.length : Int) σ1 := by
        rw [show (([] : List PV).length + fs.length : Nat) = (fs.map PV.str).length by simp] at I1; exact I1
      have hlt : (((fs.map PV.str).length : Nat) : Int) < (ps.length : Int) := by rw [hpl]; simp; omega
      have hc : asB (evE (gam k) (.cmp .Lt (.var 4) (.var 5)) .test σ1) = some true := (jl_ev I2).trans (by simp only [hlt, decide_true])
      by_cases hl0 : ls = []
      · subst hl0; obtain ⟨σ2, e5, I3⟩ := jo_last (Γ := gam k) (by rw [hps']; rfl) (by unfold small; simp; omega) I2; rw [List.cons_append, zai (σ' := σ2) (by rw [evS]; exact wl_brk (n := 99999) hc e5)]; have : fs.map PV.str ++ [PV.str [46, 42]] = (fs ++ [[46, 42]]).map PV.str := by simp
        rw [this] at I3; obtain ⟨σ3, e6⟩ := jend_ev (Γ := gam k) I3 (by unfold small; simp at hfl ⊢; omega); exact ⟨σ3, by rw [List.nil_append, e6]; simp⟩
      · obtain ⟨σ2, e5, I3⟩ := jo_mid (Γ := gam k) hl0 hps' (by unfold small; simp; omega) hl (by unfold small; omega) I2; have hc2 : asB (evE (gam k) (.cmp .Lt (.var 4) (.var 5)) .test σ2) = some false := (jl_ev I3).trans (by simp); rw [List.cons_append, zai (σ' := σ2) (by rw [evS]; exact (wl_go (n := 99999) hc e5).trans (zdx (n := 99998) hc2))]; have : fs.map PV.str ++ [PV.str [46, 42], PV.str ls.flatten] = (fs ++ [[46, 42], ls.flatten]).map PV.str := by simp
        rw [this] at I3; obtain ⟨σ3, e6⟩ := jend_ev (Γ := gam k) I3 (by unfold small; simp at hfl hll ⊢; omega); exact ⟨σ3, by rw [List.nil_append, e6]; simp⟩
  obtain ⟨σ', e⟩ := key; exact zbo e
end
end Mine
namespace Mine
open PySem
theorem zgv : ∀ (us : List U) (b : Bool), (∀ u ∈ us, za2 u = false) → zcm b us = true
  | [], _, _ => by simp [zcm]
  | u :: us, b, h => by
    have hu := h u (List.mem_cons_self ..); have ih := zgv us false fun v hv => h v (List.mem_cons_of_mem _ hv)
    cases u <;> first | exact ih | cases hu
theorem zhr : ∀ (us vs : List U) (b : Bool), (∀ u ∈ us, za2 u = false) → (us ≠ [] → zcm false vs = true) → (us = [] → zcm b vs = true) → zcm b (us ++ vs) = true
  | [], vs, b, _, _, h => h rfl
  | u :: us, vs, b, h, h1, h2 => by
    have hu := h u (List.mem_cons_self ..); have ih := zhr us vs false (fun v hv => h v (List.mem_cons_of_mem _ hv)) (fun _ => h1 (by simp)) (fun _ => h1 (by simp))
    cases u <;> first | exact ih | cases hu
theorem prt_no {a : Addr} : ∀ (us : List U), (∀ u ∈ us, za2 u = false) → us.map (prt a) = (us.map rgx).map .str
  | [], _ => rfl
  | u :: us, h => by
    have hu := h u (List.mem_cons_self ..); have ih := prt_no (a := a) us fun v hv => h v (List.mem_cons_of_mem _ hv)
    cases u <;> first | (simp only [List.map_cons, ih]; rfl) | cases hu
theorem rgx_len (u : U) : (rgx u).length ≤ 5 := by
  cases u with
  | lit c => simp only [rgx, escC]; split <;> simp
  | brk c => simp only [rgx]; split <;> simp
  | neg p => simp only [rgx, negT]; split <;> simp
  | _ => simp [rgx]
theorem zfy : ∀ us : List U, (us.map rgx).flatten.length ≤ 5 * us.length
  | [] => by simp
  | u :: us => by
    have h1 := rgx_len u; have h2 := zfy us; simp only [List.map_cons, List.flatten_cons, List.length_append, List.length_cons]; omega
def stU (st : Bool) : List U := if st then [.star] else []
def zbn (us : List U) : List Nat := [40, 63, 115, 58] ++ (us.map rgx).flatten ++ [41, 92, 90]
theorem g50 {k : Nat} {fs ls : List U} {st : Bool} (hst : st = false → ls = []) (h1 : ∀ u ∈ fs, okU u ∧ za2 u = false) (h2 : ∀ u ∈ ls, okU u ∧ za2 u = false) (hl : fs.length + ls.length ≤ 60) :
    gam (k + 3) (.ref 50) [.str ((fs ++ (stU st ++ ls)).flatMap txt)] = some (.str (zbn (fs ++ (stU st ++ ls)))) := by
  refine trs_eq (Γ := gam (k + 2)) fun a => ?_
  have hso : zcm false (fs ++ (stU st ++ ls)) = true := by
    have hA : ∀ b, b = false → zcm b (stU st ++ ls) = true := by
      intro b hb; subst hb
      cases st with
      | false => exact zgv _ _ fun u hu => (h2 u (by simpa [stU] using hu)).2
      | true =>
        show (!false && zcm true ls) = true
        rw [zgv _ _ fun u hu => (h2 u hu).2]; rfl
    exact zhr _ _ _ (fun u hu => (h1 u hu).2) (fun _ => hA _ rfl) (fun _ => hA _ rfl)
  have hok : ∀ u ∈ fs ++ (stU st ++ ls), okU u := by
    intro u hu; rcases List.mem_append.mp hu with hu | hu
    · exact (h1 u hu).1
    · rcases List.mem_append.mp hu with hu | hu
      · cases st <;> simp [stU] at hu
        subst hu; trivial
      · exact (h2 u hu).1
  have hstl : (stU st).length ≤ 1 := by cases st <;> simp [stU]
  refine ⟨_, g69 (a := a) hok hso (by simp; omega), ?_⟩; have e1 : (fs ++ (stU st ++ ls)).map (prt a) = (fs.map rgx).map .str ++ ((if st then [.ob a] else []) ++ (ls.map rgx).map .str) := by
    rw [List.map_append, List.map_append, prt_no fs fun u hu => (h1 u hu).2, prt_no ls fun u hu => (h2 u hu).2]
    cases st <;> rfl
  have l1 := zfy fs; have l2 := zfy ls; rw [e1, g76 (k := k + 1) (fun q => by rw [hst q]; rfl) (by simp; omega) (by simp; omega) (by omega) (by omega)]
  simp only [zbn, List.map_append, List.flatten_append]
  cases st <;> simp [stU, rgx]
structure RI (T : List Nat) (its : List PV) (i e : Int) (σ : zad) : Prop where
  z : ln σ = 6
  s0 : gt σ 0 = some (.val (.str T))
  s1 : gt σ 1 = some (.own its)
  s2 : gt σ 2 = some (.val (.int i))
  s3 : gt σ 3 = some (.val (.int e))
def itm : U → PV
  | .lit c => .tup [.bool false, .str [c]] | .brk c => .tup [.bool false, .str [c]] | .q => .tup [.bool true, .str []] | .neg p => .tup [.bool true, .str [p]] | .star => .nul
section
variable {Γ : Gam} {T pre post : List Nat} {its : List PV} {σ : zad} {i e : Int}
theorem r_star (S : zas (.str T) (.int i) (.int (i + 2)) = some (.str [46, 42])) (hz : its.length < small) (I : RI T its i e σ) :
    ∃ σ', zac Γ 0 rb σ = some (.next, σ') ∧ RI T (its ++ [.nul]) (i + 2) e σ' := by
  obtain ⟨z, s0, s1, s2, s3⟩ := I; refine ⟨zaa (σ.set 1 (.own (its ++ [.nul]))) 2 (.val (.int (i + 2))), ?_, ?_⟩
  · simp [rb, zac, evS, evE, zag, zah, fin, asB, gV, gP, gE, gv, gp, gZ, gA, gS, gL, lS, lL, sZ, fg, zak, truthy, zae, eqo, zaj, zaf, *]
  · constructor <;> simp [gS, gL, lS, lL, fg, *]
theorem r_dot {w : List Nat} (S : zas (.str T) (.int i) (.int (i + 2)) = some (.str w)) (hw : w ≠ [46, 42]) (F : zan (.str T) (.int i) = some (.str [46])) (hz : its.length < small) (I : RI T its i e σ) :
    ∃ σ', zac Γ 0 rb σ = some (.next, σ') ∧ RI T (its ++ [.tup [.bool true, .str []]]) (i + 1) e σ' := by
  obtain ⟨z, s0, s1, s2, s3⟩ := I; refine ⟨zaa (σ.set 1 (.own (its ++ [.tup [.bool true, .str []]]))) 2 (.val (.int (i + 1))), ?_, ?_⟩
  · simp [rb, zac, evS, evE, zag, zah, fin, asB, gV, gP, gE, gv, gp, gZ, gA, gS, gL, lS, lL, sZ, fg, zak, truthy, zae, eqo, zaj, zaf, *]
  · constructor <;> simp [gS, gL, lS, lL, fg, *]
theorem r_esc {w : List Nat} {c : Nat} (S : zas (.str T) (.int i) (.int (i + 2)) = some (.str w)) (hw : w ≠ [46, 42]) (F : zan (.str T) (.int i) = some (.str [92])) (F1 : zan (.str T) (.int (i + 1)) = some (.str [c])) (hz : its.length < small) (I : RI T its i e σ) :
    ∃ σ', zac Γ 0 rb σ = some (.next, σ') ∧ RI T (its ++ [.tup [.bool false, .str [c]]]) (i + 2) e σ' := by
  obtain ⟨z, s0, s1, s2, s3⟩ := I; refine ⟨zaa (σ.set 1 (.own (its ++ [.tup [.bool false, .str [c]]]))) 2 (.val (.int (i + 2))), ?_, ?_⟩
  · simp [rb, zac, evS, evE, zag, zah, fin, asB, gV, gP, gE, gv, gp, gZ, gA, gS, gL, lS, lL, sZ, fg, zak, truthy, zae, eqo, zaj, zaf, *]
  · constructor <;> simp [gS, gL, lS, lL, fg, *]
theorem r_lit {w : List Nat} {c : Nat} (S : zas (.str T) (.int i) (.int (i + 2)) = some (.str w)) (hw : w ≠ [46, 42]) (F : zan (.str T) (.int i) = some (.str [c])) (c1 : c ≠ 46) (c2 : c ≠ 92) (c3 : c ≠ 91) (c4 : ¬ c ∈ [40, 41, 42, 43, 63, 123, 125, 124, 94, 36]) (hz : its.length < small) (I : RI T its i e σ) :
    ∃ σ', zac Γ 0 rb σ = some (.next, σ') ∧ RI T (its ++ [.tup [.bool false, .str [c]]]) (i + 1) e σ' := by
  obtain ⟨z, s0, s1, s2, s3⟩ := I; refine ⟨zaa (σ.set 1 (.own (its ++ [.tup [.bool false, .str [c]]]))) 2 (.val (.int (i + 1))), ?_, ?_⟩
  · have c4' : decide (c ∈ [40, 41, 42, 43, 63, 123, 125, 124, 94, 36]) = false := by simpa using c4
    simp only [List.mem_cons, List.not_mem_nil, or_false, not_or] at c4; simp [rb, rE, zac, evS, evE, zag, zah, fin, asB, gV, gP, gE, gv, gp, gZ, gA, gS, gL, lS, lL, sZ, fg, zak, truthy, zae, eqo, zaj, zaf, *]
  · constructor <;> simp [gS, gL, lS, lL, fg, *]
theorem r_brk0 {w : List Nat} (S : zas (.str T) (.int i) (.int (i + 2)) = some (.str w)) (hw : w ≠ [46, 42]) (F : zan (.str T) (.int i) = some (.str [91])) (I : RI T its i e σ) :
    zac Γ 0 rb σ = zac Γ 0 rB σ := by
  obtain ⟨z, s0, s1, s2, s3⟩ := I; have c1 : asB (evE Γ (.cmp .Eq (.slc (.var 0) (.var 2) (.bin .Add (.var 2) (.lit (.int 2)))) (.lit (.str [46, 42]))) .test σ) = some false := by simp [zac, evS, evE, zag, zah, fin, asB, gV, gP, gE, gv, gp, gZ, gA, gS, gL, lS, lL, sZ, fg, zak, truthy, zae, eqo, zaj, zaf, *]
  have c2 : asB (evE Γ (.cmp .Eq (.idx (.var 0) (.var 2)) (.lit (.str [46]))) .test σ) = some false := by simp [zac, evS, evE, zag, zah, fin, asB, gV, gP, gE, gv, gp, gZ, gA, gS, gL, lS, lL, sZ, fg, zak, truthy, zae, eqo, zaj, zaf, *]
  have c3 : asB (evE Γ (.cmp .Eq (.idx (.var 0) (.var 2)) (.lit (.str [92]))) .test σ) = some false := by simp [zac, evS, evE, zag, zah, fin, asB, gV, gP, gE, gv, gp, gZ, gA, gS, gL, lS, lL, sZ, fg, zak, truthy, zae, eqo, zaj, zaf, *]
  have c4 : asB (evE Γ (.cmp .Eq (.idx (.var 0) (.var 2)) (.lit (.str [91]))) .test σ) = some true := by simp [zac, evS, evE, zag, zah, fin, asB, gV, gP, gE, gv, gp, gZ, gA, gS, gL, lS, lL, sZ, fg, zak, truthy, zae, eqo, zaj, zaf, *]
  rw [rb, zac, evS, c1]; dsimp only; rw [zac, evS, c2]; dsimp only; rw [zac, evS, c3]; dsimp only; rw [zac, evS, c4]; dsimp only; generalize zac Γ 0 rB σ = x
  match x with
  | none => rfl
  | some (.next, σ) => rfl
  | some (.brk, σ) => rfl
  | some (.cont, σ) => rfl
  | some (.ret _, σ) => rfl
theorem r_in {bar : Bool} {c : Nat} {d : Nat} {j : Int} (I : RI T its j e σ) (g4 : gt σ 4 = some (.val (.bool bar))) (g5 : gt σ 5 = some (.val (.str [])))
    (h : (d = 0 ∧ c ≠ 92 ∧ zan (.str T) (.int j) = some (.str [c]) ∧ zan (.str T) (.int (j + 1)) = some (.str [93])) ∨ (d = 1 ∧ zan (.str T) (.int j) = some (.str [92]) ∧ zan (.str T) (.int (j + 1)) = some (.str [c]) ∧ zan (.str T) (.int (j + 1 + 1)) = some (.str [93]))) (hz : its.length < small) :
    ∃ σ', zac Γ 0 (.whl rBc rBb :: rB3) σ = some (.next, σ') ∧ RI T (its ++ [.tup [.bool bar, .str [c]]]) (j + d + 2) e σ' := by
  obtain ⟨z, s0, s1, s2, s3⟩ := I; have hsm : 1 ≤ small := by decide
  rcases h with ⟨rfl, hc, F0, F1⟩ | ⟨rfl, F0, F1, F2⟩
  · have e1 : evS Γ 0 (.whl rBc rBb) σ = some (.next, zaa (zaa σ 5 (.val (.str [c]))) 2 (.val (.int (j + 1)))) := by
      rw [evS]; refine (wl_go (n := 99999) ?_ ?_).trans (zdx (n := 99998) ?_)
      · simp [rBc, zac, evS, evE, zag, zah, fin, asB, gV, gP, gE, gv, gp, gZ, gA, gS, gL, lS, lL, sZ, fg, zak, truthy, zae, eqo, zaj, zaf, *]
      · simp [rBb, zac, evS, evE, zag, zah, fin, asB, gV, gP, gE, gv, gp, gZ, gA, gS, gL, lS, lL, sZ, fg, zak, truthy, zae, eqo, zaj, zaf, *]
      · simp [rBc, zac, evS, evE, zag, zah, fin, asB, gV, gP, gE, gv, gp, gZ, gA, gS, gL, lS, lL, sZ, fg, zak, truthy, zae, eqo, zaj, zaf, *]
    refine ⟨_, by
      rw [zai e1]; show zac Γ 0 rB3 (zaa (zaa σ 5 (.val (.str [c]))) 2 (.val (.int (j + 1)))) = some (.next, zaa ((zaa (zaa σ 5 (.val (.str [c]))) 2 (.val (.int (j + 1)))).set 1 (.own (its ++ [.tup [.bool bar, .str [c]]]))) 2 (.val (.int (j + 1 + 1)))); simp [rB3, zac, evS, evE, zag, zah, fin, asB, gV, gP, gE, gv, gp, gZ, gA, gS, gL, lS, lL, sZ, fg, zak, truthy, zae, eqo, zaj, zaf, *], ?_⟩
    have : j + (0 : Nat) + 2 = j + 1 + 1 := by omega
    rw [this]
    constructor <;> simp [gS, gL, lS, lL, fg, *]
  · have e1 : evS Γ 0 (.whl rBc rBb) σ = some (.next, zaa (zaa (zaa σ 2 (.val (.int (j + 1)))) 5 (.val (.str [c]))) 2 (.val (.int (j + 1 + 1)))) := by
      rw [evS]; refine (wl_go (n := 99999) ?_ ?_).trans (zdx (n := 99998) ?_)
      · simp [rBc, zac, evS, evE, zag, zah, fin, asB, gV, gP, gE, gv, gp, gZ, gA, gS, gL, lS, lL, sZ, fg, zak, truthy, zae, eqo, zaj, zaf, *]
      · simp [rBb, zac, evS, evE, zag, zah, fin, asB, gV, gP, gE, gv, gp, gZ, gA, gS, gL, lS, lL, sZ, fg, zak, truthy, zae, eqo, zaj, zaf, *]
      · simp [rBc, zac, evS, evE, zag, zah, fin, asB, gV, gP, gE, gv, gp, gZ, gA, gS, gL, lS, lL, sZ, fg, zak, truthy, zae, eqo, zaj, zaf, *]
    refine ⟨_, by
      rw [zai e1]; show zac Γ 0 rB3 (zaa (zaa (zaa σ 2 (.val (.int (j + 1)))) 5 (.val (.str [c]))) 2 (.val (.int (j + 1 + 1)))) = some (.next, zaa ((zaa (zaa (zaa σ 2 (.val (.int (j + 1)))) 5 (.val (.str [c]))) 2 (.val (.int (j + 1 + 1)))).set 1 (.own (its ++ [.tup [.bool bar, .str [c]]]))) 2 (.val (.int (j + 1 + 1 + 1)))); simp [rB3, zac, evS, evE, zag, zah, fin, asB, gV, gP, gE, gv, gp, gZ, gA, gS, gL, lS, lL, sZ, fg, zak, truthy, zae, eqo, zaj, zaf, *], ?_⟩
    have : j + (1 : Nat) + 2 = j + 1 + 1 + 1 := by omega
    rw [this]
    constructor <;> simp [gS, gL, lS, lL, fg, *]
theorem r_brk {bar : Bool} {x : Nat} (hx : decide (x = 94) = bar) (F1 : zan (.str T) (.int (i + 1)) = some (.str [x])) (I : RI T its i e σ) :
    ∃ σ', zac Γ 0 rB σ = zac Γ 0 (.whl rBc rBb :: rB3) σ' ∧ RI T its (i + (if bar then 2 else 1)) e σ' ∧ gt σ' 4 = some (.val (.bool bar)) ∧ gt σ' 5 = some (.val (.str [])) := by
  obtain ⟨z, s0, s1, s2, s3⟩ := I
  cases bar with
  | true =>
    have hx' : x = 94 := by simpa using hx
    subst hx'
    refine ⟨zaa (zaa (zaa σ 4 (.val (.bool true))) 2 (.val (.int (i + 2)))) 5 (.val (.str [])), zci (by simp [rB1, zac, evS, evE, zag, zah, fin, asB, gV, gP, gE, gv, gp, gZ, gA, gS, gL, lS, lL, sZ, fg, zak, truthy, zae, eqo, zaj, zaf, *]), ?_, ?_, ?_⟩
    · constructor <;> simp [gS, gL, lS, lL, fg, *]
    · simp [gS, gL, lS, lL, fg, *]
    · simp [gS, gL, lS, lL, fg, *]
  | false =>
    have hx' : ¬ x = 94 := by simpa using hx
    refine ⟨zaa (zaa (zaa σ 4 (.val (.bool false))) 2 (.val (.int (i + 1)))) 5 (.val (.str [])), zci (by simp [rB1, zac, evS, evE, zag, zah, fin, asB, gV, gP, gE, gv, gp, gZ, gA, gS, gL, lS, lL, sZ, fg, zak, truthy, zae, eqo, zaj, zaf, *]), ?_, ?_, ?_⟩
    · constructor <;> simp [gS, gL, lS, lL, fg, *]
    · simp [gS, gL, lS, lL, fg, *]
    · simp [gS, gL, lS, lL, fg, *]
end
end Mine
namespace Mine
open PySem
section
variable {Γ : Gam} {T pre post : List Nat} {its : List PV} {σ : zad} {e : Int}
theorem read_step {u : U} (hu : okU u) (hT : T = pre ++ (rgx u ++ post)) (hp : post ≠ []) (hq : ∀ r, post ≠ 42 :: r) (hz : its.length < small) (I : RI T its (pre.length : Int) e σ) :
    ∃ σ', zac Γ 0 rb σ = some (.next, σ') ∧ RI T (its ++ [itm u]) ((pre ++ rgx u).length : Int) e σ' := by
  have at0 : ∀ j c, (rgx u ++ post)[j]? = some c → ∀ x : Int, x = ((pre.length + j : Nat) : Int) → zan (.str T) (.int x) = some (.str [c]) := fun j c h x hx =>
    zfj (j := pre.length + j) (by rw [hT, get_app]; exact h) hx
  obtain ⟨y, r, rfl⟩ : ∃ y r, post = y :: r := by cases post with | nil => exact absurd rfl hp | cons y r => exact ⟨y, r, rfl⟩
  have hy : y ≠ 42 := fun q => hq r (by rw [q])
  have hu0 : 0 < (rgx u).length := by
    cases u with
    | lit c => simp only [rgx, escC]; split <;> simp
    | _ => simp [rgx]
  have hlen : T.length = pre.length + ((rgx u).length + (r.length + 1)) := by rw [hT]; simp
  have sl : ∀ w, cut (rgx u ++ y :: r) 0 2 = w → zas (.str T) (.int (pre.length : Int)) (.int ((pre.length : Int) + 2)) = some (.str w) := fun w h =>
    slc_nat (j := pre.length + 0) (k := pre.length + 2) (by simp) (by simp) (by omega) (by omega) (by rw [hT, cut_app]; exact h)
  cases u with
  | star =>
    obtain ⟨σ', e1, I'⟩ := r_star (Γ := Γ) (sl _ rfl) hz I
    exact ⟨σ', e1, by simpa [rgx, itm] using I'⟩
  | q =>
    obtain ⟨σ', e1, I'⟩ := r_dot (Γ := Γ) (sl _ rfl) (by simp [rgx, cut]; exact hy) (at0 0 46 rfl _ (by simp)) hz I
    exact ⟨σ', e1, by simpa [rgx, itm] using I'⟩
  | lit c =>
    obtain ⟨h1, h2, h3, h4⟩ := hu
    by_cases hs : specials.contains c = true
    · have hr : rgx (.lit c) = [92, c] := by simp only [rgx, escC, if_pos hs]
      rw [hr] at at0 sl ⊢; obtain ⟨σ', e1, I'⟩ := r_esc (Γ := Γ) (sl _ rfl) (by simp [cut]) (at0 0 92 rfl _ (by simp)) (at0 1 c rfl _ (by simp)) hz I; exact ⟨σ', e1, by simpa [itm] using I'⟩
    · have hr : rgx (.lit c) = [c] := by simp only [rgx, escC, if_neg hs]
      rw [hr] at at0 sl ⊢; have hn : c ∉ specials := fun q => hs (List.contains_iff_mem.mpr q)
      have c1 : c ≠ 46 := fun q => hn (by rw [q]; decide)
      have c2 : c ≠ 92 := fun q => hn (by rw [q]; decide)
      have c3 : ¬ c ∈ [40, 41, 42, 43, 63, 123, 125, 124, 94, 36] := fun q => hn (by
        have : ∀ x ∈ [40, 41, 42, 43, 63, 123, 125, 124, 94, 36], x ∈ specials := by decide
        exact this c q)
      obtain ⟨σ', e1, I'⟩ := r_lit (Γ := Γ) (sl _ rfl) (by simp [cut]; intro q; exact absurd q c1) (at0 0 c rfl _ (by simp)) c1 c2 h4 c3 hz I; exact ⟨σ', e1, by simpa [itm] using I'⟩
  | brk c =>
    by_cases h91 : c = 91
    · subst h91; obtain ⟨σ1, e1, I1, g4, g5⟩ := r_brk (Γ := Γ) (bar := false) (x := 92) (by decide) (at0 1 92 rfl _ (by simp)) I; obtain ⟨σ2, e2, I2⟩ := r_in (Γ := Γ) (d := 1) (c := 91) I1 g4 g5 (.inr ⟨rfl, at0 1 92 rfl _ (by simp), at0 2 91 rfl _ (by simp; omega), at0 3 93 rfl _ (by simp; omega)⟩) hz; refine ⟨σ2, by rw [r_brk0 (sl _ rfl) (by simp [rgx, cut]) (at0 0 91 rfl _ (by simp)) I, e1, e2], ?_⟩; have : ((pre.length : Int) + (if false then 2 else 1) + ((1 : Nat) : Int) + 2) = ((pre ++ rgx (.brk 91)).length : Int) := by simp [rgx]; omega
      rw [← this]; exact I2
    · have hr : rgx (.brk c) = [91, c, 93] := by simp [rgx, h91]
      have hc : c = 42 ∨ c = 63 := by rcases hu with h | h | h <;> simp_all
      rw [hr] at at0 sl ⊢; obtain ⟨σ1, e1, I1, g4, g5⟩ := r_brk (Γ := Γ) (bar := false) (x := c) (by simp; omega) (at0 1 c rfl _ (by simp)) I; obtain ⟨σ2, e2, I2⟩ := r_in (Γ := Γ) (d := 0) (c := c) I1 g4 g5 (.inl ⟨rfl, by omega, at0 1 c rfl _ (by simp), at0 2 93 rfl _ (by simp; omega)⟩) hz; refine ⟨σ2, by rw [r_brk0 (sl _ rfl) (by simp [cut]) (at0 0 91 rfl _ (by simp)) I, e1, e2], ?_⟩; have : ((pre.length : Int) + (if false then 2 else 1) + ((0 : Nat) : Int) + 2) = ((pre ++ [91, c, 93]).length : Int) := by simp; omega
      rw [← this]; exact I2
  | neg p =>
    by_cases hs : p = 92 ∨ p = 45 ∨ p = 38 ∨ p = 126 ∨ p = 124
    · have hr : rgx (.neg p) = [91, 94, 92, p, 93] := by simp only [rgx, negT, if_pos hs]; rfl
      rw [hr] at at0 sl ⊢; obtain ⟨σ1, e1, I1, g4, g5⟩ := r_brk (Γ := Γ) (bar := true) (x := 94) (by decide) (at0 1 94 rfl _ (by simp)) I; obtain ⟨σ2, e2, I2⟩ := r_in (Γ := Γ) (d := 1) (c := p) I1 g4 g5 (.inr ⟨rfl, at0 2 92 rfl _ (by simp), at0 3 p rfl _ (by simp; omega), at0 4 93 rfl _ (by simp; omega)⟩) hz; refine ⟨σ2, by rw [r_brk0 (sl _ rfl) (by simp [cut]) (at0 0 91 rfl _ (by simp)) I, e1, e2], ?_⟩; have : ((pre.length : Int) + (if true then 2 else 1) + ((1 : Nat) : Int) + 2) = ((pre ++ [91, 94, 92, p, 93]).length : Int) := by simp; omega
      rw [← this]; exact I2
    · have hr : rgx (.neg p) = [91, 94, p, 93] := by simp only [rgx, negT, if_neg hs]; rfl
      rw [hr] at at0 sl ⊢; obtain ⟨σ1, e1, I1, g4, g5⟩ := r_brk (Γ := Γ) (bar := true) (x := 94) (by decide) (at0 1 94 rfl _ (by simp)) I; obtain ⟨σ2, e2, I2⟩ := r_in (Γ := Γ) (d := 0) (c := p) I1 g4 g5 (.inl ⟨rfl, by omega, at0 2 p rfl _ (by simp), at0 3 93 rfl _ (by simp; omega)⟩) hz; refine ⟨σ2, by rw [r_brk0 (sl _ rfl) (by simp [cut]) (at0 0 91 rfl _ (by simp)) I, e1, e2], ?_⟩; have : ((pre.length : Int) + (if true then 2 else 1) + ((0 : Nat) : Int) + 2) = ((pre ++ [91, 94, p, 93]).length : Int) := by simp; omega
      rw [← this]; exact I2
theorem rc_ev {i : Int} (I : RI T its i e σ) : asB (evE Γ rc .test σ) = some (decide (i < e)) := by
  obtain ⟨z, s0, s1, s2, s3⟩ := I; simp [rc, zac, evS, evE, zag, zah, fin, asB, gV, gP, gE, gv, gp, gZ, gA, gS, gL, lS, lL, sZ, fg, zak, truthy, zae, eqo, zaj, zaf, *]
theorem rgx_ne42 (u : U) (hu : okU u) : ∀ r, rgx u ≠ 42 :: r := by
  intro r h
  cases u with
  | lit c =>
    simp only [rgx, escC] at h
    split at h
    · simp at h
    · simp at h; exact hu.2.1 h.1
  | brk c => simp [rgx] at h
  | neg p => simp [rgx] at h
  | q => simp [rgx] at h
  | star => simp [rgx] at h
theorem rgx_nil (u : U) : rgx u ≠ [] := by
  cases u with
  | lit c => simp only [rgx, escC]; split <;> simp
  | _ => simp [rgx]
theorem flat_ne42 {us : List U} (hok : ∀ u ∈ us, okU u) (tl : List Nat) (ht : ∀ r, tl ≠ 42 :: r) : ∀ r, (us.map rgx).flatten ++ tl ≠ 42 :: r := by
  intro r h
  cases us with
  | nil => exact ht r h
  | cons u us =>
    rw [List.map_cons, List.flatten_cons, List.append_assoc] at h
    cases hr : rgx u with
    | nil => exact rgx_nil u hr
    | cons x y =>
      rw [hr, List.cons_append] at h
      injection h with h1 h2
      exact rgx_ne42 u (hok u (List.mem_cons_self ..)) y (by rw [hr, h1])
theorem read_run : ∀ (us : List U) (pre : List Nat) (its : List PV) (σ : zad) (m : Nat), (∀ u ∈ us, okU u) → T = pre ++ ((us.map rgx).flatten ++ [41, 92, 90]) → its.length + us.length ≤ small → e + 3 = (T.length : Int) → RI T its (pre.length : Int) e σ →
    ∃ σ', zcz (fun σ => asB (evE Γ rc .test σ)) (zac Γ 0 rb) (us.length + 1 + m) σ = some (.next, σ') ∧ RI T (its ++ us.map itm) e e σ'
  | [], pre, its, σ, m, _, hT, _, he, I => by
    have hl : (pre.length : Int) = e := by rw [hT] at he; simp at he; omega
    rw [hl] at I; refine ⟨σ, ?_, by simpa using I⟩; rw [show ([] : List U).length + 1 + m = m + 1 by simp; omega]; exact zdx ((rc_ev I).trans (by simp))
  | u :: us, pre, its, σ, m, hok, hT, hz, he, I => by
    have hT' : T = pre ++ (rgx u ++ ((us.map rgx).flatten ++ [41, 92, 90])) := by rw [hT]; simp
    have hok' : ∀ v ∈ us, okU v := fun v hv => hok v (List.mem_cons_of_mem _ hv)
    obtain ⟨σ1, e1, I1⟩ := read_step (Γ := Γ) (hok u (List.mem_cons_self ..)) hT' (by simp) (flat_ne42 hok' _ (by simp)) (by simp at hz; omega) I; obtain ⟨σ2, e2, I2⟩ := read_run us (pre ++ rgx u) (its ++ [itm u]) σ1 m hok' (by rw [hT', List.append_assoc]) (by simp at hz ⊢; omega) he I1; refine ⟨σ2, ?_, by simpa using I2⟩; have hr : 0 < (rgx u).length := List.length_pos_iff.mpr (rgx_nil u); have hlt : (pre.length : Int) < e := by rw [hT'] at he; simp at he; omega
    have hc : asB (evE Γ rc .test σ) = some true := (rc_ev I).trans (by simp [hlt]); rw [show (u :: us).length + 1 + m = (us.length + 1 + m) + 1 by simp; omega, wl_go hc e1]; exact e2
theorem g142 {k : Nat} {us : List U} (hok : ∀ u ∈ us, okU u) (hl : us.length ≤ 64) : gam (k + 1) (.ref 142) [.str (zbn us)] = some (.list (us.map itm)) := by
  rw [zbj (by decide) (by decide) (by rfl) rfl]; have hf := zfy us; have hTe : zbn us = [40, 63, 115, 58] ++ ((us.map rgx).flatten ++ [41, 92, 90]) := by simp [zbn]
  have hTl : ((zbn us).length : Int) = ((us.map rgx).flatten.length : Int) + 7 := by rw [hTe]; simp; omega
  have A1 : zas (.str (zbn us)) .nul (.int 4) = some (.str [40, 63, 115, 58]) := by
    have := slc_nat (t := zbn us) (j := 0) (k := 4) (x := 0) (y := 4) (w := [40, 63, 115, 58]) (by simp) (by simp) (by omega) (by omega) (by rw [hTe]; rfl); have e : zas (.str (zbn us)) .nul (.int 4) = zas (.str (zbn us)) (.int 0) (.int 4) := by simp [zas, zbw, zaz]
    rw [e, this]
  have A2 : zas (.str (zbn us)) (.int (((zbn us).length : Int) - 3)) .nul = some (.str [41, 92, 90]) := by
    have h3 : 3 ≤ (zbn us).length := by omega
    have e : zas (.str (zbn us)) (.int (((zbn us).length : Int) - 3)) .nul = zas (.str (zbn us)) (.int (((zbn us).length : Int) - 3)) (.int (((zbn us).length : Nat) : Int)) := by
      have : zaz (zbn us).length (((zbn us).length : Nat) : Int) = (zbn us).length := by unfold zaz; rw [if_neg (by omega)]; simp
      simp only [zas, zbw, this]
    rw [e]; refine slc_nat (j := (zbn us).length - 3) (k := (zbn us).length) (by omega) rfl (by omega) (by omega) ?_; have e2 : zbn us = ([40, 63, 115, 58] ++ (us.map rgx).flatten) ++ [41, 92, 90] := rfl; unfold cut; rw [List.take_length]; have e3 : (zbn us).length - 3 = ([40, 63, 115, 58] ++ (us.map rgx).flatten).length := by rw [e2]; simp
    rw [e3]
    conv => lhs; rw [e2]
    exact List.drop_left
  have hend : (((zbn us).length : Int) - 3) + 3 = ((zbn us).length : Int) := by omega
  generalize hT : zbn us = T at *; have key : ∃ σ', zac (gam k) 0 b142 ([PV.str T].map Mine.Slot.val ++ List.replicate (6 - [PV.str T].length) .unset) = some (.ret (.list (us.map itm)), σ') := by
    generalize hσ : ([PV.str T].map Mine.Slot.val ++ List.replicate (6 - [PV.str T].length) .unset : zad) = σ0; have z : ln σ0 = 6 := by rw [← hσ]; rfl
    have s0 : gt σ0 0 = some (.val (.str T)) := by rw [← hσ]; rfl
    clear hσ; have e1 : evS (gam k) 0 (.own 1) σ0 = some (.next, zaa σ0 1 (.own [])) := by simp [zac, evS, evE, zag, zah, fin, asB, gV, gP, gE, gv, gp, gZ, gA, gS, gL, lS, lL, sZ, fg, zak, truthy, zae, eqo, zaj, zaf]
    have e2 : evS (gam k) 0 (.assign 2 (.lit (.int 4))) (zaa σ0 1 (.own [])) = some (.next, zaa (zaa σ0 1 (.own [])) 2 (.val (.int 4))) := by simp [zac, evS, evE, zag, zah, fin, asB, gV, gP, gE, gv, gp, gZ, gA, gS, gL, lS, lL, sZ, fg, zak, truthy, zae, eqo, zaj, zaf]
    have e3 : evS (gam k) 0 (.assign 3 (.bin .Sub (.len (.var 0)) (.lit (.int 3)))) (zaa (zaa σ0 1 (.own [])) 2 (.val (.int 4))) = some (.next, zaa (zaa (zaa σ0 1 (.own [])) 2 (.val (.int 4))) 3 (.val (.int ((T.length : Int) - 3)))) := by simp [zac, evS, evE, zag, zah, fin, asB, gV, gP, gE, gv, gp, gZ, gA, gS, gL, lS, lL, sZ, fg, zak, truthy, zae, eqo, zaj, zaf, zb3, z, s0]
    have I : RI T [] (([40, 63, 115, 58] : List Nat).length : Int) ((T.length : Int) - 3) (zaa (zaa (zaa σ0 1 (.own [])) 2 (.val (.int 4))) 3 (.val (.int ((T.length : Int) - 3)))) := by
      constructor <;> simp [gS, gL, lS, lL, fg, z, s0]
    generalize zaa (zaa (zaa σ0 1 (.own [])) 2 (.val (.int 4))) 3 (.val (.int ((T.length : Int) - 3))) = σ1 at *; have e4 : evS (gam k) 0 (.ite (.bop false (.cmp .NotEq (.slc (.var 0) (.lit .nul) (.lit (.int 4))) (.lit (.str [40, 63, 115, 58]))) (.cmp .NotEq (.slc (.var 0) (.var 3) (.lit .nul)) (.lit (.str [41, 92, 90])))) [.ret (.lit .nul)] []) σ1 = some (.next, σ1) := by
      obtain ⟨z, s0, s1, s2, s3⟩ := I; simp [zac, evS, evE, zag, zah, fin, asB, gV, gP, gE, gv, gp, gZ, gA, gS, gL, lS, lL, sZ, fg, zak, truthy, zae, eqo, zaj, zaf, z, s0, s1, s2, s3, A1, A2]
    obtain ⟨σ2, e5, I2⟩ := read_run (Γ := gam k) us [40, 63, 115, 58] [] σ1 (zb9 - (us.length + 1)) hok hTe (by simp; unfold small; omega) hend I; rw [show us.length + 1 + (zb9 - (us.length + 1)) = zb9 by unfold zb9; omega] at e5; rw [b142, zai e1, zai e2, zai e3, zai e4, zai (σ' := σ2) (by rw [evS]; exact e5)]; obtain ⟨z, s0, s1, s2, s3⟩ := I2; exact ⟨_, by simp [zac, evS, evE, zag, zah, fin, asB, gV, gP, gE, gv, gp, gZ, gA, gS, gL, lS, lL, sZ, fg, zak, truthy, zae, eqo, zaj, zaf, z, s0, s1, s2, s3]; rfl⟩
  obtain ⟨σ', h⟩ := key; exact zbo h
end
end Mine
namespace Mine
open PySem
abbrev zal (p q : Nat) : PV := .list [.str [p], .str [q]]
structure PQ (p q : Nat) : Prop where
  hp : p ∈ zby
  hq : q ∈ zby
  lt : p < q
def zcl (p q : Nat) (j : Nat) : Nat := if j = 0 then p else q
def zbk (p q j : Nat) : U := if j = 2 then .q else if j = 3 then .neg p else if zcl p q j = 42 ∨ zcl p q j = 63 ∨ zcl p q j = 91 then .brk (zcl p q j) else .lit (zcl p q j)
theorem sign_lt {c : Nat} (h : c ∈ zby) : c < 128 ∧ c ≠ 46 := by
  have : ∀ c ∈ zby, c < 128 ∧ c ≠ 46 := by decide
  exact this c h
theorem PQ.sign {p q : Nat} (x : PQ p q) (j : Nat) : zcl p q j ∈ zby := by
  unfold zcl; split
  · exact x.hp
  · exact x.hq
theorem zgx {p q : Nat} (x : PQ p q) (j : Nat) : okU (zbk p q j) ∧ za2 (zbk p q j) = false := by
  unfold zbk
  split
  · exact ⟨trivial, rfl⟩
  · split
    · exact ⟨x.hp, rfl⟩
    · split
      · rename_i h; exact ⟨h, rfl⟩
      · rename_i h; simp only [not_or] at h; exact ⟨⟨(sign_lt (x.sign j)).1, h.1, h.2.1, h.2.2⟩, rfl⟩
theorem g123 {k p q j : Nat} (hj : j < 4) : gam (k + 1) (.ref 123) [zal p q, .int j] = some (.str (txt (zbk p q j))) := by
  rw [zbj (by decide) (by decide) (by rfl) rfl]; have : j = 0 ∨ j = 1 ∨ j = 2 ∨ j = 3 := by omega
  rcases this with rfl | rfl | rfl | rfl
  · by_cases h : p = 42 ∨ p = 63 ∨ p = 91
    · have h' : decide (p ∈ [42, 63, 91]) = true := by simpa using h
      simp [evF, zac, evS, evE, zag, fin, zaw, zbe, b123, zae, eqo, asB, zan, za8, zaf, truthy, zbk, zcl, txt, h, h', frzA, small]
    · have h' : decide (p ∈ [42, 63, 91]) = false := by simpa using h
      simp [evF, zac, evS, evE, zag, fin, zaw, zbe, b123, zae, eqo, asB, zan, za8, zaf, truthy, zbk, zcl, txt, h, h', frzA, small]
  · by_cases h : q = 42 ∨ q = 63 ∨ q = 91
    · have h' : decide (q ∈ [42, 63, 91]) = true := by simpa using h
      simp [evF, zac, evS, evE, zag, fin, zaw, zbe, b123, zae, eqo, asB, zan, za8, zaf, truthy, zbk, zcl, txt, h, h', frzA, small]
    · have h' : decide (q ∈ [42, 63, 91]) = false := by simpa using h
      simp [evF, zac, evS, evE, zag, fin, zaw, zbe, b123, zae, eqo, asB, zan, za8, zaf, truthy, zbk, zcl, txt, h, h', frzA, small]
  · rfl
  · rfl
theorem za5 {Γ : Gam} {A : Addr} {x : Nat} {e : PE} {σ : zad} {v : PV} (h : evE Γ e .val (frz1 σ x) = some v) : evS Γ A (.assign x e) σ = some (.next, zaa σ x (.val v)) := by
  rw [evS, h]; dsimp only; rw [sZ]
theorem zdm {Γ : Gam} {A : Addr} {e : PE} {r : List PS} {σ : zad} {v : PV} (h : evE Γ e .val (frzA σ) = some v) : zac Γ A (.ret e :: r) σ = some (.ret v, frzA σ) := by
  rw [zac, evS, h]
theorem zb8 {α : Type} {x : Nat} {σ : zad} {test : zad → Option Bool} {elt : zad → Option PV} (inj : α → PV) (g : α → PV) (P : α → Bool) : ∀ (xs : List α),
    (∀ a ∈ xs, test (zaa σ x (.val (inj a))) = some (P a) ∧ (P a = true → elt (zaa σ x (.val (inj a))) = some (g a))) → zbc (.one x) σ test elt (xs.map inj) = some ((xs.filter P).map g)
  | [], _ => rfl
  | a :: xs, h => by
    have ih := zb8 inj g P xs fun b hb => h b (List.mem_cons_of_mem _ hb)
    obtain ⟨h1, h2⟩ := h a (List.mem_cons_self ..); simp only [List.map_cons, zbc, Tgt.put, h1]
    cases hP : P a with
    | true => rw [h2 hP, ih]; simp [hP]
    | false => rw [ih]; simp [hP]
theorem rangeL_eq : ∀ (m i : Nat), zcw i m = (List.range' i m).map fun j => .int (j : Int)
  | 0, i => rfl
  | m + 1, i => by rw [zcw, rangeL_eq m (i + 1)]; rfl
theorem zda {α : Type} (xs : List α) : xs.filter (fun _ => true) = xs := List.filter_eq_self.mpr fun _ _ => rfl
def nf (n : Int) : Nat := (n % 3).toNat
def nl (n : Int) : Nat := (n / 3 % 3).toNat
def nk (n : Int) (i : Nat) : Nat := (n / 9 / 4 ^ i % 4).toNat
theorem nf_lt (n : Int) : nf n < 3 := by unfold nf; omega
theorem nl_lt (n : Int) : nl n < 3 := by unfold nl; omega
theorem nk_lt (n : Int) (i : Nat) : nk n i < 4 := by unfold nk; have := Int.emod_lt_of_pos (n / 9 / 4 ^ i) (b := 4) (by decide); have := Int.emod_nonneg (n / 9 / 4 ^ i) (b := 4) (by decide); omega
theorem nf_int (n : Int) : n % 3 = (nf n : Int) := by unfold nf; omega
theorem nl_int (n : Int) : n / 3 % 3 = (nl n : Int) := by unfold nl; omega
theorem nk_int (n : Int) (i : Nat) : n / 9 / 4 ^ i % 4 = (nk n i : Int) := by unfold nk; have := Int.emod_nonneg (n / 9 / 4 ^ i) (b := 4) (by decide); omega
def behind (us : List U) : List U := us.flatMap fun u => [u, .lit 46]
def ahead (us : List U) : List U := us.flatMap fun u => [.lit 46, u]
def patF (p q : Nat) (n : Int) : List U :=
  let x := fun i => zbk p q (nk n i)
  if nf n = 2 ∧ nl n = 2 then [x 0, .lit 46, x 1, .lit 46, x 2, .lit 46, x 3] else behind ((List.range (nf n)).map x)
def patS (n : Int) : Bool := !(nf n == 2 && nl n == 2)
def patL (p q : Nat) (n : Int) : List U :=
  let x := fun i => zbk p q (nk n i)
  if nf n = 2 ∧ nl n = 2 then [] else ahead ((List.range (nl n)).map fun i => x (nf n + i))
def patU (p q : Nat) (n : Int) : List U := patF p q n ++ (stU (patS n) ++ patL p q n)
theorem zfq (u : U) : (txt u).length ≤ 4 := by cases u <;> simp [txt]
theorem joinDot (l : List (List Nat)) (h : ∀ x ∈ l, x.length ≤ 4) (hl : l.length ≤ 8) : (zap [46] l).length ≤ small := by
  have : ∀ l : List (List Nat), (∀ x ∈ l, x.length ≤ 4) → (zap [46] l).length ≤ 5 * l.length := by
    intro l
    induction l with
    | nil => intro _; simp [zap]
    | cons x r ih =>
      intro h
      have hx := h x (List.mem_cons_self ..)
      have ih := ih fun y hy => h y (List.mem_cons_of_mem _ hy)
      cases r with
      | nil => simp [zap]; omega
      | cons y r =>
        rw [zap]
        · simp at ih ⊢; omega
        · intro h; cases h
  have := this l h; unfold small; omega
theorem pat_items {k p q : Nat} {n : Int} {m : Nat} (hm : m ≤ 4) : zbc (.one 1) ([.unset, .unset, .val (.int n), .val (zal p q)] : zad) (zah (gam (k + 1)) []) (evE (gam (k + 1)) (.call (.ref 123) [(.var 3), (.bin .Mod (.bin .FloorDiv (.bin .FloorDiv (.var 2) (.lit (.int 9))) (.bin .Pow (.lit (.int 4)) (.var 1))) (.lit (.int 4)))]) .val) (zcw 0 m) = some ((List.range m).map fun i => .str (txt (zbk p q (nk n i)))) := by
  rw [rangeL_eq, ← List.range_eq_range']; have := zb8 (x := 1) (σ := [.unset, .unset, .val (.int n), .val (zal p q)]) (test := zah (gam (k + 1)) []) (elt := evE (gam (k + 1)) (.call (.ref 123) [(.var 3), (.bin .Mod (.bin .FloorDiv (.bin .FloorDiv (.var 2) (.lit (.int 9))) (.bin .Pow (.lit (.int 4)) (.var 1))) (.lit (.int 4)))]) .val) (fun j : Nat => .int (j : Int)) (fun i => .str (txt (zbk p q (nk n i)))) (fun _ => true) (List.range m) ?_
  · rw [zda] at this; exact this
  · intro i hi; refine ⟨rfl, fun _ => ?_⟩
    have hi' : i < 4 := by have := List.mem_range.mp hi; omega
    have hk := nk_int n i; have hg := g123 (k := k) (p := p) (q := q) (nk_lt n i); rw [← hk] at hg; have h1 : (0 : Int) ≤ (i : Int) ∧ (i : Int) ≤ 16 ∧ (0 : Int) ≤ 4 ∧ (4 : Int) ≤ 64 := by omega
    have h2 : (0 : Int) < 4 ^ i ∧ (4 : Int) ^ i < 1000000000 := by
      have : i = 0 ∨ i = 1 ∨ i = 2 ∨ i = 3 := by omega
      rcases this with rfl | rfl | rfl | rfl <;> decide
    simp [evE, zag, fin, zaa, zaw, zaf, h1, h2, hg]
theorem cap_pat {σ : zad} {a b : PV} (h0 : gt σ 0 = some (.val a)) (h1 : gt σ 1 = some (.val b)) : zav σ [none, none, some 1, some 0] = [.unset, .unset, .val b, .val a] := by
  simp [zav, gV, gv, h0, h1]
theorem pat_text (p q : Nat) (n : Int) : zap [46] (((List.range (nf n + nl n)).map fun i => txt (zbk p q (nk n i))).take (nf n) ++ (if nf n + nl n = 4 then [] else [[42]]) ++ ((List.range (nf n + nl n)).map fun i => txt (zbk p q (nk n i))).drop (nf n)) = (patU p q n).flatMap txt := by
  have hf := nf_lt n; have hl := nl_lt n; have cf : nf n = 0 ∨ nf n = 1 ∨ nf n = 2 := by omega
  have cl : nl n = 0 ∨ nl n = 1 ∨ nl n = 2 := by omega
  unfold patU patF patL patS; rcases cf with hf | hf | hf <;> rcases cl with hl | hl | hl <;> rw [hf, hl] <;> simp [List.range_succ, zap, behind, ahead, stU, txt]
theorem g128 {k p q : Nat} {n : Int} : gam (k + 2) (.ref 128) [zal p q, .int n] = some (.str ((patU p q n).flatMap txt)) := by
  rw [zbj (by decide) (by decide) (by rfl) rfl]; have hf := nf_lt n; have hl := nl_lt n; have e1 := nf_int n; have e2 := nl_int n; have hi := pat_items (k := k) (p := p) (q := q) (n := n) (m := nf n + nl n) (by omega); have ht := pat_text p q n; have key : ∃ σ', zac (gam (k + 1)) 0 b128 ([zal p q, .int n].map Mine.Slot.val ++ List.replicate (6 - [zal p q, PV.int n].length) .unset) = some (.ret (.str ((patU p q n).flatMap txt)), σ') := by
    generalize hσ : ([zal p q, .int n].map Mine.Slot.val ++ List.replicate (6 - [zal p q, PV.int n].length) .unset : zad) = σ0; have z : ln σ0 = 6 := by rw [← hσ]; rfl
    have s0 : gt σ0 0 = some (.val (zal p q)) := by rw [← hσ]; rfl
    have s1 : gt σ0 1 = some (.val (.int n)) := by rw [← hσ]; rfl
    clear hσ; have f1 : evS (gam (k + 1)) 0 (.assign 2 (.bin .Mod (.var 1) (.lit (.int 3)))) σ0 = some (.next, zaa σ0 2 (.val (.int (nf n)))) := by simp [zac, evS, evE, zag, zah, fin, asB, gV, gP, gE, gv, gp, gZ, gA, gS, gL, lS, lL, sZ, fg, zak, truthy, zae, eqo, zaj, zaf, s1, e1]
    have f2 : evS (gam (k + 1)) 0 (.assign 3 (.bin .Mod (.bin .FloorDiv (.var 1) (.lit (.int 3))) (.lit (.int 3)))) (zaa σ0 2 (.val (.int (nf n)))) = some (.next, zaa (zaa σ0 2 (.val (.int (nf n)))) 3 (.val (.int (nl n)))) := by simp [zac, evS, evE, zag, zah, fin, asB, gV, gP, gE, gv, gp, gZ, gA, gS, gL, lS, lL, sZ, fg, zak, truthy, zae, eqo, zaj, zaf, s1, e2]
    generalize hs : zaa (zaa σ0 2 (.val (.int (nf n)))) 3 (.val (.int (nl n))) = σ1 at *; have z1 : ln σ1 = 6 := by rw [← hs]; simp [gS, gL, lS, lL, fg, z]
    have t0 : gt σ1 0 = some (.val (zal p q)) := by rw [← hs]; simp [gS, gL, lS, lL, fg, s0]
    have t1 : gt σ1 1 = some (.val (.int n)) := by rw [← hs]; simp [gS, gL, lS, lL, fg, s1]
    have t2 : gt σ1 2 = some (.val (.int (nf n))) := by rw [← hs]; simp [gS, gL, lS, lL, fg, z]
    have t3 : gt σ1 3 = some (.val (.int (nl n))) := by rw [← hs]; simp [gS, gL, lS, lL, fg, z]
    clear hs; have tf0 : gt (frz1 σ1 4) 0 = some (.val (zal p q)) := by simp [gZ, t0]
    have tf1 : gt (frz1 σ1 4) 1 = some (.val (.int n)) := by simp [gZ, t1]
    have hit : zau .range (.int ((nf n : Int) + (nl n : Int))) .nul = some (zcw 0 (nf n + nl n)) := by
      have h1 : -4096 ≤ (nf n : Int) + (nl n : Int) ∧ (nf n : Int) + (nl n : Int) ≤ 4096 := by omega
      have h2 : ((nf n : Int) + (nl n : Int)).toNat = nf n + nl n := by omega
      simp only [zau, h1, and_self, if_true, h2]
    generalize hit2 : (List.range (nf n + nl n)).map (fun i => txt (zbk p q (nk n i))) = L at *
    have hLl : L.length = nf n + nl n := by rw [← hit2]; simp
    have hL4 : ∀ x ∈ L, x.length ≤ 4 := by
      intro x hx; rw [← hit2] at hx; obtain ⟨i, _, rfl⟩ := List.mem_map.mp hx; exact zfq _
    have hi' : (List.range (nf n + nl n)).map (fun i => PV.str (txt (zbk p q (nk n i)))) = L.map .str := by rw [← hit2, List.map_map]; rfl
    rw [hi'] at hi; have f3 : evS (gam (k + 1)) 0 (.assign 4 (.comp (.call (.ref 123) [(.var 3), (.bin .Mod (.bin .FloorDiv (.bin .FloorDiv (.var 2) (.lit (.int 9))) (.bin .Pow (.lit (.int 4)) (.var 1))) (.lit (.int 4)))]) (.one 1) .range (.bin .Add (.var 2) (.var 3)) (.lit .nul) [] [none, none, some 1, some 0])) σ1 = some (.next, zaa σ1 4 (.val (.list (L.map .str)))) := by
      have hb : evE (gam (k + 1)) (.bin .Add (.var 2) (.var 3)) .val (frz1 σ1 4) = some (.int ((nf n : Int) + (nl n : Int))) := by simp [zac, evS, evE, zag, zah, fin, asB, gV, gP, gE, gv, gp, gZ, gA, gS, gL, lS, lL, sZ, fg, zak, truthy, zae, eqo, zaj, zaf, t2, t3]
      have hc : evE (gam (k + 1)) (.comp (.call (.ref 123) [(.var 3), (.bin .Mod (.bin .FloorDiv (.bin .FloorDiv (.var 2) (.lit (.int 9))) (.bin .Pow (.lit (.int 4)) (.var 1))) (.lit (.int 4)))]) (.one 1) .range (.bin .Add (.var 2) (.var 3)) (.lit .nul) [] [none, none, some 1, some 0]) .val (frz1 σ1 4) = some (.list (L.map .str)) := by
        rw [evE, hb]; dsimp only; rw [show evE (gam (k + 1)) (.lit .nul) .val (frz1 σ1 4) = some .nul from by rw [evE]; rfl]; dsimp only; rw [hit]; dsimp only; rw [cap_pat tf0 tf1, hi]; rfl
      exact za5 hc
    have f4 : evS (gam (k + 1)) 0 (.assign 5 (.ife (.cmp .Eq (.bin .Add (.var 2) (.var 3)) (.lit (.int 4))) (.lst []) (.lst [(.lit (.str [42]))]))) (zaa σ1 4 (.val (.list (L.map .str)))) = some (.next, zaa (zaa σ1 4 (.val (.list (L.map .str)))) 5 (.val (.list ((if nf n + nl n = 4 then [] else [[42]]).map .str)))) := by
      by_cases h4 : nf n + nl n = 4
      · have h4' : (nf n : Int) + (nl n : Int) = 4 := by omega
        simp [zac, evS, evE, zag, zah, fin, asB, gV, gP, gE, gv, gp, gZ, gA, gS, gL, lS, lL, sZ, fg, zak, truthy, zae, eqo, zaj, zaf, t2, t3, h4, h4']
      · have h4' : ¬ (nf n : Int) + (nl n : Int) = 4 := by omega
        simp [zac, evS, evE, zag, zah, fin, asB, gV, gP, gE, gv, gp, gZ, gA, gS, gL, lS, lL, sZ, fg, zak, truthy, zae, eqo, zaj, zaf, t2, t3, h4, h4']
    rw [b128, zai f1, zai f2, zai f3, zai f4]; have hs1 : zas (.list (L.map .str)) .nul (.int (nf n)) = some (.list ((L.take (nf n)).map .str)) := by
      have : zaz (L.map PV.str).length (nf n : Int) = nf n := by
        unfold zaz; rw [if_neg (by omega)]; simp; omega
      simp only [zas, zbw, this, cut, List.drop_zero, List.map_take]
    have hs2 : zas (.list (L.map .str)) (.int (nf n)) .nul = some (.list ((L.drop (nf n)).map .str)) := by
      have : zaz (L.map PV.str).length (nf n : Int) = nf n := by
        unfold zaz; rw [if_neg (by omega)]; simp; omega
      simp only [zas, zbw, this, cut, List.take_length, List.map_drop]
    generalize hst : (if nf n + nl n = 4 then [] else [[42]] : List (List Nat)) = S at *; have hSl : S.length ≤ 1 := by rw [← hst]; split <;> simp
    have hS4 : ∀ x ∈ S, x.length ≤ 4 := by rw [← hst]; split <;> simp
    have hA : ((L.take (nf n)).map PV.str).length + (S.map PV.str).length ≤ small := by unfold small; simp; omega
    have hB : ((L.take (nf n)).map PV.str ++ S.map PV.str).length + ((L.drop (nf n)).map PV.str).length ≤ small := by unfold small; simp; omega
    have hj : za3 "join" (.str [46]) [.list ((L.take (nf n)).map PV.str ++ S.map PV.str ++ (L.drop (nf n)).map PV.str)] = some (.str ((patU p q n).flatMap txt)) := by
      rw [← List.map_append, ← List.map_append, zd4 (strsP _), ht]; exact joinDot _ (fun x hx => by
        rcases List.mem_append.mp hx with hx | hx
        · rcases List.mem_append.mp hx with hx | hx
          · exact hL4 x (List.mem_of_mem_take hx)
          · exact hS4 x hx
        · exact hL4 x (List.mem_of_mem_drop hx)) (by simp; omega)
    refine ⟨frzA (zaa (zaa σ1 4 (.val (.list (L.map .str)))) 5 (.val (.list (S.map .str)))), ?_⟩; have r1 : evE (gam (k + 1)) (.slc (.var 4) (.lit .nul) (.var 2)) .val (frzA (zaa (zaa σ1 4 (.val (.list (L.map .str)))) 5 (.val (.list (S.map .str))))) = some (.list ((L.take (nf n)).map .str)) := by
      simp [zac, evS, evE, zag, zah, fin, asB, gV, gP, gE, gv, gp, gZ, gA, gS, gL, lS, lL, sZ, fg, zak, truthy, zae, eqo, zaj, zaf, z1, t2, hs1]
    have r2 : evE (gam (k + 1)) (.slc (.var 4) (.var 2) (.lit .nul)) .val (frzA (zaa (zaa σ1 4 (.val (.list (L.map .str)))) 5 (.val (.list (S.map .str))))) = some (.list ((L.drop (nf n)).map .str)) := by
      simp [zac, evS, evE, zag, zah, fin, asB, gV, gP, gE, gv, gp, gZ, gA, gS, gL, lS, lL, sZ, fg, zak, truthy, zae, eqo, zaj, zaf, z1, t2, hs2]
    have r3 : evE (gam (k + 1)) (.var 5) .val (frzA (zaa (zaa σ1 4 (.val (.list (L.map .str)))) 5 (.val (.list (S.map .str))))) = some (.list (S.map .str)) := by
      simp [zac, evS, evE, zag, zah, fin, asB, gV, gP, gE, gv, gp, gZ, gA, gS, gL, lS, lL, sZ, fg, zak, truthy, zae, eqo, zaj, zaf, z1]
    have r4 : evE (gam (k + 1)) (.bin .Add (.bin .Add (.slc (.var 4) (.lit .nul) (.var 2)) (.var 5)) (.slc (.var 4) (.var 2) (.lit .nul))) .val (frzA (zaa (zaa σ1 4 (.val (.list (L.map .str)))) 5 (.val (.list (S.map .str))))) = some (.list ((L.take (nf n)).map PV.str ++ S.map PV.str ++ (L.drop (nf n)).map PV.str)) := by
      rw [evE, evE, r1, r3, r2]; simp only [fin, zaf, if_pos hA, if_pos hB]
    have r5 : evE (gam (k + 1)) (.meth "join" (.lit (.str [46])) [(.bin .Add (.bin .Add (.slc (.var 4) (.lit .nul) (.var 2)) (.var 5)) (.slc (.var 4) (.var 2) (.lit .nul)))]) .val (frzA (zaa (zaa σ1 4 (.val (.list (L.map .str)))) 5 (.val (.list (S.map .str))))) = some (.str ((patU p q n).flatMap txt)) := by
      rw [evE, evE]; simp only [fin, zag, r4, hj]
    exact zdm r5
  obtain ⟨σ', h⟩ := key; exact zbo h
theorem patU_ok {p q : Nat} (x : PQ p q) (n : Int) : (∀ u ∈ patF p q n, okU u ∧ za2 u = false) ∧ (∀ u ∈ patL p q n, okU u ∧ za2 u = false) ∧ (patF p q n).length + (patL p q n).length ≤ 8 ∧ (patS n = false → patL p q n = []) := by
  have h46 : okU (.lit 46) ∧ za2 (.lit 46) = false := ⟨⟨by decide, by decide, by decide, by decide⟩, rfl⟩; have hx := fun i => zgx x (nk n i)
  have hf := nf_lt n; have hl := nl_lt n; have cf : nf n = 0 ∨ nf n = 1 ∨ nf n = 2 := by omega
  have cl : nl n = 0 ∨ nl n = 1 ∨ nl n = 2 := by omega
  unfold patF patL patS; rcases cf with hf | hf | hf <;> rcases cl with hl | hl | hl <;> rw [hf, hl] <;> simp [List.range_succ, behind, ahead, h46, hx]
end Mine
namespace Mine
open PySem
def pairOk (a d : Nat) : Bool := match zby[a]?, zby[(a + 1 + d) % 16]? with
  | some x, some y => (match zdi [[x], [y]] with
    | [[p], [q]] => decide (p ∈ zby) && decide (q ∈ zby) && decide (p < q)
    | _ => false)
  | _, _ => false
theorem pair_all : ∀ a < 16, ∀ d < 15, pairOk a d = true := by decide +kernel
theorem g116 {k : Nat} (n : Int) : ∃ p q, PQ p q ∧ gam (k + 1) (.ref 116) [.int n] = some (zal p q) := by
  have ha : ∃ a : Nat, a < 16 ∧ n % 16 = (a : Int) := ⟨(n % 16).toNat, by omega, by omega⟩; have hd : ∃ d : Nat, d < 15 ∧ n / 16 % 15 = (d : Int) := ⟨(n / 16 % 15).toNat, by omega, by omega⟩; obtain ⟨a, ha, e1⟩ := ha; obtain ⟨d, hd, e2⟩ := hd; have h := pair_all a ha d hd; unfold pairOk at h
  split at h
  · rename_i x y hx hy
    split at h
    · rename_i p q hs; simp only [Bool.and_eq_true, decide_eq_true_eq] at h; refine ⟨p, q, ⟨h.1.1, h.1.2, h.2⟩, ?_⟩; rw [zbj (by decide) (by decide) (by rfl) rfl]; have hb : ((a : Int) + 1 + (d : Int)) % 16 = (((a + 1 + d) % 16 : Nat) : Int) := by omega
      have i1 : zan (.str zby) (.int (a : Int)) = some (.str [x]) := zfj hx rfl; have i2 : zan (.str zby) (.int (((a + 1 + d) % 16 : Nat) : Int)) = some (.str [y]) := zfj hy rfl; generalize (a + 1 + d) % 16 = b at *; unfold zby at i1 i2; have hss : zb3 "sorted" [.list [.str [x], .str [y]]] = some (.list [.str [p], .str [q]]) := by
        have : zb3 "sorted" [.list [.str [x], .str [y]]] = some (.list ((zdi [[x], [y]]).map .str)) := rfl; rw [this, hs]; rfl
      have key : ∃ σ', zac (gam k) 0 b116 ([PV.int n].map Mine.Slot.val ++ List.replicate (4 - [PV.int n].length) .unset) = some (.ret (zal p q), σ') := by
        generalize hσ : ([PV.int n].map Mine.Slot.val ++ List.replicate (4 - [PV.int n].length) .unset : zad) = σ0; have z : ln σ0 = 4 := by rw [← hσ]; rfl
        have s0 : gt σ0 0 = some (.val (.int n)) := by rw [← hσ]; rfl
        clear hσ; refine ⟨?_, ?_⟩
        rotate_left
        · simp [b116, zac, evS, evE, zag, zah, fin, asB, gV, gP, gE, gv, gp, gZ, gA, gS, gL, lS, lL, sZ, fg, zak, truthy, zae, eqo, zaj, zaf, z, s0, e1, e2, hb, i1, i2, hss]; rfl
      obtain ⟨σ', h⟩ := key; exact zbo h
    · cases h
  · cases h
def fitU : U → Nat → Bool
  | .lit c, x => x == c
  | .brk c, x => x == c
  | .neg p, x => !(x == p)
  | _, _ => true
def zco : List U → List Nat → Bool
  | u :: us, x :: xs => fitU u x && zco us xs
  | _, _ => true
theorem fb_ev {Γ : Gam} {u : U} {x : Nat} {σ : zad} (hu : za2 u = false) (z : ln σ = 4) : ∃ σ', zac Γ 0 fb (zaa (zaa σ 2 (.val (itm u))) 3 (.val (.str [x]))) = some (if fitU u x then .next else .ret (.bool false), σ') ∧ ln σ' = 4 := by
  have i0 : ∀ a b : PV, zan (.tup [a, b]) (.int 0) = some a := fun _ _ => rfl
  have i1 : ∀ a b : PV, zan (.tup [a, b]) (.int 1) = some b := fun _ _ => rfl
  have fa : ∀ σ : zad, ln (frzA σ) = ln σ := fun σ => by unfold frzA ln; rw [List.length_map]
  cases u with
  | star => cases hu
  | q =>
    refine ⟨zaa (zaa σ 2 (.val (itm .q))) 3 (.val (.str [x])), ?_, by simp [gS, gL, lS, lL, fg, z]⟩
    simp [fb, itm, fitU, zac, evS, evE, zag, zah, fin, asB, gV, gP, gE, gv, gp, gZ, gA, gS, gL, lS, lL, sZ, fg, zak, truthy, zae, eqo, zaj, zaf, z, i0, i1]
  | lit c =>
    by_cases h : x = c
    · refine ⟨zaa (zaa σ 2 (.val (itm (.lit c)))) 3 (.val (.str [x])), ?_, by simp [gS, gL, lS, lL, fg, z]⟩; simp [fb, itm, fitU, zac, evS, evE, zag, zah, fin, asB, gV, gP, gE, gv, gp, gZ, gA, gS, gL, lS, lL, sZ, fg, zak, truthy, zae, eqo, zaj, zaf, z, i0, i1, h]
    · refine ⟨frzA (zaa (zaa σ 2 (.val (itm (.lit c)))) 3 (.val (.str [x]))), ?_, by rw [fa]; simp [gS, gL, lS, lL, fg, z]⟩; simp [fb, itm, fitU, zac, evS, evE, zag, zah, fin, asB, gV, gP, gE, gv, gp, gZ, gA, gS, gL, lS, lL, sZ, fg, zak, truthy, zae, eqo, zaj, zaf, z, i0, i1, h]
  | brk c =>
    by_cases h : x = c
    · refine ⟨zaa (zaa σ 2 (.val (itm (.brk c)))) 3 (.val (.str [x])), ?_, by simp [gS, gL, lS, lL, fg, z]⟩; simp [fb, itm, fitU, zac, evS, evE, zag, zah, fin, asB, gV, gP, gE, gv, gp, gZ, gA, gS, gL, lS, lL, sZ, fg, zak, truthy, zae, eqo, zaj, zaf, z, i0, i1, h]
    · refine ⟨frzA (zaa (zaa σ 2 (.val (itm (.brk c)))) 3 (.val (.str [x]))), ?_, by rw [fa]; simp [gS, gL, lS, lL, fg, z]⟩; simp [fb, itm, fitU, zac, evS, evE, zag, zah, fin, asB, gV, gP, gE, gv, gp, gZ, gA, gS, gL, lS, lL, sZ, fg, zak, truthy, zae, eqo, zaj, zaf, z, i0, i1, h]
  | neg c =>
    by_cases h : x = c
    · refine ⟨frzA (zaa (zaa σ 2 (.val (itm (.neg c)))) 3 (.val (.str [x]))), ?_, by rw [fa]; simp [gS, gL, lS, lL, fg, z]⟩; simp [fb, itm, fitU, zac, evS, evE, zag, zah, fin, asB, gV, gP, gE, gv, gp, gZ, gA, gS, gL, lS, lL, sZ, fg, zak, truthy, zae, eqo, zaj, zaf, z, i0, i1, h]
    · refine ⟨zaa (zaa σ 2 (.val (itm (.neg c)))) 3 (.val (.str [x])), ?_, by simp [gS, gL, lS, lL, fg, z]⟩; simp [fb, itm, fitU, zac, evS, evE, zag, zah, fin, asB, gV, gP, gE, gv, gp, gZ, gA, gS, gL, lS, lL, sZ, fg, zak, truthy, zae, eqo, zaj, zaf, z, i0, i1, h]
theorem fits_loop {Γ : Gam} : ∀ (us : List U) (s : List Nat) (σ : zad), (∀ u ∈ us, za2 u = false) → ln σ = 4 → ∃ σ', zbx (.two 2 3) (zac Γ 0 fb) (zcn (us.map itm) (s.map fun c => .str [c])) σ = some (if zco us s then .next else .ret (.bool false), σ')
  | [], s, σ, _, _ => ⟨σ, by simp [zcn, zbx, zco]⟩
  | u :: us, [], σ, _, _ => ⟨σ, by simp [zcn, zbx, zco]⟩
  | u :: us, x :: s, σ, h, z => by
    obtain ⟨σ1, e1, z1⟩ := fb_ev (Γ := Γ) (x := x) (h u (List.mem_cons_self ..)) z; simp only [List.map_cons, zcn, zbx, Tgt.put, e1]
    cases hf : fitU u x with
    | false => exact ⟨σ1, by simp [zco, hf]⟩
    | true =>
      obtain ⟨σ2, e2⟩ := fits_loop (Γ := Γ) us s σ1 (fun v hv => h v (List.mem_cons_of_mem _ hv)) z1
      exact ⟨σ2, by simp [zco, hf, e2]⟩
theorem g149 {k : Nat} {us : List U} {s : List Nat} (h : ∀ u ∈ us, za2 u = false) (hs : zbq s = true) : gam (k + 1) (.ref 149) [.list (us.map itm), .str s] = some (.bool (zco us s)) := by
  rw [zbj (by decide) (by decide) (by rfl) rfl]; have key : ∃ σ', zac (gam k) 0 b149 ([PV.list (us.map itm), .str s].map Mine.Slot.val ++ List.replicate (4 - [PV.list (us.map itm), PV.str s].length) .unset) = some (.ret (.bool (zco us s)), σ') := by
    generalize hσ : ([PV.list (us.map itm), .str s].map Mine.Slot.val ++ List.replicate (4 - [PV.list (us.map itm), PV.str s].length) .unset : zad) = σ0; have z : ln σ0 = 4 := by rw [← hσ]; rfl
    have s0 : gt σ0 0 = some (.val (.list (us.map itm))) := by rw [← hσ]; rfl
    have s1 : gt σ0 1 = some (.val (.str s)) := by rw [← hσ]; rfl
    clear hσ; obtain ⟨σ1, e1⟩ := fits_loop (Γ := gam k) us s σ0 h z; have e2 : evS (gam k) 0 (.for (.two 2 3) .zip (.var 0) (.var 1) fb) σ0 = some (if zco us s then .next else .ret (.bool false), σ1) := by
      have a0 : evE (gam k) (.var 0) .val σ0 = some (.list (us.map itm)) := by simp [zac, evS, evE, zag, zah, fin, asB, gV, gP, gE, gv, gp, gZ, gA, gS, gL, lS, lL, sZ, fg, zak, truthy, zae, eqo, zaj, zaf, s0]
      have a1 : evE (gam k) (.var 1) .val σ0 = some (.str s) := by simp [zac, evS, evE, zag, zah, fin, asB, gV, gP, gE, gv, gp, gZ, gA, gS, gL, lS, lL, sZ, fg, zak, truthy, zae, eqo, zaj, zaf, s1]
      rw [evS, a0, a1]; simp only [zau, za7, zes, hs, if_true, e1]
    rw [b149]
    cases hf : zco us s with
    | true =>
      rw [hf] at e2
      rw [zai e2]
      exact ⟨_, zdm rfl⟩
    | false =>
      rw [hf] at e2
      rw [zac, e2]
      exact ⟨_, rfl⟩
  obtain ⟨σ', h⟩ := key; exact zbo h
def tk (fs : List U) (st : Bool) (ls : List U) (nm : List Nat) : Bool := (if st then decide (fs.length + ls.length ≤ nm.length) else decide (nm.length = fs.length)) && (zco fs nm && zco ls (nm.drop (nm.length - ls.length)))
structure KI (st : Bool) (fs ls : List U) (acc : List PV) (σ : zad) : Prop where
  z : ln σ = 9
  s2 : gt σ 2 = some (.val (.bool st))
  s3 : gt σ 3 = some (.val (.int (fs.length : Int)))
  s4 : gt σ 4 = some (.val (.list (fs.map itm)))
  s5 : gt σ 5 = some (.val (.list (ls.map itm)))
  s6 : gt σ 6 = some (.own acc)
def okNm (ls : List U) (nm : List Nat) : Prop := zbq nm = true ∧ ls.length ≤ nm.length
theorem kb_ev {Γ : Gam} {st : Bool} {fs ls : List U} {acc : List PV} {σ : zad} {nm : List Nat} (hst : st = false → ls = [])
    (hΓ : ∀ (us : List U) (s : List Nat), (∀ u ∈ us, za2 u = false) → zbq s = true → Γ (.ref 149) [.list (us.map itm), .str s] = some (.bool (zco us s)))
    (h1 : ∀ u ∈ fs, za2 u = false) (h2 : ∀ u ∈ ls, za2 u = false) (hn : okNm ls nm) (hz : acc.length < small) (I : KI st fs ls acc σ) :
    ∃ σ', zac Γ 0 kb (zaa σ 7 (.val (.str nm))) = some (.next, σ') ∧ KI st fs ls (if tk fs st ls nm then acc ++ [.str nm] else acc) σ' := by
  obtain ⟨z, s2, s3, s4, s5, s6⟩ := I; have hsl : zas (.str nm) (.int ((nm.length : Int) - (ls.length : Int))) .nul = some (.str (nm.drop (nm.length - ls.length))) := by
    have h0 := hn.2; have : zaz nm.length ((nm.length : Int) - (ls.length : Int)) = nm.length - ls.length := by
      unfold zaz; rw [if_neg (by omega)]; omega
    simp only [zas, zbw, this, cut, List.take_length]
  have hf := hΓ fs nm h1 hn.1; have hl := hΓ ls (nm.drop (nm.length - ls.length)) h2 (List.all_eq_true.mpr fun x hx => List.all_eq_true.mp hn.1 x (List.mem_of_mem_drop hx))
  have e1 : evS Γ 0 (.assign 8 (.bin .Sub (.len (.var 7)) (.len (.var 5)))) (zaa σ 7 (.val (.str nm))) = some (.next, zaa (zaa σ 7 (.val (.str nm))) 8 (.val (.int ((nm.length : Int) - (ls.length : Int))))) := by
    simp [zac, evS, evE, zag, zah, fin, asB, gV, gP, gE, gv, gp, gZ, gA, gS, gL, lS, lL, sZ, fg, zak, truthy, zae, eqo, zaj, zaf, zb3, z, s5]
  generalize hs : zaa (zaa σ 7 (.val (.str nm))) 8 (.val (.int ((nm.length : Int) - (ls.length : Int)))) = σ1 at *; have z' : ln σ1 = 9 := by rw [← hs]; simp [gS, gL, lS, lL, fg, z]
  have t2 : gt σ1 2 = some (.val (.bool st)) := by rw [← hs]; simp [gS, gL, lS, lL, fg, s2]
  have t3 : gt σ1 3 = some (.val (.int (fs.length : Int))) := by rw [← hs]; simp [gS, gL, lS, lL, fg, s3]
  have t4 : gt σ1 4 = some (.val (.list (fs.map itm))) := by rw [← hs]; simp [gS, gL, lS, lL, fg, s4]
  have t5 : gt σ1 5 = some (.val (.list (ls.map itm))) := by rw [← hs]; simp [gS, gL, lS, lL, fg, s5]
  have t6 : gt σ1 6 = some (.own acc) := by rw [← hs]; simp [gS, gL, lS, lL, fg, s6]
  have t7 : gt σ1 7 = some (.val (.str nm)) := by rw [← hs]; simp [gS, gL, lS, lL, fg, z]
  have t8 : gt σ1 8 = some (.val (.int ((nm.length : Int) - (ls.length : Int)))) := by rw [← hs]; simp [gS, gL, lS, lL, fg, z]
  have hc : asB (evE Γ (.bop true (.ife (.var 2) (.cmp .GtE (.var 8) (.var 3)) (.cmp .Eq (.var 8) (.var 3))) (.bop true (.call (.ref 149) [(.var 4), (.var 7)]) (.call (.ref 149) [(.var 5), (.slc (.var 7) (.var 8) (.lit .nul))]))) .test σ1) = some (tk fs st ls nm) := by
    have hq : asB (evE Γ (.ife (.var 2) (.cmp .GtE (.var 8) (.var 3)) (.cmp .Eq (.var 8) (.var 3))) .test σ1) = some (if st then decide (fs.length + ls.length ≤ nm.length) else decide (nm.length = fs.length)) := by
      have h0 := hn.2
      cases st with
      | true =>
        have : decide ((fs.length : Int) ≤ (nm.length : Int) - (ls.length : Int)) = decide (fs.length + ls.length ≤ nm.length) := by
          apply decide_eq_decide.mpr; omega
        simp [zac, evS, evE, zag, zah, fin, asB, gV, gP, gE, gv, gp, gZ, gA, gS, gL, lS, lL, sZ, fg, zak, truthy, zae, eqo, zaj, zaf, t2, t3, t8]
        omega
      | false =>
        rw [hst rfl] at t8
        simp [zac, evS, evE, zag, zah, fin, asB, gV, gP, gE, gv, gp, gZ, gA, gS, gL, lS, lL, sZ, fg, zak, truthy, zae, eqo, zaj, zaf, t2, t3, t8]
        omega
    have hf' : asB (evE Γ (.call (.ref 149) [(.var 4), (.var 7)]) .test σ1) = some (zco fs nm) := by simp [zac, evS, evE, zag, zah, fin, asB, gV, gP, gE, gv, gp, gZ, gA, gS, gL, lS, lL, sZ, fg, zak, truthy, zae, eqo, zaj, zaf, t4, t7, hf]
    have hl' : asB (evE Γ (.call (.ref 149) [(.var 5), (.slc (.var 7) (.var 8) (.lit .nul))]) .test σ1) = some (zco ls (nm.drop (nm.length - ls.length))) := by simp [zac, evS, evE, zag, zah, fin, asB, gV, gP, gE, gv, gp, gZ, gA, gS, gL, lS, lL, sZ, fg, zak, truthy, zae, eqo, zaj, zaf, t5, t7, t8, hsl, hl]
    have bopT : ∀ (a b : PE) (x y : Bool), asB (evE Γ a .test σ1) = some x → asB (evE Γ b .test σ1) = some y → asB (evE Γ (.bop true a b) .test σ1) = some (x && y) := by
      intro a b x y ha hb; rw [evE, ha]
      cases x with
      | true => simp [hb]
      | false => simp [asB]
    exact bopT _ _ _ _ hq (bopT _ _ _ _ hf' hl')
  refine ⟨if tk fs st ls nm then σ1.set 6 (.own (acc ++ [.str nm])) else σ1, ?_, ?_⟩
  · rw [kb, zai e1, zac, evS, hc]
    cases tk fs st ls nm with
    | true => simp [zac, evS, evE, zag, zah, fin, asB, gV, gP, gE, gv, gp, gZ, gA, gS, gL, lS, lL, sZ, fg, zak, truthy, zae, eqo, zaj, zaf, t6, t7, hz]
    | false => simp [zac]
  · cases tk fs st ls nm with
    | true => constructor <;> simp [gS, gL, lS, lL, fg, z', t2, t3, t4, t5, t6]
    | false => exact ⟨z', t2, t3, t4, t5, t6⟩
theorem zhs {Γ : Gam} {st : Bool} {fs ls : List U} (hst : st = false → ls = [])
    (hΓ : ∀ (us : List U) (s : List Nat), (∀ u ∈ us, za2 u = false) → zbq s = true → Γ (.ref 149) [.list (us.map itm), .str s] = some (.bool (zco us s)))
    (h1 : ∀ u ∈ fs, za2 u = false) (h2 : ∀ u ∈ ls, za2 u = false) : ∀ (H : List (List Nat)) (acc : List PV) (σ : zad), (∀ nm ∈ H, okNm ls nm) → acc.length + H.length ≤ small → KI st fs ls acc σ →
    ∃ σ', zbx (.one 7) (zac Γ 0 kb) (H.map .str) σ = some (.next, σ') ∧ KI st fs ls (acc ++ (H.filter (tk fs st ls)).map .str) σ'
  | [], acc, σ, _, _, I => ⟨σ, rfl, by simpa using I⟩
  | nm :: H, acc, σ, h, hz, I => by
    obtain ⟨σ1, e1, I1⟩ := kb_ev (Γ := Γ) hst hΓ h1 h2 (h nm (List.mem_cons_self ..)) (by simp at hz; omega) I; obtain ⟨σ2, e2, I2⟩ := zhs hst hΓ h1 h2 H _ σ1 (fun x hx => h x (List.mem_cons_of_mem _ hx)) (by split <;> simp at hz ⊢ <;> omega) I1
    refine ⟨σ2, by simp only [List.map_cons, zbx, Tgt.put, e1, e2], ?_⟩; rw [List.filter_cons]
    cases ht : tk fs st ls nm with
    | true => simpa [ht] using I2
    | false => simpa [ht] using I2
theorem zgk (u : U) : PyData.eqv (zbg (itm u)) .none = za2 u := by cases u <;> rfl
theorem zgq : ∀ us : List U, zbf 8 (us.map itm) = true
  | [] => rfl
  | u :: us => by
    have := zgq us; simp only [List.map_cons, zbf, this, Bool.and_true]
    cases u <;> rfl
theorem any_star : ∀ us : List U, ((za9 (us.map itm)).any fun y => PyData.eqv y (zbg .nul)) = us.any za2
  | [] => rfl
  | u :: us => by
    have h1 : PyData.eqv (zbg (itm u)) (zbg .nul) = za2 u := zgk u; simp only [List.map_cons, za9, List.any_cons, any_star us, h1]
theorem find_star : ∀ us : List U, ((za9 (us.map itm)).findIdx? fun y => PyData.eqv y (zbg .nul)) = us.findIdx? za2
  | [] => rfl
  | u :: us => by
    have h1 : PyData.eqv (zbg (itm u)) (zbg .nul) = za2 u := zgk u; simp only [List.map_cons, za9, List.findIdx?_cons, find_star us, h1]
theorem g156 {k : Nat} {st : Bool} {fs ls : List U} {H : List (List Nat)} (hst : st = false → ls = []) (h1 : ∀ u ∈ fs, za2 u = false) (h2 : ∀ u ∈ ls, za2 u = false) (hH : ∀ nm ∈ H, okNm ls nm) (hl : H.length ≤ 64) :
    gam (k + 2) (.ref 156) [.list ((fs ++ (stU st ++ ls)).map itm), .list (H.map .str)] = some (.list ((H.filter (tk fs st ls)).map .str)) := by
  rw [zbj (by decide) (by decide) (by rfl) rfl]; generalize hits : (fs ++ (stU st ++ ls)).map itm = its; have hstar : (fs ++ (stU st ++ ls)).any za2 = st := by
    have ha : fs.any za2 = false := List.any_eq_false.mpr fun u hu => by rw [h1 u hu]; simp
    have hb : ls.any za2 = false := List.any_eq_false.mpr fun u hu => by rw [h2 u hu]; simp
    rw [List.any_append, List.any_append, ha, hb]
    cases st <;> rfl
  have hin : zbz .nul its = some st := by
    unfold zbz; rw [← hits, zgq]; simp only [za6, Bool.and_self, if_true]; rw [any_star, hstar]
  have hidx : st = true → za3 "index" (.list its) [.nul] = some (.int (fs.length : Int)) := by
    intro hs; have e : za3 "index" (.list its) [.nul] = match zds .nul its with | some k => some (.int (k : Int)) | none => none := rfl
    have : zds .nul its = some fs.length := by
      unfold zds; rw [← hits, zgq]; simp only [za6, Bool.and_self, if_true]; rw [find_star, hs]; rw [List.findIdx?_append]; have : fs.findIdx? za2 = none := List.findIdx?_eq_none_iff.mpr fun u hu => h1 u hu
      rw [this]; simp [stU, za2, List.findIdx?_cons]
    rw [e, this]
  have hlen : its.length = fs.length + ((stU st).length + ls.length) := by rw [← hits]; simp
  have hst0 : st = false → its.length = fs.length := fun h => by rw [hlen, hst h, h]; rfl
  have hs1 : zas (.list its) .nul (.int (fs.length : Int)) = some (.list (fs.map itm)) := by
    have : zaz its.length (fs.length : Int) = fs.length := by unfold zaz; rw [if_neg (by omega)]; simp; omega
    have e2 : its.take fs.length = fs.map itm := by rw [← hits, List.map_append, List.take_left' (by simp)]
    simp only [zas, zbw, this, cut, List.drop_zero, e2]
  have hs2 : zas (.list its) (.int ((fs.length : Int) + 1)) .nul = some (.list (ls.map itm)) := by
    cases st with
    | true =>
      have hl' : its.length = fs.length + (1 + ls.length) := hlen
      have : zaz its.length ((fs.length : Int) + 1) = fs.length + 1 := by unfold zaz; rw [if_neg (by omega)]; omega
      have e2 : its.drop (fs.length + 1) = ls.map itm := by
        rw [← hits, List.map_append, List.map_append, ← List.append_assoc, List.drop_left' (by simp [stU])]
      simp only [zas, zbw, this, cut, List.take_length, e2]
    | false =>
      have hl' := hst0 rfl
      have : zaz its.length ((fs.length : Int) + 1) = its.length := by unfold zaz; rw [if_neg (by omega)]; omega
      have e2 : its.drop its.length = ls.map itm := by rw [List.drop_length, hst rfl]; rfl
      simp only [zas, zbw, this, cut, List.take_length, e2]
  have key : ∃ σ', zac (gam (k + 1)) 0 b156 ([PV.list its, .list (H.map .str)].map Mine.Slot.val ++ List.replicate (9 - [PV.list its, PV.list (H.map .str)].length) .unset) = some (.ret (.list ((H.filter (tk fs st ls)).map .str)), σ') := by
    generalize hσ : ([PV.list its, .list (H.map .str)].map Mine.Slot.val ++ List.replicate (9 - [PV.list its, PV.list (H.map .str)].length) .unset : zad) = σ0; have z : ln σ0 = 9 := by rw [← hσ]; rfl
    have s0 : gt σ0 0 = some (.val (.list its)) := by rw [← hσ]; rfl
    have s1 : gt σ0 1 = some (.val (.list (H.map .str))) := by rw [← hσ]; rfl
    clear hσ; have f1 : evS (gam (k + 1)) 0 (.assign 2 (.cmp .In (.lit .nul) (.var 0))) σ0 = some (.next, zaa σ0 2 (.val (.bool st))) := by
      refine za5 ?_; have : zae .In .nul (.list its) = zbz .nul its := rfl; simp [evE, fin, gV, gv, gZ, s0, this, hin]
    have f2 : evS (gam (k + 1)) 0 (.assign 3 (.ife (.var 2) (.meth "index" (.var 0) [(.lit .nul)]) (.len (.var 0)))) (zaa σ0 2 (.val (.bool st))) = some (.next, zaa (zaa σ0 2 (.val (.bool st))) 3 (.val (.int (fs.length : Int)))) := by
      refine za5 ?_
      cases st with
      | true => simp [zac, evS, evE, zag, zah, fin, asB, gV, gP, gE, gv, gp, gZ, gA, gS, gL, lS, lL, sZ, fg, zak, truthy, zae, eqo, zaj, zaf, z, s0, hidx rfl]
      | false => simp [zac, evS, evE, zag, zah, fin, asB, gV, gP, gE, gv, gp, gZ, gA, gS, gL, lS, lL, sZ, fg, zak, truthy, zae, eqo, zaj, zaf, zb3, z, s0, hst0 rfl]
    have f3 : evS (gam (k + 1)) 0 (.assign 4 (.slc (.var 0) (.lit .nul) (.var 3))) (zaa (zaa σ0 2 (.val (.bool st))) 3 (.val (.int (fs.length : Int)))) = some (.next, zaa (zaa (zaa σ0 2 (.val (.bool st))) 3 (.val (.int (fs.length : Int)))) 4 (.val (.list (fs.map itm)))) := by
      refine za5 ?_; simp [zac, evS, evE, zag, zah, fin, asB, gV, gP, gE, gv, gp, gZ, gA, gS, gL, lS, lL, sZ, fg, zak, truthy, zae, eqo, zaj, zaf, z, s0, hs1]
    have f4 : evS (gam (k + 1)) 0 (.assign 5 (.slc (.var 0) (.bin .Add (.var 3) (.lit (.int 1))) (.lit .nul))) (zaa (zaa (zaa σ0 2 (.val (.bool st))) 3 (.val (.int (fs.length : Int)))) 4 (.val (.list (fs.map itm)))) = some (.next, zaa (zaa (zaa (zaa σ0 2 (.val (.bool st))) 3 (.val (.int (fs.length : Int)))) 4 (.val (.list (fs.map itm)))) 5 (.val (.list (ls.map itm)))) := by
      refine za5 ?_; simp [zac, evS, evE, zag, zah, fin, asB, gV, gP, gE, gv, gp, gZ, gA, gS, gL, lS, lL, sZ, fg, zak, truthy, zae, eqo, zaj, zaf, z, s0, hs2]
    have f5 : ∀ σ : zad, evS (gam (k + 1)) 0 (.own 6) σ = some (.next, zaa σ 6 (.own [])) := fun σ => by simp [zac, evS, evE, zag, zah, fin, asB, gV, gP, gE, gv, gp, gZ, gA, gS, gL, lS, lL, sZ, fg, zak, truthy, zae, eqo, zaj, zaf]
    have I : KI st fs ls [] (zaa (zaa (zaa (zaa (zaa σ0 2 (.val (.bool st))) 3 (.val (.int (fs.length : Int)))) 4 (.val (.list (fs.map itm)))) 5 (.val (.list (ls.map itm)))) 6 (.own [])) := by
      constructor <;> simp [gS, gL, lS, lL, fg, z]
    obtain ⟨σ1, e1, I1⟩ := zhs (Γ := gam (k + 1)) hst (fun us s h hs => g149 h hs) h1 h2 H [] _ hH (by unfold small; simp; omega) I
    have t1 : gt (zaa (zaa (zaa (zaa (zaa σ0 2 (.val (.bool st))) 3 (.val (.int (fs.length : Int)))) 4 (.val (.list (fs.map itm)))) 5 (.val (.list (ls.map itm)))) 6 (.own [])) 1 = some (.val (.list (H.map .str))) := by
      simp [gS, gL, lS, lL, fg, s1]
    rw [b156, zai f1, zai f2, zai f3, zai f4, zai (f5 _)]; generalize zaa (zaa (zaa (zaa (zaa σ0 2 (.val (.bool st))) 3 (.val (.int (fs.length : Int)))) 4 (.val (.list (fs.map itm)))) 5 (.val (.list (ls.map itm)))) 6 (.own []) = σ2 at *; have f6 : evS (gam (k + 1)) 0 (.for (.one 7) .plain (.var 1) (.lit .nul) kb) σ2 = some (.next, σ1) := by
      have a0 : evE (gam (k + 1)) (.var 1) .val σ2 = some (.list (H.map .str)) := by simp [zac, evS, evE, zag, zah, fin, asB, gV, gP, gE, gv, gp, gZ, gA, gS, gL, lS, lL, sZ, fg, zak, truthy, zae, eqo, zaj, zaf, t1]
      have a1 : evE (gam (k + 1)) (.lit .nul) .val σ2 = some .nul := by simp [zac, evS, evE, zag, zah, fin, asB, gV, gP, gE, gv, gp, gZ, gA, gS, gL, lS, lL, sZ, fg, zak, truthy, zae, eqo, zaj, zaf]
      rw [evS, a0, a1]; simp only [zau, za7, e1]
    rw [zai f6]; refine ⟨frzA σ1, zdm ?_⟩; simp [zac, evS, evE, zag, zah, fin, asB, gV, gP, gE, gv, gp, gZ, gA, gS, gL, lS, lL, sZ, fg, zak, truthy, zae, eqo, zaj, zaf, I1.s6]
  obtain ⟨σ', h⟩ := key; exact zbo h
end Mine
namespace Mine
open PySem
theorem str_eqv (a b : List Nat) : PyData.eqv (zbg (.str a)) (zbg (.str b)) = decide (a = b) := by
  show ((⟨a.toArray⟩ : Str) == ⟨b.toArray⟩) = decide (a = b); by_cases h : a = b
  · subst h; simp
  · rw [decide_eq_false h, beq_eq_false_iff_ne]; intro q; injection q with q; exact h (by simpa using congrArg Array.toList q)
theorem zdu : ∀ (n : Nat) (l : List (List Nat)), zbf n (l.map .str) = true
  | n, [] => by cases n <;> rfl
  | n, x :: r => by
    have := zdu n r
    cases n <;> simp only [List.map_cons, zbf, za6, this, Bool.and_self]
theorem zht : ∀ l : List (List Nat), za9 (l.map .str) = l.map fun x => zbg (.str x)
  | [] => rfl
  | x :: r => by simp only [List.map_cons, za9, zht r]
theorem zg5 (x : List Nat) (l : List (List Nat)) : zbz (.str x) (l.map .str) = some (l.contains x) := by
  unfold zbz; rw [zdu]; simp only [za6, Bool.and_self, if_true]; congr 1
  induction l with
  | nil => rfl
  | cons y r ih =>
    simp only [List.map_cons, za9, List.any_cons, List.contains_cons]
    rw [ih, str_eqv]
    congr 1
    by_cases h : x = y
    · subst h; simp
    · have : ¬ y = x := fun q => h q.symm
      rw [decide_eq_false this, beq_eq_false_iff_ne.mpr h]
theorem index_strs (x : List Nat) (l : List (List Nat)) : zds (.str x) (l.map .str) = l.findIdx? (fun y => decide (y = x)) := by
  unfold zds; rw [zdu]; simp only [za6, Bool.and_self, if_true]; rw [zht, List.findIdx?_map]; congr 1
  funext y
  exact str_eqv y x
theorem ze7 : ∀ (l l' : List (List Nat)), PyData.eqvAll (za9 (l.map .str)) (za9 (l'.map .str)) = decide (l = l')
  | [], [] => rfl
  | [], _ :: _ => rfl
  | _ :: _, [] => rfl
  | x :: r, y :: r' => by
    simp only [List.map_cons, za9, PyData.eqvAll, str_eqv, ze7 r r']; by_cases h1 : x = y <;> by_cases h2 : r = r' <;> simp [h1, h2]
theorem zgj (l l' : List (List Nat)) : eqo (.list (l.map .str)) (.list (l'.map .str)) = some (decide (l = l')) := by
  have : eqo (.list (l.map .str)) (.list (l'.map .str)) = if za6 8 (.list (l.map .str)) && za6 8 (.list (l'.map .str)) then some (PyData.eqv (zbg (.list (l.map .str))) (zbg (.list (l'.map .str)))) else none := rfl; rw [this]; simp only [za6, zdu, Bool.and_self, if_true, zbg, PyData.eqv, ze7]
theorem eqo_tups (a b c d : List (List Nat)) : eqo (.tup [.list (a.map .str), .list (b.map .str)]) (.tup [.list (c.map .str), .list (d.map .str)]) = some (decide (a = c) && decide (b = d)) := by
  have : ∀ x y : List PV, eqo (.tup x) (.tup y) = if za6 8 (.tup x) && za6 8 (.tup y) then some (PyData.eqv (zbg (.tup x)) (zbg (.tup y))) else none := fun _ _ => rfl
  rw [this]; simp only [za6, zbf, zdu, Bool.and_self, if_true, zbg, za9, PyData.eqv, PyData.eqvAll, ze7, Bool.and_true]
section
variable {α : Type} {hs : α → List Nat} {V : List α}
def sel (hs : α → List Nat) (V : List α) (f : α → Bool) : List (List Nat) := (V.filter f).map hs
abbrev Asc (hs : α → List Nat) (V : List α) : Prop := (V.map hs).Pairwise (· < ·)
theorem Asc.inj (A : Asc hs V) : ∀ a ∈ V, ∀ b ∈ V, hs a = hs b → a = b := by
  induction V with
  | nil => intro a ha; cases ha
  | cons x r ih =>
    have A' : (hs x :: r.map hs).Pairwise (· < ·) := A
    obtain ⟨h1, h2⟩ := List.pairwise_cons.mp A'
    have hne : ∀ y ∈ r, hs x ≠ hs y := fun y hy q => by
      have := h1 (hs y) (List.mem_map_of_mem hy); rw [q] at this; exact List.lt_irrefl _ this
    intro a ha b hb e
    rcases List.mem_cons.mp ha with ea | ha'
    · rcases List.mem_cons.mp hb with eb | hb'
      · rw [ea, eb]
      · rw [ea] at e; exact absurd e (hne b hb')
    · rcases List.mem_cons.mp hb with eb | hb'
      · rw [eb] at e; exact absurd e.symm (hne a ha')
      · exact ih h2 a ha' b hb' e
theorem Asc.sel (A : Asc hs V) (f : α → Bool) : (sel hs V f).Pairwise (· < ·) :=
  List.Pairwise.sublist (List.Sublist.map hs List.filter_sublist) A
theorem sel_mem (A : Asc hs V) (f : α → Bool) {a : α} (ha : a ∈ V) : (sel hs V f).contains (hs a) = f a := by
  cases hf : f a with
  | true => exact List.contains_iff_mem.mpr (List.mem_map.mpr ⟨a, List.mem_filter.mpr ⟨ha, hf⟩, rfl⟩)
  | false =>
    cases hc : (Mine.sel hs V f).contains (hs a) with
    | false => rfl
    | true =>
      obtain ⟨b, hb, e⟩ := List.mem_map.mp (List.contains_iff_mem.mp hc)
      obtain ⟨hb, hfb⟩ := List.mem_filter.mp hb
      rw [A.inj b hb a ha e, hf] at hfb
      cases hfb
theorem zf6 (A : Asc hs V) (f g : α → Bool) : (sel hs V f).filter (fun t => !(sel hs V g).contains t) = sel hs V fun a => f a && !g a := by
  have key : ∀ W : List α, (∀ a ∈ W, a ∈ V) → ((W.filter f).map hs).filter (fun t => !(sel hs V g).contains t) = (W.filter fun a => f a && !g a).map hs := by
    intro W
    induction W with
    | nil => intro _; rfl
    | cons x r ih =>
      intro h
      have hx := sel_mem A g (h x (List.mem_cons_self ..))
      have ih := ih fun a ha => h a (List.mem_cons_of_mem _ ha)
      cases hf : f x with
      | false => simp only [List.filter_cons, hf, Bool.false_and, Bool.false_eq_true, if_false]; exact ih
      | true =>
        cases hg : g x with
        | false =>
          rw [hg] at hx
          simp only [List.filter_cons, hf, hg, Bool.true_and, Bool.not_false, if_true, List.map_cons, hx]
          rw [ih]
        | true =>
          rw [hg] at hx
          simp only [List.filter_cons, hf, hg, Bool.true_and, Bool.not_true, Bool.false_eq_true, if_false, if_true, List.map_cons, hx]
          exact ih
  exact key V fun _ h => h
theorem ascS_of : ∀ {l : List (List Nat)}, l.Pairwise (· < ·) → zb1 l = true
  | [], _ => rfl
  | [_], _ => rfl
  | x :: y :: r, h => by
    obtain ⟨h1, h2⟩ := List.pairwise_cons.mp h; simp only [zb1, Bool.and_eq_true, decide_eq_true_eq]; exact ⟨h1 y (List.mem_cons_self ..), ascS_of h2⟩
theorem zcr (f : α → Bool) : (sel hs V f).length ≤ V.length := by
  unfold sel; rw [List.length_map]; exact List.length_filter_le _ _
theorem sld_sel (A : Asc hs V) (hl : V.length ≤ 64) (f g : α → Bool) : sld [.list ((sel hs V f).map .str), .list ((sel hs V g).map .str)] = some (.tup [.list ((sel hs V fun a => f a && !g a).map .str), .list ((sel hs V fun a => g a && !f a).map .str)]) := by
  unfold sld; simp only [strsP]; rw [if_pos]
  · rw [zf6 A, zf6 A]
  · have := zcr (hs := hs) (V := V) f; have := zcr (hs := hs) (V := V) g; simp only [Bool.and_eq_true, decide_eq_true_eq]; exact ⟨⟨⟨ascS_of (A.sel f), ascS_of (A.sel g)⟩, by omega⟩, by omega⟩
theorem zg4 {f g h : α → Bool} (hd : ∀ a, h a = (f a || g a)) (hx : ∀ a, ¬ (f a = true ∧ g a = true)) : ∀ W : List α, (W.filter h).Perm (W.filter f ++ W.filter g)
  | [] => .refl _
  | x :: r => by
    have ih := zg4 hd hx r; have hh := hd x
    cases hf : f x with
    | true =>
      have hg : g x = false := by
        cases hg : g x with
        | false => rfl
        | true => exact absurd ⟨hf, hg⟩ (hx x)
      rw [hf, hg] at hh
      simp only [List.filter_cons, hf, hg, hh, Bool.or_false, if_true, Bool.false_eq_true, if_false, List.cons_append]
      exact ih.cons x
    | false =>
      cases hg : g x with
      | true =>
        rw [hf, hg] at hh
        simp only [List.filter_cons, hf, hg, hh, Bool.or_true, if_true, Bool.false_eq_true, if_false]
        exact (ih.cons x).trans List.perm_middle.symm
      | false =>
        rw [hf, hg] at hh
        simp only [List.filter_cons, hf, hg, hh, Bool.or_false, Bool.false_eq_true, if_false]
        exact ih
theorem lt_nlt {l : List (List Nat)} (h : l.Pairwise (· < ·)) : l.Pairwise (fun a b => ¬ b < a) :=
  h.imp fun {a b} h1 h2 => List.lt_irrefl _ (List.lt_trans h1 h2)
theorem sort_sel (A : Asc hs V) {f g h : α → Bool} (hd : ∀ a, h a = (f a || g a)) (hx : ∀ a, ¬ (f a = true ∧ g a = true)) : zdi (sel hs V f ++ sel hs V g) = sel hs V h := by
  refine (zga ?_ (lt_nlt (A.sel h))).symm; unfold sel; rw [← List.map_append]; exact (zg4 hd hx V).map hs
theorem zep {l : List (List Nat)} (hl : l.length < 64) : zb3 "sorted" [.list (l.map .str)] = some (.list ((zdi l).map .str)) := by
  have : zb3 "sorted" [.list (l.map .str)] = if (l.map PV.str).length < 64 then (zb6? (l.map .str)).map fun l => .list ((zdi l).map .str) else none := rfl
  rw [this, if_pos (by simpa using hl), strsP]; rfl
end
end Mine
namespace Mine
open PySem
abbrev Two := Nat × Nat
abbrev za1 := Two × Two
def s2 (x : Two) : List Nat := [x.1, 46, x.2]
def s4 (h : za1) : List Nat := [h.1.1, 46, h.1.2, 46, h.2.1, 46, h.2.2]
def TW (p q : Nat) : List Two := [(p, p), (p, q), (q, p), (q, q)]
def HW (p q : Nat) : List za1 := (TW p q).flatMap fun x => (TW p q).map fun y => (x, y)
theorem asc2 {p q : Nat} (h : p < q) : Asc s2 (TW p q) := by
  simp [Asc, TW, s2, List.cons_lt_cons_iff, h]
theorem asc4 {p q : Nat} (h : p < q) : Asc s4 (HW p q) := by
  simp [Asc, HW, TW, s4, List.cons_lt_cons_iff, h]
theorem zem {p q : Nat} {x : Two} (h : x ∈ TW p q) : (x.1 = p ∨ x.1 = q) ∧ (x.2 = p ∨ x.2 = q) := by
  simp [TW] at h; rcases h with rfl | rfl | rfl | rfl <;> simp
theorem HW_mem {p q : Nat} {h : za1} (x : h ∈ HW p q) : h.1 ∈ TW p q ∧ h.2 ∈ TW p q := by
  simp only [HW, List.mem_flatMap, List.mem_map] at x; obtain ⟨a, ha, b, hb, rfl⟩ := x; exact ⟨ha, hb⟩
theorem mem_HW {p q : Nat} {h : za1} (h1 : h.1 ∈ TW p q) (h2 : h.2 ∈ TW p q) : h ∈ HW p q := by
  simp only [HW, List.mem_flatMap, List.mem_map]; exact ⟨h.1, h1, h.2, h2, rfl⟩
theorem HW_len (p q : Nat) : (HW p q).length = 16 := rfl
def okK (p q j x : Nat) : Bool := if j = 0 then x == p else if j = 1 then x == q else if j = 2 then true else !(x == p)
def okL (p q : Nat) (n : Int) : Nat → List Nat → Bool
  | _, [] => true
  | i, x :: xs => okK p q (nk n i) x && okL p q n (i + 1) xs
def plainL (p q : Nat) (n : Int) (l : List Nat) : Bool := okL p q n 0 (l.take (nf n) ++ l.drop (4 - nl n))
def zar (p q : Nat) (n : Int) (h : za1) : Bool := plainL p q n [h.1.1, h.1.2, h.2.1, h.2.2]
theorem fit_unit {p q j x : Nat} (hj : j < 4) : fitU (zbk p q j) x = okK p q j x := by
  have : j = 0 ∨ j = 1 ∨ j = 2 ∨ j = 3 := by omega
  rcases this with rfl | rfl | rfl | rfl
  · by_cases h : p = 42 ∨ p = 63 ∨ p = 91
    · simp [zbk, okK, zcl, h, fitU]
    · simp [zbk, okK, zcl, h, fitU]
  · by_cases h : q = 42 ∨ q = 63 ∨ q = 91
    · simp [zbk, okK, zcl, h, fitU]
    · simp [zbk, okK, zcl, h, fitU]
  · rfl
  · rfl
theorem tk_plain (p q : Nat) (n : Int) (h : za1) : tk (patF p q n) (patS n) (patL p q n) (s4 h) = zar p q n h := by
  obtain ⟨⟨a, b⟩, ⟨c, d⟩⟩ := h; have hf := nf_lt n; have hl := nl_lt n; have cf : nf n = 0 ∨ nf n = 1 ∨ nf n = 2 := by omega
  have cl : nl n = 0 ∨ nl n = 1 ∨ nl n = 2 := by omega
  have hk := fun i x => fit_unit (p := p) (q := q) (x := x) (nk_lt n i)
  have h46 : fitU (.lit 46) 46 = true := rfl; unfold zar plainL patF patS patL tk s4; rcases cf with hf | hf | hf <;> rcases cl with hl | hl | hl <;> rw [hf, hl] <;> simp [List.range_succ, behind, ahead, zco, okL, hk, h46, Bool.and_assoc]
section
variable {Γ : Gam} {p q : Nat} {n : Int} {σ : zad}
theorem pb_ev {i x : Nat} (hi : i < 4) (z : ln σ = 8) (s0 : gt σ 0 = some (.val (zal p q))) (s1 : gt σ 1 = some (.val (.int n))) :
    ∃ σ', zac Γ 0 pb (zaa (zaa σ 5 (.val (.int (i : Int)))) 6 (.val (.str [x]))) = some (if okK p q (nk n i) x then .next else .ret (.bool false), σ') ∧ (okK p q (nk n i) x = true → ln σ' = 8 ∧ gt σ' 0 = some (.val (zal p q)) ∧ gt σ' 1 = some (.val (.int n))) := by
  have hk := nk_int n i; have hk4 := nk_lt n i; have h1 : (0 : Int) ≤ (i : Int) ∧ (i : Int) ≤ 16 ∧ (0 : Int) ≤ 4 ∧ (4 : Int) ≤ 64 := by omega
  have h2 : (0 : Int) < 4 ^ i ∧ (4 : Int) ^ i < 1000000000 := by
    have : i = 0 ∨ i = 1 ∨ i = 2 ∨ i = 3 := by omega
    rcases this with rfl | rfl | rfl | rfl <;> decide
  generalize hj : nk n i = j at *; have e1 : evS Γ 0 (.assign 7 (.bin .Mod (.bin .FloorDiv (.bin .FloorDiv (.var 1) (.lit (.int 9))) (.bin .Pow (.lit (.int 4)) (.var 5))) (.lit (.int 4)))) (zaa (zaa σ 5 (.val (.int (i : Int)))) 6 (.val (.str [x]))) = some (.next, zaa (zaa (zaa σ 5 (.val (.int (i : Int)))) 6 (.val (.str [x]))) 7 (.val (.int (j : Int)))) := by
    refine za5 ?_; simp [zac, evS, evE, zag, zah, fin, asB, gV, gP, gE, gv, gp, gZ, gA, gS, gL, lS, lL, sZ, fg, zak, truthy, zae, eqo, zaj, zaf, z, s1, h1, h2, hk]
  generalize hs : zaa (zaa (zaa σ 5 (.val (.int (i : Int)))) 6 (.val (.str [x]))) 7 (.val (.int (j : Int))) = σ1 at *; have z' : ln σ1 = 8 := by rw [← hs]; simp [gS, gL, lS, lL, fg, z]
  have t0 : gt σ1 0 = some (.val (zal p q)) := by rw [← hs]; simp [gS, gL, lS, lL, fg, s0]
  have t1 : gt σ1 1 = some (.val (.int n)) := by rw [← hs]; simp [gS, gL, lS, lL, fg, s1]
  have t6 : gt σ1 6 = some (.val (.str [x])) := by rw [← hs]; simp [gS, gL, lS, lL, fg, z]
  have t7 : gt σ1 7 = some (.val (.int (j : Int))) := by rw [← hs]; simp [gS, gL, lS, lL, fg, z]
  have i0 : zan (zal p q) (.int 0) = some (.str [p]) := rfl; have i1 : zan (zal p q) (.int 1) = some (.str [q]) := rfl; rw [pb, zai e1]; have : j = 0 ∨ j = 1 ∨ j = 2 ∨ j = 3 := by omega
  rcases this with rfl | rfl | rfl | rfl
  · by_cases h : x = p
    · refine ⟨σ1, ?_, fun _ => ⟨z', t0, t1⟩⟩
      simp [zac, evS, evE, zag, zah, fin, asB, gV, gP, gE, gv, gp, gZ, gA, gS, gL, lS, lL, sZ, fg, zak, truthy, zae, eqo, zaj, zaf, z', t0, t1, t6, t7, i0, i1, okK, h]
    · refine ⟨frzA σ1, ?_, fun q => by simp [okK, h] at q⟩
      simp [zac, evS, evE, zag, zah, fin, asB, gV, gP, gE, gv, gp, gZ, gA, gS, gL, lS, lL, sZ, fg, zak, truthy, zae, eqo, zaj, zaf, z', t0, t1, t6, t7, i0, i1, okK, h]
  · by_cases h : x = q
    · refine ⟨σ1, ?_, fun _ => ⟨z', t0, t1⟩⟩
      simp [zac, evS, evE, zag, zah, fin, asB, gV, gP, gE, gv, gp, gZ, gA, gS, gL, lS, lL, sZ, fg, zak, truthy, zae, eqo, zaj, zaf, z', t0, t1, t6, t7, i0, i1, okK, h]
    · refine ⟨frzA σ1, ?_, fun q => by simp [okK, h] at q⟩
      simp [zac, evS, evE, zag, zah, fin, asB, gV, gP, gE, gv, gp, gZ, gA, gS, gL, lS, lL, sZ, fg, zak, truthy, zae, eqo, zaj, zaf, z', t0, t1, t6, t7, i0, i1, okK, h]
  · refine ⟨σ1, ?_, fun _ => ⟨z', t0, t1⟩⟩
    simp [zac, evS, evE, zag, zah, fin, asB, gV, gP, gE, gv, gp, gZ, gA, gS, gL, lS, lL, sZ, fg, zak, truthy, zae, eqo, zaj, zaf, z', t0, t1, t6, t7, i0, i1, okK]
  · by_cases h : x = p
    · refine ⟨frzA σ1, ?_, fun q => by simp [okK, h] at q⟩
      simp [zac, evS, evE, zag, zah, fin, asB, gV, gP, gE, gv, gp, gZ, gA, gS, gL, lS, lL, sZ, fg, zak, truthy, zae, eqo, zaj, zaf, z', t0, t1, t6, t7, i0, i1, okK, h]
    · refine ⟨σ1, ?_, fun _ => ⟨z', t0, t1⟩⟩
      simp [zac, evS, evE, zag, zah, fin, asB, gV, gP, gE, gv, gp, gZ, gA, gS, gL, lS, lL, sZ, fg, zak, truthy, zae, eqo, zaj, zaf, z', t0, t1, t6, t7, i0, i1, okK, h]
theorem zhp : ∀ (xs : List Nat) (i : Nat) (σ : zad), i + xs.length ≤ 4 → ln σ = 8 → gt σ 0 = some (.val (zal p q)) → gt σ 1 = some (.val (.int n)) →
    ∃ σ', zbx (.two 5 6) (zac Γ 0 pb) (zdr i (xs.map fun c => .str [c])) σ = some (if okL p q n i xs then .next else .ret (.bool false), σ')
  | [], i, σ, _, _, _, _ => ⟨σ, rfl⟩
  | x :: xs, i, σ, hi, z, s0, s1 => by
    obtain ⟨σ1, e1, h1⟩ := pb_ev (Γ := Γ) (i := i) (x := x) (by simp at hi; omega) z s0 s1; simp only [List.map_cons, zdr, zbx, Tgt.put, e1]
    cases hf : okK p q (nk n i) x with
    | false => exact ⟨σ1, by simp [okL, hf]⟩
    | true =>
      obtain ⟨z1, t0, t1⟩ := h1 hf
      obtain ⟨σ2, e2⟩ := zhp xs (i + 1) σ1 (by simp at hi; omega) z1 t0 t1
      exact ⟨σ2, by simp [okL, hf, e2]⟩
end
theorem split4 {h : za1} (h1 : h.1.1 ≠ 46) (h2 : h.1.2 ≠ 46) (h3 : h.2.1 ≠ 46) (h4 : h.2.2 ≠ 46) : za4 46 (s4 h) = [[h.1.1], [h.1.2], [h.2.1], [h.2.2]] := by
  simp [za4, s4, h1, h2, h3, h4]
theorem cut_take {α : Type} (l : List α) (m : Nat) : cut l 0 m = l.take m := rfl
theorem cut_drop {α : Type} (l : List α) (m : Nat) : cut l m l.length = l.drop m := by unfold cut; rw [List.take_length]
theorem slcL_take {l : List PV} {m : Nat} {y : Int} (hy : y = (m : Int)) (h : m ≤ l.length) : zas (.list l) .nul (.int y) = some (.list (l.take m)) := by
  subst hy; have : zaz l.length (m : Int) = m := by unfold zaz; rw [if_neg (by omega)]; omega
  simp only [zas, zbw, this, cut_take]
theorem slcL_drop {l : List PV} {m : Nat} {y : Int} (hy : y = (m : Int)) (h : m ≤ l.length) : zas (.list l) (.int y) .nul = some (.list (l.drop m)) := by
  subst hy; have : zaz l.length (m : Int) = m := by unfold zaz; rw [if_neg (by omega)]; omega
  simp only [zas, zbw, this, cut_drop]
theorem zgo {s : List Nat} {c : Nat} (h : s.length < small) : za3 "split" (.str s) [.str [c]] = some (.list ((za4 c s).map .str)) := by
  have e : za3 "split" (.str s) [.str [c]] = if s.length < small then some (.list ((za4 c s).map .str)) else none := rfl; rw [e, if_pos h]
theorem g135 {k p q : Nat} {n : Int} {h : za1} (h1 : h.1.1 ≠ 46) (h2 : h.1.2 ≠ 46) (h3 : h.2.1 ≠ 46) (h4 : h.2.2 ≠ 46) : gam (k + 1) (.ref 135) [zal p q, .int n, .str (s4 h)] = some (.bool (zar p q n h)) := by
  rw [zbj (by decide) (by decide) (by rfl) rfl]; have hf := nf_lt n; have hl := nl_lt n; have hfi := nf_int n; have hli := nl_int n; have hsp : za3 "split" (.str (s4 h)) [.str [46]] = some (.list ([[h.1.1], [h.1.2], [h.2.1], [h.2.2]].map .str)) := by
    rw [zgo (by simp [s4, small]), split4 h1 h2 h3 h4]
  have ha : zas (.list ([[h.1.1], [h.1.2], [h.2.1], [h.2.2]].map PV.str)) .nul (.int (n % 3)) = some (.list (([h.1.1, h.1.2, h.2.1, h.2.2].take (nf n)).map fun c => .str [c])) := by
    rw [slcL_take hfi (by simp; omega)]; have : ([[h.1.1], [h.1.2], [h.2.1], [h.2.2]].map PV.str) = [h.1.1, h.1.2, h.2.1, h.2.2].map fun c => PV.str [c] := rfl
    rw [this, List.map_take]
  have hb : zas (.list ([[h.1.1], [h.1.2], [h.2.1], [h.2.2]].map PV.str)) (.int (4 - n / 3 % 3)) .nul = some (.list (([h.1.1, h.1.2, h.2.1, h.2.2].drop (4 - nl n)).map fun c => .str [c])) := by
    rw [slcL_drop (m := 4 - nl n) (by omega) (by simp)]; have : ([[h.1.1], [h.1.2], [h.2.1], [h.2.2]].map PV.str) = [h.1.1, h.1.2, h.2.1, h.2.2].map fun c => PV.str [c] := rfl
    rw [this, List.map_drop]
  have hpl : zar p q n h = okL p q n 0 ([h.1.1, h.1.2, h.2.1, h.2.2].take (nf n) ++ [h.1.1, h.1.2, h.2.1, h.2.2].drop (4 - nl n)) := rfl; rw [hpl]; generalize hA : [h.1.1, h.1.2, h.2.1, h.2.2].take (nf n) = A at *; generalize hB : [h.1.1, h.1.2, h.2.1, h.2.2].drop (4 - nl n) = B at *; have lA : A.length = nf n := by rw [← hA]; simp; omega
  have lB : B.length = nl n := by rw [← hB]; simp; omega
  have key : ∃ σ', zac (gam k) 0 b135 ([zal p q, .int n, .str (s4 h)].map Mine.Slot.val ++ List.replicate (8 - [zal p q, PV.int n, .str (s4 h)].length) .unset) = some (.ret (.bool (okL p q n 0 (A ++ B))), σ') := by
    generalize hσ : ([zal p q, .int n, .str (s4 h)].map Mine.Slot.val ++ List.replicate (8 - [zal p q, PV.int n, .str (s4 h)].length) .unset : zad) = σ0; have z : ln σ0 = 8 := by rw [← hσ]; rfl
    have s0 : gt σ0 0 = some (.val (zal p q)) := by rw [← hσ]; rfl
    have s1 : gt σ0 1 = some (.val (.int n)) := by rw [← hσ]; rfl
    have s2' : gt σ0 2 = some (.val (.str (s4 h))) := by rw [← hσ]; rfl
    clear hσ; generalize [[h.1.1], [h.1.2], [h.2.1], [h.2.2]].map PV.str = W at *; have f1 : evS (gam k) 0 (.assign 3 (.meth "split" (.var 2) [(.lit (.str [46]))])) σ0 = some (.next, zaa σ0 3 (.val (.list W))) := by
      refine za5 ?_; simp [zac, evS, evE, zag, zah, fin, asB, gV, gP, gE, gv, gp, gZ, gA, gS, gL, lS, lL, sZ, fg, zak, truthy, zae, eqo, zaj, zaf, z, s0, s1, s2', hsp]
    have f2 : evS (gam k) 0 (.assign 4 (.bin .Add (.slc (.var 3) (.lit .nul) (.bin .Mod (.var 1) (.lit (.int 3)))) (.slc (.var 3) (.bin .Sub (.lit (.int 4)) (.bin .Mod (.bin .FloorDiv (.var 1) (.lit (.int 3))) (.lit (.int 3)))) (.lit .nul)))) (zaa σ0 3 (.val (.list W))) = some (.next, zaa (zaa σ0 3 (.val (.list W))) 4 (.val (.list ((A ++ B).map fun c => .str [c])))) := by
      refine za5 ?_; have hz : A.length + B.length ≤ small := by unfold small; omega
      simp [zac, evS, evE, zag, zah, fin, asB, gV, gP, gE, gv, gp, gZ, gA, gS, gL, lS, lL, sZ, fg, zak, truthy, zae, eqo, zaj, zaf, z, s1, ha, hb, hz]
    generalize hs : zaa (zaa σ0 3 (.val (.list W))) 4 (.val (.list ((A ++ B).map fun c => .str [c]))) = σ1 at *
    have z1 : ln σ1 = 8 := by rw [← hs]; simp [gS, gL, lS, lL, fg, z]
    have t0 : gt σ1 0 = some (.val (zal p q)) := by rw [← hs]; simp [gS, gL, lS, lL, fg, s0]
    have t1 : gt σ1 1 = some (.val (.int n)) := by rw [← hs]; simp [gS, gL, lS, lL, fg, s1]
    have t4 : gt σ1 4 = some (.val (.list ((A ++ B).map fun c => .str [c]))) := by rw [← hs]; simp only [gS, lS, z]; simp
    obtain ⟨σ2, e2⟩ := zhp (Γ := gam k) (p := p) (q := q) (n := n) (A ++ B) 0 σ1 (by simp; omega) z1 t0 t1; have f3 : evS (gam k) 0 (.for (.two 5 6) .enum (.var 4) (.lit .nul) pb) σ1 = some (if okL p q n 0 (A ++ B) then .next else .ret (.bool false), σ2) := by
      have a0 : evE (gam k) (.var 4) .val σ1 = some (.list ((A ++ B).map fun c => .str [c])) := by rw [evE, gV, t4]; rfl
      have a1 : evE (gam k) (.lit .nul) .val σ1 = some .nul := by simp [zac, evS, evE, zag, zah, fin, asB, gV, gP, gE, gv, gp, gZ, gA, gS, gL, lS, lL, sZ, fg, zak, truthy, zae, eqo, zaj, zaf]
      rw [evS, a0, a1]; simp only [zau, e2]
    rw [b135, zai f1, zai f2]
    cases hf : okL p q n 0 (A ++ B) with
    | true =>
      rw [hf] at f3
      rw [zai f3]
      exact ⟨_, zdm rfl⟩
    | false =>
      rw [hf] at f3
      rw [zac, f3]
      exact ⟨_, rfl⟩
  obtain ⟨σ', h⟩ := key; exact zbo h
end Mine
namespace Mine
open PySem
abbrev zab (l : List (List Nat)) : PV := .list (l.map .str)
abbrev zbt (p q : Nat) : List (List Nat) := (HW p q).map s4
theorem filter_selH (p q : Nat) (g : List Nat → Bool) : (zbt p q).filter g = sel s4 (HW p q) fun h => g (s4 h) := by
  unfold zbt sel; rw [List.filter_map]; rfl
theorem filter_sel {α : Type} {hs : α → List Nat} {V : List α} (f : α → Bool) (g : List Nat → Bool) : (sel hs V f).filter g = sel hs V fun h => f h && g (hs h) := by
  unfold sel; rw [List.filter_map, List.filter_filter]; congr 1; refine List.filter_congr fun x _ => ?_
  simp [Bool.and_comm]
theorem PQ.ok4 {p q : Nat} (x : PQ p q) {h : za1} (hh : h ∈ HW p q) : zbq (s4 h) = true ∧ h.1.1 ≠ 46 ∧ h.1.2 ≠ 46 ∧ h.2.1 ≠ 46 ∧ h.2.2 ≠ 46 := by
  obtain ⟨h1, h2⟩ := HW_mem hh; obtain ⟨a, b⟩ := zem h1; obtain ⟨c, d⟩ := zem h2; have hp := sign_lt x.hp; have hq := sign_lt x.hq; have ha : h.1.1 < 128 ∧ h.1.1 ≠ 46 := by rcases a with e | e <;> rw [e] <;> assumption
  have hb : h.1.2 < 128 ∧ h.1.2 ≠ 46 := by rcases b with e | e <;> rw [e] <;> assumption
  have hc : h.2.1 < 128 ∧ h.2.1 ≠ 46 := by rcases c with e | e <;> rw [e] <;> assumption
  have hd : h.2.2 < 128 ∧ h.2.2 ≠ 46 := by rcases d with e | e <;> rw [e] <;> assumption
  exact ⟨by simp [zbq, s4, ha, hb, hc, hd], ha.2, hb.2, hc.2, hd.2⟩
section
variable {p q : Nat} (x : PQ p q)
include x
theorem readPat {k : Nat} {n : Int} : gam (k + 3) (.ref 142) [.str (zbn (patU p q n))] = some (.list ((patU p q n).map itm)) ∧ gam (k + 3) (.ref 50) [.str ((patU p q n).flatMap txt)] = some (.str (zbn (patU p q n))) ∧ gam (k + 3) (.ref 128) [zal p q, .int n] = some (.str ((patU p q n).flatMap txt)) := by
  obtain ⟨h1, h2, h3, h4⟩ := patU_ok x n; have hok : ∀ u ∈ patU p q n, okU u := by
    intro u hu; rcases List.mem_append.mp hu with hu | hu
    · exact (h1 u hu).1
    · rcases List.mem_append.mp hu with hu | hu
      · cases hs : patS n <;> rw [hs] at hu <;> simp [stU] at hu
        subst hu; trivial
      · exact (h2 u hu).1
  have hst : (stU (patS n)).length ≤ 1 := by cases patS n <;> simp [stU]
  refine ⟨g142 hok (by simp [patU]; omega), ?_, g128⟩; exact g50 h4 h1 h2 (by omega)
theorem takenPat {k : Nat} {n : Int} : gam (k + 2) (.ref 156) [.list ((patU p q n).map itm), zab (zbt p q)] = some (zab (sel s4 (HW p q) (zar p q n))) := by
  obtain ⟨h1, h2, h3, h4⟩ := patU_ok x n; have := g156 (k := k) (H := zbt p q) h4 (fun u hu => (h1 u hu).2) (fun u hu => (h2 u hu).2) (fun nm hnm => by
    obtain ⟨h, hh, rfl⟩ := List.mem_map.mp hnm; have hlen : (patL p q n).length ≤ 7 := by
      have hl := nl_lt n; have cl : nl n = 0 ∨ nl n = 1 ∨ nl n = 2 := by omega
      unfold patL; dsimp only
      split
      · simp
      · rcases cl with hl | hl | hl <;> rw [hl] <;> simp [List.range_succ, ahead]
    exact ⟨(x.ok4 hh).1, hlen⟩) (by rw [List.length_map, HW_len]; decide)
  rw [filter_selH] at this; have e : (fun h => tk (patF p q n) (patS n) (patL p q n) (s4 h)) = zar p q n := funext fun h => tk_plain p q n h
  rw [e] at this; exact this
end
theorem cmp_notin (t : List Nat) (l : List PV) : zae .NotIn (.str t) (.list l) = (zbz (.str t) l).map (!·) := by
  cases t with
  | nil => rfl
  | cons a r => cases r <;> rfl
theorem zhi {Γ : Gam} {l m : List (List Nat)} : zbc (.one 1) [.unset, .unset, .val (zab m)] (zah Γ [(.cmp .NotIn (.var 1) (.var 2))]) (evE Γ (.var 1) .val) (l.map .str) = some ((l.filter fun t => !m.contains t).map .str) := by
  refine zb8 (x := 1) (fun t : List Nat => .str t) (fun t => .str t) (fun t => !m.contains t) l fun t _ => ⟨?_, fun _ => rfl⟩
  have hc : zae .NotIn (.str t) (zab m) = some (!m.contains t) := by
    have : zae .NotIn (.str t) (zab m) = (zbz (.str t) (m.map .str)).map (!·) := by
      exact cmp_notin _ _
    rw [this, zg5]; rfl
  show (match asB (evE Γ (.cmp .NotIn (.var 1) (.var 2)) .test (zaa [.unset, .unset, .val (zab m)] 1 (.val (.str t)))) with
      | some true => zah Γ [] (zaa [.unset, .unset, .val (zab m)] 1 (.val (.str t)))
      | r => r) = _
  have e : evE Γ (.cmp .NotIn (.var 1) (.var 2)) .test (zaa [.unset, .unset, .val (zab m)] 1 (.val (.str t))) = some (.bool (!m.contains t)) := by
    have e1 : evE Γ (.var 1) .val (zaa [.unset, .unset, .val (zab m)] 1 (.val (.str t))) = some (.str t) := by rw [evE]; rfl
    have e2 : evE Γ (.var 2) .val (zaa [.unset, .unset, .val (zab m)] 1 (.val (.str t))) = some (zab m) := by rw [evE]; rfl
    rw [evE, e1, e2]; dsimp only; rw [hc]; rfl
  rw [e]
  cases m.contains t <;> rfl
theorem cap3 {σ : zad} {i : Nat} {v : PV} (h : gt σ i = some (.val v)) : zav σ [none, none, some i] = [.unset, .unset, .val v] := by
  simp [zav, gV, gv, h]
def xl (p q : Nat) : List Int → Bool → za1 → Bool
  | [], b, _ => b
  | n :: ns, b, h => xl p q ns (b != zar p q n h) h
structure LI (p q : Nat) (ns : List Int) (f : za1 → Bool) (σ : zad) : Prop where
  z : ln σ = 11
  s0 : gt σ 0 = some (.val (zal p q))
  s1 : gt σ 1 = some (.val (.list (ns.map .int)))
  s2 : gt σ 2 = some (.val (zab (zbt p q)))
  s3 : gt σ 3 = some (.val (zab (sel s4 (HW p q) f)))
section
variable {p q : Nat} (x : PQ p q)
include x
theorem lb_ev {k : Nat} {ns : List Int} {n : Int} {f : za1 → Bool} {σ : zad} (I : LI p q ns f σ) : ∃ σ', zac (gam (k + 3)) 0 lb (zaa σ 4 (.val (.int n))) = some (.next, σ') ∧ LI p q ns (fun h => f h != zar p q n h) σ' := by
  obtain ⟨z, s0, s1, s2, s3⟩ := I; obtain ⟨r1, r2, r3⟩ := readPat x (k := k) (n := n); have r4 := takenPat x (k := k + 1) (n := n); generalize hΓ : gam (k + 3) = Γ at *; have A := asc4 x.lt; have hd1 := zf6 A f (zar p q n); have hd2 := zf6 A (zar p q n) f; have hsld : Γ (.ref 38) [zab (sel s4 (HW p q) f), zab (sel s4 (HW p q) (zar p q n))] = some (.tup [zab (sel s4 (HW p q) fun h => f h && !zar p q n h), zab (sel s4 (HW p q) fun h => zar p q n h && !f h)]) := by
    rw [← hΓ]; exact sld_sel A (by rw [HW_len]; decide) f (zar p q n)
  have hsort := sort_sel A (f := fun h => f h && !zar p q n h) (g := fun h => zar p q n h && !f h) (h := fun h => f h != zar p q n h) (fun h => by cases f h <;> cases zar p q n h <;> rfl) (fun h => by cases f h <;> cases zar p q n h <;> simp)
  have hl1 : (sel s4 (HW p q) fun h => f h && !zar p q n h).length ≤ 16 := zcr _
  have hl2 : (sel s4 (HW p q) fun h => zar p q n h && !f h).length ≤ 16 := zcr _
  have hso : zb3 "sorted" [zab (sel s4 (HW p q) (fun h => f h && !zar p q n h) ++ sel s4 (HW p q) fun h => zar p q n h && !f h)] = some (zab (sel s4 (HW p q) fun h => f h != zar p q n h)) := by
    rw [← hsort]; exact zep (by rw [List.length_append]; omega)
  have hkept := eqo_tups (sel s4 (HW p q) f) (sel s4 (HW p q) (zar p q n)) (sel s4 (HW p q) f) (sel s4 (HW p q) (zar p q n)); have hdiff := eqo_tups (sel s4 (HW p q) fun h => f h && !zar p q n h) (sel s4 (HW p q) fun h => zar p q n h && !f h) (sel s4 (HW p q) fun h => f h && !zar p q n h) (sel s4 (HW p q) fun h => zar p q n h && !f h)
  simp only [decide_true, Bool.and_self] at hkept hdiff; have c1 := zhi (Γ := Γ) (l := sel s4 (HW p q) f) (m := sel s4 (HW p q) (zar p q n)); have c2 := zhi (Γ := Γ) (l := sel s4 (HW p q) (zar p q n)) (m := sel s4 (HW p q) f); rw [hd1] at c1; rw [hd2] at c2; generalize sel s4 (HW p q) f = L at *; generalize sel s4 (HW p q) (zar p q n) = M at *; generalize (sel s4 (HW p q) fun h => f h && !zar p q n h) = D1 at *
  generalize (sel s4 (HW p q) fun h => zar p q n h && !f h) = D2 at *
  generalize hits : (patU p q n).map itm = its at *; generalize hHs : zbt p q = Hs at *; have m1 : evS Γ 0 (.assign 5 (.call (.ref 142) [(.call (.ref 50) [(.call (.ref 128) [(.var 0), (.var 4)])])])) (zaa σ 4 (.val (.int n))) = some (.next, zaa (zaa σ 4 (.val (.int n))) 5 (.val (.list its))) := by
    refine za5 ?_; simp [zac, evS, evE, zag, zah, fin, asB, gV, gP, gE, gv, gp, gZ, gA, gS, gL, lS, lL, sZ, fg, zak, truthy, zae, eqo, zaj, zaf, z, s0, r1, r2, r3]
  generalize hs : zaa (zaa σ 4 (.val (.int n))) 5 (.val (.list its)) = σ1 at *; have z1 : ln σ1 = 11 := by rw [← hs]; simp [gS, gL, lS, lL, fg, z]
  have t0 : gt σ1 0 = some (.val (zal p q)) := by rw [← hs]; simp [gS, gL, lS, lL, fg, s0]
  have t1 : gt σ1 1 = some (.val (.list (ns.map .int))) := by rw [← hs]; simp [gS, gL, lS, lL, fg, s1]
  have t2 : gt σ1 2 = some (.val (zab Hs)) := by rw [← hs]; simp [gS, gL, lS, lL, fg, s2]
  have t3 : gt σ1 3 = some (.val (zab L)) := by rw [← hs]; simp [gS, gL, lS, lL, fg, s3]
  have t5 : gt σ1 5 = some (.val (.list its)) := by rw [← hs]; simp [gS, gL, lS, lL, fg, z]
  clear hs; have m2 : evS Γ 0 (.ite (.cmp .Is (.var 5) (.lit .nul)) [.ret (.lit .nul)] []) σ1 = some (.next, σ1) := by simp [zac, evS, evE, zag, zah, fin, asB, gV, gP, gE, gv, gp, gZ, gA, gS, gL, lS, lL, sZ, fg, zak, truthy, zae, eqo, zaj, zaf, t5]
  have m3 : evS Γ 0 (.assign 6 (.call (.ref 156) [(.var 5), (.var 2)])) σ1 = some (.next, zaa σ1 6 (.val (zab M))) := by
    refine za5 ?_; have a5 : evE Γ (.var 5) .val (frz1 σ1 6) = some (.list its) := by simp [zac, evS, evE, zag, zah, fin, asB, gV, gP, gE, gv, gp, gZ, gA, gS, gL, lS, lL, sZ, fg, zak, truthy, zae, eqo, zaj, zaf, t5]
    have a2 : evE Γ (.var 2) .val (frz1 σ1 6) = some (zab Hs) := by simp [zac, evS, evE, zag, zah, fin, asB, gV, gP, gE, gv, gp, gZ, gA, gS, gL, lS, lL, sZ, fg, zak, truthy, zae, eqo, zaj, zaf, t2]
    rw [evE]; simp only [zag, a5, a2, fin]; exact r4
  generalize hs : zaa σ1 6 (.val (zab M)) = σ2 at *; have z2 : ln σ2 = 11 := by rw [← hs]; simp [gS, gL, lS, lL, fg, z1]
  have u0 : gt σ2 0 = some (.val (zal p q)) := by rw [← hs]; simp [gS, gL, lS, lL, fg, t0]
  have u1 : gt σ2 1 = some (.val (.list (ns.map .int))) := by rw [← hs]; simp [gS, gL, lS, lL, fg, t1]
  have u2 : gt σ2 2 = some (.val (zab Hs)) := by rw [← hs]; simp [gS, gL, lS, lL, fg, t2]
  have u3 : gt σ2 3 = some (.val (zab L)) := by rw [← hs]; simp [gS, gL, lS, lL, fg, t3]
  have u6 : gt σ2 6 = some (.val (zab M)) := by rw [← hs]; simp [gS, gL, lS, lL, fg, z1]
  clear hs; have m4 : evS Γ 0 (.assign 7 (.comp (.var 1) (.one 1) .plain (.var 3) (.lit .nul) [(.cmp .NotIn (.var 1) (.var 2))] [none, none, some 6])) σ2 = some (.next, zaa σ2 7 (.val (zab D1))) := by
    refine za5 ?_; have a3 : evE Γ (.var 3) .val (frz1 σ2 7) = some (zab L) := by simp [zac, evS, evE, zag, zah, fin, asB, gV, gP, gE, gv, gp, gZ, gA, gS, gL, lS, lL, sZ, fg, zak, truthy, zae, eqo, zaj, zaf, u3]
    have an : evE Γ (.lit .nul) .val (frz1 σ2 7) = some .nul := by simp [zac, evS, evE, zag, zah, fin, asB, gV, gP, gE, gv, gp, gZ, gA, gS, gL, lS, lL, sZ, fg, zak, truthy, zae, eqo, zaj, zaf]
    have ac := cap3 (σ := frz1 σ2 7) (i := 6) (v := zab M) (by simp [gZ, u6]); rw [evE, a3, an]; dsimp only [zau, za7]; rw [ac, c1]; rfl
  generalize hs : zaa σ2 7 (.val (zab D1)) = σ3 at *; have z3 : ln σ3 = 11 := by rw [← hs]; simp [gS, gL, lS, lL, fg, z2]
  have v0 : gt σ3 0 = some (.val (zal p q)) := by rw [← hs]; simp [gS, gL, lS, lL, fg, u0]
  have v1 : gt σ3 1 = some (.val (.list (ns.map .int))) := by rw [← hs]; simp [gS, gL, lS, lL, fg, u1]
  have v2 : gt σ3 2 = some (.val (zab Hs)) := by rw [← hs]; simp [gS, gL, lS, lL, fg, u2]
  have v3 : gt σ3 3 = some (.val (zab L)) := by rw [← hs]; simp [gS, gL, lS, lL, fg, u3]
  have v6 : gt σ3 6 = some (.val (zab M)) := by rw [← hs]; simp [gS, gL, lS, lL, fg, u6]
  have v7 : gt σ3 7 = some (.val (zab D1)) := by rw [← hs]; simp [gS, gL, lS, lL, fg, z2]
  clear hs; have m5 : evS Γ 0 (.assign 8 (.comp (.var 1) (.one 1) .plain (.var 6) (.lit .nul) [(.cmp .NotIn (.var 1) (.var 2))] [none, none, some 3])) σ3 = some (.next, zaa σ3 8 (.val (zab D2))) := by
    refine za5 ?_; have a3 : evE Γ (.var 6) .val (frz1 σ3 8) = some (zab M) := by simp [zac, evS, evE, zag, zah, fin, asB, gV, gP, gE, gv, gp, gZ, gA, gS, gL, lS, lL, sZ, fg, zak, truthy, zae, eqo, zaj, zaf, v6]
    have an : evE Γ (.lit .nul) .val (frz1 σ3 8) = some .nul := by simp [zac, evS, evE, zag, zah, fin, asB, gV, gP, gE, gv, gp, gZ, gA, gS, gL, lS, lL, sZ, fg, zak, truthy, zae, eqo, zaj, zaf]
    have ac := cap3 (σ := frz1 σ3 8) (i := 3) (v := zab L) (by simp [gZ, v3]); rw [evE, a3, an]; dsimp only [zau, za7]; rw [ac, c2]; rfl
  generalize hs : zaa σ3 8 (.val (zab D2)) = σ4 at *; have z4 : ln σ4 = 11 := by rw [← hs]; simp [gS, gL, lS, lL, fg, z3]
  have w0 : gt σ4 0 = some (.val (zal p q)) := by rw [← hs]; simp [gS, gL, lS, lL, fg, v0]
  have w1 : gt σ4 1 = some (.val (.list (ns.map .int))) := by rw [← hs]; simp [gS, gL, lS, lL, fg, v1]
  have w2 : gt σ4 2 = some (.val (zab Hs)) := by rw [← hs]; simp [gS, gL, lS, lL, fg, v2]
  have w3 : gt σ4 3 = some (.val (zab L)) := by rw [← hs]; simp [gS, gL, lS, lL, fg, v3]
  have w6 : gt σ4 6 = some (.val (zab M)) := by rw [← hs]; simp [gS, gL, lS, lL, fg, v6]
  have w7 : gt σ4 7 = some (.val (zab D1)) := by rw [← hs]; simp [gS, gL, lS, lL, fg, v7]
  have w8 : gt σ4 8 = some (.val (zab D2)) := by rw [← hs]; simp [gS, gL, lS, lL, fg, z3]
  clear hs; have m6 : evS Γ 0 (.assign 9 (.tpl [(.call (.type "list") [(.var 3)]), (.call (.type "list") [(.var 6)])])) σ4 = some (.next, zaa σ4 9 (.val (.tup [zab L, zab M]))) := by
    refine za5 ?_; simp [zac, evS, evE, zag, zah, fin, asB, gV, gP, gE, gv, gp, gZ, gA, gS, gL, lS, lL, sZ, fg, zak, truthy, zae, eqo, zaj, zaf, callT, w3, w6]
  generalize hs : zaa σ4 9 (.val (.tup [zab L, zab M])) = σ5 at *; have z5 : ln σ5 = 11 := by rw [← hs]; simp [gS, gL, lS, lL, fg, z4]
  have y0 : gt σ5 0 = some (.val (zal p q)) := by rw [← hs]; simp [gS, gL, lS, lL, fg, w0]
  have y1 : gt σ5 1 = some (.val (.list (ns.map .int))) := by rw [← hs]; simp [gS, gL, lS, lL, fg, w1]
  have y2 : gt σ5 2 = some (.val (zab Hs)) := by rw [← hs]; simp [gS, gL, lS, lL, fg, w2]
  have y3 : gt σ5 3 = some (.val (zab L)) := by rw [← hs]; simp [gS, gL, lS, lL, fg, w3]
  have y6 : gt σ5 6 = some (.val (zab M)) := by rw [← hs]; simp [gS, gL, lS, lL, fg, w6]
  have y7 : gt σ5 7 = some (.val (zab D1)) := by rw [← hs]; simp [gS, gL, lS, lL, fg, w7]
  have y8 : gt σ5 8 = some (.val (zab D2)) := by rw [← hs]; simp [gS, gL, lS, lL, fg, w8]
  have y9 : gt σ5 9 = some (.val (.tup [zab L, zab M])) := by rw [← hs]; simp [gS, gL, lS, lL, fg, z4]
  clear hs; have m7 : evS Γ 0 (.ite (.bop false (.cmp .NotEq (.call (.ref 38) [(.var 3), (.var 6)]) (.tpl [(.var 7), (.var 8)])) (.cmp .NotEq (.tpl [(.var 3), (.var 6)]) (.var 9))) [.ret (.lit .nul)] []) σ5 = some (.next, σ5) := by
    have ne : ∀ a b : PV, zae .NotEq a b = (eqo a b).map (!·) := fun a b => by unfold zae; rfl
    have a1 : evE Γ (.call (.ref 38) [(.var 3), (.var 6)]) .val σ5 = some (.tup [zab D1, zab D2]) := by
      have a3 : evE Γ (.var 3) .val σ5 = some (zab L) := by simp [zac, evS, evE, zag, zah, fin, asB, gV, gP, gE, gv, gp, gZ, gA, gS, gL, lS, lL, sZ, fg, zak, truthy, zae, eqo, zaj, zaf, y3]
      have a6 : evE Γ (.var 6) .val σ5 = some (zab M) := by simp [zac, evS, evE, zag, zah, fin, asB, gV, gP, gE, gv, gp, gZ, gA, gS, gL, lS, lL, sZ, fg, zak, truthy, zae, eqo, zaj, zaf, y6]
      rw [evE]; simp only [zag, a3, a6, fin]; exact hsld
    have a2 : evE Γ (.tpl [(.var 7), (.var 8)]) .val σ5 = some (.tup [zab D1, zab D2]) := by simp [zac, evS, evE, zag, zah, fin, asB, gV, gP, gE, gv, gp, gZ, gA, gS, gL, lS, lL, sZ, fg, zak, truthy, zae, eqo, zaj, zaf, y7, y8]
    have a3 : evE Γ (.tpl [(.var 3), (.var 6)]) .val σ5 = some (.tup [zab L, zab M]) := by simp [zac, evS, evE, zag, zah, fin, asB, gV, gP, gE, gv, gp, gZ, gA, gS, gL, lS, lL, sZ, fg, zak, truthy, zae, eqo, zaj, zaf, y3, y6]
    have a4 : evE Γ (.var 9) .val σ5 = some (.tup [zab L, zab M]) := by simp [zac, evS, evE, zag, zah, fin, asB, gV, gP, gE, gv, gp, gZ, gA, gS, gL, lS, lL, sZ, fg, zak, truthy, zae, eqo, zaj, zaf, y9]
    have b1 : evE Γ (.cmp .NotEq (.call (.ref 38) [(.var 3), (.var 6)]) (.tpl [(.var 7), (.var 8)])) .test σ5 = some (.bool false) := by
      rw [evE, a1, a2]; dsimp only; rw [ne, hdiff]; rfl
    have b2 : evE Γ (.cmp .NotEq (.tpl [(.var 3), (.var 6)]) (.var 9)) .test σ5 = some (.bool false) := by
      rw [evE, a3, a4]; dsimp only; rw [ne, hkept]; rfl
    rw [evS, evE, b1]; simp only [asB, beq_self_eq_true, if_true, b2]; rfl
  have m8 : evS Γ 0 (.assign 3 (.call (.builtin "sorted") [(.bin .Add (.var 7) (.var 8))])) σ5 = some (.next, zaa σ5 3 (.val (zab (sel s4 (HW p q) fun h => f h != zar p q n h)))) := by
    refine za5 ?_; have a7 : evE Γ (.var 7) .val (frz1 σ5 3) = some (zab D1) := by simp [zac, evS, evE, zag, zah, fin, asB, gV, gP, gE, gv, gp, gZ, gA, gS, gL, lS, lL, sZ, fg, zak, truthy, zae, eqo, zaj, zaf, y7]
    have a8 : evE Γ (.var 8) .val (frz1 σ5 3) = some (zab D2) := by simp [zac, evS, evE, zag, zah, fin, asB, gV, gP, gE, gv, gp, gZ, gA, gS, gL, lS, lL, sZ, fg, zak, truthy, zae, eqo, zaj, zaf, y8]
    have ab : evE Γ (.bin .Add (.var 7) (.var 8)) .val (frz1 σ5 3) = some (zab (D1 ++ D2)) := by
      have hz : (D1.map PV.str).length + (D2.map PV.str).length ≤ small := by unfold small; simp; omega
      rw [evE, a7, a8]; simp only [fin, zaf, if_pos hz, zab, List.map_append]
    rw [evE]; simp only [zag, ab, fin]; exact hso
  refine ⟨_, by rw [lb, zai m1, zai m2, zai m3, zai m4, zai m5, zai m6, zai m7, zai m8, zac], ?_⟩; exact ⟨by simp [gS, gL, lS, lL, fg, z5], by simp [gS, gL, lS, lL, fg, y0], by simp [gS, gL, lS, lL, fg, y1], by rw [hHs]; simp [gS, gL, lS, lL, fg, y2], by simp only [gS, z5]; rfl⟩
theorem lang_loop {k : Nat} {ns0 : List Int} : ∀ (ns : List Int) (f : za1 → Bool) (σ : zad), LI p q ns0 f σ → ∃ σ', zbx (.one 4) (zac (gam (k + 3)) 0 lb) (ns.map .int) σ = some (.next, σ') ∧ LI p q ns0 (fun h => xl p q ns (f h) h) σ'
  | [], f, σ, I => ⟨σ, rfl, I⟩
  | n :: ns, f, σ, I => by
    obtain ⟨σ1, e1, I1⟩ := lb_ev x (k := k) (n := n) I; obtain ⟨σ2, e2, I2⟩ := lang_loop (k := k) ns _ σ1 I1; exact ⟨σ2, by simp only [List.map_cons, zbx, Tgt.put, e1, e2], I2⟩
omit x in
theorem xl_not (h : za1) : ∀ (ns : List Int) (b : Bool), xl p q ns b h = (b != xl p q ns false h)
  | [], b => by cases b <;> rfl
  | n :: ns, b => by
    simp only [xl]; rw [xl_not h ns (b != zar p q n h), xl_not h ns (false != zar p q n h)]
    cases b <;> cases zar p q n h <;> cases xl p q ns false h <;> rfl
omit x in
theorem sum_plain (h : za1) : ∀ ns : List Int, ∃ s : Int, sumB (ns.map fun n => .bool (zar p q n h)) = some s ∧ decide (s % 2 = 1) = xl p q ns false h
  | [] => ⟨0, rfl, rfl⟩
  | n :: ns => by
    obtain ⟨s, h1, h2⟩ := sum_plain h ns; refine ⟨(if zar p q n h then 1 else 0) + s, by simp only [List.map_cons, sumB, h1]; rfl, ?_⟩; simp only [xl]; rw [xl_not h ns (false != zar p q n h), ← h2]
    cases zar p q n h with
    | false => simp
    | true =>
      simp only [if_true]
      by_cases e : s % 2 = 1
      · have : ¬ (1 + s) % 2 = 1 := by omega
        rw [decide_eq_true e, decide_eq_false this]; rfl
      · have : (1 + s) % 2 = 1 := by omega
        rw [decide_eq_false e, decide_eq_true this]; rfl
theorem odd_ev {k : Nat} {ns : List Int} {f : za1 → Bool} {σ : zad} (I : LI p q ns f σ) : evE (gam (k + 3)) oddC .val (frz1 σ 10) = some (zab (sel s4 (HW p q) fun h => xl p q ns false h)) := by
  obtain ⟨z, s0, s1, s2, s3⟩ := I; have a2 : evE (gam (k + 3)) (.var 2) .val (frz1 σ 10) = some (zab (zbt p q)) := by simp [zac, evS, evE, zag, zah, fin, asB, gV, gP, gE, gv, gp, gZ, gA, gS, gL, lS, lL, sZ, fg, zak, truthy, zae, eqo, zaj, zaf, s2]
  have an : evE (gam (k + 3)) (.lit .nul) .val (frz1 σ 10) = some .nul := by simp [zac, evS, evE, zag, zah, fin, asB, gV, gP, gE, gv, gp, gZ, gA, gS, gL, lS, lL, sZ, fg, zak, truthy, zae, eqo, zaj, zaf]
  have hcap : zav (frz1 σ 10) [none, none, some 1, some 0] = [.unset, .unset, .val (.list (ns.map .int)), .val (zal p q)] := by
    simp [zav, gV, gv, gZ, s0, s1]
  have main : zbc (.one 1) [.unset, .unset, .val (.list (ns.map .int)), .val (zal p q)] (zah (gam (k + 3)) [(.cmp .Eq (.bin .Mod (.call (.builtin "sum") [(.comp (.call (.ref 135) [(.var 3), (.var 1), (.var 2)]) (.one 1) .plain (.var 2) (.lit .nul) [] [none, none, some 1, some 3])]) (.lit (.int 2))) (.lit (.int 1)))]) (evE (gam (k + 3)) (.var 1) .val) ((zbt p q).map .str) = some ((sel s4 (HW p q) fun h => xl p q ns false h).map .str) := by
    unfold zbt sel; rw [List.map_map, List.map_map]; refine zb8 (x := 1) (PV.str ∘ s4) (PV.str ∘ s4) (fun h => xl p q ns false h) (HW p q) fun h hh => ⟨?_, fun _ => rfl⟩
    obtain ⟨_, n1, n2, n3, n4⟩ := x.ok4 hh; have hset : zaa [.unset, .unset, .val (.list (ns.map .int)), .val (zal p q)] 1 (.val ((PV.str ∘ s4) h)) = [.unset, .val (.str (s4 h)), .val (.list (ns.map .int)), .val (zal p q)] := rfl; rw [hset]; have inner : evE (gam (k + 3)) (.comp (.call (.ref 135) [(.var 3), (.var 1), (.var 2)]) (.one 1) .plain (.var 2) (.lit .nul) [] [none, none, some 1, some 3]) .val [.unset, .val (.str (s4 h)), .val (.list (ns.map .int)), .val (zal p q)] = some (.list (ns.map fun n => .bool (zar p q n h))) := by
      have b2 : evE (gam (k + 3)) (.var 2) .val [.unset, .val (.str (s4 h)), .val (.list (ns.map .int)), .val (zal p q)] = some (.list (ns.map .int)) := by rw [evE]; rfl
      have bn : evE (gam (k + 3)) (.lit .nul) .val [.unset, .val (.str (s4 h)), .val (.list (ns.map .int)), .val (zal p q)] = some .nul := by rw [evE]; rfl
      have bc : zav [.unset, .val (.str (s4 h)), .val (.list (ns.map .int)), .val (zal p q)] [none, none, some 1, some 3] = [.unset, .unset, .val (.str (s4 h)), .val (zal p q)] := rfl; rw [evE, b2, bn]; dsimp only [zau, za7]; rw [bc, zb8 (x := 1) PV.int (fun n => .bool (zar p q n h)) (fun _ => true) ns fun n _ => ⟨rfl, fun _ => ?_⟩, zda]
      · rfl
      · have hs2 : zaa [.unset, .unset, .val (.str (s4 h)), .val (zal p q)] 1 (.val (.int n)) = [.unset, .val (.int n), .val (.str (s4 h)), .val (zal p q)] := rfl; rw [hs2, evE]; have e1 : zag (gam (k + 3)) [(.var 3), (.var 1), (.var 2)] [.unset, .val (.int n), .val (.str (s4 h)), .val (zal p q)] = some [zal p q, .int n, .str (s4 h)] := by
          simp only [zag, evE]; rfl
        rw [e1]; exact g135 n1 n2 n3 n4
    obtain ⟨s, hs, hd⟩ := sum_plain (p := p) (q := q) h ns; have hcall : evE (gam (k + 3)) (.call (.builtin "sum") [(.comp (.call (.ref 135) [(.var 3), (.var 1), (.var 2)]) (.one 1) .plain (.var 2) (.lit .nul) [] [none, none, some 1, some 3])]) .val [.unset, .val (.str (s4 h)), .val (.list (ns.map .int)), .val (zal p q)] = some (.int s) := by
      rw [evE]; simp only [zag, inner, fin]; show (sumB _).map PV.int = _; rw [hs]; rfl
    have htest : evE (gam (k + 3)) (.cmp .Eq (.bin .Mod (.call (.builtin "sum") [(.comp (.call (.ref 135) [(.var 3), (.var 1), (.var 2)]) (.one 1) .plain (.var 2) (.lit .nul) [] [none, none, some 1, some 3])]) (.lit (.int 2))) (.lit (.int 1))) .test [.unset, .val (.str (s4 h)), .val (.list (ns.map .int)), .val (zal p q)] = some (.bool (xl p q ns false h)) := by
      have hmod : evE (gam (k + 3)) (.bin .Mod (.call (.builtin "sum") [(.comp (.call (.ref 135) [(.var 3), (.var 1), (.var 2)]) (.one 1) .plain (.var 2) (.lit .nul) [] [none, none, some 1, some 3])]) (.lit (.int 2))) .val [.unset, .val (.str (s4 h)), .val (.list (ns.map .int)), .val (zal p q)] = some (.int (s % 2)) := by
        rw [evE, hcall]; simp [evE, fin, zaf]
      rw [evE, hmod, ← hd]; simp [evE, fin, zaf, zae, eqo, truthy]
    rw [zah, htest]
    cases xl p q ns false h <;> rfl
  unfold oddC; rw [evE, a2, an]; dsimp only [zau, za7]; rw [hcap, main]; rfl
theorem g161 {k : Nat} {ns : List Int} : gam (k + 4) (.ref 161) [zal p q, .list (ns.map .int), zab (zbt p q)] = some (zab (sel s4 (HW p q) fun h => xl p q ns false h)) := by
  rw [zbj (by decide) (by decide) (by rfl) rfl]; have key : ∃ σ', zac (gam (k + 3)) 0 b161 ([zal p q, .list (ns.map .int), zab (zbt p q)].map Mine.Slot.val ++ List.replicate (11 - [zal p q, .list (ns.map .int), zab (zbt p q)].length) .unset) = some (.ret (zab (sel s4 (HW p q) fun h => xl p q ns false h)), σ') := by
    generalize hσ : ([zal p q, .list (ns.map .int), zab (zbt p q)].map Mine.Slot.val ++ List.replicate (11 - [zal p q, .list (ns.map .int), zab (zbt p q)].length) .unset : zad) = σ0; have z : ln σ0 = 11 := by rw [← hσ]; rfl
    have s0 : gt σ0 0 = some (.val (zal p q)) := by rw [← hσ]; rfl
    have s1 : gt σ0 1 = some (.val (.list (ns.map .int))) := by rw [← hσ]; rfl
    have s2 : gt σ0 2 = some (.val (zab (zbt p q))) := by rw [← hσ]; rfl
    clear hσ; have f1 : evS (gam (k + 3)) 0 (.assign 3 (.lst [])) σ0 = some (.next, zaa σ0 3 (.val (.list []))) := za5 (by rw [evE]; rfl); have I : LI p q ns (fun _ => false) (zaa σ0 3 (.val (.list []))) := by
      have e : sel s4 (HW p q) (fun _ => false) = [] := rfl
      constructor
      · simp [gS, gL, lS, lL, fg, z]
      · simp [gS, gL, lS, lL, fg, s0]
      · simp [gS, gL, lS, lL, fg, s1]
      · simp only [gS, s2]; rfl
      · rw [e]; simp [gS, gL, lS, lL, fg, z]
    obtain ⟨σ2, e2, I2⟩ := lang_loop x (k := k) ns _ _ I; have f2 : evS (gam (k + 3)) 0 (.for (.one 4) .plain (.var 1) (.lit .nul) lb) (zaa σ0 3 (.val (.list []))) = some (.next, σ2) := by
      have a1 : evE (gam (k + 3)) (.var 1) .val (zaa σ0 3 (.val (.list []))) = some (.list (ns.map .int)) := by simp [zac, evS, evE, zag, zah, fin, asB, gV, gP, gE, gv, gp, gZ, gA, gS, gL, lS, lL, sZ, fg, zak, truthy, zae, eqo, zaj, zaf, s1]
      have an : evE (gam (k + 3)) (.lit .nul) .val (zaa σ0 3 (.val (.list []))) = some .nul := by simp [zac, evS, evE, zag, zah, fin, asB, gV, gP, gE, gv, gp, gZ, gA, gS, gL, lS, lL, sZ, fg, zak, truthy, zae, eqo, zaj, zaf]
      rw [evS, a1, an]; simp only [zau, za7, e2]
    have f3 := za5 (A := 0) (odd_ev x (k := k) I2); rw [b161, zai f1, zai f2, zai f3]; obtain ⟨z2, t0, t1, t2, t3⟩ := I2; generalize (sel s4 (HW p q) fun h => xl p q ns false h) = R at *
    have g3 : evE (gam (k + 3)) (.var 3) .val (frzA (zaa σ2 10 (.val (zab R)))) = some (zab R) := by simp [zac, evS, evE, zag, zah, fin, asB, gV, gP, gE, gv, gp, gZ, gA, gS, gL, lS, lL, sZ, fg, zak, truthy, zae, eqo, zaj, zaf, t3]
    have g10 : evE (gam (k + 3)) (.var 10) .val (frzA (zaa σ2 10 (.val (zab R)))) = some (zab R) := by simp [zac, evS, evE, zag, zah, fin, asB, gV, gP, gE, gv, gp, gZ, gA, gS, gL, lS, lL, sZ, fg, zak, truthy, zae, eqo, zaj, zaf, z2]
    have gc : evE (gam (k + 3)) (.cmp .Eq (.var 3) (.var 10)) .test (frzA (zaa σ2 10 (.val (zab R)))) = some (.bool true) := by
      have eq : ∀ a b : PV, zae .Eq a b = eqo a b := fun a b => by unfold zae; rfl
      rw [evE, g3, g10]; dsimp only; rw [eq, zgj]; simp [fin, truthy]
    refine ⟨_, zdm (v := zab R) ?_⟩; rw [evE, gc]; exact g3
  obtain ⟨σ', h⟩ := key; exact zbo h
end
end Mine
namespace Mine
open PySem
def zdk (c : Nat) : Bool := decide (c < 128) && !(decide (48 ≤ c) && decide (c ≤ 57))
theorem zgd {s : List Nat} (h : s.all zdk = true) (hl : s.length ≤ 64) : za3 "search" (.fn (.ref 81)) [.str s] = some .nul := by
  have e : za3 "search" (.fn (.ref 81)) [.str s] = if s.all (fun c => decide (c < 128) && !(decide (48 ≤ c) && decide (c ≤ 57))) && decide (s.length ≤ 64) then some .nul else none := rfl
  have h' : s.all (fun c => decide (c < 128) && !(decide (48 ≤ c) && decide (c ≤ 57))) = true := h
  rw [e, h', decide_eq_true hl]; rfl
theorem zg8 {s : List Nat} {j : Nat} (h : zdf 46 s = some j) : za3 "find" (.str s) [.str [46]] = some (.int (j : Int)) := by
  have e : za3 "find" (.str s) [.str [46]] = some (.int (match zdf 46 s with | some k => (k : Int) | none => -1)) := rfl
  rw [e, h]
theorem g88 {k : Nat} {s : List Nat} {x : Nat} {r : List Nat} {y : Nat} (hs : s = x :: r) (hy : s.getLast? = some y) (h : s.all zdk = true) (hl : s.length ≤ 64) (hx : x ≠ 46) (hy' : y ≠ 46) : gam (k + 1) (.ref 88) [.str s] = some (.bool true) := by
  rw [zbj (by decide) (by decide) (by rfl) rfl]; have hm := zgd h hl; have i0 : zan (.str s) (.int 0) = some (.str [x]) := zfj (j := 0) (by rw [hs]; rfl) rfl; have i1 : zan (.str s) (.int (-1)) = some (.str [y]) := by
    have h0 : 0 < s.length := by rw [hs]; simp
    have hn : za8 s.length (-1) = some (s.length - 1) := by
      unfold za8; rw [if_neg (by omega), if_pos (by omega)]; congr 1; omega
    unfold zan; dsimp only; rw [hn]; dsimp only; rw [← List.getLast?_eq_getElem?, hy]; rfl
  have hne : s ≠ [] := by rw [hs]; simp
  have key : ∃ σ', zac (gam k) 0 b88 ([PV.str s].map Mine.Slot.val ++ List.replicate (1 - [PV.str s].length) .unset) = some (.ret (.bool true), σ') := by
    generalize hσ : ([PV.str s].map Mine.Slot.val ++ List.replicate (1 - [PV.str s].length) .unset : zad) = σ0; have z : ln σ0 = 1 := by rw [← hσ]; rfl
    have s0 : gt σ0 0 = some (.val (.str s)) := by rw [← hσ]; rfl
    clear hσ hs hy; exact ⟨frzA σ0, by simp [b88, zac, evS, evE, zag, zah, fin, asB, gV, gP, gE, gv, gp, gZ, gA, gS, gL, lS, lL, sZ, fg, zak, truthy, zae, eqo, zaj, zaf, z, s0, hm, i0, i1, hne, hx, hy']⟩
  obtain ⟨σ', h⟩ := key; exact zbo h
theorem g95 {k : Nat} {s : List Nat} (h : s.all zdk = true) (hl : s.length ≤ 64) : gam (k + 1) (.ref 95) [.str s] = some (.bool true) := by
  rw [zbj (by decide) (by decide) (by rfl) rfl]; have hm := zgd h hl; have key : ∃ σ', zac (gam k) 0 b95 ([PV.str s].map Mine.Slot.val ++ List.replicate (1 - [PV.str s].length) .unset) = some (.ret (.bool true), σ') := by
    generalize hσ : ([PV.str s].map Mine.Slot.val ++ List.replicate (1 - [PV.str s].length) .unset : zad) = σ0; have s0 : gt σ0 0 = some (.val (.str s)) := by rw [← hσ]; rfl
    clear hσ; exact ⟨frzA σ0, by simp [b95, zac, evS, evE, zag, zah, fin, asB, gV, gP, gE, gv, gp, gZ, gA, gS, gL, lS, lL, sZ, fg, zak, truthy, zae, eqo, zaj, zaf, s0, hm]⟩
  obtain ⟨σ', h⟩ := key; exact zbo h
theorem g109 {k : Nat} {x y j : Nat} {b : List Nat} (hx : x ≠ 46) (hy : (x :: 46 :: b).getLast? = some y) (hy' : y ≠ 46) (h : (x :: 46 :: b).all zdk = true) (hl : (x :: 46 :: b).length ≤ 64) (hb : zdf 46 b = some j) : gam (k + 2) (.ref 109) [.str (x :: 46 :: b)] = some (.str (46 :: b)) := by
  rw [zbj (by decide) (by decide) (by rfl) rfl]; have h88 := g88 (k := k) rfl hy h hl hx hy'; have f1 : za3 "find" (.str (x :: 46 :: b)) [.str [46]] = some (.int ((1 : Nat) : Int)) := zg8 (by simp [zdf, hx]); have f2 := zg8 hb; have hs : zas (.str (x :: 46 :: b)) (.int 2) .nul = some (.str b) := by simp [zas, zbw, zaz, cut]
  have hz : 1 + b.length ≤ small := by simp at hl; unfold small; omega
  generalize x :: 46 :: b = s at *; have key : ∃ σ', zac (gam (k + 1)) 0 b109 ([PV.str s].map Mine.Slot.val ++ List.replicate (3 - [PV.str s].length) .unset) = some (.ret (.str (46 :: b)), σ') := by
    generalize hσ : ([PV.str s].map Mine.Slot.val ++ List.replicate (3 - [PV.str s].length) .unset : zad) = σ0; have z : ln σ0 = 3 := by rw [← hσ]; rfl
    have s0 : gt σ0 0 = some (.val (.str s)) := by rw [← hσ]; rfl
    clear hσ; have e1 : evS (gam (k + 1)) 0 (.assign 1 (.meth "find" (.var 0) [(.lit (.str [46]))])) σ0 = some (.next, zaa σ0 1 (.val (.int 1))) := by
      refine za5 ?_; simp [zac, evS, evE, zag, zah, fin, asB, gV, gP, gE, gv, gp, gZ, gA, gS, gL, lS, lL, sZ, fg, zak, truthy, zae, eqo, zaj, zaf, s0, f1]
    refine ⟨?_, ?_⟩
    rotate_left
    · rw [b109, zai e1]; have j0 : (0 : Int) ≤ (j : Int) := by omega
      simp [zac, evS, evE, zag, zah, fin, asB, gV, gP, gE, gv, gp, gZ, gA, gS, gL, lS, lL, sZ, fg, zak, truthy, zae, eqo, zaj, zaf, z, s0, f2, hs, h88, hz, j0]; rfl
  obtain ⟨σ', h⟩ := key; exact zbo h
theorem zgn {s t : List Nat} (h : zbq s = true) (ht : s.map lowC = t) : za3 "lower" (.str s) [] = some (.str t) := by
  have e : za3 "lower" (.str s) [] = if zbq s then some (.str (s.map lowC)) else none := rfl; rw [e, h, ht]; rfl
theorem methop_upper {s : List Nat} (h : zbq s = true) : za3 "upper" (.str s) [] = some (.str (s.map upC)) := by
  have e : za3 "upper" (.str s) [] = if zbq s then some (.str (s.map upC)) else none := rfl; rw [e, h]; rfl
theorem g102 {k : Nat} {A B a : List Nat} {b : List Nat} (hA : zbq A = true) (hB : zbq B = true) (ha : A.map lowC = a) (hb : B.map lowC = 46 :: b) (ca : a.all zdk = true) (cb : (46 :: b).all zdk = true) (la : a.length ≤ 64) (lb : (46 :: b).length ≤ 64) :
    gam (k + 2) (.ref 102) [.str A, .str B] = some (.bool (zcv (46 :: b).reverse a.reverse)) := by
  rw [zbj (by decide) (by decide) (by rfl) rfl]; have l1 := zgn hA ha; have l2 := zgn hB hb; have h1 := g95 (k := k) ca la; have h2 := g95 (k := k) cb lb; have st : za3 "startswith" (.str (46 :: b)) [.str [46]] = some (.bool true) := by
    have e : za3 "startswith" (.str (46 :: b)) [.str [46]] = some (.bool (zcv [46] (46 :: b))) := rfl; rw [e]; simp [zcv]
  have en : za3 "endswith" (.str a) [.str (46 :: b)] = some (.bool (zcv (46 :: b).reverse a.reverse)) := rfl; generalize zcv (46 :: b).reverse a.reverse = r at *; generalize 46 :: b = B' at *; have key : ∃ σ', zac (gam (k + 1)) 0 b102 ([PV.str A, .str B].map Mine.Slot.val ++ List.replicate (3 - [PV.str A, .str B].length) .unset) = some (.ret (.bool r), σ') := by
    generalize hσ : ([PV.str A, .str B].map Mine.Slot.val ++ List.replicate (3 - [PV.str A, .str B].length) .unset : zad) = σ0; have z : ln σ0 = 3 := by rw [← hσ]; rfl
    have s0 : gt σ0 0 = some (.val (.str A)) := by rw [← hσ]; rfl
    have s1 : gt σ0 1 = some (.val (.str B)) := by rw [← hσ]; rfl
    clear hσ
    cases r with
    | true =>
      refine ⟨?_, ?_⟩
      rotate_left
      · simp [b102, zac, evS, evE, zag, zah, fin, asB, gV, gP, gE, gv, gp, gZ, gA, gS, gL, lS, lL, sZ, fg, zak, truthy, zae, eqo, zaj, zaf, z, s0, s1, l1, l2, h1, h2, st, en]; rfl
    | false =>
      refine ⟨?_, ?_⟩
      rotate_left
      · simp [b102, zac, evS, evE, zag, zah, fin, asB, gV, gP, gE, gv, gp, gZ, gA, gS, gL, lS, lL, sZ, fg, zak, truthy, zae, eqo, zaj, zaf, z, s0, s1, l1, l2, h1, h2, st, en]; rfl
  obtain ⟨σ', h⟩ := key; exact zbo h
end Mine
namespace Mine
open PySem
theorem zbl {c : Nat} (h : c ∈ zby) : zdk c = true ∧ c ≠ 46 ∧ c < 128 ∧ lowC (upC c) = c ∧ lowC c = c ∧ upC c < 128 := by
  have : ∀ c ∈ zby, zdk c = true ∧ c ≠ 46 ∧ c < 128 ∧ lowC (upC c) = c ∧ lowC c = c ∧ upC c < 128 := by decide
  exact this c h
theorem PQ.of {p q a : Nat} (x : PQ p q) (h : a = p ∨ a = q) : a ∈ zby := by
  rcases h with h | h
  · rw [h]; exact x.hp
  · rw [h]; exact x.hq
theorem PQ.host {p q : Nat} (x : PQ p q) {h : za1} (hh : h ∈ HW p q) : h.1.1 ∈ zby ∧ h.1.2 ∈ zby ∧ h.2.1 ∈ zby ∧ h.2.2 ∈ zby := by
  obtain ⟨h1, h2⟩ := HW_mem hh; obtain ⟨a, b⟩ := zem h1; obtain ⟨c, d⟩ := zem h2; exact ⟨x.of a, x.of b, x.of c, x.of d⟩
theorem slcS_one {c : Nat} {b : List Nat} : zas (.str (c :: b)) (.int 1) .nul = some (.str b) := by simp [zas, zbw, zaz, cut]
theorem reach2 {k : Nat} {p q : Nat} (x : PQ p q) {h : za1} (hh : h ∈ HW p q) :
    gam (k + 2) (.ref 109) [.str (s4 h)] = some (.str (46 :: [h.1.2, 46, h.2.1, 46, h.2.2])) ∧ gam (k + 2) (.ref 109) [.str [h.1.2, 46, h.2.1, 46, h.2.2]] = some (.str (46 :: s2 h.2)) := by
  obtain ⟨a, b, c, d⟩ := x.host hh; obtain ⟨⟨a', b'⟩, ⟨c', d'⟩⟩ := h; have ha := zbl a; have hb := zbl b; have hc := zbl c; have hd := zbl d; have h46 : zdk 46 = true := by decide
  dsimp only at *; refine ⟨?_, ?_⟩
  · exact g109 (j := 1) (y := d') ha.2.1 rfl hd.2.1 (by simp [ha, hb, hc, hd, h46]) (by simp) (by simp [zdf, hb])
  · exact g109 (j := 1) (y := d') hb.2.1 rfl hd.2.1 (by simp [ha, hb, hc, hd, h46]) (by simp) (by simp [zdf, hc])
def uL (p q a : Nat) : U := zbk p q (if a = p then 0 else 1)
theorem uL_fit {p q a y : Nat} (x : PQ p q) (ha : a = p ∨ a = q) : fitU (uL p q a) y = (y == a) := by
  unfold uL; by_cases h : a = p
  · subst h; rw [if_pos rfl, fit_unit (by decide)]; rfl
  · rw [if_neg h, fit_unit (by decide)]; have : a = q := ha.resolve_left h; rw [this]; rfl
def zcc (p q : Nat) (f : za1 → Bool) (x : Two) : List (List Nat) := sel s2 (TW p q) fun y => f (x, y)
theorem filter_and_const {α : Type} (l : List α) (g : α → Bool) (c : Bool) : l.filter (fun y => g y && c) = if c then l.filter g else [] := by
  cases c with
  | true => simp
  | false => simp
theorem rowB_eq {p q : Nat} (h : p < q) (f : za1 → Bool) {x : Two} (hx : x ∈ TW p q) : (((HW p q).filter fun h => f h && (h.1 == x)).map fun h => s2 h.2) = zcc p q f x := by
  have hpq : ¬ p = q := by omega
  have hqp : ¬ q = p := by omega
  have e : ∀ x : Two, ((TW p q).map fun y => (x, y)).filter (fun h : za1 => f h && (h.1 == x)) = ((TW p q).filter fun y => f (x, y)).map fun y => (x, y) := by
    intro x; rw [List.filter_map]; congr 1; refine List.filter_congr fun y _ => ?_
    simp
  have e' : ∀ x x' : Two, x ≠ x' → ((TW p q).map fun y => (x', y)).filter (fun h : za1 => f h && (h.1 == x)) = [] := by
    intro x x' hne; rw [List.filter_map]; have : (TW p q).filter ((fun h : za1 => f h && (h.1 == x)) ∘ fun y => (x', y)) = [] := by
      refine List.filter_eq_nil_iff.mpr fun y _ => ?_
      simp [Ne.symm hne]
    rw [this]; rfl
  have hH : HW p q = ((TW p q).map fun y => ((p, p), y)) ++ (((TW p q).map fun y => ((p, q), y)) ++ (((TW p q).map fun y => ((q, p), y)) ++ ((TW p q).map fun y => ((q, q), y)))) := by
    simp [HW, TW]
  rw [hH]; simp only [List.filter_append, List.map_append]; simp [TW] at hx; have fin : ∀ x : Two, (((TW p q).filter fun y => f (x, y)).map fun y => (x, y)).map (fun h : za1 => s2 h.2) = zcc p q f x := by
    intro x; rw [List.map_map]; rfl
  rcases hx with hx | hx | hx | hx <;> subst hx
  · rw [e, e' _ _ (by simp [hpq]), e' _ _ (by simp [hpq]), e' _ _ (by simp [hpq]), fin]; simp
  · rw [e, e' _ _ (by simp [hqp]), e' _ _ (by simp [hpq]), e' _ _ (by simp [hpq]), fin]; simp
  · rw [e, e' _ _ (by simp [hqp]), e' _ _ (by simp [hqp]), e' _ _ (by simp [hpq]), fin]; simp
  · rw [e, e' _ _ (by simp [hqp]), e' _ _ (by simp [hqp]), e' _ _ (by simp [hqp]), fin]; simp
structure BI (p q : Nat) (f : za1 → Bool) (rows : List PV) (σ : zad) : Prop where
  z : ln σ = 8
  s0 : gt σ 0 = some (.val (zal p q))
  s2 : gt σ 2 = some (.val (zab (sel s4 (HW p q) f)))
  s3 : gt σ 3 = some (.own rows)
section
variable {p q : Nat} (x : PQ p q)
include x
omit x in
theorem labels_ev {k : Nat} {t : Two} (ht : t ∈ TW p q) : zbc (.one 1) [.unset, .unset, .val (zal p q)] (zah (gam (k + 3)) []) (evE (gam (k + 3)) (.call (.ref 123) [(.var 2), (.meth "index" (.var 2) [(.var 1)])]) .val) ([[t.1], [t.2]].map .str) = some ([txt (uL p q t.1), txt (uL p q t.2)].map .str) := by
  have one : ∀ a : Nat, (a = p ∨ a = q) → evE (gam (k + 3)) (.call (.ref 123) [(.var 2), (.meth "index" (.var 2) [(.var 1)])]) .val (zaa [.unset, .unset, .val (zal p q)] 1 (.val (.str [a]))) = some (.str (txt (uL p q a))) := by
    intro a ha; have hs : zaa [.unset, .unset, .val (zal p q)] 1 (.val (.str [a])) = [.unset, .val (.str [a]), .val (zal p q)] := rfl; have hi : za3 "index" (zal p q) [.str [a]] = some (.int (((if a = p then 0 else 1 : Nat)) : Int)) := by
      have e : za3 "index" (zal p q) [.str [a]] = match zds (.str [a]) ([[p], [q]].map .str) with | some k => some (.int (k : Int)) | none => none := rfl
      rw [e, index_strs]; by_cases h : a = p
      · have : ([[p], [q]] : List (List Nat)).findIdx? (fun y => decide (y = [a])) = some 0 := by simp [List.findIdx?_cons, h]
        rw [this, if_pos h]
      · have h' : ¬ p = a := fun e => h e.symm
        have hqa : q = a := (ha.resolve_left h).symm; have : ([[p], [q]] : List (List Nat)).findIdx? (fun y => decide (y = [a])) = some 1 := by simp [List.findIdx?_cons, h', hqa]
        rw [this, if_neg h]
    have hg := g123 (k := k + 2) (p := p) (q := q) (j := if a = p then 0 else 1) (by split <;> decide)
    rw [hs, evE]; have e1 : zag (gam (k + 3)) [(.var 2), (.meth "index" (.var 2) [(.var 1)])] [.unset, .val (.str [a]), .val (zal p q)] = some [zal p q, .int (((if a = p then 0 else 1 : Nat)) : Int)] := by
      have a2 : evE (gam (k + 3)) (.var 2) .val [.unset, .val (.str [a]), .val (zal p q)] = some (zal p q) := by rw [evE]; rfl
      have a1 : evE (gam (k + 3)) (.var 1) .val [.unset, .val (.str [a]), .val (zal p q)] = some (.str [a]) := by rw [evE]; rfl
      have am : evE (gam (k + 3)) (.meth "index" (.var 2) [(.var 1)]) .val [.unset, .val (.str [a]), .val (zal p q)] = some (.int (((if a = p then 0 else 1 : Nat)) : Int)) := by
        rw [evE, a2]; simp only [zag, a1, hi, fin]
      simp only [zag, a2, am]
    rw [e1]; exact hg
  obtain ⟨h1, h2⟩ := zem ht; have := zb8 (x := 1) (σ := [.unset, .unset, .val (zal p q)]) (test := zah (gam (k + 3)) []) (elt := evE (gam (k + 3)) (.call (.ref 123) [(.var 2), (.meth "index" (.var 2) [(.var 1)])]) .val) (fun a : Nat => .str [a]) (fun a => .str (txt (uL p q a))) (fun _ => true) [t.1, t.2] (fun a ha => ⟨rfl, fun _ => by
    simp at ha; rcases ha with rfl | rfl
    · exact one _ h1
    · exact one _ h2⟩)
  exact this
theorem bb_ev {k : Nat} {f : za1 → Bool} {rows : List PV} {σ : zad} {t : Two} (ht : t ∈ TW p q) (hz : rows.length < small) (I : BI p q f rows σ) : ∃ σ', zac (gam (k + 3)) 0 bb (zaa σ 4 (.val (.str (s2 t)))) = some (.next, σ') ∧ BI p q f (rows ++ [zab (zcc p q f t)]) σ' := by
  obtain ⟨z, s0, s2', s3⟩ := I; have hc := labels_ev (p := p) (q := q) (k := k) ht; obtain ⟨ht1, ht2⟩ := zem ht; have c1 := zbl (x.of ht1); have c2 := zbl (x.of ht2); have hsp : za3 "split" (.str (s2 t)) [.str [46]] = some (.list ([[t.1], [t.2]].map .str)) := by
    rw [zgo (by simp [s2, small])]; simp [za4, s2, c1, c2]
  have hfs : ∀ u ∈ [uL p q t.1, .lit 46, uL p q t.2, .lit 46], okU u ∧ za2 u = false := by
    have h46 : okU (.lit 46) ∧ za2 (.lit 46) = false := ⟨⟨by decide, by decide, by decide, by decide⟩, rfl⟩; intro u hu; simp at hu; rcases hu with rfl | rfl | rfl | rfl
    · exact zgx x _
    · exact h46
    · exact zgx x _
    · exact h46
  have r50 := g50 (k := k) (fs := [uL p q t.1, .lit 46, uL p q t.2, .lit 46]) (ls := []) (st := true) (fun q => nomatch q) hfs (fun u hu => nomatch hu) (by simp)
  have r142 := g142 (k := k + 2) (us := [uL p q t.1, .lit 46, uL p q t.2, .lit 46] ++ (stU true ++ [])) (fun u hu => by
    rcases List.mem_append.mp hu with hu | hu
    · exact (hfs u hu).1
    · simp [stU] at hu; subst hu; trivial) (by simp [stU])
  have r156 := g156 (k := k + 1) (st := true) (fs := [uL p q t.1, .lit 46, uL p q t.2, .lit 46]) (ls := []) (H := sel s4 (HW p q) f) (fun q => nomatch q) (fun u hu => (hfs u hu).2) (fun u hu => nomatch hu) (fun nm hnm => by
    obtain ⟨h, hh, rfl⟩ := List.mem_map.mp hnm; exact ⟨(x.ok4 (List.mem_filter.mp hh).1).1, by simp⟩) (by have := zcr (hs := s4) (V := HW p q) f; rw [HW_len] at this; omega)
  have htk : ∀ h : za1, tk [uL p q t.1, .lit 46, uL p q t.2, .lit 46] true [] (s4 h) = (h.1 == t) := by
    intro h; obtain ⟨⟨a, b⟩, ⟨c, d⟩⟩ := h; obtain ⟨t1, t2⟩ := t; have h46 : fitU (.lit 46) 46 = true := rfl; simp only [tk, s4, zco, uL_fit x ht1, uL_fit x ht2, h46]; simp; rfl
  rw [filter_sel] at r156; have hfe : (fun h => f h && tk [uL p q t.1, .lit 46, uL p q t.2, .lit 46] true [] (s4 h)) = fun h => f h && (h.1 == t) := funext fun h => by rw [htk]
  rw [hfe] at r156; have hjoin : za3 "join" (.str [46]) [.list ([txt (uL p q t.1), txt (uL p q t.2)].map .str)] = some (.str (txt (uL p q t.1) ++ [46] ++ txt (uL p q t.2))) := by
    rw [zd4 (strsP _)]
    · rfl
    · have := zfq (uL p q t.1); have := zfq (uL p q t.2); simp [zap, small]; omega
  have htext : txt (uL p q t.1) ++ [46] ++ txt (uL p q t.2) ++ [46, 42] = ([uL p q t.1, .lit 46, uL p q t.2, .lit 46] ++ (stU true ++ [])).flatMap txt := by
    simp [stU, txt]
  have hz2 : (txt (uL p q t.1) ++ [46] ++ txt (uL p q t.2)).length + 2 ≤ small := by
    have := zfq (uL p q t.1); have := zfq (uL p q t.2); simp [small]; omega
  generalize hits : ([uL p q t.1, .lit 46, uL p q t.2, .lit 46] ++ (stU true ++ [])).map itm = its at *; generalize hus : ([uL p q t.1, .lit 46, uL p q t.2, .lit 46] ++ (stU true ++ [])) = us at *; generalize hT : txt (uL p q t.1) ++ [46] ++ txt (uL p q t.2) = T at *; have m1 : evS (gam (k + 3)) 0 (.assign 5 (.comp (.call (.ref 123) [(.var 2), (.meth "index" (.var 2) [(.var 1)])]) (.one 1) .plain (.meth "split" (.var 4) [(.lit (.str [46]))]) (.lit .nul) [] [none, none, some 0])) (zaa σ 4 (.val (.str (s2 t)))) = some (.next, zaa (zaa σ 4 (.val (.str (s2 t)))) 5 (.val (.list ([txt (uL p q t.1), txt (uL p q t.2)].map .str)))) := by
    refine za5 ?_; have a1 : evE (gam (k + 3)) (.meth "split" (.var 4) [(.lit (.str [46]))]) .val (frz1 (zaa σ 4 (.val (.str (s2 t)))) 5) = some (.list ([[t.1], [t.2]].map .str)) := by
      simp only [evE, zag, fin, gV, gZ, gS, z]; simp [gv, hsp]
    have an : evE (gam (k + 3)) (.lit .nul) .val (frz1 (zaa σ 4 (.val (.str (s2 t)))) 5) = some .nul := by simp [zac, evS, evE, zag, zah, fin, asB, gV, gP, gE, gv, gp, gZ, gA, gS, gL, lS, lL, sZ, fg, zak, truthy, zae, eqo, zaj, zaf]
    have ac := cap3 (σ := frz1 (zaa σ 4 (.val (.str (s2 t)))) 5) (i := 0) (v := zal p q) (by simp [gZ, gS, s0, fg]); rw [evE, a1, an]; dsimp only [zau, za7]; rw [ac, hc]; rfl
  generalize hs : zaa (zaa σ 4 (.val (.str (s2 t)))) 5 (.val (.list ([txt (uL p q t.1), txt (uL p q t.2)].map .str))) = σ1 at *; have z1 : ln σ1 = 8 := by rw [← hs]; simp [gS, gL, lS, lL, fg, z]
  have t0 : gt σ1 0 = some (.val (zal p q)) := by rw [← hs]; simp [gS, gL, lS, lL, fg, s0]
  have t2 : gt σ1 2 = some (.val (zab (sel s4 (HW p q) f))) := by rw [← hs]; simp [gS, gL, lS, lL, fg, s2']
  have t3 : gt σ1 3 = some (.own rows) := by rw [← hs]; simp [gS, gL, lS, lL, fg, s3]
  have t5 : gt σ1 5 = some (.val (.list ([txt (uL p q t.1), txt (uL p q t.2)].map .str))) := by rw [← hs]; simp only [gS, lS, z]; rfl
  clear hs; have m2 : evS (gam (k + 3)) 0 (.assign 6 (.call (.ref 142) [(.call (.ref 50) [(.bin .Add (.meth "join" (.lit (.str [46])) [(.var 5)]) (.lit (.str [46, 42])))])])) σ1 = some (.next, zaa σ1 6 (.val (.list its))) := by
    refine za5 ?_; have a5 : evE (gam (k + 3)) (.var 5) .val (frz1 σ1 6) = some (.list ([txt (uL p q t.1), txt (uL p q t.2)].map .str)) := by
      rw [evE, gV, gZ, t5]; rfl
    have aj : evE (gam (k + 3)) (.meth "join" (.lit (.str [46])) [(.var 5)]) .val (frz1 σ1 6) = some (.str T) := by
      rw [evE, evE]; simp only [zag, a5, fin, hjoin]
    have ab : evE (gam (k + 3)) (.bin .Add (.meth "join" (.lit (.str [46])) [(.var 5)]) (.lit (.str [46, 42]))) .val (frz1 σ1 6) = some (.str (us.flatMap txt)) := by
      rw [evE, aj, evE]; simp only [fin, zaf]; rw [← htext]; exact if_pos hz2
    have ac : evE (gam (k + 3)) (.call (.ref 50) [(.bin .Add (.meth "join" (.lit (.str [46])) [(.var 5)]) (.lit (.str [46, 42])))]) .val (frz1 σ1 6) = some (.str (zbn us)) := by
      rw [evE]; simp only [zag, ab, fin]; exact r50
    rw [evE]; simp only [zag, ac, fin]; exact r142
  generalize hs : zaa σ1 6 (.val (.list its)) = σ2 at *; have z2 : ln σ2 = 8 := by rw [← hs]; simp [gS, gL, lS, lL, fg, z1]
  have u0 : gt σ2 0 = some (.val (zal p q)) := by rw [← hs]; simp [gS, gL, lS, lL, fg, t0]
  have u2 : gt σ2 2 = some (.val (zab (sel s4 (HW p q) f))) := by rw [← hs]; simp [gS, gL, lS, lL, fg, t2]
  have u3 : gt σ2 3 = some (.own rows) := by rw [← hs]; simp [gS, gL, lS, lL, fg, t3]
  have u6 : gt σ2 6 = some (.val (.list its)) := by rw [← hs]; simp [gS, gL, lS, lL, fg, z1]
  clear hs; have m3 : evS (gam (k + 3)) 0 (.ite (.cmp .Is (.var 6) (.lit .nul)) [.ret (.lit .nul)] []) σ2 = some (.next, σ2) := by simp [zac, evS, evE, zag, zah, fin, asB, gV, gP, gE, gv, gp, gZ, gA, gS, gL, lS, lL, sZ, fg, zak, truthy, zae, eqo, zaj, zaf, u6]
  have m4 : evS (gam (k + 3)) 0 (.assign 7 (.comp (.slc (.call (.ref 109) [(.slc (.call (.ref 109) [(.var 1)]) (.lit (.int 1)) (.lit .nul))]) (.lit (.int 1)) (.lit .nul)) (.one 1) .plain (.call (.ref 156) [(.var 6), (.var 2)]) (.lit .nul) [] [none, none])) σ2 = some (.next, zaa σ2 7 (.val (zab (zcc p q f t)))) := by
    refine za5 ?_; have a6 : evE (gam (k + 3)) (.var 6) .val (frz1 σ2 7) = some (.list its) := by simp [zac, evS, evE, zag, zah, fin, asB, gV, gP, gE, gv, gp, gZ, gA, gS, gL, lS, lL, sZ, fg, zak, truthy, zae, eqo, zaj, zaf, u6]
    have a2 : evE (gam (k + 3)) (.var 2) .val (frz1 σ2 7) = some (zab (sel s4 (HW p q) f)) := by simp [zac, evS, evE, zag, zah, fin, asB, gV, gP, gE, gv, gp, gZ, gA, gS, gL, lS, lL, sZ, fg, zak, truthy, zae, eqo, zaj, zaf, u2]
    have ac : evE (gam (k + 3)) (.call (.ref 156) [(.var 6), (.var 2)]) .val (frz1 σ2 7) = some (zab (sel s4 (HW p q) fun h => f h && (h.1 == t))) := by
      rw [evE]; simp only [zag, a6, a2, fin]; exact r156
    have an : evE (gam (k + 3)) (.lit .nul) .val (frz1 σ2 7) = some .nul := by simp [zac, evS, evE, zag, zah, fin, asB, gV, gP, gE, gv, gp, gZ, gA, gS, gL, lS, lL, sZ, fg, zak, truthy, zae, eqo, zaj, zaf]
    have acap : zav (frz1 σ2 7) [none, none] = [.unset, .unset] := rfl; have main : zbc (.one 1) [.unset, .unset] (zah (gam (k + 3)) []) (evE (gam (k + 3)) (.slc (.call (.ref 109) [(.slc (.call (.ref 109) [(.var 1)]) (.lit (.int 1)) (.lit .nul))]) (.lit (.int 1)) (.lit .nul)) .val) ((sel s4 (HW p q) fun h => f h && (h.1 == t)).map .str) = some ((zcc p q f t).map .str) := by
      unfold sel; rw [List.map_map, zb8 (x := 1) (PV.str ∘ s4) (PV.str ∘ fun h : za1 => s2 h.2) (fun _ => true) ((HW p q).filter fun h => f h && (h.1 == t)) (fun h hh => ⟨rfl, fun _ => ?_⟩), zda]
      · rw [← List.map_map, rowB_eq x.lt f ht]
      · obtain ⟨r1, r2⟩ := reach2 (k := k + 1) x (List.mem_filter.mp hh).1; have hs : zaa [.unset, .unset] 1 (.val ((PV.str ∘ s4) h)) = [.unset, .val (.str (s4 h))] := rfl; rw [hs]; have b1 : evE (gam (k + 3)) (.var 1) .val [.unset, .val (.str (s4 h))] = some (.str (s4 h)) := by rw [evE]; rfl
        have bl : ∀ v : PV, evE (gam (k + 3)) (.lit v) .val [.unset, .val (.str (s4 h))] = some v := fun v => by rw [evE]; rfl
        have b2 : evE (gam (k + 3)) (.call (.ref 109) [(.var 1)]) .val [.unset, .val (.str (s4 h))] = some (.str (46 :: [h.1.2, 46, h.2.1, 46, h.2.2])) := by
          rw [evE]; simp only [zag, b1, fin]; exact r1
        have b3 : evE (gam (k + 3)) (.slc (.call (.ref 109) [(.var 1)]) (.lit (.int 1)) (.lit .nul)) .val [.unset, .val (.str (s4 h))] = some (.str [h.1.2, 46, h.2.1, 46, h.2.2]) := by
          rw [evE, b2, bl, bl]; simp only [fin, slcS_one]
        have b4 : evE (gam (k + 3)) (.call (.ref 109) [(.slc (.call (.ref 109) [(.var 1)]) (.lit (.int 1)) (.lit .nul))]) .val [.unset, .val (.str (s4 h))] = some (.str (46 :: s2 h.2)) := by
          rw [evE]; simp only [zag, b3, fin]; exact r2
        rw [evE, b4, bl, bl]; simp only [fin, slcS_one]; rfl
    rw [evE, ac, an]; dsimp only [zau, za7]; rw [acap, main]; rfl
  generalize hs : zaa σ2 7 (.val (zab (zcc p q f t))) = σ3 at *; have z3 : ln σ3 = 8 := by rw [← hs]; simp [gS, gL, lS, lL, fg, z2]
  have v0 : gt σ3 0 = some (.val (zal p q)) := by rw [← hs]; simp [gS, gL, lS, lL, fg, u0]
  have v2 : gt σ3 2 = some (.val (zab (sel s4 (HW p q) f))) := by rw [← hs]; simp [gS, gL, lS, lL, fg, u2]
  have v3 : gt σ3 3 = some (.own rows) := by rw [← hs]; simp [gS, gL, lS, lL, fg, u3]
  have v7 : gt σ3 7 = some (.val (zab (zcc p q f t))) := by rw [← hs]; simp [gS, gL, lS, lL, fg, z2]
  clear hs; have m5 : evS (gam (k + 3)) 0 (.push 3 (.var 7)) σ3 = some (.next, σ3.set 3 (.own (rows ++ [zab (zcc p q f t)]))) := by
    simp [zac, evS, evE, zag, zah, fin, asB, gV, gP, gE, gv, gp, gZ, gA, gS, gL, lS, lL, sZ, fg, zak, truthy, zae, eqo, zaj, zaf, v3, v7, hz]
  refine ⟨_, by rw [bb, zai m1, zai m2, zai m3, zai m4, zai m5, zac], ?_⟩; exact ⟨by simp [gS, gL, lS, lL, fg, z3], by simp [gS, gL, lS, lL, fg, v0], by simp [gS, gL, lS, lL, fg, v2], by simp [gS, gL, lS, lL, fg, z3]⟩
theorem beg_loop {k : Nat} {f : za1 → Bool} : ∀ (ts : List Two) (rows : List PV) (σ : zad), (∀ t ∈ ts, t ∈ TW p q) → rows.length + ts.length ≤ small → BI p q f rows σ → ∃ σ', zbx (.one 4) (zac (gam (k + 3)) 0 bb) ((ts.map s2).map .str) σ = some (.next, σ') ∧ BI p q f (rows ++ ts.map fun t => zab (zcc p q f t)) σ'
  | [], rows, σ, _, _, I => ⟨σ, rfl, by simpa using I⟩
  | t :: ts, rows, σ, h, hz, I => by
    obtain ⟨σ1, e1, I1⟩ := bb_ev x (k := k) (h t (List.mem_cons_self ..)) (by simp at hz; omega) I; obtain ⟨σ2, e2, I2⟩ := beg_loop (k := k) ts _ σ1 (fun t ht => h t (List.mem_cons_of_mem _ ht)) (by simp at hz ⊢; omega) I1
    refine ⟨σ2, by simp only [List.map_cons, zbx, Tgt.put, e1, e2], ?_⟩; rw [List.append_assoc] at I2; exact I2
theorem g166 {k : Nat} {f : za1 → Bool} : gam (k + 4) (.ref 166) [zal p q, zab ((TW p q).map s2), zab (sel s4 (HW p q) f)] = some (.list ((TW p q).map fun t => zab (zcc p q f t))) := by
  rw [zbj (by decide) (by decide) (by rfl) rfl]; have key : ∃ σ', zac (gam (k + 3)) 0 b166 ([zal p q, zab ((TW p q).map s2), zab (sel s4 (HW p q) f)].map Mine.Slot.val ++ List.replicate (8 - [zal p q, zab ((TW p q).map s2), zab (sel s4 (HW p q) f)].length) .unset) = some (.ret (.list ((TW p q).map fun t => zab (zcc p q f t))), σ') := by
    generalize hσ : ([zal p q, zab ((TW p q).map s2), zab (sel s4 (HW p q) f)].map Mine.Slot.val ++ List.replicate (8 - [zal p q, zab ((TW p q).map s2), zab (sel s4 (HW p q) f)].length) .unset : zad) = σ0; have z : ln σ0 = 8 := by rw [← hσ]; rfl
    have s0 : gt σ0 0 = some (.val (zal p q)) := by rw [← hσ]; rfl
    have s1 : gt σ0 1 = some (.val (zab ((TW p q).map s2))) := by rw [← hσ]; rfl
    have s2' : gt σ0 2 = some (.val (zab (sel s4 (HW p q) f))) := by rw [← hσ]; rfl
    clear hσ; have f1 : evS (gam (k + 3)) 0 (.own 3) σ0 = some (.next, zaa σ0 3 (.own [])) := by simp [zac, evS, evE, zag, zah, fin, asB, gV, gP, gE, gv, gp, gZ, gA, gS, gL, lS, lL, sZ, fg, zak, truthy, zae, eqo, zaj, zaf]
    have I : BI p q f [] (zaa σ0 3 (.own [])) := ⟨by simp [gS, gL, lS, lL, fg, z], by simp [gS, gL, lS, lL, fg, s0], by simp [gS, gL, lS, lL, fg, s2'], by simp [gS, gL, lS, lL, fg, z]⟩; obtain ⟨σ1, e1, I1⟩ := beg_loop x (k := k) (TW p q) [] _ (fun t h => h) (by simp [TW, small]) I
    have f2 : evS (gam (k + 3)) 0 (.for (.one 4) .plain (.var 1) (.lit .nul) bb) (zaa σ0 3 (.own [])) = some (.next, σ1) := by
      have a1 : evE (gam (k + 3)) (.var 1) .val (zaa σ0 3 (.own [])) = some (zab ((TW p q).map s2)) := by
        rw [evE, gV, gS, s1]; rfl
      have an : evE (gam (k + 3)) (.lit .nul) .val (zaa σ0 3 (.own [])) = some .nul := by simp [zac, evS, evE, zag, zah, fin, asB, gV, gP, gE, gv, gp, gZ, gA, gS, gL, lS, lL, sZ, fg, zak, truthy, zae, eqo, zaj, zaf]
      rw [evS, a1, an]; simp only [zau, za7, e1]
    rw [b166, zai f1, zai f2]; refine ⟨frzA σ1, zdm ?_⟩; rw [evE, gV, gA, I1.s3]; rfl
  obtain ⟨σ', h⟩ := key; exact zbo h
end
end Mine
namespace Mine
open PySem
def zch (p q : Nat) (f : za1 → Bool) (t : Two) : List (List Nat) := sel s2 (TW p q) fun x => f (x, t)
theorem pbeq (a b c d : Nat) : (((a, b) : Two) == (c, d)) = (a == c && b == d) := rfl
theorem col_one {p q : Nat} (h : p < q) (f : za1 → Bool) (x : Two) {t : Two} (ht : t ∈ TW p q) : ((TW p q).map fun y => (x, y)).filter (fun h : za1 => f h && (h.2 == t)) = if f (x, t) then [(x, t)] else [] := by
  have hpq : ¬ p = q := by omega
  have hqp : ¬ q = p := by omega
  simp [TW] at ht; rcases ht with rfl | rfl | rfl | rfl <;> simp [TW, List.filter_cons, hpq, hqp, pbeq]
theorem colB_eq {p q : Nat} (h : p < q) (f : za1 → Bool) {t : Two} (ht : t ∈ TW p q) : (((HW p q).filter fun h => f h && (h.2 == t)).map fun h => s2 h.1) = zch p q f t := by
  have hH : HW p q = ((TW p q).map fun y => ((p, p), y)) ++ (((TW p q).map fun y => ((p, q), y)) ++ (((TW p q).map fun y => ((q, p), y)) ++ ((TW p q).map fun y => ((q, q), y)))) := by
    simp [HW, TW]
  rw [hH]; simp only [List.filter_append, List.map_append, col_one h f _ ht]; simp only [zch, sel, TW, List.filter_cons, List.filter_nil]
  cases f ((p, p), t) <;> cases f ((p, q), t) <;> cases f ((q, p), t) <;> cases f ((q, q), t) <;> rfl
theorem comp_two {α : Type} {x y : Nat} {σ : zad} {test : zad → Option Bool} {elt : zad → Option PV} (i1 i2 g : α → PV) (P : α → Bool) : ∀ (xs : List α),
    (∀ a ∈ xs, test (zaa (zaa σ x (.val (i1 a))) y (.val (i2 a))) = some (P a) ∧ (P a = true → elt (zaa (zaa σ x (.val (i1 a))) y (.val (i2 a))) = some (g a))) → zbc (.two x y) σ test elt (xs.map fun a => .tup [i1 a, i2 a]) = some ((xs.filter P).map g)
  | [], _ => rfl
  | a :: xs, h => by
    have ih := comp_two i1 i2 g P xs fun b hb => h b (List.mem_cons_of_mem _ hb)
    obtain ⟨h1, h2⟩ := h a (List.mem_cons_self ..); simp only [List.map_cons, zbc, Tgt.put, h1]
    cases hP : P a with
    | true => rw [h2 hP, ih]; simp [hP]
    | false => rw [ih]; simp [hP]
theorem zipL_map {α : Type} (i1 i2 : α → PV) : ∀ xs : List α, zcn (xs.map i1) (xs.map i2) = xs.map fun a => .tup [i1 a, i2 a]
  | [] => rfl
  | a :: xs => by simp only [List.map_cons, zcn, zipL_map i1 i2 xs]
structure EI (p q : Nat) (f : za1 → Bool) (rows : List PV) (σ : zad) : Prop where
  z : ln σ = 5
  s1 : gt σ 1 = some (.val (zab (sel s4 (HW p q) f)))
  s2 : gt σ 2 = some (.own rows)
section
variable {p q : Nat} (x : PQ p q)
include x
theorem udm {k : Nat} {h : za1} (hh : h ∈ HW p q) {t : Two} (ht : t ∈ TW p q) : za3 "upper" (.str (s4 h)) [] = some (.str ((s4 h).map upC)) ∧ gam (k + 2) (.ref 102) [.str ((s4 h).map upC), .str (46 :: s2 t)] = some (.bool (h.2 == t)) := by
  obtain ⟨a, b, c, d⟩ := x.host hh; obtain ⟨ht1, ht2⟩ := zem ht; obtain ⟨⟨a', b'⟩, ⟨c', d'⟩⟩ := h; obtain ⟨u, v⟩ := t; have ha := zbl a; have hb := zbl b; have hc := zbl c; have hd := zbl d; have hu := zbl (x.of ht1); have hv := zbl (x.of ht2); have h46 : zdk 46 = true ∧ lowC 46 = 46 ∧ lowC (upC 46) = 46 ∧ upC 46 < 128 := by decide
  dsimp only at *; refine ⟨methop_upper (by simp [zbq, s4, ha, hb, hc, hd]), ?_⟩; rw [g102 (a := s4 ((a', b'), (c', d'))) (b := s2 (u, v)) (by simp [zbq, s4, ha, hb, hc, hd, h46]) (by simp [zbq, s2, hu, hv]) (by simp [s4, ha, hb, hc, hd, h46]) (by simp [s2, hu, hv, h46]) (by simp [s4, ha, hb, hc, hd, h46]) (by simp [s2, hu, hv, h46]) (by simp [s4]) (by simp [s2])]; congr 2; simp only [s2, s4, List.reverse_cons, List.reverse_nil, List.nil_append, List.cons_append, zcv]; have e1 : (u == c') = (c' == u) := BEq.comm; have e2 : (v == d') = (d' == v) := BEq.comm; rw [pbeq, e1, e2]
  cases c' == u <;> cases d' == v <;> rfl
theorem eb_ev {k : Nat} {f : za1 → Bool} {rows : List PV} {σ : zad} {t : Two} (ht : t ∈ TW p q) (hz : rows.length < small) (I : EI p q f rows σ) : ∃ σ', zac (gam (k + 3)) 0 eb (zaa σ 3 (.val (.str (s2 t)))) = some (.next, σ') ∧ EI p q f (rows ++ [zab (zch p q f t)]) σ' := by
  obtain ⟨z, s1, s2'⟩ := I; have m1 : evS (gam (k + 3)) 0 (.assign 4 (.comp (.call (.ref 102) [(.meth "upper" (.var 1) []), (.bin .Add (.lit (.str [46])) (.var 2))]) (.one 1) .plain (.var 1) (.lit .nul) [] [none, none, some 3])) (zaa σ 3 (.val (.str (s2 t)))) = some (.next, zaa (zaa σ 3 (.val (.str (s2 t)))) 4 (.val (.list (((HW p q).filter f).map fun h => .bool (h.2 == t))))) := by
    refine za5 ?_; have a1 : evE (gam (k + 3)) (.var 1) .val (frz1 (zaa σ 3 (.val (.str (s2 t)))) 4) = some (zab (sel s4 (HW p q) f)) := by
      rw [evE, gV, gZ, gS, s1]; rfl
    have an : evE (gam (k + 3)) (.lit .nul) .val (frz1 (zaa σ 3 (.val (.str (s2 t)))) 4) = some .nul := by simp [zac, evS, evE, zag, zah, fin, asB, gV, gP, gE, gv, gp, gZ, gA, gS, gL, lS, lL, sZ, fg, zak, truthy, zae, eqo, zaj, zaf]
    have ac := cap3 (σ := frz1 (zaa σ 3 (.val (.str (s2 t)))) 4) (i := 3) (v := .str (s2 t)) (by rw [gZ, gS, z]; rfl); have main : zbc (.one 1) [.unset, .unset, .val (.str (s2 t))] (zah (gam (k + 3)) []) (evE (gam (k + 3)) (.call (.ref 102) [(.meth "upper" (.var 1) []), (.bin .Add (.lit (.str [46])) (.var 2))]) .val) ((sel s4 (HW p q) f).map .str) = some (((HW p q).filter f).map fun h => .bool (h.2 == t)) := by
      unfold sel; rw [List.map_map, zb8 (x := 1) (PV.str ∘ s4) (fun h : za1 => .bool (h.2 == t)) (fun _ => true) ((HW p q).filter f) (fun h hh => ⟨rfl, fun _ => ?_⟩), zda]
      obtain ⟨r1, r2⟩ := udm x (k := k + 1) (List.mem_filter.mp hh).1 ht; have hs : zaa [.unset, .unset, .val (.str (s2 t))] 1 (.val ((PV.str ∘ s4) h)) = [.unset, .val (.str (s4 h)), .val (.str (s2 t))] := rfl; rw [hs]; have b1 : evE (gam (k + 3)) (.var 1) .val [.unset, .val (.str (s4 h)), .val (.str (s2 t))] = some (.str (s4 h)) := by rw [evE]; rfl
      have b2 : evE (gam (k + 3)) (.meth "upper" (.var 1) []) .val [.unset, .val (.str (s4 h)), .val (.str (s2 t))] = some (.str ((s4 h).map upC)) := by
        rw [evE, b1]; simp only [zag, r1, fin]
      have b3 : evE (gam (k + 3)) (.bin .Add (.lit (.str [46])) (.var 2)) .val [.unset, .val (.str (s4 h)), .val (.str (s2 t))] = some (.str (46 :: s2 t)) := by
        simp [evE, fin, zaw, zaf, s2, small]
      rw [evE]; simp only [zag, b2, b3, fin]; exact r2
    rw [evE, a1, an]; dsimp only [zau, za7]; rw [ac, main]; rfl
  generalize hM : (((HW p q).filter f).map fun h => PV.bool (h.2 == t)) = M at *
  generalize hs : zaa (zaa σ 3 (.val (.str (s2 t)))) 4 (.val (.list M)) = σ1 at *; have z1 : ln σ1 = 5 := by rw [← hs]; simp [gS, gL, lS, lL, fg, z]
  have t1 : gt σ1 1 = some (.val (zab (sel s4 (HW p q) f))) := by rw [← hs, gS, gS, s1]; rfl
  have t2 : gt σ1 2 = some (.own rows) := by rw [← hs]; simp [gS, gL, lS, lL, fg, s2']
  have t4 : gt σ1 4 = some (.val (.list M)) := by rw [← hs]; simp [gS, gL, lS, lL, fg, z]
  clear hs; have m2 : evS (gam (k + 3)) 0 (.ite (.comp (.var 1) (.one 1) .plain (.var 4) (.lit .nul) [(.cmp .IsNot (.call (.type "type") [(.var 1)]) (.gl (.type "bool")))] [none, none]) [.ret (.lit .nul)] []) σ1 = some (.next, σ1) := by
    have a4 : evE (gam (k + 3)) (.var 4) .val σ1 = some (.list M) := by simp [zac, evS, evE, zag, zah, fin, asB, gV, gP, gE, gv, gp, gZ, gA, gS, gL, lS, lL, sZ, fg, zak, truthy, zae, eqo, zaj, zaf, t4]
    have an : evE (gam (k + 3)) (.lit .nul) .val σ1 = some .nul := by simp [zac, evS, evE, zag, zah, fin, asB, gV, gP, gE, gv, gp, gZ, gA, gS, gL, lS, lL, sZ, fg, zak, truthy, zae, eqo, zaj, zaf]
    have acap : zav σ1 [none, none] = [.unset, .unset] := rfl; have main : zbc (.one 1) [.unset, .unset] (zah (gam (k + 3)) [(.cmp .IsNot (.call (.type "type") [(.var 1)]) (.gl (.type "bool")))]) (evE (gam (k + 3)) (.var 1) .val) M = some [] := by
      rw [← hM]; have hmap : (((HW p q).filter f).map fun h => PV.bool (h.2 == t)) = (((HW p q).filter f).map fun h => (h.2 == t)).map PV.bool := by rw [List.map_map]; rfl
      rw [hmap, zb8 (x := 1) PV.bool PV.bool (fun _ => false) _ (fun b _ => ⟨rfl, fun q => nomatch q⟩)]
      simp
    have he : evE (gam (k + 3)) (.comp (.var 1) (.one 1) .plain (.var 4) (.lit .nul) [(.cmp .IsNot (.call (.type "type") [(.var 1)]) (.gl (.type "bool")))] [none, none]) .test σ1 = some (.bool false) := by
      rw [evE, a4, an]; dsimp only [zau, za7]; rw [acap, main]; rfl
    rw [evS, he]; rfl
  have m3 : evS (gam (k + 3)) 0 (.push 2 (.comp (.slc (.var 1) (.lit .nul) (.lit (.int 3))) (.two 1 2) .zip (.var 1) (.var 4) [(.var 2)] [none, none, none])) σ1 = some (.next, σ1.set 2 (.own (rows ++ [zab (zch p q f t)]))) := by
    have a1 : evE (gam (k + 3)) (.var 1) .val σ1 = some (zab (sel s4 (HW p q) f)) := by rw [evE, gV, t1]; rfl
    have a4 : evE (gam (k + 3)) (.var 4) .val σ1 = some (.list M) := by simp [zac, evS, evE, zag, zah, fin, asB, gV, gP, gE, gv, gp, gZ, gA, gS, gL, lS, lL, sZ, fg, zak, truthy, zae, eqo, zaj, zaf, t4]
    have acap : zav σ1 [none, none, none] = [.unset, .unset, .unset] := rfl; have main : zbc (.two 1 2) [.unset, .unset, .unset] (zah (gam (k + 3)) [(.var 2)]) (evE (gam (k + 3)) (.slc (.var 1) (.lit .nul) (.lit (.int 3))) .val) (zcn ((sel s4 (HW p q) f).map .str) M) = some ((zch p q f t).map .str) := by
      rw [← hM]; unfold sel; rw [List.map_map, zipL_map, comp_two (x := 1) (y := 2) (PV.str ∘ s4) (fun h : za1 => PV.bool (h.2 == t)) (PV.str ∘ fun h : za1 => s2 h.1) (fun h => h.2 == t) ((HW p q).filter f) (fun h hh => ⟨?_, fun _ => ?_⟩)]
      · rw [← List.map_map, List.filter_filter]; congr 1; have := colB_eq x.lt f ht; rw [← this]; congr 2; refine List.filter_congr fun h _ => ?_
        rw [Bool.and_comm]
      · have hs : zaa (zaa [.unset, .unset, .unset] 1 (.val ((PV.str ∘ s4) h))) 2 (.val (.bool (h.2 == t))) = [.unset, .val (.str (s4 h)), .val (.bool (h.2 == t))] := rfl; rw [hs]
        cases h.2 == t <;> rfl
      · have hs : zaa (zaa [.unset, .unset, .unset] 1 (.val ((PV.str ∘ s4) h))) 2 (.val (.bool (h.2 == t))) = [.unset, .val (.str (s4 h)), .val (.bool (h.2 == t))] := rfl; rw [hs]; have hsl : zas (.str (s4 h)) .nul (.int 3) = some (.str (s2 h.1)) := by simp [zas, zbw, zaz, cut, s4, s2]
        simp [evE, fin, zaw, hsl]
    have he : evE (gam (k + 3)) (.comp (.slc (.var 1) (.lit .nul) (.lit (.int 3))) (.two 1 2) .zip (.var 1) (.var 4) [(.var 2)] [none, none, none]) .val σ1 = some (zab (zch p q f t)) := by
      rw [evE, a1, a4]; dsimp only [zau, za7, zes]; rw [acap, main]; rfl
    rw [evS, he]; dsimp only; rw [gE, t2]; dsimp only; rw [if_pos hz]
  refine ⟨_, by rw [eb, zai m1, zai m2, zai m3, zac], ?_⟩; exact ⟨by simp [gS, gL, lS, lL, fg, z1], by rw [gL, t1]; rfl, by simp [gS, gL, lS, lL, fg, z1]⟩
theorem end_loop {k : Nat} {f : za1 → Bool} : ∀ (ts : List Two) (rows : List PV) (σ : zad), (∀ t ∈ ts, t ∈ TW p q) → rows.length + ts.length ≤ small → EI p q f rows σ → ∃ σ', zbx (.one 3) (zac (gam (k + 3)) 0 eb) ((ts.map s2).map .str) σ = some (.next, σ') ∧ EI p q f (rows ++ ts.map fun t => zab (zch p q f t)) σ'
  | [], rows, σ, _, _, I => ⟨σ, rfl, by simpa using I⟩
  | t :: ts, rows, σ, h, hz, I => by
    obtain ⟨σ1, e1, I1⟩ := eb_ev x (k := k) (h t (List.mem_cons_self ..)) (by simp at hz; omega) I; obtain ⟨σ2, e2, I2⟩ := end_loop (k := k) ts _ σ1 (fun t ht => h t (List.mem_cons_of_mem _ ht)) (by simp at hz ⊢; omega) I1
    refine ⟨σ2, by simp only [List.map_cons, zbx, Tgt.put, e1, e2], ?_⟩; rw [List.append_assoc] at I2; exact I2
theorem g171 {k : Nat} {f : za1 → Bool} : gam (k + 4) (.ref 171) [zab ((TW p q).map s2), zab (sel s4 (HW p q) f)] = some (.list ((TW p q).map fun t => zab (zch p q f t))) := by
  rw [zbj (by decide) (by decide) (by rfl) rfl]; have key : ∃ σ', zac (gam (k + 3)) 0 b171 ([zab ((TW p q).map s2), zab (sel s4 (HW p q) f)].map Mine.Slot.val ++ List.replicate (5 - [zab ((TW p q).map s2), zab (sel s4 (HW p q) f)].length) .unset) = some (.ret (.list ((TW p q).map fun t => zab (zch p q f t))), σ') := by
    generalize hσ : ([zab ((TW p q).map s2), zab (sel s4 (HW p q) f)].map Mine.Slot.val ++ List.replicate (5 - [zab ((TW p q).map s2), zab (sel s4 (HW p q) f)].length) .unset : zad) = σ0; have z : ln σ0 = 5 := by rw [← hσ]; rfl
    have s0 : gt σ0 0 = some (.val (zab ((TW p q).map s2))) := by rw [← hσ]; rfl
    have s1 : gt σ0 1 = some (.val (zab (sel s4 (HW p q) f))) := by rw [← hσ]; rfl
    clear hσ; have f1 : evS (gam (k + 3)) 0 (.own 2) σ0 = some (.next, zaa σ0 2 (.own [])) := by simp [zac, evS, evE, zag, zah, fin, asB, gV, gP, gE, gv, gp, gZ, gA, gS, gL, lS, lL, sZ, fg, zak, truthy, zae, eqo, zaj, zaf]
    have I : EI p q f [] (zaa σ0 2 (.own [])) := ⟨by simp [gS, gL, lS, lL, fg, z], by rw [gS, s1]; rfl, by simp [gS, gL, lS, lL, fg, z]⟩; obtain ⟨σ1, e1, I1⟩ := end_loop x (k := k) (TW p q) [] _ (fun t h => h) (by simp [TW, small]) I
    have f2 : evS (gam (k + 3)) 0 (.for (.one 3) .plain (.var 0) (.lit .nul) eb) (zaa σ0 2 (.own [])) = some (.next, σ1) := by
      have a1 : evE (gam (k + 3)) (.var 0) .val (zaa σ0 2 (.own [])) = some (zab ((TW p q).map s2)) := by
        rw [evE, gV, gS, s0]; rfl
      have an : evE (gam (k + 3)) (.lit .nul) .val (zaa σ0 2 (.own [])) = some .nul := by simp [zac, evS, evE, zag, zah, fin, asB, gV, gP, gE, gv, gp, gZ, gA, gS, gL, lS, lL, sZ, fg, zak, truthy, zae, eqo, zaj, zaf]
      rw [evS, a1, an]; simp only [zau, za7, e1]
    rw [b171, zai f1, zai f2]; refine ⟨frzA σ1, zdm ?_⟩; rw [evE, gV, gA, I1.s2]; rfl
  obtain ⟨σ', h⟩ := key; exact zbo h
end
end Mine
namespace Mine
def pbM (g : Nat) : Nat := Nat.land g (Nat.sub 16 g)
def rdM (l g : Nat) : Nat := cond (Nat.beq (Nat.land l (pbM g)) 0) l (Nat.xor l g)
def nzM (l k : Nat) : Nat := cond (Nat.beq l 0) k (Nat.succ k)
def withN (n : Nat) (f : Nat → Bool) : Bool := cond (Nat.ble n 15) (f n) true
def rk3 (a b2 c3 d : Nat) : Nat := nzM (rdM (rdM (rdM d a) b2) c3) (nzM c3 (nzM b2 (nzM a 0)))
def rkM (a b c d : Nat) : Nat := rk3 a (rdM b a) (rdM (rdM c a) (rdM b a)) d
def bitM (m i : Nat) : Nat := Nat.land (Nat.shiftRight m i) 1
def colM (a b c d i : Nat) : Nat := Nat.add (bitM a i) (Nat.add (Nat.mul 2 (bitM b i)) (Nat.add (Nat.mul 4 (bitM c i)) (Nat.mul 8 (bitM d i))))
def okM (a b c d : Nat) : Bool := Nat.beq (rkM a b c d) (rkM (colM a b c d 0) (colM a b c d 1) (colM a b c d 2) (colM a b c d 3))
def allB : Nat → (Nat → Bool) → Bool
  | 0, _ => true
  | n + 1, f => cond (f n) (allB n f) false
def selM (x m i : Nat) : Nat := cond (Nat.beq (bitM x i) 0) 0 m
def combM (a b c d x : Nat) : Nat := Nat.xor (selM x a 0) (Nat.xor (selM x b 1) (Nat.xor (selM x c 2) (selM x d 3)))
def depM (a b c d : Nat) : Bool := cond (Nat.beq (rkM a b c d) 4) (allB 15 fun x => cond (Nat.beq (combM a b c d (Nat.succ x)) 0) false true) true
theorem rank_all : allB 16 (fun a => allB 16 fun b => allB 16 fun c => allB 16 fun d => okM a b c d) = true := by decide +kernel
theorem dep_all : allB 16 (fun a => allB 16 fun b => allB 16 fun c => allB 16 fun d => depM a b c d) = true := by decide +kernel
end Mine
namespace Mine
open PySem
def hs4 (p q : Nat) : Nat → List Nat
  | 0 => s2 (p, p)
  | 1 => s2 (p, q)
  | 2 => s2 (q, p)
  | _ => s2 (q, q)
abbrev V4 : List Nat := [0, 1, 2, 3]
theorem ascV {p q : Nat} (h : p < q) : Asc (hs4 p q) V4 := by
  simp [Asc, hs4, s2, List.cons_lt_cons_iff, h]
def za0 (p q m : Nat) : List (List Nat) := sel (hs4 p q) V4 fun i => m.testBit i
def zbr (p q : Nat) (f : Two → Bool) : Nat := (f (p, p)).toNat + (2 * (f (p, q)).toNat + (4 * (f (q, p)).toNat + 8 * (f (q, q)).toNat))
theorem zcf (p q : Nat) (f : Two → Bool) : zbr p q f < 16 := by
  unfold zbr
  cases f (p, p) <;> cases f (p, q) <;> cases f (q, p) <;> cases f (q, q) <;> decide
theorem sel_mask (p q : Nat) (f : Two → Bool) : sel s2 (TW p q) f = za0 p q (zbr p q f) := by
  unfold za0 sel TW zbr; simp only [List.filter_cons, List.filter_nil]
  cases f (p, p) <;> cases f (p, q) <;> cases f (q, p) <;> cases f (q, q) <;> rfl
def lowV (g : Nat) : Nat := ((V4.filter fun i => g.testBit i).head?).getD 0
theorem mask_facts : ∀ l < 16, ∀ g < 16, g ≠ 0 → Nat.beq (Nat.land l (pbM g)) 0 = !(l.testBit (lowV g)) := by decide +kernel
theorem low_head : ∀ g < 16, g ≠ 0 → (V4.filter fun i => g.testBit i).head? = some (lowV g) ∧ lowV g ∈ V4 := by decide +kernel
theorem rd_lt : ∀ l < 16, ∀ g < 16, rdM l g < 16 := by decide +kernel
theorem rd_zero (l : Nat) : rdM l 0 = l := by
  have : pbM 0 = 0 := by decide
  unfold rdM; rw [this]; have : Nat.land l 0 = 0 := Nat.and_zero l; rw [this]; rfl
theorem sub_nil {p q : Nat} : ∀ m < 16, ((za0 p q m).map PV.str).isEmpty = decide (m = 0) := by
  intro m hm; have : ∀ m < 16, (V4.filter fun i => m.testBit i).isEmpty = decide (m = 0) := by decide +kernel
  rw [← this m hm]; unfold za0 sel
  cases V4.filter fun i => m.testBit i <;> rfl
abbrev basV (p q : Nat) (B : List Nat) : List PV := B.map fun m => zab (za0 p q m)
structure NI (p q : Nat) (B : List Nat) (σ : zad) : Prop where
  z : ln σ = 6
  s1 : gt σ 1 = some (.own (basV p q B))
section
variable {p q : Nat} (x : p < q)
include x
theorem sld_sub {l g : Nat} : sld [zab (za0 p q l), zab (za0 p q g)] = some (.tup [zab (sel (hs4 p q) V4 fun i => l.testBit i && !g.testBit i), zab (sel (hs4 p q) V4 fun i => g.testBit i && !l.testBit i)]) :=
  sld_sel (ascV x) (by decide) _ _
theorem sort_sub {l g : Nat} : zb3 "sorted" [zab ((sel (hs4 p q) V4 fun i => l.testBit i && !g.testBit i) ++ sel (hs4 p q) V4 fun i => g.testBit i && !l.testBit i)] = some (zab (za0 p q (Nat.xor l g))) := by
  have h1 := zcr (hs := hs4 p q) (V := V4) fun i => l.testBit i && !g.testBit i
  have h2 := zcr (hs := hs4 p q) (V := V4) fun i => g.testBit i && !l.testBit i
  have hl : V4.length = 4 := rfl; rw [zep (by rw [List.length_append]; omega)]; congr 3; congr 1; refine sort_sel (ascV x) (fun i => ?_) (fun i => ?_)
  · have : (Nat.xor l g).testBit i = (l.testBit i ^^ g.testBit i) := Nat.testBit_xor l g i; rw [this]
    cases l.testBit i <;> cases g.testBit i <;> rfl
  · cases l.testBit i <;> cases g.testBit i <;> simp
theorem rki_ev {k : Nat} {B : List Nat} {l g : Nat} {σ : zad} (hl : l < 16) (hg : g < 16) (hg0 : g ≠ 0) (I : NI p q B σ) (s3 : gt σ 3 = some (.val (zab (za0 p q l)))) :
    ∃ σ', zac (gam (k + 1)) 0 rki (zaa σ 4 (.val (zab (za0 p q g)))) = some (.next, σ') ∧ NI p q B σ' ∧ gt σ' 3 = some (.val (zab (za0 p q (rdM l g)))) := by
  obtain ⟨z, s1⟩ := I; generalize hs : zaa σ 4 (.val (zab (za0 p q g))) = σ1 at *; have z1 : ln σ1 = 6 := by rw [← hs, lS, z]
  have t1 : gt σ1 1 = some (.own (basV p q B)) := by rw [← hs, gS, s1]; rfl
  have t3 : gt σ1 3 = some (.val (zab (za0 p q l))) := by rw [← hs, gS, s3]; rfl
  have t4 : gt σ1 4 = some (.val (zab (za0 p q g))) := by rw [← hs, gS, z]; rfl
  clear hs; obtain ⟨lh, lm⟩ := low_head g hg hg0; have hidx : zan (zab (za0 p q g)) (.int 0) = some (.str (hs4 p q (lowV g))) := by
    refine zdp (j := 0) ?_ rfl; unfold za0 sel; rw [List.map_map, ← List.head?_eq_getElem?, List.head?_map, lh]; rfl
  have hin : zae .In (.str (hs4 p q (lowV g))) (zab (za0 p q l)) = some (l.testBit (lowV g)) := by
    have e : ∀ a b c : Nat, zae .In (.str [a, b, c]) (zab (za0 p q l)) = zbz (.str [a, b, c]) ((za0 p q l).map .str) := fun _ _ _ => rfl
    have e2 : ∃ a b c, hs4 p q (lowV g) = [a, b, c] := by
      unfold hs4; split <;> exact ⟨_, _, _, rfl⟩
    obtain ⟨a, b, c, e2⟩ := e2; have := sel_mem (ascV x) (fun i => l.testBit i) lm
    rw [e2] at this ⊢; rw [e, zg5]; exact congrArg some this
  have hc : asB (evE (gam (k + 1)) (.cmp .In (.idx (.var 4) (.lit (.int 0))) (.var 3)) .test σ1) = some (l.testBit (lowV g)) := by
    have a1 : evE (gam (k + 1)) (.idx (.var 4) (.lit (.int 0))) .val σ1 = some (.str (hs4 p q (lowV g))) := by
      rw [evE, evE, evE, gP, t4]; exact hidx
    have a2 : evE (gam (k + 1)) (.var 3) .val σ1 = some (zab (za0 p q l)) := by rw [evE, gV, t3]; rfl
    rw [evE, a1, a2]; dsimp only; rw [hin]
    cases l.testBit (lowV g) <;> rfl
  have hr : rdM l g = if l.testBit (lowV g) then Nat.xor l g else l := by
    unfold rdM; rw [mask_facts l hl g hg hg0]
    cases l.testBit (lowV g) <;> rfl
  cases hb : l.testBit (lowV g) with
  | false =>
    rw [hb] at hc hr
    refine ⟨σ1, ?_, ⟨z1, t1⟩, by rw [hr]; exact t3⟩
    rw [rki, zac, evS, hc]
    rfl
  | true =>
    rw [hb] at hc hr
    have f1 : evS (gam (k + 1)) 0 (.assign 5 (.call (.ref 38) [(.var 3), (.var 4)])) σ1 = some (.next, zaa σ1 5 (.val (.tup [zab (sel (hs4 p q) V4 fun i => l.testBit i && !g.testBit i), zab (sel (hs4 p q) V4 fun i => g.testBit i && !l.testBit i)]))) := by
      refine za5 ?_; have a3 : evE (gam (k + 1)) (.var 3) .val (frz1 σ1 5) = some (zab (za0 p q l)) := by rw [evE, gV, gZ, t3]; rfl
      have a4 : evE (gam (k + 1)) (.var 4) .val (frz1 σ1 5) = some (zab (za0 p q g)) := by rw [evE, gV, gZ, t4]; rfl
      rw [evE]; simp only [zag, a3, a4, fin]; exact sld_sub x
    have hso := sort_sub x (l := l) (g := g)
    have h1 := zcr (hs := hs4 p q) (V := V4) fun i => l.testBit i && !g.testBit i
    have h2 := zcr (hs := hs4 p q) (V := V4) fun i => g.testBit i && !l.testBit i
    generalize (sel (hs4 p q) V4 fun i => l.testBit i && !g.testBit i) = D1 at *
    generalize (sel (hs4 p q) V4 fun i => g.testBit i && !l.testBit i) = D2 at *
    have f2 : evS (gam (k + 1)) 0 (.assign 3 (.call (.builtin "sorted") [(.bin .Add (.idx (.var 5) (.lit (.int 0))) (.idx (.var 5) (.lit (.int 1))))])) (zaa σ1 5 (.val (.tup [zab D1, zab D2]))) = some (.next, zaa (zaa σ1 5 (.val (.tup [zab D1, zab D2]))) 3 (.val (zab (za0 p q (Nat.xor l g))))) := by
      refine za5 ?_; have g5 : zbe (frz1 (zaa σ1 5 (.val (.tup [zab D1, zab D2]))) 3) 5 = some (.tup [zab D1, zab D2]) := by
        rw [gP, gZ, gS, z1]; rfl
      have g5' : evE (gam (k + 1)) (.var 5) .peek (frz1 (zaa σ1 5 (.val (.tup [zab D1, zab D2]))) 3) = some (.tup [zab D1, zab D2]) := by rw [evE]; exact g5
      have a0 : evE (gam (k + 1)) (.idx (.var 5) (.lit (.int 0))) .val (frz1 (zaa σ1 5 (.val (.tup [zab D1, zab D2]))) 3) = some (zab D1) := by
        rw [evE, g5', evE]; rfl
      have a1 : evE (gam (k + 1)) (.idx (.var 5) (.lit (.int 1))) .val (frz1 (zaa σ1 5 (.val (.tup [zab D1, zab D2]))) 3) = some (zab D2) := by
        rw [evE, g5', evE]; rfl
      have hl4 : V4.length = 4 := rfl; have hz : (D1.map PV.str).length + (D2.map PV.str).length ≤ small := by unfold small; simp only [List.length_map]; omega
      have ab : evE (gam (k + 1)) (.bin .Add (.idx (.var 5) (.lit (.int 0))) (.idx (.var 5) (.lit (.int 1)))) .val (frz1 (zaa σ1 5 (.val (.tup [zab D1, zab D2]))) 3) = some (zab (D1 ++ D2)) := by
        rw [evE, a0, a1]; simp only [fin, zaf, if_pos hz, zab, List.map_append]
      rw [evE]; simp only [zag, ab, fin]; exact hso
    refine ⟨zaa (zaa σ1 5 (.val (.tup [zab D1, zab D2]))) 3 (.val (zab (za0 p q (Nat.xor l g)))), ?_, ⟨by rw [lS, lS, z1], by rw [gS, gS, t1]; rfl⟩, ?_⟩
    · rw [rki, zac, evS, hc]; dsimp only; rw [zai f1, zai f2]; rfl
    · rw [gS, lS, z1, hr]; rfl
theorem inner_run {k : Nat} {B : List Nat} : ∀ (C D : List Nat) (l : Nat) (σ : zad) (m : Nat), B = D ++ C → (∀ g ∈ C, g < 16 ∧ g ≠ 0) → l < 16 → NI p q B σ → gt σ 3 = some (.val (zab (za0 p q l))) →
    ∃ σ', loopO (.one 4) 1 (zac (gam (k + 1)) 0 rki) D.length (C.length + 1 + m) σ = some (.next, σ') ∧ NI p q B σ' ∧ gt σ' 3 = some (.val (zab (za0 p q (C.foldl rdM l)))) ∧ C.foldl rdM l < 16
  | [], D, l, σ, m, hB, _, hl, I, s3 => by
    refine ⟨σ, ?_, I, s3, hl⟩; rw [show ([] : List Nat).length + 1 + m = m + 1 by simp; omega, loopO]; rw [gE, I.s1]; dsimp only; have : (basV p q B)[D.length]? = none := List.getElem?_eq_none (by rw [hB]; simp); rw [this]
  | g :: C, D, l, σ, m, hB, hC, hl, I, s3 => by
    have hg := hC g (List.mem_cons_self ..); obtain ⟨σ1, e1, I1, s31⟩ := rki_ev x (k := k) hl hg.1 hg.2 I s3; obtain ⟨σ2, e2, I2, s32, hl2⟩ := inner_run (k := k) C (D ++ [g]) (rdM l g) σ1 m (by rw [hB]; simp) (fun a ha => hC a (List.mem_cons_of_mem _ ha)) (rd_lt l hl g hg.1) I1 s31
    refine ⟨σ2, ?_, I2, s32, hl2⟩; rw [show (g :: C).length + 1 + m = (C.length + 1 + m) + 1 by simp; omega, loopO]; rw [gE, I.s1]; dsimp only; have : (basV p q B)[D.length]? = some (zab (za0 p q g)) := by rw [hB]; simp
    rw [this]; simp only [Tgt.put, e1]; rw [List.length_append] at e2; exact e2
def addB (B : List Nat) (r : Nat) : List Nat := if B.foldl rdM r = 0 then B else B ++ [B.foldl rdM r]
theorem rkb_ev {k : Nat} {B : List Nat} {r : Nat} {σ : zad} (hr : r < 16) (hB : ∀ g ∈ B, g < 16 ∧ g ≠ 0) (hl : B.length ≤ 60) (I : NI p q B σ) : ∃ σ', zac (gam (k + 1)) 0 rkb (zaa σ 2 (.val (zab (za0 p q r)))) = some (.next, σ') ∧ NI p q (addB B r) σ' ∧ (∀ g ∈ addB B r, g < 16 ∧ g ≠ 0) ∧ (addB B r).length ≤ B.length + 1 := by
  obtain ⟨z, s1⟩ := I; have f1 : evS (gam (k + 1)) 0 (.assign 3 (.var 2)) (zaa σ 2 (.val (zab (za0 p q r)))) = some (.next, zaa (zaa σ 2 (.val (zab (za0 p q r)))) 3 (.val (zab (za0 p q r)))) := by
    refine za5 ?_; rw [evE, gV, gZ, gS, z]; rfl
  have I1 : NI p q B (zaa (zaa σ 2 (.val (zab (za0 p q r)))) 3 (.val (zab (za0 p q r)))) := ⟨by rw [lS, lS, z], by rw [gS, gS, s1]; rfl⟩; have s3 : gt (zaa (zaa σ 2 (.val (zab (za0 p q r)))) 3 (.val (zab (za0 p q r)))) 3 = some (.val (zab (za0 p q r))) := by rw [gS, lS, z]; rfl
  obtain ⟨σ1, e1, I2, s31, hl16⟩ := inner_run x (k := k) (B := B) B [] r _ (zb9 - (B.length + 1)) rfl hB hr I1 s3; rw [show B.length + 1 + (zb9 - (B.length + 1)) = zb9 by unfold zb9; omega] at e1; have f2 : evS (gam (k + 1)) 0 (.forOwn (.one 4) 1 rki) (zaa (zaa σ 2 (.val (zab (za0 p q r)))) 3 (.val (zab (za0 p q r)))) = some (.next, σ1) := by
    rw [evS]; exact e1
  obtain ⟨z2, t1⟩ := I2; unfold addB; generalize hL : B.foldl rdM r = l at *; have hc : asB (evE (gam (k + 1)) (.var 3) .test σ1) = some (!decide (l = 0)) := by
    rw [evE, gP, s31]; show asB ((truthy (.list ((za0 p q l).map .str))).map PV.bool) = _; have : truthy (.list ((za0 p q l).map .str)) = some (!((za0 p q l).map PV.str).isEmpty) := rfl; rw [this, sub_nil l hl16]; rfl
  by_cases h0 : l = 0
  · rw [decide_eq_true h0] at hc; rw [if_pos h0]; refine ⟨σ1, ?_, ⟨z2, t1⟩, hB, by omega⟩; rw [rkb, zai f1, zai f2, zac, evS, hc]; rfl
  · rw [decide_eq_false h0, Bool.not_false] at hc; rw [if_neg h0]; have f3 : evS (gam (k + 1)) 0 (.push 1 (.var 3)) σ1 = some (.next, σ1.set 1 (.own (basV p q B ++ [zab (za0 p q l)]))) := by
      have a3 : evE (gam (k + 1)) (.var 3) .val σ1 = some (zab (za0 p q l)) := by rw [evE, gV, s31]; rfl
      have hz : (basV p q B).length < small := by unfold small; simp; omega
      rw [evS, a3]; dsimp only; rw [gE, t1]; dsimp only; rw [if_pos hz]
    refine ⟨σ1.set 1 (.own (basV p q B ++ [zab (za0 p q l)])), ?_, ⟨by rw [lL, z2], ?_⟩, ?_, by simp⟩
    · rw [rkb, zai f1, zai f2, zac, evS, hc]; dsimp only; rw [zai f3]; rfl
    · rw [gL, z2]; simp [basV]
    · intro g hg; rcases List.mem_append.mp hg with hg | hg
      · exact hB g hg
      · rw [List.mem_singleton.mp hg]; exact ⟨hl16, h0⟩
theorem rank_loop {k : Nat} : ∀ (rs B : List Nat) (σ : zad), (∀ r ∈ rs, r < 16) → (∀ g ∈ B, g < 16 ∧ g ≠ 0) → B.length + rs.length ≤ 60 → NI p q B σ → ∃ σ', zbx (.one 2) (zac (gam (k + 1)) 0 rkb) (rs.map fun m => zab (za0 p q m)) σ = some (.next, σ') ∧ NI p q (rs.foldl addB B) σ'
  | [], B, σ, _, _, _, I => ⟨σ, rfl, I⟩
  | r :: rs, B, σ, hr, hB, hl, I => by
    obtain ⟨σ1, e1, I1, hB1, hl1⟩ := rkb_ev x (k := k) (hr r (List.mem_cons_self ..)) hB (by simp at hl; omega) I; obtain ⟨σ2, e2, I2⟩ := rank_loop (k := k) rs (addB B r) σ1 (fun a ha => hr a (List.mem_cons_of_mem _ ha)) hB1 (by simp at hl; omega) I1
    exact ⟨σ2, by simp only [List.map_cons, zbx, Tgt.put, e1, e2], I2⟩
theorem g178 {k : Nat} {rs : List Nat} (hr : ∀ r ∈ rs, r < 16) (hl : rs.length ≤ 60) : gam (k + 2) (.ref 178) [.list (rs.map fun m => zab (za0 p q m))] = some (.int ((rs.foldl addB []).length : Int)) := by
  rw [zbj (by decide) (by decide) (by rfl) rfl]; have key : ∃ σ', zac (gam (k + 1)) 0 b178 ([PV.list (rs.map fun m => zab (za0 p q m))].map Mine.Slot.val ++ List.replicate (6 - [PV.list (rs.map fun m => zab (za0 p q m))].length) .unset) = some (.ret (.int ((rs.foldl addB []).length : Int)), σ') := by
    generalize hσ : ([PV.list (rs.map fun m => zab (za0 p q m))].map Mine.Slot.val ++ List.replicate (6 - [PV.list (rs.map fun m => zab (za0 p q m))].length) .unset : zad) = σ0
    have z : ln σ0 = 6 := by rw [← hσ]; rfl
    have s0 : gt σ0 0 = some (.val (.list (rs.map fun m => zab (za0 p q m)))) := by rw [← hσ]; rfl
    clear hσ; have f1 : evS (gam (k + 1)) 0 (.own 1) σ0 = some (.next, zaa σ0 1 (.own [])) := by simp [zac, evS, evE, zag, zah, fin, asB, gV, gP, gE, gv, gp, gZ, gA, gS, gL, lS, lL, sZ, fg, zak, truthy, zae, eqo, zaj, zaf]
    have I : NI p q [] (zaa σ0 1 (.own [])) := ⟨by rw [lS, z], by rw [gS, z]; rfl⟩; obtain ⟨σ1, e1, I1⟩ := rank_loop x (k := k) rs [] _ hr (fun g hg => nomatch hg) (by simpa using hl) I
    have f2 : evS (gam (k + 1)) 0 (.for (.one 2) .plain (.var 0) (.lit .nul) rkb) (zaa σ0 1 (.own [])) = some (.next, σ1) := by
      have a1 : evE (gam (k + 1)) (.var 0) .val (zaa σ0 1 (.own [])) = some (.list (rs.map fun m => zab (za0 p q m))) := by
        rw [evE, gV, gS, s0]; rfl
      have an : evE (gam (k + 1)) (.lit .nul) .val (zaa σ0 1 (.own [])) = some .nul := by simp [zac, evS, evE, zag, zah, fin, asB, gV, gP, gE, gv, gp, gZ, gA, gS, gL, lS, lL, sZ, fg, zak, truthy, zae, eqo, zaj, zaf]
      rw [evS, a1, an]; simp only [zau, za7, e1]
    rw [b178, zai f1, zai f2]; refine ⟨frzA σ1, zdm ?_⟩; rw [evE, evE, gP, gA, I1.s1]; show fin .val (some (.int ((basV p q (rs.foldl addB [])).length : Int))) = _; simp [fin]
  obtain ⟨σ', h⟩ := key; exact zbo h
end
theorem fold_add (B : List Nat) (r l : Nat) : (addB B r).foldl rdM l = rdM (B.foldl rdM l) (B.foldl rdM r) := by
  unfold addB
  split
  · rename_i h; rw [h, rd_zero]
  · rw [List.foldl_append]; rfl
theorem len_add (B : List Nat) (r : Nat) : (addB B r).length = nzM (B.foldl rdM r) B.length := by
  unfold addB nzM
  split
  · rename_i h; rw [h]; rfl
  · rename_i h; have : Nat.beq (B.foldl rdM r) 0 = false := by
      cases hb : Nat.beq (B.foldl rdM r) 0 with
      | false => rfl
      | true => exact absurd (Nat.eq_of_beq_eq_true hb) h
    rw [this]; simp
theorem rank_rk (a b c d : Nat) : ([a, b, c, d].foldl addB []).length = rkM a b c d := by
  simp only [List.foldl_cons, List.foldl_nil, len_add, fold_add]; rfl
end Mine
namespace Mine
open PySem
theorem zgi {α : Type} {t : Tgt} {σ : zad} {inner : zad → Option (List PV)} (inj : α → PV) (put : α → zad) (g : α → List PV) : ∀ xs : List α, (∀ a ∈ xs, t.put σ (inj a) = some (put a) ∧ inner (put a) = some (g a)) → (xs.flatMap g).length ≤ small → zc0 t σ inner (xs.map inj) = some (xs.flatMap g)
  | [], _, _ => rfl
  | a :: xs, h, hz => by
    obtain ⟨h1, h2⟩ := h a (List.mem_cons_self ..); have hz' : (g a).length + (xs.flatMap g).length ≤ small := by simpa using hz
    have ih := zgi inj put g xs (fun b hb => h b (List.mem_cons_of_mem _ hb)) (by omega)
    simp only [List.map_cons, zc0, h1, h2, ih, if_pos hz', List.flatMap_cons]
theorem cat_ev {Γ : Gam} {i j : Nat} {a b : List Nat} {σ : zad} (hi : zaw σ i = some (.str a)) (hj : zaw σ j = some (.str b)) (hz : a.length + 1 + b.length ≤ small) : evE Γ (catE i j) .val σ = some (.str (a ++ [46] ++ b)) := by
  have h1 : a.length + 1 ≤ small := by omega
  unfold catE; rw [evE, evE, evE, evE, evE]; rw [hi, hj]; simp only [fin, zaf, List.length_append, List.length_cons, List.length_nil, Nat.zero_add, if_pos h1, if_pos hz]
theorem comp2_cat {Γ : Gam} {A B : List (List Nat)} (hA : ∀ a ∈ A, a.length ≤ 100) (hB : ∀ b ∈ B, b.length ≤ 100) (hz : A.length * B.length ≤ small) :
    zc0 (.one 1) [.unset, .unset, .unset, .val (zab B)] (fun σ1 => match evE Γ (.var 3) .val σ1 with
            | some z => (match zau .plain z .nul with
              | some items2 => zbc (.one 2) σ1 (fun _ => some true) (evE Γ (catE 1 2) .val) items2
              | none => none)
            | none => none) (A.map .str) = some ((A.flatMap fun a => B.map fun b => a ++ [46] ++ b).map .str) := by
  rw [zgi PV.str (fun a => [.unset, .val (.str a), .unset, .val (zab B)]) (fun a => (B.map fun b => a ++ [46] ++ b).map .str) A (fun a ha => ⟨rfl, ?_⟩) ?_]
  · rw [List.map_flatMap]
  · have : ∀ A : List (List Nat), (A.flatMap fun a => (B.map fun b => a ++ [46] ++ b).map PV.str).length = A.length * B.length := by
      intro A
      induction A with
      | nil => simp
      | cons a A ih =>
        rw [List.flatMap_cons, List.length_append, ih]
        simp [Nat.add_mul]; omega
    rw [this]; exact hz
  · have e : evE Γ (.var 3) .val [.unset, .val (.str a), .unset, .val (zab B)] = some (zab B) := by rw [evE]; rfl
    rw [e]; dsimp only [zau, za7]; rw [zb8 (x := 2) PV.str (fun b => .str (a ++ [46] ++ b)) (fun _ => true) B (fun b hb => ⟨rfl, fun _ => ?_⟩), zda, List.map_map]
    · rfl
    · exact cat_ev rfl rfl (by have := hA a ha; have := hB b hb; unfold small; omega)
theorem twos_cat (p q : Nat) : (([[p], [q]] : List (List Nat)).flatMap fun a => ([[p], [q]] : List (List Nat)).map fun b => a ++ [46] ++ b) = (TW p q).map s2 := rfl
theorem hosts_cat (p q : Nat) : (((TW p q).map s2).flatMap fun a => ((TW p q).map s2).map fun b => a ++ [46] ++ b) = zbt p q := rfl
theorem zhh {Γ : Gam} {T : List Two} {R : Two → List (List Nat)} {i j : Nat} {out : List Nat → List Nat → List Nat} (hR : ∀ t, ∀ b ∈ R t, b.length ≤ 100) (hl : ∀ t, (R t).length ≤ 16) (hT : T.length ≤ 16)
    (hc : ∀ (t : Two) (b : List Nat), b.length ≤ 100 → evE Γ (catE i j) .val [.unset, .val (.str (s2 t)), .val (zab (R t)), .val (.str b)] = some (.str (out (s2 t) b))) :
    zc0 (.two 1 2) [.unset, .unset, .unset, .unset] (fun σ1 => match evE Γ (.var 2) .val σ1 with
            | some z => (match zau .plain z .nul with
              | some items2 => zbc (.one 3) σ1 (fun _ => some true) (evE Γ (catE i j) .val) items2
              | none => none)
            | none => none) (zcn ((T.map s2).map .str) (T.map fun t => zab (R t))) = some ((T.flatMap fun t => (R t).map fun b => out (s2 t) b).map .str) := by
  rw [List.map_map, zipL_map]; rw [zgi (fun t : Two => PV.tup [(PV.str ∘ s2) t, zab (R t)]) (fun t => [.unset, .val (.str (s2 t)), .val (zab (R t)), .unset]) (fun t => ((R t).map fun b => out (s2 t) b).map .str) T (fun t ht => ⟨rfl, ?_⟩) ?_]
  · rw [List.map_flatMap]
  · have : ∀ T : List Two, (T.flatMap fun t => ((R t).map fun b => out (s2 t) b).map PV.str).length ≤ T.length * 16 := by
      intro T
      induction T with
      | nil => simp
      | cons t T ih =>
        rw [List.flatMap_cons, List.length_append]
        have := hl t
        simp only [List.length_map, List.length_cons] at ih ⊢
        omega
    have := this T; unfold small; omega
  · have e : evE Γ (.var 2) .val [.unset, .val (.str (s2 t)), .val (zab (R t)), .unset] = some (zab (R t)) := by rw [evE]; rfl
    rw [e]; dsimp only [zau, za7]; rw [zb8 (x := 3) PV.str (fun b => .str (out (s2 t) b)) (fun _ => true) (R t) (fun b hb => ⟨rfl, fun _ => ?_⟩), zda, List.map_map]
    · rfl
    · exact hc t b (hR t b hb)
theorem s4_cat (x y : Two) : s2 x ++ [46] ++ s2 y = s4 (x, y) := rfl
theorem rows_whole (p q : Nat) (f : za1 → Bool) : ((TW p q).flatMap fun t => (zcc p q f t).map fun b => s2 t ++ [46] ++ b) = sel s4 (HW p q) f := by
  unfold zcc sel HW; rw [List.filter_flatMap, List.map_flatMap]; congr 1
  funext t
  rw [List.filter_map, List.map_map, List.map_map]; rfl
theorem cols_perm (p q : Nat) (f : za1 → Bool) : (sel s4 (HW p q) f).Perm ((TW p q).flatMap fun t => (zch p q f t).map fun b => b ++ [46] ++ s2 t) := by
  have e : ∀ x y : Two, ∀ r r' : List (List Nat), True := fun _ _ _ _ => trivial
  unfold zch sel; simp only [HW, TW, List.flatMap_cons, List.flatMap_nil, List.map_cons, List.map_nil, List.append_nil, List.cons_append, List.nil_append, List.filter_cons, List.filter_nil]; refine List.perm_iff_count.mpr fun z => ?_
  have ite_cons : ∀ (b : Bool) (h : za1) (l : List za1), ((if b = true then h :: l else l).map s4).count z = (if b = true then (if s4 h == z then 1 else 0) else 0) + (l.map s4).count z := by
    intro b h l
    cases b
    · simp
    · simp [List.count_cons]; omega
  have ite_cons2 : ∀ (b : Bool) (x t : Two) (l : List Two), (((if b = true then x :: l else l).map s2).map fun c => c ++ [46] ++ s2 t).count z = (if b = true then (if s4 (x, t) == z then 1 else 0) else 0) + ((l.map s2).map fun c => c ++ [46] ++ s2 t).count z := by
    intro b x t l
    cases b
    · simp
    · simp only [if_true, List.map_cons, s4_cat, List.count_cons]; omega
  simp only [ite_cons, ite_cons2, List.count_append, List.map_nil, List.count_nil]; omega
end Mine
namespace Mine
open PySem
theorem zb0 : ∀ {n : Nat} {f : Nat → Bool}, allB n f = true → ∀ i < n, f i = true
  | 0, _, _, i, hi => absurd hi (Nat.not_lt_zero i)
  | n + 1, f, h, i, hi => by
    unfold allB at h
    cases hf : f n with
    | false => rw [hf] at h; cases h
    | true =>
      rw [hf] at h
      rcases Nat.lt_succ_iff_lt_or_eq.mp hi with h1 | h1
      · exact zb0 h i h1
      · rw [h1]; exact hf
theorem rank_ok {a b c d : Nat} (ha : a < 16) (hb : b < 16) (hc : c < 16) (hd : d < 16) : rkM a b c d = rkM (colM a b c d 0) (colM a b c d 1) (colM a b c d 2) (colM a b c d 3) := by
  have h := zb0 (zb0 (zb0 (zb0 rank_all a ha) b hb) c hc) d hd; exact Nat.eq_of_beq_eq_true h
theorem nz_le (l k : Nat) : nzM l k ≤ k + 1 := by
  unfold nzM
  cases Nat.beq l 0 <;> simp
theorem rank_le (a b c d : Nat) : rkM a b c d ≤ 4 := by
  unfold rkM rk3; have h1 := nz_le a 0; have h2 := nz_le (rdM b a) (nzM a 0); have h3 := nz_le (rdM (rdM c a) (rdM b a)) (nzM (rdM b a) (nzM a 0)); have h4 := nz_le (rdM (rdM (rdM d a) (rdM b a)) (rdM (rdM c a) (rdM b a))) (nzM (rdM (rdM c a) (rdM b a)) (nzM (rdM b a) (nzM a 0))); omega
theorem rank_dep {a b c d : Nat} (ha : a < 16) (hb : b < 16) (hc : c < 16) (hd : d < 16) {x : Nat} (hx : x < 15) (h0 : combM a b c d (x + 1) = 0) : rkM a b c d ≤ 3 := by
  have h := zb0 (zb0 (zb0 (zb0 dep_all a ha) b hb) c hc) d hd; have hle := rank_le a b c d
  cases hr : Nat.beq (rkM a b c d) 4 with
  | false =>
    have : rkM a b c d ≠ 4 := fun q => by rw [q] at hr; cases hr
    omega
  | true =>
    unfold depM at h
    rw [hr] at h
    have h2 := zb0 (f := fun x => cond (Nat.beq (combM a b c d (Nat.succ x)) 0) false true) h x hx
    have : combM a b c d (Nat.succ x) = 0 := h0
    simp only [this] at h2
    cases h2
def xb (m i : Nat) : Bool := !(Nat.beq (bitM m i) 0)
def dotB (x u : Nat) : Bool := (xb x 0 && xb u 0) ^^ ((xb x 1 && xb u 1) ^^ ((xb x 2 && xb u 2) ^^ (xb x 3 && xb u 3)))
def anyB : Nat → (Nat → Bool) → Bool
  | 0, _ => false
  | n + 1, f => cond (f n) true (anyB n f)
theorem anyB_get : ∀ {n : Nat} {f : Nat → Bool}, anyB n f = true → ∃ i, i < n ∧ f i = true
  | 0, _, h => by cases h
  | n + 1, f, h => by
    unfold anyB at h
    cases hf : f n with
    | true => exact ⟨n, Nat.lt_succ_self n, hf⟩
    | false =>
      rw [hf] at h
      obtain ⟨i, h1, h2⟩ := anyB_get h
      exact ⟨i, Nat.lt_succ_of_lt h1, h2⟩
theorem ex_x : allB 16 (fun u => allB 16 fun v => allB 16 fun w => anyB 15 fun x => !(dotB (Nat.succ x) u) && (!(dotB (Nat.succ x) v) && !(dotB (Nat.succ x) w))) = true := by decide +kernel
theorem zeo (p q : Nat) (f : Two → Bool) : bitM (zbr p q f) 0 = (f (p, p)).toNat ∧ bitM (zbr p q f) 1 = (f (p, q)).toNat ∧ bitM (zbr p q f) 2 = (f (q, p)).toNat ∧ bitM (zbr p q f) 3 = (f (q, q)).toNat := by
  unfold zbr
  cases f (p, p) <;> cases f (p, q) <;> cases f (q, p) <;> cases f (q, q) <;> decide
theorem xb_mask (p q : Nat) (f : Two → Bool) : xb (zbr p q f) 0 = f (p, p) ∧ xb (zbr p q f) 1 = f (p, q) ∧ xb (zbr p q f) 2 = f (q, p) ∧ xb (zbr p q f) 3 = f (q, q) := by
  obtain ⟨h0, h1, h2, h3⟩ := zeo p q f; unfold xb; rw [h0, h1, h2, h3]
  cases f (p, p) <;> cases f (p, q) <;> cases f (q, p) <;> cases f (q, q) <;> decide
theorem mask_xor (p q : Nat) (f g : Two → Bool) : Nat.xor (zbr p q f) (zbr p q g) = zbr p q fun y => f y ^^ g y := by
  unfold zbr; have : ∀ a b c d a' b' c' d' : Bool, Nat.xor (a.toNat + (2 * b.toNat + (4 * c.toNat + 8 * d.toNat))) (a'.toNat + (2 * b'.toNat + (4 * c'.toNat + 8 * d'.toNat))) = (a ^^ a').toNat + (2 * (b ^^ b').toNat + (4 * (c ^^ c').toNat + 8 * (d ^^ d').toNat)) := by decide +kernel
  exact this _ _ _ _ _ _ _ _
theorem zf0 (p q x i : Nat) (f : Two → Bool) : selM x (zbr p q f) i = zbr p q fun y => xb x i && f y := by
  unfold selM xb
  cases Nat.beq (bitM x i) 0 with
  | true => rfl
  | false => rfl
theorem lin (x0 x1 x2 x3 u0 u1 u2 u3 v0 v1 v2 v3 w0 w1 w2 w3 a b c : Bool) (h1 : ((x0 && u0) ^^ ((x1 && u1) ^^ ((x2 && u2) ^^ (x3 && u3)))) = false) (h2 : ((x0 && v0) ^^ ((x1 && v1) ^^ ((x2 && v2) ^^ (x3 && v3)))) = false) (h3 : ((x0 && w0) ^^ ((x1 && w1) ^^ ((x2 && w2) ^^ (x3 && w3)))) = false) :
    ((x0 && ((u0 && a) ^^ ((v0 && b) ^^ (w0 && c)))) ^^ ((x1 && ((u1 && a) ^^ ((v1 && b) ^^ (w1 && c)))) ^^ ((x2 && ((u2 && a) ^^ ((v2 && b) ^^ (w2 && c)))) ^^ (x3 && ((u3 && a) ^^ ((v3 && b) ^^ (w3 && c))))))) = false := by
  have key : ((x0 && ((u0 && a) ^^ ((v0 && b) ^^ (w0 && c)))) ^^ ((x1 && ((u1 && a) ^^ ((v1 && b) ^^ (w1 && c)))) ^^ ((x2 && ((u2 && a) ^^ ((v2 && b) ^^ (w2 && c)))) ^^ (x3 && ((u3 && a) ^^ ((v3 && b) ^^ (w3 && c)))))))
      = ((((x0 && u0) ^^ ((x1 && u1) ^^ ((x2 && u2) ^^ (x3 && u3)))) && a) ^^ ((((x0 && v0) ^^ ((x1 && v1) ^^ ((x2 && v2) ^^ (x3 && v3)))) && b) ^^ (((x0 && w0) ^^ ((x1 && w1) ^^ ((x2 && w2) ^^ (x3 && w3)))) && c))) := by
    clear h1 h2 h3
    cases x0 <;> cases x1 <;> cases x2 <;> cases x3 <;> cases a <;> cases b <;> cases c <;> simp only [Bool.false_and, Bool.true_and, Bool.and_false, Bool.and_true, Bool.false_xor, Bool.xor_false, Bool.xor_assoc, Bool.xor_comm, Bool.xor_left_comm]
  rw [key, h1, h2, h3]; rfl
theorem zf4 (p q : Nat) (n : Int) : ∃ u v : Two → Bool, ∀ h : za1, zar p q n h = (u h.1 && v h.2) := by
  have hf := nf_lt n; have hl := nl_lt n; have cf : nf n = 0 ∨ nf n = 1 ∨ nf n = 2 := by omega
  have cl : nl n = 0 ∨ nl n = 1 ∨ nl n = 2 := by omega
  refine ⟨fun x => okL p q n 0 ([x.1, x.2].take (nf n)), fun y => okL p q n (nf n) ([y.1, y.2].drop (2 - nl n)), fun h => ?_⟩
  unfold zar plainL; rcases cf with hf | hf | hf <;> rcases cl with hl | hl | hl <;> rw [hf, hl] <;> simp [okL, Bool.and_assoc]
theorem lang_prod (p q : Nat) (n1 n2 n3 : Int) : ∃ u1 v1 u2 v2 u3 v3 : Two → Bool, ∀ h : za1, xl p q [n1, n2, n3] false h = ((u1 h.1 && v1 h.2) ^^ ((u2 h.1 && v2 h.2) ^^ (u3 h.1 && v3 h.2))) := by
  obtain ⟨u1, v1, h1⟩ := zf4 p q n1; obtain ⟨u2, v2, h2⟩ := zf4 p q n2; obtain ⟨u3, v3, h3⟩ := zf4 p q n3; refine ⟨u1, v1, u2, v2, u3, v3, fun h => ?_⟩
  simp only [xl, h1, h2, h3]
  cases (u1 h.1 && v1 h.2) <;> cases (u2 h.1 && v2 h.2) <;> cases (u3 h.1 && v3 h.2) <;> rfl
def rwM (p q : Nat) (f : za1 → Bool) (t : Two) : Nat := zbr p q fun y => f (t, y)
def clM (p q : Nat) (f : za1 → Bool) (t : Two) : Nat := zbr p q fun x => f (x, t)
def zc9 (p q : Nat) (f : za1 → Bool) : Nat := rkM (rwM p q f (p, p)) (rwM p q f (p, q)) (rwM p q f (q, p)) (rwM p q f (q, q))
def colRk (p q : Nat) (f : za1 → Bool) : Nat := rkM (clM p q f (p, p)) (clM p q f (p, q)) (clM p q f (q, p)) (clM p q f (q, q))
theorem rk_eq (p q : Nat) (f : za1 → Bool) : zc9 p q f = colRk p q f := by
  unfold zc9 colRk rwM; rw [rank_ok (zcf ..) (zcf ..) (zcf ..) (zcf ..)]; have e : ∀ t : Two, clM p q f t = (f ((p, p), t)).toNat + (2 * (f ((p, q), t)).toNat + (4 * (f ((q, p), t)).toNat + 8 * (f ((q, q), t)).toNat)) := fun t => rfl
  have ec : ∀ a b c d i : Nat, colM a b c d i = bitM a i + (2 * bitM b i + (4 * bitM c i + 8 * bitM d i)) := fun _ _ _ _ _ => rfl
  have b0 := zeo p q fun y => f ((p, p), y)
  have b1 := zeo p q fun y => f ((p, q), y)
  have b2 := zeo p q fun y => f ((q, p), y)
  have b3 := zeo p q fun y => f ((q, q), y)
  simp only [ec, e, b0, b1, b2, b3]
theorem rk_le {p q : Nat} {n1 n2 n3 : Int} : zc9 p q (fun h => xl p q [n1, n2, n3] false h) ≤ 3 := by
  obtain ⟨u1, v1, u2, v2, u3, v3, hp⟩ := lang_prod p q n1 n2 n3; have hex := zb0 (zb0 (zb0 ex_x (zbr p q u1) (zcf ..)) (zbr p q u2) (zcf ..)) (zbr p q u3) (zcf ..); obtain ⟨x, hx, h⟩ := anyB_get hex; simp only [Bool.and_eq_true, Bool.not_eq_true', dotB, xb_mask] at h; obtain ⟨d1, d2, d3⟩ := h; unfold zc9; refine rank_dep (zcf ..) (zcf ..) (zcf ..) (zcf ..) hx ?_; unfold combM rwM; rw [zf0, zf0, zf0, zf0, mask_xor, mask_xor, mask_xor]; have : (fun y : Two => (xb (x + 1) 0 && xl p q [n1, n2, n3] false ((p, p), y)) ^^ ((xb (x + 1) 1 && xl p q [n1, n2, n3] false ((p, q), y)) ^^ ((xb (x + 1) 2 && xl p q [n1, n2, n3] false ((q, p), y)) ^^ (xb (x + 1) 3 && xl p q [n1, n2, n3] false ((q, q), y))))) = fun _ => false := by
    funext y
    rw [hp, hp, hp, hp]; exact lin _ _ _ _ _ _ _ _ _ _ _ _ _ _ _ _ _ _ _ d1 d2 d3
  rw [this]; rfl
end Mine
namespace Mine
open PySem
theorem cmp_ne (a b : PV) : zae .NotEq a b = (eqo a b).map (!·) := by unfold zae; rfl
theorem rowB_len (p q : Nat) (f : za1 → Bool) (t : Two) : (zcc p q f t).length ≤ 16 ∧ ∀ b ∈ zcc p q f t, b.length ≤ 100 := by
  refine ⟨?_, fun b hb => ?_⟩
  · have := zcr (hs := s2) (V := TW p q) fun y => f (t, y)
    have h4 : (TW p q).length = 4 := rfl; unfold zcc; omega
  · obtain ⟨y, _, rfl⟩ := List.mem_map.mp hb; simp [s2]
theorem colB_len (p q : Nat) (f : za1 → Bool) (t : Two) : (zch p q f t).length ≤ 16 ∧ ∀ b ∈ zch p q f t, b.length ≤ 100 := by
  refine ⟨?_, fun b hb => ?_⟩
  · have := zcr (hs := s2) (V := TW p q) fun x => f (x, t)
    have h4 : (TW p q).length = 4 := rfl; unfold zch; omega
  · obtain ⟨y, _, rfl⟩ := List.mem_map.mp hb; simp [s2]
section
variable {p q : Nat} (x : PQ p q)
include x
theorem g183 {k : Nat} {n1 n2 n3 : Int} : gam (k + 5) (.ref 183) [zal p q, .list ([n1, n2, n3].map .int)] = some (.bool true) := by
  rw [zbj (by decide) (by decide) (by rfl) rfl]; have r161 := g161 x (k := k) (ns := [n1, n2, n3]); have hrk := rk_eq p q fun h => xl p q [n1, n2, n3] false h
  have hle := rk_le (p := p) (q := q) (n1 := n1) (n2 := n2) (n3 := n3); generalize (fun h => xl p q [n1, n2, n3] false h) = f at *
  have r166 := g166 x (k := k) (f := f); have r171 := g171 x (k := k) (f := f); have hrow : (TW p q).map (fun t => zab (zcc p q f t)) = [rwM p q f (p, p), rwM p q f (p, q), rwM p q f (q, p), rwM p q f (q, q)].map fun m => zab (za0 p q m) := by
    have e : ∀ t, zcc p q f t = za0 p q (rwM p q f t) := fun t => sel_mask p q _
    simp only [e]; rfl
  have hcol : (TW p q).map (fun t => zab (zch p q f t)) = [clM p q f (p, p), clM p q f (p, q), clM p q f (q, p), clM p q f (q, q)].map fun m => zab (za0 p q m) := by
    have e : ∀ t, zch p q f t = za0 p q (clM p q f t) := fun t => sel_mask p q _
    simp only [e]; rfl
  have r178 : gam (k + 4) (.ref 178) [.list ((TW p q).map fun t => zab (zcc p q f t))] = some (.int (zc9 p q f : Int)) := by
    rw [hrow, g178 x.lt (k := k + 2) (by
      intro r hr
      simp at hr
      rcases hr with rfl | rfl | rfl | rfl <;> exact zcf ..) (by simp), rank_rk]
    rfl
  have r178' : gam (k + 4) (.ref 178) [.list ((TW p q).map fun t => zab (zch p q f t))] = some (.int (zc9 p q f : Int)) := by
    rw [hcol, g178 x.lt (k := k + 2) (by
      intro r hr
      simp at hr
      rcases hr with rfl | rfl | rfl | rfl <;> exact zcf ..) (by simp), rank_rk, hrk]
    rfl
  generalize hΓ : gam (k + 4) = Γ at *; have key : ∃ σ', zac Γ 0 b183 ([zal p q, .list ([n1, n2, n3].map .int)].map Mine.Slot.val ++ List.replicate (8 - [zal p q, .list ([n1, n2, n3].map .int)].length) .unset) = some (.ret (.bool true), σ') := by
    generalize [n1, n2, n3].map PV.int = N at *; generalize hσ : ([zal p q, .list N].map Mine.Slot.val ++ List.replicate (8 - [zal p q, .list N].length) .unset : zad) = σ0; have z : ln σ0 = 8 := by rw [← hσ]; rfl
    have s0 : gt σ0 0 = some (.val (zal p q)) := by rw [← hσ]; rfl
    have s1 : gt σ0 1 = some (.val (.list N)) := by rw [← hσ]; rfl
    clear hσ; have an : ∀ σ : zad, evE Γ (.lit .nul) .val σ = some .nul := fun σ => by rw [evE]; rfl
    have var : ∀ {σ : zad} {i : Nat} {v : PV}, gt σ i = some (.val v) → evE Γ (.var i) .val σ = some v := fun {σ i v} h => by rw [evE, gV, h]; rfl
    have step : ∀ {σ : zad} {i j : Nat} {v w : PV}, gt σ i = some (.val v) → i ≠ j → gt (zaa σ j (.val w)) i = some (.val v) := fun {σ i j v w} h hne => by
      rw [gS, if_neg (Ne.symm hne), h]; rfl
    have new : ∀ {σ : zad} {j : Nat} {w : PV}, j < ln σ → gt (zaa σ j (.val w)) j = some (.val w) := fun {σ j w} h => by
      rw [gS, if_pos rfl, if_pos h]
    have fz : ∀ {σ : zad} {i j : Nat} {v : PV}, gt σ i = some (.val v) → gt (frz1 σ j) i = some (.val v) := fun {σ i j v} h => by
      rw [gZ]; split <;> rw [h]; rfl
    -- twos
    have m1 : evS Γ 0 (.assign 2 c1) σ0 = some (.next, zaa σ0 2 (.val (zab ((TW p q).map s2)))) := by
      refine za5 ?_; unfold c1; have a0 : evE Γ (.var 0) .val (frz1 σ0 2) = some (zal p q) := var (fz s0); have hcap : zav (frz1 σ0 2) [none, none, none, some 0] = [.unset, .unset, .unset, .val (zal p q)] := by
        simp only [zav, List.map_cons, List.map_nil, gV, fz s0, gv]
      rw [evE, a0, an]; dsimp only [zau, za7]; rw [hcap]; have := comp2_cat (Γ := Γ) (A := [[p], [q]]) (B := [[p], [q]]) (by simp) (by simp) (by simp [small]); rw [twos_cat] at this; exact (congrArg (fun o => fin .val (o.map PV.list)) this)
    generalize hs : zaa σ0 2 (.val (zab ((TW p q).map s2))) = σ1 at *; have z1 : ln σ1 = 8 := by rw [← hs, lS, z]
    have t0 : gt σ1 0 = some (.val (zal p q)) := by rw [← hs]; exact step s0 (by decide)
    have t1 : gt σ1 1 = some (.val (.list N)) := by rw [← hs]; exact step s1 (by decide)
    have t2 : gt σ1 2 = some (.val (zab ((TW p q).map s2))) := by rw [← hs]; exact new (by rw [z]; decide)
    clear hs; have m2 : evS Γ 0 (.assign 3 c2) σ1 = some (.next, zaa σ1 3 (.val (zab (zbt p q)))) := by
      refine za5 ?_; unfold c2; have a0 : evE Γ (.var 2) .val (frz1 σ1 3) = some (zab ((TW p q).map s2)) := var (fz t2); have hcap : zav (frz1 σ1 3) [none, none, none, some 2] = [.unset, .unset, .unset, .val (zab ((TW p q).map s2))] := by
        simp only [zav, List.map_cons, List.map_nil, gV, fz t2, gv]
      rw [evE, a0, an]; dsimp only [zau, za7]; rw [hcap]; have := comp2_cat (Γ := Γ) (A := (TW p q).map s2) (B := (TW p q).map s2) (by simp [TW, s2]) (by simp [TW, s2]) (by simp [TW, small]); rw [hosts_cat] at this; exact (congrArg (fun o => fin .val (o.map PV.list)) this)
    generalize hs : zaa σ1 3 (.val (zab (zbt p q))) = σ2 at *; have z2 : ln σ2 = 8 := by rw [← hs, lS, z1]
    have u0 : gt σ2 0 = some (.val (zal p q)) := by rw [← hs]; exact step t0 (by decide)
    have u1 : gt σ2 1 = some (.val (.list N)) := by rw [← hs]; exact step t1 (by decide)
    have u2 : gt σ2 2 = some (.val (zab ((TW p q).map s2))) := by rw [← hs]; exact step t2 (by decide)
    have u3 : gt σ2 3 = some (.val (zab (zbt p q))) := by rw [← hs]; exact new (by rw [z1]; decide)
    clear hs; have m3 : evS Γ 0 (.assign 4 (.call (.ref 161) [(.var 0), (.var 1), (.var 3)])) σ2 = some (.next, zaa σ2 4 (.val (zab (sel s4 (HW p q) f)))) := by
      refine za5 ?_; rw [evE]; simp only [zag, var (fz u0), var (fz u1), var (fz u3), fin]; exact r161
    generalize hs : zaa σ2 4 (.val (zab (sel s4 (HW p q) f))) = σ3 at *; have z3 : ln σ3 = 8 := by rw [← hs, lS, z2]
    have v0 : gt σ3 0 = some (.val (zal p q)) := by rw [← hs]; exact step u0 (by decide)
    have v2 : gt σ3 2 = some (.val (zab ((TW p q).map s2))) := by rw [← hs]; exact step u2 (by decide)
    have v4 : gt σ3 4 = some (.val (zab (sel s4 (HW p q) f))) := by rw [← hs]; exact new (by rw [z2]; decide)
    clear hs; have isn : ∀ {σ : zad} {i : Nat} {l : List PV}, gt σ i = some (.val (.list l)) → evE Γ (.cmp .Is (.var i) (.lit .nul)) .test σ = some (.bool false) := fun {σ i l} h => by
      rw [evE, var h, an]; rfl
    have m4 : evS Γ 0 (.ite (.cmp .Is (.var 4) (.lit .nul)) [.ret (.lit (.bool false))] []) σ3 = some (.next, σ3) := by
      rw [evS, isn v4]; rfl
    have m5 : evS Γ 0 (.assign 5 (.call (.ref 166) [(.var 0), (.var 2), (.var 4)])) σ3 = some (.next, zaa σ3 5 (.val (.list ((TW p q).map fun t => zab (zcc p q f t))))) := by
      refine za5 ?_; rw [evE]; simp only [zag, var (fz v0), var (fz v2), var (fz v4), fin]; exact r166
    generalize hs : zaa σ3 5 (.val (.list ((TW p q).map fun t => zab (zcc p q f t)))) = σ4 at *
    have z4 : ln σ4 = 8 := by rw [← hs, lS, z3]
    have w2 : gt σ4 2 = some (.val (zab ((TW p q).map s2))) := by rw [← hs]; exact step v2 (by decide)
    have w4 : gt σ4 4 = some (.val (zab (sel s4 (HW p q) f))) := by rw [← hs]; exact step v4 (by decide)
    have w5 : gt σ4 5 = some (.val (.list ((TW p q).map fun t => zab (zcc p q f t)))) := by rw [← hs]; exact new (by rw [z3]; decide)
    clear hs; have m6 : evS Γ 0 (.assign 6 (.call (.ref 171) [(.var 2), (.var 4)])) σ4 = some (.next, zaa σ4 6 (.val (.list ((TW p q).map fun t => zab (zch p q f t))))) := by
      refine za5 ?_; rw [evE]; simp only [zag, var (fz w2), var (fz w4), fin]; exact r171
    generalize hs : zaa σ4 6 (.val (.list ((TW p q).map fun t => zab (zch p q f t)))) = σ5 at *
    have z5 : ln σ5 = 8 := by rw [← hs, lS, z4]
    have y2 : gt σ5 2 = some (.val (zab ((TW p q).map s2))) := by rw [← hs]; exact step w2 (by decide)
    have y4 : gt σ5 4 = some (.val (zab (sel s4 (HW p q) f))) := by rw [← hs]; exact step w4 (by decide)
    have y5 : gt σ5 5 = some (.val (.list ((TW p q).map fun t => zab (zcc p q f t)))) := by rw [← hs]; exact step w5 (by decide)
    have y6 : gt σ5 6 = some (.val (.list ((TW p q).map fun t => zab (zch p q f t)))) := by rw [← hs]; exact new (by rw [z4]; decide)
    clear hs; have m7 : evS Γ 0 (.ite (.bop false (.cmp .Is (.var 5) (.lit .nul)) (.cmp .Is (.var 6) (.lit .nul))) [.ret (.lit (.bool false))] []) σ5 = some (.next, σ5) := by
      rw [evS, evE, isn y5]; simp only [asB, beq_self_eq_true, if_true, isn y6]; rfl
    have hcap4 : zav σ5 [none, none, none, none] = [.unset, .unset, .unset, .unset] := rfl; have e3 : evE Γ c3 .val σ5 = some (zab (sel s4 (HW p q) f)) := by
      unfold c3; rw [evE, var y2, var y5]; dsimp only [zau, za7, zes]; rw [hcap4]; have := zhh (Γ := Γ) (T := TW p q) (R := zcc p q f) (i := 1) (j := 3) (out := fun a b => a ++ [46] ++ b) (fun t => (rowB_len p q f t).2) (fun t => (rowB_len p q f t).1) (show 4 ≤ 16 by decide) (fun t b hb => cat_ev rfl rfl (by simp [s2, small]; omega))
      rw [rows_whole] at this; exact (congrArg (fun o => fin .val (o.map PV.list)) this)
    have m8 : evS Γ 0 (.ite (.cmp .NotEq c3 (.var 4)) [.ret (.lit (.bool false))] []) σ5 = some (.next, σ5) := by
      have hc : evE Γ (.cmp .NotEq c3 (.var 4)) .test σ5 = some (.bool false) := by
        rw [evE, e3, var y4]; dsimp only; rw [cmp_ne, zgj, decide_eq_true rfl]; rfl
      rw [evS, hc]; rfl
    have e4 : evE Γ (.call (.builtin "sorted") [c4]) .val σ5 = some (zab (sel s4 (HW p q) f)) := by
      have h4 : evE Γ c4 .val σ5 = some (zab ((TW p q).flatMap fun t => (zch p q f t).map fun b => b ++ [46] ++ s2 t)) := by
        unfold c4; rw [evE, var y2, var y6]; dsimp only [zau, za7, zes]; rw [hcap4]; have := zhh (Γ := Γ) (T := TW p q) (R := zch p q f) (i := 3) (j := 1) (out := fun a b => b ++ [46] ++ a) (fun t => (colB_len p q f t).2) (fun t => (colB_len p q f t).1) (show 4 ≤ 16 by decide) (fun t b hb => cat_ev rfl rfl (by simp [s2, small]; omega))
        exact (congrArg (fun o => fin .val (o.map PV.list)) this)
      have hp := cols_perm p q f; have hsort := zga hp (lt_nlt ((asc4 x.lt).sel f)); have hl : ((TW p q).flatMap fun t => (zch p q f t).map fun b => b ++ [46] ++ s2 t).length < 64 := by
        rw [← hp.length_eq]; have := zcr (hs := s4) (V := HW p q) f; rw [HW_len] at this; omega
      rw [evE]; simp only [zag, h4, fin]; rw [hsort]; exact zep hl
    have m9 : evS Γ 0 (.ite (.cmp .NotEq (.call (.builtin "sorted") [c4]) (.var 4)) [.ret (.lit (.bool false))] []) σ5 = some (.next, σ5) := by
      have hc : evE Γ (.cmp .NotEq (.call (.builtin "sorted") [c4]) (.var 4)) .test σ5 = some (.bool false) := by
        rw [evE, e4, var y4]; dsimp only; rw [cmp_ne, zgj, decide_eq_true rfl]; rfl
      rw [evS, hc]; rfl
    have m10 : evS Γ 0 (.assign 7 (.call (.ref 178) [(.var 5)])) σ5 = some (.next, zaa σ5 7 (.val (.int (zc9 p q f : Int)))) := by
      refine za5 ?_; rw [evE]; simp only [zag, var (fz y5), fin]; exact r178
    rw [b183, zai m1, zai m2, zai m3, zai m4, zai m5, zai m6, zai m7, zai m8, zai m9, zai m10]; refine ⟨_, zdm ?_⟩; have fa : ∀ {σ : zad} {i : Nat} {v : PV}, gt σ i = some (.val v) → gt (frzA σ) i = some (.val v) := fun {σ i v} h => by rw [gA, h]; rfl
    have l7 : evE Γ (.var 7) .val (frzA (zaa σ5 7 (.val (.int (zc9 p q f : Int))))) = some (.int (zc9 p q f : Int)) := var (fa (new (by rw [z5]; decide))); have l6 : evE Γ (.call (.ref 178) [(.var 6)]) .val (frzA (zaa σ5 7 (.val (.int (zc9 p q f : Int))))) = some (.int (zc9 p q f : Int)) := by
      rw [evE]; simp only [zag, var (fa (step y6 (by decide : (6 : Nat) ≠ 7))), fin]; exact r178'
    have c1' : evE Γ (.cmp .Eq (.var 7) (.call (.ref 178) [(.var 6)])) .val (frzA (zaa σ5 7 (.val (.int (zc9 p q f : Int))))) = some (.bool true) := by
      rw [evE, l7, l6]; simp [fin, zae, eqo]
    have c2' : evE Γ (.cmp .LtE (.var 7) (.lit (.int 3))) .val (frzA (zaa σ5 7 (.val (.int (zc9 p q f : Int))))) = some (.bool true) := by
      have : (zc9 p q f : Int) ≤ 3 := by omega
      rw [evE, l7, evE]; simp [fin, zae, this]
    unfold rt; rw [evE]
    · rw [c1']; simp only [truthy, beq_self_eq_true, if_true]; exact c2'
    · intro h; cases h
  obtain ⟨σ', h⟩ := key; exact zbo h
end
theorem pure_law : ∀ ns : List Int, ns.length ≤ 63 → evF (gam 20) 0 3 b188 [.list (ns.map .int)] = some (.bool true) := by
  intro ns hz; generalize hd : (ns.take 4).map (fun n => n % 100000000) = D
  have hdl : D.length ≤ 4 := by rw [← hd]; simp; omega
  have h4 : ∃ a b c e : Int, D ++ [16, 40, 110, 33].drop D.length = [a, b, c, e] := by
    match D, hdl with
    | [], _ => exact ⟨_, _, _, _, rfl⟩
    | [a], _ => exact ⟨_, _, _, _, rfl⟩
    | [a, b], _ => exact ⟨_, _, _, _, rfl⟩
    | [a, b, c], _ => exact ⟨_, _, _, _, rfl⟩
    | [a, b, c, e], _ => exact ⟨_, _, _, _, rfl⟩
  obtain ⟨a, b, c, e, h4⟩ := h4; obtain ⟨p, q, x, hpair⟩ := g116 (k := 19) a; have hright := g183 x (k := 15) (n1 := b) (n2 := c) (n3 := e); have key : ∃ σ', zac (gam 20) 0 b188 ([PV.list (ns.map .int)].map Mine.Slot.val ++ List.replicate (3 - [PV.list (ns.map .int)].length) .unset) = some (.ret (.bool true), σ') := by
    generalize hΓ : gam 20 = Γ at *; generalize hσ : ([PV.list (ns.map .int)].map Mine.Slot.val ++ List.replicate (3 - [PV.list (ns.map .int)].length) .unset : zad) = σ0; have z : ln σ0 = 3 := by rw [← hσ]; rfl
    have s0 : gt σ0 0 = some (.val (.list (ns.map .int))) := by rw [← hσ]; rfl
    clear hσ; have m1 : evS Γ 0 (.assign 1 (.comp (.bin .Mod (.var 1) (.bin .Pow (.lit (.int 10)) (.lit (.int 8)))) (.one 1) .plain (.slc (.var 0) (.lit .nul) (.lit (.int 4))) (.lit .nul) [] [none, none])) σ0 = some (.next, zaa σ0 1 (.val (.list (D.map .int)))) := by
      refine za5 ?_; have a0 : evE Γ (.var 0) .val (frz1 σ0 1) = some (.list (ns.map .int)) := by rw [evE, gV, gZ, s0]; rfl
      have an : ∀ v : PV, evE Γ (.lit v) .val (frz1 σ0 1) = some v := fun v => by rw [evE]; rfl
      have hs : zas (.list (ns.map PV.int)) .nul (.int 4) = some (.list ((ns.take 4).map .int)) := by
        have : zaz (ns.map PV.int).length 4 = min 4 (ns.map PV.int).length := by unfold zaz; rw [if_neg (by omega)]; rfl
        simp only [zas, zbw, this, cut, List.drop_zero]; congr 2; rw [List.map_take, ← List.take_eq_take_min]
      have as : evE Γ (.slc (.var 0) (.lit .nul) (.lit (.int 4))) .val (frz1 σ0 1) = some (.list ((ns.take 4).map .int)) := by
        rw [evE, a0, an, an]; simp only [hs, fin]
      have hcap : zav (frz1 σ0 1) [none, none] = [.unset, .unset] := rfl; rw [evE, as, an]; dsimp only [zau, za7]; rw [hcap, zb8 (x := 1) PV.int (fun n => .int (n % 100000000)) (fun _ => true) (ns.take 4) (fun n _ => ⟨rfl, fun _ => ?_⟩), zda, ← hd, List.map_map]
      · rfl
      · rfl
    have m2 : evS Γ 0 (.assign 2 (.bin .Add (.var 1) (.slc (.lst [(.lit (.int 16)), (.lit (.int 40)), (.lit (.int 110)), (.lit (.int 33))]) (.len (.var 1)) (.lit .nul)))) (zaa σ0 1 (.val (.list (D.map .int)))) = some (.next, zaa (zaa σ0 1 (.val (.list (D.map .int)))) 2 (.val (.list [.int a, .int b, .int c, .int e]))) := by
      refine za5 ?_; have g1 : gt (frz1 (zaa σ0 1 (.val (.list (D.map .int)))) 2) 1 = some (.val (.list (D.map .int))) := by rw [gZ, gS, z]; rfl
      have a1 : evE Γ (.var 1) .val (frz1 (zaa σ0 1 (.val (.list (D.map .int)))) 2) = some (.list (D.map .int)) := by rw [evE, gV, g1]; rfl
      have al : evE Γ (.len (.var 1)) .val (frz1 (zaa σ0 1 (.val (.list (D.map .int)))) 2) = some (.int (D.length : Int)) := by
        rw [evE, evE, gP, g1]; simp [gp, fin, zb3]
      have ac : evE Γ (.lst [(.lit (.int 16)), (.lit (.int 40)), (.lit (.int 110)), (.lit (.int 33))]) .val (frz1 (zaa σ0 1 (.val (.list (D.map .int)))) 2) = some (.list ([16, 40, 110, 33].map .int)) := by
        simp [evE, zag, fin]
      have an : evE Γ (.lit .nul) .val (frz1 (zaa σ0 1 (.val (.list (D.map .int)))) 2) = some .nul := by rw [evE]; rfl
      have as : evE Γ (.slc (.lst [(.lit (.int 16)), (.lit (.int 40)), (.lit (.int 110)), (.lit (.int 33))]) (.len (.var 1)) (.lit .nul)) .val (frz1 (zaa σ0 1 (.val (.list (D.map .int)))) 2) = some (.list (([16, 40, 110, 33].drop D.length).map .int)) := by
        rw [evE, ac, al, an]; dsimp only; rw [slcL_drop (m := D.length) rfl (by simpa using hdl)]; simp only [fin, List.map_drop]
      have hl : (D.map PV.int).length + (([16, 40, 110, 33].drop D.length).map PV.int).length ≤ small := by unfold small; simp; omega
      rw [evE, a1, as]; simp only [fin, zaf, if_pos hl, ← List.map_append, h4]; rfl
    rw [b188, zai m1, zai m2]; generalize hs : frzA (zaa (zaa σ0 1 (.val (.list (D.map .int)))) 2 (.val (.list [.int a, .int b, .int c, .int e]))) = σ1; have g2 : gt σ1 2 = some (.val (.list [.int a, .int b, .int c, .int e])) := by rw [← hs, gA, gS, lS, z]; rfl
    have a0 : evE Γ (.idx (.var 2) (.lit (.int 0))) .val σ1 = some (.int a) := by
      have : evE Γ (.var 2) .peek σ1 = some (.list [.int a, .int b, .int c, .int e]) := by rw [evE, gP, g2]; rfl
      rw [evE, this, evE]; rfl
    have a1 : evE Γ (.call (.ref 116) [(.idx (.var 2) (.lit (.int 0)))]) .val σ1 = some (zal p q) := by
      rw [evE]; simp only [zag, a0, fin]; exact hpair
    have a2 : evE Γ (.slc (.var 2) (.lit (.int 1)) (.lit .nul)) .val σ1 = some (.list ([b, c, e].map .int)) := by
      have : evE Γ (.var 2) .val σ1 = some (.list [.int a, .int b, .int c, .int e]) := by rw [evE, gV, g2]; rfl
      rw [evE, this, evE, evE]; rfl
    refine ⟨frzA (zaa (zaa σ0 1 (.val (.list (D.map .int)))) 2 (.val (.list [.int a, .int b, .int c, .int e]))), zdm ?_⟩; rw [hs, evE]; simp only [zag, a1, a2, fin]; exact hright
  obtain ⟨σ', h⟩ := key; exact zbo h
end Mine
theorem PySem.Challenge.cw_in0220_01_holds : PySem.Challenge.rw_in0220_01.Holds := by
  exact Mine.join Mine.pure_law
