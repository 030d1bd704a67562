import PyProof.Rows.All
import Wide.All
import OpenK.AllK
import Wide.FinOn
import KE.KIntText
import KE.IntTextLaws
import PySem.Challenge.RW_fe0133_01
set_option Elab.async false
set_option linter.unusedSimpArgs false
set_option linter.unusedVariables false
section
open PySem PySem.W PyProof.Rows
set_option Elab.async false
namespace Mine
set_option maxRecDepth 100000 in
set_option maxHeartbeats 0 in
open_top hd for PySem.Challenge.rw_fe0133_01
end Mine
end
section
open PySem PySem.W PyProof.Rows
set_option Elab.async false
namespace Mine

/-- values, by value; mutable lists are cells -/
inductive PVal where
  | none | bool (b : Bool) | int (i : Int) | str (x : PySem.Str) | sep (x : PySem.Str)
  | tup (l : List PVal) | lst (l : List PVal) | dbl (n d : Int) | cell (i : Nat)

inductive Bi where | divmod | min | max | abs | int | str | len | bisect
inductive Ty where | int | str | dbl
inductive Me where | bitLength | size | strip | lower | partition | lstrip | split | join | zfill | index

/-- expressions: names resolved -/
inductive PE where
  | fail
  | loc (i : Nat) | lit (v : PVal) | powers | human
  | bin (o : Operator) (a b : PE) | neg (a : PE) | not_ (a : PE)
  | cmp (o : CmpOp) (a b : PE) | bop (o : BoolOp) (a b : PE) | ite (c a b : PE)
  | tup (as : PE) | lst (as : PE) | nil | cons (h t : PE)
  | call (k : Nat) (as : PE) | mkd (as : PE) | bi (b : Bi) (as : PE) | isi (a : PE) (t : Ty)
  | meth (o : PE) (m : Me) (as : PE) | repl (o : PE) (a : PySem.Str) (b : PE) | trans (o : PE) | getSep (k : Nat)
  | attr (o : PE) (second : Bool) | item (o i : PE) | slice (o lo hi : PE)
  | fstr (as : PE) | fval (a : PE) | comp1 (a : PE) | comp2 (a : PE)

inductive PS where
  | fail | skip | seq (a b : PS)
  | asg (i : Nat) (e : PE) | unp (is : List Nat) (e : PE) | swp (is : List Nat) (as : PE)
  | aug (i : Nat) (o : Operator) (e : PE) | newc (i : Nat) (as : PE) | setc (i : Nat) (k e : PE) | ins (i : Nat) (e : PE)
  | ite (c : PE) (a b : PS) | whl (c : PE) (b : PS) | forr (i : Nat) (n : PE) (b : PS) | ret (e : PE) | tryy (b : PS)

abbrev Rho := List (Option PVal)
abbrev Store := List (List PVal)
abbrev CF := Nat → List PVal → Store → Option (PVal × Store)

def lk : Rho → Nat → Option PVal
  | [], _ => none
  | a :: _, 0 => a
  | _ :: r, n + 1 => lk r n
def upd : Rho → Nat → PVal → Rho
  | [], _, _ => []
  | _ :: r, 0, v => some v :: r
  | a :: r, n + 1, v => a :: upd r n v
def upds : Rho → List Nat → List PVal → Option Rho
  | r, [], [] => some r
  | r, i :: is, v :: vs => upds (upd r i v) is vs
  | _, _, _ => none

def LIM : Nat := 2 ^ 1900
def fit (z : Int) : Bool := decide (z.natAbs < LIM)

def binI (o : Operator) (a b : Int) : Option PVal := match o with
  | .Add => some (.int (a + b))
  | .Sub => some (.int (a - b))
  | .Mult => if fit a && fit b then some (.int (a * b)) else none
  | .FloorDiv => if b ≠ 0 ∧ fit b = true then some (.int (a.fdiv b)) else none
  | .Mod => if b ≠ 0 then some (.int (a.fmod b)) else none
  | .Pow => if 0 ≤ b ∧ b ≤ 2000 ∧ fit a = true then some (.int (a ^ b.toNat)) else none
  | .LShift => if 0 ≤ b ∧ b ≤ 20000 ∧ fit a = true then some (.int (a * 2 ^ b.toNat)) else none
  | _ => none

def slim : Nat := 4096

/-- the functions' numbers that operators on doubles call -/
def fSub : Nat := 10
def fDiv : Nat := 11
def fEq : Nat := 6
def fLt : Nat := 7
def fGt : Nat := 8
def fGe : Nat := 9
def fSize : Nat := 4
def fInt : Nat := 5
def fNear : Nat := 1

def isNum : PVal → Bool
  | .int _ => true
  | .dbl _ _ => true
  | _ => false

def binP (cf : CF) (o : Operator) (a b : PVal) (st : Store) : Option (PVal × Store) := match a, b with
  | .int x, .int y => (binI o x y).map (·, st)
  | .str x, .str y => if o = .Add ∧ x.length ≤ slim ∧ y.length ≤ slim then some (.str (x ++ y), st) else none
  | .lst x, .lst y => if o = .Add ∧ x.length ≤ slim ∧ y.length ≤ slim then some (.lst (x ++ y), st) else none
  | .lst x, .cell i => match st[i]? with
    | some y => if o = .Add ∧ x.length ≤ slim ∧ y.length ≤ slim then some (.lst (x ++ y), st) else none
    | none => none
  | .dbl n d, y => if isNum y then (match o with
    | .Sub => cf fSub [.dbl n d, y] st
    | .Div => cf fDiv [.dbl n d, y] st
    | _ => none) else none
  | _, _ => none

def cmpI (o : CmpOp) (a b : Int) : Option Bool := match o with
  | .Eq => some (a == b) | .NotEq => some (a != b) | .Lt => some (decide (a < b)) | .LtE => some (decide (a ≤ b)) | .Gt => some (decide (b < a)) | .GtE => some (decide (b ≤ a))
  | _ => none

def strsOf : List PVal → Option (List PySem.Str)
  | [] => some []
  | .str x :: r => (strsOf r).map (x :: ·)
  | _ => none

def cmpP (cf : CF) (o : CmpOp) (a b : PVal) (st : Store) : Option (PVal × Store) := match a, b with
  | .int x, .int y => (cmpI o x y).map fun c => (.bool c, st)
  | .str x, .str y => match o with
    | .Eq => some (.bool (x == y), st)
    | .NotEq => some (.bool (x != y), st)
    | .In => some (.bool (Txt.contains y x), st)
    | .NotIn => some (.bool (!Txt.contains y x), st)
    | _ => none
  | .str x, .tup l => match o, strsOf l with
    | .In, some ys => some (.bool (ys.contains x), st)
    | _, _ => none
  | .int _, .none => if o = .IsNot then some (.bool true, st) else none
  | .lst x, .lst [] => if o = .Eq then some (.bool x.isEmpty, st) else none
  | .dbl n d, y => if isNum y then (match o with
    | .Eq => cf fEq [.dbl n d, y] st
    | .Lt => cf fLt [.dbl n d, y] st
    | .Gt => cf fGt [.dbl n d, y] st
    | .GtE => cf fGe [.dbl n d, y] st
    | _ => none) else none
  | _, _ => none

def truth : PVal → Option Bool
  | .bool b => some b
  | .int i => some (i != 0)
  | .str x => if x.length ≤ slim then some (x.length != 0) else none
  | _ => none

def intsOf : List PVal → Option (List Int)
  | [] => some []
  | .int x :: r => (intsOf r).map (x :: ·)
  | _ => none

/-- bisect_right over a list of ints, as it goes -/
def bisGo (l : List Int) (x : Int) : Nat → Nat → Nat → Nat
  | 0, lo, _ => lo
  | n + 1, lo, hi => if lo < hi then (match l[(lo + hi) / 2]? with
      | some y => if x < y then bisGo l x n lo ((lo + hi) / 2) else bisGo l x n ((lo + hi) / 2 + 1) hi
      | none => lo) else lo
def bisR (l : List Int) (x : Int) : Nat := bisGo l x l.length 0 l.length

def biP (cf : CF) (b : Bi) (as : List PVal) (st : Store) : Option (PVal × Store) := match b, as with
  | .divmod, [.int x, .int y] => if y ≠ 0 ∧ fit y = true then some (.tup [.int (x.fdiv y), .int (x.fmod y)], st) else none
  | .min, [.int x, .int y] => some (.int (min x y), st)
  | .max, [.int x, .int y] => some (.int (max x y), st)
  | .abs, [.int x] => some (.int x.natAbs, st)
  | .int, [.int x] => some (.int x, st)
  | .int, [.str x] => if x.length ≤ 640 then (PySem.intText? x).map fun n => (.int n, st) else none
  | .int, [.dbl n d] => match cf fInt [.dbl n d] st with
    | some (.int i, st') => some (.int i, st')
    | _ => none
  | .str, [.int x] => if fit x then some (.str (PySem.Str.ofString (toString x)), st) else none
  | .len, [.str x] => if x.length ≤ slim then some (.int x.length, st) else none
  | .len, [.lst l] => if l.length ≤ slim then some (.int l.length, st) else none
  | .len, [.cell i] => match st[i]? with
    | some l => if l.length ≤ slim then some (.int l.length, st) else none
    | none => none
  | .bisect, [.lst l, .int x] => match intsOf l with
    | some l => if l.length ≤ 100 then some (.int (bisR l x), st) else none
    | none => none
  | _, _ => none

def isiP (v : PVal) (t : Ty) : Option Bool := match v, t with
  | .int _, .int => some true | .int _, _ => some false
  | .str _, .str => some true | .str _, _ => some false
  | .dbl _ _, .dbl => some true | .dbl _ _, _ => some false
  | _, _ => none

def methP (cf : CF) (m : Me) (o : PVal) (as : List PVal) (st : Store) : Option (PVal × Store) := match m, o, as with
  | .bitLength, .int x, [] => some (.int (Builtin.Int.intBits x : Nat), st)
  | .size, .dbl n d, [] => cf fSize [.dbl n d] st
  | .strip, .str x, [] => if x.length ≤ slim then some (.str (Txt.strip x), st) else none
  | .lower, .str x, [] => if x.length ≤ slim then some (.str (Txt.lower x), st) else none
  | .partition, .str x, [.str y] => if x.length ≤ slim ∧ y.length ≠ 0 then some (.tup [.str (Txt.partition x y).1, .str (Txt.partition x y).2.1, .str (Txt.partition x y).2.2], st) else none
  | .lstrip, .str x, [.str y] => if x.length ≤ slim then some (.str (Txt.lstripChars x y), st) else none
  | .split, .str x, [.str y] => if x.length ≤ slim ∧ y.length ≠ 0 then some (.lst ((Txt.split x y).map .str), st) else none
  | .split, .str x, [.str y, .int k] => if x.length ≤ slim ∧ y.length ≠ 0 ∧ 0 ≤ k ∧ k < 100 then some (.lst ((Txt.splitMax x y k).map .str), st) else none
  | .join, .str x, [.lst l] => match strsOf l with
    | some ys => if x.length ≤ 16 ∧ (ys.map (·.length)).sum + ys.length ≤ slim then some (.str (Txt.join x ys), st) else none
    | none => none
  | .zfill, .str x, [.int i] => if 0 ≤ i ∧ i ≤ slim then some (.str (Txt.zfill x i), st) else none
  | .index, .str x, [.str y] => if 0 ≤ Txt.find x y then some (.int (Txt.find x y), st) else none
  | .index, .lst l, [.str y] => match strsOf l with
    | some ys => if ys.contains y ∧ l.length ≤ slim then some (.int (ys.idxOf y : Nat), st) else none
    | none => none
  | _, _, _ => none

def itemL (l : List PVal) (i : Int) : Option PVal := if 0 ≤ i ∧ i < 10 ^ 9 then l[i.toNat]? else none
def itemP (o i : PVal) (st : Store) : Option PVal := match o, i with
  | .lst l, .int k => itemL l k
  | .tup l, .int k => itemL l k
  | .cell c, .int k => (st[c]?).bind fun l => itemL l k
  | .str x, .int k => if 0 ≤ k ∧ k < x.length ∧ x.length ≤ slim then some (.str (Txt.item x k)) else none
  | _, _ => none

def optI : PVal → Option (Option Int)
  | .none => some none
  | .int i => if -(10 ^ 9) < i ∧ i < 10 ^ 9 then some (some i) else none
  | _ => none
def sliceL (l : List PVal) (lo hi : Option Int) : Option (List PVal) := match lo, hi with
  | none, some k => if 0 ≤ k then some (l.take k.toNat) else none
  | some k, none => if 0 ≤ k then some (l.drop k.toNat) else none
  | _, _ => none
def sliceP (o lo hi : PVal) : Option PVal := match o, optI lo, optI hi with
  | .str x, some a, some b => if x.length ≤ slim then some (.str (Txt.slice x a b)) else none
  | .lst l, some a, some b => if l.length ≤ slim then (sliceL l a b).map .lst else none
  | _, _, _ => none

def fvalP : PVal → Option PySem.Str
  | .int x => if fit x then some (PySem.Str.ofString (toString x)) else none
  | .str x => if x.length ≤ slim then some x else none
  | _ => none

def catStrs : List PVal → Option PySem.Str
  | [] => some PySem.Str.empty
  | .str x :: r => (catStrs r).map (x ++ ·)
  | _ => none

/-- the signs' table: number to superscript, and back -/
def supOf (c : Nat) : Nat := if c = 45 then 8315 else if c = 48 then 8304 else if c = 49 then 185 else if c = 50 then 178 else if c = 51 then 179 else if 52 ≤ c ∧ c ≤ 57 then 8308 + (c - 52) else c
def numOf (c : Nat) : Option Nat := if c = 8315 then some 45 else if c = 8304 then some 48 else if c = 185 then some 49 else if c = 178 then some 50 else if c = 179 then some 51 else if 8308 ≤ c ∧ c ≤ 8313 then some (52 + (c - 8308)) else none

def one (c : Nat) : PVal := .str ⟨#[c]⟩
def isDig (c : Nat) : Bool := 48 ≤ c && c ≤ 57

def comp1P : PVal → Option PVal
  | .str x => if x.length ≤ slim then some (.lst ((x.cps.toList.filter fun c => !Txt.contains (PySem.Str.ofString "0123456789") ⟨#[c]⟩).map one)) else none
  | _ => none
def comp2P : PVal → Option PVal
  | .str x => if x.length ≤ slim then (x.cps.toList.mapM numOf).map fun l => .lst (l.map one) else none
  | _ => none
def transP : PVal → Option PVal
  | .str x => if x.length ≤ slim ∧ x.cps.toList.all (fun c => c == 45 || isDig c) then some (.str ⟨(x.cps.toList.map supOf).toArray⟩) else none
  | _ => none
def replP (o : PVal) (a : PySem.Str) (b : PVal) : Option PVal := match o, b with
  | .str x, .sep y => if x.length ≤ slim ∧ y.length ≤ 14 then some (.str (Txt.replace x a y)) else none
  | _, _ => none

/-- the texts are two, or one text twice -/
def replOk : PE → PySem.Str → PVal → Bool
  | .lit _, _, _ => true
  | _, a, .sep y => decide (y = a)
  | _, _, _ => false

def powersV : List PVal := [3, 6, 9, 12, 15, 18, 21, 24, 27, 30, 33, 100].map fun k : Nat => .int (10 ^ k)
def humanV : List PVal := (["thousand", "million", "billion", "trillion", "quadrillion", "quintillion", "sextillion", "septillion", "octillion", "nonillion", "decillion", "googol"].map fun x : String => .tup [.str (PySem.Str.ofString x), .str (PySem.Str.ofString x)])

mutual
def ev (cf : CF) : PE → Rho → Store → Option (PVal × Store)
  | .fail, _, _ => none
  | .loc i, r, st => (lk r i).map (·, st)
  | .lit v, _, st => some (v, st)
  | .powers, _, st => some (.lst powersV, st)
  | .human, _, st => some (.tup humanV, st)
  | .bin o a b, r, st => match ev cf a r st with
    | some (x, st₁) => match ev cf b r st₁ with
      | some (y, st₂) => binP cf o x y st₂
      | none => none
    | none => none
  | .neg a, r, st => match ev cf a r st with
    | some (.int x, st₁) => some (.int (-x), st₁)
    | _ => none
  | .not_ a, r, st => match ev cf a r st with
    | some (v, st₁) => (truth v).map fun b => (.bool (!b), st₁)
    | none => none
  | .cmp o a b, r, st => match ev cf a r st with
    | some (x, st₁) => match ev cf b r st₁ with
      | some (y, st₂) => cmpP cf o x y st₂
      | none => none
    | none => none
  | .bop o a b, r, st => match ev cf a r st with
    | some (x, st₁) => match o, truth x with
      | .And, some true => ev cf b r st₁
      | .And, some false => some (x, st₁)
      | .Or, some false => ev cf b r st₁
      | .Or, some true => some (x, st₁)
      | _, none => none
    | none => none
  | .ite c a b, r, st => match ev cf c r st with
    | some (v, st₁) => match truth v with
      | some true => ev cf a r st₁
      | some false => ev cf b r st₁
      | none => none
    | none => none
  | .tup as, r, st => match evs cf as r st with
    | some (l, st₁) => if l.length ≤ slim then some (.tup l, st₁) else none
    | none => none
  | .lst as, r, st => match evs cf as r st with
    | some (l, st₁) => if l.length ≤ slim then some (.lst l, st₁) else none
    | none => none
  | .nil, _, _ => none
  | .cons _ _, _, _ => none
  | .call k as, r, st => match evs cf as r st with
    | some (l, st₁) => cf k l st₁
    | none => none
  | .mkd as, r, st => match evs cf as r st with
    | some ([.int n], st₁) => if n = 0 then some (.dbl 0 1, st₁) else
      (match cf fNear [.int n, .int 1] st₁ with
        | some (.tup [.int a, .int b], st₂) => some (.dbl a b, st₂)
        | _ => none)
    | some ([.int n, .int d], st₁) => if n = 0 ∨ d = 0 then some (.dbl n d, st₁) else
      (match cf fNear [.int n, .int d] st₁ with
        | some (.tup [.int a, .int b], st₂) => some (.dbl a b, st₂)
        | _ => none)
    | _ => none
  | .bi b as, r, st => match evs cf as r st with
    | some (l, st₁) => biP cf b l st₁
    | none => none
  | .isi a t, r, st => match ev cf a r st with
    | some (v, st₁) => (isiP v t).map fun b => (.bool b, st₁)
    | none => none
  | .meth o m as, r, st => match ev cf o r st with
    | some (x, st₁) => match evs cf as r st₁ with
      | some (l, st₂) => methP cf m x l st₂
      | none => none
    | none => none
  | .repl o a b, r, st => match ev cf o r st with
    | some (x, st₁) => match ev cf b r st₁ with
      | some (y, st₂) => if replOk b a y then (replP x a y).map (·, st₂) else none
      | none => none
    | none => none
  | .trans o, r, st => match ev cf o r st with
    | some (x, st₁) => (transP x).map (·, st₁)
    | none => none
  | .getSep k, _, st => some (.sep (if k = 0 then PySem.Str.ofString "," else PySem.Str.ofString "."), st)
  | .attr o second, r, st => match ev cf o r st with
    | some (.dbl n d, st₁) => some (.int (if second then d else n), st₁)
    | _ => none
  | .item o i, r, st => match ev cf o r st with
    | some (x, st₁) => match ev cf i r st₁ with
      | some (y, st₂) => (itemP x y st₂).map (·, st₂)
      | none => none
    | none => none
  | .slice o lo hi, r, st => match ev cf o r st with
    | some (x, st₁) => match ev cf lo r st₁ with
      | some (a, st₂) => match ev cf hi r st₂ with
        | some (b, st₃) => (sliceP x a b).map (·, st₃)
        | none => none
      | none => none
    | none => none
  | .fstr as, r, st => match evs cf as r st with
    | some (l, st₁) => match catStrs l with
      | some x => if x.length ≤ slim then some (.str x, st₁) else none
      | none => none
    | none => none
  | .fval a, r, st => match ev cf a r st with
    | some (v, st₁) => (fvalP v).map fun x => (.str x, st₁)
    | none => none
  | .comp1 a, r, st => match ev cf a r st with
    | some (v, st₁) => (comp1P v).map (·, st₁)
    | none => none
  | .comp2 a, r, st => match ev cf a r st with
    | some (v, st₁) => (comp2P v).map (·, st₁)
    | none => none
def evs (cf : CF) : PE → Rho → Store → Option (List PVal × Store)
  | .nil, _, st => some ([], st)
  | .cons h t, r, st => match ev cf h r st with
    | some (v, st₁) => match evs cf t r st₁ with
      | some (l, st₂) => some (v :: l, st₂)
      | none => none
    | none => none
  | _, _, _ => none
end

/-- what an augmented store may do -/
def augOk : Operator → PVal → PVal → Bool
  | .Div, .dbl _ _, .int _ => true
  | .Add, .int _, .int _ => true
  | .Sub, .int _, .int _ => true
  | .Mult, .int _, .int _ => true
  | _, _, _ => false

inductive Fl where | next | ret (v : PVal)

/-- a while loop, by its fuel -/
def whileP (test : Rho → Store → Option (PVal × Store)) (body : Rho → Store → Option (Fl × Rho × Store)) : Nat → Rho → Store → Option (Fl × Rho × Store)
  | 0, _, _ => none
  | n + 1, r, st => match test r st with
    | some (v, st₁) => match truth v with
      | some true => match body r st₁ with
        | some (.next, r₂, st₂) => whileP test body n r₂ st₂
        | x => x
      | some false => some (.next, r, st₁)
      | none => none
    | none => none
/-- for i in range(..): the turns k, k + 1, .., n of them -/
def forP (i : Nat) (body : Rho → Store → Option (Fl × Rho × Store)) : Nat → Nat → Rho → Store → Option (Fl × Rho × Store)
  | 0, _, r, st => some (.next, r, st)
  | n + 1, k, r, st => match body (upd r i (.int k)) st with
    | some (.next, r₂, st₂) => forP i body n (k + 1) r₂ st₂
    | x => x

def ex (fuel : Nat) (cf : CF) : PS → Rho → Store → Option (Fl × Rho × Store)
  | .fail, _, _ => none
  | .skip, r, st => some (.next, r, st)
  | .seq a b, r, st => match ex fuel cf a r st with
    | some (.next, r₁, st₁) => ex fuel cf b r₁ st₁
    | x => x
  | .asg i e, r, st => match ev cf e r st with
    | some (v, st₁) => some (.next, upd r i v, st₁)
    | none => none
  | .unp is e, r, st => match ev cf e r st with
    | some (.tup l, st₁) => (upds r is l).map fun r₁ => (.next, r₁, st₁)
    | some (.lst l, st₁) => (upds r is l).map fun r₁ => (.next, r₁, st₁)
    | _ => none
  | .swp is as, r, st => match evs cf as r st with
    | some (l, st₁) => if l.length ≤ slim then (upds r is l).map fun r₁ => (.next, r₁, st₁) else none
    | none => none
  | .aug i o e, r, st => match lk r i with
    | some x => match ev cf e r st with
      | some (y, st₁) => match binP cf o x y st₁ with
        | some (v, st₂) => if augOk o x y then some (.next, upd r i v, st₂) else none
        | none => none
      | none => none
    | none => none
  | .newc i as, r, st => match evs cf as r st with
    | some (l, st₁) => if l.length ≤ slim then some (.next, upd r i (.cell st₁.length), st₁ ++ [l]) else none
    | none => none
  | .setc i k e, r, st => match ev cf e r st with
    | some (v, st₁) => match lk r i, ev cf k r st₁ with
      | some (.cell c), some (.int j, st₂) => match st₂[c]? with
        | some l => if 0 ≤ j ∧ j < l.length ∧ j < 100 then some (.next, r, st₂.set c (l.set j.toNat v)) else none
        | none => none
      | _, _ => none
    | none => none
  | .ins i e, r, st => match lk r i, ev cf e r st with
    | some (.cell c), some (v, st₁) => match st₁[c]? with
      | some l => if l.length ≤ slim then some (.next, r, st₁.set c (v :: l)) else none
      | none => none
    | _, _ => none
  | .ite c a b, r, st => match ev cf c r st with
    | some (v, st₁) => match truth v with
      | some true => ex fuel cf a r st₁
      | some false => ex fuel cf b r st₁
      | none => none
    | none => none
  | .whl c b, r, st => whileP (ev cf c) (ex fuel cf b) fuel r st
  | .forr i n b, r, st => match ev cf n r st with
    | some (.int k, st₁) => if 0 ≤ k ∧ k ≤ 100000 then forP i (ex fuel cf b) k.toNat 0 r st₁ else none
    | _ => none
  | .ret e, r, st => match ev cf e r st with
    | some (v, st₁) => some (.ret v, r, st₁)
    | none => none
  | .tryy b, r, st => ex fuel cf b r st

/-- a function: how many arguments, how many other names, its text -/
structure FD where
  args : Nat
  more : Nat
  body : PS

def callP (fuel : Nat) (code : Nat → Option FD) : Nat → CF
  | 0, _, _, _ => none
  | n + 1, k, vs, st => match code k with
    | some fd => if vs.length = fd.args then
        (match ex fuel (callP fuel code n) fd.body (vs.map some ++ List.replicate fd.more none) st with
        | some (.ret v, _, st₁) => some (v, st₁)
        | some (.next, _, st₁) => some (.none, st₁)
        | none => none) else none
    | none => none
end Mine
end
section
open PySem PySem.W PyProof.Rows
set_option Elab.async false
set_option maxRecDepth 100000
namespace Mine
def crounded : PS :=
  .seq (.unp [2, 3] (.bi .divmod (.cons (.loc 0) (.cons (.loc 1) (.nil)))))
  (.seq (.ite (.bop .Or (.cmp .Gt (.bin .Mult (.lit (.int 2)) (.loc 3)) (.loc 1)) (.bop .And (.cmp .Eq (.bin .Mult (.lit (.int 2)) (.loc 3)) (.loc 1)) (.cmp .Eq (.bin .Mod (.loc 2) (.lit (.int 2))) (.lit (.int 1)))))
  (.seq (.aug 2 .Add (.lit (.int 1)))
  (.skip))
  (.skip))
  (.seq (.ret (.loc 2))
  (.skip)))
def cnearest : PS :=
  .seq (.asg 2 (.bi .min (.cons (.bin .Add (.bin .Sub (.lit (.int 53)) (.meth (.bi .abs (.cons (.loc 0) (.nil))) .bitLength (.nil))) (.meth (.loc 1) .bitLength (.nil))) (.cons (.lit (.int 1074)) (.nil)))))
  (.seq (.ite (.cmp .GtE (.bin .LShift (.bi .abs (.cons (.loc 0) (.nil))) (.bi .max (.cons (.loc 2) (.cons (.lit (.int 0)) (.nil))))) (.bin .LShift (.loc 1) (.bin .Add (.bi .max (.cons (.neg (.loc 2)) (.cons (.lit (.int 0)) (.nil)))) (.lit (.int 53)))))
  (.seq (.aug 2 .Sub (.lit (.int 1)))
  (.skip))
  (.skip))
  (.seq (.asg 3 (.call 0 (.cons (.bin .LShift (.loc 0) (.bi .max (.cons (.loc 2) (.cons (.lit (.int 0)) (.nil))))) (.cons (.bin .LShift (.loc 1) (.bi .max (.cons (.neg (.loc 2)) (.cons (.lit (.int 0)) (.nil))))) (.nil)))))
  (.seq (.ite (.cmp .GtE (.bin .LShift (.bi .abs (.cons (.loc 3) (.nil))) (.bi .max (.cons (.neg (.loc 2)) (.cons (.lit (.int 0)) (.nil))))) (.bin .LShift (.lit (.int 1)) (.lit (.int 1024))))
  (.seq (.fail)
  (.skip))
  (.skip))
  (.seq (.ret (.tup (.cons (.bin .LShift (.loc 3) (.bi .max (.cons (.neg (.loc 2)) (.cons (.lit (.int 0)) (.nil))))) (.cons (.bin .LShift (.lit (.int 1)) (.bi .max (.cons (.loc 2) (.cons (.lit (.int 0)) (.nil))))) (.nil)))))
  (.skip)))))
def cparts : PS :=
  .seq (.ret (.ite (.isi (.loc 0) .dbl) (.tup (.cons (.attr (.loc 0) false) (.cons (.attr (.loc 0) true) (.nil)))) (.tup (.cons (.loc 0) (.cons (.lit (.int 1)) (.nil))))))
  (.skip)
def c__init__ : PS :=
  .seq (.fail)
  (.skip)
def csize : PS :=
  .seq (.ret (.mkd (.cons (.bi .abs (.cons (.attr (.loc 0) false) (.nil))) (.cons (.attr (.loc 0) true) (.nil)))))
  (.skip)
def c__int__ : PS :=
  .seq (.ret (.ite (.cmp .GtE (.attr (.loc 0) false) (.lit (.int 0))) (.bin .FloorDiv (.attr (.loc 0) false) (.attr (.loc 0) true)) (.neg (.bin .FloorDiv (.neg (.attr (.loc 0) false)) (.attr (.loc 0) true)))))
  (.skip)
def c__eq__ : PS :=
  .seq (.unp [2, 3] (.call 2 (.cons (.loc 1) (.nil))))
  (.seq (.ret (.cmp .Eq (.bin .Mult (.attr (.loc 0) false) (.loc 3)) (.bin .Mult (.loc 2) (.attr (.loc 0) true))))
  (.skip))
def c__lt__ : PS :=
  .seq (.unp [2, 3] (.call 2 (.cons (.loc 1) (.nil))))
  (.seq (.ret (.cmp .Lt (.bin .Mult (.attr (.loc 0) false) (.loc 3)) (.bin .Mult (.loc 2) (.attr (.loc 0) true))))
  (.skip))
def c__gt__ : PS :=
  .seq (.unp [2, 3] (.call 2 (.cons (.loc 1) (.nil))))
  (.seq (.ret (.cmp .Gt (.bin .Mult (.attr (.loc 0) false) (.loc 3)) (.bin .Mult (.loc 2) (.attr (.loc 0) true))))
  (.skip))
def c__ge__ : PS :=
  .seq (.unp [2, 3] (.call 2 (.cons (.loc 1) (.nil))))
  (.seq (.ret (.cmp .GtE (.bin .Mult (.attr (.loc 0) false) (.loc 3)) (.bin .Mult (.loc 2) (.attr (.loc 0) true))))
  (.skip))
def c__sub__ : PS :=
  .seq (.unp [2, 3] (.call 2 (.cons (.call 13 (.cons (.loc 1) (.nil))) (.nil))))
  (.seq (.ret (.mkd (.cons (.bin .Sub (.bin .Mult (.attr (.loc 0) false) (.loc 3)) (.bin .Mult (.loc 2) (.attr (.loc 0) true))) (.cons (.bin .Mult (.attr (.loc 0) true) (.loc 3)) (.nil)))))
  (.skip))
def c__truediv__ : PS :=
  .seq (.unp [2, 3] (.call 2 (.cons (.call 13 (.cons (.loc 1) (.nil))) (.nil))))
  (.seq (.ret (.mkd (.cons (.bin .Mult (.attr (.loc 0) false) (.loc 3)) (.cons (.bin .Mult (.attr (.loc 0) true) (.loc 2)) (.nil)))))
  (.skip))
def cquotient : PS :=
  .seq (.ite (.bop .Or (.isi (.loc 0) .dbl) (.isi (.loc 1) .dbl))
  (.seq (.ret (.bin .Div (.call 13 (.cons (.loc 0) (.nil))) (.loc 1)))
  (.skip))
  (.skip))
  (.seq (.ret (.mkd (.cons (.loc 0) (.cons (.loc 1) (.nil)))))
  (.skip))
def cdouble : PS :=
  .seq (.ite (.isi (.loc 0) .dbl)
  (.seq (.ret (.loc 0))
  (.skip))
  (.skip))
  (.seq (.ite (.isi (.loc 0) .str)
  (.seq (.ret (.call 18 (.cons (.loc 0) (.nil))))
  (.skip))
  (.skip))
  (.seq (.ite (.isi (.loc 0) .int)
  (.seq (.ret (.mkd (.cons (.loc 0) (.nil))))
  (.skip))
  (.skip))
  (.seq (.fail)
  (.skip))))
def cisfinite : PS :=
  .seq (.ret (.cmp .NotEq (.item (.call 2 (.cons (.loc 0) (.nil))) (.lit (.int 1))) (.lit (.int 0))))
  (.skip)
def cisnan : PS :=
  .seq (.ret (.cmp .Eq (.call 2 (.cons (.loc 0) (.nil))) (.tup (.cons (.lit (.int 0)) (.cons (.lit (.int 0)) (.nil))))))
  (.skip)
def cisinf : PS :=
  .seq (.ret (.bop .And (.not_ (.call 14 (.cons (.loc 0) (.nil)))) (.not_ (.call 15 (.cons (.loc 0) (.nil))))))
  (.skip)
def cplain : PS :=
  .seq (.ret (.bop .And (.cmp .NotEq (.loc 0) (.lit (.str (PySem.Str.ofString "")))) (.cmp .Eq (.comp1 (.loc 0)) (.lst (.nil)))))
  (.skip)
def cread : PS :=
  .seq (.asg 1 (.meth (.meth (.loc 0) .strip (.nil)) .lower (.nil)))
  (.seq (.asg 2 (.ite (.cmp .Eq (.slice (.loc 1) (.lit .none) (.lit (.int 1))) (.lit (.str (PySem.Str.ofString "-")))) (.neg (.lit (.int 1))) (.lit (.int 1))))
  (.seq (.ite (.cmp .In (.slice (.loc 1) (.lit .none) (.lit (.int 1))) (.tup (.cons (.lit (.str (PySem.Str.ofString "-"))) (.cons (.lit (.str (PySem.Str.ofString "+"))) (.nil)))))
  (.seq (.asg 1 (.slice (.loc 1) (.lit (.int 1)) (.lit .none)))
  (.skip))
  (.skip))
  (.seq (.ite (.cmp .In (.loc 1) (.tup (.cons (.lit (.str (PySem.Str.ofString "inf"))) (.cons (.lit (.str (PySem.Str.ofString "infinity"))) (.nil)))))
  (.seq (.ret (.mkd (.cons (.loc 2) (.cons (.lit (.int 0)) (.nil)))))
  (.skip))
  (.skip))
  (.seq (.ite (.cmp .Eq (.loc 1) (.lit (.str (PySem.Str.ofString "nan"))))
  (.seq (.ret (.mkd (.cons (.lit (.int 0)) (.cons (.lit (.int 0)) (.nil)))))
  (.skip))
  (.skip))
  (.seq (.unp [3, 4, 5] (.meth (.loc 1) .partition (.cons (.lit (.str (PySem.Str.ofString "e"))) (.nil))))
  (.seq (.unp [6, 7, 8] (.meth (.loc 3) .partition (.cons (.lit (.str (PySem.Str.ofString "."))) (.nil))))
  (.seq (.ite (.bop .Or (.not_ (.call 17 (.cons (.bin .Add (.loc 6) (.loc 8)) (.nil)))) (.bop .And (.loc 4) (.not_ (.call 17 (.cons (.meth (.loc 5) .lstrip (.cons (.lit (.str (PySem.Str.ofString "+-"))) (.nil))) (.nil))))))
  (.seq (.fail)
  (.skip))
  (.skip))
  (.seq (.asg 9 (.bin .Sub (.bi .int (.cons (.bop .Or (.loc 5) (.lit (.str (PySem.Str.ofString "0")))) (.nil))) (.bi .len (.cons (.loc 8) (.nil)))))
  (.seq (.tryy (.seq (.ret (.mkd (.cons (.bin .Mult (.bin .Mult (.loc 2) (.bi .int (.cons (.bin .Add (.loc 6) (.loc 8)) (.nil)))) (.bin .Pow (.lit (.int 10)) (.bi .max (.cons (.loc 9) (.cons (.lit (.int 0)) (.nil)))))) (.cons (.bin .Pow (.lit (.int 10)) (.bi .max (.cons (.neg (.loc 9)) (.cons (.lit (.int 0)) (.nil))))) (.nil)))))
  (.skip)))
  (.skip))))))))))
def claid_out : PS :=
  .seq (.unp [2, 3] (.meth (.loc 0) .split (.cons (.lit (.str (PySem.Str.ofString "%"))) (.cons (.lit (.int 1)) (.nil)))))
  (.seq (.asg 4 (.slice (.loc 3) (.lit .none) (.bin .Sub (.bi .len (.cons (.loc 3) (.nil))) (.bi .len (.cons (.meth (.loc 3) .lstrip (.cons (.lit (.str (PySem.Str.ofString "0123456789."))) (.nil))) (.nil))))))
  (.seq (.asg 5 (.slice (.loc 3) (.bin .Add (.bi .len (.cons (.loc 4) (.nil))) (.lit (.int 1))) (.lit .none)))
  (.seq (.ite (.cmp .In (.item (.loc 3) (.bi .len (.cons (.loc 4) (.nil)))) (.lit (.str (PySem.Str.ofString "di"))))
  (.seq (.ret (.bin .Add (.bin .Add (.loc 2) (.bi .str (.cons (.bi .int (.cons (.loc 1) (.nil))) (.nil)))) (.loc 5)))
  (.skip))
  (.skip))
  (.seq (.asg 6 (.ite (.cmp .In (.lit (.str (PySem.Str.ofString "."))) (.loc 4)) (.bi .int (.cons (.bop .Or (.item (.meth (.loc 4) .partition (.cons (.lit (.str (PySem.Str.ofString "."))) (.nil))) (.lit (.int 2))) (.lit (.str (PySem.Str.ofString "0")))) (.nil))) (.lit (.int 6))))
  (.seq (.unp [7, 8] (.call 2 (.cons (.loc 1) (.nil))))
  (.seq (.unp [9, 10] (.bi .divmod (.cons (.call 0 (.cons (.bin .Mult (.bi .abs (.cons (.loc 7) (.nil))) (.bin .Pow (.lit (.int 10)) (.loc 6))) (.cons (.loc 8) (.nil)))) (.cons (.bin .Pow (.lit (.int 10)) (.loc 6)) (.nil)))))
  (.seq (.asg 11 (.bin .Add (.bi .str (.cons (.loc 9) (.nil))) (.ite (.loc 6) (.bin .Add (.lit (.str (PySem.Str.ofString "."))) (.meth (.bi .str (.cons (.loc 10) (.nil))) .zfill (.cons (.loc 6) (.nil)))) (.lit (.str (PySem.Str.ofString ""))))))
  (.seq (.ret (.bin .Add (.bin .Add (.bin .Add (.loc 2) (.ite (.cmp .Lt (.loc 7) (.lit (.int 0))) (.lit (.str (PySem.Str.ofString "-"))) (.lit (.str (PySem.Str.ofString ""))))) (.loc 11)) (.loc 5)))
  (.skip)))))))))
def cgrouped : PS :=
  .seq (.unp [1, 2, 3] (.meth (.loc 0) .partition (.cons (.lit (.str (PySem.Str.ofString "."))) (.nil))))
  (.seq (.asg 4 (.ite (.cmp .Eq (.slice (.loc 1) (.lit .none) (.lit (.int 1))) (.lit (.str (PySem.Str.ofString "-")))) (.lit (.str (PySem.Str.ofString "-"))) (.lit (.str (PySem.Str.ofString "")))))
  (.seq (.asg 1 (.slice (.loc 1) (.bi .len (.cons (.loc 4) (.nil))) (.lit .none)))
  (.seq (.newc 5 (.nil))
  (.seq (.whl (.cmp .Gt (.bi .len (.cons (.loc 1) (.nil))) (.lit (.int 3))) (.seq (.ins 5 (.slice (.loc 1) (.neg (.lit (.int 3))) (.lit .none)))
  (.seq (.asg 1 (.slice (.loc 1) (.lit .none) (.neg (.lit (.int 3)))))
  (.skip))))
  (.seq (.ret (.bin .Add (.bin .Add (.bin .Add (.loc 4) (.meth (.lit (.str (PySem.Str.ofString ","))) .join (.cons (.bin .Add (.lst (.cons (.loc 1) (.nil))) (.loc 5)) (.nil)))) (.loc 2)) (.loc 3)))
  (.skip))))))
def cwhole_log : PS :=
  .seq (.unp [2, 3] (.call 2 (.cons (.loc 0) (.nil))))
  (.seq (.asg 4 (.lit (.int 0)))
  (.seq (.whl (.bop .And (.cmp .Lt (.loc 4) (.lit (.int 309))) (.cmp .GtE (.loc 2) (.bin .Mult (.loc 3) (.bin .Pow (.loc 1) (.bin .Add (.loc 4) (.lit (.int 1))))))) (.seq (.aug 4 .Add (.lit (.int 1)))
  (.skip)))
  (.seq (.whl (.bop .And (.cmp .LtE (.loc 4) (.lit (.int 0))) (.cmp .Lt (.bin .Mult (.loc 2) (.bin .Pow (.loc 1) (.neg (.loc 4)))) (.loc 3))) (.seq (.aug 4 .Sub (.lit (.int 1)))
  (.skip)))
  (.seq (.ret (.loc 4))
  (.skip)))))
def cmantissa_and_power : PS :=
  .seq (.unp [2, 3] (.call 2 (.cons (.loc 0) (.nil))))
  (.seq (.asg 4 (.ite (.loc 2) (.call 21 (.cons (.meth (.loc 0) .size (.nil)) (.cons (.lit (.int 10)) (.nil)))) (.lit (.int 0))))
  (.seq (.asg 5 (.call 0 (.cons (.bin .Mult (.bi .abs (.cons (.loc 2) (.nil))) (.bin .Pow (.lit (.int 10)) (.bi .max (.cons (.bin .Sub (.loc 1) (.loc 4)) (.cons (.lit (.int 0)) (.nil)))))) (.cons (.bin .Mult (.loc 3) (.bin .Pow (.lit (.int 10)) (.bi .max (.cons (.bin .Sub (.loc 4) (.loc 1)) (.cons (.lit (.int 0)) (.nil)))))) (.nil)))))
  (.seq (.ite (.cmp .Eq (.loc 5) (.bin .Pow (.lit (.int 10)) (.bin .Add (.loc 1) (.lit (.int 1)))))
  (.seq (.swp [5, 4] (.cons (.bin .Pow (.lit (.int 10)) (.loc 1)) (.cons (.bin .Add (.loc 4) (.lit (.int 1))) (.nil))))
  (.skip))
  (.skip))
  (.seq (.asg 6 (.meth (.bi .str (.cons (.loc 5) (.nil))) .zfill (.cons (.bin .Add (.loc 1) (.lit (.int 1))) (.nil))))
  (.seq (.ret (.tup (.cons (.bin .Add (.bin .Add (.ite (.cmp .Lt (.loc 2) (.lit (.int 0))) (.lit (.str (PySem.Str.ofString "-"))) (.lit (.str (PySem.Str.ofString "")))) (.item (.loc 6) (.lit (.int 0)))) (.ite (.loc 1) (.bin .Add (.lit (.str (PySem.Str.ofString "."))) (.slice (.loc 6) (.lit (.int 1)) (.lit .none))) (.lit (.str (PySem.Str.ofString ""))))) (.cons (.loc 4) (.nil)))))
  (.skip))))))
def cnearest_fraction : PS :=
  .seq (.swp [2, 3] (.cons (.bi .abs (.cons (.attr (.loc 0) false) (.nil))) (.cons (.attr (.loc 0) true) (.nil))))
  (.seq (.unp [4, 5, 6, 7] (.tup (.cons (.bin .FloorDiv (.loc 2) (.loc 3)) (.cons (.lit (.int 1)) (.cons (.bin .Add (.bin .FloorDiv (.loc 2) (.loc 3)) (.lit (.int 1))) (.cons (.lit (.int 1)) (.nil)))))))
  (.seq (.whl (.bop .And (.cmp .LtE (.bin .Add (.loc 5) (.loc 7)) (.loc 1)) (.cmp .NotEq (.bin .Mult (.loc 4) (.loc 3)) (.bin .Mult (.loc 2) (.loc 5)))) (.seq (.asg 8 (.bi .min (.cons (.bin .FloorDiv (.bin .Sub (.bin .Mult (.loc 2) (.loc 5)) (.bin .Mult (.loc 4) (.loc 3))) (.bin .Sub (.bin .Mult (.loc 6) (.loc 3)) (.bin .Mult (.loc 2) (.loc 7)))) (.cons (.bin .FloorDiv (.bin .Sub (.loc 1) (.loc 5)) (.loc 7)) (.nil)))))
  (.seq (.swp [4, 5] (.cons (.bin .Add (.loc 4) (.bin .Mult (.loc 8) (.loc 6))) (.cons (.bin .Add (.loc 5) (.bin .Mult (.loc 8) (.loc 7))) (.nil))))
  (.seq (.ite (.cmp .NotEq (.bin .Mult (.loc 4) (.loc 3)) (.bin .Mult (.loc 2) (.loc 5)))
  (.seq (.asg 8 (.bi .min (.cons (.bin .FloorDiv (.bin .Sub (.bin .Sub (.bin .Mult (.loc 6) (.loc 3)) (.bin .Mult (.loc 2) (.loc 7))) (.lit (.int 1))) (.bin .Sub (.bin .Mult (.loc 2) (.loc 5)) (.bin .Mult (.loc 4) (.loc 3)))) (.cons (.bin .FloorDiv (.bin .Sub (.loc 1) (.loc 7)) (.loc 5)) (.nil)))))
  (.seq (.swp [6, 7] (.cons (.bin .Add (.loc 6) (.bin .Mult (.loc 8) (.loc 4))) (.cons (.bin .Add (.loc 7) (.bin .Mult (.loc 8) (.loc 5))) (.nil))))
  (.skip)))
  (.skip))
  (.skip)))))
  (.seq (.swp [9, 10] (.cons (.bin .Mult (.bin .Sub (.bin .Mult (.loc 2) (.loc 5)) (.bin .Mult (.loc 4) (.loc 3))) (.loc 7)) (.cons (.bin .Mult (.bin .Sub (.bin .Mult (.loc 6) (.loc 3)) (.bin .Mult (.loc 2) (.loc 7))) (.loc 5)) (.nil))))
  (.seq (.ite (.bop .Or (.cmp .Gt (.loc 9) (.loc 10)) (.bop .And (.cmp .Eq (.loc 9) (.loc 10)) (.cmp .Gt (.loc 5) (.loc 7))))
  (.seq (.swp [4, 5] (.cons (.loc 6) (.cons (.loc 7) (.nil))))
  (.skip))
  (.skip))
  (.seq (.ret (.tup (.cons (.ite (.cmp .GtE (.attr (.loc 0) false) (.lit (.int 0))) (.loc 4) (.neg (.loc 4))) (.cons (.loc 5) (.nil)))))
  (.skip))))))
def c_ngettext : PS :=
  .seq (.ret (.ite (.cmp .Eq (.loc 2) (.lit (.int 1))) (.loc 0) (.loc 1)))
  (.skip)
def cthousands_separator : PS :=
  .seq (.ret (.getSep 0))
  (.skip)
def cdecimal_separator : PS :=
  .seq (.ret (.getSep 1))
  (.skip)
def c_format_not_finite : PS :=
  .seq (.ite (.call 15 (.cons (.loc 0) (.nil)))
  (.seq (.ret (.lit (.str (PySem.Str.ofString "NaN"))))
  (.skip))
  (.skip))
  (.seq (.ite (.bop .And (.call 16 (.cons (.loc 0) (.nil))) (.cmp .Lt (.loc 0) (.lit (.int 0))))
  (.seq (.ret (.lit (.str (PySem.Str.ofString "-Inf"))))
  (.skip))
  (.skip))
  (.seq (.ite (.bop .And (.call 16 (.cons (.loc 0) (.nil))) (.cmp .Gt (.loc 0) (.lit (.int 0))))
  (.seq (.ret (.lit (.str (PySem.Str.ofString "+Inf"))))
  (.skip))
  (.skip))
  (.seq (.ret (.lit (.str (PySem.Str.ofString ""))))
  (.skip))))
def cintcomma : PS :=
  .seq (.asg 2 (.call 25 (.nil)))
  (.seq (.asg 3 (.call 26 (.nil)))
  (.seq (.tryy (.seq (.ite (.isi (.loc 0) .str)
  (.seq (.asg 0 (.fail))
  (.seq (.ite (.not_ (.call 14 (.cons (.call 13 (.cons (.loc 0) (.nil))) (.nil))))
  (.seq (.ret (.call 27 (.cons (.call 13 (.cons (.loc 0) (.nil))) (.nil))))
  (.skip))
  (.skip))
  (.seq (.ite (.cmp .In (.lit (.str (PySem.Str.ofString "."))) (.loc 0))
  (.seq (.asg 0 (.call 13 (.cons (.loc 0) (.nil))))
  (.skip))
  (.seq (.asg 0 (.bi .int (.cons (.loc 0) (.nil))))
  (.skip)))
  (.skip))))
  (.seq (.ite (.not_ (.isi (.loc 0) .int))
  (.seq (.ite (.not_ (.call 14 (.cons (.call 13 (.cons (.loc 0) (.nil))) (.nil))))
  (.seq (.ret (.call 27 (.cons (.call 13 (.cons (.loc 0) (.nil))) (.nil))))
  (.skip))
  (.skip))
  (.skip))
  (.skip))
  (.skip)))
  (.skip)))
  (.seq (.ite (.cmp .IsNot (.loc 1) (.lit .none))
  (.seq (.asg 4 (.call 20 (.cons (.call 19 (.cons (.fstr (.cons (.lit (.str (PySem.Str.ofString "%."))) (.cons (.fval (.loc 1)) (.cons (.lit (.str (PySem.Str.ofString "f"))) (.nil))))) (.cons (.call 13 (.cons (.loc 0) (.nil))) (.nil)))) (.nil))))
  (.skip))
  (.seq (.asg 4 (.call 20 (.cons (.call 19 (.cons (.lit (.str (PySem.Str.ofString "%d"))) (.cons (.loc 0) (.nil)))) (.nil))))
  (.skip)))
  (.seq (.ret (.loc 4))
  (.skip)))))
def cintword : PS :=
  .seq (.tryy (.seq (.ite (.not_ (.call 14 (.cons (.call 13 (.cons (.loc 0) (.nil))) (.nil))))
  (.seq (.ret (.call 27 (.cons (.call 13 (.cons (.loc 0) (.nil))) (.nil))))
  (.skip))
  (.skip))
  (.seq (.asg 0 (.bi .int (.cons (.loc 0) (.nil))))
  (.skip))))
  (.seq (.ite (.cmp .Lt (.loc 0) (.lit (.int 0)))
  (.seq (.aug 0 .Mult (.neg (.lit (.int 1))))
  (.seq (.asg 2 (.lit (.str (PySem.Str.ofString "-"))))
  (.skip)))
  (.seq (.asg 2 (.lit (.str (PySem.Str.ofString ""))))
  (.skip)))
  (.seq (.ite (.cmp .Lt (.loc 0) (.item (.powers) (.lit (.int 0))))
  (.seq (.ret (.fstr (.cons (.fval (.loc 2)) (.cons (.fval (.loc 0)) (.nil)))))
  (.skip))
  (.skip))
  (.seq (.asg 3 (.bi .bisect (.cons (.powers) (.cons (.loc 0) (.nil)))))
  (.seq (.asg 4 (.cmp .Eq (.loc 3) (.bi .len (.cons (.powers) (.nil)))))
  (.seq (.aug 3 .Sub (.lit (.int 1)))
  (.seq (.asg 5 (.item (.powers) (.loc 3)))
  (.seq (.asg 6 (.call 12 (.cons (.loc 0) (.cons (.loc 5) (.nil)))))
  (.seq (.asg 7 (.call 18 (.cons (.call 19 (.cons (.loc 1) (.cons (.loc 6) (.nil)))) (.nil))))
  (.seq (.ite (.bop .And (.not_ (.loc 4)) (.cmp .Eq (.loc 7) (.bin .FloorDiv (.item (.powers) (.bin .Add (.loc 3) (.lit (.int 1)))) (.loc 5))))
  (.seq (.aug 3 .Add (.lit (.int 1)))
  (.seq (.asg 7 (.mkd (.cons (.lit (.int 1)) (.nil))))
  (.skip)))
  (.skip))
  (.seq (.unp [8, 9] (.item (.human) (.loc 3)))
  (.seq (.asg 10 (.call 24 (.cons (.loc 8) (.cons (.loc 9) (.cons (.bi .int (.cons (.loc 7) (.nil))) (.nil))))))
  (.seq (.asg 11 (.call 26 (.nil)))
  (.seq (.asg 12 (.repl (.call 19 (.cons (.loc 1) (.cons (.loc 7) (.nil)))) (PySem.Str.ofString ".") (.loc 11)))
  (.seq (.ret (.fstr (.cons (.fval (.loc 2)) (.cons (.fval (.loc 12)) (.cons (.lit (.str (PySem.Str.ofString " "))) (.cons (.fval (.loc 10)) (.nil)))))))
  (.skip)))))))))))))))
def cfractional : PS :=
  .seq (.tryy (.seq (.asg 1 (.call 13 (.cons (.loc 0) (.nil))))
  (.seq (.ite (.not_ (.call 14 (.cons (.loc 1) (.nil))))
  (.seq (.ret (.call 27 (.cons (.loc 1) (.nil))))
  (.skip))
  (.skip))
  (.skip))))
  (.seq (.asg 2 (.bi .int (.cons (.loc 1) (.nil))))
  (.seq (.unp [3, 4] (.call 23 (.cons (.bin .Sub (.loc 1) (.loc 2)) (.cons (.lit (.int 1000)) (.nil)))))
  (.seq (.ite (.cmp .Eq (.loc 4) (.lit (.int 1)))
  (.seq (.ret (.fstr (.cons (.fval (.bin .Add (.loc 2) (.loc 3))) (.nil))))
  (.skip))
  (.skip))
  (.seq (.ite (.not_ (.loc 2))
  (.seq (.ret (.fstr (.cons (.fval (.loc 3)) (.cons (.lit (.str (PySem.Str.ofString "/"))) (.cons (.fval (.loc 4)) (.nil))))))
  (.skip))
  (.skip))
  (.seq (.ret (.fstr (.cons (.fval (.loc 2)) (.cons (.lit (.str (PySem.Str.ofString " "))) (.cons (.fval (.bi .abs (.cons (.loc 3) (.nil)))) (.cons (.lit (.str (PySem.Str.ofString "/"))) (.cons (.fval (.loc 4)) (.nil))))))))
  (.skip))))))
def cscientific : PS :=
  .seq (.tryy (.seq (.asg 0 (.call 13 (.cons (.loc 0) (.nil))))
  (.seq (.ite (.not_ (.call 14 (.cons (.loc 0) (.nil))))
  (.seq (.ret (.call 27 (.cons (.loc 0) (.nil))))
  (.skip))
  (.skip))
  (.skip))))
  (.seq (.unp [2, 3] (.call 22 (.cons (.loc 0) (.cons (.bi .int (.cons (.loc 1) (.nil))) (.nil)))))
  (.seq (.ret (.bin .Add (.bin .Add (.loc 2) (.lit (.str (PySem.Str.ofString " x 10")))) (.trans (.bi .str (.cons (.bi .int (.cons (.loc 3) (.nil))) (.nil))))))
  (.skip)))
def cmetric : PS :=
  .seq (.ite (.not_ (.call 14 (.cons (.loc 0) (.nil))))
  (.seq (.ret (.call 27 (.cons (.loc 0) (.nil))))
  (.skip))
  (.skip))
  (.seq (.asg 3 (.ite (.bop .Or (.cmp .Gt (.loc 0) (.lit (.int 0))) (.cmp .Lt (.loc 0) (.lit (.int 0)))) (.item (.call 22 (.cons (.meth (.call 13 (.cons (.loc 0) (.nil))) .size (.nil)) (.cons (.lit (.int 14)) (.nil)))) (.lit (.int 1))) (.lit (.int 0))))
  (.seq (.ite (.bop .Or (.cmp .GtE (.loc 3) (.lit (.int 33))) (.cmp .Lt (.loc 3) (.neg (.lit (.int 30)))))
  (.seq (.ret (.bin .Add (.call 31 (.cons (.loc 0) (.cons (.bin .Sub (.loc 2) (.lit (.int 1))) (.nil)))) (.loc 1)))
  (.skip))
  (.skip))
  (.seq (.asg 4 (.bin .Mult (.bin .FloorDiv (.loc 3) (.lit (.int 3))) (.lit (.int 3))))
  (.seq (.asg 0 (.call 12 (.cons (.loc 0) (.cons (.ite (.cmp .GtE (.loc 4) (.lit (.int 0))) (.bin .Pow (.lit (.int 10)) (.loc 4)) (.mkd (.cons (.lit (.int 1)) (.cons (.bin .Pow (.lit (.int 10)) (.neg (.loc 4))) (.nil))))) (.nil)))))
  (.seq (.asg 5 (.bi .int (.cons (.bi .max (.cons (.lit (.int 0)) (.cons (.bin .Sub (.bin .Sub (.loc 2) (.bin .Mod (.loc 3) (.lit (.int 3)))) (.lit (.int 1))) (.nil)))) (.nil))))
  (.seq (.ite (.bop .And (.cmp .Lt (.loc 3) (.lit (.int 30))) (.cmp .GtE (.call 18 (.cons (.call 19 (.cons (.fstr (.cons (.lit (.str (PySem.Str.ofString "%."))) (.cons (.fval (.loc 5)) (.cons (.lit (.str (PySem.Str.ofString "f"))) (.nil))))) (.cons (.meth (.loc 0) .size (.nil)) (.nil)))) (.nil))) (.bin .Pow (.lit (.int 10)) (.bin .Add (.bin .Mod (.loc 3) (.lit (.int 3))) (.lit (.int 1))))))
  (.seq (.aug 3 .Add (.lit (.int 1)))
  (.seq (.asg 6 (.bin .Mult (.bin .FloorDiv (.loc 3) (.lit (.int 3))) (.lit (.int 3))))
  (.seq (.aug 0 .Div (.bin .Pow (.lit (.int 10)) (.bin .Sub (.loc 6) (.loc 4))))
  (.seq (.asg 5 (.bi .int (.cons (.bi .max (.cons (.lit (.int 0)) (.cons (.bin .Sub (.bin .Sub (.loc 2) (.bin .Mod (.loc 3) (.lit (.int 3)))) (.lit (.int 1))) (.nil)))) (.nil))))
  (.skip)))))
  (.skip))
  (.seq (.ite (.cmp .GtE (.loc 3) (.lit (.int 3)))
  (.seq (.asg 7 (.item (.lit (.str (PySem.Str.ofString "kMGTPEZYRQ"))) (.bin .Sub (.bin .FloorDiv (.loc 3) (.lit (.int 3))) (.lit (.int 1)))))
  (.skip))
  (.seq (.ite (.cmp .Lt (.loc 3) (.lit (.int 0)))
  (.seq (.asg 7 (.item (.lit (.str (PySem.Str.ofString "mμnpfazyrq"))) (.bin .FloorDiv (.bin .Sub (.neg (.loc 3)) (.lit (.int 1))) (.lit (.int 3)))))
  (.skip))
  (.seq (.asg 7 (.lit (.str (PySem.Str.ofString ""))))
  (.skip)))
  (.skip)))
  (.seq (.asg 8 (.call 19 (.cons (.fstr (.cons (.lit (.str (PySem.Str.ofString "%."))) (.cons (.fval (.loc 5)) (.cons (.lit (.str (PySem.Str.ofString "f"))) (.nil))))) (.cons (.loc 0) (.nil)))))
  (.seq (.ite (.bop .Or (.not_ (.bop .Or (.loc 1) (.loc 7))) (.cmp .In (.loc 1) (.tup (.cons (.lit (.str (PySem.Str.ofString "°"))) (.cons (.lit (.str (PySem.Str.ofString "′"))) (.cons (.lit (.str (PySem.Str.ofString "″"))) (.nil)))))))
  (.seq (.asg 9 (.lit (.str (PySem.Str.ofString ""))))
  (.skip))
  (.seq (.asg 9 (.lit (.str (PySem.Str.ofString " "))))
  (.skip)))
  (.seq (.ret (.fstr (.cons (.fval (.loc 8)) (.cons (.fval (.loc 9)) (.cons (.fval (.loc 7)) (.cons (.fval (.loc 1)) (.nil)))))))
  (.skip)))))))))))
def c_law_next : PS :=
  .seq (.ite (.cmp .Lt (.item (.loc 0) (.lit (.int 1))) (.bi .len (.cons (.item (.loc 0) (.lit (.int 0))) (.nil))))
  (.seq (.asg 2 (.bi .abs (.cons (.item (.item (.loc 0) (.lit (.int 0))) (.item (.loc 0) (.lit (.int 1)))) (.nil))))
  (.seq (.setc 0 (.lit (.int 1)) (.bin .Add (.item (.loc 0) (.lit (.int 1))) (.lit (.int 1))))
  (.seq (.setc 0 (.lit (.int 2)) (.bin .Mod (.bin .Add (.bin .Mult (.item (.loc 0) (.lit (.int 2))) (.lit (.int 31))) (.loc 2)) (.lit (.int 2147483647))))
  (.seq (.ret (.bin .Mod (.loc 2) (.loc 1)))
  (.skip)))))
  (.skip))
  (.seq (.setc 0 (.lit (.int 2)) (.bin .Mod (.bin .Add (.bin .Mult (.item (.loc 0) (.lit (.int 2))) (.lit (.int 48271))) (.lit (.int 11))) (.lit (.int 2147483647))))
  (.seq (.ret (.bin .Mod (.bin .FloorDiv (.item (.loc 0) (.lit (.int 2))) (.lit (.int 7))) (.loc 1)))
  (.skip)))
def c_law_near : PS :=
  .seq (.unp [2, 3, 4, 5] (.tup (.cons (.ite (.cmp .Lt (.loc 0) (.lit (.int 0))) (.neg (.lit (.int 1))) (.lit (.int 1))) (.cons (.bi .abs (.cons (.loc 0) (.nil))) (.cons (.loc 1) (.cons (.lit (.int 0)) (.nil)))))))
  (.seq (.ite (.cmp .Eq (.loc 3) (.lit (.int 0)))
  (.seq (.ret (.tup (.cons (.lit (.int 0)) (.cons (.lit (.int 1)) (.nil)))))
  (.skip))
  (.skip))
  (.seq (.whl (.cmp .GtE (.loc 3) (.bin .LShift (.loc 4) (.lit (.int 85)))) (.seq (.swp [4, 5] (.cons (.bin .LShift (.loc 4) (.lit (.int 32))) (.cons (.bin .Add (.loc 5) (.lit (.int 32))) (.nil))))
  (.skip)))
  (.seq (.whl (.cmp .GtE (.loc 3) (.bin .LShift (.loc 4) (.lit (.int 53)))) (.seq (.swp [4, 5] (.cons (.bin .LShift (.loc 4) (.lit (.int 1))) (.cons (.bin .Add (.loc 5) (.lit (.int 1))) (.nil))))
  (.skip)))
  (.seq (.whl (.bop .And (.cmp .Lt (.loc 3) (.bin .LShift (.loc 4) (.lit (.int 20)))) (.cmp .Gt (.loc 5) (.neg (.lit (.int 1042))))) (.seq (.swp [3, 5] (.cons (.bin .LShift (.loc 3) (.lit (.int 32))) (.cons (.bin .Sub (.loc 5) (.lit (.int 32))) (.nil))))
  (.skip)))
  (.seq (.whl (.bop .And (.cmp .Lt (.loc 3) (.bin .LShift (.loc 4) (.lit (.int 52)))) (.cmp .Gt (.loc 5) (.neg (.lit (.int 1074))))) (.seq (.swp [3, 5] (.cons (.bin .LShift (.loc 3) (.lit (.int 1))) (.cons (.bin .Sub (.loc 5) (.lit (.int 1))) (.nil))))
  (.skip)))
  (.seq (.swp [6, 7] (.cons (.bin .FloorDiv (.loc 3) (.loc 4)) (.cons (.bin .Mod (.loc 3) (.loc 4)) (.nil))))
  (.seq (.ite (.bop .Or (.cmp .Gt (.bin .Mult (.lit (.int 2)) (.loc 7)) (.loc 4)) (.bop .And (.cmp .Eq (.bin .Mult (.lit (.int 2)) (.loc 7)) (.loc 4)) (.cmp .Eq (.bin .Mod (.loc 6) (.lit (.int 2))) (.lit (.int 1)))))
  (.seq (.asg 6 (.bin .Add (.loc 6) (.lit (.int 1))))
  (.skip))
  (.skip))
  (.seq (.ret (.ite (.cmp .GtE (.loc 5) (.lit (.int 0))) (.tup (.cons (.bin .LShift (.bin .Mult (.loc 2) (.loc 6)) (.loc 5)) (.cons (.lit (.int 1)) (.nil)))) (.tup (.cons (.bin .Mult (.loc 2) (.loc 6)) (.cons (.bin .LShift (.lit (.int 1)) (.bin .Sub (.lit (.int 0)) (.loc 5))) (.nil))))))
  (.skip)))))))))
def c_law_parted : PS :=
  .seq (.unp [1, 2] (.meth (.loc 0) .split (.cons (.lit (.str (PySem.Str.ofString " x 10"))) (.nil))))
  (.seq (.ret (.tup (.cons (.loc 1) (.cons (.bi .len (.cons (.item (.meth (.loc 1) .partition (.cons (.lit (.str (PySem.Str.ofString "."))) (.nil))) (.lit (.int 2))) (.nil))) (.cons (.bi .int (.cons (.meth (.lit (.str (PySem.Str.ofString ""))) .join (.cons (.comp2 (.loc 2)) (.nil))) (.nil))) (.nil))))))
  (.skip))
def c_law_names : PS :=
  .seq (.ret (.lst (.cons (.lit (.str (PySem.Str.ofString "thousand"))) (.cons (.lit (.str (PySem.Str.ofString "million"))) (.cons (.lit (.str (PySem.Str.ofString "billion"))) (.cons (.lit (.str (PySem.Str.ofString "trillion"))) (.cons (.lit (.str (PySem.Str.ofString "quadrillion"))) (.cons (.lit (.str (PySem.Str.ofString "quintillion"))) (.cons (.lit (.str (PySem.Str.ofString "sextillion"))) (.cons (.lit (.str (PySem.Str.ofString "septillion"))) (.cons (.lit (.str (PySem.Str.ofString "octillion"))) (.cons (.lit (.str (PySem.Str.ofString "nonillion"))) (.cons (.lit (.str (PySem.Str.ofString "decillion"))) (.nil))))))))))))))
  (.skip)
def c_law_decimal : PS :=
  .seq (.unp [2, 3, 4] (.meth (.loc 0) .partition (.cons (.lit (.str (PySem.Str.ofString "."))) (.nil))))
  (.seq (.swp [5, 6] (.cons (.bin .Mult (.bi .int (.cons (.bin .Add (.loc 2) (.loc 4)) (.nil))) (.bin .Pow (.lit (.int 10)) (.bi .max (.cons (.loc 1) (.cons (.lit (.int 0)) (.nil)))))) (.cons (.bin .Mult (.bin .Pow (.lit (.int 10)) (.bi .len (.cons (.loc 4) (.nil)))) (.bin .Pow (.lit (.int 10)) (.bi .max (.cons (.bin .Sub (.lit (.int 0)) (.loc 1)) (.cons (.lit (.int 0)) (.nil)))))) (.nil))))
  (.seq (.ret (.tup (.cons (.loc 5) (.cons (.loc 6) (.cons (.bin .Pow (.lit (.int 10)) (.bi .max (.cons (.loc 1) (.cons (.lit (.int 0)) (.nil))))) (.cons (.loc 6) (.nil)))))))
  (.skip)))
def c_law_told : PS :=
  .seq (.ite (.cmp .Eq (.loc 0) (.lit (.int 0)))
  (.seq (.unp [3, 4, 5] (.call 35 (.cons (.call 31 (.cons (.loc 1) (.cons (.loc 2) (.nil)))) (.nil))))
  (.seq (.ret (.call 37 (.cons (.loc 3) (.cons (.loc 5) (.nil)))))
  (.skip)))
  (.skip))
  (.seq (.ite (.cmp .Eq (.loc 0) (.lit (.int 1)))
  (.seq (.asg 6 (.slice (.call 32 (.cons (.loc 1) (.cons (.lit (.str (PySem.Str.ofString "V"))) (.cons (.bin .Add (.loc 2) (.lit (.int 1))) (.nil))))) (.lit .none) (.neg (.lit (.int 1)))))
  (.seq (.ite (.cmp .In (.lit (.str (PySem.Str.ofString " x 10"))) (.loc 6))
  (.seq (.unp [3, 4, 5] (.call 35 (.cons (.loc 6) (.nil))))
  (.seq (.ret (.call 37 (.cons (.loc 3) (.cons (.loc 5) (.nil)))))
  (.skip)))
  (.skip))
  (.seq (.unp [3, 7] (.ite (.cmp .In (.lit (.str (PySem.Str.ofString " "))) (.loc 6)) (.meth (.loc 6) .split (.cons (.lit (.str (PySem.Str.ofString " "))) (.nil))) (.tup (.cons (.loc 6) (.cons (.lit (.str (PySem.Str.ofString ""))) (.nil))))))
  (.seq (.asg 8 (.ite (.cmp .Eq (.loc 7) (.lit (.str (PySem.Str.ofString "")))) (.lit (.int 0)) (.ite (.cmp .In (.loc 7) (.lit (.str (PySem.Str.ofString "kMGTPEZYRQ")))) (.bin .Add (.meth (.lit (.str (PySem.Str.ofString "kMGTPEZYRQ"))) .index (.cons (.loc 7) (.nil))) (.lit (.int 1))) (.bin .Sub (.bin .Sub (.lit (.int 0)) (.lit (.int 1))) (.meth (.lit (.str (PySem.Str.ofString "mμnpfazyrq"))) .index (.cons (.loc 7) (.nil)))))))
  (.seq (.ret (.call 37 (.cons (.loc 3) (.cons (.bin .Mult (.lit (.int 3)) (.loc 8)) (.nil)))))
  (.skip))))))
  (.skip))
  (.seq (.ite (.cmp .Eq (.loc 0) (.lit (.int 2)))
  (.seq (.unp [3, 9, 7] (.meth (.call 29 (.cons (.loc 1) (.cons (.fstr (.cons (.lit (.str (PySem.Str.ofString "%."))) (.cons (.fval (.loc 2)) (.cons (.lit (.str (PySem.Str.ofString "f"))) (.nil))))) (.nil)))) .partition (.cons (.lit (.str (PySem.Str.ofString " "))) (.nil))))
  (.seq (.ret (.call 37 (.cons (.loc 3) (.cons (.ite (.cmp .NotEq (.loc 7) (.lit (.str (PySem.Str.ofString "")))) (.bin .Mult (.lit (.int 3)) (.bin .Add (.meth (.call 36 (.nil)) .index (.cons (.loc 7) (.nil))) (.lit (.int 1)))) (.lit (.int 0))) (.nil)))))
  (.skip)))
  (.skip))
  (.seq (.ite (.cmp .Eq (.loc 0) (.lit (.int 3)))
  (.seq (.asg 6 (.call 30 (.cons (.loc 1) (.nil))))
  (.seq (.unp [10, 11, 12] (.ite (.bop .Or (.cmp .In (.lit (.str (PySem.Str.ofString " "))) (.loc 6)) (.cmp .NotIn (.lit (.str (PySem.Str.ofString "/"))) (.loc 6))) (.meth (.loc 6) .partition (.cons (.lit (.str (PySem.Str.ofString " "))) (.nil))) (.tup (.cons (.lit (.str (PySem.Str.ofString "0"))) (.cons (.lit (.str (PySem.Str.ofString ""))) (.cons (.loc 6) (.nil)))))))
  (.seq (.unp [13, 14, 15] (.meth (.ite (.cmp .NotEq (.loc 12) (.lit (.str (PySem.Str.ofString "")))) (.loc 12) (.lit (.str (PySem.Str.ofString "0/1")))) .partition (.cons (.lit (.str (PySem.Str.ofString "/"))) (.nil))))
  (.seq (.ret (.tup (.cons (.bin .Add (.bin .Mult (.bi .int (.cons (.loc 10) (.nil))) (.bi .int (.cons (.loc 15) (.nil)))) (.bi .int (.cons (.loc 13) (.nil)))) (.cons (.bi .int (.cons (.loc 15) (.nil))) (.cons (.lit (.int 1)) (.cons (.lit (.int 1000)) (.nil)))))))
  (.skip)))))
  (.skip))
  (.seq (.ret (.call 37 (.cons (.repl (.call 28 (.cons (.loc 1) (.cons (.loc 2) (.nil)))) (PySem.Str.ofString ",") (.lit (.sep (PySem.Str.ofString "")))) (.cons (.lit (.int 0)) (.nil)))))
  (.skip)))))
def claw : PS :=
  .seq (.newc 1 (.cons (.slice (.loc 0) (.lit .none) (.lit (.int 70))) (.cons (.lit (.int 0)) (.cons (.lit (.int 17)) (.nil)))))
  (.seq (.swp [2, 3] (.cons (.bin .Add (.lit (.int 1)) (.call 33 (.cons (.loc 1) (.cons (.lit (.int 9)) (.nil))))) (.cons (.item (.lst (.cons (.lit (.int 1)) (.cons (.lit (.int 3)) (.cons (.lit (.int 7)) (.cons (.lit (.int 8)) (.cons (.lit (.int 1000)) (.cons (.lit (.int 999999999989)) (.cons (.lit (.int 1099511627776)) (.nil))))))))) (.call 33 (.cons (.loc 1) (.cons (.lit (.int 7)) (.nil))))) (.nil))))
  (.seq (.forr 4 (.call 33 (.cons (.loc 1) (.cons (.lit (.int 21)) (.nil)))) (.seq (.asg 2 (.bin .Add (.bin .Mult (.loc 2) (.lit (.int 10))) (.call 33 (.cons (.loc 1) (.cons (.lit (.int 10)) (.nil))))))
  (.skip)))
  (.seq (.swp [5, 6, 7] (.cons (.call 33 (.cons (.loc 1) (.cons (.lit (.int 3)) (.nil)))) (.cons (.bin .Sub (.call 33 (.cons (.loc 1) (.cons (.lit (.int 29)) (.nil)))) (.lit (.int 14))) (.cons (.call 33 (.cons (.loc 1) (.cons (.lit (.int 9)) (.nil)))) (.nil)))))
  (.seq (.ite (.cmp .Eq (.loc 5) (.lit (.int 2)))
  (.seq (.swp [2, 3] (.cons (.bin .Sub (.bin .Sub (.bin .Pow (.lit (.int 10)) (.bin .Add (.lit (.int 6)) (.call 33 (.cons (.loc 1) (.cons (.lit (.int 10)) (.nil)))))) (.lit (.int 1))) (.call 33 (.cons (.loc 1) (.cons (.lit (.int 60)) (.nil))))) (.cons (.bin .Pow (.lit (.int 10)) (.call 33 (.cons (.loc 1) (.cons (.lit (.int 12)) (.nil))))) (.nil))))
  (.skip))
  (.skip))
  (.seq (.swp [2, 3, 8] (.cons (.bin .Mult (.loc 2) (.bin .Pow (.lit (.int 10)) (.bi .max (.cons (.loc 6) (.cons (.lit (.int 0)) (.nil)))))) (.cons (.bin .Mult (.loc 3) (.bin .Pow (.lit (.int 10)) (.bi .max (.cons (.bin .Sub (.lit (.int 0)) (.loc 6)) (.cons (.lit (.int 0)) (.nil)))))) (.cons (.lst (.nil)) (.nil)))))
  (.seq (.forr 4 (.lit (.int 4)) (.seq (.swp [9, 10] (.cons (.mkd (.cons (.loc 2) (.cons (.loc 3) (.nil)))) (.cons (.call 34 (.cons (.loc 2) (.cons (.loc 3) (.nil)))) (.nil))))
  (.seq (.forr 11 (.lit (.int 5)) (.seq (.unp [12, 13, 14, 15] (.call 38 (.cons (.loc 11) (.cons (.loc 9) (.cons (.loc 7) (.nil))))))
  (.seq (.asg 16 (.ite (.cmp .Eq (.loc 11) (.lit (.int 2))) (.lit (.int 1)) (.lit (.int 0))))
  (.seq (.asg 17 (.bin .Mult (.lit (.int 20000)) (.bi .abs (.cons (.bin .Sub (.bin .Mult (.item (.loc 10) (.lit (.int 0))) (.loc 13)) (.bin .Mult (.loc 12) (.item (.loc 10) (.lit (.int 1))))) (.nil)))))
  (.seq (.ite (.cmp .Gt (.loc 17) (.bin .FloorDiv (.bin .Mult (.bin .Mult (.bin .Add (.bin .Mult (.lit (.int 10001)) (.loc 14)) (.bin .Mult (.bin .Mult (.lit (.int 20001)) (.loc 16)) (.loc 15))) (.loc 13)) (.item (.loc 10) (.lit (.int 1)))) (.loc 15)))
  (.seq (.ret (.lit (.bool false)))
  (.skip))
  (.skip))
  (.seq (.ite (.bop .And (.cmp .Gt (.bi .len (.cons (.loc 8) (.nil))) (.loc 11)) (.cmp .Lt (.bin .Mult (.loc 12) (.item (.item (.loc 8) (.loc 11)) (.lit (.int 1)))) (.bin .Mult (.item (.item (.loc 8) (.loc 11)) (.lit (.int 0))) (.loc 13))))
  (.seq (.ret (.lit (.bool false)))
  (.skip))
  (.skip))
  (.seq (.asg 8 (.bin .Add (.bin .Add (.slice (.loc 8) (.lit .none) (.loc 11)) (.lst (.cons (.tup (.cons (.loc 12) (.cons (.loc 13) (.nil)))) (.nil)))) (.slice (.loc 8) (.bin .Add (.loc 11) (.lit (.int 1))) (.lit .none))))
  (.skip))))))))
  (.seq (.asg 18 (.bin .Pow (.lit (.int 10)) (.call 33 (.cons (.loc 1) (.cons (.lit (.int 17)) (.nil))))))
  (.seq (.swp [2, 3] (.cons (.bin .Add (.bin .Add (.bin .Mult (.loc 2) (.loc 18)) (.bin .FloorDiv (.bin .Mult (.call 33 (.cons (.loc 1) (.cons (.lit (.int 1000)) (.nil)))) (.loc 2)) (.lit (.int 1000000)))) (.call 33 (.cons (.loc 1) (.cons (.lit (.int 3)) (.nil))))) (.cons (.bin .Mult (.loc 3) (.loc 18)) (.nil))))
  (.skip))))))
  (.seq (.ret (.lit (.bool true)))
  (.skip))))))))
def code : Nat → Option FD
  | 0 => some ⟨2, 2, crounded⟩
  | 1 => some ⟨2, 2, cnearest⟩
  | 2 => some ⟨1, 0, cparts⟩
  | 4 => some ⟨1, 0, csize⟩
  | 5 => some ⟨1, 0, c__int__⟩
  | 6 => some ⟨2, 2, c__eq__⟩
  | 7 => some ⟨2, 2, c__lt__⟩
  | 8 => some ⟨2, 2, c__gt__⟩
  | 9 => some ⟨2, 2, c__ge__⟩
  | 10 => some ⟨2, 2, c__sub__⟩
  | 11 => some ⟨2, 2, c__truediv__⟩
  | 12 => some ⟨2, 0, cquotient⟩
  | 13 => some ⟨1, 0, cdouble⟩
  | 14 => some ⟨1, 0, cisfinite⟩
  | 15 => some ⟨1, 0, cisnan⟩
  | 16 => some ⟨1, 0, cisinf⟩
  | 17 => some ⟨1, 0, cplain⟩
  | 18 => some ⟨1, 9, cread⟩
  | 19 => some ⟨2, 10, claid_out⟩
  | 20 => some ⟨1, 5, cgrouped⟩
  | 21 => some ⟨2, 3, cwhole_log⟩
  | 22 => some ⟨2, 5, cmantissa_and_power⟩
  | 23 => some ⟨2, 9, cnearest_fraction⟩
  | 24 => some ⟨3, 0, c_ngettext⟩
  | 25 => some ⟨0, 0, cthousands_separator⟩
  | 26 => some ⟨0, 0, cdecimal_separator⟩
  | 27 => some ⟨1, 0, c_format_not_finite⟩
  | 28 => some ⟨2, 3, cintcomma⟩
  | 29 => some ⟨2, 11, cintword⟩
  | 30 => some ⟨1, 4, cfractional⟩
  | 31 => some ⟨2, 2, cscientific⟩
  | 32 => some ⟨3, 7, cmetric⟩
  | 33 => some ⟨2, 1, c_law_next⟩
  | 34 => some ⟨2, 6, c_law_near⟩
  | 35 => some ⟨1, 2, c_law_parted⟩
  | 36 => some ⟨0, 0, c_law_names⟩
  | 37 => some ⟨2, 5, c_law_decimal⟩
  | 38 => some ⟨3, 13, c_law_told⟩
  | 39 => some ⟨1, 18, claw⟩
  | _ => none
end Mine
end
section
open PySem PySem.W PyProof.Rows
set_option Elab.async false
set_option maxRecDepth 100000
namespace Mine

/-- what stands at every state: the world, the top's facts upon a base heap -/
structure GC where
  w : World
  p : Program
  loose : List PySem.Str
  mean : ExcName → Option Value
  mg : PySem.Str → Option Value
  mb : PySem.Str → Option Value
  base : Heap
  os : OsState
  KI : (hd.heap_39 w.params).In base
  T : Top p loose mean mg mb base

abbrev GC.prog (_ : GC) : Program := Challenge.rw_fe0133_01.row.prog
abbrev GC.M (g : GC) : Model := model g.prog g.w
noncomputable abbrev GC.K (g : GC) : Frag := hd.heap_39 g.w.params

/-- mutable places: all (frames and cells), cells by number -/
structure Wd where
  X : List Addr
  C : List Addr

def DC : Addr := 137

/-- a list's object, as it lies -/
def LL (h : Heap) (a : Addr) (vs : List Value) : Prop := ∃ k, h.get? a = some (listOf vs.toArray k)
theorem LL.l {h : Heap} {a : Addr} {vs : List Value} (x : LL h a vs) : h.IsList a vs.toArray := let ⟨k, e⟩ := x; ⟨_, e, rfl, k, rfl⟩
theorem LL.keeps {h h' : Heap} {a : Addr} {vs : List Value} (x : LL h a vs) (k : ∀ o : Obj, h.get? a = some o → h'.get? a = some o) : LL h' a vs := let ⟨n, e⟩ := x; ⟨n, k _ e⟩

/-- a list's object: as it lies, or (a list of ints) but its items -/
def LI (l : List PVal) (h : Heap) (a : Addr) (vs : List Value) : Prop := LL h a vs ∨ ((intsOf l).isSome = true ∧ h.IsList a vs.toArray)
theorem LI.l {l : List PVal} {h : Heap} {a : Addr} {vs : List Value} (x : LI l h a vs) : h.IsList a vs.toArray := x.elim LL.l (·.2)
theorem LI.keeps {l : List PVal} {h h' : Heap} {a : Addr} {vs : List Value} (x : LI l h a vs) (k : ∀ o : Obj, h.get? a = some o → h'.get? a = some o) : LI l h' a vs :=
  x.elim (fun y => .inl (y.keeps k)) fun y => .inr ⟨y.1, let ⟨o, ho, r⟩ := y.2; ⟨o, k _ ho, r⟩⟩
theorem LI.exact {l : List PVal} {h : Heap} {a : Addr} {vs : List Value} {ys : List PySem.Str} {y : PySem.Str} (x : LI l h a vs) (hs : strsOf l = some ys) (hc : ys.contains y = true) : LL h a vs := by
  rcases x with x | ⟨hi, _⟩
  · exact x
  · exfalso
    cases l with
    | nil => cases hs; simp at hc
    | cons p r =>
      cases p <;> simp only [strsOf, intsOf, reduceCtorEq, Option.isSome_none, Bool.false_eq_true, Option.map_eq_some_iff] at hs hi

/-- a double's own dict -/
def ndL (h₁ h₂ : Int) (k₁ k₂ : Tok) (n d : Int) (tn td : Tok) : List DictEntry := [⟨h₁, .str "n" k₁, .int n tn⟩, ⟨h₂, .str "d" k₂, .int d td⟩]

mutual
def Rep (h : Heap) (W : Wd) : PVal → Value → Prop
  | .none, v => v = .none
  | .bool b, v => v = .bool b
  | .int i, v => ∃ t, v = .int i t
  | .str x, v => ∃ t, v = .str x t
  | .sep x, v => ∃ t, v = .str x t ∧ t ≠ 0
  | .tup l, v => ∃ a vs, v = .ref a ∧ a ∉ W.X ∧ IsTup h a vs.toArray ∧ Reps h W l vs
  | .lst l, v => ∃ a vs, v = .ref a ∧ a ∉ W.X ∧ LI l h a vs ∧ Reps h W l vs
  | .dbl n d, v => ∃ a dx c h₁ h₂ k₁ k₂ tn td, v = .ref a ∧ a ∉ W.X ∧ dx ∉ W.X ∧ h.get? a = some (instObj DC dx) ∧ h.get? dx = some (dictOf (ndL h₁ h₂ k₁ k₂ n d tn td) c)
  | .cell i, v => ∃ a, v = .ref a ∧ W.C[i]? = some a
def Reps (h : Heap) (W : Wd) : List PVal → List Value → Prop
  | [], vs => vs = []
  | p :: ps, vs => ∃ v r, vs = v :: r ∧ Rep h W p v ∧ Reps h W ps r
end

/-- the step relation: only what Y names and the cells may turn; new mutable places are fresh -/
structure Ext (Y : List Addr) (W W' : Wd) (h h' : Heap) : Prop where
  keep : ∀ b o, h.get? b = some o → b ∉ Y → b ∉ W.C → h'.get? b = some o
  xs : ∃ N, W'.X = W.X ++ N ∧ ∀ b ∈ N, h.get? b = none
  cs : ∃ N, W'.C = W.C ++ N ∧ ∀ b ∈ N, h.get? b = none

structure St (g : GC) (W : Wd) (st : Store) (s : Shared) : Prop where
  keep : ∀ b o, g.base.get? b = some o → s.heap.get? b = some o
  xb : ∀ a ∈ W.X, g.base.get? a = none
  xs : ∀ a ∈ W.X, ∃ o, s.heap.get? a = some o
  sub : ∀ a ∈ W.C, a ∈ W.X
  nd : W.C.Nodup
  len : W.C.length = st.length
  cells : ∀ (i : Nat) (l : List PVal), st[i]? = some l → ∃ a vs, W.C[i]? = some a ∧ LL s.heap a vs ∧ Reps s.heap W l vs
  gens : s.gens = #[]
  os : s.os = g.os
  toks : 1 ≤ s.toks
  big : g.base.objs.size ≤ s.heap.objs.size

structure Inv (g : GC) (L : Addr) (names : List PySem.Str) (W : Wd) (r : Rho) (st : Store) (s : Shared) : Prop where
  st : St g W st s
  mem : L ∈ W.X
  notC : L ∉ W.C
  fr : ∃ m, Fr g.base L s.heap m ∧ ∀ i v, lk r i = some v → ∃ x cv, names[i]? = some x ∧ m x = some cv ∧ Rep s.heap W v cv

/-- room for calls n deep -/
structure Room (n : Nat) (A : Around) : Prop where
  handled : A.handled = none
  depth : A.depth + 3 * n + 20 < recursionLimit
  units : A.units + 20 * n + 100 < cLine

theorem Room.down {n : Nat} {A A' : Around} (h : Room (n + 1) A) (h1 : A'.handled = A.handled := by rfl) (h2 : A'.depth ≤ A.depth + 3 := by simp) (h3 : A'.units ≤ A.units + 20 := by simp) : Room n A' :=
  ⟨h1.trans h.handled, by have := h.depth; omega, by have := h.units; omega⟩

theorem Heap.get?_unique {h : Heap} {a : Addr} {o o' : Obj} (e : h.get? a = some o) (e' : h.get? a = some o') : o = o' := by rw [e] at e'; exact Option.some.inj e'

theorem IsTup.keeps {h h' : Heap} {a : Addr} {vs : Array Value} (x : IsTup h a vs) (k : ∀ o : Obj, h.get? a = some o → h'.get? a = some o) : IsTup h' a vs := by
  obtain ⟨o, h1, h2⟩ := x; exact ⟨o, k _ h1, h2⟩
theorem IsList.keeps {h h' : Heap} {a : Addr} {vs : Array Value} (x : h.IsList a vs) (k : ∀ o : Obj, h.get? a = some o → h'.get? a = some o) : h'.IsList a vs := by
  obtain ⟨o, h1, h2⟩ := x; exact ⟨o, k _ h1, h2⟩

mutual
theorem Rep.ext {Y : List Addr} {W W' : Wd} {h h' : Heap} (x : Ext Y W W' h h') (hL : ∀ a ∈ Y, a ∈ W.X) (hC : ∀ a ∈ W.C, a ∈ W.X) : ∀ (p : PVal) (v : Value), Rep h W p v → Rep h' W' p v
  | .none, _, e => e
  | .bool _, _, e => e
  | .int _, _, e => e
  | .str _, _, e => e
  | .sep _, _, e => e
  | .tup l, v, e => by
    unfold Rep at e ⊢
    obtain ⟨a, vs, e1, e2, e3, e4⟩ := e
    refine ⟨a, vs, e1, ?_, IsTup.keeps e3 fun o ho => x.keep a o ho (fun q => e2 (hL _ q)) (fun q => e2 (hC _ q)), Reps.ext x hL hC l vs e4⟩
    obtain ⟨N, hN, hf⟩ := x.xs
    rw [hN]
    obtain ⟨o, ho, _⟩ := e3
    intro q
    rcases List.mem_append.mp q with q | q
    · exact e2 q
    · rw [hf _ q] at ho; cases ho
  | .lst l, v, e => by
    unfold Rep at e ⊢
    obtain ⟨a, vs, e1, e2, e3, e4⟩ := e
    refine ⟨a, vs, e1, ?_, LI.keeps e3 fun o ho => x.keep a o ho (fun q => e2 (hL _ q)) (fun q => e2 (hC _ q)), Reps.ext x hL hC l vs e4⟩
    obtain ⟨N, hN, hf⟩ := x.xs
    rw [hN]
    obtain ⟨o, ho, _⟩ := e3.l
    intro q
    rcases List.mem_append.mp q with q | q
    · exact e2 q
    · rw [hf _ q] at ho; cases ho
  | .dbl n d, v, e => by
    unfold Rep at e ⊢
    obtain ⟨a, dx, c, h₁, h₂, k₁, k₂, tn, td, e1, e2, e3, e4, e5⟩ := e
    obtain ⟨N, hN, hf⟩ := x.xs
    refine ⟨a, dx, c, h₁, h₂, k₁, k₂, tn, td, e1, ?_, ?_, x.keep a _ e4 (fun q => e2 (hL _ q)) (fun q => e2 (hC _ q)), x.keep dx _ e5 (fun q => e3 (hL _ q)) (fun q => e3 (hC _ q))⟩
    · rw [hN]; intro q
      rcases List.mem_append.mp q with q | q
      · exact e2 q
      · rw [hf _ q] at e4; cases e4
    · rw [hN]; intro q
      rcases List.mem_append.mp q with q | q
      · exact e3 q
      · rw [hf _ q] at e5; cases e5
  | .cell i, v, e => by
    unfold Rep at e ⊢
    obtain ⟨a, e1, e2⟩ := e
    obtain ⟨N, hN, _⟩ := x.cs
    exact ⟨a, e1, by rw [hN, List.getElem?_append_left (List.getElem?_eq_some_iff.mp e2).1]; exact e2⟩
theorem Reps.ext {Y : List Addr} {W W' : Wd} {h h' : Heap} (x : Ext Y W W' h h') (hL : ∀ a ∈ Y, a ∈ W.X) (hC : ∀ a ∈ W.C, a ∈ W.X) : ∀ (l : List PVal) (vs : List Value), Reps h W l vs → Reps h' W' l vs
  | [], _, e => e
  | p :: ps, vs, e => by
    unfold Reps at e ⊢
    obtain ⟨v, r, e1, e2, e3⟩ := e
    exact ⟨v, r, e1, Rep.ext x hL hC p v e2, Reps.ext x hL hC ps r e3⟩
end

theorem Ext.refl (Y : List Addr) (W : Wd) (h : Heap) : Ext Y W W h h := ⟨fun _ _ e _ _ => e, ⟨[], by simp⟩, ⟨[], by simp⟩⟩
theorem Ext.more {Y : List Addr} {W W' : Wd} {h h' : Heap} (x : Ext [] W W' h h') : Ext Y W W' h h' := ⟨fun b o e _ c => x.keep b o e List.not_mem_nil c, x.xs, x.cs⟩

theorem Ext.trans {Y : List Addr} {W W₁ W₂ : Wd} {h h₁ h₂ : Heap} (x : Ext Y W W₁ h h₁) (y : Ext Y W₁ W₂ h₁ h₂) (hL : ∀ a ∈ Y, ∃ o, h₁.get? a = some o) (hC : ∀ a ∈ W.C, ∃ o, h₁.get? a = some o) : Ext Y W W₂ h h₂ := by
  obtain ⟨N, hN, hn⟩ := x.xs
  obtain ⟨B, hB, hb⟩ := x.cs
  obtain ⟨N', hN', hn'⟩ := y.xs
  obtain ⟨B', hB', hb'⟩ := y.cs
  have up : ∀ b, h₁.get? b = none → h.get? b = none := by
    intro b q
    cases e : h.get? b with
    | none => rfl
    | some o =>
      exfalso
      by_cases h1 : b ∈ Y
      · obtain ⟨o', ho'⟩ := hL b h1; rw [q] at ho'; cases ho'
      · by_cases h2 : b ∈ W.C
        · obtain ⟨o', ho'⟩ := hC b h2; rw [q] at ho'; cases ho'
        · have := x.keep b o e h1 h2; rw [q] at this; cases this
  refine ⟨fun b o e h1 h2 => y.keep b o (x.keep b o e h1 h2) h1 ?_, ⟨N ++ N', by rw [hN', hN, List.append_assoc], ?_⟩, ⟨B ++ B', by rw [hB', hB, List.append_assoc], ?_⟩⟩
  · rw [hB]; intro q
    rcases List.mem_append.mp q with q | q
    · exact h2 q
    · rw [hb _ q] at e; cases e
  · intro b q
    rcases List.mem_append.mp q with q | q
    · exact hn _ q
    · exact up _ (hn' _ q)
  · intro b q
    rcases List.mem_append.mp q with q | q
    · exact hb _ q
    · exact up _ (hb' _ q)

theorem St.clives {g : GC} {W : Wd} {st : Store} {s : Shared} (I : St g W st s) : ∀ a ∈ W.C, ∃ o, s.heap.get? a = some o := fun a ha => I.xs _ (I.sub a ha)

/-- what a list of cells' addresses has in X stays so -/
theorem Ext.csub {Y : List Addr} {W W' : Wd} {h h' : Heap} (x : Ext Y W W' h h') {a : Addr} (ha : a ∈ W.C) : a ∈ W'.C := by
  obtain ⟨B, hB, _⟩ := x.cs; rw [hB]; exact List.mem_append_left _ ha
theorem Ext.xsub {Y : List Addr} {W W' : Wd} {h h' : Heap} (x : Ext Y W W' h h') {a : Addr} (ha : a ∈ W.X) : a ∈ W'.X := by
  obtain ⟨B, hB, _⟩ := x.xs; rw [hB]; exact List.mem_append_left _ ha

theorem Ext.trans0 {g : GC} {st₁ : Store} {s₁ : Shared} {W W₁ W₂ : Wd} {h h₂ : Heap} (x : Ext [] W W₁ h s₁.heap) (I : St g W₁ st₁ s₁) (y : Ext [] W₁ W₂ s₁.heap h₂) : Ext [] W W₂ h h₂ :=
  x.trans y (fun _ q => nomatch q) fun _ ha => I.clives _ (x.csub ha)

theorem Inv.step {g : GC} {L : Addr} {names : List PySem.Str} {W W' : Wd} {r : Rho} {st st' : Store} {s s' : Shared} (I : Inv g L names W r st s) (x : Ext [] W W' s.heap s'.heap) (S : St g W' st' s') : Inv g L names W' r st' s' := by
  obtain ⟨o, ho⟩ := I.st.xs _ I.mem
  have hk := x.keep L o ho List.not_mem_nil I.notC
  obtain ⟨m, F, hm⟩ := I.fr
  refine ⟨S, x.xsub I.mem, ?_, m, ⟨?_, S.keep, F.above⟩, fun i v hv => ?_⟩
  · obtain ⟨B, hB, hb⟩ := x.cs
    rw [hB]; intro q
    rcases List.mem_append.mp q with q | q
    · exact I.notC q
    · rw [hb _ q] at ho; cases ho
  · obtain ⟨o', es, ep, h1, h2⟩ := F.ns
    exact ⟨o', es, ep, x.keep L o' h1 List.not_mem_nil I.notC, h2⟩
  · obtain ⟨y, cv, h1, h2, h3⟩ := hm i v hv
    exact ⟨y, cv, h1, h2, Rep.ext x (fun _ q => nomatch q) I.st.sub _ _ h3⟩

theorem Inv.lives {g : GC} {L : Addr} {names : List PySem.Str} {W : Wd} {r : Rho} {st : Store} {s : Shared} (I : Inv g L names W r st s) : ∃ o, s.heap.get? L = some o := I.st.xs _ I.mem

end Mine
end
section
open PySem PySem.W PyProof.Rows
set_option Elab.async false
set_option maxRecDepth 100000
namespace Mine
section
variable (P : Params)
noncomputable abbrev KK (P : Params) : Frag := hd.heap_39 P
theorem kf_self : selfFirst (KK P) DC = true := by kernel_rfl
theorem kf_sub : findIn (KK P) (.ref DC) "__sub__" = some (some (.ref 127)) := by kernel_rfl
theorem kf_div : findIn (KK P) (.ref DC) "__truediv__" = some (some (.ref 134)) := by kernel_rfl
theorem kf_eq : findIn (KK P) (.ref DC) "__eq__" = some (some (.ref 99)) := by kernel_rfl
theorem kf_lt : findIn (KK P) (.ref DC) "__lt__" = some (some (.ref 106)) := by kernel_rfl
theorem kf_gt : findIn (KK P) (.ref DC) "__gt__" = some (some (.ref 113)) := by kernel_rfl
theorem kf_ge : findIn (KK P) (.ref DC) "__ge__" = some (some (.ref 120)) := by kernel_rfl
theorem kf_int : findIn (KK P) (.ref DC) "__int__" = some (some (.ref 92)) := by kernel_rfl
theorem kf_size : findIn (KK P) (.ref DC) "size" = some (some (.ref 85)) := by kernel_rfl
theorem kf_init : findIn (KK P) (.ref DC) "__init__" = some (some (.ref 78)) := by kernel_rfl
theorem kf_makes : makesIn (KK P) DC = true := by kernel_rfl
theorem kf_fn : ([127, 134, 99, 106, 113, 120, 92, 85, 78].all fun a => isFn (KK P) (.ref a)) = true := by kernel_rfl
theorem kf_getn : plainGet (KK P) DC "n" = true := by kernel_rfl
theorem kf_getd : plainGet (KK P) DC "d" = true := by kernel_rfl
theorem kf_dict : hasDictIn (KK P) DC = true := by kernel_rfl
theorem kf_n : findIn (KK P) (.ref DC) "n" = some none := by kernel_rfl
theorem kf_d : findIn (KK P) (.ref DC) "d" = some none := by kernel_rfl
theorem kf_noget : noGet (KK P) none = true := by kernel_rfl
theorem kf_rsub : findIn (KK P) (.ref DC) "__rsub__" = some none := by kernel_rfl
theorem kf_rdiv : findIn (KK P) (.ref DC) "__rtruediv__" = some none := by kernel_rfl
theorem kf_g1 : nsIn (KK P) mainGlobals "powers" = some (some (.ref 263)) := by kernel_rfl
theorem kf_g2 : nsIn (KK P) mainGlobals "divmod" = some none := by kernel_rfl
theorem kf_g3 : nsIn (KK P) mainGlobals "bisect_right" = some (some (.builtin "_bisect.bisect_right")) := by kernel_rfl
end
end Mine
end
section
open PySem PySem.W PyProof.Rows
set_option Elab.async false
set_option maxRecDepth 100000
namespace Mine

/-- the names of a def's slots -/
structure NamesOK (sc : Scope) (names : List PySem.Str) : Prop where
  kind : sc.kind = .function
  loc : ∀ (i : Nat) x, names[i]? = some x → sc.names.lookup x = some .local ∧ (x == ("__debug__" : PySem.Str)) = false
  nd : names.Nodup

/-- what follows an expression -/
abbrev Ko (g : GC) (L : Addr) (names : List PySem.Str) (W : Wd) (r : Rho) (st' : Store) (v : PVal) (Q : Value → Shared → Prop) (s : Shared) : Prop :=
  ∀ W' s' cv, Ext [L] W W' s.heap s'.heap → Inv g L names W' r st' s' → Rep s'.heap W' v cv → Q cv s'
abbrev Kb (g : GC) (L : Addr) (names : List PySem.Str) (W : Wd) (r : Rho) (st' : Store) (b : Bool) (Q : Bool → Shared → Prop) (s : Shared) : Prop :=
  ∀ W' s', Ext [L] W W' s.heap s'.heap → Inv g L names W' r st' s' → Q b s'

def EvOK (g : GC) (n : Nat) (sc : Scope) (names : List PySem.Str) (cf : CF) (e : Expr) (pe : PE) : Prop :=
  ∀ (cn : PySem.Str) (a : Addr) (ccd : Value) (L : Addr) (W : Wd) (r : Rho) (st : Store) (A : Around) (s : Shared) (Q E : Value → Shared → Prop) (v : PVal) (st' : Store),
    Room (2 * n + 1) A → Inv g L names W r st s → ev cf pe r st = some (v, st') → Ko g L names W r st' v Q s → wpAny g.M A (eval e (envX cn sc L a ccd [])) Q E s

def TsOK (g : GC) (n : Nat) (sc : Scope) (names : List PySem.Str) (cf : CF) (e : Expr) (pe : PE) : Prop :=
  ∀ (cn : PySem.Str) (a : Addr) (ccd : Value) (L : Addr) (W : Wd) (r : Rho) (st : Store) (A : Around) (s : Shared) (Q : Bool → Shared → Prop) (E : Value → Shared → Prop) (v : PVal) (st' : Store) (b : Bool),
    Room (2 * n + 1) A → Inv g L names W r st s → ev cf pe r st = some (v, st') → truth v = some b → Kb g L names W r st' b Q s →
    wpAny g.M A (isTrue e (envX cn sc L a ccd []) (eval e (envX cn sc L a ccd []))) Q E s

def isL : PE → Bool
  | .nil => true
  | .cons _ t => isL t
  | _ => false
theorem evs_isL {cf : CF} : ∀ (pe : PE) (r : Rho) (st : Store) (x : List PVal × Store), evs cf pe r st = some x → isL pe = true
  | .nil, _, _, _, _ => rfl
  | .cons h t, r, st, x, e => by
    unfold evs at e
    split at e
    · split at e
      · rename_i q; exact evs_isL t _ _ _ q
      · cases e
    · cases e
  | .fail, _, _, _, e => by unfold evs at e; cases e
  | .loc _, _, _, _, e | .lit _, _, _, _, e | .powers, _, _, _, e | .human, _, _, _, e | .bin _ _ _, _, _, _, e | .neg _, _, _, _, e | .not_ _, _, _, _, e | .cmp _ _ _, _, _, _, e | .bop _ _ _, _, _, _, e
  | .ite _ _ _, _, _, _, e | .tup _, _, _, _, e | .lst _, _, _, _, e | .call _ _, _, _, _, e | .mkd _, _, _, _, e | .bi _ _, _, _, _, e | .isi _ _, _, _, _, e | .meth _ _ _, _, _, _, e | .repl _ _ _, _, _, _, e
  | .trans _, _, _, _, e | .getSep _, _, _, _, e | .attr _ _, _, _, _, e | .item _ _, _, _, _, e | .slice _ _ _, _, _, _, e | .fstr _, _, _, _, e | .fval _, _, _, _, e | .comp1 _, _, _, _, e | .comp2 _, _, _, _, e => by unfold evs at e; cases e

/-- a list of expressions -/
def EsOK (g : GC) (n : Nat) (sc : Scope) (names : List PySem.Str) (cf : CF) (es : List Expr) (pe : PE) : Prop :=
  (isL pe = true → ∀ env, (starEach es env).any (·.1) = false) ∧
  ∀ (cn : PySem.Str) (a : Addr) (ccd : Value) (L : Addr) (W : Wd) (r : Rho) (st : Store) (A : Around) (s : Shared) (Q : List Value → Shared → Prop) (E : Value → Shared → Prop) (pos : Pos) (l : List PVal) (st' : Store),
    Room (2 * n + 1) A → Inv g L names W r st s → evs cf pe r st = some (l, st') →
    (∀ W' s' vs, Ext [L] W W' s.heap s'.heap → Inv g L names W' r st' s' → Reps s'.heap W' l vs → Q vs s') →
    wpAny g.M A (spliced (backTo pos (starEach es (envX cn sc L a ccd [])))) Q E s

/-- calls of the text's defs -/
def CallOK (g : GC) (n : Nat) (addr : Nat → Addr) (cf : CF) : Prop :=
  ∀ (k : Nat) (W : Wd) (st : Store) (A : Around) (s : Shared) (Q E : Value → Shared → Prop) (vs : List PVal) (cvs : List Value) (v : PVal) (st' : Store),
    Room (2 * n) A → St g W st s → Reps s.heap W vs cvs → cf k vs st = some (v, st') →
    (∀ W' s' cv, Ext [] W W' s.heap s'.heap → St g W' st' s' → Rep s'.heap W' v cv → Q cv s') →
    codeAny g.M A (.call (.ref (addr k)) ⟨cvs, []⟩) (fun res s' => match res with | .ok (.ret cv) => Q cv s' | .ok _ => False | .error e => E e s') s

theorem St.setToks {g : GC} {W : Wd} {st : Store} {s : Shared} (S : St g W st s) {k : Nat} (hk : 1 ≤ k) : St g W st { s with toks := k } :=
  ⟨S.keep, S.xb, S.xs, S.sub, S.nd, S.len, S.cells, S.gens, S.os, hk, S.big⟩
theorem Inv.setToks {g : GC} {L : Addr} {names : List PySem.Str} {W : Wd} {r : Rho} {st : Store} {s : Shared} (I : Inv g L names W r st s) {k : Nat} (hk : 1 ≤ k) : Inv g L names W r st { s with toks := k } :=
  ⟨I.st.setToks hk, I.mem, I.notC, I.fr⟩

theorem Inv.trans {g : GC} {L : Addr} {names : List PySem.Str} {W W₁ W₂ : Wd} {r₁ : Rho} {st₁ : Store} {s s₁ s₂ : Shared} (x : Ext [L] W W₁ s.heap s₁.heap) (I : Inv g L names W₁ r₁ st₁ s₁) (y : Ext [L] W₁ W₂ s₁.heap s₂.heap) : Ext [L] W W₂ s.heap s₂.heap :=
  x.trans y (fun a ha => by rw [List.mem_singleton.mp ha]; exact I.lives) fun _ ha => I.st.clives _ (x.csub ha)

theorem Inv.rep {g : GC} {L : Addr} {names : List PySem.Str} {W W₁ : Wd} {r : Rho} {st : Store} {s s₁ : Shared} (I : Inv g L names W r st s) (x : Ext [L] W W₁ s.heap s₁.heap) {p : PVal} {v : Value} (h : Rep s.heap W p v) : Rep s₁.heap W₁ p v :=
  Rep.ext x (fun a ha => by rw [List.mem_singleton.mp ha]; exact I.mem) I.st.sub _ _ h
theorem Inv.reps {g : GC} {L : Addr} {names : List PySem.Str} {W W₁ : Wd} {r : Rho} {st : Store} {s s₁ : Shared} (I : Inv g L names W r st s) (x : Ext [L] W W₁ s.heap s₁.heap) {p : List PVal} {v : List Value} (h : Reps s.heap W p v) : Reps s₁.heap W₁ p v :=
  Reps.ext x (fun a ha => by rw [List.mem_singleton.mp ha]; exact I.mem) I.st.sub _ _ h

/-- the end of an expression whose heap stays -/
theorem Ko.same {g : GC} {L : Addr} {names : List PySem.Str} {W : Wd} {r : Rho} {st : Store} {s : Shared} {v : PVal} {Q : Value → Shared → Prop} (k : Ko g L names W r st v Q s) (I : Inv g L names W r st s) {t : Nat} (ht : 1 ≤ t) {cv : Value} (h : Rep s.heap W v cv) : Q cv { s with toks := t } :=
  k W _ cv (Ext.refl _ _ _) (I.setToks ht) h

theorem Ko.later {g : GC} {L : Addr} {names : List PySem.Str} {W W₁ : Wd} {r : Rho} {st₁ st' : Store} {s s₁ : Shared} {v : PVal} {Q : Value → Shared → Prop} (k : Ko g L names W r st' v Q s) (x : Ext [L] W W₁ s.heap s₁.heap) (I : Inv g L names W₁ r st₁ s₁) : Ko g L names W₁ r st' v Q s₁ :=
  fun W' s' cv y I' R => k W' s' cv (Inv.trans x I y) I' R
theorem Kb.later {g : GC} {L : Addr} {names : List PySem.Str} {W W₁ : Wd} {r : Rho} {st₁ st' : Store} {s s₁ : Shared} {v : Bool} {Q : Bool → Shared → Prop} (k : Kb g L names W r st' v Q s) (x : Ext [L] W W₁ s.heap s₁.heap) (I : Inv g L names W₁ r st₁ s₁) : Kb g L names W₁ r st' v Q s₁ :=
  fun W' s' y I' => k W' s' (Inv.trans x I y) I'

/-- the ledger of all that stands above the base, but the frame -/
noncomputable def full (base : Heap) (L : Addr) (h : Heap) : List (Addr × Obj) := (List.range h.objs.size).filterMap fun a => if a = L then none else match base.get? a with | some _ => none | none => (h.get? a).map fun o => (a, o)

theorem full_mem {base h : Heap} {L a : Addr} {o : Obj} (e : h.get? a = some o) (h1 : a ≠ L) (h2 : base.get? a = none) : (a, o) ∈ full base L h := by
  refine List.mem_filterMap.mpr ⟨a, List.mem_range.mpr (Heap.lt_size e), ?_⟩
  rw [if_neg h1, h2, e]; rfl
theorem full_news (base h : Heap) (L : Addr) : News base L h (full base L h) := by
  intro q hq
  obtain ⟨a, _, h2⟩ := List.mem_filterMap.mp hq
  by_cases h1 : a = L
  · rw [if_pos h1] at h2; cases h2
  · rw [if_neg h1] at h2
    cases hb : base.get? a with
    | some o => rw [hb] at h2; cases h2
    | none =>
      rw [hb] at h2
      obtain ⟨o, ho, rfl⟩ := Option.map_eq_some_iff.mp h2
      exact ⟨ho, h1, hb⟩

theorem ledger_keep {base h h' : Heap} {L : Addr} {m : PySem.Str → Option Value} {extra : List (Addr × Obj)} (F : Fr base L h m) (F' : Fr base L h' m) (N : News base L h' (extra ++ full base L h)) : ∀ b o, h.get? b = some o → b ∉ [L] → h'.get? b = some o := by
  intro b o e h1
  cases hb : base.get? b with
  | some o' =>
    have := F.keep _ _ hb
    rw [e] at this; cases this
    exact F'.keep _ _ hb
  | none => exact (N (b, o) (List.mem_append_right _ (full_mem e (fun q => h1 (by rw [q]; exact List.mem_singleton.mpr rfl)) hb))).1

/-- behind a library's rule that speaks of frame and ledger: the same values, new objects -/
theorem Inv.led {g : GC} {L : Addr} {names : List PySem.Str} {W : Wd} {r : Rho} {st : Store} {s : Shared} {m : PySem.Str → Option Value} {h' : Heap} {k : Nat} {extra : List (Addr × Obj)}
    (I : Inv g L names W r st s) (F : Fr g.base L s.heap m) (hm : ∀ i v, lk r i = some v → ∃ x cv, names[i]? = some x ∧ m x = some cv ∧ Rep s.heap W v cv)
    (F' : Fr g.base L h' m) (N : News g.base L h' (extra ++ full g.base L s.heap)) (hk : 1 ≤ k) :
    Ext [L] W W s.heap h' ∧ Inv g L names W r st { s with heap := h', toks := k } := by
  have keep := ledger_keep F F' N
  have x : Ext [L] W W s.heap h' := ⟨fun b o e h1 _ => keep b o e h1, ⟨[], by simp⟩, ⟨[], by simp⟩⟩
  have S := I.st
  obtain ⟨oL, _, _, hL, _⟩ := F'.ns
  have lt : L < h'.objs.size := F'.ns.lt
  refine ⟨x, ⟨⟨F'.keep, S.xb, fun a ha => ?_, S.sub, S.nd, S.len, fun i l hi => ?_, S.gens, S.os, hk, Nat.le_trans F'.above (Nat.le_of_lt lt)⟩, I.mem, I.notC, m, F', fun i v hv => ?_⟩⟩
  · by_cases q : a = L
    · exact ⟨oL, q ▸ hL⟩
    · obtain ⟨o, ho⟩ := S.xs a ha
      exact ⟨o, keep a o ho (fun q' => q (List.mem_singleton.mp q'))⟩
  · obtain ⟨a, vs, h1, h2, h3⟩ := S.cells i l hi
    have hac : a ∈ W.C := (List.getElem?_eq_some_iff.mp h1).2 ▸ List.getElem_mem _
    have haL : a ∉ [L] := fun q => I.notC (List.mem_singleton.mp q ▸ hac)
    exact ⟨a, vs, h1, LL.keeps h2 (fun o ho => keep a o ho haL), I.reps (s₁ := { s with heap := h' }) x h3⟩
  · obtain ⟨y, cv, h1, h2, h3⟩ := hm i v hv
    exact ⟨y, cv, h1, h2, I.rep (s₁ := { s with heap := h' }) x h3⟩

/-- the same with a fresh address that is no mutable place -/
theorem Inv.fresh {g : GC} {L : Addr} {names : List PySem.Str} {W : Wd} {r : Rho} {st : Store} {s : Shared} (I : Inv g L names W r st s) {a : Addr} (ha : s.heap.get? a = none) : a ∉ W.X := fun q => by
  obtain ⟨o, ho⟩ := I.st.xs _ q; rw [ha] at ho; cases ho
theorem get?_size (h : Heap) : h.get? h.objs.size = none := by
  cases e : h.get? h.objs.size with
  | none => rfl
  | some o => exact absurd (Heap.lt_size e) (Nat.lt_irrefl _)

/-! ### leaves -/
section
variable {g : GC} {n : Nat} {sc : Scope} {names : List PySem.Str} {cf : CF}

theorem ts_plain {e : Expr} {pe : PE} (he : ∀ env whole, isTrue e env whole = (do let v ← whole; standAt e.pos; holding [v] (truthy v))) (x : EvOK g n sc names cf e pe) : TsOK g n sc names cf e pe := by
  intro cn a ccd L W r st A s Q E v st' b hR I he' hb k
  refine isTrue_plain (x cn a ccd L W r st A s _ E v st' hR I he' fun W' s' cv x' I' R => ?_) (he _ _)
  refine wpAny_with_toks I'.st.toks ?_
  cases v with
  | bool c =>
    unfold Rep at R; subst R
    simp only [truth, Option.some.injEq] at hb; subst hb
    exact fun _ _ _ => fun _ => k W' s' x' I'
  | int i =>
    unfold Rep at R; obtain ⟨t, rfl⟩ := R
    simp only [truth, Option.some.injEq] at hb; subst hb
    exact PySem.P.truthy_int fun _ => k W' s' x' I'
  | str y =>
    unfold Rep at R; obtain ⟨t, rfl⟩ := R
    simp only [truth] at hb
    split at hb
    · rename_i hl
      simp only [Option.some.injEq] at hb; subst hb
      refine PySem.P.truthy_str (by simp only [slim] at hl; omega) fun ht => ?_
      have e : ((y.length : Int) != 0) = (y.length != 0) := by rw [Bool.eq_iff_iff]; simp only [bne_iff_ne, ne_eq]; omega
      rw [e]
      exact k W' _ x' (I'.setToks ht)
    · cases hb
  | _ => cases hb

end
end Mine
end
section
open PySem PySem.W PyProof.Rows
set_option Elab.async false
set_option maxRecDepth 100000
set_option exponentiation.threshold 2500
namespace Mine

/-- where each def stands -/
def fad (k : Nat) : Addr := [49, 56, 63, 78, 85, 92, 99, 106, 113, 120, 127, 134, 148, 155, 162, 169, 176, 181, 188, 195, 202, 209, 216, 223, 232, 239, 246, 254, 262, 284, 291, 299, 307, 314, 321, 327, 334, 341, 348, 355].getD k 0

theorem log2_lt_of {a k : Nat} (h : a < 2 ^ k) (hk : 0 < k) : a.log2 < k := by
  rcases Nat.eq_zero_or_pos a with h0 | hp
  · subst h0; simpa using hk
  · exact (Nat.log2_lt (Nat.ne_of_gt hp)).mpr h
theorem fit_lt {z : Int} (h : fit z = true) : z.natAbs < 2 ^ 1900 := of_decide_eq_true h
theorem fit_bits {z : Int} (h : fit z = true) : Builtin.Int.intBits z ≤ 1900 := by
  have := log2_lt_of (fit_lt h) (by decide)
  unfold Builtin.Int.intBits
  split <;> omega
theorem fit_mul {a b : Int} (ha : fit a = true) (hb : fit b = true) : IntMulOk a b := by
  have h1 := fit_bits ha
  have h2 := fit_bits hb
  unfold IntMulOk
  intro h
  simp only [Bool.and_eq_true, decide_eq_true_eq] at h
  have h3 := of_decide_eq_true (p := (((Builtin.Int.intBits a : Nat) : Int) + ((Builtin.Int.intBits b : Nat) : Int) > _)) h.2
  have e : (PySem.bitsLine : Int) = 2 ^ 27 := rfl
  rw [e] at h3
  omega
theorem fit_nopy {a b : Int} (hb : fit b = true) : Builtin.divisionGoesByPylong a b = false :=
  PyProof.noPylong_of_log2 (Nat.lt_trans (log2_lt_of (fit_lt hb) (by decide)) (by decide))

section
variable {g : GC} {n : Nat} {names : List PySem.Str} {cf : CF} {A : Around} {s : Shared} {Q E : Value → Shared → Prop} {L : Addr} {W : Wd} {r : Rho} {st st' : Store} {x y v : PVal} {cx cy : Value}

theorem ndL_n (h₁ h₂ : Int) (k₁ k₂ : Tok) (n d : Int) (tn td : Tok) : getL "n" (ndL h₁ h₂ k₁ k₂ n d tn td) = some (some (.int n tn)) := by
  unfold getL ndL
  rw [List.find?_cons_of_pos (by show ((PySem.Str.ofString "n") == (PySem.Str.ofString "n")) = true; decide +kernel)]
theorem ndL_d (h₁ h₂ : Int) (k₁ k₂ : Tok) (n d : Int) (tn td : Tok) : getL "d" (ndL h₁ h₂ k₁ k₂ n d tn td) = some (some (.int d td)) := by
  unfold getL ndL
  rw [List.find?_cons_of_neg (by show ¬ ((PySem.Str.ofString "n") == (PySem.Str.ofString "d")) = true; decide +kernel), List.find?_cons_of_pos (by show ((PySem.Str.ofString "d") == (PySem.Str.ofString "d")) = true; decide +kernel)]
theorem ndL_size (h₁ h₂ : Int) (k₁ k₂ : Tok) (n d : Int) (tn td : Tok) : getL "size" (ndL h₁ h₂ k₁ k₂ n d tn td) = some none := by
  unfold getL ndL
  rw [List.find?_cons_of_neg (by show ¬ ((PySem.Str.ofString "n") == (PySem.Str.ofString "size")) = true; decide +kernel), List.find?_cons_of_neg (by show ¬ ((PySem.Str.ofString "d") == (PySem.Str.ofString "size")) = true; decide +kernel)]
  rfl

theorem Rep.dbl_inst {h : Heap} {nn d : Int} (R : Rep h W (.dbl nn d) cx) : ∃ a dx es c tn td, cx = .ref a ∧ a ∉ W.X ∧ dx ∉ W.X ∧ InstAt h a (instObj DC dx) DC (some (dictOf es c)) ∧ getL "n" es = some (some (.int nn tn)) ∧ getL "d" es = some (some (.int d td)) ∧ getL "size" es = some none := by
  unfold Rep at R
  obtain ⟨a, dx, c, h₁, h₂, k₁, k₂, tn, td, e1, e2, e3, e4, e5⟩ := R
  exact ⟨a, dx, _, c, tn, td, e1, e2, e3, ⟨e4, rfl, rfl, e5⟩, ndL_n .., ndL_d .., ndL_size ..⟩

theorem binI_ok {o : Operator} {a b : Int} {t u : Tok} (hb : binI o a b = some v) (I : Inv g L names W r st s) (k : Ko g L names W r st v Q s) : wpAny g.M A (binaryOp o (.int a t) (.int b u)) Q E s := by
  have fin : ∀ {z : Int} {tk : Nat}, v = .int z → 1 ≤ tk → ∀ t, Q (.int z t) { s with toks := tk } := fun e h1 t => by
    subst e; exact k.same I h1 (by unfold Rep; exact ⟨t, rfl⟩)
  have ht : 1 ≤ s.toks + 1 := Nat.le_add_left _ _
  cases o <;> simp only [binI] at hb
  · exact P.add_int (fin (Option.some.inj hb).symm ht _)
  · exact P.sub_int (fin (Option.some.inj hb).symm ht _)
  · split at hb
    · rename_i hf
      rw [Bool.and_eq_true] at hf
      exact P.mul_int (fin (Option.some.inj hb).symm ht _) (fit_mul hf.1 hf.2)
    · cases hb
  · cases hb
  · cases hb
  · split at hb
    · rename_i hf
      exact mod_int' hf (fin (Option.some.inj hb).symm ht _)
    · cases hb
  · split at hb
    · rename_i hf
      obtain ⟨h0, h1, h2⟩ := hf
      refine pow_int h0 ?_ (fin (Option.some.inj hb).symm ht _)
      have h3 := fit_bits h2
      have h4 : ((Builtin.Int.intBits a : Nat) : Int) * b ≤ 1900 * b := Int.mul_le_mul_of_nonneg_right (by omega) h0
      omega
    · cases hb
  · split at hb
    · rename_i hf
      obtain ⟨h0, h1, h2⟩ := hf
      have h3 := fit_bits h2
      exact lshift_int h0 (by omega) (fin (Option.some.inj hb).symm ht _)
    · cases hb
  · cases hb
  · cases hb
  · cases hb
  · cases hb
  · split at hb
    · rename_i hf
      exact floordiv_int hf.1 (fin (Option.some.inj hb).symm ht _) (.inl (fit_nopy hf.2))
    · cases hb

/-- a call of a def on an object of the class, by an operator -/
theorem opcall (C : CallOK g n fad cf) (hR : Room (2 * n + 1) A) (I : Inv g L names W r st s) {fk : Nat} {vs : List PVal} {cvs : List Value} (hc : cf fk vs st = some (v, st')) (R : Reps s.heap W vs cvs) (k : Ko g L names W r st' v Q s) :
    wpAny g.M A (call (.ref (fad fk)) cvs) (PySem.W.CmpBack Q) E s := by
  refine wpAny_call (C fk W st A s (PySem.W.CmpBack Q) E vs cvs v st' hR.down I.st R hc fun W' s' cv x S' R' => ?_)
  have : Q cv s' := k W' s' cv x.more (I.step x S') R'
  unfold PySem.W.CmpBack
  cases cv <;> first | exact this | skip
  all_goals (exfalso; cases v <;> simp [Rep] at R')

theorem fn_of {P : Params} {a : Addr} (h : a ∈ [127, 134, 99, 106, 113, 120, 92, 85, 78]) : isFn (KK P) (.ref a) = true := List.all_eq_true.mp (kf_fn P) _ h

theorem St.KIn (S : St g W st s) : (KK g.w.params).In s.heap := fun a o e => S.keep a o (g.KI a o e)

theorem reps2 {h : Heap} (R1 : Rep h W x cx) (R2 : Rep h W y cy) : Reps h W [x, y] [cx, cy] := by
  unfold Reps; exact ⟨cx, [cy], rfl, R1, by unfold Reps; exact ⟨cy, [], rfl, R2, by unfold Reps; rfl⟩⟩
theorem reps1 {h : Heap} (R1 : Rep h W x cx) : Reps h W [x] [cx] := by
  unfold Reps; exact ⟨cx, [], rfl, R1, by unfold Reps; rfl⟩

theorem bin_ok (C : CallOK g n fad cf) (hR : Room (2 * n + 1) A) {o : Operator} (hb : binP cf o x y st = some (v, st')) (I : Inv g L names W r st s) (R1 : Rep s.heap W x cx) (R2 : Rep s.heap W y cy) (k : Ko g L names W r st' v Q s) :
    wpAny g.M A (binaryOp o cx cy) Q E s := by
  obtain ⟨m, F, hm⟩ := I.fr
  have lists : ∀ {l l' : List PVal} {vs vs' : List Value} {a b : Addr}, l.length ≤ slim → l'.length ≤ slim → s.heap.IsList a vs.toArray → s.heap.IsList b vs'.toArray → Reps s.heap W l vs → Reps s.heap W l' vs' → v = .lst (l ++ l') → st' = st →
      wpAny g.M A (binaryOp .Add (.ref a) (.ref b)) Q E s := by
    intro l l' vs vs' a b h1 h2 hl hl' hr hr' ev est
    subst ev; subst est
    have len : ∀ {l : List PVal} {vs : List Value}, Reps s.heap W l vs → vs.length = l.length := by
      intro l
      induction l with
      | nil => intro vs e; unfold Reps at e; rw [e]; rfl
      | cons p ps ih => intro vs e; unfold Reps at e; obtain ⟨c, rr, rfl, _, e3⟩ := e; simp [ih e3]
    refine wpAny_with_toks I.st.toks ?_
    refine add_arrays F (full_news g.base s.heap L) hl hl' (fun h' F' N' ht => ?_) (by simp only [List.size_toArray, len hr, len hr']; simp only [sizeLine_eq, slim] at *; omega)
    obtain ⟨e, I'⟩ := I.led (extra := [(_, _)]) F hm F' N' ht
    refine k W _ _ e I' ?_
    have app : ∀ {l : List PVal} {vs : List Value}, Reps h' W l vs → ∀ {l' : List PVal} {vs' : List Value}, Reps h' W l' vs' → Reps h' W (l ++ l') (vs ++ vs') := by
      intro l
      induction l with
      | nil => intro vs e l' vs' e'; unfold Reps at e; subst e; exact e'
      | cons p ps ih =>
        intro vs e l' vs' e'
        unfold Reps at e
        obtain ⟨c, rr, rfl, e2, e3⟩ := e
        show Reps h' W (p :: (ps ++ l')) (c :: (rr ++ vs'))
        unfold Reps
        exact ⟨c, _, rfl, e2, ih e3 e'⟩
    unfold Rep
    exact ⟨_, vs ++ vs', rfl, I.fresh (get?_size _), .inl ⟨0, (N' _ (List.mem_append_left _ (List.mem_singleton.mpr rfl))).1⟩, app (I.reps (s₁ := { s with heap := h' }) e hr) (I.reps (s₁ := { s with heap := h' }) e hr')⟩
  unfold binP at hb
  split at hb
  · rename_i a b
    obtain ⟨z, hz, e⟩ := Option.map_eq_some_iff.mp hb
    cases e
    unfold Rep at R1 R2
    obtain ⟨t, rfl⟩ := R1
    obtain ⟨u, rfl⟩ := R2
    exact binI_ok hz I k
  · rename_i a b
    split at hb
    · rename_i hc
      cases hb
      unfold Rep at R1 R2
      obtain ⟨t, rfl⟩ := R1
      obtain ⟨u, rfl⟩ := R2
      obtain ⟨rfl, h1, h2⟩ := hc
      refine wpAny_with_toks I.st.toks (P.add_str (SB.post_add (by simp only [slim, sizeLine_eq] at *; omega) fun t' tk ht => k.same I ht (by unfold Rep; exact ⟨t', rfl⟩)))
    · cases hb
  · rename_i a b
    split at hb
    · rename_i hc
      cases hb
      unfold Rep at R1 R2
      obtain ⟨a1, vs1, rfl, _, i1, r1⟩ := R1
      obtain ⟨a2, vs2, rfl, _, i2, r2⟩ := R2
      obtain ⟨rfl, h1, h2⟩ := hc
      exact lists h1 h2 i1.l i2.l r1 r2 rfl rfl
    · cases hb
  · rename_i a i
    split at hb
    · rename_i y hy
      split at hb
      · rename_i hc
        cases hb
        unfold Rep at R1 R2
        obtain ⟨a1, vs1, rfl, _, i1, r1⟩ := R1
        obtain ⟨a2, rfl, hx⟩ := R2
        obtain ⟨rfl, h1, h2⟩ := hc
        obtain ⟨a3, vs3, e3, i3, r3⟩ := I.st.cells _ _ hy
        rw [hx] at e3; cases e3
        exact lists h1 h2 i1.l i3.l r1 r3 rfl rfl
      · cases hb
    · cases hb
  · rename_i nn d
    obtain ⟨a, dx, es, c, tn, td, rfl, e2, e3, IA, e5, e6⟩ := Rep.dbl_inst R1
    split at hb
    · rename_i hnum
      split at hb
      · have h1 := opcall (A := A) (E := E) C hR I hb (reps2 R1 R2) k
        cases y with
        | int i =>
          unfold Rep at R2; obtain ⟨t, rfl⟩ := R2
          exact ksp_binT (T := "int") (fo := some (.builtin "int.__sub__")) (ro := some (.builtin "int.__rsub__")) (rc := none) F g.KI IA rfl (kf_self _) (kf_sub _) (fn_of (by decide)) (kf_rsub _) (.inl rfl) (by kernel_rfl) (by kernel_rfl) (by kernel_rfl) h1
        | dbl i j =>
          obtain ⟨a', dx', es', c', tn', td', rfl, _, _, IA', _⟩ := Rep.dbl_inst R2
          exact binop_K F g.KI IA IA'.type (kf_self _) (kf_sub _) (fn_of (by decide)) h1
        | _ => cases hnum
      · have h1 := opcall (A := A) (E := E) C hR I hb (reps2 R1 R2) k
        cases y with
        | int i =>
          unfold Rep at R2; obtain ⟨t, rfl⟩ := R2
          exact ksp_binT (T := "int") (fo := some (.builtin "int.__truediv__")) (ro := some (.builtin "int.__rtruediv__")) (rc := none) F g.KI IA rfl (kf_self _) (kf_div _) (fn_of (by decide)) (kf_rdiv _) (.inl rfl) (by kernel_rfl) (by kernel_rfl) (by kernel_rfl) h1
        | dbl i j =>
          obtain ⟨a', dx', es', c', tn', td', rfl, _, _, IA', _⟩ := Rep.dbl_inst R2
          exact binop_K F g.KI IA IA'.type (kf_self _) (kf_div _) (fn_of (by decide)) h1
        | _ => cases hnum
      · cases hb
    · cases hb
  · cases hb
end
end Mine
end
section
open PySem PySem.W PyProof.Rows
set_option Elab.async false
set_option maxRecDepth 100000
namespace Mine

theorem Reps.length {h : Heap} {W : Wd} : ∀ {l : List PVal} {vs : List Value}, Reps h W l vs → vs.length = l.length
  | [], vs, e => by unfold Reps at e; rw [e]; rfl
  | p :: ps, vs, e => by unfold Reps at e; obtain ⟨c, rr, rfl, _, e3⟩ := e; simp [Reps.length e3]
theorem Reps.strs {h : Heap} {W : Wd} : ∀ {l : List PVal} {vs : List Value} {ys : List PySem.Str}, Reps h W l vs → strsOf l = some ys → StrsAre vs ys
  | [], vs, ys, e, q => by unfold Reps at e; cases q; rw [e]; exact .nil
  | p :: ps, vs, ys, e, q => by
    unfold Reps at e
    obtain ⟨c, rr, rfl, e2, e3⟩ := e
    cases p <;> simp only [strsOf, reduceCtorEq, Option.map_eq_some_iff] at q
    obtain ⟨zs, hz, rfl⟩ := q
    unfold Rep at e2
    obtain ⟨t, rfl⟩ := e2
    exact .cons _ _ (Reps.strs e3 hz)
theorem Reps.get {h : Heap} {W : Wd} : ∀ {l : List PVal} {vs : List Value} (i : Nat) {p : PVal}, Reps h W l vs → l[i]? = some p → ∃ c, vs[i]? = some c ∧ Rep h W p c
  | [], _, i, p, _, q => by simp at q
  | p :: ps, vs, 0, p', e, q => by
    unfold Reps at e
    obtain ⟨c, rr, rfl, e2, e3⟩ := e
    cases q; exact ⟨c, rfl, e2⟩
  | p :: ps, vs, i + 1, p', e, q => by
    unfold Reps at e
    obtain ⟨c, rr, rfl, e2, e3⟩ := e
    simpa using Reps.get i e3 (by simpa using q)
theorem any_beq_contains {x : PySem.Str} : ∀ ys : List PySem.Str, ys.any (· == x) = ys.contains x
  | [] => rfl
  | y :: ys => by
    rw [List.any_cons, List.contains_cons, any_beq_contains ys]
    congr 1
    rw [Bool.eq_iff_iff, beq_iff_eq, beq_iff_eq]; exact eq_comm

section
variable {g : GC} {n : Nat} {names : List PySem.Str} {cf : CF} {A : Around} {s : Shared} {Q E : Value → Shared → Prop} {L : Addr} {W : Wd} {r : Rho} {st st' : Store} {x y v : PVal} {cx cy : Value}

theorem Room.u {n : Nat} {A : Around} (h : Room n A) : A.units < cLine := by have := h.units; omega
theorem Room.d {n : Nat} {A : Around} (h : Room n A) : A.depth < recursionLimit := by have := h.depth; omega

theorem Ko.b {b : Bool} (k : Ko g L names W r st (.bool b) Q s) (I : Inv g L names W r st s) : Q (.bool b) s := k W s _ (Ext.refl _ _ _) I (by unfold Rep; rfl)
theorem Ko.i {b : Int} {t : Tok} {tk : Nat} (k : Ko g L names W r st (.int b) Q s) (I : Inv g L names W r st s) (h : 1 ≤ tk) : Q (.int b t) { s with toks := tk } := k.same I h (by unfold Rep; exact ⟨t, rfl⟩)
theorem Ko.str {b : PySem.Str} {t : Tok} {tk : Nat} (k : Ko g L names W r st (.str b) Q s) (I : Inv g L names W r st s) (h : 1 ≤ tk) : Q (.str b t) { s with toks := tk } := k.same I h (by unfold Rep; exact ⟨t, rfl⟩)

theorem cmp_ok (C : CallOK g n fad cf) (hR : Room (2 * n + 1) A) {o : CmpOp} (hb : cmpP cf o x y st = some (v, st')) (I : Inv g L names W r st s) (R1 : Rep s.heap W x cx) (R2 : Rep s.heap W y cy) (k : Ko g L names W r st' v Q s) :
    wpAny g.M A (compareOp o cx cy) Q E s := by
  unfold cmpP at hb
  split at hb
  · rename_i a b
    obtain ⟨c, hc, e⟩ := Option.map_eq_some_iff.mp hb
    cases e
    unfold Rep at R1 R2
    obtain ⟨t, rfl⟩ := R1
    obtain ⟨u, rfl⟩ := R2
    have q : ∀ {d : Bool}, some d = some c → Q (.bool d) s := fun e => by cases e; exact k.b I
    cases o <;> simp only [cmpI, reduceCtorEq] at hc
    · exact P.eq_int (q hc)
    · exact P.ne_int (q hc)
    · exact P.lt_int (q hc)
    · exact P.le_int (q hc)
    · exact P.gt_int (q hc)
    · exact P.ge_int (q hc)
  · rename_i a b
    unfold Rep at R1 R2
    obtain ⟨t, rfl⟩ := R1
    obtain ⟨u, rfl⟩ := R2
    cases o <;> simp only [reduceCtorEq, Option.some.injEq, Prod.mk.injEq] at hb
    · obtain ⟨rfl, rfl⟩ := hb; exact eq_str (k.b I)
    · obtain ⟨rfl, rfl⟩ := hb; exact ne_str (k.b I)
    · obtain ⟨rfl, rfl⟩ := hb; exact P.in_str (k.b I)
    · obtain ⟨rfl, rfl⟩ := hb; exact P.notIn_str (k.b I)
  · rename_i a l
    split at hb
    · rename_i ys hy
      cases hb
      unfold Rep at R1 R2
      obtain ⟨t, rfl⟩ := R1
      obtain ⟨b, vs, rfl, _, h3, h4⟩ := R2
      refine in_tuple_strs h3 (by simpa using h4.strs hy) ?_
      rw [any_beq_contains]
      exact k.b I
    · cases hb
  · split at hb
    · rename_i ho
      cases hb; subst ho
      unfold Rep at R1 R2
      obtain ⟨t, rfl⟩ := R1
      subst R2
      exact wpAny_isNot_other rfl (fun h => nomatch h) (k.b I)
    · cases hb
  · rename_i l
    split at hb
    · rename_i ho
      cases hb; subst ho
      unfold Rep at R1 R2
      obtain ⟨a, vs, rfl, _, h3, h4⟩ := R1
      obtain ⟨b, vs', rfl, _, h3', h4'⟩ := R2
      have e' : vs' = [] := by unfold Reps at h4'; exact h4'
      subst e'
      cases l with
      | nil =>
        have e : vs = [] := by unfold Reps at h4; exact h4
        subst e
        exact PySem.SeqAt.eq_listAt (e := fun _ => true) h3.l h3'.l rfl hR.u (fun j h1 => absurd h1 (Nat.not_lt_zero _)) (k.b I)
      | cons p ps =>
        have hl := h4.length
        refine PySem.SeqAt.eq_list_lengthsAt h3.l h3'.l ?_ hR.u (k.b I)
        simp only [List.size_toArray, hl, List.length_cons, List.length_nil, bne_iff_ne, ne_eq]; omega
    · cases hb
  · rename_i nn d
    obtain ⟨a, dx, es, c, tn, td, rfl, e2, e3, IA, e5, e6⟩ := Rep.dbl_inst R1
    obtain ⟨m, F, hm⟩ := I.fr
    split at hb
    · rename_i hnum
      have ty : ∃ T, Looks g.M s.heap (typeOf cy) T ∧ notFirst g.K DC T = true := by
        cases y with
        | int i => unfold Rep at R2; obtain ⟨t, rfl⟩ := R2; exact ⟨.type "int", Looks.of_pure rfl, by kernel_rfl⟩
        | dbl i j => obtain ⟨a', dx', es', c', tn', td', rfl, _, _, IA', _⟩ := Rep.dbl_inst R2; exact ⟨_, IA'.type, by kernel_rfl⟩
        | _ => cases hnum
      obtain ⟨T, hT, hN⟩ := ty
      have h1 : ∀ {fk : Nat}, cf fk [.dbl nn d, y] st = some (v, st') → wpAny g.M A (call (.ref (fad fk)) [.ref a, cy]) (PySem.W.CmpBack Q) E s := fun hc => opcall (A := A) (E := E) C hR I hc (reps2 R1 R2) k
      cases o <;> simp only [reduceCtorEq] at hb
      · exact cmp_ofEq (cmp_K hR.u F g.KI IA hT hN (kf_eq _) (fn_of (by decide)) (h1 hb))
      · exact cmp_ofLt (cmp_K hR.u F g.KI IA hT hN (kf_lt _) (fn_of (by decide)) (h1 hb))
      · exact cmp_ofGt (cmp_K hR.u F g.KI IA hT hN (kf_gt _) (fn_of (by decide)) (h1 hb))
      · exact cmp_ofGtE (cmp_K hR.u F g.KI IA hT hN (kf_ge _) (fn_of (by decide)) (h1 hb))
    · cases hb
  · cases hb
end

section
variable {g : GC} {n : Nat} {sc : Scope} {names : List PySem.Str} {cf : CF} {e e₁ e₂ e₃ : Expr} {p p₁ p₂ p₃ : PE}

theorem ev_loc (N : NamesOK sc names) {i : Nat} {x : PySem.Str} {pos : Pos} (hx : names[i]? = some x) : EvOK g n sc names cf (.Name x pos) (.loc i) := by
  intro cn a ccd L W r st A s Q E v st' hR I he k
  unfold ev at he
  obtain ⟨v', hv, e⟩ := Option.map_eq_some_iff.mp he
  cases e
  obtain ⟨m, F, hm⟩ := I.fr
  obtain ⟨y, cv, h1, h2, h3⟩ := hm i _ hv
  rw [hx] at h1; cases h1
  exact nameX_L F h2 (k W s cv (Ext.refl _ _ _) I h3) N.kind (N.loc i x hx).1 (N.loc i x hx).2

theorem ev_int {i : Int} {kk : Nat} {pos : Pos} : EvOK g n sc names cf (.Constant (.int i) kk pos) (.lit (.int i)) := by
  intro cn a ccd L W r st A s Q E v st' hR I he k
  unfold ev at he; cases he
  exact wpAny_Constant_int (k.i I (Nat.le_add_left _ _))
theorem ev_str {i : PySem.Str} {kk : Nat} {pos : Pos} : EvOK g n sc names cf (.Constant (.str i) kk pos) (.lit (.str i)) := by
  intro cn a ccd L W r st A s Q E v st' hR I he k
  unfold ev at he; cases he
  exact wpAny_Constant_str (k.str I (Nat.le_add_left _ _))
theorem ev_sep {i : PySem.Str} {kk : Nat} {pos : Pos} : EvOK g n sc names cf (.Constant (.str i) kk pos) (.lit (.sep i)) := by
  intro cn a ccd L W r st A s Q E v st' hR I he k
  unfold ev at he; cases he
  exact wpAny_Constant_str (k.same I (Nat.le_add_left _ _) (by unfold Rep; exact ⟨_, rfl, Nat.ne_of_gt I.st.toks⟩))
theorem ev_bool {i : Bool} {kk : Nat} {pos : Pos} : EvOK g n sc names cf (.Constant (.bool i) kk pos) (.lit (.bool i)) := by
  intro cn a ccd L W r st A s Q E v st' hR I he k
  unfold ev at he; cases he
  exact wpAny_Constant_bool (k.b I)
theorem ev_none {kk : Nat} {pos : Pos} : EvOK g n sc names cf (.Constant .none kk pos) (.lit .none) := by
  intro cn a ccd L W r st A s Q E v st' hR I he k
  unfold ev at he; cases he
  exact wpAny_Constant_none (k W s _ (Ext.refl _ _ _) I (by unfold Rep; rfl))

theorem ev_fail : EvOK g n sc names cf e .fail := by
  intro cn a ccd L W r st A s Q E v st' hR I he k
  unfold ev at he; cases he

theorem ev_bin (C : CallOK g n fad cf) {o : Operator} {pos : Pos} (h1 : EvOK g n sc names cf e₁ p₁) (h2 : EvOK g n sc names cf e₂ p₂) : EvOK g n sc names cf (.BinOp e₁ o e₂ pos) (.bin o p₁ p₂) := by
  intro cn a ccd L W r st A s Q E v st' hR I he k
  unfold ev at he
  split at he
  · rename_i x st1 hx
    split at he
    · rename_i y st2 hy
      refine wpAny_BinOp (h1 cn a ccd L W r st A s _ E x st1 hR I hx fun W1 s1 c1 x1 I1 R1 => ?_)
      refine h2 cn a ccd L W1 r st1 A s1 _ E y st2 hR I1 hy fun W2 s2 c2 x2 I2 R2 => ?_
      exact bin_ok C hR he I2 (I1.rep x2 R1) R2 (k.later (Inv.trans x1 I1 x2) I2)
    · cases he
  · cases he

theorem ev_cmp (C : CallOK g n fad cf) {o : CmpOp} {pos : Pos} (hm : behindInMarks o e₂ = false) (h1 : EvOK g n sc names cf e₁ p₁) (h2 : EvOK g n sc names cf e₂ p₂) : EvOK g n sc names cf (.Compare e₁ [o] [e₂] pos) (.cmp o p₁ p₂) := by
  intro cn a ccd L W r st A s Q E v st' hR I he k
  unfold ev at he
  split at he
  · rename_i x st1 hx
    split at he
    · rename_i y st2 hy
      refine wpAny_Compare1 (h1 cn a ccd L W r st A s _ E x st1 hR I hx fun W1 s1 c1 x1 I1 R1 => ?_) hm
      refine h2 cn a ccd L W1 r st1 A s1 _ E y st2 hR I1 hy fun W2 s2 c2 x2 I2 R2 => ?_
      exact cmp_ok C hR he I2 (I1.rep x2 R1) R2 (k.later (Inv.trans x1 I1 x2) I2)
    · cases he
  · cases he

theorem truthy_ok {A : Around} {s : Shared} {Q : Bool → Shared → Prop} {E : Value → Shared → Prop} {L : Addr} {W : Wd} {r : Rho} {st : Store} {v : PVal} {cv : Value} {b : Bool} (I : Inv g L names W r st s) (R : Rep s.heap W v cv) (hb : truth v = some b) (k : Kb g L names W r st b Q s) :
    wpAny g.M A (truthy cv) Q E s := by
  refine wpAny_with_toks I.st.toks ?_
  cases v with
  | bool c =>
    unfold Rep at R; subst R
    simp only [truth, Option.some.injEq] at hb; subst hb
    exact fun _ _ _ => fun _ => k W s (Ext.refl _ _ _) I
  | int i =>
    unfold Rep at R; obtain ⟨t, rfl⟩ := R
    simp only [truth, Option.some.injEq] at hb; subst hb
    exact PySem.P.truthy_int fun _ => k W s (Ext.refl _ _ _) I
  | str y =>
    unfold Rep at R; obtain ⟨t, rfl⟩ := R
    simp only [truth] at hb
    split at hb
    · rename_i hl
      simp only [Option.some.injEq] at hb; subst hb
      refine PySem.P.truthy_str (by simp only [slim] at hl; omega) fun ht => ?_
      have e : ((y.length : Int) != 0) = (y.length != 0) := by rw [Bool.eq_iff_iff]; simp only [bne_iff_ne, ne_eq]; omega
      rw [e]
      exact k W _ (Ext.refl _ _ _) (I.setToks ht)
    · cases hb
  | _ => cases hb

theorem ts_cmp (C : CallOK g n fad cf) {o : CmpOp} {pos : Pos} (hm : behindInMarks o e₂ = false) (h1 : EvOK g n sc names cf e₁ p₁) (h2 : EvOK g n sc names cf e₂ p₂) : TsOK g n sc names cf (.Compare e₁ [o] [e₂] pos) (.cmp o p₁ p₂) := by
  intro cn a ccd L W r st A s Q E v st' b hR I he hb k
  unfold ev at he
  split at he
  · rename_i x st1 hx
    split at he
    · rename_i y st2 hy
      refine wpAny_isTrue_Compare1 (h1 cn a ccd L W r st A s _ E x st1 hR I hx fun W1 s1 c1 x1 I1 R1 => ?_) hm
      refine h2 cn a ccd L W1 r st1 A s1 _ E y st2 hR I1 hy fun W2 s2 c2 x2 I2 R2 => ?_
      have x12 := Inv.trans x1 I1 x2
      exact cmp_ok C hR he I2 (I1.rep x2 R1) R2 fun W3 s3 c3 x3 I3 R3 => truthy_ok I3 R3 hb (k.later (Inv.trans x12 I2 x3) I3)
    · cases he
  · cases he

theorem ev_neg {pos : Pos} (h1 : EvOK g n sc names cf e₁ p₁) : EvOK g n sc names cf (.UnaryOp .USub e₁ pos) (.neg p₁) := by
  intro cn a ccd L W r st A s Q E v st' hR I he k
  unfold ev at he
  split at he
  · rename_i x st1 hx
    cases he
    refine wpAny_UnaryOp (h1 cn a ccd L W r st A s _ E _ _ hR I hx fun W1 s1 c1 x1 I1 R1 => ?_)
    unfold Rep at R1; obtain ⟨t, rfl⟩ := R1
    exact P.neg_int ((k.later x1 I1).i I1 (Nat.le_add_left _ _))
  · cases he

theorem ev_not {pos : Pos} (h1 : EvOK g n sc names cf e₁ p₁) : EvOK g n sc names cf (.UnaryOp .Not e₁ pos) (.not_ p₁) := by
  intro cn a ccd L W r st A s Q E v st' hR I he k
  unfold ev at he
  split at he
  · rename_i x st1 hx
    obtain ⟨b, hb, e⟩ := Option.map_eq_some_iff.mp he
    cases e
    refine wpAny_UnaryOp (h1 cn a ccd L W r st A s _ E x _ hR I hx fun W1 s1 c1 x1 I1 R1 => not_of (truthy_ok I1 R1 hb fun W2 s2 x2 I2 => ?_))
    exact ((k.later x1 I1).later x2 I2).b I2
  · cases he
theorem ts_not {pos : Pos} (h1 : TsOK g n sc names cf e₁ p₁) : TsOK g n sc names cf (.UnaryOp .Not e₁ pos) (.not_ p₁) := by
  intro cn a ccd L W r st A s Q E v st' b hR I he hb k
  unfold ev at he
  split at he
  · rename_i x st1 hx
    obtain ⟨b', hb', e⟩ := Option.map_eq_some_iff.mp he
    cases e
    cases hb
    exact isTrue_not (h1 cn a ccd L W r st A s _ E x _ b' hR I hx hb' fun W2 s2 x2 I2 => k W2 s2 x2 I2)
  · cases he

theorem ev_bop {o : BoolOp} {pos : Pos} (h1 : EvOK g n sc names cf e₁ p₁) (h2 : EvOK g n sc names cf e₂ p₂) : EvOK g n sc names cf (.BoolOp o [e₁, e₂] pos) (.bop o p₁ p₂) := by
  intro cn a ccd L W r st A s Q E v st' hR I he k
  unfold ev at he
  split at he
  · rename_i x st1 hx
    cases o with
    | And =>
      refine BoolOp_and (h1 cn a ccd L W r st A s _ E x st1 hR I hx fun W1 s1 c1 x1 I1 R1 => ?_)
      cases hb : truth x with
      | none => rw [hb] at he; cases he
      | some b =>
        rw [hb] at he
        refine truthy_ok I1 R1 hb fun W2 s2 x2 I2 => ?_
        cases b with
        | true =>
          rw [if_pos rfl]
          exact BoolOp_one (h2 cn a ccd L W2 r _ A s2 _ E v st' hR I2 he ((k.later x1 I1).later x2 I2))
        | false =>
          rw [if_neg (by decide)]
          cases he
          exact ((k.later x1 I1).later x2 I2) W2 s2 _ (Ext.refl _ _ _) I2 (I1.rep x2 R1)
    | Or =>
      refine BoolOp_or (h1 cn a ccd L W r st A s _ E x st1 hR I hx fun W1 s1 c1 x1 I1 R1 => ?_)
      cases hb : truth x with
      | none => rw [hb] at he; cases he
      | some b =>
        rw [hb] at he
        refine truthy_ok I1 R1 hb fun W2 s2 x2 I2 => ?_
        cases b with
        | false =>
          rw [if_neg (by decide)]
          exact BoolOp_one (h2 cn a ccd L W2 r _ A s2 _ E v st' hR I2 he ((k.later x1 I1).later x2 I2))
        | true =>
          rw [if_pos rfl]
          cases he
          exact ((k.later x1 I1).later x2 I2) W2 s2 _ (Ext.refl _ _ _) I2 (I1.rep x2 R1)
  · cases he

theorem ts_bop {o : BoolOp} {pos : Pos} (h1 : TsOK g n sc names cf e₁ p₁) (h2 : TsOK g n sc names cf e₂ p₂) : TsOK g n sc names cf (.BoolOp o [e₁, e₂] pos) (.bop o p₁ p₂) := by
  intro cn a ccd L W r st A s Q E v st' b hR I he hb k
  unfold ev at he
  split at he
  · rename_i x st1 hx
    cases hc : truth x with
    | none => rw [hc] at he; cases o <;> cases he
    | some c =>
      rw [hc] at he
      cases o with
      | And =>
        refine isTrue_and (h1 cn a ccd L W r st A s _ E x st1 c hR I hx hc fun W1 s1 x1 I1 => ?_)
        cases c with
        | true =>
          rw [if_pos rfl]
          refine isTrue_and (h2 cn a ccd L W1 r st1 A s1 _ E v st' b hR I1 he hb fun W2 s2 x2 I2 => ?_)
          have q := (k.later x1 I1) W2 s2 x2 I2
          cases b
          · exact q
          · exact isTrue_and_nil q
        | false =>
          rw [if_neg (by decide)]
          cases he
          rw [hc] at hb; cases hb
          exact k W1 s1 x1 I1
      | Or =>
        refine isTrue_or (h1 cn a ccd L W r st A s _ E x st1 c hR I hx hc fun W1 s1 x1 I1 => ?_)
        cases c with
        | false =>
          rw [if_neg (by decide)]
          refine isTrue_or (h2 cn a ccd L W1 r st1 A s1 _ E v st' b hR I1 he hb fun W2 s2 x2 I2 => ?_)
          have q := (k.later x1 I1) W2 s2 x2 I2
          cases b
          · exact isTrue_or_nil q
          · exact q
        | true =>
          rw [if_pos rfl]
          cases he
          rw [hc] at hb; cases hb
          exact k W1 s1 x1 I1
  · cases he

theorem ev_ite {pos : Pos} (h1 : TsOK g n sc names cf e₁ p₁) (h2 : EvOK g n sc names cf e₂ p₂) (h3 : EvOK g n sc names cf e₃ p₃) : EvOK g n sc names cf (.IfExp e₁ e₂ e₃ pos) (.ite p₁ p₂ p₃) := by
  intro cn a ccd L W r st A s Q E v st' hR I he k
  unfold ev at he
  split at he
  · rename_i x st1 hx
    split at he
    · rename_i hb
      refine wpAny_IfExp (h1 cn a ccd L W r st A s _ E x st1 true hR I hx hb fun W1 s1 x1 I1 => ?_)
      rw [if_pos rfl]
      exact h2 cn a ccd L W1 r st1 A s1 _ E v st' hR I1 he (k.later x1 I1)
    · rename_i hb
      refine wpAny_IfExp (h1 cn a ccd L W r st A s _ E x st1 false hR I hx hb fun W1 s1 x1 I1 => ?_)
      rw [if_neg (by decide)]
      exact h3 cn a ccd L W1 r st1 A s1 _ E v st' hR I1 he (k.later x1 I1)
    · cases he
  · cases he
theorem ts_ite {pos : Pos} (h1 : TsOK g n sc names cf e₁ p₁) (h2 : TsOK g n sc names cf e₂ p₂) (h3 : TsOK g n sc names cf e₃ p₃) : TsOK g n sc names cf (.IfExp e₁ e₂ e₃ pos) (.ite p₁ p₂ p₃) := by
  intro cn a ccd L W r st A s Q E v st' b hR I he hb' k
  unfold ev at he
  split at he
  · rename_i x st1 hx
    split at he
    · rename_i hb
      refine isTrue_IfExp (h1 cn a ccd L W r st A s _ E x st1 true hR I hx hb fun W1 s1 x1 I1 => ?_)
      rw [if_pos rfl]
      exact h2 cn a ccd L W1 r st1 A s1 _ E v st' b hR I1 he hb' (k.later x1 I1)
    · rename_i hb
      refine isTrue_IfExp (h1 cn a ccd L W r st A s _ E x st1 false hR I hx hb fun W1 s1 x1 I1 => ?_)
      rw [if_neg (by decide)]
      exact h3 cn a ccd L W1 r st1 A s1 _ E v st' b hR I1 he hb' (k.later x1 I1)
    · cases he
  · cases he
end
end Mine
end
section
open PySem PySem.W PyProof.Rows
set_option Elab.async false
set_option maxRecDepth 100000
namespace Mine

section
variable {g : GC} {n : Nat} {sc : Scope} {names : List PySem.Str} {cf : CF} {e e₁ e₂ e₃ : Expr} {es : List Expr} {p p₁ p₂ p₃ ps : PE}

theorem es_nil : EsOK g n sc names cf [] .nil := by
  refine ⟨fun _ _ => rfl, fun cn a ccd L W r st A s Q E pos l st' hR I he k => ?_⟩
  unfold evs at he; cases he
  exact Calls.spliced_nil (k W s [] (Ext.refl _ _ _) I (by unfold Reps; rfl))

theorem es_cons (hs : ∀ env, starEach (e :: es) env = (false, eval e env) :: starEach es env) (h1 : EvOK g n sc names cf e p) (h2 : EsOK g n sc names cf es ps) : EsOK g n sc names cf (e :: es) (.cons p ps) := by
  refine ⟨fun h env => ?_, fun cn a ccd L W r st A s Q E pos l st' hR I he k => ?_⟩
  · rw [hs, List.any_cons, Bool.false_or]
    exact h2.1 h env
  unfold evs at he
  split at he
  · rename_i v st1 hv
    split at he
    · rename_i l' st2 hl
      cases he
      rw [hs]
      refine Calls.spliced_cons (h1 cn a ccd L W r st A s _ E v st1 hR I hv fun W1 s1 c1 x1 I1 R1 => ?_)
      refine h2.2 cn a ccd L W1 r st1 A s1 _ E pos l' _ hR I1 hl fun W2 s2 vs x2 I2 R2 => ?_
      exact k W2 s2 _ (Inv.trans x1 I1 x2) I2 (by unfold Reps; exact ⟨_, _, rfl, I1.rep x2 R1, R2⟩)
    · cases he
  · cases he
theorem es_fail : EsOK g n sc names cf es .fail := ⟨(fun h => by cases h), fun cn a ccd L W r st A s Q E pos l st' hR I he k => by unfold evs at he; cases he⟩

/-- a new object upon the heap -/
theorem Inv.pushed {L : Addr} {W : Wd} {r : Rho} {st : Store} {s : Shared} (I : Inv g L names W r st s) (o : Obj) (hf : o.isFreed = false) {k : Nat} (hk : 1 ≤ k) :
    Ext [L] W W s.heap (s.heap.push o) ∧ Inv g L names W r st { s with heap := s.heap.push o, toks := k } ∧ (s.heap.push o).get? s.heap.objs.size = some o ∧ s.heap.objs.size ∉ W.X := by
  obtain ⟨m, F, hm⟩ := I.fr
  have N := full_news g.base s.heap L
  obtain ⟨x, I'⟩ := I.led (extra := [(s.heap.objs.size, o)]) (k := k) F hm (F.push o) (N.push F o hf) hk
  exact ⟨x, I', Heap.get?_push_size _ hf, I.fresh (get?_size _)⟩

theorem ev_tup {pos : Pos} {kk : Nat} (h1 : EsOK g n sc names cf es ps) : EvOK g n sc names cf (.Tuple es kk pos) (.tup ps) := by
  intro cn a ccd L W r st A s Q E v st' hR I he k
  unfold ev at he
  split at he
  · rename_i l st1 hl
    split at he
    · rename_i hsz
      cases he
      refine Tuple_ (h1.2 cn a ccd L W r st A s _ E _ l _ hR I hl fun W1 s1 vs x1 I1 R1 => ?_)
      obtain ⟨x2, I2, e1, e2⟩ := I1.pushed { cls := .type "tuple", data := .seq vs.toArray } rfl I1.st.toks
      exact wpAny_newTuple (k W1 _ _ (Inv.trans x1 I1 (s₂ := { s1 with heap := s1.heap.push _, toks := s1.toks }) x2) I2 (by
        unfold Rep; exact ⟨_, vs, rfl, e2, ⟨_, e1, rfl, _, rfl⟩, I1.reps (s₁ := { s1 with heap := s1.heap.push _, toks := s1.toks }) x2 R1⟩)) (by rw [R1.length, sizeLine_eq]; simp only [slim] at hsz; omega)
    · cases he
  · cases he
theorem ev_lst {pos : Pos} (h1 : EsOK g n sc names cf es ps) : EvOK g n sc names cf (.List es pos) (.lst ps) := by
  intro cn a ccd L W r st A s Q E v st' hR I he k
  unfold ev at he
  split at he
  · rename_i l st1 hl
    split at he
    · rename_i hsz
      cases he
      refine List_ (h1.2 cn a ccd L W r st A s _ E _ l _ hR I hl fun W1 s1 vs x1 I1 R1 => ?_)
      obtain ⟨x2, I2, e1, e2⟩ := I1.pushed { cls := .type "list", data := .seq vs.toArray } rfl I1.st.toks
      exact wpAny_newList (k W1 _ _ (Inv.trans x1 I1 (s₂ := { s1 with heap := s1.heap.push _, toks := s1.toks }) x2) I2 (by
        unfold Rep; exact ⟨_, vs, rfl, e2, .inl ⟨0, e1⟩, I1.reps (s₁ := { s1 with heap := s1.heap.push _, toks := s1.toks }) x2 R1⟩)) (by rw [R1.length, sizeLine_eq]; simp only [slim] at hsz; omega)
    · cases he
  · cases he

/-- a call: the callee's name, the arguments, the call -/
theorem evalArgs_any {M : Model} {A : Around} {E : Value → Shared → Prop} {s : Shared} {f : Value} {args : List (Bool × Sem Value)} {Q : Args → Shared → Prop} (hp : args.any (·.1) = false)
    (h : wpAny M A (spliced args) (fun vs s' => Q ⟨vs, []⟩ s') E s) : wpAny M A (evalArgs f true args []) Q E s := by
  cases args with
  | nil =>
    unfold evalArgs
    show wpAny M A (spliced [] >>= _) Q E s
    refine wpAny_bind (wpAny_mono h (fun vs s' h' => wpAny_bind (wpAny_pure ?_)) fun _ _ x => x)
    refine wpAny_holding ?_
    exact wpAny_bind (wpAny_pure (wpAny_bind (wpAny_pure (wpAny_pure h'))))
  | cons x rest =>
    obtain ⟨b, t⟩ := x
    rw [List.any_cons, Bool.or_eq_false_iff] at hp
    obtain rfl : b = false := hp.1
    exact Calls.evalArgs_plain h

theorem backTo_plain {pos : Pos} {l : List (Bool × Sem Value)} (h : l.any (·.1) = false) : (backTo pos l).any (·.1) = false := by
  unfold backTo
  rw [List.any_map]
  exact h

/-- the frame of every call by a plain name -/
theorem call_of {A : Around} {s : Shared} {Q E : Value → Shared → Prop} {L : Addr} {W : Wd} {r : Rho} {st st' : Store} {cn : PySem.Str} {a : Addr} {ccd : Value} {fx : PySem.Str} {fpos : Pos} {fv : Value} {pos : Pos} {l : List PVal}
    (hR : Room (2 * n + 1) A) (I : Inv g L names W r st s) (h1 : EsOK g n sc names cf es ps) (he : evs cf ps r st = some (l, st'))
    (hn : ∀ Q' : Value → Shared → Prop, Q' fv s → wpAny g.M A (eval (.Name fx fpos) (envX cn sc L a ccd [])) Q' E s)
    (hk : ∀ h, g.K.In h → ∃ k, (k = Keeper.frame ∨ k = Keeper.machine ∨ k = Keeper.boundFrame) ∧ Looks g.M h (keeperOf fv) k)
    (k : ∀ W' s' vs, Ext [L] W W' s.heap s'.heap → Inv g L names W' r st' s' → Reps s'.heap W' l vs → wpAny g.M A (call fv vs) Q E s') :
    wpAny g.M A (eval (.Call (.Name fx fpos) es [] pos) (envX cn sc L a ccd [])) Q E s := by
  have e : eval (.Call (.Name fx fpos) es [] pos) (envX cn sc L a ccd []) = (do callWith pos (← eval (.Name fx fpos) (envX cn sc L a ccd [])) [] (backTo pos (starEach es (envX cn sc L a ccd []))) (backToKw pos (keywordEach [] (envX cn sc L a ccd [])))) := by
    rfl
  rw [e]
  refine wpAny_bind (hn _ ?_)
  have hp := backTo_plain (pos := pos) (h1.1 (evs_isL _ _ _ _ he) (envX cn sc L a ccd []))
  refine callWith_of (P := fun h => g.K.In h) (by rw [hp]; rfl) hk (evalArgs_any hp ?_)
  refine h1.2 cn a ccd L W r st A s _ E pos l st' hR I he fun W' s' vs x' I' R' => ⟨I'.st.KIn, ?_⟩
  exact k W' s' vs x' I' R'

theorem keeps_builtin {id : String} (h : Heap) (_ : g.K.In h) : ∃ k, (k = Keeper.frame ∨ k = Keeper.machine ∨ k = Keeper.boundFrame) ∧ Looks g.M h (keeperOf (.builtin id)) k := ⟨_, .inr (.inl rfl), Looks.of_pure rfl⟩
theorem keeps_type {id : String} (h : Heap) (_ : g.K.In h) : ∃ k, (k = Keeper.frame ∨ k = Keeper.machine ∨ k = Keeper.boundFrame) ∧ Looks g.M h (keeperOf (.type id)) k := ⟨_, .inr (.inl rfl), Looks.of_pure rfl⟩

/-- the text's defs by their names -/
theorem ev_call (C : CallOK g n fad cf) {x : PySem.Str} {px pos : Pos} {k : Nat} (hl : sc.names.lookup x = some .globalImplicit) (hkd : sc.kind = .function) (hd : (x == ("__debug__" : PySem.Str)) = false)
    (hx : ∀ P, nsIn (KK P) mainGlobals x = some (some (.ref (fad k)))) (hkeep : ∀ P, keepIn (KK P) (.ref (fad k)) = true)
    (h1 : EsOK g n sc names cf es ps) : EvOK g n sc names cf (.Call (.Name x px) es [] pos) (.call k ps) := by
  intro cn a ccd L W r st A s Q E v st' hR I he kq
  unfold ev at he
  split at he
  · rename_i l st1 hl'
    obtain ⟨m, F, hm⟩ := I.fr
    refine call_of (fv := .ref (fad k)) hR I h1 hl' (fun Q' q => nameX_K F g.KI (topRead_of g.T) (hx _) q hkd hl hd) (fun h X => keeps_K (hkeep _) h X) fun W' s' vs x' I' R' => ?_
    refine wpAny_call (C k W' st1 A s' Q E l vs v st' hR.down I'.st R' he fun W2 s2 cv x2 S2 R2 => ?_)
    exact kq W2 s2 cv (Inv.trans x' I' x2.more) (I'.step x2 S2) R2
  · cases he
end
end Mine
end
section
open PySem PySem.W PyProof.Rows
set_option Elab.async false
set_option maxRecDepth 100000
namespace Mine

theorem int_new_ref {prog : Program} {w : World} {K : Frag} {x C f : Addr} {ox : Obj} {od : Option Obj} (hs : findIn K (.ref C) "__int__" = some (some (.ref f))) (hf : isFn K (.ref f) = true) :
    MeetsIn prog w (Builtin.«int.__new__» ⟨[.type "int", .ref x], []⟩) (fun A R s => K.In s.heap ∧ InstAt s.heap x ox C od ∧
      wpAny (model prog w) A.in1 (call (.ref f) [.ref x]) (fun v s' => ∃ i t, v = .int i t ∧ R (.ok (.ret v)) s') (fun e s' => R (.error e) s') s) :=
  fun A R s ⟨X, I, h⟩ => by
    obtain ⟨hp, g, d, tk, os⟩ := s
    have f1 := F.conv_sub_int
    have f2 := F.madeHere_int
    repeat (any_goals (first
      | assumption
      | ((with_reducible show wpAny _ _ (callSpecial? (.ref x) _ _) _ _ _); refine special_fn X I hs (beq_iff_eq.mp hf) (wpAny_mono h (fun v s' hv => ?_) fun _ _ e => e); obtain ⟨i, t, rfl, hR⟩ := hv)
      | ((with_reducible show wpAny _ _ (callSpecial? (.ref x) _) _ _ _); refine special_fn X I hs (beq_iff_eq.mp hf) (wpAny_mono h (fun v s' hv => ?_) fun _ _ e => e); obtain ⟨i, t, rfl, hR⟩ := hv)
      | wp_step))
    all_goals first | exact ⟨_, rfl, hR⟩ | skip

theorem nat_abs_if (a : Int) : (if a < 0 then -a else a) = (a.natAbs : Int) := by split <;> omega
theorem min_if (a b : Int) : (if b < a then b else a) = min a b := by split <;> omega
theorem max_if (a b : Int) : (if b > a then b else a) = max a b := by split <;> omega

section
variable {g : GC} {n : Nat} {names : List PySem.Str} {cf : CF} {A : Around} {s : Shared} {Q E : Value → Shared → Prop} {L : Addr} {W : Wd} {r : Rho} {st st' : Store} {x y v : PVal} {cx cy : Value}

theorem reps1_inv {h : Heap} {vs : List Value} (R : Reps h W [x] vs) : ∃ c, vs = [c] ∧ Rep h W x c := by
  unfold Reps at R
  obtain ⟨c, rr, rfl, e2, e3⟩ := R
  unfold Reps at e3; subst e3
  exact ⟨c, rfl, e2⟩
theorem reps2_inv {h : Heap} {vs : List Value} (R : Reps h W [x, y] vs) : ∃ c d, vs = [c, d] ∧ Rep h W x c ∧ Rep h W y d := by
  unfold Reps at R
  obtain ⟨c, rr, rfl, e2, e3⟩ := R
  obtain ⟨d, rfl, e4⟩ := reps1_inv e3
  exact ⟨c, d, rfl, e2, e4⟩

def biV : Bi → Value
  | .divmod => .builtin "divmod" | .min => .builtin "min" | .max => .builtin "max" | .abs => .builtin "abs" | .len => .builtin "len"
  | .int => .type "int" | .str => .type "str" | .bisect => .builtin "_bisect.bisect_right"

theorem fit_log {z : Int} (h : fit z = true) : z.natAbs.log2 < 1920 := Nat.lt_trans (log2_lt_of (fit_lt h) (by decide)) (by decide)

theorem int_dbl_ok (C : CallOK g n fad cf) (hR : Room (2 * n + 1) A) {nn d : Int} (hb : cf fInt [.dbl nn d] st = some (v, st')) (hi : ∃ i, v = .int i) (I : Inv g L names W r st s) (R : Rep s.heap W (.dbl nn d) cx) (k : Ko g L names W r st' v Q s) :
    wpAny g.M A (call (.type "int") [cx]) Q E s := by
  obtain ⟨a, dx, es, c, tn, td, rfl, e2, e3, IA, e5, e6⟩ := Rep.dbl_inst R
  obtain ⟨i, rfl⟩ := hi
  refine callType_newIn F.called_int F.newNe_int (F.typeCall_int_1 _) (F.newCall_int_1 _) (fun obj => F.args_object_init_2 obj _) F.entry_int_new (int_new_ref (K := g.K) (od := some (dictOf es c)) (kf_int _) (fn_of (by decide))) ⟨I.st.KIn, IA, ?_⟩
  refine wpAny_call (C fInt W st A.in1.in1 s (fun v s' => ∃ i t, v = Value.int i t ∧ _) _ [.dbl nn d] _ (.int i) st' hR.down I.st (reps1 R) hb fun W' s' cv x' S' R' => ?_)
  unfold Rep at R'
  obtain ⟨t, rfl⟩ := R'
  exact ⟨i, t, rfl, rfl, k W' s' _ x'.more (I.step x' S') (by unfold Rep; exact ⟨t, rfl⟩)⟩

theorem tup_of_ledger {h' : Heap} {m : PySem.Str → Option Value} {F : Fr g.base L s.heap m} {vs : List Value} {l : List PVal} (I : Inv g L names W r st s)
    (N' : News g.base L h' ((s.heap.objs.size, { cls := .type "tuple", data := .seq vs.toArray }) :: full g.base L s.heap)) (R : Reps h' W l vs) : Rep h' W (.tup l) (.ref s.heap.objs.size) := by
  unfold Rep
  exact ⟨_, vs, rfl, I.fresh (get?_size _), ⟨_, (N' _ (List.mem_cons_self ..)).1, rfl, _, rfl⟩, R⟩

theorem bi_ok (C : CallOK g n fad cf) (hR : Room (2 * n + 1) A) {b : Bi} (hbs : b ≠ .bisect) {l : List PVal} {vs : List Value} (hb : biP cf b l st = some (v, st')) (I : Inv g L names W r st s) (R : Reps s.heap W l vs) (k : Ko g L names W r st' v Q s) :
    wpAny g.M A (call (biV b) vs) Q E s := by
  obtain ⟨m, F, hm⟩ := I.fr
  have N := full_news g.base s.heap L
  unfold biP at hb
  split at hb
  · rename_i a c
    split at hb
    · rename_i hc
      cases hb
      obtain ⟨x1, x2, rfl, R1, R2⟩ := reps2_inv R
      unfold Rep at R1 R2
      obtain ⟨t, rfl⟩ := R1
      obtain ⟨u, rfl⟩ := R2
      refine divmod_N F N hc.1 (fun h' F' N' => ?_) (.inl (fit_nopy hc.2))
      obtain ⟨x', I'⟩ := I.led (extra := [(_, _)]) (k := s.toks + 1 + 1) F hm F' N' (by omega)
      exact k W _ _ x' I' (tup_of_ledger (F := F) (vs := [_, _]) I N' (reps2 (by unfold Rep; exact ⟨_, rfl⟩) (by unfold Rep; exact ⟨_, rfl⟩)))
    · cases hb
  · cases hb
    obtain ⟨x1, x2, rfl, R1, R2⟩ := reps2_inv R
    unfold Rep at R1 R2
    obtain ⟨t, rfl⟩ := R1
    obtain ⟨u, rfl⟩ := R2
    refine wpAny_with_toks I.st.toks (min_two_N hR.handled F N fun h' tk F' N' ht => ?_)
    obtain ⟨x', I'⟩ := I.led (extra := []) F hm F' N' ht
    exact k W _ _ x' I' (by unfold Rep; exact ⟨_, by rw [min_if]⟩)
  · cases hb
    obtain ⟨x1, x2, rfl, R1, R2⟩ := reps2_inv R
    unfold Rep at R1 R2
    obtain ⟨t, rfl⟩ := R1
    obtain ⟨u, rfl⟩ := R2
    refine wpAny_with_toks I.st.toks (max_two_N hR.handled F N fun h' tk F' N' ht => ?_)
    obtain ⟨x', I'⟩ := I.led (extra := []) F hm F' N' ht
    exact k W _ _ x' I' (by unfold Rep; exact ⟨_, by rw [max_if]⟩)
  · cases hb
    obtain ⟨x1, rfl, R1⟩ := reps1_inv R
    unfold Rep at R1
    obtain ⟨t, rfl⟩ := R1
    refine wpAny_with_toks I.st.toks (call_abs_int fun u tk ht => ?_)
    rw [nat_abs_if]
    exact k.i I ht
  · cases hb
    obtain ⟨x1, rfl, R1⟩ := reps1_inv R
    have R1' := R1
    unfold Rep at R1
    obtain ⟨t, rfl⟩ := R1
    exact call_int_int (k W s _ (Ext.refl _ _ _) I R1')
  · split at hb
    · rename_i hl
      obtain ⟨z, hz, e⟩ := Option.map_eq_some_iff.mp hb
      cases e
      obtain ⟨x1, rfl, R1⟩ := reps1_inv R
      unfold Rep at R1
      obtain ⟨t, rfl⟩ := R1
      exact KIN.call_text hz hl (k.i I (Nat.le_add_left _ _))
    · cases hb
  · split at hb
    · rename_i i st2 hc
      cases hb
      obtain ⟨x1, rfl, R1⟩ := reps1_inv R
      exact int_dbl_ok C hR hc ⟨i, rfl⟩ I R1 k
    · cases hb
  · split at hb
    · rename_i hf
      cases hb
      obtain ⟨x1, rfl, R1⟩ := reps1_inv R
      unfold Rep at R1
      obtain ⟨t, rfl⟩ := R1
      exact P.str_of_int (fit_log hf) (k.str I (Nat.le_add_left _ _))
    · cases hb
  · split at hb
    · rename_i hl
      cases hb
      obtain ⟨x1, rfl, R1⟩ := reps1_inv R
      unfold Rep at R1
      obtain ⟨t, rfl⟩ := R1
      exact PySem.P.len_str (by simp only [slim] at hl; omega) (k.i I (by omega))
    · cases hb
  · split at hb
    · rename_i hl
      cases hb
      obtain ⟨x1, rfl, R1⟩ := reps1_inv R
      unfold Rep at R1
      obtain ⟨a, vs, rfl, h2, h3, h4⟩ := R1
      have e := h4.length
      refine len_list h3.l (by rw [List.size_toArray, e]; simp only [slim] at hl; omega) ?_
      rw [List.size_toArray, e]
      exact k.i I (by omega)
    · cases hb
  · split at hb
    · rename_i l' hl'
      split at hb
      · rename_i hl
        cases hb
        obtain ⟨x1, rfl, R1⟩ := reps1_inv R
        unfold Rep at R1
        obtain ⟨a, rfl, h2⟩ := R1
        obtain ⟨a', vs, h3, h4, h5⟩ := I.st.cells _ _ hl'
        rw [h2] at h3; cases h3
        have e := h5.length
        refine len_list h4.l (by rw [List.size_toArray, e]; simp only [slim] at hl; omega) ?_
        rw [List.size_toArray, e]
        exact k.i I (by omega)
      · cases hb
    · cases hb
  · exact absurd rfl hbs
  · cases hb
end
end Mine
end
section
open PySem PySem.W PyProof.Rows
set_option Elab.async false
set_option maxRecDepth 100000
namespace Mine

theorem kind_bis : builtinKind "_bisect.bisect_right" = none := by decide +kernel
theorem plain_bis : plainId "_bisect.bisect_right" = true := by decide +kernel
theorem entry_bis : entryFor table "_bisect.bisect_right" = some Builtin.«_bisect.bisect_right» := entryFor_of_fast (by kernel_rfl)
theorem args_bis (a b : Value) : argsOk "_bisect.bisect_right" ⟨[a, b], []⟩ := by unfold argsOk; kernel_rfl
theorem entry_bisl : entryFor table "_bisect.bisect_right.loop" = some Builtin.«_bisect.bisect_right.loop» := entryFor_of_fast (by kernel_rfl)

theorem ints_get {vs : List Value} {ns : List Int} (h : IntsAre vs ns) : ∀ (i : Nat) {y : Int}, ns[i]? = some y → ∃ t, vs[i]? = some (.int y t) := by
  induction h with
  | nil => intro i y e; simp at e
  | cons n t _ ih =>
    intro i y e
    cases i with
    | zero => simp at e; subst e; exact ⟨t, rfl⟩
    | succ i => simpa using ih i (by simpa using e)

theorem special_item {prog : Program} {w : World} {A : Around} {E : Value → Shared → Prop} {s : Shared} {l : Addr} {items : Array Value} {k : Int} {t : Tok} {x : Value} {Q : Option Value → Shared → Prop} (hl : s.heap.IsList l items)
    (h0 : 0 ≤ k) (hfit : k < 2 ^ 63) (hx : items[k.toNat]? = some x) (h : Q (some x) s) : wpAny (model prog w) A (callSpecial? (.ref l) "__getitem__" [.int k t]) Q E s := by
  obtain ⟨o, ho, hc, ne, hd⟩ := id hl
  refine wpAny_callSpecial?_slot (name := Str.ofString "__getitem__") hl.typeIs slot_list_getitem
    (wpAny_call_entry slot_list_getitem hl.typeIs entry_list_getitem ?_ (args_list_getitem _ _))
  show wpAny _ _ (Builtin.List.listSubscript? (.int k t) >>= _) _ _ s
  refine wpAny_bind (wpAny_listSubscript_int (fitsIndex_of h0 hfit) ?_)
  clear hfit
  obtain ⟨j, rfl⟩ := Int.eq_ofNat_of_zero_le h0
  have hx' : items[j]? = some x := hx
  show wpAny _ _ ((seqItemAt l j >>= fun r => pure (r.map (j, ·))) >>= _) _ _ s
  refine wpAny_bind (wpAny_bind (wpAny_seqItemAt ho hd (wpAny_pure ?_)))
  rw [hx']
  first
    | exact wpAny_bind (wpAny_pure (wpAny_pure ⟨x, rfl, h⟩))
    | exact wpAny_pure ⟨x, rfl, h⟩

/-- the loop -/
theorem bis_loop {prog : Program} {w : World} {a : Addr} {vs : List Value} {ns : List Int} {x : Int} {u : Tok} (hI : IntsAre vs ns) (hsz : ns.length ≤ 100) :
    ∀ (fuel lo hi : Nat) (A : Around) (R : Result → Shared → Prop) (s : Shared), hi ≤ lo + fuel → hi ≤ ns.length → A.units + 10 < cLine → s.heap.IsList a vs.toArray →
      (∀ t k, R (.ok (.ret (.int (bisGo ns x fuel lo hi : Nat) t))) { s with toks := k }) →
      codeAny (model prog w) A (.builtin "_bisect.bisect_right.loop" ⟨[.ref a, .int x u, rawInt lo, rawInt hi, .none, .bool true, .bool true, rawInt 0], []⟩) R s := by
  intro fuel
  induction fuel with
  | zero =>
    intro lo hi A R s h1 h2 hu hl h
    refine codeAny_builtin entry_bisl ?_
    unfold Builtin.«_bisect.bisect_right.loop»
    have hlt : ¬ ((lo : Int) < (hi : Int)) := by omega
    show wpAny _ _ (if (lo : Int) < (hi : Int) then _ else _) _ _ _
    rw [if_neg hlt]
    obtain ⟨hp, g, d, tk, os⟩ := s
    exact fun _ _ _ => h _ _
  | succ n ih =>
    intro lo hi A R s h1 h2 hu hl h
    refine codeAny_builtin entry_bisl ?_
    unfold Builtin.«_bisect.bisect_right.loop»
    show wpAny _ _ (if (lo : Int) < (hi : Int) then _ else _) _ _ _
    by_cases hlt : lo < hi
    · have hlt' : (lo : Int) < (hi : Int) := by omega
      rw [if_pos hlt']
      have hmid : ((lo : Int) + (hi : Int)) / 2 = (((lo + hi) / 2 : Nat) : Int) := by omega
      have hm : (lo + hi) / 2 < ns.length := by omega
      obtain ⟨t, ht⟩ := ints_get hI ((lo + hi) / 2) (List.getElem?_eq_getElem hm)
      dsimp only
      rw [hmid]
      refine wpAny_bind (wpAny_mkInt (wpAny_bind (special_item hl (by omega) (by omega) (by rw [Int.toNat_natCast]; simpa using ht) ?_)))
      simp only [beq_self_eq_true, if_true]
      refine wpAny_bind (wpAny_pure (wpAny_holding (wpAny_bind (wpAny_pure (wpAny_bind (wpAny_pure ?_))))))
      simp only [beq_self_eq_true, if_true]
      refine wpAny_bind (wpAny_cRoomFor_byValue rfl (wpAny_bind (wpAny_callSpecialIfBound?_slot (T := "int") (name := Str.ofString "__lt__") (typeIs_int _ _ _) F.slot_int_lt (call_gives F.slot_int_lt (typeIs_int _ _ _) F.entry_int_lt (F.args_int_lt_2 _ _) (gives_int_lt _ _ _ _) ?_))))
      have e : bisGo ns x (n + 1) lo hi = if x < ns[(lo + hi) / 2] then bisGo ns x n lo ((lo + hi) / 2) else bisGo ns x n ((lo + hi) / 2 + 1) hi := by
        conv => lhs; unfold bisGo
        rw [if_pos hlt, List.getElem?_eq_getElem hm]
      rw [e] at h
      refine wpAny_bind (wpAny_truthy_bool (wpAny_bind (wpAny_pure ?_)))
      by_cases hc : x < ns[(lo + hi) / 2]
      · rw [if_pos hc] at h
        simp only [hc, decide_true, beq_self_eq_true, if_true]
        refine wpAny_pure ⟨Code.quiet_builtin _ (by decide +kernel), ih lo ((lo + hi) / 2) A R _ (by omega) (by omega) hu hl fun t k => h t k⟩
      · rw [if_neg hc] at h
        simp only [hc, decide_false]
        rw [if_neg (by decide)]
        have e1 : (((lo + hi) / 2 : Nat) : Int) + 1 = (((lo + hi) / 2 + 1 : Nat) : Int) := by omega
        refine wpAny_pure ⟨Code.quiet_builtin _ (by decide +kernel), ?_⟩
        rw [e1]
        exact ih ((lo + hi) / 2 + 1) hi A R _ (by omega) h2 hu hl fun t k => h t k
    · have hlt' : ¬ ((lo : Int) < (hi : Int)) := by omega
      rw [if_neg hlt']
      obtain ⟨hp, g, d, tk, os⟩ := s
      have := h 0 tk
      have e : bisGo ns x (n + 1) lo hi = lo := by unfold bisGo; rw [if_neg hlt]
      rw [e] at h
      exact fun _ _ _ => h _ _

theorem run_len {prog : Program} {w : World} {A : Around} {E : Value → Shared → Prop} {s : Shared} {l : Addr} {items : Array Value} {Q : Value → Shared → Prop} (hl : s.heap.IsList l items) (hfit : (items.size : Int) < 2 ^ 63)
    (h : Q (.int items.size (s.toks + 1)) { s with toks := s.toks + 1 + 1 }) : wpAny (model prog w) A (runValue (.builtin "len" ⟨[.ref l], []⟩)) Q E s := by
  obtain ⟨o, ho, hc, n, hd⟩ := id hl
  refine wpAny_runValue (codeAny_builtin entry_len ?_)
  unfold Builtin.«len»
  refine wpAny_bind (m := oneArg "len" _) (wpAny_pure ?_)
  refine wpAny_bind (m := callSpecial? (.ref l) (PySem.Str.ofString "__len__")) (wpAny_callSpecial?_slot (name := PySem.Str.ofString "__len__") hl.typeIs slot_list_len
    (wpAny_call_entry slot_list_len hl.typeIs entry_list_len ?_ (args_list_len _)))
  · show wpAny _ _ (do retInt (← seqSize l)) _ _ s
    unfold seqSize
    refine wpAny_bind (wpAny_bind (wpAny_load ho ?_))
    rw [hd]
    refine wpAny_pure (wpAny_bind (wpAny_mkInt (wpAny_pure ⟨_, rfl, ?_⟩)))
    refine wpAny_bind (wpAny_holding (wpAny_pure ?_))
    refine wpAny_bind (wpAny_letGo ?_)
    show wpAny _ _ (if ((items.size : Nat) : Int) < 0 then _ else _) _ _ _
    rw [if_neg (by omega)]
    show wpAny _ _ (if ((items.size : Nat) : Int) ≥ 2 ^ 63 then _ else _) _ _ _
    rw [if_neg (by omega)]
    exact wpAny_bind (wpAny_mkInt (wpAny_pure h))

set_option maxHeartbeats 2000000 in
theorem bis_ok {prog : Program} {w : World} {a : Addr} {vs : List Value} {ns : List Int} {x : Int} {u : Tok} {A : Around} {Q E : Value → Shared → Prop} {s : Shared} (hI : IntsAre vs ns) (hsz : ns.length ≤ 100) (hu : A.units + 10 < cLine) (hl : s.heap.IsList a vs.toArray)
    (h : ∀ t k, Q (.int (bisR ns x : Nat) t) { s with toks := k }) : wpAny (model prog w) A (call (.builtin "_bisect.bisect_right") [.ref a, .int x u]) Q E s := by
  refine wpAny_call (codeAny_call_builtin plain_bis entry_bis ?_)
  have key : wpAny (model prog w) A.in1 (Builtin.«_bisect.bisect_right» ⟨[.ref a, .int x u], []⟩) (fun fin s' => match fin with
      | .done f => (match (Except.ok f : Result) with | .ok (.ret v) => Q v s' | .ok _ => False | .error e => E e s')
      | .again c' => c'.quiet = true ∧ codeAny (model prog w) A c' (fun r s' => match r with | .ok (.ret v) => Q v s' | .ok _ => False | .error e => E e s') s') (fun e s' => E e s') s := by
    unfold Builtin.«_bisect.bisect_right»
    obtain ⟨hp, gg, dd, tk, os⟩ := s
    have hT := hl.typeIs
    have f1 := slot_list_len.lookup
    have f2 := slot_list_getitem.lookup
    have hlen : vs.toArray.size = ns.length := by rw [List.size_toArray]; exact IntsAre.length hI
    have hT2 : Shared.TypeIs ⟨hp, gg, dd, tk + 1 + 1, os⟩ (.ref a) "list" := Heap.IsList.typeIs (s := ⟨hp, gg, dd, tk + 1 + 1, os⟩) hl
    repeat (any_goals (first | ((with_reducible show wpAny _ _ (runValue (Code.builtin "len" _)) _ _ _); refine run_len hl (by rw [hlen]; omega) ?_) | wp_step))
    refine ⟨Code.quiet_builtin _ (by decide +kernel), ?_⟩
    have e := bis_loop (prog := prog) (w := w) (x := x) (u := u) hI hsz ns.length 0 ns.length A (fun r s' => match r with | .ok (.ret v) => Q v s' | .ok _ => False | .error e => E e s') ⟨hp, gg, dd, tk + 1 + 1, os⟩ (by omega) (Nat.le_refl _) hu hl h
    rw [← hlen] at e
    exact e
  simp only [checkBuiltinCall, kind_bis]
  cases hsig : Manifest.signature? "_bisect.bisect_right" with
  | none => exact wpAny_pure key
  | some sig =>
    have ok := args_bis (.ref a) (.int x u)
    simp only [argsOk, hsig] at ok
    have h2 : Bind.checkArgs "_bisect.bisect_right" sig ⟨[.ref a, .int x u], []⟩ = pure () := ok
    show wpAny _ _ (Bind.checkArgs "_bisect.bisect_right" sig ⟨[.ref a, .int x u], []⟩) _ _ s
    rw [h2]; exact wpAny_pure key
end Mine
end
section
open PySem PySem.W PyProof.Rows
set_option Elab.async false
set_option maxRecDepth 100000
namespace Mine

theorem boots : [("divmod", Value.builtin "divmod"), ("min", .builtin "min"), ("max", .builtin "max"), ("abs", .builtin "abs"), ("len", .builtin "len"), ("int", .type "int"), ("str", .type "str"), ("isinstance", .builtin "isinstance")].all
    (fun x : String × Value => decide (bootBuiltins (PySem.Str.ofString x.1) = some x.2)) = true := by decide +kernel
theorem boot_of {x : String} {v : Value} (h : (x, v) ∈ [("divmod", Value.builtin "divmod"), ("min", .builtin "min"), ("max", .builtin "max"), ("abs", .builtin "abs"), ("len", .builtin "len"), ("int", .type "int"), ("str", .type "str"), ("isinstance", .builtin "isinstance")]) : bootBuiltins (PySem.Str.ofString x) = some v :=
  of_decide_eq_true (List.all_eq_true.mp boots _ h)
theorem nsNone (P : Params) : (["divmod", "min", "max", "abs", "len", "int", "str", "isinstance", "range"].all fun x => nsIn (KK P) mainGlobals (PySem.Str.ofString x) == some none) = true := by kernel_rfl
theorem nsNone_of {P : Params} {x : String} (h : x ∈ ["divmod", "min", "max", "abs", "len", "int", "str", "isinstance", "range"]) : nsIn (KK P) mainGlobals (PySem.Str.ofString x) = some none := beq_iff_eq.mp (List.all_eq_true.mp (nsNone P) _ h)

theorem kf_cls1 (P : Params) : plainGet (KK P) DC "__class__" = true := by kernel_rfl
theorem kf_cls2 (P : Params) : findIn (KK P) (.ref DC) "__class__" = some (some (.builtin "object.__class__")) := by kernel_rfl
theorem kf_cls3 (P : Params) : specialIn (KK P) (.builtin "object.__class__") "__get__" = some (some (.builtin "getset_descriptor.__get__")) := by kernel_rfl
theorem kf_cls4 (P : Params) : takesIn (KK P) (.builtin "object.__class__") = some true := by kernel_rfl
theorem kf_cls5 (P : Params) : mroIn (KK P) DC (.type "object") = some true := by kernel_rfl

def tyV : Ty → Value
  | .int => .type "int" | .str => .type "str" | .dbl => .ref DC
def tyN : Ty → String
  | .int => "int" | .str => "str" | .dbl => "Double"
def biN : Bi → String
  | .divmod => "divmod" | .min => "min" | .max => "max" | .abs => "abs" | .len => "len" | .int => "int" | .str => "str" | .bisect => "bisect_right"

section
variable {g : GC} {n : Nat} {sc : Scope} {names : List PySem.Str} {cf : CF} {e e₁ e₂ e₃ : Expr} {es : List Expr} {p p₁ p₂ p₃ ps : PE}

theorem Reps.ints {h : Heap} {W : Wd} : ∀ {l : List PVal} {vs : List Value} {ys : List Int}, Reps h W l vs → intsOf l = some ys → IntsAre vs ys
  | [], vs, ys, e, q => by unfold Reps at e; cases q; rw [e]; exact .nil
  | p :: ps, vs, ys, e, q => by
    unfold Reps at e
    obtain ⟨c, rr, rfl, e2, e3⟩ := e
    cases p <;> simp only [intsOf, reduceCtorEq, Option.map_eq_some_iff] at q
    obtain ⟨zs, hz, rfl⟩ := q
    unfold Rep at e2
    obtain ⟨t, rfl⟩ := e2
    exact .cons _ _ (Reps.ints e3 hz)

theorem bi_all {A : Around} {s : Shared} {Q E : Value → Shared → Prop} {L : Addr} {W : Wd} {r : Rho} {st st' : Store} {v : PVal} (C : CallOK g n fad cf) (hR : Room (2 * n + 1) A) {b : Bi} {l : List PVal} {vs : List Value} (hb : biP cf b l st = some (v, st')) (I : Inv g L names W r st s) (R : Reps s.heap W l vs) (k : Ko g L names W r st' v Q s) :
    wpAny g.M A (call (biV b) vs) Q E s := by
  by_cases hbs : b = .bisect
  · subst hbs
    match l, hb with
    | [.lst l, .int x], hb =>
      simp only [biP] at hb
      split at hb
      · rename_i ys hy
        split at hb
        · rename_i hl
          cases hb
          obtain ⟨c, d, rfl, R1, R2⟩ := reps2_inv R
          unfold Rep at R1 R2
          obtain ⟨a, vs, rfl, h2, h3, h4⟩ := R1
          obtain ⟨t, rfl⟩ := R2
          refine wpAny_with_toks I.st.toks (bis_ok (h4.ints hy) hl (by have := hR.units; omega) h3.l fun t tk ht => k.i I ht)
        · cases hb
      · cases hb
    | [], hb => simp [biP] at hb
    | [_], hb => simp [biP] at hb
    | _ :: _ :: _ :: _, hb => simp [biP] at hb
    | [.lst l, .none], hb | [.lst l, .bool _], hb | [.lst l, .str _], hb | [.lst l, .sep _], hb | [.lst l, .tup _], hb | [.lst l, .lst _], hb | [.lst l, .dbl _ _], hb | [.lst l, .cell _], hb => simp [biP] at hb
    | [.none, _], hb | [.bool _, _], hb | [.int _, _], hb | [.str _, _], hb | [.sep _, _], hb | [.tup _, _], hb | [.dbl _ _, _], hb | [.cell _, _], hb => simp [biP] at hb
  · exact bi_ok C hR hbs hb I R k

theorem ev_bi (C : CallOK g n fad cf) {b : Bi} {px pos : Pos} (hkd : sc.kind = .function) (hl : sc.names.lookup (PySem.Str.ofString (biN b)) = some .globalImplicit)
    (h1 : EsOK g n sc names cf es ps) : EvOK g n sc names cf (.Call (.Name (PySem.Str.ofString (biN b)) px) es [] pos) (.bi b ps) := by
  intro cn a ccd L W r st A s Q E v st' hR I he k
  unfold ev at he
  split at he
  · rename_i l st1 hl'
    obtain ⟨m, F, hm⟩ := I.fr
    have T := topRead_of g.T
    have hn : ∀ Q' : Value → Shared → Prop, Q' (biV b) s → wpAny g.M A (eval (.Name (PySem.Str.ofString (biN b)) px) (envX cn sc L a ccd [])) Q' E s := by
      intro Q' q
      by_cases hbs : b = .bisect
      · subst hbs; exact nameX_K F g.KI T (kf_g3 _) q hkd hl (by decide +kernel)
      · refine nameX_B F g.KI T (nsNone_of (by cases b <;> first | decide | exact absurd rfl hbs)) (boot_of (v := biV b) (by cases b <;> first | decide | exact absurd rfl hbs)) (by cases b <;> decide +kernel) q hkd hl (by cases b <;> decide +kernel)
    refine call_of (fv := biV b) hR I h1 hl' hn (fun h X => by cases b <;> first | exact keeps_builtin h X | exact keeps_type h X) fun W' s' vs x' I' R' => ?_
    exact bi_all C hR he I' R' (k.later x' I')
  · cases he

theorem isi_ok {A : Around} {s : Shared} {Q E : Value → Shared → Prop} {L : Addr} {W : Wd} {r : Rho} {st : Store} {v : PVal} {cv : Value} {t : Ty} {b : Bool} (hb : isiP v t = some b) (I : Inv g L names W r st s) (R : Rep s.heap W v cv) (k : Ko g L names W r st (.bool b) Q s) :
    wpAny g.M A (call (.builtin "isinstance") [cv, tyV t]) Q E s := by
  have X := I.st.KIn
  have q : ∀ {tk : Nat}, 1 ≤ tk → Q (.bool b) { s with toks := tk } := fun h => k.same I h (by unfold Rep; rfl)
  have h1 : 1 ≤ s.toks + 1 := Nat.le_add_left _ _
  cases v <;> simp only [isiP, reduceCtorEq] at hb
  · unfold Rep at R; obtain ⟨u, rfl⟩ := R
    cases t <;> simp only [Option.some.injEq] at hb <;> subst hb
    · exact IsiPair.int_int (k.b I)
    · exact IsiPair.int_str (q h1)
    · exact isn_call (P := fun _ => True) (K := g.K) X (fun M => Looks.of_pure rfl) (by kernel_rfl) (fun e => nomatch e) trivial int_cls (q h1)
  · unfold Rep at R; obtain ⟨u, rfl⟩ := R
    cases t <;> simp only [Option.some.injEq] at hb <;> subst hb
    · exact IsiPair.str_int (q h1)
    · exact IsiPair.str_str (k.b I)
    · exact isn_call (P := fun _ => True) (K := g.K) X (fun M => Looks.of_pure rfl) (by kernel_rfl) (fun e => nomatch e) trivial str_cls (q h1)
  · obtain ⟨a, dx, es, c, tn, td, rfl, e2, e3, IA, e5, e6⟩ := Rep.dbl_inst R
    cases t <;> simp only [Option.some.injEq] at hb <;> subst hb
    · exact kin_callT (K := g.K) X IA (by kernel_rfl) (by kernel_rfl) (kf_cls1 _) (kf_dict _) (kf_cls2 _) (kf_cls3 _) (kf_cls4 _) (kf_cls5 _) (q h1)
    · exact kin_callT (K := g.K) X IA (by kernel_rfl) (by kernel_rfl) (kf_cls1 _) (kf_dict _) (kf_cls2 _) (kf_cls3 _) (kf_cls4 _) (kf_cls5 _) (q h1)
    · exact isi_call (K := g.K) X (fun M => IA.type) (by kernel_rfl) (fun e => nomatch e) (k.b I)

theorem kf_double (P : Params) : nsIn (KK P) mainGlobals "Double" = some (some (.ref DC)) := by kernel_rfl

theorem ev_isi {t : Ty} {px py pos : Pos} (hkd : sc.kind = .function) (hl : sc.names.lookup (PySem.Str.ofString "isinstance") = some .globalImplicit) (hl2 : sc.names.lookup (PySem.Str.ofString (tyN t)) = some .globalImplicit)
    (hs : ∀ env rest, starEach (e :: rest) env = (false, eval e env) :: starEach rest env)
    (h1 : EvOK g n sc names cf e p) : EvOK g n sc names cf (.Call (.Name (PySem.Str.ofString "isinstance") px) [e, .Name (PySem.Str.ofString (tyN t)) py] [] pos) (.isi p t) := by
  intro cn a ccd L W r st A s Q E v st' hR I he k
  unfold ev at he
  split at he
  · rename_i x st1 hx
    obtain ⟨b, hb, ee⟩ := Option.map_eq_some_iff.mp he
    cases ee
    obtain ⟨m, F, hm⟩ := I.fr
    have T := topRead_of g.T
    have e0 : eval (.Call (.Name (PySem.Str.ofString "isinstance") px) [e, .Name (PySem.Str.ofString (tyN t)) py] [] pos) (envX cn sc L a ccd []) = (do callWith pos (← eval (.Name (PySem.Str.ofString "isinstance") px) (envX cn sc L a ccd [])) [] (backTo pos (starEach [e, .Name (PySem.Str.ofString (tyN t)) py] (envX cn sc L a ccd []))) (backToKw pos (keywordEach [] (envX cn sc L a ccd [])))) := rfl
    rw [e0]
    refine wpAny_bind (nameX_B F g.KI T (nsNone_of (by decide)) (boot_of (x := "isinstance") (v := .builtin "isinstance") (by decide)) (by decide +kernel) ?_ hkd hl (by decide +kernel))
    have sp : starEach [e, .Name (PySem.Str.ofString (tyN t)) py] (envX cn sc L a ccd []) = [(false, eval e (envX cn sc L a ccd [])), (false, eval (.Name (PySem.Str.ofString (tyN t)) py) (envX cn sc L a ccd []))] := by rw [hs]; rfl
    rw [sp]
    refine callWith_of (P := fun h => g.K.In h) rfl keeps_builtin (Calls.evalArgs_plain ?_)
    refine Calls.spliced_cons (h1 cn a ccd L W r st A s _ E x _ hR I hx fun W1 s1 c1 x1 I1 R1 => ?_)
    obtain ⟨m1, F1, hm1⟩ := I1.fr
    have fin : ∀ tv, tv = tyV t → wpAny g.M A (spliced []) (fun vs s₂ => g.K.In s₂.heap ∧ wpAny g.M A (call (.builtin "isinstance") ([] ++ c1 :: tv :: vs)) Q E s₂) E s1 := fun tv htv => by
      subst htv
      exact Calls.spliced_nil ⟨I1.st.KIn, isi_ok hb I1 R1 (k.later x1 I1)⟩
    refine Calls.spliced_cons ?_
    show wpAny g.M A (eval (.Name (PySem.Str.ofString (tyN t)) py) (envX cn sc L a ccd [])) _ E s1
    cases t with
    | int => exact nameX_B F1 g.KI T (nsNone_of (by decide)) (boot_of (x := "int") (v := .type "int") (by decide)) (by decide +kernel) (fin _ rfl) hkd hl2 (by decide +kernel)
    | str => exact nameX_B F1 g.KI T (nsNone_of (by decide)) (boot_of (x := "str") (v := .type "str") (by decide)) (by decide +kernel) (fin _ rfl) hkd hl2 (by decide +kernel)
    | dbl => exact nameX_K F1 g.KI T (kf_double _) (fin _ rfl) hkd hl2 (by decide +kernel)
  · cases he
end
end Mine
end
section
open PySem PySem.W PyProof.Rows
set_option Elab.async false
set_option maxRecDepth 100000
namespace Mine

theorem methodCall_any {M : Model} {A : Around} {E : Value → Shared → Prop} {s : Shared} {env : Env} {o : Expr} {name : PySem.Str} {apos pos : Pos} {args : List Expr} {Q : Value → Shared → Prop}
    (hbase : attributeBase o name env (eval o env) = eval o env) (hplain : (starEach args env).any (·.1) = false) (hlen : args.length < 20) (hpos : (apos.endLine == pos.line) = true)
    (h : wpAny M A (eval o env) (fun ov s₁ => wpAny M A (getMethod ov name (do return (← importBound o env).getD true)) (fun fx s₂ => wpAny M A (callWith pos fx.1 fx.2 (backTo pos (starEach args env)) []) Q E s₂) E s₁) E s) :
    wpAny M A (eval (.Call (.Attribute o name apos) args [] pos) env) Q E s := by
  have e : eval (.Call (.Attribute o name apos) args [] pos) env = (do
      let ov ← attributeBase o name env (eval o env)
      standAt apos.atName
      methodCall o name apos pos env ov (args.length + 0) (backTo pos (starEach args env)) (backToKw pos (keywordEach [] env))) := rfl
  rw [e, hbase]
  refine wpAny_bind (wpAny_mono h (fun ov s₁ h₁ => wpAny_bind (wpAny_standAt ?_)) fun _ _ x => x)
  have hp := backTo_plain (pos := pos) hplain
  have hform : methodCallForm (args.length + 0) (backTo pos (starEach args env)) (backToKw pos (keywordEach [] env)) = true := by
    unfold methodCallForm
    have e1 : (backTo pos (starEach args env)).all (fun x => !x.1) = true := by
      rw [List.all_eq_not_any_not]
      simp only [Bool.not_not, hp]; rfl
    rw [e1]
    simp only [backToKw, keywordEach, List.map_nil, List.all_nil, List.isEmpty_nil, if_true, Bool.true_and, decide_eq_true_eq]
    omega
  unfold methodCall
  rw [hform]
  have hcp : methodCallPos true o env apos pos = pure pos := by
    unfold methodCallPos
    rw [if_pos (by rw [hpos]; rfl)]
  rw [hcp]
  refine wpAny_bind (wpAny_holding ?_)
  show wpAny M A (getMethod ov name (do return (← importBound o env).getD true)) _ E s₁
  exact wpAny_mono h₁ (fun fx s₂ h₂ => wpAny_bind (wpAny_pure h₂)) fun _ _ x => x

def meN : Me → String
  | .bitLength => "bit_length" | .size => "size" | .strip => "strip" | .lower => "lower" | .partition => "partition" | .lstrip => "lstrip" | .split => "split" | .join => "join" | .zfill => "zfill" | .index => "index"
def meV : Me → PVal → Value
  | .bitLength, _ => .builtin "int.bit_length" | .size, _ => .ref (fad fSize) | .strip, _ => .builtin "str.strip" | .lower, _ => .builtin "str.lower" | .partition, _ => .builtin "str.partition"
  | .lstrip, _ => .builtin "str.lstrip" | .split, _ => .builtin "str.split" | .join, _ => .builtin "str.join" | .zfill, _ => .builtin "str.zfill" | .index, .lst _ => .builtin "list.index" | .index, _ => .builtin "str.index"

theorem kf_ga (P : Params) : findIn (KK P) (.ref DC) "__getattribute__" = some (some (.builtin "object.__getattribute__")) := by kernel_rfl
theorem kf_gat (P : Params) : findIn (KK P) (.ref DC) "__getattr__" = some none := by kernel_rfl

section
variable {g : GC} {n : Nat} {names : List PySem.Str} {cf : CF} {A : Around} {s : Shared} {E : Value → Shared → Prop} {L : Addr} {W : Wd} {r : Rho} {st st' : Store} {x y v : PVal} {cx cy : Value}

theorem meth_get {m : Me} {l : List PVal} {st₂ : Store} {Q : Value × List Value → Shared → Prop} {pl : Sem Bool} (hb : methP cf m x l st₂ = some (v, st')) (I : Inv g L names W r st s) (R : Rep s.heap W x cx) (q : Q (meV m x, [cx]) s) :
    wpAny g.M A (getMethod cx (PySem.Str.ofString (meN m)) pl) Q E s := by
  unfold methP at hb
  split at hb
  · unfold Rep at R; obtain ⟨t, rfl⟩ := R
    exact getMethod_int_bit_length q
  · obtain ⟨a, dx, es, c, tn, td, rfl, e2, e3, IA, e5, e6, e7⟩ := Rep.dbl_inst R
    exact method_fn (K := g.K) I.st.KIn IA (kf_ga _) (kf_gat _) (kf_size _) (beq_iff_eq.mp (fn_of (by decide))) (by show (getL "size" es).map _ = _; rw [e7]; rfl) q
  · unfold Rep at R; obtain ⟨t, rfl⟩ := R; exact GM.strip q
  · unfold Rep at R; obtain ⟨t, rfl⟩ := R; exact GM.lower q
  · unfold Rep at R; obtain ⟨t, rfl⟩ := R; exact GM.partition q
  · unfold Rep at R; obtain ⟨t, rfl⟩ := R; exact GM.lstrip q
  · unfold Rep at R; obtain ⟨t, rfl⟩ := R; exact GM.split q
  · unfold Rep at R; obtain ⟨t, rfl⟩ := R; exact GM.split q
  · unfold Rep at R; obtain ⟨t, rfl⟩ := R; exact GM.join q
  · unfold Rep at R; obtain ⟨t, rfl⟩ := R; exact GM.zfill q
  · unfold Rep at R; obtain ⟨t, rfl⟩ := R; exact GM.index q
  · unfold Rep at R; obtain ⟨a, vs, rfl, h2, h3', h4⟩ := R
    obtain ⟨kk, h3⟩ : LL s.heap a vs := by
      split at hb
      · rename_i ys hy
        split at hb
        · rename_i hc; exact h3'.exact hy hc.1
        · cases hb
      · cases hb
    exact getMethod_builtin ⟨_, h3, rfl⟩ PySem.F.plainAttrs_list PySem.F.slot_list_index PySem.F.type_list_index (fun a e => by cases e; exact ⟨_, h3, rfl⟩) q
  · cases hb

theorem reps_strs {h : Heap} : ∀ (l : List (PySem.Str × Tok)), Reps h W ((l.map (·.1)).map .str) (strValues l)
  | [] => by unfold Reps; rfl
  | (x, t) :: r => by
    show Reps h W (PVal.str x :: (r.map (·.1)).map PVal.str) (Value.str x t :: strValues r)
    unfold Reps
    exact ⟨_, _, rfl, by unfold Rep; exact ⟨t, rfl⟩, reps_strs r⟩

theorem idx_strs {k : PySem.Str} : ∀ {vs : List Value} {ys : List PySem.Str}, StrsAre vs ys → ys.contains k = true → ∃ hj : ys.idxOf k < vs.length, isStrOf k (vs[ys.idxOf k]) = true ∧ ∀ m (hm : m < vs.length), m < ys.idxOf k → isStrOf k vs[m] = false
  | _, _, .nil, h => by simp at h
  | _, _, .cons y t r, h => by
    by_cases e : y = k
    · subst e
      simp only [List.idxOf_cons_self]
      exact ⟨by simp, by simp [isStrOf], fun m _ hm => absurd hm (Nat.not_lt_zero _)⟩
    · rw [List.contains_cons] at h
      have e' : (k == y) = false := beq_eq_false_iff_ne.mpr (fun q => e q.symm)
      rw [e', Bool.false_or] at h
      obtain ⟨hj, h1, h2⟩ := idx_strs r h
      have ey : (y == k) = false := beq_eq_false_iff_ne.mpr e
      simp only [List.idxOf_cons, ey, cond_false]
      refine ⟨by simpa using hj, by simpa using h1, fun m hm hlt => ?_⟩
      cases m with
      | zero =>
        show isStrOf k (.str y t) = false
        simp only [isStrOf]
        exact beq_eq_false_iff_ne.mpr e
      | succ m => simpa using h2 m (by simpa using hm) (by omega)

theorem slim_size {k : Nat} (h : k ≤ slim) : k + 2 ≤ sizeLine := by rw [sizeLine_eq]; simp only [slim] at h; omega

theorem meth_call {m : Me} {l : List PVal} {vs : List Value} {Q : Value → Shared → Prop} (C : CallOK g n fad cf) (hR : Room (2 * n + 1) A) (hb : methP cf m x l st = some (v, st')) (I : Inv g L names W r st s) (R : Rep s.heap W x cx) (Rs : Reps s.heap W l vs) (k : Ko g L names W r st' v Q s) :
    wpAny g.M A (call (meV m x) (cx :: vs)) Q E s := by
  obtain ⟨mm, F, hm⟩ := I.fr
  have N := full_news g.base s.heap L
  unfold methP at hb
  split at hb
  · cases hb
    unfold Reps at Rs; subst Rs
    unfold Rep at R; obtain ⟨t, rfl⟩ := R
    exact call_int_bit_length (k.i I (Nat.le_add_left _ _))
  · unfold Reps at Rs; subst Rs
    refine wpAny_call (C fSize W st A s Q E [.dbl _ _] [cx] v st' hR.down I.st (reps1 R) hb fun W2 s2 cv x2 S2 R2 => k W2 s2 cv x2.more (I.step x2 S2) R2)
  · split at hb
    · rename_i hl
      cases hb
      unfold Reps at Rs; subst Rs
      unfold Rep at R; obtain ⟨t, rfl⟩ := R
      exact wpAny_with_toks I.st.toks (SC.strip (fun t' tk ht => k.str I ht) (by have := slim_size hl; omega))
    · cases hb
  · split at hb
    · rename_i hl
      cases hb
      unfold Reps at Rs; subst Rs
      unfold Rep at R; obtain ⟨t, rfl⟩ := R
      exact SC.lower (fit_lower (by simp only [slim] at hl; omega)) (k.str I (Nat.le_add_left _ _))
    · cases hb
  · split at hb
    · rename_i hl
      cases hb
      obtain ⟨c, rfl, R2⟩ := reps1_inv Rs
      unfold Rep at R R2
      obtain ⟨t, rfl⟩ := R
      obtain ⟨u, rfl⟩ := R2
      refine wpAny_with_toks I.st.toks (partitionN F N (by simpa using hl.2) (fun ta tb tc h' tk F' N' ht => ?_) (by have := slim_size hl.1; omega))
      obtain ⟨x', I'⟩ := I.led (extra := [(_, _)]) F hm F' N' ht
      refine k W _ _ x' I' (tup_of_ledger (F := F) (vs := [_, _, _]) I N' ?_)
      unfold Reps
      exact ⟨_, _, rfl, by unfold Rep; exact ⟨_, rfl⟩, reps2 (by unfold Rep; exact ⟨_, rfl⟩) (by unfold Rep; exact ⟨_, rfl⟩)⟩
    · cases hb
  · split at hb
    · rename_i hl
      cases hb
      obtain ⟨c, rfl, R2⟩ := reps1_inv Rs
      unfold Rep at R R2
      obtain ⟨t, rfl⟩ := R
      obtain ⟨u, rfl⟩ := R2
      exact wpAny_with_toks I.st.toks (SC.lstripChars (fun t' tk ht => k.str I ht) (by have := slim_size hl; omega))
    · cases hb
  · split at hb
    · rename_i hl
      cases hb
      obtain ⟨c, rfl, R2⟩ := reps1_inv Rs
      unfold Rep at R R2
      obtain ⟨t, rfl⟩ := R
      obtain ⟨u, rfl⟩ := R2
      refine wpAny_with_toks I.st.toks (splitN1 F N (by simpa using hl.2) (fun ls h' tk e F' N' ht => ?_) (slim_size hl.1))
      obtain ⟨x', I'⟩ := I.led (extra := [(_, _)]) F hm F' N' ht
      refine k W _ _ x' I' ?_
      rw [← e]
      unfold Rep
      exact ⟨_, _, rfl, I.fresh (get?_size _), .inl ⟨0, (N' _ (List.mem_cons_self ..)).1⟩, reps_strs ls⟩
    · cases hb
  · split at hb
    · rename_i hl
      cases hb
      obtain ⟨c, d, rfl, R2, R3⟩ := reps2_inv Rs
      unfold Rep at R R2 R3
      obtain ⟨t, rfl⟩ := R
      obtain ⟨u, rfl⟩ := R2
      obtain ⟨u', rfl⟩ := R3
      refine wpAny_with_toks I.st.toks (splitN2A F N (by simpa using hl.2.1) (by simp; omega) (fun ls h' tk e _ _ _ F' N' ht => ?_) (slim_size hl.1))
      obtain ⟨x', I'⟩ := I.led (extra := [(_, _)]) F hm F' N' ht
      refine k W _ _ x' I' ?_
      rw [← e]
      unfold Rep
      exact ⟨_, _, rfl, I.fresh (get?_size _), .inl ⟨0, (N' _ (List.mem_cons_self ..)).1⟩, reps_strs ls⟩
    · cases hb
  · split at hb
    · rename_i ys hy
      split at hb
      · rename_i hl
        cases hb
        obtain ⟨c, rfl, R2⟩ := reps1_inv Rs
        unfold Rep at R R2
        obtain ⟨t, rfl⟩ := R
        obtain ⟨a, vs, rfl, h2, h3, h4⟩ := R2
        exact wpAny_with_toks I.st.toks (join_listW h3.l (by simpa using h4.strs hy) hl.1 (by have := hl.2; simp only [slim] at this; omega) fun t' tk ht => k.str I ht)
      · cases hb
    · cases hb
  · split at hb
    · rename_i hl
      cases hb
      obtain ⟨c, rfl, R2⟩ := reps1_inv Rs
      unfold Rep at R R2
      obtain ⟨t, rfl⟩ := R
      obtain ⟨u, rfl⟩ := R2
      refine wpAny_with_toks I.st.toks (SC.zfill ?_ fun t' tk ht => k.str I ht)
      rename_i iz
      have e1 : Builtin.Str.tooLong (Int.toNat iz) = false := decide_eq_false (p := Int.toNat iz > sizeLine) (by have := hl.2; rw [sizeLine_eq]; simp only [slim] at this; omega)
      unfold PadOk fitsSsize
      rw [e1]
      simp only [slim] at hl
      simp; omega
    · cases hb
  · split at hb
    · rename_i hl
      cases hb
      obtain ⟨c, rfl, R2⟩ := reps1_inv Rs
      unfold Rep at R R2
      obtain ⟨t, rfl⟩ := R
      obtain ⟨u, rfl⟩ := R2
      exact index_or hR.handled (fun e => by rw [e] at hl; omega) fun _ _ => k.i I (Nat.le_add_left _ _)
    · cases hb
  · split at hb
    · rename_i ys hy
      split at hb
      · rename_i hc
        cases hb
        obtain ⟨c, rfl, R2⟩ := reps1_inv Rs
        unfold Rep at R R2
        obtain ⟨a, vs, rfl, h2, h3', h4⟩ := R
        obtain ⟨kk, h3⟩ := h3'.exact hy hc.1
        obtain ⟨u, rfl⟩ := R2
        have hs := h4.strs hy
        obtain ⟨hj, e1, e2⟩ := idx_strs hs hc.1
        have hsz := h4.length
        have hsl := hc.2
        simp only [slim] at hsl
        exact call_meets PySem.F.slot_list_index ⟨_, h3, rfl⟩ PySem.F.entry_list_index (PySem.F.args_list_index_2 _ _)
          (PySem.MeetsSeq.list_index a vs.toArray kk (.str _ u) (isStrOf _) (fun y hy => eq_isStrOf _ u hs y (by simpa using hy)) _ (by simpa using hj) (by omega) (by simpa using e1) (fun m hm hlt => by simpa using e2 m (by simpa using hm) hlt)) ⟨h3, k.i I (Nat.le_add_left _ _)⟩
      · cases hb
    · cases hb
  · cases hb
end
end Mine
end
section
open PySem PySem.W PyProof.Rows
set_option Elab.async false
set_option maxRecDepth 100000
namespace Mine

theorem pick_upto (items : Array Value) (k : Int) (hk : 0 ≤ k) : slicePick items none (some k) none = (items.toList.take k.toNat).toArray := by
  obtain ⟨b, rfl⟩ := Int.eq_ofNat_of_zero_le hk
  by_cases hb : b ≤ items.size
  · exact slicePick_upto items b hb
  · have e : sliceBounds none (some (b : Int)) none items.size = sliceBounds none (some ((items.size : Nat) : Int)) none items.size := by
      simp only [sliceBounds, Option.getD_none]
      have h1 : ¬ ((b : Int) < 0) := by omega
      have h2 : ¬ (((items.size : Nat) : Int) < 0) := by omega
      simp [h1, h2]
      omega
    have e2 : slicePick items none (some (b : Int)) none = slicePick items none (some ((items.size : Nat) : Int)) none := by
      unfold slicePick; rw [e]
    rw [e2, slicePick_upto items items.size (Nat.le_refl _), Int.toNat_natCast, List.take_of_length_le (by simp), List.take_of_length_le (by simp; omega)]
theorem pick_from (items : Array Value) (k : Int) (hk : 0 ≤ k) : slicePick items (some k) none none = (items.toList.drop k.toNat).toArray := by
  obtain ⟨b, rfl⟩ := Int.eq_ofNat_of_zero_le hk
  by_cases hb : b ≤ items.size
  · exact slicePick_from items b hb
  · have e : sliceBounds (some (b : Int)) none none items.size = sliceBounds (some ((items.size : Nat) : Int)) none none items.size := by
      simp only [sliceBounds, Option.getD_none]
      have h1 : ¬ ((b : Int) < 0) := by omega
      have h2 : ¬ (((items.size : Nat) : Int) < 0) := by omega
      simp [h1, h2]
      omega
    have e2 : slicePick items (some (b : Int)) none none = slicePick items (some ((items.size : Nat) : Int)) none none := by
      unfold slicePick; rw [e]
    rw [e2, slicePick_from items items.size (Nat.le_refl _), Int.toNat_natCast, List.drop_of_length_le (by simp), List.drop_of_length_le (by simp; omega)]

theorem reps_take {h : Heap} {W : Wd} : ∀ (k : Nat) {l : List PVal} {vs : List Value}, Reps h W l vs → Reps h W (l.take k) (vs.take k)
  | 0, _, _, _ => by simp only [List.take_zero]; unfold Reps; rfl
  | k + 1, [], vs, e => by unfold Reps at e; subst e; simp only [List.take_nil]; unfold Reps; rfl
  | k + 1, p :: ps, vs, e => by
    unfold Reps at e
    obtain ⟨c, rr, rfl, e2, e3⟩ := e
    simp only [List.take_succ_cons]
    unfold Reps
    exact ⟨_, _, rfl, e2, reps_take k e3⟩
theorem reps_drop {h : Heap} {W : Wd} : ∀ (k : Nat) {l : List PVal} {vs : List Value}, Reps h W l vs → Reps h W (l.drop k) (vs.drop k)
  | 0, _, _, e => by simpa using e
  | k + 1, [], vs, e => by unfold Reps at e; subst e; simp only [List.drop_nil]; unfold Reps; rfl
  | k + 1, p :: ps, vs, e => by
    unfold Reps at e
    obtain ⟨c, rr, rfl, e2, e3⟩ := e
    simpa using reps_drop k e3

section
variable {g : GC} {n : Nat} {sc : Scope} {names : List PySem.Str} {cf : CF} {e e₁ e₂ e₃ : Expr} {es : List Expr} {p p₁ p₂ p₃ ps : PE}

theorem ev_meth (C : CallOK g n fad cf) {m : Me} {o : Expr} {apos pos : Pos} (hbase : ∀ env, attributeBase o (PySem.Str.ofString (meN m)) env (eval o env) = eval o env) (hlen : es.length < 20) (hpos : (apos.endLine == pos.line) = true)
    (h1 : EvOK g n sc names cf o p₁) (h2 : EsOK g n sc names cf es ps) (hk : ∀ x h, g.K.In h → ∃ k, (k = Keeper.frame ∨ k = Keeper.machine ∨ k = Keeper.boundFrame) ∧ Looks g.M h (keeperOf (meV m x)) k) :
    EvOK g n sc names cf (.Call (.Attribute o (PySem.Str.ofString (meN m)) apos) es [] pos) (.meth p₁ m ps) := by
  intro cn a ccd L W r st A s Q E v st' hR I he k
  unfold ev at he
  split at he
  · rename_i x st1 hx
    split at he
    · rename_i l st2 hl
      have hp := h2.1 (evs_isL _ _ _ _ hl) (envX cn sc L a ccd [])
      refine methodCall_any (hbase _) hp hlen hpos (h1 cn a ccd L W r st A s _ E x st1 hR I hx fun W1 s1 c1 x1 I1 R1 => ?_)
      refine meth_get he I1 R1 ?_
      refine callWith_of (P := fun h => g.K.In h) (by rw [backTo_plain hp]; rfl) (hk x) (evalArgs_any (backTo_plain hp) ?_)
      refine h2.2 cn a ccd L W1 r st1 A s1 _ E pos l st2 hR I1 hl fun W2 s2 vs x2 I2 R2 => ⟨I2.st.KIn, ?_⟩
      exact meth_call C hR he I2 (I1.rep x2 R1) R2 ((k.later x1 I1).later x2 I2)
    · cases he
  · cases he

theorem kf_keep (P : Params) : ((List.range 40).all fun k => k == 3 || keepIn (KK P) (.ref (fad k))) = true := by kernel_rfl
theorem keep_of {P : Params} {k : Nat} (h : k < 40) (h3 : k ≠ 3) : keepIn (KK P) (.ref (fad k)) = true := by
  have := List.all_eq_true.mp (kf_keep P) k (List.mem_range.mpr h)
  simpa [h3] using this

theorem me_keeps (m : Me) (x : PVal) (h : Heap) (X : g.K.In h) : ∃ k, (k = Keeper.frame ∨ k = Keeper.machine ∨ k = Keeper.boundFrame) ∧ Looks g.M h (keeperOf (meV m x)) k := by
  cases m
  case size => exact keeps_K (keep_of (by decide) (by decide)) h X
  case index => cases x <;> exact keeps_builtin h X
  all_goals exact keeps_builtin h X

theorem ev_attr {x : PySem.Str} {second : Bool} {xp pos : Pos} (h1 : EvOK g n sc names cf (.Name x xp) p) : EvOK g n sc names cf (.Attribute (.Name x xp) (if second then PySem.Str.ofString "d" else PySem.Str.ofString "n") pos) (.attr p second) := by
  intro cn a ccd L W r st A s Q E v st' hR I he k
  unfold ev at he
  split at he
  · rename_i nn d st1 hx
    cases he
    refine Attribute_name (h1 cn a ccd L W r st A s _ E _ _ hR I hx fun W1 s1 c1 x1 I1 R1 => ?_)
    obtain ⟨a', dx, es, c, tn, td, rfl, e2, e3, IA, e5, e6, e7⟩ := Rep.dbl_inst R1
    obtain ⟨m, F, hm⟩ := I1.fr
    have k' := k.later x1 I1
    cases second with
    | true => exact get_own (K := g.K) F g.KI IA (kf_getd _) (kf_dict _) (kf_d _) (kf_noget _) e6 rfl (k'.i I1 (Nat.le_add_left _ _))
    | false => exact get_own (K := g.K) F g.KI IA (kf_getn _) (kf_dict _) (kf_n _) (kf_noget _) e5 rfl (k'.i I1 (Nat.le_add_left _ _))
  · cases he

theorem ev_item {sl : Expr} {pos : Pos} (hs : ∀ o i, subscripted sl false o i = operate [o, i] (getItem o i)) (h1 : EvOK g n sc names cf e p₁) (h2 : EvOK g n sc names cf sl p₂) : EvOK g n sc names cf (.Subscript e sl pos) (.item p₁ p₂) := by
  intro cn a ccd L W r st A s Q E v st' hR I he k
  unfold ev at he
  split at he
  · rename_i x st1 hx
    split at he
    · rename_i y st2 hy
      obtain ⟨w, hw, ee⟩ := Option.map_eq_some_iff.mp he
      cases ee
      refine Subscript_ (h1 cn a ccd L W r st A s _ E x st1 hR I hx fun W1 s1 c1 x1 I1 R1 => ?_)
      refine h2 cn a ccd L W1 r st1 A s1 _ E y _ hR I1 hy fun W2 s2 c2 x2 I2 R2 => ?_
      have R1' := I1.rep x2 R1
      have k' := (k.later x1 I1).later x2 I2
      have fin : ∀ {cv : Value}, Rep s2.heap W2 v cv → Q cv s2 := fun R => k' W2 s2 _ (Ext.refl _ _ _) I2 R
      unfold itemP at hw
      split at hw
      · unfold Rep at R1' R2
        obtain ⟨b, vs, rfl, q2, q3, q4⟩ := R1'
        obtain ⟨t, rfl⟩ := R2
        unfold itemL at hw
        split at hw
        · rename_i hk
          obtain ⟨c, hc, Rc⟩ := q4.get _ hw
          exact tail_any q3.l.typeIs slot_list_getitem.lookup (wpAny_getItem_list q3.l hk.1 (by omega) (by simpa using hc) (fin Rc)) (hs _ _)
        · cases hw
      · unfold Rep at R1' R2
        obtain ⟨b, vs, rfl, q2, q3, q4⟩ := R1'
        obtain ⟨t, rfl⟩ := R2
        unfold itemL at hw
        split at hw
        · rename_i hk
          obtain ⟨c, hc, Rc⟩ := q4.get _ hw
          have hlt := (List.getElem?_eq_some_iff.mp hc).1
          exact tail_any q3.typeIs slot_tuple_getitem.lookup (getItem_tuple q3 (by omega) (by omega) (seqIndex_of hk.1 (by simp only [List.size_toArray]; omega)) (by simpa using hc) (fin Rc)) (hs _ _)
        · cases hw
      · unfold Rep at R1' R2
        obtain ⟨b, rfl, q2⟩ := R1'
        obtain ⟨t, rfl⟩ := R2
        obtain ⟨l, hl, hw⟩ := Option.bind_eq_some_iff.mp hw
        obtain ⟨b', vs, q3, q4, q5⟩ := I2.st.cells _ _ hl
        rw [q2] at q3; cases q3
        unfold itemL at hw
        split at hw
        · rename_i hk
          obtain ⟨c, hc, Rc⟩ := q5.get _ hw
          exact tail_any q4.l.typeIs slot_list_getitem.lookup (wpAny_getItem_list q4.l hk.1 (by omega) (by simpa using hc) (fin Rc)) (hs _ _)
        · cases hw
      · rename_i z kk
        split at hw
        · rename_i hk
          cases hw
          unfold Rep at R1' R2
          obtain ⟨t, rfl⟩ := R1'
          obtain ⟨u, rfl⟩ := R2
          have hj : seqIndex? kk z.length = some kk.toNat := seqIndex_of hk.1 hk.2.1
          have hlt : kk.toNat < z.cps.size := by have := hk.2.1; have := hk.1; show kk.toNat < z.length; omega
          have hc : (seqIndex? kk z.length).bind (z.cps[·]?) = some (z.cps[kk.toNat]) := by rw [hj]; exact Array.getElem?_eq_getElem hlt
          have ei : Txt.item z kk = ⟨#[z.cps[kk.toNat]]⟩ := by unfold Txt.item Txt.charAt; rw [hc]; rfl
          rw [ei] at k'
          exact tail_any (typeIs_str _ _ _) PySem.F.slot_str_getitem.lookup (PySem.P.getItem_str (by have := hk.2.2; simp only [slim] at this; simp; omega) hc (k'.str I2 (Nat.le_add_left _ _))) (hs _ _)
        · cases hw
      · cases hw
    · cases he
  · cases he

/-- a slice's part -/
def PartOK (g : GC) (n : Nat) (sc : Scope) (names : List PySem.Str) (cf : CF) (oe : Option Expr) (pe : PE) : Prop :=
  ∀ (cn : PySem.Str) (a : Addr) (ccd : Value) (L : Addr) (W : Wd) (r : Rho) (st : Store) (A : Around) (s : Shared) (Q E : Value → Shared → Prop) (v : PVal) (st' : Store),
    Room (2 * n + 1) A → Inv g L names W r st s → ev cf pe r st = some (v, st') → Ko g L names W r st' v Q s → wpAny g.M A (evalPart oe (envX cn sc L a ccd [])) Q E s
theorem part_none : PartOK g n sc names cf none (.lit .none) := by
  intro cn a ccd L W r st A s Q E v st' hR I he k
  unfold ev at he; cases he
  exact evalPart_none_step (k W s _ (Ext.refl _ _ _) I (by unfold Rep; rfl))
theorem part_some (h : EvOK g n sc names cf e p) : PartOK g n sc names cf (some e) p := h

theorem isPart_of {h : Heap} {W : Wd} {v : PVal} {cv : Value} {o : Option Int} (e : optI v = some o) (R : Rep h W v cv) : ∃ t, cv = (match o with | none => .none | some i => .int i t) := by
  cases v <;> simp only [optI, reduceCtorEq] at e
  · cases e; unfold Rep at R; exact ⟨0, R⟩
  · split at e
    · cases e; unfold Rep at R; exact R
    · cases e

theorem isPart_of2 {h : Heap} {W : Wd} {v : PVal} {cv : Value} {o : Option Int} (e : optI v = some o) (R : Rep h W v cv) : IsPart cv o := by
  obtain ⟨t, rfl⟩ := isPart_of e R
  cases o with | none => exact .none | some i => exact .int i t

theorem ev_slice {lo hi : Option Expr} {sp pos : Pos} (h1 : EvOK g n sc names cf e p₁) (h2 : PartOK g n sc names cf lo p₂) (h3 : PartOK g n sc names cf hi p₃) : EvOK g n sc names cf (.Subscript e (.Slice lo hi none sp) pos) (.slice p₁ p₂ p₃) := by
  intro cn a ccd L W r st A s Q E v st' hR I he k
  unfold ev at he
  split at he
  · rename_i x st1 hx
    split at he
    · rename_i y st2 hy
      split at he
      · rename_i z st3 hz
        obtain ⟨w, hw, ee⟩ := Option.map_eq_some_iff.mp he
        cases ee
        refine Subscript_ (h1 cn a ccd L W r st A s _ E x st1 hR I hx fun W1 s1 c1 x1 I1 R1 => ?_)
        refine wpAny_Slice (h2 cn a ccd L W1 r st1 A s1 _ E y st2 hR I1 hy fun W2 s2 c2 x2 I2 R2 => ?_)
        refine h3 cn a ccd L W2 r st2 A s2 _ E z _ hR I2 hz fun W3 s3 c3 x3 I3 R3 => evalPart_none_step ?_
        have k' := ((k.later x1 I1).later x2 I2).later x3 I3
        have R1' := I2.rep x3 (I1.rep x2 R1)
        have R2' := I2.rep x3 R2
        obtain ⟨x4, I4, g4, f4⟩ := I3.pushed { cls := .type "slice", data := .fields #[c2, c3, .none] } rfl I3.st.toks
        have R1'' := I3.rep (s₁ := { s3 with heap := s3.heap.push { cls := .type "slice", data := .fields #[c2, c3, .none] } }) x4 R1'
        have k4 := k'.later (s₁ := { s3 with heap := s3.heap.push { cls := .type "slice", data := .fields #[c2, c3, .none] } }) x4 I4
        unfold sliceP at hw
        split at hw
        · rename_i xx lo' hi' elo ehi
          split at hw
          · rename_i hl
            cases hw
            unfold Rep at R1''
            obtain ⟨t, rfl⟩ := R1''
            obtain ⟨t2, rfl⟩ := isPart_of elo R2'
            obtain ⟨t3, rfl⟩ := isPart_of ehi R3
            have es : Txt.slice xx lo' hi' = Txt.slice xx ((lo'.map fun i => (i, t2)).map (·.1)) ((hi'.map fun i => (i, t3)).map (·.1)) := by cases lo' <;> cases hi' <;> rfl
            refine wpAny_with_toks I4.st.toks (tail_any (typeIs_str _ _ _) PySem.F.slot_str_getitem.lookup (wpAny_getItem_str_slice (l := lo'.map fun i => (i, t2)) (u := hi'.map fun i => (i, t3)) (st := none) ?_ rfl
              (post_val_or_str ⟨Nat.le_trans (Txt.slice_le xx _ _) (by have := slim_size hl; omega), fun t' tk ht => ?_⟩)) rfl)
            · cases lo' <;> cases hi' <;> exact ⟨_, g4, rfl, rfl⟩
            · have := k4.str I4 (t := t') ht
              rw [es] at this
              exact this
          · cases hw
        · rename_i l lo' hi' elo ehi
          split at hw
          · rename_i hl
            obtain ⟨l', hl', ee⟩ := Option.map_eq_some_iff.mp hw
            cases ee
            unfold Rep at R1''
            obtain ⟨b, vs, rfl, q2, q3, q4⟩ := R1''
            have pa := isPart_of2 elo R2'
            have pb := isPart_of2 ehi R3
            have hsz : vs.toArray.size ≤ sizeLine := by rw [List.size_toArray, q4.length]; have := slim_size hl; omega
            have fin : ∀ (xs : List Value), (slicePick vs.toArray lo' hi' none) = xs.toArray → Reps (s3.heap.push { cls := .type "slice", data := .fields #[c2, c3, .none] }) W3 l' xs →
                wpAny g.M A (getItem (.ref b) (.ref s3.heap.objs.size)) Q E { s3 with heap := s3.heap.push { cls := .type "slice", data := .fields #[c2, c3, .none] } } := fun xs exs Rxs => by
              refine wpAny_getItem_list_slice (lo := lo') (hi := hi') (st := none) q3.l ⟨_, g4, rfl, rfl⟩ pa pb .none (by simp) ?_ hsz
              rw [exs]
              obtain ⟨x5, I5, g5, f5⟩ := I4.pushed { cls := .type "list", data := .seq xs.toArray } rfl I4.st.toks
              refine k4 W3 _ _ x5 I5 ?_
              unfold Rep
              exact ⟨_, xs, rfl, f5, .inl ⟨0, g5⟩, I4.reps (s₁ := { s3 with heap := _ }) x5 Rxs⟩
            refine tail_any q3.l.typeIs slot_list_getitem.lookup ?_ rfl
            unfold sliceL at hl'
            split at hl'
            · split at hl'
              · rename_i hk
                cases hl'
                exact fin _ (pick_upto _ _ hk) (reps_take _ q4)
              · cases hl'
            · split at hl'
              · rename_i hk
                cases hl'
                exact fin _ (pick_from _ _ hk) (reps_drop _ q4)
              · cases hl'
            · cases hl'
          · cases hw
        · cases hw
      · cases he
    · cases he
  · cases he
end
end Mine
end
section
open PySem PySem.W PyProof.Rows
set_option Elab.async false
set_option maxRecDepth 100000
namespace Mine

section
variable {g : GC} {n : Nat} {sc : Scope} {names : List PySem.Str} {cf : CF} {e e₁ e₂ e₃ : Expr} {es : List Expr} {p p₁ p₂ p₃ ps : PE}

/-- the parts of an f-string -/
def JsOK (g : GC) (n : Nat) (sc : Scope) (names : List PySem.Str) (cf : CF) (es : List Expr) (pe : PE) : Prop :=
  (∀ cf r st l st', evs cf pe r st = some (l, st') → l.length = es.length) ∧
  ∀ (cn : PySem.Str) (a : Addr) (ccd : Value) (L : Addr) (W : Wd) (r : Rho) (st : Store) (A : Around) (s : Shared) (Q E : Value → Shared → Prop) (out x : PySem.Str) (l : List PVal) (st' : Store),
    Room (2 * n + 1) A → Inv g L names W r st s → evs cf pe r st = some (l, st') → catStrs l = some x → (out ++ x).length ≤ sizeLine →
    Ko g L names W r st' (.str (out ++ x)) Q s → wpAny g.M A (joinParts out (evalEach es (envX cn sc L a ccd []))) Q E s

theorem js_nil : JsOK g n sc names cf [] .nil := by
  refine ⟨fun cf r st l st' e => by unfold evs at e; cases e; rfl, fun cn a ccd L W r st A s Q E out x l st' hR I he hx hz k => ?_⟩
  unfold evs at he; cases he
  cases hx
  have eo : out ++ PySem.Str.empty = out := Str.append_empty out
  rw [eo] at hz k
  exact PyProof.Rows.joinParts_nil (k.str I (Nat.le_add_left _ _)) hz

theorem js_cons (h1 : EvOK g n sc names cf e p) (h2 : JsOK g n sc names cf es ps) : JsOK g n sc names cf (e :: es) (.cons p ps) := by
  refine ⟨fun cf r st l st' he => ?_, fun cn a ccd L W r st A s Q E out x l st' hR I he hx hz k => ?_⟩
  · unfold evs at he
    split at he
    · split at he
      · rename_i hl
        cases he
        simp [h2.1 _ _ _ _ _ hl]
      · cases he
    · cases he
  unfold evs at he
  split at he
  · rename_i v st1 hv
    split at he
    · rename_i l' st2 hl
      cases he
      cases v <;> simp only [catStrs, reduceCtorEq, Option.map_eq_some_iff] at hx
      rename_i y
      obtain ⟨z, hz', rfl⟩ := hx
      show wpAny g.M A (joinParts out (eval e _ :: evalEach es _)) Q E s
      have ea : out ++ (y ++ z) = (out ++ y) ++ z := (Str.append_assoc out y z).symm
      rw [ea] at hz k
      refine PyProof.Rows.joinParts_cons (h1 cn a ccd L W r st A s _ E _ st1 hR I hv fun W1 s1 c1 x1 I1 R1 => ?_)
      unfold Rep at R1
      obtain ⟨t, rfl⟩ := R1
      refine ⟨Nat.le_trans ?_ hz, h2.2 cn a ccd L W1 r st1 A s1 Q E (out ++ y) z l' _ hR I1 hl hz' hz (k.later x1 I1)⟩
      rw [strLen_append (out ++ y) z]; omega
    · cases he
  · cases he
theorem js_fail : JsOK g n sc names cf es .fail := ⟨(fun cf r st l st' e => by unfold evs at e; cases e), fun cn a ccd L W r st A s Q E out x l st' hR I he => by unfold evs at he; cases he⟩

theorem ev_fstr1 {pos : Pos} (h1 : EvOK g n sc names cf e p) : EvOK g n sc names cf (.JoinedStr [e] pos) (.fstr (.cons p .nil)) := by
  intro cn a ccd L W r st A s Q E v st' hR I he k
  unfold ev at he
  split at he
  · rename_i l st1 hl
    unfold evs at hl
    split at hl
    · rename_i v st2 hv
      unfold evs at hl
      cases hl
      split at he
      · rename_i x hx
        split at he
        · cases he
          cases v <;> simp only [catStrs, reduceCtorEq, Option.map_some, Option.some.injEq] at hx
          subst hx
          refine JoinedStr_one (h1 cn a ccd L W r st A s Q E _ _ hR I hv ?_)
          have eo : ∀ y : PySem.Str, y ++ PySem.Str.empty = y := Str.append_empty
          rw [eo] at k
          exact k
        · cases he
      · cases he
    · cases hl
  · cases he

theorem ev_fstr {pos : Pos} (h1 : ∀ e', es ≠ [e']) (h2 : JsOK g n sc names cf es ps) : EvOK g n sc names cf (.JoinedStr es pos) (.fstr ps) := by
  intro cn a ccd L W r st A s Q E v st' hR I he k
  unfold ev at he
  split at he
  · rename_i l st1 hl
    split at he
    · rename_i x hx
      split at he
      · rename_i hz
        cases he
        have z1 : (PySem.Str.empty ++ x).length ≤ sizeLine := by rw [Str.empty_append]; have := slim_size hz; omega
        have z2 : Ko g L names W r st' (.str (PySem.Str.empty ++ x)) Q s := by rw [Str.empty_append]; exact k
        match es, h1 with
        | [], _ => exact h2.2 cn a ccd L W r st A s Q E PySem.Str.empty x l _ hR I hl hx z1 z2
        | [e'], h1 => exact absurd rfl (h1 e')
        | e1 :: e2 :: rest, _ => exact JoinedStr_many (h2.2 cn a ccd L W r st A s Q E PySem.Str.empty x l _ hR I hl hx z1 z2)
      · cases he
    · cases he
  · cases he

theorem ev_fval {pos : Pos} (h1 : EvOK g n sc names cf e p) : EvOK g n sc names cf (.FormattedValue e (-1) none pos) (.fval p) := by
  intro cn a ccd L W r st A s Q E v st' hR I he k
  unfold ev at he
  split at he
  · rename_i x st1 hx
    obtain ⟨y, hy, ee⟩ := Option.map_eq_some_iff.mp he
    cases ee
    refine FormattedValue_plain (h1 cn a ccd L W r st A s _ E x _ hR I hx fun W1 s1 c1 x1 I1 R1 => ?_)
    have k' := k.later x1 I1
    cases x <;> simp only [fvalP, reduceCtorEq] at hy
    · split at hy
      · rename_i hf
        cases hy
        unfold Rep at R1; obtain ⟨t, rfl⟩ := R1
        exact wpAny_formatField_int (fit_log hf) (k'.str I1 (by omega))
      · cases hy
    · split at hy
      · rename_i hl
        cases hy
        have R1' := R1
        unfold Rep at R1; obtain ⟨t, rfl⟩ := R1
        exact wpAny_formatField_str (k' W1 s1 _ (Ext.refl _ _ _) I1 R1') (k'.str I1 (Nat.le_add_left _ _)) (by have := slim_size hl; omega)
      · cases hy
  · cases he

theorem St.notX {W : Wd} {st : Store} {s : Shared} (S : St g W st s) {a : Addr} {o : Obj} (h : g.K.lookup a = some o) : a ∉ W.X := fun q => by
  have := S.xb a q
  rw [g.KI a o h] at this
  cases this

def powL : List Value := [.int (10 ^ 3) 699, .int (10 ^ 6) 700, .int (10 ^ 9) 701, .int (10 ^ 12) 702, .int (10 ^ 15) 703, .int (10 ^ 18) 704, .int (10 ^ 21) 705, .int (10 ^ 24) 706, .int (10 ^ 27) 707, .int (10 ^ 30) 708, .int (10 ^ 33) 709, .int (10 ^ 100) 710]
theorem kf_pow (P : Params) : (KK P).lookup 263 = some (listOf powL.toArray 0) := by kernel_rfl

theorem ev_powers {px : Pos} (hkd : sc.kind = .function) (hl : sc.names.lookup (PySem.Str.ofString "powers") = some .globalImplicit) : EvOK g n sc names cf (.Name (PySem.Str.ofString "powers") px) .powers := by
  intro cn a ccd L W r st A s Q E v st' hR I he k
  unfold ev at he
  cases he
  obtain ⟨m, F, hm⟩ := I.fr
  refine nameX_K F g.KI (topRead_of g.T) (kf_g1 _) (k W s _ (Ext.refl _ _ _) I ?_) hkd hl (by decide +kernel)
  unfold Rep
  refine ⟨263, powL, rfl, I.st.notX (kf_pow _), .inl ⟨0, I.st.KIn _ _ (kf_pow _)⟩, ?_⟩
  unfold powersV powL
  simp only [List.map_cons, List.map_nil]
  repeat (unfold Reps; refine ⟨_, _, rfl, ?_, ?_⟩; (unfold Rep; exact ⟨_, rfl⟩))
  unfold Reps; rfl

theorem kf_hum0 (P : Params) : (KK P).lookup 276 = some { cls := .type "tuple", data := .seq ((List.range 12).map fun i => Value.ref (264 + i)).toArray } := by kernel_rfl
def humN : List String := ["thousand", "million", "billion", "trillion", "quadrillion", "quintillion", "sextillion", "septillion", "octillion", "nonillion", "decillion", "googol"]
def humT (x : String) (t : Tok) : Obj := { cls := .type "tuple", data := .seq [Value.str (PySem.Str.ofString x) t, Value.str (PySem.Str.ofString x) (t + 1)].toArray }
theorem kf_hum (P : Params) : [(KK P).lookup 264, (KK P).lookup 265, (KK P).lookup 266, (KK P).lookup 267, (KK P).lookup 268, (KK P).lookup 269, (KK P).lookup 270, (KK P).lookup 271, (KK P).lookup 272, (KK P).lookup 273, (KK P).lookup 274, (KK P).lookup 275] =
   [some (humT "thousand" 712), some (humT "million" 714), some (humT "billion" 716), some (humT "trillion" 718), some (humT "quadrillion" 720), some (humT "quintillion" 722), some (humT "sextillion" 724), some (humT "septillion" 726), some (humT "octillion" 728), some (humT "nonillion" 730), some (humT "decillion" 732), some (humT "googol" 734)] := by kernel_rfl
theorem kf_human (P : Params) : nsIn (KK P) mainGlobals "human_powers" = some (some (.ref 276)) := by kernel_rfl

theorem ev_human {px : Pos} (hkd : sc.kind = .function) (hl : sc.names.lookup (PySem.Str.ofString "human_powers") = some .globalImplicit) : EvOK g n sc names cf (.Name (PySem.Str.ofString "human_powers") px) .human := by
  intro cn a ccd L W r st A s Q E v st' hR I he k
  unfold ev at he
  cases he
  obtain ⟨m, F, hm⟩ := I.fr
  refine nameX_K F g.KI (topRead_of g.T) (kf_human _) (k W s _ (Ext.refl _ _ _) I ?_) hkd hl (by decide +kernel)
  unfold Rep
  refine ⟨276, (List.range 12).map fun i => Value.ref (264 + i), rfl, I.st.notX (kf_hum0 _), ⟨_, I.st.KIn _ _ (kf_hum0 _), rfl, _, rfl⟩, ?_⟩
  have h := kf_hum g.w.params
  simp only [List.cons.injEq, and_true] at h
  have one : ∀ {b : Addr} {x : String} {t : Tok}, g.K.lookup b = some (humT x t) → Rep s.heap W (.tup [.str (PySem.Str.ofString x), .str (PySem.Str.ofString x)]) (.ref b) := fun hb => by
    unfold Rep
    exact ⟨_, _, rfl, I.st.notX hb, ⟨_, I.st.KIn _ _ hb, rfl, _, rfl⟩, reps2 (by unfold Rep; exact ⟨_, rfl⟩) (by unfold Rep; exact ⟨_, rfl⟩)⟩
  obtain ⟨h1, h2, h3, h4, h5, h6, h7, h8, h9, h10, h11, h12⟩ := h
  unfold humanV
  simp only [List.map_cons, List.map_nil, List.range, List.range.loop]
  unfold Reps; refine ⟨_, _, rfl, one h1, ?_⟩
  unfold Reps; refine ⟨_, _, rfl, one h2, ?_⟩
  unfold Reps; refine ⟨_, _, rfl, one h3, ?_⟩
  unfold Reps; refine ⟨_, _, rfl, one h4, ?_⟩
  unfold Reps; refine ⟨_, _, rfl, one h5, ?_⟩
  unfold Reps; refine ⟨_, _, rfl, one h6, ?_⟩
  unfold Reps; refine ⟨_, _, rfl, one h7, ?_⟩
  unfold Reps; refine ⟨_, _, rfl, one h8, ?_⟩
  unfold Reps; refine ⟨_, _, rfl, one h9, ?_⟩
  unfold Reps; refine ⟨_, _, rfl, one h10, ?_⟩
  unfold Reps; refine ⟨_, _, rfl, one h11, ?_⟩
  unfold Reps; refine ⟨_, _, rfl, one h12, ?_⟩
  unfold Reps; rfl
end
end Mine
end
section
open PySem PySem.W PyProof.Rows
set_option Elab.async false
set_option maxRecDepth 100000
namespace Mine

theorem lk_upd {v u : PVal} : ∀ {r : Rho} {i j : Nat}, lk (upd r i v) j = some u → (j = i ∧ u = v) ∨ (j ≠ i ∧ lk r j = some u)
  | [], i, j, h => by simp [upd, lk] at h
  | a :: r, 0, 0, h => by simp only [upd, lk, Option.some.injEq] at h; exact .inl ⟨rfl, h.symm⟩
  | a :: r, 0, j + 1, h => .inr ⟨by omega, h⟩
  | a :: r, i + 1, 0, h => .inr ⟨by omega, h⟩
  | a :: r, i + 1, j + 1, h => by
    simp only [upd, lk] at h
    rcases lk_upd h with ⟨e, e'⟩ | ⟨e, e'⟩
    · exact .inl ⟨by omega, e'⟩
    · exact .inr ⟨by omega, e'⟩

theorem upd_comm {v u : PVal} : ∀ {r : Rho} {i j : Nat}, i ≠ j → upd (upd r i v) j u = upd (upd r j u) i v
  | [], _, _, _ => rfl
  | a :: r, 0, 0, h => absurd rfl h
  | a :: r, 0, j + 1, _ => rfl
  | a :: r, i + 1, 0, _ => rfl
  | a :: r, i + 1, j + 1, h => by simp only [upd]; rw [upd_comm (by omega)]

theorem upds_upd {i : Nat} {v : PVal} : ∀ {js : List Nat} {ws : List PVal} {r : Rho}, i ∉ js → upds (upd r i v) js ws = (upds r js ws).map (upd · i v)
  | [], [], r, _ => rfl
  | [], _ :: _, r, _ => rfl
  | _ :: _, [], r, _ => rfl
  | j :: js, w :: ws, r, h => by
    simp only [List.mem_cons, not_or] at h
    show upds (upd (upd r i v) j w) js ws = (upds (upd r j w) js ws).map _
    rw [upd_comm h.1, upds_upd h.2]

theorem upds_snoc {i : Nat} {v : PVal} : ∀ {js : List Nat} {ws : List PVal} {r : Rho}, js.length = ws.length → upds r (js ++ [i]) (ws ++ [v]) = (upds r js ws).map (upd · i v)
  | [], [], r, _ => rfl
  | [], _ :: _, r, h => by simp at h
  | _ :: _, [], r, h => by simp at h
  | j :: js, w :: ws, r, h => upds_snoc (js := js) (ws := ws) (r := upd r j w) (by simpa using h)

theorem upds_len : ∀ {js : List Nat} {ws : List PVal} {r r' : Rho}, upds r js ws = some r' → js.length = ws.length
  | [], [], _, _, _ => rfl
  | [], _ :: _, _, _, h => by simp [upds] at h
  | _ :: _, [], _, _, h => by simp [upds] at h
  | j :: js, w :: ws, r, r', h => by
    have := upds_len (js := js) (ws := ws) (r := upd r j w) h
    simp [this]

theorem upds_rev : ∀ {js : List Nat} {ws : List PVal} {r r' : Rho}, js.Nodup → upds r js ws = some r' → upds r js.reverse ws.reverse = some r'
  | [], [], r, r', _, h => h
  | [], _ :: _, _, _, _, h => by simp [upds] at h
  | _ :: _, [], _, _, _, h => by simp [upds] at h
  | j :: js, w :: ws, r, r', nd, h => by
    have hl := upds_len h
    simp only [List.length_cons, Nat.add_right_cancel_iff] at hl
    rw [List.nodup_cons] at nd
    have h1 : upds (upd r j w) js ws = some r' := h
    have h2 := upds_rev nd.2 h1
    rw [List.reverse_cons, List.reverse_cons, upds_snoc (by simp [hl]), ← upds_upd (by simpa using nd.1)]
    exact h2

section
variable {g : GC} {n : Nat} {sc : Scope} {names : List PySem.Str} {cf : CF} {fuel : Nat} {e e₁ e₂ e₃ : Expr} {es : List Expr} {p p₁ p₂ p₃ ps : PE}

def FlRep (h : Heap) (W : Wd) : Fl → Flow → Prop
  | .next, f => f = .next
  | .ret v, f => ∃ cv, f = .ret cv ∧ Rep h W v cv

abbrev Kf (g : GC) (L : Addr) (names : List PySem.Str) (W : Wd) (r' : Rho) (st' : Store) (fl : Fl) (Q : Flow → Shared → Prop) (s : Shared) : Prop :=
  ∀ W' s' f, Ext [L] W W' s.heap s'.heap → Inv g L names W' r' st' s' → FlRep s'.heap W' fl f → Q f s'

theorem Kf.later {L : Addr} {W W₁ : Wd} {r₁ r' : Rho} {st₁ st' : Store} {s s₁ : Shared} {fl : Fl} {Q : Flow → Shared → Prop} (k : Kf g L names W r' st' fl Q s) (x : Ext [L] W W₁ s.heap s₁.heap) (I : Inv g L names W₁ r₁ st₁ s₁) : Kf g L names W₁ r' st' fl Q s₁ :=
  fun W' s' f y I' R => k W' s' f (Inv.trans x I y) I' R

def StOK (g : GC) (n : Nat) (sc : Scope) (names : List PySem.Str) (cf : CF) (fuel : Nat) (xs : List Stmt) (ps : PS) : Prop :=
  ∀ (cn : PySem.Str) (a : Addr) (ccd : Value) (L : Addr) (W : Wd) (r : Rho) (st : Store) (A : Around) (s : Shared) (Q : Flow → Shared → Prop) (E : Value → Shared → Prop) (fl : Fl) (r' : Rho) (st' : Store),
    Room (2 * n + 1) A → Inv g L names W r st s → ex fuel cf ps r st = some (fl, r', st') → Kf g L names W r' st' fl Q s → wpAny g.M A (execs xs (envX cn sc L a ccd [])) Q E s
def S1OK (g : GC) (n : Nat) (sc : Scope) (names : List PySem.Str) (cf : CF) (fuel : Nat) (x : Stmt) (ps : PS) : Prop :=
  ∀ (cn : PySem.Str) (a : Addr) (ccd : Value) (L : Addr) (W : Wd) (r : Rho) (st : Store) (A : Around) (s : Shared) (Q : Flow → Shared → Prop) (E : Value → Shared → Prop) (fl : Fl) (r' : Rho) (st' : Store),
    Room (2 * n + 1) A → Inv g L names W r st s → ex fuel cf ps r st = some (fl, r', st') → Kf g L names W r' st' fl Q s → wpAny g.M A (exec x (envX cn sc L a ccd [])) Q E s

theorem st_nil : StOK g n sc names cf fuel [] .skip := by
  intro cn a ccd L W r st A s Q E fl r' st' hR I he k
  unfold ex at he; cases he
  exact wpAny_execs_nil (k W s _ (Ext.refl _ _ _) I rfl)

theorem st_cons {x : Stmt} {xs : List Stmt} {q qs : PS} (h1 : S1OK g n sc names cf fuel x q) (h2 : StOK g n sc names cf fuel xs qs) : StOK g n sc names cf fuel (x :: xs) (.seq q qs) := by
  intro cn a ccd L W r st A s Q E fl r' st' hR I he k
  unfold ex at he
  split at he
  · rename_i r1 st1 h
    refine wpAny_execs_cons (h1 cn a ccd L W r st A s _ E _ r1 st1 hR I h fun W1 s1 f x1 I1 R1 => ?_)
    obtain rfl : f = .next := R1
    exact h2 cn a ccd L W1 r1 st1 A s1 Q E fl r' st' hR I1 he (k.later x1 I1)
  · rename_i hne
    cases fl with
    | next => exact absurd he (hne _ _)
    | ret v =>
      refine wpAny_execs_cons (h1 cn a ccd L W r st A s _ E _ r' st' hR I he fun W1 s1 f x1 I1 R1 => ?_)
      obtain ⟨cv, rfl, R⟩ := R1
      exact k W1 s1 _ x1 I1 ⟨cv, rfl, R⟩
theorem s1_fail {x : Stmt} : S1OK g n sc names cf fuel x .fail := by
  intro cn a ccd L W r st A s Q E fl r' st' hR I he k
  unfold ex at he; cases he

/-- all that stood stands -/
theorem Inv.grown {L : Addr} {W : Wd} {r : Rho} {st : Store} {s : Shared} {h' : Heap} {k : Nat} (I : Inv g L names W r st s) (hk : 1 ≤ k) (keep : ∀ b o, s.heap.get? b = some o → h'.get? b = some o) :
    Ext [L] W W s.heap h' ∧ Inv g L names W r st { s with heap := h', toks := k } := by
  have x : Ext [] W W s.heap h' := ⟨fun b o e _ _ => keep b o e, ⟨[], by simp⟩, ⟨[], by simp⟩⟩
  have S := I.st
  obtain ⟨m, F, hm⟩ := I.fr
  obtain ⟨o, es, ep, h1, h2⟩ := F.ns
  have hL := keep _ _ h1
  refine ⟨x.more, I.step (s' := { s with heap := h', toks := k }) x ⟨fun b o e => keep b o (S.keep b o e), S.xb, fun a ha => ?_, S.sub, S.nd, S.len, fun i l hi => ?_, S.gens, S.os, hk, Nat.le_trans F.above (Nat.le_of_lt (Heap.lt_size hL))⟩⟩
  · obtain ⟨o, ho⟩ := S.xs a ha; exact ⟨o, keep _ _ ho⟩
  · obtain ⟨a, vs, h1, h2, h3⟩ := S.cells i l hi
    exact ⟨a, vs, h1, LL.keeps h2 (fun o ho => keep a o ho), I.reps (s₁ := { s with heap := h' }) x.more h3⟩

/-- a local's store -/
theorem Inv.put {L : Addr} {W : Wd} {r : Rho} {st : Store} {s : Shared} {h' : Heap} {k : Nat} {i : Nat} {x : PySem.Str} {v : PVal} {cv : Value} {m : PySem.Str → Option Value} (I : Inv g L names W r st s) (hk : 1 ≤ k) (hi : names[i]? = some x) (nd : names.Nodup) (R : Rep s.heap W v cv)
    (F : Fr g.base L s.heap m) (hm : ∀ i v, lk r i = some v → ∃ x cv, names[i]? = some x ∧ m x = some cv ∧ Rep s.heap W v cv)
    (hn : h'.Ns L (fun y => if y = x then some cv else m y)) (hs : Heap.SameBut L s.heap h') :
    Ext [L] W W s.heap h' ∧ Inv g L names W (upd r i v) st { s with heap := h', toks := k } := by
  have ext : Ext [L] W W s.heap h' := ⟨fun b o e hb _ => (hs.2 b fun q => hb (by rw [q]; exact List.mem_singleton.mpr rfl)).trans e, ⟨[], by simp⟩, ⟨[], by simp⟩⟩
  have S := I.st
  have F' := F.set hn hs
  obtain ⟨oL, _, _, hL, _⟩ := F'.ns
  refine ⟨ext, ⟨⟨F'.keep, S.xb, fun a ha => ?_, S.sub, S.nd, S.len, fun i l hi => ?_, S.gens, S.os, hk, Nat.le_trans F.above (Nat.le_of_lt (Heap.lt_size hL))⟩, I.mem, I.notC, _, F', fun j u hj => ?_⟩⟩
  · by_cases q : a = L
    · exact ⟨oL, q ▸ hL⟩
    · obtain ⟨o, ho⟩ := S.xs a ha
      exact ⟨o, (hs.2 a q).trans ho⟩
  · obtain ⟨a, vs, h1, h2, h3⟩ := S.cells i l hi
    have hac : a ∈ W.C := (List.getElem?_eq_some_iff.mp h1).2 ▸ List.getElem_mem _
    exact ⟨a, vs, h1, LL.keeps h2 (fun o ho => (hs.2 a fun q => I.notC (q ▸ hac)).trans ho), I.reps (s₁ := { s with heap := h' }) ext h3⟩
  · rcases lk_upd hj with ⟨rfl, rfl⟩ | ⟨hne, hj'⟩
    · exact ⟨x, cv, hi, if_pos rfl, I.rep (s₁ := { s with heap := h' }) ext R⟩
    · obtain ⟨y, cw, h1, h2, h3⟩ := hm j u hj'
      have hxy : y ≠ x := by
        rintro rfl
        obtain ⟨b1, c1⟩ := List.getElem?_eq_some_iff.mp h1
        obtain ⟨b2, c2⟩ := List.getElem?_eq_some_iff.mp hi
        exact hne ((List.getElem_inj nd).mp (c1.trans c2.symm))
      exact ⟨y, cw, h1, by rw [if_neg hxy]; exact h2, I.rep (s₁ := { s with heap := h' }) ext h3⟩

theorem store_ok (hN : NamesOK sc names) {cn : PySem.Str} {a : Addr} {ccd : Value} {L : Addr} {W : Wd} {r : Rho} {st : Store} {s : Shared} {A : Around} {Q : Unit → Shared → Prop} {E : Value → Shared → Prop} {i : Nat} {x : PySem.Str} {v : PVal} {cv : Value} (I : Inv g L names W r st s) (hi : names[i]? = some x) (R : Rep s.heap W v cv)
    (k : ∀ s', Ext [L] W W s.heap s'.heap → Inv g L names W (upd r i v) st s' → Q () s') : wpAny g.M A (storeName (envX cn sc L a ccd []) x cv) Q E s := by
  obtain ⟨m, F, hm⟩ := I.fr
  refine wpAny_storeName_local (hN.loc i x hi).1 F.ns (fun h' hn hs => ?_) (by show (sc.kind == .class || (sc.kind == .module && _)) = false; rw [hN.kind]; rfl)
  obtain ⟨x', I'⟩ := I.put (k := s.toks + 1) (Nat.le_add_left _ _) hi hN.nd R F hm hn hs
  exact k _ x' I'

theorem s_asg (hN : NamesOK sc names) {x : PySem.Str} {px pos : Pos} {i : Nat} (hi : names[i]? = some x) (hs : ∀ env, swapsWith e (some (.Name x px)) pos.line env = pure false) (h1 : EvOK g n sc names cf e p) : S1OK g n sc names cf fuel (.Assign [.Name x px] e pos) (.asg i p) := by
  intro cn a ccd L W r st A s Q E fl r' st' hR I he k
  unfold ex at he
  split at he
  · rename_i v st1 hv
    cases he
    refine wpAny_Assign_Name (h1 cn a ccd L W r st A s _ E v _ hR I hv fun W1 s1 c1 x1 I1 R1 => ?_) (hs _)
    exact store_ok hN I1 hi R1 fun s2 x2 I2 => k W1 s2 _ (Inv.trans x1 I1 x2) I2 rfl
  · cases he

theorem s_ret {pos : Pos} (h1 : EvOK g n sc names cf e p) : S1OK g n sc names cf fuel (.Return (some e) pos) (.ret p) := by
  intro cn a ccd L W r st A s Q E fl r' st' hR I he k
  unfold ex at he
  split at he
  · rename_i v st1 hv
    cases he
    exact wpAny_Return_some (h1 cn a ccd L W r st A s _ E v _ hR I hv fun W1 s1 c1 x1 I1 R1 => k W1 s1 _ x1 I1 ⟨c1, rfl, R1⟩)
  · cases he

theorem s_if {pos : Pos} {xs ys : List Stmt} {q₁ q₂ : PS} (h1 : TsOK g n sc names cf e p) (h2 : StOK g n sc names cf fuel xs q₁) (h3 : StOK g n sc names cf fuel ys q₂) : S1OK g n sc names cf fuel (.If e xs ys pos) (.ite p q₁ q₂) := by
  intro cn a ccd L W r st A s Q E fl r' st' hR I he k
  unfold ex at he
  split at he
  · rename_i v st1 hv
    split at he
    · rename_i ht
      refine wpAny_If (h1 cn a ccd L W r st A s _ E v st1 true hR I hv ht fun W1 s1 x1 I1 => ?_)
      rw [if_pos rfl]
      exact h2 cn a ccd L W1 r st1 A s1 Q E fl r' st' hR I1 he (k.later x1 I1)
    · rename_i ht
      refine wpAny_If (h1 cn a ccd L W r st A s _ E v st1 false hR I hv ht fun W1 s1 x1 I1 => ?_)
      rw [if_neg (by decide)]
      exact h3 cn a ccd L W1 r st1 A s1 Q E fl r' st' hR I1 he (k.later x1 I1)
    · cases he
  · cases he

theorem s_try {pos : Pos} {xs : List Stmt} {hd : ExceptHandler} {hs : List ExceptHandler} {q : PS} (h2 : StOK g n sc names cf fuel xs q) : S1OK g n sc names cf fuel (.Try xs (hd :: hs) [] [] pos) (.tryy q) := by
  intro cn a ccd L W r st A s Q E fl r' st' hR I he k
  unfold ex at he
  refine wpAny_Try_except (h2 cn a ccd L W r st A s _ _ fl r' st' hR I he fun W1 s1 f x1 I1 R1 => ?_)
  cases fl with
  | next =>
    obtain rfl : f = .next := R1
    exact wpAny_execs_nil (k W1 s1 _ x1 I1 rfl)
  | ret v =>
    obtain ⟨cv, rfl, R⟩ := R1
    exact k W1 s1 _ x1 I1 ⟨cv, rfl, R⟩

theorem s_while {pos : Pos} {xs : List Stmt} {q : PS} (h1 : TsOK g n sc names cf e p) (h2 : StOK g n sc names cf fuel xs q) : S1OK g n sc names cf fuel (.While e xs [] pos) (.whl p q) := by
  intro cn a ccd L W r st A s Q E fl r' st' hR I he k
  unfold ex at he
  refine wpAny_While (codeAny_whileLoop (fun m s' => ∃ W' r₁ st₁, Ext [L] W W' s.heap s'.heap ∧ Inv g L names W' r₁ st₁ s' ∧ whileP (ev cf p) (ex fuel cf q) m r₁ st₁ = some (fl, r', st')) ?_ fuel ⟨W, r, st, Ext.refl _ _ _, I, he⟩)
  rintro m s' ⟨W', r₁, st₁, x', I', he'⟩
  cases m with
  | zero => cases he'
  | succ m =>
    unfold whileP at he'
    split at he'
    · rename_i v st2 hv
      split at he'
      · rename_i ht
        refine h1 cn a ccd L W' r₁ st₁ A s' _ _ v st2 true hR I' hv ht fun W1 s1 x1 I1 => ?_
        rw [if_pos rfl]
        split at he'
        · rename_i r2 st3 hb
          refine h2 cn a ccd L W1 r₁ st2 A s1 _ _ _ r2 st3 hR I1 hb fun W2 s2 f x2 I2 R2 => ?_
          obtain rfl : f = .next := R2
          exact ⟨m, Nat.lt_succ_self _, W2, r2, st3, Inv.trans x' I' (Inv.trans x1 I1 x2), I2, he'⟩
        · rename_i hne
          cases fl with
          | next => exact absurd he' (hne _ _)
          | ret v =>
            refine h2 cn a ccd L W1 r₁ st2 A s1 _ _ _ r' st' hR I1 he' fun W2 s2 f x2 I2 R2 => ?_
            obtain ⟨cv, rfl, R⟩ := R2
            exact k W2 s2 _ (Inv.trans x' I' (Inv.trans x1 I1 x2)) I2 ⟨cv, rfl, R⟩
      · rename_i ht
        cases he'
        refine h1 cn a ccd L W' _ st₁ A s' _ _ v _ false hR I' hv ht fun W1 s1 x1 I1 => ?_
        rw [if_neg (by decide)]
        exact wpAny_execs_nil (k W1 s1 _ (Inv.trans x' I' x1) I1 rfl)
      · cases he'
    · cases he'

/-- a tuple of names as targets -/
inductive Tg (names : List PySem.Str) : List Expr → List Nat → Prop
  | nil : Tg names [] []
  | cons {x : PySem.Str} {px : Pos} {i : Nat} {rest : List Expr} {js : List Nat} : names[i]? = some x → Tg names rest js → Tg names (.Name x px :: rest) (i :: js)

theorem assign_tg (hN : NamesOK sc names) {cn : PySem.Str} {a : Addr} {ccd : Value} {L : Addr} {A : Around} {Q : Unit → Shared → Prop} {E : Value → Shared → Prop} {W : Wd} {st : Store} {r' : Rho}
    {elts : List Expr} {is : List Nat} (ht : Tg names elts is) : ∀ {l : List PVal} {vs : List Value} {r : Rho} {s : Shared}, upds r is l = some r' → Inv g L names W r st s → Reps s.heap W l vs →
    (∀ s', Ext [L] W W s.heap s'.heap → Inv g L names W r' st s' → Q () s') → wpAny g.M A (assignInOrder ((assignEach elts (envX cn sc L a ccd [])).map (·.2)) vs) Q E s := by
  induction ht with
  | nil =>
    intro l vs r s hu I R k
    cases l with
    | nil =>
      cases hu
      exact PyProof.Rows.assignInOrder_nil (k s (Ext.refl _ _ _) I)
    | cons _ _ => simp [upds] at hu
  | @cons x px i rest js hi ht ih =>
    intro l vs r s hu I R k
    cases l with
    | nil => simp [upds] at hu
    | cons v l =>
      unfold Reps at R
      obtain ⟨cv, cr, rfl, R1, R2⟩ := R
      have ea : (assignEach (.Name x px :: rest) (envX cn sc L a ccd [])).map (·.2) = assign (.Name x px) (envX cn sc L a ccd []) :: (assignEach rest (envX cn sc L a ccd [])).map (·.2) := rfl
      rw [ea]
      refine PyProof.Rows.assignInOrder_cons (PyProof.Rows.assign_Name (store_ok hN I hi R1 fun s1 x1 I1 => ?_))
      exact ih hu I1 (I.reps x1 R2) fun s2 x2 I2 => k s2 (Inv.trans x1 I1 x2) I2

theorem tg_plain {elts : List Expr} {is : List Nat} {env : Env} (h : Tg names elts is) : (assignEach elts env).length = is.length ∧ (assignEach elts env).findIdx? (·.1) = none := by
  induction h with
  | nil => exact ⟨rfl, rfl⟩
  | @cons x px i rest js hi ht ih =>
    have ea : assignEach (.Name x px :: rest) env = (false, assign (.Name x px) env) :: assignEach rest env := rfl
    rw [ea]
    refine ⟨by simp [ih.1], ?_⟩
    rw [List.findIdx?_cons, ih.2]; rfl

theorem draw_list {w : World} {prog : Program} {A : Around} {E : Value → Shared → Prop} {it t : Addr} {items : Array Value} (hne : t ≠ it) : ∀ (n i : Nat) (s : Shared) (Q : List Value → Shared → Prop), s.heap.IsListIter it t i → s.heap.IsList t items → i + n ≤ items.size →
    (∀ h', h'.IsListIter it t (i + n) → Heap.SameBut it s.heap h' → Q ((items.toList.drop i).take n) { s with heap := h' }) → wpAny (model prog w) A (draw (.ref it) n) Q E s
  | 0, i, s, Q, hit, _, _, hQ => by
    show wpAny _ _ (pure []) Q E s
    exact wpAny_pure (by simpa using hQ s.heap hit (Heap.SameBut.refl ..))
  | n + 1, i, s, Q, hit, ht, hle, hQ => by
    have hlt : i < items.size := by omega
    show wpAny _ _ (pyNext (.ref it) >>= _) Q E s
    refine wpAny_bind (wpAny_pyNext_list_item hit ht (x := items[i]) (by simp [hlt]) fun h₁ hit₁ hs₁ => ?_)
    refine wpAny_bind (wpAny_holding (draw_list hne n (i + 1) _ _ hit₁ (ht.extBut hs₁.extBut hne) (by omega) fun h₂ hit₂ hs₂ => wpAny_pure ?_))
    have hd : items.toList.drop i = items[i] :: items.toList.drop (i + 1) := by simp [List.drop_eq_getElem_cons, hlt]
    have := hQ h₂ (by rw [show i + (n + 1) = i + 1 + n by omega]; exact hit₂) (hs₁.trans hs₂)
    rw [hd, List.take_succ_cons] at this
    exact this

theorem unpackItems_list {w : World} {prog : Program} {A : Around} {E : Value → Shared → Prop} {s : Shared} {t : Addr} {items : Array Value} {Q : List Value → Shared → Prop} (hh : A.handled = none) (ht : s.heap.IsList t items)
    (hQ : ∀ h', Heap.ExtBut s.heap.objs.size s.heap h' → Q items.toList { s with heap := h' }) : wpAny (model prog w) A (unpackItems (.ref t) items.size none) Q E s := by
  have hlt : t ≠ s.heap.objs.size := by obtain ⟨o, ho, _⟩ := ht; exact Nat.ne_of_lt (Heap.lt_size ho)
  unfold unpackItems
  refine wpAny_bind ?_
  · unfold notIterableAtAll
    refine wpAny_bind (wpAny_specialOf ht.typeIs slot_list_iter.lookup ?_)
    refine wpAny_pure ?_
    simp only [Bool.false_eq_true, if_false]
    refine wpAny_bind (wpAny_holding (wpAny_pyIter_list ht ?_))
    refine wpAny_bind (wpAny_holding (draw_list hlt items.size 0 _ _ ⟨_, Heap.get?_push_size _ rfl, rfl, rfl⟩ (ht.push _) (by omega) fun h₁ hit₁ hs₁ => ?_))
    have hall : List.take items.size (List.drop 0 items.toList) = items.toList := by
      rw [List.drop_zero]; exact List.take_of_length_le (by simp)
    rw [hall]
    rw [if_neg (by simp)]
    have ht₁ : h₁.IsList t items := (ht.push _).extBut hs₁.extBut hlt
    refine wpAny_bind (wpAny_holding (wpAny_pyNext_list_end hh hit₁ ht₁ (by simp) fun h₂ he₂ => ?_))
    simp only [Option.isSome_none, Bool.false_eq_true, if_false]
    refine wpAny_pure (hQ h₂ fun b o hb e => he₂ b o hb (hs₁.extBut b o hb (Heap.get?_push_of_some _ e)))

theorem s_unp (hN : NamesOK sc names) {elts : List Expr} {kk : Nat} {tp pos : Pos} {is : List Nat} (ht : Tg names elts is) (hs : ∀ env, swapsWithSole [.Tuple elts kk tp] e pos.line env = pure false) (hw : ∀ cn L a ccd, swappedStores [.Tuple elts kk tp] e (envX cn sc L a ccd []) = pure none) (h1 : EvOK g n sc names cf e p) : S1OK g n sc names cf fuel (.Assign [.Tuple elts kk tp] e pos) (.unp is p) := by
  intro cn a ccd L W r st A s Q E fl r' st' hR I he k
  obtain ⟨hl, hst⟩ := tg_plain (env := envX cn sc L a ccd []) ht
  unfold ex at he
  split at he
  · rename_i l st1 hv
    obtain ⟨r1, hu, ee⟩ := Option.map_eq_some_iff.mp he
    cases ee
    refine PyProof.Rows.Assign_Tuple (h1 cn a ccd L W r st A s _ E _ _ hR I hv fun W1 s1 c1 x1 I1 R1 => ?_) (hs _) (hw _ _ _ _)
    have R1' := R1
    unfold Rep at R1'
    obtain ⟨b, vs, rfl, q2, q3, q4⟩ := R1'
    refine PyProof.Rows.assign_Tuple_tuple hR.handled q3 (by rw [hl, upds_len hu, List.size_toArray, q4.length]) hst fun h' he' => ?_
    obtain ⟨x2, I2⟩ := I1.grown (h' := h') I1.st.toks fun b o e => he' b o (Nat.ne_of_lt (Heap.lt_size e)) e
    exact assign_tg hN ht hu I2 (I1.reps (s₁ := { s1 with heap := h' }) x2 q4) fun s3 x3 I3 => k W1 s3 _ (Inv.trans x1 I1 (Inv.trans (s₁ := { s1 with heap := h' }) x2 I2 x3)) I3 rfl
  · rename_i l st1 hv
    obtain ⟨r1, hu, ee⟩ := Option.map_eq_some_iff.mp he
    cases ee
    refine PyProof.Rows.Assign_Tuple (h1 cn a ccd L W r st A s _ E _ _ hR I hv fun W1 s1 c1 x1 I1 R1 => ?_) (hs _) (hw _ _ _ _)
    have R1' := R1
    unfold Rep at R1'
    obtain ⟨b, vs, rfl, q2, q3, q4⟩ := R1'
    rw [PyProof.Rows.assign_Tuple]
    refine wpAny_bind (wpAny_standAt ?_)
    unfold unpack
    have hsz : is.length = vs.toArray.size := by rw [upds_len hu, List.size_toArray, q4.length]
    rw [hl, hst, hsz]
    refine wpAny_bind (wpAny_holding (unpackItems_list hR.handled q3.l fun h' he' => ?_))
    obtain ⟨x2, I2⟩ := I1.grown (h' := h') I1.st.toks fun b o e => he' b o (Nat.ne_of_lt (Heap.lt_size e)) e
    exact assign_tg hN ht hu I2 (I1.reps (s₁ := { s1 with heap := h' }) x2 q4) fun s3 x3 I3 => k W1 s3 _ (Inv.trans x1 I1 (Inv.trans (s₁ := { s1 with heap := h' }) x2 I2 x3)) I3 rfl
  · cases he
end
end Mine
end
section
open PySem PySem.W PyProof.Rows
set_option Elab.async false
set_option maxRecDepth 100000
namespace Mine

theorem kf_mro (P : Params) : (clsIn (KK P) DC).map (·.mro) = some [.ref DC, .type "object"] := by kernel_rfl
theorem kf_idiv (P : Params) : findIn (KK P) (.ref DC) (dunderI "truediv") = some none := by kernel_rfl
theorem kf_oidiv (P : Params) : findIn (KK P) (.type "object") (dunderI "truediv") = some none := by kernel_rfl
theorem kf_i1 (P : Params) : findIn (KK P) (.type "int") (PySem.dunder "truediv") = some (some (.builtin "int.__truediv__")) := by kernel_rfl
theorem kf_i2 (P : Params) : findIn (KK P) (.type "int") (dunderR "truediv") = some (some (.builtin "int.__rtruediv__")) := by kernel_rfl
theorem kf_i3 (P : Params) : subIn (KK P) (.type "int") (.ref DC) = some false := by kernel_rfl

theorem fills_no {M : Model} {h : Heap} {P : Params} (X : (KK P).In h) : Looks M h (fillsInplaceSlot (.ref DC) "truediv" false) false := by
  intro A Q E s k q
  obtain ⟨cd, hc, hm⟩ := Option.map_eq_some_iff.mp (kf_mro P)
  have Lm : Looks M h (mroOf (.ref DC)) cd.mro := (looks_clsIn X hc).andThen (f := fun cd => pure cd.mro) .now
  have Lm' := Lm.keeps k
  obtain ⟨hh, g, d, tt, os⟩ := s
  have X' : (KK P).In hh := X.keeps k
  have L1 : Looks M hh (typeLookup (.ref DC) (dunderI "truediv")) none := looks_findIn X' (kf_idiv P)
  have L2 : Looks M hh (typeLookup (.type "object") (dunderI "truediv")) none := looks_findIn X' (kf_oidiv P)
  unfold fillsInplaceSlot
  refine wpAny_bind (Lm'.at ?_)
  rw [hm, List.anyM_cons]
  refine wpAny_bind ?_
  repeat lk
  exact q

set_option maxHeartbeats 4000000 in
theorem inplace_T {K : Frag} {C f : Addr} {prog : Program} {w : World} {A : Around} {E : Value → Shared → Prop} {s : Shared} {x : Addr} {ox : Obj} {od : Option Obj} {i : Int} {t : Tok} {Q : Value → Shared → Prop} {op : Operator} (X : K.In s.heap) (I : InstAt s.heap x ox C od) (hff : isFn K (.ref f) = true) (hs : findIn K (.ref C) (PySem.dunder op.info.2) = some (some (.ref f)))
    (L3 : Looks (model prog w) s.heap (fillsNumberSlot (.ref C) op.info.2) true) (L4 : Looks (model prog w) s.heap (fillsNumberSlot (.type "int") op.info.2) true) (L5 : Looks (model prog w) s.heap (isSubtype (.type "int") (.ref C)) false) (L6 : Looks (model prog w) s.heap (numberSlotInPython (.ref C) op.info.2) true)
    {ro : Option Value} (L7 : Looks (model prog w) s.heap (numberSlotInPython (.type "int") op.info.2) false) (L8 : Looks (model prog w) s.heap (typeLookup (.type "int") (dunderR op.info.2)) ro) (L9 : Looks (model prog w) s.heap (fillsInplaceSlot (.ref C) op.info.2 (op == .Add)) false)
    (h : wpAny (model prog w) A (call (.ref f) [.ref x, .int i t]) (PySem.W.CmpBack Q) E s) : wpAny (model prog w) A (inplaceOp op (.ref x) (.int i t)) Q E s := by
  have one := ksp_try X I hs hff h
  obtain ⟨hh, g, d, tt, os⟩ := s
  have L1 : Looks (model prog w) hh (typeOf (.ref x)) (.ref C) := I.type
  have L2 : Looks (model prog w) hh (typeOf (.int i t)) (.type "int") := Looks.of_pure rfl
  have hne : (Value.ref C == Value.type "int") = false := Bool.eq_false_iff.mpr fun q => by cases beq_iff_eq.mp q
  unfold inplaceOp
  refine wpAny_holding (wpAny_bind (L1.at (wpAny_bind (L9.at ?_))))
  simp only [Bool.false_eq_true, if_false]
  refine wpAny_bind ?_
  unfold binaryOp1
  refine wpAny_bind (L1.at (wpAny_bind (L2.at (wpAny_bind (L3.at ?_)))))
  simp only [hne, Bool.false_eq_true, if_false]
  ksp_lk
  refine wpAny_mono one (fun r s' hr' => ?_) fun _ _ e => e
  obtain ⟨v, rfl, hq⟩ := hr'
  ksp_lk
  exact hq

theorem inplace_div {P : Params} {prog : Program} {w : World} {A : Around} {E : Value → Shared → Prop} {s : Shared} {x : Addr} {ox : Obj} {od : Option Obj} {i : Int} {t : Tok} {Q : Value → Shared → Prop} (X : (KK P).In s.heap) (I : InstAt s.heap x ox DC od)
    (h : wpAny (model prog w) A (call (.ref 134) [.ref x, .int i t]) (PySem.W.CmpBack Q) E s) : wpAny (model prog w) A (inplaceOp .Div (.ref x) (.int i t)) Q E s := by
  obtain ⟨cd, rest, hcd, hm⟩ := ksp_first (kf_self P)
  exact inplace_T (op := .Div) X I (fn_of (by decide)) (kf_div P) (fills_K X hcd hm (kf_div P)) (ksp_fillsT X (kf_i1 P) (kf_i2 P)) (looks_subIn X (kf_i3 P)) (ksp_inPy X (kf_div P) (kf_rdiv P) (.inl rfl)) (Looks.of_pure rfl) (looks_findIn X (kf_i2 P)) (fills_no X) h

theorem Reps.append {h : Heap} {W : Wd} : ∀ {l : List PVal} {vs : List Value} {l' : List PVal} {vs' : List Value}, Reps h W l vs → Reps h W l' vs' → Reps h W (l ++ l') (vs ++ vs')
  | [], vs, l', vs', e, e' => by unfold Reps at e; subst e; exact e'
  | p :: ps, vs, l', vs', e, e' => by
    unfold Reps at e
    obtain ⟨c, rr, rfl, e2, e3⟩ := e
    show Reps h W (p :: (ps ++ l')) (c :: (rr ++ vs'))
    unfold Reps
    exact ⟨c, _, rfl, e2, Reps.append e3 e'⟩
theorem Reps.rev {h : Heap} {W : Wd} : ∀ {l : List PVal} {vs : List Value}, Reps h W l vs → Reps h W l.reverse vs.reverse
  | [], vs, e => by unfold Reps at e; subst e; unfold Reps; rfl
  | p :: ps, vs, e => by
    unfold Reps at e
    obtain ⟨c, rr, rfl, e2, e3⟩ := e
    rw [List.reverse_cons, List.reverse_cons]
    exact Reps.append (Reps.rev e3) (reps1 e2)

section
variable {g : GC} {n : Nat} {sc : Scope} {names : List PySem.Str} {cf : CF} {fuel : Nat} {e e₁ e₂ e₃ : Expr} {es : List Expr} {p p₁ p₂ p₃ ps : PE}

theorem bind_xs (hN : NamesOK sc names) {cn : PySem.Str} {a : Addr} {ccd : Value} {L : Addr} {A : Around} {Q : Unit → Shared → Prop} {E : Value → Shared → Prop} {W : Wd} {st : Store} {r' : Rho} :
    ∀ {xs : List PySem.Str} {is : List Nat} {l : List PVal} {vs : List Value} {r : Rho} {s : Shared}, is.map (names[·]?) = xs.map some → upds r is l = some r' → Inv g L names W r st s → Reps s.heap W l vs →
    (∀ s', Ext [L] W W s.heap s'.heap → Inv g L names W r' st s' → Q () s') → wpAny g.M A (assignInOrder (xs.map fun x => bindName (envX cn sc L a ccd []) x) vs) Q E s
  | [], is, l, vs, r, s, hx, hu, I, R, k => by
    obtain rfl : is = [] := by simpa using hx
    cases l with
    | nil =>
      cases hu
      exact PyProof.Rows.assignInOrder_nil (k s (Ext.refl _ _ _) I)
    | cons _ _ => simp [upds] at hu
  | x :: xs, is, l, vs, r, s, hx, hu, I, R, k => by
    cases is with
    | nil => simp at hx
    | cons i js =>
      simp only [List.map_cons, List.cons.injEq] at hx
      cases l with
      | nil => simp [upds] at hu
      | cons v l =>
        unfold Reps at R
        obtain ⟨cv, cr, rfl, R1, R2⟩ := R
        rw [List.map_cons]
        refine PyProof.Rows.assignInOrder_cons (bindName_ (store_ok hN I hx.1 R1 fun s1 x1 I1 => ?_))
        exact bind_xs hN hx.2 hu I1 (I.reps x1 R2) fun s2 x2 I2 => k s2 (Inv.trans x1 I1 x2) I2

theorem s_swp (hN : NamesOK sc names) {elts : List Expr} {kk kv : Nat} {tp vp pos : Pos} {is : List Nat} {xs : List PySem.Str} (hx : is.map (names[·]?) = xs.map some) (nd : is.Nodup)
    (hs : ∀ env, swapsWithSole [.Tuple elts kk tp] (.Tuple es kv vp) pos.line env = pure false)
    (hw : ∀ cn L a ccd, swappedStores [.Tuple elts kk tp] (.Tuple es kv vp) (envX cn sc L a ccd []) = pure (some xs)) (h1 : EsOK g n sc names cf es ps) : S1OK g n sc names cf fuel (.Assign [.Tuple elts kk tp] (.Tuple es kv vp) pos) (.swp is ps) := by
  intro cn a ccd L W r st A s Q E fl r' st' hR I he k
  unfold ex at he
  split at he
  · rename_i l st1 hl
    split at he
    · rename_i hsz
      obtain ⟨r1, hu, ee⟩ := Option.map_eq_some_iff.mp he
      cases ee
      have ht : EvOK g n sc names cf (.Tuple es kv vp) (.tup ps) := ev_tup h1
      refine PyProof.Rows.Assign_Tuple_swapped (h := ht cn a ccd L W r st A s _ E (.tup l) _ hR I (by unfold ev; rw [hl]; exact if_pos hsz) fun W1 s1 c1 x1 I1 R1 => ?_) (hs := hs _) (hw := hw _ _ _ _)
      have R1' := R1
      unfold Rep at R1'
      obtain ⟨b, vs, rfl, q2, q3, q4⟩ := R1'
      have hlen : xs.length = vs.toArray.size := by
        have := congrArg List.length hx
        simp only [List.length_map] at this
        rw [List.size_toArray, q4.length, ← this, upds_len hu]
      rw [hlen]
      refine PyProof.Rows.unpackItems_tuple hR.handled q3 fun h' he' => ?_
      obtain ⟨x2, I2⟩ := I1.grown (h' := h') I1.st.toks fun b o e => he' b o (Nat.ne_of_lt (Heap.lt_size e)) e
      exact bind_xs hN (by rw [List.map_reverse, List.map_reverse, hx]) (upds_rev nd hu) I2 (Reps.rev (I1.reps (s₁ := { s1 with heap := h' }) x2 q4)) fun s3 x3 I3 => k W1 s3 _ (Inv.trans x1 I1 (Inv.trans (s₁ := { s1 with heap := h' }) x2 I2 x3)) I3 rfl
    · cases he
  · cases he

theorem inplace_ok {A : Around} {s : Shared} {Q E : Value → Shared → Prop} {L : Addr} {W : Wd} {r : Rho} {st st' : Store} {x y v : PVal} {cx cy : Value} (C : CallOK g n fad cf) (hR : Room (2 * n + 1) A) {o : Operator} (ha : augOk o x y = true) (hb : binP cf o x y st = some (v, st')) (I : Inv g L names W r st s) (R1 : Rep s.heap W x cx) (R2 : Rep s.heap W y cy) (k : Ko g L names W r st' v Q s) :
    wpAny g.M A (inplaceOp o cx cy) Q E s := by
  have fin : ∀ {z : Int} {tk : Nat}, v = .int z → st = st' → 1 ≤ tk → ∀ t, Q (.int z t) { s with toks := tk } := fun e es h1 t => by
    subst e; subst es; exact k.same I h1 (by unfold Rep; exact ⟨t, rfl⟩)
  have ht : 1 ≤ s.toks + 1 := Nat.le_add_left _ _
  unfold augOk at ha
  split at ha
  · rename_i nn d i
    obtain ⟨a, dx, es, c, tn, td, rfl, e2, e3, IA, e5, e6⟩ := Rep.dbl_inst R1
    simp only [binP, isNum, if_true] at hb
    have h1 := opcall (A := A) (E := E) C hR I hb (reps2 R1 R2) k
    unfold Rep at R2; obtain ⟨t, rfl⟩ := R2
    exact inplace_div I.st.KIn IA h1
  · simp only [binP, binI, Option.map_some, Option.some.injEq, Prod.mk.injEq] at hb
    unfold Rep at R1 R2; obtain ⟨t, rfl⟩ := R1; obtain ⟨u, rfl⟩ := R2
    exact P.iadd_int (fin hb.1.symm hb.2 ht _)
  · simp only [binP, binI, Option.map_some, Option.some.injEq, Prod.mk.injEq] at hb
    unfold Rep at R1 R2; obtain ⟨t, rfl⟩ := R1; obtain ⟨u, rfl⟩ := R2
    exact P.isub_int (fin hb.1.symm hb.2 ht _)
  · simp only [binP, binI] at hb
    unfold Rep at R1 R2; obtain ⟨t, rfl⟩ := R1; obtain ⟨u, rfl⟩ := R2
    split at hb
    · rename_i hf
      rw [Bool.and_eq_true] at hf
      simp only [Option.map_some, Option.some.injEq, Prod.mk.injEq] at hb
      exact P.imul_int (fin hb.1.symm hb.2 ht _) (fit_mul hf.1 hf.2)
    · cases hb
  · cases ha

theorem s_aug (hN : NamesOK sc names) (C : CallOK g n fad cf) {x : PySem.Str} {px pos : Pos} {i : Nat} {o : Operator} (hi : names[i]? = some x) (h1 : EvOK g n sc names cf e p) : S1OK g n sc names cf fuel (.AugAssign (.Name x px) o e pos) (.aug i o p) := by
  intro cn a ccd L W r st A s Q E fl r' st' hR I he k
  unfold ex at he
  split at he
  · rename_i vx hx
    split at he
    · rename_i vy st1 hy
      split at he
      · rename_i v st2 hb
        split at he
        · rename_i ha
          cases he
          obtain ⟨m, F, hm⟩ := I.fr
          obtain ⟨x', cv, q1, q2, q3⟩ := hm _ _ hx
          rw [hi] at q1; cases q1
          refine wpAny_AugAssign_Name (wpAny_loadName_local hN.kind (hN.loc i x hi).1 F.ns q2 ?_)
          refine h1 cn a ccd L W _ st A s _ E vy st1 hR I hy fun W1 s1 c1 x1 I1 R1 => ?_
          refine inplace_ok C hR ha hb I1 (I.rep x1 q3) R1 fun W2 s2 c2 x2 I2 R2 => ?_
          exact store_ok hN I2 hi R2 fun s3 x3 I3 => k W2 s3 _ (Inv.trans x1 I1 (Inv.trans x2 I2 x3)) I3 rfl
        · cases he
      · cases he
    · cases he
  · cases he
end
end Mine
end
section
open PySem PySem.W PyProof.Rows
set_option Elab.async false
set_option maxRecDepth 100000
namespace Mine

section
variable {g : GC} {n : Nat} {sc : Scope} {names : List PySem.Str} {cf : CF} {fuel : Nat} {e e₁ e₂ e₃ : Expr} {es : List Expr} {p p₁ p₂ p₃ ps : PE}

theorem base_none {W : Wd} {st : Store} {s : Shared} (S : St g W st s) : g.base.get? s.heap.objs.size = none := by
  cases q : g.base.get? s.heap.objs.size with
  | none => rfl
  | some o => exact absurd (Nat.lt_of_lt_of_le (Heap.lt_size q) S.big) (Nat.lt_irrefl _)

/-- a new cell -/
theorem Inv.newcell {L : Addr} {W : Wd} {r : Rho} {st : Store} {s : Shared} (I : Inv g L names W r st s) {vs : List Value} {l : List PVal} (R : Reps s.heap W l vs) :
    Ext [L] W ⟨W.X ++ [s.heap.objs.size], W.C ++ [s.heap.objs.size]⟩ s.heap (s.heap.push (listOf vs.toArray 0)) ∧
    Inv g L names ⟨W.X ++ [s.heap.objs.size], W.C ++ [s.heap.objs.size]⟩ r (st ++ [l]) { s with heap := s.heap.push (listOf vs.toArray 0) } ∧
    Rep (s.heap.push (listOf vs.toArray 0)) ⟨W.X ++ [s.heap.objs.size], W.C ++ [s.heap.objs.size]⟩ (.cell st.length) (.ref s.heap.objs.size) := by
  have S := I.st
  have hb : (s.heap.push (listOf vs.toArray 0)).get? s.heap.objs.size = some (listOf vs.toArray 0) := Heap.get?_push_size _ rfl
  have keep : ∀ b o, s.heap.get? b = some o → (s.heap.push (listOf vs.toArray 0)).get? b = some o := fun b o e => Heap.get?_push_of_some _ e
  have x : Ext [] W ⟨W.X ++ [s.heap.objs.size], W.C ++ [s.heap.objs.size]⟩ s.heap (s.heap.push (listOf vs.toArray 0)) :=
    ⟨fun b o e _ _ => keep b o e, ⟨_, rfl, fun b hb => by rw [List.mem_singleton.mp hb]; exact get?_size _⟩, ⟨_, rfl, fun b hb => by rw [List.mem_singleton.mp hb]; exact get?_size _⟩⟩
  have nC : s.heap.objs.size ∉ W.C := fun q => I.fresh (get?_size _) (S.sub _ q)
  have rr : ∀ {q : List PVal} {c : List Value}, Reps s.heap W q c → Reps (s.heap.push (listOf vs.toArray 0)) ⟨W.X ++ [s.heap.objs.size], W.C ++ [s.heap.objs.size]⟩ q c := fun h => Reps.ext x (fun _ q => nomatch q) S.sub _ _ h
  have S' : St g ⟨W.X ++ [s.heap.objs.size], W.C ++ [s.heap.objs.size]⟩ (st ++ [l]) { s with heap := s.heap.push (listOf vs.toArray 0) } := by
    refine ⟨fun b o e => keep b o (S.keep b o e), fun a ha => ?_, fun a ha => ?_, fun a ha => ?_, ?_, by simp [S.len], fun i q hi => ?_, S.gens, S.os, S.toks, ?_⟩
    · rcases List.mem_append.mp ha with ha | ha
      · exact S.xb a ha
      · rw [List.mem_singleton.mp ha]; exact base_none S
    · rcases List.mem_append.mp ha with ha | ha
      · obtain ⟨o, ho⟩ := S.xs a ha; exact ⟨o, keep _ _ ho⟩
      · rw [List.mem_singleton.mp ha]; exact ⟨_, hb⟩
    · rcases List.mem_append.mp ha with ha | ha
      · exact List.mem_append_left _ (S.sub a ha)
      · exact List.mem_append_right _ ha
    · show (W.C ++ [s.heap.objs.size]).Nodup
      rw [List.nodup_append]
      exact ⟨S.nd, by simp, fun a ha b hb => by rw [List.mem_singleton.mp hb]; rintro rfl; exact nC ha⟩
    · by_cases hlt : i < st.length
      · rw [List.getElem?_append_left hlt] at hi
        obtain ⟨a, ws, h1, h2, h3⟩ := S.cells i q hi
        exact ⟨a, ws, by rw [List.getElem?_append_left (by rw [S.len]; exact hlt)]; exact h1, LL.keeps h2 (fun o ho => keep a o ho), rr h3⟩
      · have hi' : i = st.length := by
          have := (List.getElem?_eq_some_iff.mp hi).1
          simp at this; omega
        subst hi'
        rw [List.getElem?_append_right (Nat.le_refl _), Nat.sub_self] at hi
        cases hi
        exact ⟨_, vs, by rw [← S.len, List.getElem?_append_right (Nat.le_refl _), Nat.sub_self]; rfl, ⟨0, hb⟩, rr R⟩
    · exact Nat.le_trans S.big (by rw [Heap.size_push]; omega)
  refine ⟨x.more, I.step x S', ?_⟩
  unfold Rep
  exact ⟨_, rfl, by rw [← S.len, List.getElem?_append_right (Nat.le_refl _), Nat.sub_self]; rfl⟩

theorem s_newc (hN : NamesOK sc names) {x : PySem.Str} {px lp pos : Pos} {i : Nat} (hi : names[i]? = some x) (h1 : EsOK g n sc names cf es ps) : S1OK g n sc names cf fuel (.Assign [.Name x px] (.List es lp) pos) (.newc i ps) := by
  intro cn a ccd L W r st A s Q E fl r' st' hR I he k
  unfold ex at he
  split at he
  · rename_i l st1 hl
    split at he
    · rename_i hsz
      cases he
      refine wpAny_Assign_Name (List_ (h1.2 cn a ccd L W r st A s _ E _ l _ hR I hl fun W1 s1 vs x1 I1 R1 => ?_)) rfl
      obtain ⟨x2, I2, R2⟩ := I1.newcell R1
      refine wpAny_newList ?_ (by rw [R1.length, sizeLine_eq]; simp only [slim] at hsz; omega)
      exact store_ok hN (s := { s1 with heap := s1.heap.push (listOf vs.toArray 0) }) I2 hi R2 fun s3 x3 I3 => k _ s3 _ (Inv.trans x1 I1 (Inv.trans (s₁ := { s1 with heap := s1.heap.push (listOf vs.toArray 0) }) x2 I2 x3)) I3 rfl
    · cases he
  · cases he

/-- a cell's list turns -/
theorem Inv.mut {L D : Addr} {W : Wd} {r : Rho} {st : Store} {s : Shared} {h' : Heap} {k : Nat} {c : Nat} {l : List PVal} {vs : List Value} (I : Inv g L names W r st s) (hk : 1 ≤ k) (hc : W.C[c]? = some D) (R : Reps s.heap W l vs) (hl : LL h' D vs) (hs : Heap.SameBut D s.heap h') :
    Ext [L] W W s.heap h' ∧ Inv g L names W r (st.set c l) { s with heap := h', toks := k } := by
  have S := I.st
  have hD : D ∈ W.C := (List.getElem?_eq_some_iff.mp hc).2 ▸ List.getElem_mem _
  have x : Ext [] W W s.heap h' := ⟨fun b o e _ hb => (hs.2 b fun q => hb (q ▸ hD)).trans e, ⟨[], by simp⟩, ⟨[], by simp⟩⟩
  have rr : ∀ {q : List PVal} {c : List Value}, Reps s.heap W q c → Reps h' W q c := fun h => Reps.ext x (fun _ q => nomatch q) S.sub _ _ h
  refine ⟨x.more, I.step (s' := { s with heap := h', toks := k }) x ⟨fun b o e => ?_, S.xb, fun a ha => ?_, S.sub, S.nd, by simp [S.len], fun i q hi => ?_, S.gens, S.os, hk, by rw [hs.1]; exact S.big⟩⟩
  · refine (hs.2 b fun q => ?_).trans (S.keep b o e)
    have := S.xb D (S.sub D hD)
    rw [q, this] at e; cases e
  · by_cases q : a = D
    · obtain ⟨kk, ho⟩ := hl; exact ⟨_, q ▸ ho⟩
    · obtain ⟨o, ho⟩ := S.xs a ha; exact ⟨o, (hs.2 a q).trans ho⟩
  · by_cases hic : i = c
    · subst hic
      rw [List.getElem?_set_self (by have := (List.getElem?_eq_some_iff.mp hi).1; simpa using this)] at hi
      cases hi
      exact ⟨D, vs, hc, hl, rr R⟩
    · rw [List.getElem?_set_ne (fun q => hic q.symm)] at hi
      obtain ⟨a, ws, h1, h2, h3⟩ := S.cells i q hi
      have ne : a ≠ D := by
        rintro rfl
        obtain ⟨b1, c1⟩ := List.getElem?_eq_some_iff.mp h1
        obtain ⟨b2, c2⟩ := List.getElem?_eq_some_iff.mp hc
        exact hic ((List.getElem_inj S.nd).mp (c1.trans c2.symm))
      exact ⟨a, ws, h1, LL.keeps h2 (fun o ho => (hs.2 a ne).trans ho), rr h3⟩

theorem setItem_LL {prog : Program} {w : World} {A : Around} {E : Value → Shared → Prop} {s : Shared} {l : Addr} {vs : List Value} {k : Int} {t : Tok} {v : Value} {Q : Unit → Shared → Prop} (hl : LL s.heap l vs)
    (h0 : 0 ≤ k) (hfit : k < 2 ^ 63) (hn : k < vs.length)
    (hQ : ∀ h', LL h' l (vs.set k.toNat v) → Heap.SameBut l s.heap h' → Q () { s with heap := h' }) :
    wpAny (model prog w) A (setItem (.ref l) (.int k t) v) Q E s := by
  obtain ⟨kk, ho⟩ := id hl
  have hl' := hl.l
  unfold setItem
  try with_reducible refine wpAny_holding ?_
  first | refine wpAny_bind (wpAny_pure ?_) | skip
  refine wpAny_bind (wpAny_sequenceKey hl'.typeIs (by decide) ?_)
  refine wpAny_bind (wpAny_callSpecial?_slot (name := Str.ofString "__setitem__") hl'.typeIs slot_list_setitem
    (wpAny_call_entry slot_list_setitem hl'.typeIs entry_list_setitem ?_ (args_list_setitem _ _ _)))
  show wpAny _ _ (Builtin.List.listSubscript? (.int k t) >>= _) _ _ s
  refine wpAny_bind (wpAny_listSubscript_int (fitsIndex_of h0 hfit) ?_)
  clear hfit
  obtain ⟨j, rfl⟩ := Int.eq_ofNat_of_zero_le h0
  have hj : j < vs.toArray.size := by simp; omega
  have hx' : vs.toArray[j]? = some vs.toArray[j] := Array.getElem?_eq_getElem hj
  show wpAny _ _ ((seqItemAt l j >>= fun r => pure (r.map (j, ·))) >>= _) _ _ s
  refine wpAny_bind (wpAny_bind (wpAny_seqItemAt ho rfl (wpAny_pure ?_)))
  rw [hx']
  show wpAny _ _ (setSeqItemAt l j v >>= _) _ _ s
  have hfin : LL (s.heap.update l (Obj.mapSeq (·.setIfInBounds j v))) l (vs.set (Int.toNat (j : Int)) v) := by
    have := PySem.IsL.update (l := l) (items := vs.toArray) (n := kk) ho (·.setIfInBounds j v)
    have e : vs.toArray.setIfInBounds j v = (vs.set j v).toArray := by simp
    rw [e] at this
    exact ⟨_, this⟩
  refine wpAny_bind (wpAny_setSeqItemAt ho rfl ?_)
  first
    | exact wpAny_bind (wpAny_pure (wpAny_pure ⟨.none, rfl, wpAny_pure (hQ _ hfin (Heap.SameBut.update ..))⟩))
    | exact wpAny_pure ⟨.none, rfl, wpAny_pure (hQ _ hfin (Heap.SameBut.update ..))⟩

theorem reps_set {h : Heap} {W : Wd} {v : PVal} {cv : Value} (Rv : Rep h W v cv) : ∀ (k : Nat) {l : List PVal} {vs : List Value}, Reps h W l vs → Reps h W (l.set k v) (vs.set k cv)
  | _, [], vs, e => by unfold Reps at e; subst e; simp only [List.set_nil]; unfold Reps; rfl
  | 0, p :: ps, vs, e => by
    unfold Reps at e
    obtain ⟨c, rr, rfl, e2, e3⟩ := e
    simp only [List.set_cons_zero]
    unfold Reps
    exact ⟨_, _, rfl, Rv, e3⟩
  | k + 1, p :: ps, vs, e => by
    unfold Reps at e
    obtain ⟨c, rr, rfl, e2, e3⟩ := e
    simp only [List.set_cons_succ]
    unfold Reps
    exact ⟨_, _, rfl, e2, reps_set Rv k e3⟩

theorem s_setc (hN : NamesOK sc names) {x : PySem.Str} {px sp pos : Pos} {i : Nat} {kx : Expr} (hi : names[i]? = some x) (hs : ∀ env, swapsWith e (some (.Subscript (.Name x px) kx sp)) pos.line env = pure false) (h1 : EvOK g n sc names cf e p) (h0 : EvOK g n sc names cf (.Name x px) (.loc i)) (h2 : EvOK g n sc names cf kx p₁) :
    S1OK g n sc names cf fuel (.Assign [.Subscript (.Name x px) kx sp] e pos) (.setc i p₁ p) := by
  intro cn a ccd L W r st A s Q E fl r' st' hR I he k
  unfold ex at he
  split at he
  · rename_i v st1 hv
    split at he
    · rename_i c j st2 hc hk
      split at he
      · rename_i l hl
        split at he
        · rename_i hb
          cases he
          refine wpAny_Assign_Subscript (h1 cn a ccd L W _ st A s _ E v _ hR I hv fun W1 s1 c1 x1 I1 R1 => ?_) (hs _)
          refine h0 cn a ccd L W1 _ st1 A s1 _ E _ st1 hR I1 (by unfold ev; rw [hc]; rfl) fun W2 s2 c2 x2 I2 R2 => ?_
          refine h2 cn a ccd L W2 _ st1 A s2 _ E _ _ hR I2 hk fun W3 s3 c3 x3 I3 R3 => ?_
          have Rv := I2.rep x3 (I1.rep x2 R1)
          have Rc := I2.rep x3 R2
          unfold Rep at Rc R3
          obtain ⟨D, rfl, hD⟩ := Rc
          obtain ⟨t, rfl⟩ := R3
          obtain ⟨D', vs, hD', hll, Rl⟩ := I3.st.cells _ _ hl
          rw [hD] at hD'; cases hD'
          have hlen := Rl.length
          refine setItem_LL hll hb.1 (by omega) (by rw [hlen]; exact hb.2.1) fun h' q1 q2 => ?_
          obtain ⟨x4, I4⟩ := I3.mut (k := s3.toks) I3.st.toks hD (reps_set Rv j.toNat Rl) q1 q2
          exact k W3 _ _ (Inv.trans x1 I1 (Inv.trans x2 I2 (Inv.trans x3 I3 (s₂ := { s3 with heap := h', toks := s3.toks }) x4))) I4 rfl
        · cases he
      · cases he
    · cases he
  · cases he

theorem s_ins (hN : NamesOK sc names) {x : PySem.Str} {px ap pos epos : Pos} {i : Nat} (hi : names[i]? = some x) (hpos : (ap.endLine == pos.line) = true) (h0 : EvOK g n sc names cf (.Name x px) (.loc i)) (hz : EvOK g n sc names cf e₁ (.lit (.int 0))) (hstar : ∀ env, starEach [e₁, e] env = [(false, eval e₁ env), (false, eval e env)]) (h1 : EvOK g n sc names cf e p) :
    S1OK g n sc names cf fuel (.Expr (.Call (.Attribute (.Name x px) (PySem.Str.ofString "insert") ap) [e₁, e] [] pos) epos) (.ins i p) := by
  intro cn a ccd L W r st A s Q E fl r' st' hR I he k
  unfold ex at he
  split at he
  · rename_i c v st1 hc hv
    split at he
    · rename_i l hl
      split at he
      · rename_i hsz
        cases he
        refine wpAny_Expr ?_ (by first | rfl | (unfold interactive; simp [hN.kind]))
        have hp : (starEach [e₁, e] (envX cn sc L a ccd [])).any (·.1) = false := by rw [hstar]; rfl
        refine methodCall_any rfl hp (by simp) hpos (h0 cn a ccd L W _ st A s _ E _ st hR I (by unfold ev; rw [hc]; rfl) fun W1 s1 c1 x1 I1 R1 => ?_)
        unfold Rep at R1
        obtain ⟨D, rfl, hD⟩ := R1
        have getl : ∀ {r0 : Rho} {st0 : Store} {W0 : Wd} {s0 : Shared} {q : List PVal}, Inv g L names W0 r0 st0 s0 → W0.C[c]? = some D → st0[c]? = some q → ∃ vs, LL s0.heap D vs ∧ Reps s0.heap W0 q vs := fun I0 h1 h2 => by
          obtain ⟨D', vs, hD', hll, Rl⟩ := I0.st.cells _ _ h2
          rw [h1] at hD'; cases hD'
          exact ⟨vs, hll, Rl⟩
        obtain ⟨vs0, ⟨k0, hg0⟩, _⟩ : ∃ vs, LL s1.heap D vs ∧ True := by
          have hlt : c < st.length := by rw [← I1.st.len]; exact (List.getElem?_eq_some_iff.mp hD).1
          obtain ⟨vs, h1, _⟩ := getl I1 hD (List.getElem?_eq_getElem hlt)
          exact ⟨vs, h1, trivial⟩
        refine getMethod_builtin ⟨_, hg0, rfl⟩ PySem.F.plainAttrs_list PySem.F.slot_list_insert PySem.F.type_list_insert (fun a e => by cases e; exact ⟨_, hg0, rfl⟩) ?_
        refine callWith_of (P := fun h => g.K.In h) (by rw [backTo_plain hp]; rfl) keeps_builtin (evalArgs_any (backTo_plain hp) ?_)
        rw [hstar]
        refine Calls.spliced_cons (hz cn a ccd L W1 _ st A s1 _ E _ st hR I1 (by unfold ev; rfl) fun W2 s2 c2 x2 I2 R2 => ?_)
        refine Calls.spliced_cons (h1 cn a ccd L W2 _ st A s2 _ E v _ hR I2 hv fun W3 s3 c3 x3 I3 R3 => ?_)
        refine Calls.spliced_nil ⟨I3.st.KIn, ?_⟩
        unfold Rep at R2
        obtain ⟨t, rfl⟩ := R2
        have hD2 : W2.C[c]? = some D := by
          obtain ⟨N, hN', _⟩ := x2.cs
          rw [hN', List.getElem?_append_left (List.getElem?_eq_some_iff.mp hD).1]; exact hD
        have hD3 : W3.C[c]? = some D := by
          obtain ⟨N, hN', _⟩ := x3.cs
          rw [hN', List.getElem?_append_left (List.getElem?_eq_some_iff.mp hD2).1]; exact hD2
        obtain ⟨vs, ⟨kk, hg⟩, Rl⟩ := getl I3 hD3 hl
        have hlen := Rl.length
        refine call_meets PySem.F.slot_list_insert ⟨_, hg, rfl⟩ PySem.F.entry_list_insert (PySem.F.args_list_insert_3 _ _ _) (PySem.AutoSeq1.list_insert_list_int_val_1 D _ kk 0 t c3 (by decide) (by rw [List.size_toArray, hlen, sizeLine_eq]; simp only [slim] at hsz; omega)) ⟨hg, ?_⟩
        have hl3 : LL (s3.heap.update D (Obj.mapSeq fun xs => (xs.extract 0 0).push c3 ++ xs.extract 0)) D (c3 :: vs) := by
          have := PySem.IsL.update (l := D) (items := vs.toArray) (n := kk) hg (fun xs => (xs.extract 0 0).push c3 ++ xs.extract 0)
          have e : (vs.toArray.extract 0 0).push c3 ++ vs.toArray.extract 0 = (c3 :: vs).toArray := by
            apply Array.toList_inj.mp; simp
          rw [e] at this
          exact ⟨_, this⟩
        obtain ⟨x4, I4⟩ := I3.mut (k := s3.toks) (l := v :: l) I3.st.toks hD3 (by unfold Reps; exact ⟨_, _, rfl, R3, Rl⟩) hl3 (Heap.SameBut.update ..)
        exact k W3 _ _ (Inv.trans x1 I1 (Inv.trans x2 I2 (Inv.trans x3 I3 (s₂ := { s3 with heap := _, toks := s3.toks }) x4))) I4 rfl
      · cases he
    · cases he
  · cases he
end
end Mine
end
section
open PySem PySem.W PyProof.Rows
set_option Elab.async false
set_option maxRecDepth 100000
namespace Mine

theorem boot_range : bootBuiltins (PySem.Str.ofString "range") = some (.type "range") := by decide +kernel

theorem range_end {prog : Program} {w : World} {A : Around} {E : Value → Shared → Prop} {s : Shared} {it : Addr} {x left step : Int} {Q : Option Value → Shared → Prop} (hh : A.handled = none) (hit : IsRangeIter s.heap it x left step) (hleft : left ≤ 0)
    (hQ : ∀ h', (∀ b o, s.heap.get? b = some o → h'.get? b = some o) → Q none { s with heap := h' }) : wpAny (model prog w) A (pyNext (.ref it)) Q E s := by
  have hT : s.TypeIs (.ref it) "range_iterator" := ⟨_, hit, rfl⟩
  unfold pyNext
  refine wpAny_bind (wpAny_attempt (wpAny_callSpecial?_slot (name := PySem.Str.ofString "__next__") hT PySem.F.slot_range_iterator_next
    (wpAny_call_entry PySem.F.slot_range_iterator_next hT PySem.F.entry_range_iterator_next ?_ (PySem.F.args_range_iterator_next_1 _))))
  show wpAny _ _ (field (.ref it) 0 >>= _) _ _ s
  refine wpAny_bind (wpAny_field hit rfl (x := rawInt x) rfl ?_)
  show wpAny _ _ (field (.ref it) 1 >>= _) _ _ s
  refine wpAny_bind (wpAny_field hit rfl (x := rawInt left) rfl ?_)
  show wpAny _ _ (field (.ref it) 2 >>= _) _ _ s
  refine wpAny_bind (wpAny_field hit rfl (x := rawInt step) rfl ?_)
  show wpAny _ _ (if left ≤ 0 then _ else _) _ _ s
  rw [if_pos hleft]
  refine wpAny_bind (wpAny_rule (wpAny_bind ?_))
  show wpAny _ _ (newExc (.type "StopIteration") [] >>= _) _ _ _
  refine wpAny_bind ?_
  simp only [newExc, newTuple]
  refine wpAny_bind (wpAny_newObj_type ?_ (by size_fits))
  refine wpAny_bind (m := firstArgMember _ _) (wpAny_of_eq (a := Value.none) (by first | rfl | (simp only [firstArgMember]; rfl)) ?_)
  refine wpAny_newObj_type ?_ (by size_fits)
  simp only [raiseNew]
  refine wpAny_bind (wpAny_handled ?_)
  first | rw [show A.in1.handled = none from hh] | rw [hh]
  refine wpAny_bind (wpAny_pure (wpAny_throw ?_))
  refine wpAny_bind (wpAny_isInstance (T := "StopIteration") (b := true) ⟨_, Heap.get?_push_size _ rfl, rfl⟩ isSubtype_stop ?_)
  exact wpAny_pure (hQ _ fun b o e => Heap.get?_push_of_some _ (Heap.get?_push_of_some _ e))

section
variable {g : GC} {n : Nat} {sc : Scope} {names : List PySem.Str} {cf : CF} {fuel : Nat} {e e₁ e₂ e₃ : Expr} {es : List Expr} {p p₁ p₂ p₃ ps : PE}

/-- a new mutable place that is no cell -/
theorem St.addX {W : Wd} {st : Store} {s : Shared} {h' : Heap} {k : Nat} {D : Addr} (S : St g W st s) (hk : 1 ≤ k) (hD : s.heap.get? D = none) (hb : g.base.get? D = none) (keep : ∀ b o, s.heap.get? b = some o → h'.get? b = some o) (hd : ∃ o, h'.get? D = some o) (hsz : s.heap.objs.size ≤ h'.objs.size) :
    Ext [] W ⟨W.X ++ [D], W.C⟩ s.heap h' ∧ St g ⟨W.X ++ [D], W.C⟩ st { s with heap := h', toks := k } := by
  have x : Ext [] W ⟨W.X ++ [D], W.C⟩ s.heap h' :=
    ⟨fun b o e _ _ => keep b o e, ⟨_, rfl, fun b hb => by rw [List.mem_singleton.mp hb]; exact hD⟩, ⟨[], by simp⟩⟩
  refine ⟨x, fun b o e => keep b o (S.keep b o e), fun a ha => ?_, fun a ha => ?_, fun a ha => List.mem_append_left _ (S.sub a ha), S.nd, S.len, fun i q hi => ?_, S.gens, S.os, hk, Nat.le_trans S.big hsz⟩
  · rcases List.mem_append.mp ha with ha | ha
    · exact S.xb a ha
    · rw [List.mem_singleton.mp ha]; exact hb
  · rcases List.mem_append.mp ha with ha | ha
    · obtain ⟨o, ho⟩ := S.xs a ha; exact ⟨o, keep _ _ ho⟩
    · rw [List.mem_singleton.mp ha]; exact hd
  · obtain ⟨a, ws, h1, h2, h3⟩ := S.cells i q hi
    exact ⟨a, ws, h1, LL.keeps h2 (fun o ho => keep a o ho), Reps.ext x (fun _ q => nomatch q) S.sub _ _ h3⟩

/-- such a place turns -/
theorem Inv.poke {L D : Addr} {W : Wd} {r : Rho} {st : Store} {s : Shared} {h' : Heap} {k : Nat} (I : Inv g L names W r st s) (hk : 1 ≤ k) (hD : D ∈ W.X) (hC : D ∉ W.C) (hL : D ≠ L) (hs : Heap.SameBut D s.heap h') (hd : ∃ o, h'.get? D = some o) :
    Inv g L names W r st { s with heap := h', toks := k } := by
  have S := I.st
  have x : Ext [D] W W s.heap h' := ⟨fun b o e hb _ => (hs.2 b fun q => hb (by rw [q]; exact List.mem_singleton.mpr rfl)).trans e, ⟨[], by simp⟩, ⟨[], by simp⟩⟩
  have sub1 : ∀ a ∈ [D], a ∈ W.X := fun a ha => by rw [List.mem_singleton.mp ha]; exact hD
  have kb : ∀ b o, g.base.get? b = some o → h'.get? b = some o := fun b o e => by
    refine (hs.2 b fun q => ?_).trans (S.keep b o e)
    have := S.xb D hD
    rw [q, this] at e; cases e
  obtain ⟨m, F, hm⟩ := I.fr
  have F' : Fr g.base L h' m := ⟨F.ns.sameBut hs (Ne.symm hL), kb, F.above⟩
  refine ⟨⟨kb, S.xb, fun a ha => ?_, S.sub, S.nd, S.len, fun i q hi => ?_, S.gens, S.os, hk, by rw [hs.1]; exact S.big⟩, I.mem, I.notC, m, F', fun i v hv => ?_⟩
  · by_cases q : a = D
    · rw [q]; exact hd
    · obtain ⟨o, ho⟩ := S.xs a ha; exact ⟨o, (hs.2 a q).trans ho⟩
  · obtain ⟨a, ws, h1, h2, h3⟩ := S.cells i q hi
    have hac : a ∈ W.C := (List.getElem?_eq_some_iff.mp h1).2 ▸ List.getElem_mem _
    exact ⟨a, ws, h1, LL.keeps h2 (fun o ho => (hs.2 a fun q => hC (q ▸ hac)).trans ho), Reps.ext x sub1 S.sub _ _ h3⟩
  · obtain ⟨y, cw, h1, h2, h3⟩ := hm i v hv
    exact ⟨y, cw, h1, h2, Rep.ext x sub1 S.sub _ _ h3⟩

theorem Ext.hop {Y : List Addr} {W W₁ : Wd} {h h₁ h₂ : Heap} {D : Addr} (x : Ext Y W W₁ h h₁) (hD : h.get? D = none) (hk : ∀ b o, b ≠ D → h₁.get? b = some o → h₂.get? b = some o) : Ext Y W W₁ h h₂ :=
  ⟨fun b o e h1 h2 => hk b o (fun q => by rw [q, hD] at e; cases e) (x.keep b o e h1 h2), x.xs, x.cs⟩

theorem s_for (hN : NamesOK sc names) {x : PySem.Str} {px rp cp pos : Pos} {i : Nat} {xs : List Stmt} {q : PS} (hi : names[i]? = some x) (hl : sc.names.lookup (PySem.Str.ofString "range") = some .globalImplicit) (hcons : ∀ env, starEach [e] env = [(false, eval e env)]) (h1 : EvOK g n sc names cf e p) (h2 : StOK g n sc names cf fuel xs q) :
    S1OK g n sc names cf fuel (.For (.Name x px) (.Call (.Name (PySem.Str.ofString "range") rp) [e] [] cp) xs [] pos) (.forr i p q) := by
  intro cn a ccd L W r st A s Q E fl r' st' hR I he k
  unfold ex at he
  split at he
  · rename_i kk st1 hv
    split at he
    · rename_i hb
      obtain ⟨m, F, hm⟩ := I.fr
      have hes : EsOK g n sc names cf [e] (.cons p .nil) := es_cons (fun env => hcons env) h1 es_nil
      refine wpAny_For (call_of (fv := .type "range") hR I hes (l := [.int kk]) (st' := st1) (by unfold evs; rw [hv]; unfold evs; rfl) (fun Q' q' => nameX_B F g.KI (topRead_of g.T) (nsNone_of (by decide)) boot_range (by decide +kernel) q' hN.kind hl (by decide +kernel)) keeps_type fun W1 s1 vs x1 I1 R1 => ?_) (by intro; rfl)
      obtain ⟨cv, rfl, R1'⟩ := reps1_inv R1
      unfold Rep at R1'
      obtain ⟨t, rfl⟩ := R1'
      refine call_range_1 ?_
      have hsz : Builtin.Range.rangeSize 0 kk 1 = kk := by rw [rangeSize_one]; split <;> omega
      obtain ⟨x2, I2, g2, f2⟩ := I1.pushed { cls := .type "range", data := .fields #[.int 0 s1.toks, .int kk t, .int 1 (s1.toks + 1)] } rfl (k := s1.toks + 1 + 1) (by omega)
      refine wpAny_pyIter_range (s := { s1 with heap := _, toks := s1.toks + 1 + 1 }) g2 (small_one (by omega) (by omega) (by omega) (by omega)) ?_
      rw [hsz]
      generalize hs2 : ({ s1 with heap := s1.heap.push { cls := .type "range", data := .fields #[.int 0 s1.toks, .int kk t, .int 1 (s1.toks + 1)] }, toks := s1.toks + 1 + 1 } : Shared) = s2 at *
      have x2' : Ext [L] W1 W1 s1.heap s2.heap := by rw [← hs2]; exact x2
      have hD : s2.heap.get? s2.heap.objs.size = none := get?_size _
      have hget : (s2.heap.push { cls := .type "range_iterator", data := .fields #[rawInt 0, rawInt kk, rawInt 1] }).get? s2.heap.objs.size = some { cls := .type "range_iterator", data := .fields #[rawInt 0, rawInt kk, rawInt 1] } := Heap.get?_push_size _ rfl
      obtain ⟨x3, S3⟩ := I2.st.addX (k := s2.toks) I2.st.toks hD (base_none I2.st) (fun b o e => Heap.get?_push_of_some _ e) ⟨_, hget⟩ (by rw [Heap.size_push]; omega)
      have I3 := I2.step (s' := { s2 with heap := _, toks := s2.toks }) x3 S3
      have hLD : s2.heap.objs.size ≠ L := by
        rintro rfl; obtain ⟨o, ho⟩ := I2.lives; rw [hD] at ho; cases ho
      have hDC : s2.heap.objs.size ∉ W1.C := fun q => by
        obtain ⟨o, ho⟩ := I2.st.clives _ q; rw [hD] at ho; cases ho
      refine codeAny_forLoop (fun j s' => ∃ W', ∃ r₁, ∃ st₁, ∃ c : Nat, IsRangeIter s'.heap s2.heap.objs.size c j 1 ∧ s2.heap.objs.size ∈ W'.X ∧ s2.heap.objs.size ∉ W'.C ∧ Ext [L] W1 W' s2.heap s'.heap ∧ Inv g L names W' r₁ st₁ s' ∧ forP i (ex fuel cf q) j c r₁ st₁ = some (fl, r', st')) ?_ kk.toNat ⟨_, r, st1, 0, by rw [Int.toNat_of_nonneg hb.1]; exact hget, List.mem_append_right _ (List.mem_singleton.mpr rfl), hDC, x3.more, I3, he⟩
      rintro j s' ⟨W', r₁, st₁, c, hit, hX, hC, x', I', he'⟩
      cases j with
      | zero =>
        cases he'
        refine range_end hR.handled hit (by simp) fun h' he => wpAny_execs_nil ?_
        obtain ⟨x4, I4⟩ := I'.grown (h' := h') (k := s'.toks) I'.st.toks he
        exact k W' _ _ (Inv.trans x1 I1 (Inv.trans x2' I2 (Inv.trans (s₂ := { s' with heap := h', toks := s'.toks }) x' I' x4))) I4 rfl
      | succ j =>
        refine wpAny_pyNext_range_item hit (by omega) fun h' hit' hs' => ?_
        have I4 := I'.poke (k := s'.toks + 1) (Nat.le_add_left _ _) hX hC hLD hs' ⟨_, hit'⟩
        have x4 : Ext [L] W1 W' s2.heap h' := x'.hop hD fun b o hb e => (hs'.2 b hb).trans e
        refine wpAny_assign_Name (store_ok hN (s := { s' with heap := h', toks := s'.toks + 1 }) (v := .int c) I4 hi (by unfold Rep; exact ⟨_, rfl⟩) fun s5 x5 I5 => ?_)
        have x5' : Ext [L] W1 W' s2.heap s5.heap := Inv.trans (s₁ := { s' with heap := h', toks := s'.toks + 1 }) x4 I4 x5
        have hit5 : IsRangeIter s5.heap s2.heap.objs.size ((c + 1 : Nat) : Int) j 1 := by
          have := x5.keep _ _ hit' (by simpa using hLD) hC
          have e1 : ((c : Nat) : Int) + 1 = ((c + 1 : Nat) : Int) := by push_cast; rfl
          have e2 : ((j + 1 : Nat) : Int) - 1 = (j : Int) := by push_cast; omega
          rw [e1, e2] at this
          exact this
        unfold forP at he'
        split at he'
        · rename_i r2 st2 hbod
          refine h2 cn a ccd L W' _ _ A s5 _ _ _ r2 st2 hR I5 hbod fun W6 s6 f x6 I6 R6 => ?_
          obtain rfl : f = .next := R6
          refine ⟨j, Nat.lt_succ_self _, W6, r2, st2, c + 1, x6.keep _ _ hit5 (by simpa using hLD) hC, x6.xsub hX, ?_, Inv.trans x5' I5 x6, I6, he'⟩
          obtain ⟨N, hN', hn'⟩ := x6.cs
          rw [hN']; intro q
          rcases List.mem_append.mp q with q | q
          · exact hC q
          · have := hn' _ q; rw [hit5] at this; cases this
        · rename_i hne
          cases fl with
          | next => exact absurd he' (hne _ _)
          | ret v =>
            refine h2 cn a ccd L W' _ _ A s5 _ _ _ r' st' hR I5 he' fun W6 s6 f x6 I6 R6 => ?_
            obtain ⟨cv, rfl, R⟩ := R6
            exact k W6 s6 _ (Inv.trans x1 I1 (Inv.trans x2' I2 (Inv.trans x5' I5 x6))) I6 ⟨cv, rfl, R⟩
    · cases he
  · cases he
end
end Mine
end
section
open PySem PySem.W PyProof.Rows
set_option Elab.async false
set_option maxRecDepth 100000
namespace Mine

theorem zip_lookup {xs : List PySem.Str} {vs : List Value} (hl : vs.length = xs.length) : ∀ x ∈ xs, (List.lookup x (xs.zip vs)).isSome = true := by
  induction xs generalizing vs with
  | nil => intro x h; cases h
  | cons y ys ih =>
    intro x h
    cases vs with
    | nil => simp at hl
    | cons v vs =>
      rw [List.zip_cons_cons, List.lookup_cons]
      by_cases e : (x == y) = true
      · rw [e]; rfl
      · rw [Bool.eq_false_iff.mpr e]
        rcases List.mem_cons.mp h with rfl | h
        · simp at e
        · exact ih (by simpa using hl) x h

theorem fm_congr {α β : Type} {f g : α → Option β} : ∀ {l : List α}, (∀ x ∈ l, f x = g x) → l.filterMap f = l.filterMap g
  | [], _ => rfl
  | x :: l, h => by rw [List.filterMap_cons, List.filterMap_cons, h x List.mem_cons_self, fm_congr fun y hy => h y (List.mem_cons_of_mem _ hy)]

theorem zip_filterMap {xs : List PySem.Str} {vs : List Value} (nd : xs.Nodup) (hl : vs.length = xs.length) : List.filterMap (fun n => Option.map (fun x => (n, x)) (List.lookup n (xs.zip vs))) xs = xs.zip vs := by
  induction xs generalizing vs with
  | nil => simp
  | cons y ys ih =>
    cases vs with
    | nil => simp at hl
    | cons v vs =>
      rw [List.nodup_cons] at nd
      rw [List.zip_cons_cons, List.filterMap_cons, List.lookup_cons, beq_self_eq_true]
      simp only [Option.map_some]
      congr 1
      refine Eq.trans (fm_congr fun x hx => ?_) (ih (vs := vs) nd.2 (by simpa using hl))
      rw [List.lookup_cons]
      have : (x == y) = false := beq_eq_false_iff_ne.mpr fun q => nd.1 (q ▸ hx)
      rw [this]

theorem forIn_stay {α β : Type} {l : List α} {c : β} {f : α → β → Sem (ForInStep β)} (h : ∀ x ∈ l, f x c = pure (.yield c)) : forIn l c f = pure c := by
  induction l with
  | nil => rfl
  | cons x l ih =>
    rw [List.forIn_cons, h x List.mem_cons_self, pure_bind]
    exact ih fun y hy => h y (List.mem_cons_of_mem _ hy)

structure PlainParams (fd : FuncData) (xs : List PySem.Str) : Prop where
  pos : fd.params.posonlyargs = []
  args : fd.params.args.map (·.arg) = xs
  kwo : fd.params.kwonlyargs = []
  va : fd.params.vararg = none
  kw : fd.params.kwarg = none

theorem seqItems_no {M : Model} {A : Around} {E : Value → Shared → Prop} {s : Shared} {Q : Option (Array Value) → Shared → Prop} (h : Q none s) : wpAny M A (seqItems? .none) Q E s :=
  wpAny_of_eq (a := none) rfl h

theorem binds_exact {fd : FuncData} {xs : List PySem.Str} {vs : List Value} {s : Shared} (H : PlainParams fd xs) (nd : xs.Nodup) (hl : vs.length = xs.length)
   (hd : fd.defaults = .none ∨ ∃ T o items n, fd.defaults = .ref T ∧ s.heap.get? T = some o ∧ o.data = .seq items n) : BindsTo s fd ⟨vs, []⟩ (xs.zip vs) := by
  intro M A E Q q
  obtain ⟨h1, h2, h3, h4, h5⟩ := H
  unfold bindArgs
  simp only [h1, h2, h3, h4, h5, List.map_nil, List.nil_append, List.append_nil, List.forIn_nil, pure_bind, hl]
  have rest : ∀ (P : Option (Array Value) → Sem (List (PySem.Str × Value))), (∀ d, P d = pure (xs.zip vs)) → wpAny M A (do let d ← seqItems? fd.defaults; P d) Q E s := fun P hP => by
    refine wpAny_bind ?_
    rcases hd with hd | ⟨T, o, items, n, hd, ho, hs⟩
    · rw [hd]; exact seqItems_no (by rw [hP]; exact wpAny_pure q)
    · rw [hd]; exact wpAny_seqItems ho hs (by rw [hP]; exact wpAny_pure q)
  refine rest _ fun d => ?_
  generalize (d.getD #[]).toList = D
  have f0 : ∀ k, (List.filter (fun n => (List.lookup n (xs.zip vs)).isNone) (List.take k xs)) = [] := fun k => by
    refine List.filter_eq_nil_iff.mpr fun x hx => ?_
    have := zip_lookup hl x (List.mem_of_mem_take hx)
    cases e : List.lookup x (xs.zip vs) with
    | none => rw [e] at this; cases this
    | some _ => simp
  simp only [f0, gt_iff_lt, Nat.lt_irrefl, decide_false, Bool.false_and, Bool.false_eq_true, if_false, List.isEmpty_nil, Bool.not_true]
  rw [forIn_stay]
  · rw [pure_bind, zip_filterMap nd hl]
  · rintro ⟨x, y⟩ hx
    have hx' : x ∈ xs := List.mem_of_mem_drop (List.of_mem_zip hx).1
    have := zip_lookup hl x hx'
    cases e : List.lookup x (xs.zip vs) with
    | none => rw [e] at this; cases this
    | some _ => simp

end Mine
end
section
open PySem PySem.W PyProof.Rows
set_option Elab.async false
set_option maxRecDepth 100000
namespace Mine

def fdAt (K : Frag) (a : Addr) : Option FuncData := match K.lookup a with
  | some o => (match o.data with | .func fd => some fd | _ => none)
  | none => none
def dfOk (K : Frag) (v : Value) : Bool := match v with
  | .none => true
  | .ref T => (match K.lookup T with | some o => (match o.data with | .seq _ _ => true | _ => false) | none => false)
  | _ => false
def stmtsOf (b : FuncBody) : List Stmt := match b with
  | .stmts l => l
  | _ => []
def isStmts (b : FuncBody) : Bool := match b with
  | .stmts _ => true
  | _ => false
def namesOf (sc : Scope) : List PySem.Str := (sc.names.filter fun x => decide (x.2 = .local)).map (·.1)
def fdOk (K : Frag) (fd : FuncData) (k : Nat) : Bool :=
  isStmts fd.body && fd.params.posonlyargs.isEmpty && decide (fd.params.args.map (·.arg) = (namesOf fd.scope).take k) && decide (fd.params.args.length = k) && fd.params.kwonlyargs.isEmpty && fd.params.vararg.isNone && fd.params.kwarg.isNone
    && decide (fd.globals = mainGlobals) && fd.closure.isEmpty && decide (fd.builtins = builtinsNs) && decide ((namesOf fd.scope).Nodup)
    && (namesOf fd.scope).all (fun x => decide (fd.scope.names.lookup x = some .local) && !(x == ("__debug__" : PySem.Str)))
    && decide (fd.scope.kind = .function) && !fd.scope.isCoroutine && !fd.scope.isGenerator && fd.scope.names.all (fun x => decide (x.2 ≠ .cell))
    && codeIn K fd.code fd.qualname && dfOk K fd.defaults

structure FdIs (K : Frag) (a : Addr) (fd : FuncData) (k : Nat) : Prop where
  at_ : ∃ o, K.lookup a = some o ∧ o.data = .func fd
  body : fd.body = .stmts (stmtsOf fd.body)
  params : PlainParams fd ((namesOf fd.scope).take k)
  klen : ((namesOf fd.scope).take k).length = k
  env : ∀ L, callEnv fd L a = envX fd.qualname fd.scope L a fd.code []
  names : NamesOK fd.scope (namesOf fd.scope)
  co : fd.scope.isCoroutine = false
  gen : fd.scope.isGenerator = false
  cell : ∀ x ∈ fd.scope.names, x.2 ≠ .cell
  code : codeIn K fd.code fd.qualname = true
  dflt : fd.defaults = .none ∨ ∃ T o items n, fd.defaults = .ref T ∧ K.lookup T = some o ∧ o.data = .seq items n

theorem fdIs_of {K : Frag} {a : Addr} {fd : FuncData} {k : Nat} (h1 : fdAt K a = some fd) (h2 : fdOk K fd k = true) : FdIs K a fd k := by
  unfold fdOk at h2
  simp only [Bool.and_eq_true, decide_eq_true_eq, Bool.not_eq_true', List.isEmpty_iff, Option.isNone_iff_eq_none, List.all_eq_true] at h2
  obtain ⟨⟨⟨⟨⟨⟨⟨⟨⟨⟨⟨⟨⟨⟨⟨⟨⟨c1, c2⟩, c3⟩, c4⟩, c5⟩, c6⟩, c7⟩, c8⟩, c9⟩, c10⟩, c11⟩, c12⟩, c13⟩, c14⟩, c15⟩, c16⟩, c17⟩, c18⟩ := h2
  refine ⟨?_, ?_, ⟨c2, c3, c5, c6, c7⟩, ?_, ?_, ⟨c13, ?_, c11⟩, c14, c15, c16, c17, ?_⟩
  · unfold fdAt at h1
    split at h1
    · rename_i o ho
      split at h1
      · rename_i fd' hd; cases h1; exact ⟨o, ho, hd⟩
      · cases h1
    · cases h1
  · cases e : fd.body with
    | stmts l => rfl
    | _ => rw [e] at c1; cases c1
  · rw [← c3, List.length_map]; exact c4
  · intro L
    unfold callEnv newEnv
    rw [c8, c9, c10]
  · intro i x hx
    have := c12 x ((List.getElem?_eq_some_iff.mp hx).2 ▸ List.getElem_mem _)
    exact ⟨this.1, this.2⟩
  · unfold dfOk at c18
    split at c18
    · rename_i e; exact .inl e
    · rename_i T e
      split at c18
      · rename_i o ho
        split at c18
        · rename_i its n hd; exact .inr ⟨T, o, its, n, e, ho, hd⟩
        · cases c18
      · cases c18
    · cases c18

section
variable {g : GC}

/-- into a def -/
theorem enter {A : Around} {W : Wd} {st : Store} {s : Shared} {a : Addr} {fd : FuncData} {k : Nat} {cvs : List Value} {r : Rho} {R : Result → Shared → Prop} {bcvs : List Value} (H : FdIs g.K a fd k) (S : St g W st s) (hd : A.depth < recursionLimit)
    (hb : BindsTo s fd ⟨cvs, []⟩ (((namesOf fd.scope).take k).zip bcvs)) (hl : bcvs.length = k)
    (hr : ∀ i v, lk r i = some v → ∃ cv, bcvs[i]? = some cv ∧ Rep s.heap W v cv)
    (h : ∀ W' L h', Ext [] W W' s.heap h' → Inv g L (namesOf fd.scope) W' r st { s with heap := h', toks := s.toks + k } → Fr g.base L h' (fun x => (((namesOf fd.scope).take k).zip bcvs).reverse.lookup x) → s.heap.get? L = none →
      wpAny g.M (A.deeper (envX fd.qualname fd.scope L a fd.code [])) (execs (stmtsOf fd.body) (envX fd.qualname fd.scope L a fd.code [])) (fun f s' => R (.ok (.ret (match f with | .ret v => v | _ => .none))) s')
        (fun e s' => wpAny g.M (A.deeper (envX fd.qualname fd.scope L a fd.code [])) (leaving (envX fd.qualname fd.scope L a fd.code []) e) (fun _ s'' => R (.error e) s'') (fun e' s'' => R (.error e') s'') s') { s with heap := h', toks := s.toks + k }) :
    codeAny g.M A (.call (.ref a) ⟨cvs, []⟩) R s := by
  obtain ⟨o, ho, hdat⟩ := H.at_
  have klen := H.klen
  refine codeAny_call_def hd (S.KIn _ _ ho) hdat (g.T.nolimit.keeps S.keep) (codeRec_of S.KIn H.code) H.body hb H.cell (fun x hx => ?_) (fun h₀ hns keep => ?_) H.co H.gen H.names.kind
  · obtain ⟨y, z⟩ := x
    have hy := (List.of_mem_zip hx).1
    obtain ⟨i, hi, he⟩ := List.getElem_of_mem (List.mem_of_mem_take hy)
    exact (H.names.loc i y (by rw [← he]; exact List.getElem?_eq_getElem hi)).1
  · rw [H.env]
    have hlen : (((namesOf fd.scope).take k).zip bcvs).length = k := by rw [List.length_zip, hl, klen, Nat.min_self]
    rw [hlen]
    obtain ⟨oL, es, ep, hL, hn2⟩ := id hns
    obtain ⟨x, S'⟩ := S.addX (k := s.toks + k) (Nat.le_trans S.toks (Nat.le_add_right _ _)) (get?_size _) (base_none S) keep ⟨_, hL⟩ (Nat.le_of_lt (Heap.lt_size hL))
    have hC : s.heap.objs.size ∉ W.C := fun q => by
      obtain ⟨o, ho⟩ := S.clives _ q; rw [get?_size] at ho; cases ho
    refine h _ _ _ x ⟨S', List.mem_append_right _ (List.mem_singleton.mpr rfl), hC, _, ⟨hns, S'.keep, S.big⟩, fun i v hi => ?_⟩ ⟨hns, S'.keep, S.big⟩ (get?_size _)
    obtain ⟨cv, hcv, Rv⟩ := hr i v hi
    have hik : i < k := by rw [← hl]; exact (List.getElem?_eq_some_iff.mp hcv).1
    have hin : i < ((namesOf fd.scope).take k).length := by rw [klen]; exact hik
    refine ⟨((namesOf fd.scope).take k)[i], cv, ?_, ?_, Rep.ext x (fun _ q => nomatch q) S.sub _ _ Rv⟩
    · rw [List.getElem_take]
      exact List.getElem?_eq_getElem _
    · have nd : ((namesOf fd.scope).take k).Nodup := (List.take_sublist _ _).nodup H.names.nd
      have hmem : (((namesOf fd.scope).take k)[i], cv) ∈ (((namesOf fd.scope).take k).zip bcvs).reverse := by
        rw [List.mem_reverse]
        obtain ⟨b1, c1⟩ := List.getElem?_eq_some_iff.mp hcv
        have : (((namesOf fd.scope).take k).zip bcvs)[i]'(by rw [hlen]; exact hik) = (((namesOf fd.scope).take k)[i], cv) := by rw [List.getElem_zip, c1]
        rw [← this]; exact List.getElem_mem _
      have uniq : ∀ {l : List (PySem.Str × Value)} {y : PySem.Str} {c : Value}, (l.map (·.1)).Nodup → (y, c) ∈ l → l.lookup y = some c := by
        intro l
        induction l with
        | nil => intro y c _ h; cases h
        | cons z l ih =>
          intro y c hnd h
          obtain ⟨z1, z2⟩ := z
          rw [List.map_cons, List.nodup_cons] at hnd
          rw [List.lookup_cons]
          rcases List.mem_cons.mp h with e | h
          · cases e; rw [beq_self_eq_true]
          · have : (y == z1) = false := beq_eq_false_iff_ne.mpr fun q => hnd.1 (q ▸ List.mem_map_of_mem (f := (·.1)) h)
            rw [this]; exact ih hnd.2 h
      refine uniq ?_ hmem
      rw [List.map_reverse]
      refine List.pairwise_reverse.mpr ?_
      rw [List.map_fst_zip (by rw [klen, hl]; exact Nat.le_refl _)]
      exact List.Pairwise.imp Ne.symm nd
end
end Mine
end
section
open PySem PySem.W PyProof.Rows
set_option Elab.async false
set_option maxRecDepth 100000
namespace Mine

def selfnd : List PySem.Str := [PySem.Str.ofString "self", PySem.Str.ofString "n", PySem.Str.ofString "d"]

theorem binds_one {fd : FuncData} {a b dv : Value} {s : Shared} {T : Addr} {o : Obj} {n : Nat} (H : PlainParams fd selfnd)
   (hd : fd.defaults = .ref T) (ho : s.heap.get? T = some o) (hs : o.data = .seq #[dv] n) : BindsTo s fd ⟨[a, b], []⟩ (selfnd.zip [a, b, dv]) := by
  intro M A E Q q
  obtain ⟨h1, h2, h3, h4, h5⟩ := H
  unfold bindArgs
  simp only [h1, h2, h3, h4, h5, List.map_nil, List.nil_append, List.append_nil, List.forIn_nil, pure_bind]
  refine wpAny_bind ?_
  rw [hd]
  refine wpAny_seqItems ho hs ?_
  refine wpAny_of_eq (a := selfnd.zip [a, b, dv]) ?_ q
  rfl

def initShape (l : List Stmt) : Bool := match l with
  | [.Assign [.Tuple [.Attribute (.Name s1 _) a1 _, .Attribute (.Name s2 _) a2 _] _ _] (.IfExp (.BoolOp .Or [.Compare (.Name x1 _) [.Eq] [.Constant (.int z1) _ _] _, .Compare (.Name x2 _) [.Eq] [.Constant (.int z2) _ _] _] _) (.Tuple [.Name y1 _, .Name y2 _] _ _) (.Call (.Name f _) [.Name w1 _, .Name w2 _] [] _) _) _] =>
    decide (s1 = "self") && decide (s2 = "self") && decide (a1 = "n") && decide (a2 = "d") && decide (x1 = "n") && decide (x2 = "d") && decide (z1 = 0) && decide (z2 = 0) && decide (y1 = "n") && decide (y2 = "d") && decide (f = "nearest") && decide (w1 = "n") && decide (w2 = "d")
  | _ => false
def initAll (K : Frag) : Bool := match fdAt K 78 with
  | some fd => fdOk K fd 3 && decide (namesOf fd.scope = selfnd) && decide (fd.scope.names.lookup (PySem.Str.ofString "nearest") = some .globalImplicit) && initShape (stmtsOf fd.body) && decide (fd.defaults = .ref 71)
      && (match K.lookup 71 with | some o => (match o.data with | .seq vs _ => (match vs.toList with | [.int 1 _] => true | _ => false) | _ => false) | none => false)
  | none => false
theorem kf_initAll (P : Params) : initAll (KK P) = true := by kernel_rfl
theorem kf_near (P : Params) : nsIn (KK P) mainGlobals "nearest" = some (some (.ref 56)) := by kernel_rfl
theorem kf_keepD (P : Params) : keepIn (KK P) (.ref DC) = true := by kernel_rfl
theorem kf_set (P : Params) : findIn (KK P) (.ref DC) "__setattr__" = some (some (.builtin "object.__setattr__")) := by kernel_rfl
theorem kf_over (P : Params) : plainOver (KK P) DC = true := by kernel_rfl
theorem kf_tkn (P : Params) : takerIn (KK P) DC "n" = some none := by kernel_rfl
theorem kf_tkd (P : Params) : takerIn (KK P) DC "d" = some none := by kernel_rfl


structure InitIs (K : Frag) (fd : FuncData) (st1 st2 : Stmt) : Prop where
  is : FdIs K 78 fd 3
  names : namesOf fd.scope = selfnd

theorem shape_of {l : List Stmt} (h : initShape l = true) : ∃ p1 p2 p3 p4 k5 p5 p6 k7 p7 p8 p9 k10 p10 p11 p12 p13 p14 k15 p15 p16 p17 p18 p19 p20 p21,
    l = [.Assign [.Tuple [.Attribute (.Name (PySem.Str.ofString "self") p1) (PySem.Str.ofString "n") p2, .Attribute (.Name (PySem.Str.ofString "self") p3) (PySem.Str.ofString "d") p4] k5 p5]
      (.IfExp (.BoolOp .Or [.Compare (.Name (PySem.Str.ofString "n") p6) [.Eq] [.Constant (.int 0) k7 p7] p8, .Compare (.Name (PySem.Str.ofString "d") p9) [.Eq] [.Constant (.int 0) k10 p10] p11] p12)
        (.Tuple [.Name (PySem.Str.ofString "n") p13, .Name (PySem.Str.ofString "d") p14] k15 p15) (.Call (.Name (PySem.Str.ofString "nearest") p16) [.Name (PySem.Str.ofString "n") p17, .Name (PySem.Str.ofString "d") p18] [] p19) p20) p21] := by
  unfold initShape at h
  split at h
  · simp only [Bool.and_eq_true, decide_eq_true_eq] at h
    obtain ⟨⟨⟨⟨⟨⟨⟨⟨⟨⟨⟨⟨rfl, rfl⟩, rfl⟩, rfl⟩, rfl⟩, rfl⟩, rfl⟩, rfl⟩, rfl⟩, rfl⟩, rfl⟩, rfl⟩, rfl⟩ := h
    exact ⟨_, _, _, _, _, _, _, _, _, _, _, _, _, _, _, _, _, _, _, _, _, _, _, _, _, rfl⟩
  · cases h

mutual
theorem Rep.mono {h : Heap} {W W' : Wd} (hc : W'.C = W.C) (hx : ∀ a, a ∈ W'.X → a ∈ W.X) : ∀ (p : PVal) (v : Value), Rep h W p v → Rep h W' p v
  | .none, _, e => e
  | .bool _, _, e => e
  | .int _, _, e => e
  | .str _, _, e => e
  | .sep _, _, e => e
  | .tup l, v, e => by
    unfold Rep at e ⊢
    obtain ⟨a, vs, e1, e2, e3, e4⟩ := e
    exact ⟨a, vs, e1, fun q => e2 (hx _ q), e3, Reps.mono hc hx l vs e4⟩
  | .lst l, v, e => by
    unfold Rep at e ⊢
    obtain ⟨a, vs, e1, e2, e3, e4⟩ := e
    exact ⟨a, vs, e1, fun q => e2 (hx _ q), e3, Reps.mono hc hx l vs e4⟩
  | .dbl n d, v, e => by
    unfold Rep at e ⊢
    obtain ⟨a, dx, c, h₁, h₂, k₁, k₂, tn, td, e1, e2, e3, e4, e5⟩ := e
    exact ⟨a, dx, c, h₁, h₂, k₁, k₂, tn, td, e1, fun q => e2 (hx _ q), fun q => e3 (hx _ q), e4, e5⟩
  | .cell i, v, e => by
    unfold Rep at e ⊢
    rw [hc]; exact e
theorem Reps.mono {h : Heap} {W W' : Wd} (hc : W'.C = W.C) (hx : ∀ a, a ∈ W'.X → a ∈ W.X) : ∀ (l : List PVal) (vs : List Value), Reps h W l vs → Reps h W' l vs
  | [], _, e => e
  | p :: ps, vs, e => by
    unfold Reps at e ⊢
    obtain ⟨v, r, e1, e2, e3⟩ := e
    exact ⟨v, r, e1, Rep.mono hc hx p v e2, Reps.mono hc hx ps r e3⟩
end

/-- the ledger but for one place -/
noncomputable def fullBut (base : Heap) (L D : Addr) (h : Heap) : List (Addr × Obj) := (full base L h).filter fun p => decide (p.1 ≠ D)
theorem fullBut_news {base h : Heap} {L D : Addr} : News base L h (fullBut base L D h) := fun q hq => full_news base h L q (List.mem_filter.mp hq).1
theorem fullBut_ne {base h : Heap} {L D : Addr} : ∀ p ∈ fullBut base L D h, p.1 ≠ D := fun p hp => of_decide_eq_true (List.mem_filter.mp hp).2
theorem fullBut_keep {base h h' : Heap} {L D : Addr} {m m' : PySem.Str → Option Value} {extra : List (Addr × Obj)} (F : Fr base L h m) (F' : Fr base L h' m') (N : News base L h' (extra ++ fullBut base L D h)) : ∀ b o, h.get? b = some o → b ≠ L → b ≠ D → h'.get? b = some o := by
  intro b o e h1 h2
  cases hb : base.get? b with
  | some o' =>
    have := F.keep _ _ hb
    rw [e] at this; cases this
    exact F'.keep _ _ hb
  | none => exact (N (b, o) (List.mem_append_right _ (List.mem_filter.mpr ⟨full_mem e h1 hb, decide_eq_true h2⟩))).1

section
variable {g : GC} {n : Nat} {sc : Scope} {names : List PySem.Str} {cf : CF} {e e₁ e₂ e₃ : Expr} {es : List Expr} {p p₁ p₂ p₃ ps : PE}

theorem Room.low {n m : Nat} {A : Around} (h : Room n A) (hm : m ≤ n) : Room m A := ⟨h.handled, by have := h.depth; omega, by have := h.units; omega⟩

def cf0 : CF := fun _ _ _ => none
theorem call0 : CallOK g 0 fad cf0 := fun k W st A s Q E vs cvs v st' _ _ _ h _ => by cases h


/-- several such places turn -/
theorem Inv.pokeY {Y : List Addr} {L : Addr} {W : Wd} {r : Rho} {st : Store} {s : Shared} {h' : Heap} {k : Nat} (I : Inv g L names W r st s) (hk : 1 ≤ k) (hY : ∀ a ∈ Y, a ∈ W.X ∧ a ∉ W.C ∧ a ≠ L ∧ ∃ o, h'.get? a = some o) (keep : ∀ b o, s.heap.get? b = some o → b ∉ Y → h'.get? b = some o) :
    Inv g L names W r st { s with heap := h', toks := k } := by
  have S := I.st
  have x : Ext Y W W s.heap h' := ⟨fun b o e hb _ => keep b o e hb, ⟨[], by simp⟩, ⟨[], by simp⟩⟩
  have sub1 : ∀ a ∈ Y, a ∈ W.X := fun a ha => (hY a ha).1
  have kb : ∀ b o, g.base.get? b = some o → h'.get? b = some o := fun b o e => by
    refine keep b o (S.keep b o e) fun q => ?_
    have := S.xb b (hY b q).1
    rw [this] at e; cases e
  obtain ⟨m, F, hm⟩ := I.fr
  obtain ⟨oL, es, ep, hL, hn2⟩ := id F.ns
  have hL' : h'.get? L = some oL := keep L oL hL fun q => (hY L q).2.2.1 rfl
  have F' : Fr g.base L h' m := ⟨⟨oL, es, ep, hL', hn2⟩, kb, F.above⟩
  refine ⟨⟨kb, S.xb, fun a ha => ?_, S.sub, S.nd, S.len, fun i q hi => ?_, S.gens, S.os, hk, Nat.le_trans F.above (Nat.le_of_lt (Heap.lt_size hL'))⟩, I.mem, I.notC, m, F', fun i v hv => ?_⟩
  · by_cases q : a ∈ Y
    · exact (hY a q).2.2.2
    · obtain ⟨o, ho⟩ := S.xs a ha; exact ⟨o, keep a o ho q⟩
  · obtain ⟨a, ws, h1, h2, h3⟩ := S.cells i q hi
    have hac : a ∈ W.C := (List.getElem?_eq_some_iff.mp h1).2 ▸ List.getElem_mem _
    exact ⟨a, ws, h1, LL.keeps h2 (fun o ho => keep a o ho fun q => (hY a q).2.1 hac), Reps.ext x sub1 S.sub _ _ h3⟩
  · obtain ⟨y, cw, h1, h2, h3⟩ := hm i v hv
    exact ⟨y, cw, h1, h2, Rep.ext x sub1 S.sub _ _ h3⟩

theorem setAttr_ok {A : Around} {s : Shared} {E : Value → Shared → Prop} {Q : Unit → Shared → Prop} {L x dx : Addr} {m : PySem.Str → Option Value} {es es' : List DictEntry} {c c' : Nat} {name : PySem.Str} {v : Value} (S : g.K.In g.base) (F : Fr g.base L s.heap m)
    (hx : s.heap.get? x = some (instObj DC dx)) (hdx : s.heap.get? dx = some (dictOf es c)) (hdb : g.base.get? dx = none) (hdL : dx ≠ L) (ht : takerIn g.K DC name = some none) (hl : (getL name es).isSome = true)
    (e : (putL name (PyData.keyHash g.w.params name) (.str name (s.toks + 1)) v es, putN name es c) = (es', c')) (hz : es'.length ≤ 1000)
    (h : ∀ h', Fr g.base L h' m → h'.get? dx = some (dictOf es' c') → (∀ b o, s.heap.get? b = some o → b ≠ L → b ≠ dx → h'.get? b = some o) → Q () { s with heap := h', toks := s.toks + 2 }) :
    wpAny g.M A (setAttr (.ref x) name v) Q E s := by
  have N : News g.base L s.heap ((dx, dictOf es c) :: fullBut g.base L dx s.heap) := fun q hq => by
    rcases List.mem_cons.mp hq with rfl | hq
    · exact ⟨hdx, hdL, hdb⟩
    · exact fullBut_news q hq
  refine set_dict F S N ⟨hx, rfl, rfl, hdx⟩ rfl (kf_set _) (kf_over _) ht (kf_dict _) hl e (Upd.head fullBut_ne) hz fun h' F' N' => h h' F' (N' _ (List.mem_cons_self ..)).1 fun b o e h1 h2 => ?_
  exact fullBut_keep F F' (extra := [(dx, dictOf es' c')]) N' b o e h1 h2

/-- behind Double(n, d) -/
theorem init_run (C : CallOK g n fad cf) {A : Around} {L x dx : Addr} {W : Wd} {r : Rho} {st st' : Store} {s : Shared} {cvs : List Value} {nn d a b : Int} {tn td : Tok} {Q E : Value → Shared → Prop} {fd : FuncData}
    (H : FdIs g.K 78 fd 3) (Hn : namesOf fd.scope = selfnd) (Hs : initShape (stmtsOf fd.body) = true) (Hl : fd.scope.names.lookup (PySem.Str.ofString "nearest") = some .globalImplicit)
    (hR : ∀ env, Room (2 * n) (A.deeper env)) (hd : A.depth < recursionLimit) (I : Inv g L names W r st s)
    (hx : s.heap.get? x = some (instObj DC dx)) (hdx : s.heap.get? dx = some (dictOf [] 0)) (hne : x ≠ dx) (hdb : g.base.get? dx = none) (hxX : x ∉ W.X) (hdX : dx ∈ W.X) (hdC : dx ∉ W.C) (hdL : dx ≠ L)
    (hb : BindsTo s fd ⟨.ref x :: cvs, []⟩ (((namesOf fd.scope).take 3).zip [.ref x, .int nn tn, .int d td]))
    (hev : (if nn = 0 ∨ d = 0 then some (PVal.tup [.int nn, .int d], st) else cf fNear [.int nn, .int d] st) = some (.tup [.int a, .int b], st'))
    (k : ∀ W' s', Ext [dx] W W' s.heap s'.heap → Inv g L names W' r st' s' → (∃ c h₁ h₂ k₁ k₂ tn td, s'.heap.get? dx = some (dictOf (ndL h₁ h₂ k₁ k₂ a b tn td) c)) → Q (.ref x) s') :
    codeAny g.M A (.call (.ref 78) ⟨.ref x :: cvs, []⟩) (InitBack x fun r s' => match r with | .ok (.ret v) => Q v s' | .ok _ => False | .error e => E e s') s := by
  obtain ⟨p1, p2, p3, p4, k5, p5, p6, k7, p7, p8, p9, k10, p10, p11, p12, p13, p14, k15, p15, p16, p17, p18, p19, p20, p21, hbody⟩ := shape_of Hs
  refine enter (r := [none, none, none]) H I.st hd hb rfl (fun i v hi => ?_) fun W1 L1 h1 x1 I1 F1 f1 => ?_
  · match i, hi with
    | 0, hi => cases hi
    | 1, hi => cases hi
    | 2, hi => cases hi
    | i + 3, hi => cases hi
  rw [hbody]
  have hR' := hR (envX fd.qualname fd.scope L1 78 fd.code [])
  generalize hA : A.deeper (envX fd.qualname fd.scope L1 78 fd.code []) = A' at hR' ⊢
  have hN := H.names
  rw [Hn] at hN I1
  have hkd := H.names.kind
  have l1 : fd.scope.names.lookup (PySem.Str.ofString "self") = some .local := (hN.loc 0 _ rfl).1
  have l2 : fd.scope.names.lookup (PySem.Str.ofString "n") = some .local := (hN.loc 1 _ rfl).1
  have l3 : fd.scope.names.lookup (PySem.Str.ofString "d") = some .local := (hN.loc 2 _ rfl).1
  generalize hm : (fun x_1 => (((namesOf fd.scope).take 3).zip [.ref x, .int nn tn, .int d td]).reverse.lookup x_1 : PySem.Str → Option Value) = m at F1
  have m1 : m (PySem.Str.ofString "self") = some (.ref x) := by rw [← hm, Hn]; rfl
  have m2 : m (PySem.Str.ofString "n") = some (.int nn tn) := by rw [← hm, Hn]; rfl
  have m3 : m (PySem.Str.ofString "d") = some (.int d td) := by rw [← hm, Hn]; rfl
  have nm : ∀ {y : PySem.Str} {p : Pos} {v : Value} {s' : Shared} {Q' E' : Value → Shared → Prop}, Fr g.base L1 s'.heap m → fd.scope.names.lookup y = some .local → (y == ("__debug__" : PySem.Str)) = false → m y = some v → Q' v s' → wpAny g.M A' (eval (.Name y p) (envX fd.qualname fd.scope L1 78 fd.code [])) Q' E' s' := fun F hl hdb hv q => nameX_L F hv q hkd hl hdb
  have Ic : Inv g L names W1 r st { s with heap := h1, toks := s.toks + 3 } := I.step (s' := { s with heap := h1, toks := s.toks + 3 }) x1 I1.st
  have eL : ∃ o, h1.get? L1 = some o := I1.lives
  have hLL : L1 ≠ L := by rintro rfl; obtain ⟨o, ho⟩ := I.lives; rw [f1] at ho; cases ho
  have hdL1 : dx ≠ L1 := by rintro rfl; rw [f1] at hdx; cases hdx
  have hxL1 : x ≠ L1 := by rintro rfl; rw [f1] at hx; cases hx
  have hxC : x ∉ W.C := fun q => hxX (I.st.sub _ q)
  have hx1 : h1.get? x = some (instObj DC dx) := x1.keep _ _ hx List.not_mem_nil hxC
  have hdx1 : h1.get? dx = some (dictOf [] 0) := x1.keep _ _ hdx List.not_mem_nil hdC
  have notC : ∀ {Y : List Addr} {W W' : Wd} {h h' : Heap} {a : Addr}, Ext Y W W' h h' → a ∉ W.C → (∃ o, h.get? a = some o) → a ∉ W'.C := by
    intro Y W W' h h' a x hc ⟨o, ho⟩ q
    obtain ⟨N, hN', hf⟩ := x.cs
    rw [hN'] at q
    rcases List.mem_append.mp q with q | q
    · exact hc q
    · rw [hf _ q] at ho; cases ho
  have hdC1 := notC x1 hdC ⟨_, hdx⟩
  have hxC1 := notC x1 hxC ⟨_, hx⟩
  have fin : ∀ (W3 : Wd) (s3 : Shared) (cv : Value) (E' : Value → Shared → Prop) (Q' : Shared → Prop), (∀ s', Q (.ref x) s' → Q' s') → Ext [] W1 W3 h1 s3.heap → Inv g L names W3 r st' s3 → Fr g.base L1 s3.heap m → Rep s3.heap W3 (.tup [.int a, .int b]) cv →
      wpAny g.M A' (assign (.Tuple [.Attribute (.Name (PySem.Str.ofString "self") p1) (PySem.Str.ofString "n") p2, .Attribute (.Name (PySem.Str.ofString "self") p3) (PySem.Str.ofString "d") p4] k5 p5) (envX fd.qualname fd.scope L1 78 fd.code []) cv) (fun _ => Q') E' s3 := by
    intro W3 s3 cv E' Q' hQ x3 I3 F3 R3
    unfold Rep at R3
    obtain ⟨t, vs, rfl, q2, q3, q4⟩ := R3
    obtain ⟨va, vb, rfl, Ra, Rb⟩ := reps2_inv q4
    unfold Rep at Ra Rb
    obtain ⟨ta, rfl⟩ := Ra
    obtain ⟨tb, rfl⟩ := Rb
    refine PyProof.Rows.assign_Tuple_tuple hR'.handled q3 rfl rfl fun h4 he4 => ?_
    have keep4 : ∀ b o, s3.heap.get? b = some o → h4.get? b = some o := fun b o e => he4 b o (Nat.ne_of_lt (Heap.lt_size e)) e
    have F4 : Fr g.base L1 h4 m := F3.extBut he4 (Nat.le_refl _)
    have hx3 := x3.keep _ _ hx1 List.not_mem_nil hxC1
    have hdx3 := x3.keep _ _ hdx1 List.not_mem_nil hdC1
    show wpAny g.M A' (assignInOrder [assign (.Attribute (.Name (PySem.Str.ofString "self") p1) (PySem.Str.ofString "n") p2) _, assign (.Attribute (.Name (PySem.Str.ofString "self") p3) (PySem.Str.ofString "d") p4) _] [.int a ta, .int b tb]) _ _ _
    refine PyProof.Rows.assignInOrder_cons ?_
    rw [assign_Attribute]
    refine wpAny_bind (wpAny_holding (nm (s' := { s3 with heap := h4 }) F4 l1 (by decide +kernel) m1 ?_))
    refine wpAny_bind (wpAny_standAt (wpAny_bind (wpAny_holding ?_)))
    refine setAttr_ok (es' := [⟨PyData.keyHash g.w.params (PySem.Str.ofString "n"), .str (PySem.Str.ofString "n") (s3.toks + 1), .int a ta⟩]) (c' := 1) g.KI F4 (keep4 _ _ hx3) (keep4 _ _ hdx3) hdb hdL1 (kf_tkn _) rfl rfl (by simp) fun h5 F5 g5 keep5 => ?_
    refine wpAny_release ?_
    refine PyProof.Rows.assignInOrder_cons ?_
    rw [assign_Attribute]
    refine wpAny_bind (wpAny_holding (nm (s' := { s3 with heap := h5, toks := s3.toks + 2 }) F5 l1 (by decide +kernel) m1 ?_))
    refine wpAny_bind (wpAny_standAt (wpAny_bind (wpAny_holding ?_)))
    refine setAttr_ok (es' := ndL (PyData.keyHash g.w.params (PySem.Str.ofString "n")) (PyData.keyHash g.w.params (PySem.Str.ofString "d")) (s3.toks + 1) (s3.toks + 2 + 1) a b ta tb) (c' := 2) g.KI F5 (keep5 _ _ (keep4 _ _ hx3) hxL1 hne) g5 hdb hdL1 (kf_tkd _) ?_ ?_ (by simp [ndL]) fun h6 F6 g6 keep6 => ?_
    · unfold getL
      rw [List.find?_cons_of_neg (by show ¬ ((PySem.Str.ofString "n") == (PySem.Str.ofString "d")) = true; decide +kernel)]
      rfl
    · have e1 : (Value.str (PySem.Str.ofString "n") (s3.toks + 1)).isStr (PySem.Str.ofString "d") = false := by show ((PySem.Str.ofString "n") == (PySem.Str.ofString "d")) = false; decide +kernel
      unfold putL putN
      simp only [e1, Bool.false_eq_true, if_false, List.any_cons, List.any_nil, Bool.or_false]
      rfl
    refine wpAny_release ?_
    refine PyProof.Rows.assignInOrder_nil ?_
    have keepA : ∀ b o, s3.heap.get? b = some o → b ∉ [L1, dx] → h6.get? b = some o := fun b o e hb => by
      simp only [List.mem_cons, List.not_mem_nil, or_false, not_or] at hb
      exact keep6 b o (keep5 b o (keep4 b o e) hb.1 hb.2) hb.1 hb.2
    have I6 : Inv g L names W3 r st' { s3 with heap := h6, toks := s3.toks + 2 + 2 } := by
      refine I3.pokeY (Y := [L1, dx]) (by omega) (fun a ha => ?_) keepA
      simp only [List.mem_cons, List.not_mem_nil, or_false] at ha
      rcases ha with rfl | rfl
      · obtain ⟨o, es, ep, h, _⟩ := F6.ns
        exact ⟨x3.xsub I1.mem, notC x3 I1.notC eL, hLL, ⟨_, h⟩⟩
      · exact ⟨x3.xsub (x1.xsub hdX), notC x3 hdC1 ⟨_, hdx1⟩, hdL, ⟨_, g6⟩⟩
    refine hQ _ (k W3 _ ⟨fun b o e h1' h2' => ?_, ?_, ?_⟩ I6 ⟨_, _, _, _, _, _, _, g6⟩)
    · have hbL : b ≠ L1 := by rintro rfl; rw [f1] at e; cases e
      have hbd : b ≠ dx := fun q => h1' (List.mem_singleton.mpr q)
      refine keepA b o (x3.keep b o (x1.keep b o e List.not_mem_nil h2') List.not_mem_nil (notC x1 h2' ⟨_, e⟩)) (by simp [hbL, hbd])
    · exact (x1.trans0 (s₁ := { s with heap := h1, toks := s.toks + 3 }) I1.st x3).xs
    · exact (x1.trans0 (s₁ := { s with heap := h1, toks := s.toks + 3 }) I1.st x3).cs
  have dbg2 : ((PySem.Str.ofString "n") == ("__debug__" : PySem.Str)) = false := by decide +kernel
  have dbg3 : ((PySem.Str.ofString "d") == ("__debug__" : PySem.Str)) = false := by decide +kernel
  have sp : ∀ {q1 q2 pos : Pos} {s' : Shared} {Q' : List Value → Shared → Prop} {E' : Value → Shared → Prop}, Fr g.base L1 s'.heap m → Q' [.int nn tn, .int d td] s' → wpAny g.M A' (spliced (backTo pos (starEach [.Name (PySem.Str.ofString "n") q1, .Name (PySem.Str.ofString "d") q2] (envX fd.qualname fd.scope L1 78 fd.code [])))) Q' E' s' := fun F q =>
    Calls.spliced_cons (nm F l2 dbg2 m2 (Calls.spliced_cons (nm F l3 dbg3 m3 (Calls.spliced_nil q))))
  have Fsame : ∀ {W3 : Wd} {h3 : Heap}, Ext [] W1 W3 h1 h3 → (∀ b o, g.base.get? b = some o → h3.get? b = some o) → Fr g.base L1 h3 m := fun x3 kb => by
    obtain ⟨o, es, ep, hL, hn2⟩ := id F1.ns
    exact ⟨⟨o, es, ep, x3.keep _ _ hL List.not_mem_nil I1.notC, hn2⟩, kb, F1.above⟩
  refine wpAny_execs_cons (PyProof.Rows.Assign_Tuple (wpAny_IfExp ?_) rfl rfl)
  have br : ∀ (c : Bool) (tk : Nat), 1 ≤ tk → c = decide (nn = 0 ∨ d = 0) → ∀ (Q' : Shared → Prop) (E' : Value → Shared → Prop), (∀ s', Q (.ref x) s' → Q' s') → 
      (if c = true then wpAny g.M A' (eval (.Tuple [.Name (PySem.Str.ofString "n") p13, .Name (PySem.Str.ofString "d") p14] k15 p15) (envX fd.qualname fd.scope L1 78 fd.code [])) (fun v s₁ => wpAny g.M A' (assign (.Tuple [.Attribute (.Name (PySem.Str.ofString "self") p1) (PySem.Str.ofString "n") p2, .Attribute (.Name (PySem.Str.ofString "self") p3) (PySem.Str.ofString "d") p4] k5 p5) (envX fd.qualname fd.scope L1 78 fd.code []) v) (fun _ => Q') E' s₁) E' { s with heap := h1, toks := tk }
        else wpAny g.M A' (eval (.Call (.Name (PySem.Str.ofString "nearest") p16) [.Name (PySem.Str.ofString "n") p17, .Name (PySem.Str.ofString "d") p18] [] p19) (envX fd.qualname fd.scope L1 78 fd.code [])) (fun v s₁ => wpAny g.M A' (assign (.Tuple [.Attribute (.Name (PySem.Str.ofString "self") p1) (PySem.Str.ofString "n") p2, .Attribute (.Name (PySem.Str.ofString "self") p3) (PySem.Str.ofString "d") p4] k5 p5) (envX fd.qualname fd.scope L1 78 fd.code []) v) (fun _ => Q') E' s₁) E' { s with heap := h1, toks := tk }) := by
    intro c tk htk hc Q' E' hQ
    have It : Inv g L names W1 r st { s with heap := h1, toks := tk } := Ic.setToks htk
    by_cases hz : nn = 0 ∨ d = 0
    · rw [if_pos (by rw [hc]; exact decide_eq_true hz)]
      rw [if_pos hz] at hev
      cases hev
      refine Tuple_ (sp (s' := { s with heap := h1, toks := tk }) F1 (wpAny_newTuple ?_ (by rw [sizeLine_eq]; show 2 ≤ _; omega)))
      obtain ⟨x4, I4, e1, e2⟩ := It.pushed { cls := .type "tuple", data := .seq [Value.int nn tn, .int d td].toArray } rfl htk
      have x4' : Ext [] W1 W1 h1 (h1.push { cls := .type "tuple", data := .seq [Value.int nn tn, .int d td].toArray }) := ⟨fun b o e _ _ => Heap.get?_push_of_some _ e, ⟨[], by simp⟩, ⟨[], by simp⟩⟩
      refine fin W1 { s with heap := _, toks := tk } _ E' Q' hQ x4' I4 (Fsame x4' I4.st.keep) ?_
      unfold Rep
      exact ⟨_, _, rfl, e2, ⟨_, e1, rfl, _, rfl⟩, reps2 (by unfold Rep; exact ⟨_, rfl⟩) (by unfold Rep; exact ⟨_, rfl⟩)⟩
    · rw [if_neg (by rw [hc, decide_eq_false hz]; decide)]
      rw [if_neg hz] at hev
      have e : eval (.Call (.Name (PySem.Str.ofString "nearest") p16) [.Name (PySem.Str.ofString "n") p17, .Name (PySem.Str.ofString "d") p18] [] p19) (envX fd.qualname fd.scope L1 78 fd.code []) = (do callWith p19 (← eval (.Name (PySem.Str.ofString "nearest") p16) (envX fd.qualname fd.scope L1 78 fd.code [])) [] (backTo p19 (starEach [.Name (PySem.Str.ofString "n") p17, .Name (PySem.Str.ofString "d") p18] (envX fd.qualname fd.scope L1 78 fd.code []))) (backToKw p19 (keywordEach [] (envX fd.qualname fd.scope L1 78 fd.code [])))) := rfl
      rw [e]
      refine wpAny_bind (nameX_K (s := { s with heap := h1, toks := tk }) F1 g.KI (topRead_of g.T) (kf_near _) ?_ hkd Hl (by decide +kernel))
      refine callWith_of (P := fun h => g.K.In h) rfl (fun h X => keeps_K (keep_of (k := fNear) (by decide) (by decide)) h X) (evalArgs_any rfl ?_)
      refine sp (s' := { s with heap := h1, toks := tk }) F1 ⟨It.st.KIn, ?_⟩
      refine wpAny_call (C fNear W1 st A' { s with heap := h1, toks := tk } _ E' [.int nn, .int d] [.int nn tn, .int d td] (.tup [.int a, .int b]) st' hR' It.st (reps2 (by unfold Rep; exact ⟨_, rfl⟩) (by unfold Rep; exact ⟨_, rfl⟩)) hev fun W2 s2 cv x2 S2 R2 => ?_)
      exact fin W2 s2 cv E' Q' hQ x2 (It.step x2 S2) (Fsame x2 S2.keep) R2
  have h1k : 1 ≤ s.toks + 3 := by omega
  refine isTrue_or (wpAny_isTrue_Compare1 (nm (s' := { s with heap := h1, toks := s.toks + 3 }) F1 l2 dbg2 m2 (wpAny_Constant_int (P.eq_int (wpAny_truthy_bool ?_)))) rfl)
  by_cases hz : nn = 0
  · have e1 : (nn == 0) = true := by rw [hz]; rfl
    rw [if_pos e1]
    exact br true _ (by omega) (by simp [hz]) _ _ fun s' q => wpAny_execs_nil (And.intro rfl q)
  · have e1 : (nn == 0) = false := by simp [hz]
    rw [e1, if_neg (by decide)]
    refine isTrue_or (wpAny_isTrue_Compare1 (nm (s' := { s with heap := h1, toks := _ }) F1 l3 dbg3 m3 (wpAny_Constant_int (P.eq_int (wpAny_truthy_bool ?_)))) rfl)
    by_cases hz2 : d = 0
    · have e2 : (d == 0) = true := by rw [hz2]; rfl
      rw [if_pos e2]
      exact br true _ (by omega) (by simp [hz2]) _ _ fun s' q => wpAny_execs_nil (And.intro rfl q)
    · have e2 : (d == 0) = false := by simp [hz2]
      rw [e2, if_neg (by decide)]
      exact isTrue_or_nil (br false _ (by omega) (by simp [hz, hz2]) _ _ fun s' q => wpAny_execs_nil (And.intro rfl q))
end
end Mine
end
section
open PySem PySem.W PyProof.Rows
set_option Elab.async false
set_option maxRecDepth 100000
namespace Mine

section
variable {g : GC} {n : Nat} {sc : Scope} {names : List PySem.Str} {cf : CF} {e e₁ e₂ e₃ : Expr} {es : List Expr} {p₁ p₂ p₃ ps : PE}

theorem tc_w (C : Addr) (cvs : List Value) : (Code.builtin "type.__call__" ⟨.ref C :: cvs, []⟩).weight = 1 := rfl
theorem tc_u (C : Addr) (cvs : List Value) : (Code.builtin "type.__call__" ⟨.ref C :: cvs, []⟩).cUnits = 1 := rfl

theorem Inv.drop {L : Addr} {W W' : Wd} {r : Rho} {st : Store} {s : Shared} (I : Inv g L names W r st s) (hc : W'.C = W.C) (hx : ∀ a, a ∈ W'.X → a ∈ W.X) (hL : L ∈ W'.X) (hC : ∀ a ∈ W.C, a ∈ W'.X) : Inv g L names W' r st s := by
  have S := I.st
  obtain ⟨m, F, hm⟩ := I.fr
  refine ⟨⟨S.keep, fun a ha => S.xb a (hx a ha), fun a ha => S.xs a (hx a ha), fun a ha => hC a (by rw [← hc]; exact ha), by rw [hc]; exact S.nd, by rw [hc]; exact S.len, fun i l hi => ?_, S.gens, S.os, S.toks, S.big⟩, hL, by rw [hc]; exact I.notC, m, F, fun i v hi => ?_⟩
  · obtain ⟨a, vs, h1, h2, h3⟩ := S.cells i l hi
    exact ⟨a, vs, by rw [hc]; exact h1, h2, Reps.mono hc hx _ _ h3⟩
  · obtain ⟨y, cv, h1, h2, h3⟩ := hm i v hi
    exact ⟨y, cv, h1, h2, Rep.mono hc hx _ _ h3⟩

/-- behind a rule with frame and ledger, one of the new objects a mutable place -/
theorem Inv.ledX {L D : Addr} {W : Wd} {r : Rho} {st : Store} {s : Shared} {m : PySem.Str → Option Value} {h' : Heap} {k : Nat} {extra : List (Addr × Obj)}
    (I : Inv g L names W r st s) (F : Fr g.base L s.heap m) (hm : ∀ i v, lk r i = some v → ∃ x cv, names[i]? = some x ∧ m x = some cv ∧ Rep s.heap W v cv)
    (F' : Fr g.base L h' m) (N : News g.base L h' (extra ++ full g.base L s.heap)) (hk : 1 ≤ k) (hD : s.heap.get? D = none) (hb : g.base.get? D = none) (hd : ∃ o, h'.get? D = some o) :
    Ext [L] W ⟨W.X ++ [D], W.C⟩ s.heap h' ∧ Inv g L names ⟨W.X ++ [D], W.C⟩ r st { s with heap := h', toks := k } := by
  have keep := ledger_keep F F' N
  have x : Ext [L] W ⟨W.X ++ [D], W.C⟩ s.heap h' := ⟨fun b o e h1 _ => keep b o e h1, ⟨_, rfl, fun b hb => by rw [List.mem_singleton.mp hb]; exact hD⟩, ⟨[], by simp⟩⟩
  have S := I.st
  have subL : ∀ a ∈ [L], a ∈ W.X := fun a ha => by rw [List.mem_singleton.mp ha]; exact I.mem
  obtain ⟨oL, _, _, hL, _⟩ := F'.ns
  have lt : L < h'.objs.size := F'.ns.lt
  refine ⟨x, ⟨⟨F'.keep, fun a ha => ?_, fun a ha => ?_, fun a ha => List.mem_append_left _ (S.sub a ha), S.nd, S.len, fun i l hi => ?_, S.gens, S.os, hk, Nat.le_trans F'.above (Nat.le_of_lt lt)⟩, List.mem_append_left _ I.mem, I.notC, m, F', fun i v hv => ?_⟩⟩
  · rcases List.mem_append.mp ha with ha | ha
    · exact S.xb a ha
    · rw [List.mem_singleton.mp ha]; exact hb
  · rcases List.mem_append.mp ha with ha | ha
    · by_cases q : a = L
      · exact ⟨oL, q ▸ hL⟩
      · obtain ⟨o, ho⟩ := S.xs a ha
        exact ⟨o, keep a o ho (fun q' => q (List.mem_singleton.mp q'))⟩
    · rw [List.mem_singleton.mp ha]; exact hd
  · obtain ⟨a, vs, h1, h2, h3⟩ := S.cells i l hi
    have hac : a ∈ W.C := (List.getElem?_eq_some_iff.mp h1).2 ▸ List.getElem_mem _
    have haL : a ∉ [L] := fun q => I.notC (List.mem_singleton.mp q ▸ hac)
    exact ⟨a, vs, h1, LL.keeps h2 (fun o ho => keep a o ho haL), Reps.ext x subL S.sub _ _ h3⟩
  · obtain ⟨y, cv, h1, h2, h3⟩ := hm i v hv
    exact ⟨y, cv, h1, h2, Rep.ext x subL S.sub _ _ h3⟩

theorem init_facts (P : Params) : ∃ fd, FdIs (KK P) 78 fd 3 ∧ namesOf fd.scope = selfnd ∧ fd.scope.names.lookup (PySem.Str.ofString "nearest") = some .globalImplicit ∧ initShape (stmtsOf fd.body) = true ∧ fd.defaults = .ref 71 ∧
    ∃ o t n, (KK P).lookup 71 = some o ∧ o.data = .seq #[.int 1 t] n := by
  have h := kf_initAll P
  unfold initAll at h
  split at h
  · rename_i fd hfd
    simp only [Bool.and_eq_true, decide_eq_true_eq] at h
    obtain ⟨⟨⟨⟨⟨h1, h2⟩, h3⟩, h4⟩, h5⟩, h6⟩ := h
    refine ⟨fd, fdIs_of hfd h1, h2, h3, h4, h5, ?_⟩
    split at h6
    · rename_i o ho
      split at h6
      · rename_i vs k hd
        split at h6
        · rename_i t hv
          refine ⟨o, t, k, ho, ?_⟩
          rw [hd]
          congr 1
          rw [← Array.toArray_toList (xs := vs), hv]
        · cases h6
      · cases h6
    · cases h6
  · cases h

theorem mkd_run (C : CallOK g n fad cf) {A : Around} {L : Addr} {W : Wd} {r : Rho} {st st' : Store} {s : Shared} {cvs : List Value} {nn d a b : Int} {tn td : Tok} {Q E : Value → Shared → Prop} (hR : Room (2 * n + 1) A) (I : Inv g L names W r st s)
    (hb : ∀ fd, FdIs g.K 78 fd 3 → namesOf fd.scope = selfnd → fd.defaults = .ref 71 → (∃ o n, g.K.lookup 71 = some o ∧ o.data = .seq #[.int 1 td] n) ∨ (cvs = [.int nn tn, .int d td]) → ∀ x s', g.K.In s'.heap → BindsTo s' fd ⟨.ref x :: cvs, []⟩ (((namesOf fd.scope).take 3).zip [.ref x, .int nn tn, .int d td]))
    (hw : (∃ o n, g.K.lookup 71 = some o ∧ o.data = .seq #[.int 1 td] n) ∨ (cvs = [.int nn tn, .int d td]))
    (hev : (if nn = 0 ∨ d = 0 then some (PVal.tup [.int nn, .int d], st) else cf fNear [.int nn, .int d] st) = some (.tup [.int a, .int b], st'))
    (k : Ko g L names W r st' (.dbl a b) Q s) : wpAny g.M A (call (.ref DC) cvs) Q E s := by
  obtain ⟨fd, H, Hn, Hl, Hs, Hd, _⟩ := init_facts g.w.params
  obtain ⟨m, F, hm⟩ := I.fr
  refine call_cls F g.KI (full_news g.base s.heap L) (kf_makes _) (kf_init _) (fn_of (by decide)) fun x dx h' F' N' hlt hxd => ?_
  have nx := N' (x, instObj DC dx) (List.mem_cons_self ..)
  have nd := N' (dx, dictOf [] 0) (List.mem_cons_of_mem _ (List.mem_cons_self ..))
  have fresh : ∀ {b : Addr}, b ≠ L → g.base.get? b = none → dx ≤ b → s.heap.get? b = none := fun {b} h1 h2 h3 => by
    cases q : s.heap.get? b with
    | none => rfl
    | some o => exact absurd (hlt _ (full_mem q h1 h2)) (Nat.not_lt.mpr h3)
  have fd0 := fresh nd.2.1 nd.2.2 (Nat.le_refl _)
  have fx0 := fresh nx.2.1 nx.2.2 (Nat.le_of_lt hxd)
  obtain ⟨x2, I2⟩ := I.ledX (extra := [(x, instObj DC dx), (dx, dictOf [] 0)]) (k := s.toks) F hm F' N' I.st.toks fd0 nd.2.2 ⟨_, nd.1⟩
  have hxX : x ∉ W.X ++ [dx] := fun q => by
    rcases List.mem_append.mp q with q | q
    · exact I.fresh fx0 q
    · exact absurd (List.mem_singleton.mp q) (Nat.ne_of_gt hxd)
  have hdC : dx ∉ W.C := fun q => I.fresh fd0 (I.st.sub _ q)
  refine init_run (fd := fd) (L := L) (names := names) (W := ⟨W.X ++ [dx], W.C⟩) (r := r) (st := st) (st' := st') (dx := dx) (nn := nn) (d := d) (a := a) (b := b) (tn := tn) (td := td) (n := n) (cf := cf) C H Hn Hs Hl (fun env => hR.down (h2 := by show A.depth + _ + 1 ≤ _; rw [tc_w]; omega) (h3 := by show A.units + _ + 3 ≤ _; rw [tc_u]; omega)) (by have := hR.depth; show A.depth + _ < _; rw [tc_w]; omega) I2 nx.1 nd.1 (Nat.ne_of_gt hxd) nd.2.2 hxX (List.mem_append_right _ (List.mem_singleton.mpr rfl)) hdC nd.2.1 (hb fd H Hn Hd hw x _ I2.st.KIn) hev fun W3 s3 x3 I3 hg => ?_
  obtain ⟨c, h₁, h₂, k₁, k₂, tn', td', g3⟩ := hg
  obtain ⟨N3, hN3, hf3⟩ := x3.xs
  obtain ⟨B3, hB3, hb3⟩ := x3.cs
  have lives : ∀ b, h'.get? b = none → s.heap.get? b = none := fun b q => by
    cases e : s.heap.get? b with
    | none => rfl
    | some o =>
      exfalso
      by_cases h1 : b = L
      · obtain ⟨o', ho'⟩ := I2.lives; rw [h1] at q; rw [q] at ho'; cases ho'
      · by_cases h2 : b ∈ W.C
        · obtain ⟨o', ho'⟩ := I2.st.clives b h2; rw [q] at ho'; cases ho'
        · have := x2.keep b o e (by simpa using h1) h2; rw [q] at this; cases this
  have dC3 : dx ∉ W3.C := by
    rw [hB3]; intro q
    rcases List.mem_append.mp q with q | q
    · exact hdC q
    · have := hb3 _ q; rw [nd.1] at this; cases this
  have sub3 : ∀ a ∈ W3.C, a ∈ W.X ++ N3 := fun a ha => by
    have := I3.st.sub a ha
    rw [hN3] at this
    rcases List.mem_append.mp this with q | q
    · rcases List.mem_append.mp q with q | q
      · exact List.mem_append_left _ q
      · rw [List.mem_singleton.mp q] at ha; exact absurd ha dC3
    · exact List.mem_append_right _ q
  have I4 : Inv g L names ⟨W.X ++ N3, W3.C⟩ r st' s3 := I3.drop rfl (fun a ha => by
    rw [hN3]
    rcases List.mem_append.mp ha with q | q
    · exact List.mem_append_left _ (List.mem_append_left _ q)
    · exact List.mem_append_right _ q) (List.mem_append_left _ I.mem) sub3
  refine k ⟨W.X ++ N3, W3.C⟩ s3 _ ⟨fun b o e h1 h2 => ?_, ⟨N3, rfl, fun b hb => lives b (hf3 b hb)⟩, ⟨B3, hB3, fun b hb => lives b (hb3 b hb)⟩⟩ I4 ?_
  · refine x3.keep b o (x2.keep b o e h1 h2) ?_ h2
    intro q; rw [List.mem_singleton.mp q, fd0] at e; cases e
  · unfold Rep
    have hxC : x ∉ W.C := fun q => I.fresh fx0 (I.st.sub _ q)
    refine ⟨x, dx, c, h₁, h₂, k₁, k₂, tn', td', rfl, fun q => ?_, fun q => ?_, x3.keep _ _ nx.1 (fun q => absurd (List.mem_singleton.mp q) (Nat.ne_of_gt hxd)) hxC, g3⟩
    · rcases List.mem_append.mp q with q | q
      · exact I.fresh fx0 q
      · have := hf3 _ q; rw [nx.1] at this; cases this
    · rcases List.mem_append.mp q with q | q
      · exact I.fresh fd0 q
      · have := hf3 _ q; rw [nd.1] at this; cases this
end
end Mine
end
section
open PySem PySem.W PyProof.Rows
set_option Elab.async false
set_option maxRecDepth 100000
namespace Mine

section
variable {g : GC} {n : Nat} {sc : Scope} {names : List PySem.Str} {cf : CF} {e e₁ e₂ e₃ : Expr} {es : List Expr} {p₁ p₂ p₃ ps : PE}

theorem ev_mkd (C : CallOK g n fad cf) {px pos : Pos} (hkd : sc.kind = .function) (hl : sc.names.lookup (PySem.Str.ofString "Double") = some .globalImplicit) (h1 : EsOK g n sc names cf es ps) :
    EvOK g n sc names cf (.Call (.Name (PySem.Str.ofString "Double") px) es [] pos) (.mkd ps) := by
  intro cn ad ccd L W r st A s Q E v st' hR I he kq
  obtain ⟨m, F, hm⟩ := I.fr
  have one : ∀ (l : List PVal) (st1 : Store), evs cf ps r st = some (l, st1) → (∀ W1 s1 vs, Ext [L] W W1 s.heap s1.heap → Inv g L names W1 r st1 s1 → Reps s1.heap W1 l vs → wpAny g.M A (call (.ref DC) vs) Q E s1) →
      wpAny g.M A (eval (.Call (.Name (PySem.Str.ofString "Double") px) es [] pos) (envX cn sc L ad ccd [])) Q E s := fun l st1 hl' k =>
    call_of (fv := .ref DC) hR I h1 hl' (fun Q' q => nameX_K F g.KI (topRead_of g.T) (kf_double _) q hkd hl (by decide +kernel)) (fun h X => keeps_K (kf_keepD _) h X) k
  have pair : ∀ {nn d : Int} {st1 : Store}, ((if nn = 0 ∨ d = 0 then some (PVal.dbl nn d, st1) else (match cf fNear [.int nn, .int d] st1 with | some (.tup [.int a, .int b], st₂) => some (.dbl a b, st₂) | _ => none)) = some (v, st')) →
      ∃ a b, v = .dbl a b ∧ (if nn = 0 ∨ d = 0 then some (PVal.tup [.int nn, .int d], st1) else cf fNear [.int nn, .int d] st1) = some (.tup [.int a, .int b], st') := by
    intro nn d st1 h
    by_cases hz : nn = 0 ∨ d = 0
    · rw [if_pos hz] at h; cases h
      exact ⟨nn, d, rfl, by rw [if_pos hz]⟩
    · rw [if_neg hz] at h
      split at h
      · rename_i a b st2 q; cases h
        exact ⟨a, b, rfl, by rw [if_neg hz]; exact q⟩
      · cases h
  unfold ev at he
  split at he
  · rename_i nn st1 hv
    refine one _ _ hv fun W1 s1 vs x1 I1 R1 => ?_
    obtain ⟨c, rfl, R1'⟩ := reps1_inv R1
    unfold Rep at R1'
    obtain ⟨t, rfl⟩ := R1'
    obtain ⟨fd, H, Hn, Hl, Hs, Hd, o, td, k, ho, hd⟩ := init_facts g.w.params
    have he' : (if nn = 0 ∨ (1 : Int) = 0 then some (PVal.dbl nn 1, st1) else (match cf fNear [.int nn, .int 1] st1 with | some (.tup [.int a, .int b], st₂) => some (.dbl a b, st₂) | _ => none)) = some (v, st') := by
      by_cases hz : nn = 0
      · rw [if_pos hz] at he
        rw [if_pos (.inl hz), hz]; exact he
      · rw [if_neg hz] at he
        rw [if_neg (by simp [hz])]; exact he
    obtain ⟨a, b, rfl, hev⟩ := pair he'
    refine mkd_run C (tn := t) (td := td) hR I1 (fun fd' H' Hn' Hd' _ x s' X => ?_) (.inl ⟨o, k, ho, hd⟩) hev (kq.later x1 I1)
    have Hp := H'.params
    rw [Hn'] at Hp ⊢
    exact binds_one Hp Hd' (X _ _ ho) hd
  · rename_i nn d st1 hv
    refine one _ _ hv fun W1 s1 vs x1 I1 R1 => ?_
    obtain ⟨c, c2, rfl, R1', R2'⟩ := reps2_inv R1
    unfold Rep at R1' R2'
    obtain ⟨t, rfl⟩ := R1'
    obtain ⟨u, rfl⟩ := R2'
    obtain ⟨a, b, rfl, hev⟩ := pair he
    refine mkd_run C (tn := t) (td := u) hR I1 (fun fd' H' Hn' Hd' _ x s' X => ?_) (.inr rfl) hev (kq.later x1 I1)
    refine binds_exact H'.params ((List.take_sublist _ _).nodup H'.names.nd) (by rw [H'.klen]; rfl) ?_
    obtain ⟨fd, H, Hn, Hl, Hs, Hd, o, td, k, ho, hd⟩ := init_facts g.w.params
    exact .inr ⟨71, o, _, _, Hd', X _ _ ho, hd⟩
  · cases he
end
end Mine
end
section
open PySem PySem.W PyProof.Rows
set_option Elab.async false
set_option maxRecDepth 100000
namespace Mine

def isNS (k : Option PySem.Str) (v : Value) : Bool := match k with
  | none => (match v with | .none => true | _ => false)
  | some x => Value.isStrOf x v
theorem isNS_none {v : Value} (h : isNS none v = true) : v = .none := by cases v <;> first | rfl | cases h
theorem isNS_some {x : PySem.Str} {v : Value} (h : isNS (some x) v = true) : ∃ t, v = .str x t := Value.isStrOf_shape h

theorem pyHash_none {prog : Program} {w : World} {A : Around} {E : Value → Shared → Prop} {s : Shared} {Q : Int → Shared → Prop} (h : Q 0xFCA86420 { s with toks := s.toks + 1 }) : wpAny (model prog w) A (pyHash .none) Q E s := by
  refine pyHash_slot (T := "NoneType") rfl PySem.F.slot_NoneType_hash PySem.F.entry_NoneType_hash (PySem.F.args_NoneType_hash_1 _) (beq_builtin_none _) (.inl rfl) ?_
  show wpAny _ _ (do ret (← mkInt 0xFCA86420)) _ _ s
  exact wpAny_bind (wpAny_mkInt (wpAny_pure ⟨_, _, rfl, h⟩))

def nsKind (prog : Program) (w : World) : KeyKind prog w (Option PySem.Str) where
  is := isNS
  hash k := match k with | none => 0xFCA86420 | some x => hashStr w x
  inj v a b ha hb := by
    cases a <;> cases b
    · rfl
    · rw [isNS_none ha] at hb; obtain ⟨t, q⟩ := isNS_some hb; cases q
    · rw [isNS_none hb] at ha; obtain ⟨t, q⟩ := isNS_some ha; cases q
    · rw [Value.isStrOf_inj v _ _ ha hb]
  byValue k v h := by
    cases k
    · rw [isNS_none h]; rfl
    · obtain ⟨t, rfl⟩ := isNS_some h; rfl
  pyHash := fun {A E s k v Q} hv h => by
    cases k
    · rw [isNS_none hv]; exact pyHash_none h
    · obtain ⟨t, rfl⟩ := isNS_some hv; exact wpAny_pyHash_str h
  eqBool := fun {A E s a b u v Q} hu hv h => by
    cases a <;> cases b
    · rw [isNS_none hu, isNS_none hv]
      unfold PySem.eqBool
      exact wpAny_bind (wpAny_rule (wpAny_pure (by simpa using h)))
    · rw [isNS_none hu]; obtain ⟨t, rfl⟩ := isNS_some hv
      exact PySem.SeqAt.EqAt.none_str _ _ _ _ _ _ (by simpa using h)
    · rw [isNS_none hv]; obtain ⟨t, rfl⟩ := isNS_some hu
      exact PySem.SeqAt.EqAt.str_none _ _ _ _ _ _ (by simpa using h)
    · obtain ⟨t, rfl⟩ := isNS_some hu
      obtain ⟨t', rfl⟩ := isNS_some hv
      exact wpAny_eqBool_str (by simpa using h)
  «strs» k x t v h := by
    cases k
    · cases isNS_none h
    · obtain ⟨u, hu⟩ := isNS_some h
      injection hu with hx
      subst hx
      cases v <;> rfl

def entsS (P : Params) (l : List (String × Tok × String × Tok)) : List DictEntry := l.map fun (k, t, v, u) => ⟨PyData.keyHash P (PySem.Str.ofString k), .str (PySem.Str.ofString k) t, .str (PySem.Str.ofString v) u⟩
def thL : List (String × Tok × String × Tok) := [("de_DE", 580, ".", 581), ("fr_FR", 582, " ", 583), ("it_IT", 584, ".", 585), ("pt_BR", 586, ".", 587), ("hu_HU", 588, " ", 589), ("lv", 590, " ", 591), ("tr_TR", 592, ".", 593)]
def deL : List (String × Tok × String × Tok) := [("de_DE", 602, ",", 603), ("fr_FR", 604, ",", 605), ("it_IT", 606, ",", 607), ("pt_BR", 608, ",", 609), ("hu_HU", 610, ",", 611), ("lv", 612, ",", 613), ("tr_TR", 614, ",", 615)]
theorem kf_th (P : Params) : (KK P).lookup 224 = some (dictOf (entsS P thL) 7) := by kernel_rfl
theorem kf_de (P : Params) : (KK P).lookup 225 = some (dictOf (entsS P deL) 7) := by kernel_rfl
theorem kf_thg (P : Params) : nsIn (KK P) mainGlobals "_THOUSANDS_SEPARATOR" = some (some (.ref 224)) := by kernel_rfl
theorem kf_deg (P : Params) : nsIn (KK P) mainGlobals "_DECIMAL_SEPARATOR" = some (some (.ref 225)) := by kernel_rfl

theorem mapOf_ents {prog : Program} {w : World} {h : Heap} {a : Addr} {l : List (String × Tok × String × Tok)} {c : Nat} (hg : h.get? a = some (dictOf (entsS w.params l) c)) : ∃ f, h.MapOf (nsKind prog w) a f ∧ f none = none := by
  refine ⟨fun k => findBy (nsKind prog w).is (entsS w.params l).toArray k, ⟨_, (entsS w.params l).toArray, c, hg, ⟨rfl, rfl, rfl⟩, rfl, fun e he => ?_, fun k => rfl⟩, ?_⟩
  · have he' : e ∈ entsS w.params l := by simpa using he
    obtain ⟨⟨k, t, v, u⟩, _, rfl⟩ := List.mem_map.mp he'
    refine ⟨some (PySem.Str.ofString k), ?_, rfl⟩
    simp [nsKind, isNS, Value.isStrOf]
  · show findBy isNS _ none = none
    unfold findBy
    rw [List.find?_toArray, List.find?_eq_none.mpr]
    · rfl
    · intro e he
      obtain ⟨⟨k, t, v, u⟩, _, rfl⟩ := List.mem_map.mp he
      simp [isNS]

section
variable {g : GC} {n : Nat} {sc : Scope} {names : List PySem.Str} {cf : CF}

def sepN (k : Nat) : PySem.Str := if k = 0 then PySem.Str.ofString "_THOUSANDS_SEPARATOR" else PySem.Str.ofString "_DECIMAL_SEPARATOR"
def sepV (k : Nat) : PySem.Str := if k = 0 then PySem.Str.ofString "," else PySem.Str.ofString "."

theorem ev_getSep {k : Nat} {px ap pos p1 p2 : Pos} {k1 k2 : Nat} (hkd : sc.kind = .function) (hl : sc.names.lookup (sepN k) = some .globalImplicit) (hpos : (ap.endLine == pos.line) = true) :
    EvOK g n sc names cf (.Call (.Attribute (.Name (sepN k) px) (PySem.Str.ofString "get") ap) [.Constant .none k1 p1, .Constant (.str (sepV k)) k2 p2] [] pos) (.getSep k) := by
  intro cn a ccd L W r st A s Q E v st' hR I he kq
  unfold ev at he
  cases he
  obtain ⟨m, F, hm⟩ := I.fr
  have hx : ∃ d o f, nsIn g.K mainGlobals (sepN k) = some (some (.ref d)) ∧ (d == sysModules) = false ∧ s.heap.get? d = some o ∧ (∃ es c, o = dictOf es c) ∧ s.heap.MapOf (nsKind g.prog g.w) d f ∧ f none = none := by
    by_cases hk : k = 0
    · obtain ⟨f, h1, h2⟩ := mapOf_ents (prog := g.prog) (w := g.w) (I.st.KIn _ _ (kf_th g.w.params))
      exact ⟨224, _, f, by unfold sepN; rw [if_pos hk]; exact kf_thg _, by decide, I.st.KIn _ _ (kf_th _), ⟨_, _, rfl⟩, h1, h2⟩
    · obtain ⟨f, h1, h2⟩ := mapOf_ents (prog := g.prog) (w := g.w) (I.st.KIn _ _ (kf_de g.w.params))
      exact ⟨225, _, f, by unfold sepN; rw [if_neg hk]; exact kf_deg _, by decide, I.st.KIn _ _ (kf_de _), ⟨_, _, rfl⟩, h1, h2⟩
  obtain ⟨d, o, f, h1, h2, h3, ⟨es, c, rfl⟩, h5, h6⟩ := hx
  have hp : (starEach [Expr.Constant .none k1 p1, .Constant (.str (sepV k)) k2 p2] (envX cn sc L a ccd [])).any (·.1) = false := rfl
  refine methodCall_any rfl hp (by simp) hpos (nameX_K F g.KI (topRead_of g.T) h1 ?_ hkd hl (by unfold sepN; split <;> decide +kernel))
  refine getMethod_builtin ⟨_, h3, rfl⟩ PySem.F.plainAttrs_dict PySem.F.slot_dict_get PySem.F.type_dict_get (fun a e => by cases e; exact ⟨_, h3, rfl⟩) ?_
  refine callWith_of (P := fun h => g.K.In h) (by rw [backTo_plain hp]; rfl) keeps_builtin (evalArgs_any (backTo_plain hp) ?_)
  refine Calls.spliced_cons (wpAny_Constant_none (k := k1) (pos := p1) ?_)
  refine Calls.spliced_cons (wpAny_Constant_str (k := k2) (pos := p2) ?_)
  refine Calls.spliced_nil ⟨I.st.KIn, ?_⟩
  refine call_meetsIn PySem.F.slot_dict_get ⟨_, h3, rfl⟩ PySem.F.entry_dict_get (PySem.F.args_dict_get_3 _ _ _) (meets_dict_get_default (nsKind g.prog g.w) d (k := none) rfl h2 _) ⟨f, h5, ?_⟩
  rw [h6]
  refine kq.same I (t := s.toks + 1 + 1) (by omega) ?_
  have e : (if k = 0 then PySem.Str.ofString "," else PySem.Str.ofString ".") = sepV k := rfl
  rw [e]
  unfold Rep
  exact ⟨s.toks, rfl, Nat.ne_of_gt I.st.toks⟩
end
end Mine
end
section
open PySem PySem.W PyProof.Rows
set_option Elab.async false
set_option maxRecDepth 100000
namespace Mine

theorem vs_signs {y : PySem.Str} {vs : List Value} (hlen : vs.length = y.cps.size) (hP : ∀ (j : Nat) (v : Value), vs[j]? = some v → SignAt y j v) : ∀ {h : Heap} {W : Wd}, Reps h W (y.cps.toList.map one) vs := by
  intro h W
  have gen : ∀ (cs : List Nat) (vs : List Value), vs.length = cs.length → (∀ (j : Nat) (v : Value), vs[j]? = some v → ∃ c u, cs[j]? = some c ∧ v = .str ⟨#[c]⟩ u) → Reps h W (cs.map one) vs := by
    intro cs
    induction cs with
    | nil => intro vs hl _; rw [List.length_eq_zero_iff.mp hl]; unfold Reps; rfl
    | cons c cs ih =>
      intro vs hl hg
      cases vs with
      | nil => simp at hl
      | cons v vs =>
        obtain ⟨c', u, h1, rfl⟩ := hg 0 v rfl
        simp only [List.getElem?_cons_zero, Option.some.injEq] at h1
        subst h1
        rw [List.map_cons]
        unfold Reps
        exact ⟨_, _, rfl, by unfold one Rep; exact ⟨u, rfl⟩, ih vs (by simpa using hl) fun j v hv => by simpa using hg (j + 1) v (by simpa using hv)⟩
  refine gen _ vs (by rw [hlen]; simp) fun j v hv => ?_
  obtain ⟨c, u, h1, h2⟩ := hP j v hv
  exact ⟨c, u, by simpa using h1, h2⟩

section
variable {g : GC} {n : Nat} {sc : Scope} {names : List PySem.Str} {cf : CF}

structure CompSc (cs : Scope) (x : PySem.Str) : Prop where
  free : ∀ y ∈ cs.names, y.2 ≠ .free
  cell : ∀ y ∈ cs.names, y.2 ≠ .cell
  kind : cs.kind = .function
  names : ∀ y ∈ cs.names, y.2 = .local → cs.names.lookup y.1 = some .local
  loc : cs.names.lookup x = some .local
  dbg : (x == ("__debug__" : PySem.Str)) = false

/-- a comprehension over a text's signs -/
theorem comp_str {cs : Scope} {x : PySem.Str} {px pos : Pos} {elt iter : Expr} {ifs : List Expr} {A : Around} {env : Env} {L : Addr} {W : Wd} {r : Rho} {st : Store} {s : Shared} {Q E : Value → Shared → Prop} {y : PySem.Str} {t : Tok} (S : CompSc cs x) (hh : A.handled = none) (hsz : y.length ≤ slim) (I : Inv g L names W r st s)
    (p : Nat → Bool) (f : Nat → Nat) (hit : wpAny g.M A (eval iter env) (fun v s' => v = .str y t ∧ s' = s) E s)
    (ht : ∀ C c u s₃ m₃ E', c ∈ y.cps.toList → s₃.heap.Ns C m₃ → m₃ x = some (.str ⟨#[c]⟩ u) → (∀ b o, s.heap.get? b = some o → s₃.heap.get? b = some o) → 1 ≤ s₃.toks →
      wpAny g.M A (forIn ifs true fun c r => if r = true then do let ok ← isTrue c (compEnv cs C env) (eval c (compEnv cs C env)); pure (ForInStep.yield ok) else pure (ForInStep.yield r)) (fun ok s₄ => ok = p c ∧ Keeps s₃ s₄) E' s₃)
    (he : ∀ C c u s₃ m₃ E', c ∈ y.cps.toList → p c = true → s₃.heap.Ns C m₃ → m₃ x = some (.str ⟨#[c]⟩ u) → (∀ b o, s.heap.get? b = some o → s₃.heap.get? b = some o) → 1 ≤ s₃.toks →
      wpAny g.M A (eval elt (compEnv cs C env)) (fun v s₄ => (∃ u', v = .str ⟨#[f c]⟩ u') ∧ Keeps s₃ s₄) E' s₃)
    (hs : ∀ v, foldedSetIterable iter env v = pure v)
    (k : Ko g L names W r st (.lst ((y.cps.toList.filter p).map fun c => one (f c))) Q s) :
    wpAny g.M A (eval (.ListComp elt [⟨.Name x px, iter, ifs, 0⟩] cs pos) env) Q E s := by
  let pv : Value → Bool := fun v => match v with | .str z _ => (match z.cps.toList with | [c] => p c | _ => false) | _ => false
  let F : Value → Value → Prop := fun v w => ∃ c u u', v = .str ⟨#[c]⟩ u ∧ w = .str ⟨#[f c]⟩ u'
  refine wpAny_with_toks I.st.toks ?_
  refine wpAny_ListComp_walk pv F S.free S.cell S.kind S.names S.loc (wpAny_mono hit (fun xv s₁ h₁ => ?_) fun _ _ e _ => e) hs
  obtain ⟨rfl, rfl⟩ := h₁
  refine wpAny_pyIter_str fun o St Wk hst => ?_
  have old : ∀ b o', s₁.heap.get? b = some o' → (s₁.heap.push o).get? b = some o' := fun b o' e => Heap.get?_push_of_some _ e
  have ne : ∀ b o', s₁.heap.get? b = some o' → b ∉ [s₁.heap.objs.size] := fun b o' e => old_not_new e
  refine ⟨s₁.heap.objs.size, [s₁.heap.objs.size], [s₁.heap.objs.size], y.cps.size, fun i v => SignAt y i v, St, rfl, Wk A hh, ?_, hst, ?_, ⟨?_, ?_⟩, ?_⟩
  · have := slim_size hsz; show y.length ≤ _; omega
  · intro b hb
    show b < (s₁.heap.push o).objs.size
    rw [Heap.size_push, List.mem_singleton.mp hb]
    exact Nat.lt_succ_self _
  · intro C i v s₃ m₃ E' hP hn hm hk htk
    obtain ⟨c, u, hc, rfl⟩ := hP
    exact ht C c u s₃ m₃ E' (by rw [List.mem_iff_getElem?]; exact ⟨i, by simpa using hc⟩) hn hm (fun b o' e => hk b o' (ne b o' e) (old b o' e)) (Nat.le_trans I.st.toks htk)
  · intro C i v s₃ m₃ E' hP hp hn hm hk htk
    obtain ⟨c, u, hc, rfl⟩ := hP
    refine wpAny_mono (he C c u s₃ m₃ E' (by rw [List.mem_iff_getElem?]; exact ⟨i, by simpa using hc⟩) hp hn hm (fun b o' e => hk b o' (ne b o' e) (old b o' e)) (Nat.le_trans I.st.toks htk)) (fun v s₄ h₄ => ?_) fun _ _ e => e
    obtain ⟨⟨u', rfl⟩, hK⟩ := h₄
    exact ⟨⟨c, u, u', rfl, rfl⟩, hK⟩
  · intro D h' tk ys vs hnew hlD hplD hlen hP hF hk htk
    have keep : ∀ b o', s₁.heap.get? b = some o' → h'.get? b = some o' := fun b o' e => hk b o' (ne b o' e) (old b o' e)
    obtain ⟨x2, I2⟩ := I.grown (h' := h') (k := tk) htk keep
    refine k W _ _ x2 I2 ?_
    unfold Rep
    have hDX : D ∉ W.X := fun q => by
      obtain ⟨o', ho'⟩ := I.st.xs _ q
      rw [old D o' ho'] at hnew; cases hnew
    refine ⟨D, ys.toList, rfl, hDX, ?_, ?_⟩
    · obtain ⟨n', e⟩ := hplD
      exact .inl ⟨n', by rw [Array.toArray_toList]; exact e⟩
    · have gen : ∀ (cs : List Nat) (vs ws : List Value), Reps h' W (cs.map one) vs → Paired F (vs.filter pv) ws → Reps h' W ((cs.filter p).map fun c => one (f c)) ws := by
        intro cs
        induction cs with
        | nil =>
          intro vs ws hv hp
          unfold Reps at hv; subst hv
          cases hp
          unfold Reps; rfl
        | cons c cs ih =>
          intro vs ws hv hp
          rw [List.map_cons] at hv
          unfold Reps at hv
          obtain ⟨v, vs, rfl, h1, h2⟩ := hv
          unfold one Rep at h1
          obtain ⟨u, rfl⟩ := h1
          have epv : pv (.str ⟨#[c]⟩ u) = p c := rfl
          by_cases hpc : p c = true
          · rw [List.filter_cons_of_pos (by rw [epv]; exact hpc)] at hp
            cases hp with
            | @cons _ b _ l₂ hab hrest =>
              obtain ⟨c', u1, u2, e1, rfl⟩ := hab
              cases e1
              rw [List.filter_cons_of_pos hpc, List.map_cons]
              unfold Reps
              exact ⟨_, _, rfl, by unfold one Rep; exact ⟨_, rfl⟩, ih _ _ h2 hrest⟩
          · rw [List.filter_cons_of_neg (by rw [epv]; exact hpc)] at hp
            rw [List.filter_cons_of_neg hpc]
            exact ih _ _ h2 hp
      exact gen _ _ _ (vs_signs hlen hP) hF

theorem compName {cs : Scope} {x : PySem.Str} {p : Pos} {A : Around} {C : Addr} {env : Env} {s : Shared} {m : PySem.Str → Option Value} {v : Value} {Q E : Value → Shared → Prop} (S : CompSc cs x) (hn : s.heap.Ns C m) (hm : m x = some v) (q : Q v s) : wpAny g.M A (eval (.Name x p) (compEnv cs C env)) Q E s :=
  wpAny_Name (wpAny_loadName_local (env := compEnv cs C env) S.kind S.loc hn hm q) S.dbg

theorem ev_comp1 (hN : NamesOK sc names) {i : Nat} {y x : PySem.Str} {cs : Scope} {p1 p2 p3 p4 p5 p6 pos : Pos} {k5 : Nat} (hi : names[i]? = some y) (S : CompSc cs x) :
    EvOK g n sc names cf (.ListComp (.Name x p1) [⟨.Name x p2, .Name y p3, [.Compare (.Name x p4) [.NotIn] [.Constant (.str (PySem.Str.ofString "0123456789")) k5 p5] p6], 0⟩] cs pos) (.comp1 (.loc i)) := by
  intro cn a ccd L W r st A s Q E v st' hR I he kq
  unfold ev at he
  split at he
  · rename_i z st1 hz
    unfold ev at hz
    obtain ⟨z', hz', e⟩ := Option.map_eq_some_iff.mp hz
    cases e
    obtain ⟨w, hw, e⟩ := Option.map_eq_some_iff.mp he
    cases e
    obtain ⟨m, F, hm⟩ := I.fr
    obtain ⟨y', cv, q1, q2, q3⟩ := hm i _ hz'
    rw [hi] at q1; cases q1
    unfold comp1P at hw
    split at hw
    · rename_i u
      split at hw
      · rename_i hl
        cases hw
        unfold Rep at q3
        obtain ⟨t, rfl⟩ := q3
        refine comp_str S hR.handled hl I (fun c => !Txt.contains (PySem.Str.ofString "0123456789") ⟨#[c]⟩) id (nameX_L F q2 ⟨rfl, rfl⟩ hN.kind (hN.loc i _ hi).1 (hN.loc i _ hi).2) (fun C c u' s₃ m₃ E' _ hn hm' _ _ => ?_) (fun C c u' s₃ m₃ E' _ _ hn hm' _ _ => ?_) (by intro _; rfl) kq
        · rw [List.forIn_cons, if_pos rfl]
          refine wpAny_bind (wpAny_bind (wpAny_isTrue_Compare1 (compName S hn hm' (wpAny_Constant_str (P.notIn_str (wpAny_truthy_bool (wpAny_pure ?_))))) rfl))
          exact wpAny_pure ⟨rfl, s₃.heap, s₃.toks + 1, rfl, fun _ _ e => e⟩
        · exact compName S hn hm' ⟨⟨u', rfl⟩, s₃.heap, s₃.toks, rfl, fun _ _ e => e⟩
      · cases hw
    · cases hw
  · cases he

def raL : List (String × Tok × String × Tok) := [("⁻", 822, "-", 823), ("⁰", 824, "0", 825), ("¹", 826, "1", 827), ("²", 828, "2", 829), ("³", 830, "3", 831), ("⁴", 832, "4", 833), ("⁵", 834, "5", 835), ("⁶", 836, "6", 837), ("⁷", 838, "7", 839), ("⁸", 840, "8", 841), ("⁹", 842, "9", 843)]
theorem kf_ra (P : Params) : (KK P).lookup 322 = some (dictOf (entsS P raL) 11) := by kernel_rfl
theorem kf_rag (P : Params) : nsIn (KK P) mainGlobals "_law_raised" = some (some (.ref 322)) := by kernel_rfl
theorem mapOf_strs {prog : Program} {w : World} {h : Heap} {a : Addr} {l : List (String × Tok × String × Tok)} {c : Nat} (hg : h.get? a = some (dictOf (entsS w.params l) c)) : h.MapOf (PySem.strKind prog w) a (fun k => findBy Value.isStrOf (entsS w.params l).toArray k) := by
  refine ⟨_, (entsS w.params l).toArray, c, hg, ⟨rfl, rfl, rfl⟩, rfl, fun e he => ?_, fun k => rfl⟩
  have he' : e ∈ entsS w.params l := by simpa using he
  obtain ⟨⟨k, t, v, u⟩, _, rfl⟩ := List.mem_map.mp he'
  exact ⟨PySem.Str.ofString k, by simp [PySem.strKind, Value.isStrOf], rfl⟩

theorem ra_find (P : Params) {c d : Nat} (h : numOf c = some d) : ∃ u, findBy Value.isStrOf (entsS P raL).toArray ⟨#[c]⟩ = some (.str ⟨#[d]⟩ u) := by
  unfold numOf at h
  split at h
  · rename_i e; cases h; subst e; exact ⟨823, by kernel_rfl⟩
  · split at h
    · rename_i e; cases h; subst e; exact ⟨825, by kernel_rfl⟩
    · split at h
      · rename_i e; cases h; subst e; exact ⟨827, by kernel_rfl⟩
      · split at h
        · rename_i e; cases h; subst e; exact ⟨829, by kernel_rfl⟩
        · split at h
          · rename_i e; cases h; subst e; exact ⟨831, by kernel_rfl⟩
          · split at h
            · rename_i e
              cases h
              have : c = 8308 ∨ c = 8309 ∨ c = 8310 ∨ c = 8311 ∨ c = 8312 ∨ c = 8313 := by omega
              rcases this with rfl | rfl | rfl | rfl | rfl | rfl
              · exact ⟨833, by kernel_rfl⟩
              · exact ⟨835, by kernel_rfl⟩
              · exact ⟨837, by kernel_rfl⟩
              · exact ⟨839, by kernel_rfl⟩
              · exact ⟨841, by kernel_rfl⟩
              · exact ⟨843, by kernel_rfl⟩
            · cases h

theorem mapM_num : ∀ {l ds : List Nat}, l.mapM numOf = some ds → (∀ c ∈ l, (numOf c).isSome = true) ∧ ds = l.map fun c => (numOf c).getD 0
  | [], ds, h => by cases h; exact ⟨fun _ h => (nomatch h), rfl⟩
  | c :: l, ds, h => by
    rw [List.mapM_cons] at h
    cases hc : numOf c with
    | none => rw [hc] at h; cases h
    | some d =>
      rw [hc] at h
      cases hl : l.mapM numOf with
      | none => rw [hl] at h; cases h
      | some ds' =>
        rw [hl] at h; cases h
        obtain ⟨h1, h2⟩ := mapM_num hl
        refine ⟨fun c' h' => ?_, ?_⟩
        · rcases List.mem_cons.mp h' with rfl | h'
          · rw [hc]; rfl
          · exact h1 c' h'
        · rw [List.map_cons, hc, h2]; rfl

theorem ev_comp2 (hN : NamesOK sc names) {i : Nat} {y x : PySem.Str} {cs : Scope} {p1 p2 p3 p4 p5 pos : Pos} (hi : names[i]? = some y) (S : CompSc cs x) (hg : cs.names.lookup (PySem.Str.ofString "_law_raised") = some .globalImplicit) :
    EvOK g n sc names cf (.ListComp (.Subscript (.Name (PySem.Str.ofString "_law_raised") p4) (.Name x p1) p5) [⟨.Name x p2, .Name y p3, [], 0⟩] cs pos) (.comp2 (.loc i)) := by
  intro cn a ccd L W r st A s Q E v st' hR I he kq
  unfold ev at he
  split at he
  · rename_i z st1 hz
    unfold ev at hz
    obtain ⟨z', hz', e⟩ := Option.map_eq_some_iff.mp hz
    cases e
    obtain ⟨w, hw, e⟩ := Option.map_eq_some_iff.mp he
    cases e
    obtain ⟨m, F, hm⟩ := I.fr
    obtain ⟨y', cv, q1, q2, q3⟩ := hm i _ hz'
    rw [hi] at q1; cases q1
    unfold comp2P at hw
    split at hw
    · rename_i u
      split at hw
      · rename_i hl
        obtain ⟨ds, hds, e⟩ := Option.map_eq_some_iff.mp hw
        cases e
        obtain ⟨hd1, rfl⟩ := mapM_num hds
        unfold Rep at q3
        obtain ⟨t, rfl⟩ := q3
        have ef : (u.cps.toList.filter fun _ => true) = u.cps.toList := List.filter_eq_self.mpr fun _ _ => rfl
        refine comp_str S hR.handled hl I (fun _ => true) (fun c => (numOf c).getD 0) (nameX_L F q2 ⟨rfl, rfl⟩ hN.kind (hN.loc i _ hi).1 (hN.loc i _ hi).2) (fun C c u' s₃ m₃ E' _ hn hm' _ _ => ?_) (fun C c u' s₃ m₃ E' hc _ hn hm' keep _ => ?_) (by intro _; rfl) (by rw [ef]; rw [List.map_map] at kq; exact kq)
        · rw [List.forIn_nil]
          exact wpAny_pure ⟨rfl, s₃.heap, s₃.toks, rfl, fun _ _ e => e⟩
        · have kb : ∀ b o, g.base.get? b = some o → s₃.heap.get? b = some o := fun b o e => keep b o (I.st.keep b o e)
          have X3 : (KK g.w.params).In s₃.heap := fun b o e => keep b o (I.st.KIn b o e)
          have hM := mapOf_strs (prog := g.prog) (w := g.w) (X3 _ _ (kf_ra g.w.params))
          obtain ⟨d, hd⟩ := Option.isSome_iff_exists.mp (hd1 c hc)
          obtain ⟨u2, hf⟩ := ra_find g.w.params hd
          refine PyProof.Rows.Subscript_ (Calls.Name_function_global (env := compEnv cs C _) S.kind hg (Calls.loadGlobal_global (env := compEnv cs C _) ((topRead_of g.T).g.keeps kb) (mg_of g.KI (topRead_of g.T).g (kf_rag _)) ?_) (by decide +kernel))
          refine compName S hn hm' ?_
          refine tail_any hM.typeIs slot_dict_getitem.lookup (wpAny_getItem_of (k := ⟨#[c]⟩) (by simp [PySem.strKind, Value.isStrOf]) hM hf ?_) rfl
          rw [hd]
          exact ⟨⟨u2, rfl⟩, s₃.heap, s₃.toks + 1, rfl, fun _ _ e => e⟩
      · cases hw
    · cases hw
  · cases he
end
end Mine
end
section
open PySem PySem.W PyProof.Rows
set_option Elab.async false
set_option maxRecDepth 100000
namespace Mine
open Builtin Builtin.Str

def plainE : Expr → Bool
  | .Starred _ _ => false
  | .Slice _ _ _ _ => false
  | _ => true
theorem star_plain' {e : Expr} (h : plainE e = true) {rest : List Expr} {env : Env} : starEach (e :: rest) env = (false, eval e env) :: starEach rest env := by
  cases e <;> first | rfl | cases h

theorem ns_none {K : Frag} {h : Heap} {a : Addr} {m : PySem.Str → Option Value} {n : PySem.Str} (X : K.In h) (G : h.Ns a m) (e : nsIn K a n = some none) : m n = none := by
  obtain ⟨o, es, ep, ho, hd, _, hf⟩ := G
  unfold nsIn at e
  split at e
  · rename_i c d es' n' sl q
    have := X _ _ q
    rw [ho] at this
    cases this
    cases hd
    split at e
    · cases e
    · rename_i he
      rw [← hf]
      unfold nsFind findBy
      rw [← Array.find?_toList, he]
      rfl
  · cases e
theorem kf_booked (P : Params) : nsIn (KK P) cStatics sharingNotToldKey = some none := by kernel_rfl

theorem booked {g : GC} {W : Wd} {st : Store} {s : Shared} (S : St g W st s) : NoneBooked s.heap := by
  obtain ⟨mc, h1, _⟩ := g.T.nolimit.keeps S.keep
  exact ⟨mc, h1, ns_none S.KIn h1 (kf_booked _)⟩

theorem gives_repl_self (x y : PySem.Str) (t u v : Tok) (h0 : (u == 0 || v == 0) = false) (hl : tooLong (x.length + (occurrences x y 0 x.length (x.length + 1)).length * y.length) = false) :
    GivesAt (fun s => NoneBooked s.heap) («str.replace» ⟨[.str x t, .str y u, .str y v], []⟩)
      (if ((occurrences x y 0 x.length (x.length + 1)).isEmpty || (y.length == 0 && y.length == 0)) = true then .val (.str x t)
       else .either (.val (.str x t)) (.str (glued y (partsBetween x (occurrences x y 0 x.length (x.length + 1)) y.length)))) := by
  show GivesAt _ (if ((occurrences x y 0 x.length (x.length + 1)).isEmpty || (y.length == 0 && y.length == 0)) = true then (do rule "str.replace.nothing"; ret (.str x t)) else
          (do let same ← isSame (.str y u) (.str y v)
              if same = true then (do rule "str.replace.old-is-new"; ret (.str x t)) else
              if tooLong (x.length + (occurrences x y 0 x.length (x.length + 1)).length * y.length) = true then unsupported "str.replace:memory" else
              retStr (glued y (partsBetween x (occurrences x y 0 x.length (x.length + 1)) y.length)))) _
  cases hc : ((occurrences x y 0 x.length (x.length + 1)).isEmpty || (y.length == 0 && y.length == 0))
  · intro prog w A R s hb hq
    show wpAny _ _ (isSame (.str y u) (.str y v) >>= _) _ _ _
    refine wpAny_bind (wpAny_isSame_str h0 hb fun b => ?_)
    cases b
    · show wpAny _ _ (if tooLong (x.length + (occurrences x y 0 x.length (x.length + 1)).length * y.length) = true then _
                       else retStr (glued y (partsBetween x (occurrences x y 0 x.length (x.length + 1)) y.length))) _ _ _
      rw [hl]
      exact wpAny_bind (wpAny_mkStr (wpAny_pure hq.2.2) hq.2.1)
    · exact wpAny_bind (wpAny_rule (wpAny_pure hq.1))
  · exact Gives.at (.rule (.of_eq rfl))

theorem replace_same {prog : Program} {w : World} {A : Around} {E : Value → Shared → Prop} {s : Shared} {x y : PySem.Str} {t u v : Tok} {Q : Value → Shared → Prop} (hu : u ≠ 0) (hv : v ≠ 0) (hx : x.length ≤ 4096) (hy : y.length ≤ 14) (hnb : NoneBooked s.heap)
    (hq : ∀ t' k, Q (.str x t') { s with toks := k }) : wpAny (model prog w) A (call (.builtin "str.replace") [.str x t, .str y u, .str y v]) Q E s := by
  have h1 := StrLaws.occ_length_le x y 0 x.length (x.length + 1)
  have h2 : (occurrences x y 0 x.length (x.length + 1)).length * y.length ≤ (x.length + 1) * 14 := Nat.mul_le_mul h1 hy
  have hl : tooLong (x.length + (occurrences x y 0 x.length (x.length + 1)).length * y.length) = false := by
    unfold tooLong
    rw [sizeLine_eq]
    exact decide_eq_false (by omega)
  refine call_givesAt PySem.F.slot_str_replace rfl PySem.F.entry_str_replace (PySem.F.args_str_replace_3 _ _ _) (gives_repl_self x y t u v (by simp [hu, hv]) hl) hnb ?_
  cases hc : ((occurrences x y 0 x.length (x.length + 1)).isEmpty || (y.length == 0 && y.length == 0))
  · simp only [Bool.false_eq_true, if_false]
    rw [StrLaws.glued_between_self]
    dsimp only [Made.post]
    exact ⟨hq t s.toks, by rw [sizeLine_eq]; omega, hq _ _⟩
  · simp only [if_true]
    exact hq t s.toks

section
variable {g : GC} {n : Nat} {sc : Scope} {names : List PySem.Str} {cf : CF}

/-- the call's frame: object, method, constant, second argument -/
theorem ev_repl {o e₂ : Expr} {c : PySem.Str} {k1 : Nat} {ap p1 pos : Pos} {po pb : PE} (hbase : ∀ env, attributeBase o (PySem.Str.ofString "replace") env (eval o env) = eval o env) (hpos : (ap.endLine == pos.line) = true) (hpl : plainE e₂ = true)
    (h1 : EvOK g n sc names cf o po) (h2 : EvOK g n sc names cf e₂ pb) (hlit : ∀ v, pb = .lit (.sep v) → ∃ k2 p2, e₂ = .Constant (.str v) k2 p2) :
    EvOK g n sc names cf (.Call (.Attribute o (PySem.Str.ofString "replace") ap) [.Constant (.str c) k1 p1, e₂] [] pos) (.repl po c pb) := by
  intro cn a ccd L W r st A s Q E v st' hR I he k
  unfold ev at he
  split at he
  · rename_i x st1 hx
    split at he
    · rename_i y st2 hy
      split at he
      · rename_i hok
        obtain ⟨w, hw, ee⟩ := Option.map_eq_some_iff.mp he
        cases ee
        have hst : ∀ env, starEach [Expr.Constant (.str c) k1 p1, e₂] env = [(false, eval (.Constant (.str c) k1 p1) env), (false, eval e₂ env)] := fun env => by
          rw [star_plain' rfl, star_plain' hpl]; rfl
        have hp : (starEach [Expr.Constant (.str c) k1 p1, e₂] (envX cn sc L a ccd [])).any (·.1) = false := by rw [hst]; rfl
        refine methodCall_any (hbase _) hp (by simp) hpos (h1 cn a ccd L W r st A s _ E x st1 hR I hx fun W1 s1 c1 x1 I1 R1 => ?_)
        unfold replP at hw
        split at hw
        · rename_i z zz
          split at hw
          · rename_i hl
            cases hw
            unfold Rep at R1
            obtain ⟨t, rfl⟩ := R1
            refine getMethod_builtin (T := "str") rfl PySem.F.plainAttrs_str PySem.F.slot_str_replace PySem.F.type_str_replace (fun a e => nomatch e) ?_
            refine callWith_of (P := fun h => g.K.In h) (by rw [backTo_plain hp]; rfl) keeps_builtin (evalArgs_any (backTo_plain hp) ?_)
            rw [hst]
            refine Calls.spliced_cons (wpAny_Constant_str (k := k1) (pos := p1) ?_)
            have I1' : Inv g L names W1 r st1 { s1 with toks := s1.toks + 1 } := I1.setToks (Nat.le_add_left _ _)
            have hnz : s1.toks ≠ 0 := Nat.ne_of_gt I1.st.toks
            by_cases hlt : ∃ v, pb = .lit (.sep v)
            · obtain ⟨v', rfl⟩ := hlt
              obtain ⟨k2, p2, rfl⟩ := hlit v' rfl
              unfold ev at hy
              cases hy
              refine Calls.spliced_cons (wpAny_Constant_str (k := k2) (pos := p2) ?_)
              refine Calls.spliced_nil ⟨I1.st.KIn, ?_⟩
              refine wpAny_with_toks (n := 1) (by show 1 ≤ s1.toks + 1 + 1; omega) (SC.replaceW2 4096 14 (by decide) hnz (Nat.succ_ne_zero _) (Nat.ne_of_lt (Nat.lt_succ_self _)) hl.1 hl.2 (fun t' kk => ?_) (booked (s := { s1 with toks := s1.toks + 1 + 1 }) (I1.setToks (by omega)).st))
              intro ht
              exact (k.later x1 I1).str (t := t') I1 ht
            · refine Calls.spliced_cons (h2 cn a ccd L W1 r st1 A { s1 with toks := s1.toks + 1 } _ E (.sep zz) _ hR I1' hy fun W2 s2 c2 x2 I2 R2 => ?_)
              refine Calls.spliced_nil ⟨I2.st.KIn, ?_⟩
              have e : zz = c := by
                unfold replOk at hok
                split at hok
                · rename_i v'
                  unfold ev at hy
                  cases hy
                  exact absurd ⟨_, rfl⟩ hlt
                · rename_i h0; cases h0; exact of_decide_eq_true hok
                · cases hok
              subst e
              unfold Rep at R2
              obtain ⟨t2, rfl, hn2⟩ := R2
              rw [Txt.replace_self] at k
              refine wpAny_with_toks I2.st.toks (replace_same hnz hn2 hl.1 hl.2 (booked I2.st) fun t' kk => ?_)
              intro ht
              exact ((k.later x1 I1).later (s₁ := s2) (Inv.trans (s₁ := { s1 with toks := s1.toks + 1 }) (Ext.refl _ _ _) I1' x2) I2).str (t := t') I2 ht
          · cases hw
        · cases hw
      · cases he
    · cases he
  · cases he
end
end Mine
end
section
open PySem PySem.W PyProof.Rows
set_option Elab.async false
set_option maxRecDepth 100000
namespace Mine
open Builtin Builtin.Str

def entsI (l : List (Nat × Tok × String × Tok)) : List DictEntry := l.map fun (k, t, v, u) => ⟨(k : Int), .int (k : Int) t, .str (PySem.Str.ofString v) u⟩
def suL : List (Nat × Tok × String × Tok) := [(48, 647, "⁰", 648), (49, 649, "¹", 650), (50, 651, "²", 652), (51, 653, "³", 654), (52, 655, "⁴", 656), (53, 657, "⁵", 658), (54, 659, "⁶", 660), (55, 661, "⁷", 662), (56, 663, "⁸", 664), (57, 665, "⁹", 666), (45, 667, "⁻", 668)]
theorem kf_su (P : Params) : (KK P).lookup 247 = some (dictOf (entsI suL) 11) := by kernel_rfl
theorem kf_sug (P : Params) : nsIn (KK P) mainGlobals "_SUPERSCRIPT_TRANS" = some (some (.ref 247)) := by kernel_rfl

theorem mapOf_su {prog : Program} {w : World} {h : Heap} {a : Addr} {c : Nat} (hg : h.get? a = some (dictOf (entsI suL) c)) : h.MapOf (PySem.intKind prog w) a (fun k => findBy Value.isInt (entsI suL).toArray k) := by
  refine ⟨_, (entsI suL).toArray, c, hg, ⟨rfl, rfl, rfl⟩, rfl, fun e he => ?_, fun k => rfl⟩
  have he' : e ∈ entsI suL := by simpa using he
  simp only [entsI, suL, List.map_cons, List.map_nil, List.mem_cons, List.not_mem_nil, or_false] at he'
  rcases he' with rfl | rfl | rfl | rfl | rfl | rfl | rfl | rfl | rfl | rfl | rfl <;> exact ⟨_, by simp [PySem.intKind, Value.isInt]; rfl, by kernel_rfl⟩

theorem su_find {c : Nat} (h : (c == 45 || isDig c) = true) : ∃ u, findBy Value.isInt (entsI suL).toArray (c : Int) = some (.str ⟨#[supOf c]⟩ u) ∧ 128 ≤ supOf c := by
  have : c = 45 ∨ c = 48 ∨ c = 49 ∨ c = 50 ∨ c = 51 ∨ c = 52 ∨ c = 53 ∨ c = 54 ∨ c = 55 ∨ c = 56 ∨ c = 57 := by
    simp only [isDig, Bool.or_eq_true, beq_iff_eq, Bool.and_eq_true, decide_eq_true_eq] at h; omega
  rcases this with rfl | rfl | rfl | rfl | rfl | rfl | rfl | rfl | rfl | rfl | rfl
  · exact ⟨668, by kernel_rfl, by decide⟩
  · exact ⟨648, by kernel_rfl, by decide⟩
  · exact ⟨650, by kernel_rfl, by decide⟩
  · exact ⟨652, by kernel_rfl, by decide⟩
  · exact ⟨654, by kernel_rfl, by decide⟩
  · exact ⟨656, by kernel_rfl, by decide⟩
  · exact ⟨658, by kernel_rfl, by decide⟩
  · exact ⟨660, by kernel_rfl, by decide⟩
  · exact ⟨662, by kernel_rfl, by decide⟩
  · exact ⟨664, by kernel_rfl, by decide⟩
  · exact ⟨666, by kernel_rfl, by decide⟩

section
variable {prog : Program} {w : World} {A : Around} {E : Value → Shared → Prop} {s : Shared}

theorem tl_ok {c : Nat} {Q : Mapped → Shared → Prop} (hg : s.heap.get? 247 = some (dictOf (entsI suL) 11)) (h : (c == 45 || isDig c) = true) (q : ∀ tk, Q (.text ⟨#[supOf c]⟩) { s with toks := tk }) : wpAny (model prog w) A (tableLookup (.ref 247) c) Q E s := by
  obtain ⟨u, hf, _⟩ := su_find h
  unfold tableLookup
  refine wpAny_bind (wpAny_attempt (wpAny_bind (wpAny_mkInt ?_)))
  have hM := mapOf_su (prog := prog) (w := w) (h := s.heap) hg
  refine wpAny_getItem_of (k := (c : Int)) (s := { s with toks := s.toks + 1 }) (by simp [PySem.intKind, Value.isInt]) hM hf ?_
  exact wpAny_of_eq (a := Mapped.text ⟨#[supOf c]⟩) (by rfl) (q _)

theorem tr_run {x : PySem.Str} {t : Tok} {Q : Value → Shared → Prop} (hg : s.heap.get? 247 = some (dictOf (entsI suL) 11)) (hx : x.length ≤ 4096) (ha : x.cps.toList.all (fun c => c == 45 || isDig c) = true) (q : ∀ t' tk, Q (.str ⟨(x.cps.toList.map supOf).toArray⟩ t') { s with toks := tk }) :
    wpAny (model prog w) A (call (.builtin "str.translate") [.str x t, .ref 247]) Q E s := by
  refine wpAny_call_entry PySem.F.slot_str_translate rfl PySem.F.entry_str_translate ?_ (PySem.F.args_str_translate_2 _ _)
  unfold «str.translate»
  refine wpAny_bind (wpAny_of_eq (a := (.str x t, x, .ref 247)) (by rfl) ?_)
  dsimp only
  by_cases h0 : (x.length == 0) = true
  · rw [if_pos h0]
    have e0 : x.cps.toList = [] := by
      have h1 : x.cps.size = 0 := eq_of_beq h0
      exact List.length_eq_zero_iff.mp (by rw [Array.length_toList]; exact h1)
    have ex : x = ⟨(x.cps.toList.map supOf).toArray⟩ := by
      rw [e0]
      cases x with
      | mk cps => 
        simp only at e0
        congr 1
        exact Array.toList_inj.mp (by simpa using e0)
    refine wpAny_bind (wpAny_rule ?_)
    refine wpAny_bind (wpAny_of_eq (a := Value.str x t) (by rfl) ?_)
    refine wpAny_of_eq (a := Fin.done (.ret (.str x t))) (by rfl) ⟨_, rfl, ?_⟩
    have := q t s.toks
    rw [← ex] at this
    exact this
  rw [if_neg h0]
  refine wpAny_bind ?_
  refine wpAny_forIn_array' _ (fun rest b s' => ∃ (done : List Nat) (fast : Bool) (tk : Nat), x.cps.toList = done ++ rest ∧ b = ((done.map fun c => (⟨#[supOf c]⟩ : PySem.Str)).reverse, done.length, fast, [], false) ∧ s' = { s with toks := tk }) _ ?_ ?_ _ _ ⟨[], _, s.toks, rfl, rfl, rfl⟩
  · rintro c rest b s' ⟨done, fast, tk, h1, rfl, rfl⟩
    have hc : (c == 45 || isDig c) = true := List.all_eq_true.mp ha c (by rw [h1]; simp)
    have hlen : done.length ≤ 4096 := by
      have := congrArg List.length h1
      simp only [List.length_append, List.length_cons, Array.length_toList] at this
      have hx' : x.cps.size ≤ 4096 := hx
      omega
    have htl : tooLong done.length = false := by unfold tooLong; rw [sizeLine_eq]; exact decide_eq_false (by omega)
    obtain ⟨_, _, h128⟩ := su_find hc
    have hcond : (((⟨#[supOf c]⟩ : PySem.Str).length == 1) && (⟨#[supOf c]⟩ : PySem.Str).cps.all fun x => decide (x < 128)) = false := by simp [Str.length]; omega
    simp only [htl, Bool.false_eq_true, if_false]
    cases fast with
    | false =>
      simp only [Bool.false_eq_true, if_false]
      refine wpAny_bind (tl_ok (s := { s with toks := tk }) hg hc fun tk2 => ?_)
      exact wpAny_pure ⟨done ++ [c], false, _, by rw [h1]; simp, by simp [Str.length], rfl⟩
    | true =>
      simp only [if_true, List.lookup_nil]
      refine wpAny_bind (tl_ok (s := { s with toks := tk }) hg hc fun tk2 => ?_)
      simp only [hcond, Bool.false_eq_true, if_false]
      refine wpAny_bind (wpAny_pure ?_)
      refine wpAny_bind (wpAny_rule ?_)
      refine wpAny_bind (tl_ok (s := { s with toks := tk2 }) hg hc fun tk3 => ?_)
      exact wpAny_pure ⟨done ++ [c], false, _, by rw [h1]; simp, by simp [Str.length], rfl⟩
  · rintro b s' ⟨done, fast, tk, h1, rfl, rfl⟩
    rw [List.append_nil] at h1
    have hlen : done.length ≤ 4096 := by
      have := congrArg List.length h1
      rw [Array.length_toList] at this
      have hx' : x.cps.size ≤ 4096 := hx
      omega
    have htl : tooLong done.length = false := by unfold tooLong; rw [sizeLine_eq]; exact decide_eq_false (by omega)
    simp only [htl, Bool.false_eq_true, if_false, List.reverse_reverse]
    have hfold : ∀ (l : List Nat) (acc : Array Nat), List.foldl (fun acc (p : PySem.Str) => acc ++ p.cps) acc (l.map fun c => (⟨#[supOf c]⟩ : PySem.Str)) = acc ++ (l.map supOf).toArray := by
      intro l
      induction l with
      | nil => intro acc; simp
      | cons c l ih => intro acc; rw [List.map_cons, List.foldl_cons, ih]; apply Array.toList_inj.mp; simp
    rw [hfold, ← h1]
    have e2 : (#[] : Array Nat) ++ (x.cps.toList.map supOf).toArray = (x.cps.toList.map supOf).toArray := by apply Array.toList_inj.mp; simp
    rw [e2]
    unfold retStr
    refine wpAny_bind (wpAny_mkStr (wpAny_pure ⟨_, rfl, q _ _⟩) ?_)
    rw [sizeLine_eq]
    show (x.cps.toList.map supOf).toArray.size ≤ _
    have hx' : x.cps.size ≤ 4096 := hx
    simp; omega
end

section
variable {g : GC} {n : Nat} {sc : Scope} {names : List PySem.Str} {cf : CF}

set_option maxHeartbeats 2000000 in
theorem ev_trans {o : Expr} {ap px pos : Pos} {po : PE} (hkd : sc.kind = .function) (hl : sc.names.lookup (PySem.Str.ofString "_SUPERSCRIPT_TRANS") = some .globalImplicit) (hbase : ∀ env, attributeBase o (PySem.Str.ofString "translate") env (eval o env) = eval o env) (hpos : (ap.endLine == pos.line) = true)
    (h1 : EvOK g n sc names cf o po) :
    EvOK g n sc names cf (.Call (.Attribute o (PySem.Str.ofString "translate") ap) [.Name (PySem.Str.ofString "_SUPERSCRIPT_TRANS") px] [] pos) (.trans po) := by
  intro cn a ccd L W r st A s Q E v st' hR I he k
  unfold ev at he
  split at he
  · rename_i x st1 hx
    obtain ⟨w, hw, ee⟩ := Option.map_eq_some_iff.mp he
    cases ee
    have hp : (starEach [Expr.Name (PySem.Str.ofString "_SUPERSCRIPT_TRANS") px] (envX cn sc L a ccd [])).any (·.1) = false := rfl
    refine methodCall_any (hbase _) hp (by simp) hpos (h1 cn a ccd L W r st A s _ E x _ hR I hx fun W1 s1 c1 x1 I1 R1 => ?_)
    unfold transP at hw
    split at hw
    · rename_i z
      split at hw
      · rename_i hl'
        cases hw
        unfold Rep at R1
        obtain ⟨t, rfl⟩ := R1
        obtain ⟨m, F, hm⟩ := I1.fr
        refine getMethod_builtin (T := "str") rfl PySem.F.plainAttrs_str PySem.F.slot_str_translate PySem.F.type_str_translate (fun a e => nomatch e) ?_
        refine callWith_of (P := fun h => g.K.In h) (by rw [backTo_plain hp]; rfl) keeps_builtin (evalArgs_any (backTo_plain hp) ?_)
        refine Calls.spliced_cons (nameX_K F g.KI (topRead_of g.T) (kf_sug g.w.params) ?_ hkd hl (by decide +kernel))
        refine Calls.spliced_nil ⟨I1.st.KIn, ?_⟩
        show wpAny g.M A (call (.builtin "str.translate") [.str z t, .ref 247]) Q E s1
        have hsu : s1.heap.get? 247 = some (dictOf (entsI suL) 11) := I1.st.KIn _ _ (kf_su g.w.params)
        have k1 := k.later x1 I1
        have run := tr_run (prog := g.prog) (w := g.w) (A := A) (E := fun e s' => 1 ≤ s'.toks → E e s') (t := t) (Q := fun v s' => 1 ≤ s'.toks → Q v s') hsu hl'.1 hl'.2 fun t' tk ht => k1.str (t := t') I1 ht
        exact wpAny_with_toks I1.st.toks run
      · cases hw
    · cases hw
  · cases he
end
end Mine
end
section
open PySem PySem.W PyProof.Rows
set_option Elab.async false
set_option maxRecDepth 100000
namespace Mine

def fnN (k : Nat) : PySem.Str := PySem.Str.ofString (["rounded", "nearest", "parts", "", "", "", "", "", "", "", "", "", "quotient", "double", "isfinite", "isnan", "isinf", "plain", "read", "laid_out", "grouped", "whole_log", "mantissa_and_power", "nearest_fraction", "_ngettext", "thousands_separator", "decimal_separator", "_format_not_finite", "intcomma", "intword", "fractional", "scientific", "metric", "_law_next", "_law_near", "_law_parted", "_law_names", "_law_decimal", "_law_told", "law"].getD k "")
def callables : List Nat := [0, 1, 2, 12, 13, 14, 15, 16, 17, 18, 19, 20, 21, 22, 23, 24, 25, 26, 27, 28, 29, 30, 31, 32, 33, 34, 35, 36, 37, 38]
theorem kf_fns (P : Params) : (callables.all fun k => decide (nsIn (KK P) mainGlobals (fnN k) = some (some (.ref (fad k))))) = true := by kernel_rfl
theorem fns_dbg : (callables.all fun k => !(fnN k == ("__debug__" : PySem.Str))) = true := by decide +kernel

def compScOk (cs : Scope) (x : PySem.Str) : Bool := cs.names.all (fun y => decide (y.2 ≠ .free) && decide (y.2 ≠ .cell) && (!decide (y.2 = .local) || decide (cs.names.lookup y.1 = some .local))) && decide (cs.kind = .function) && decide (cs.names.lookup x = some .local) && !(x == ("__debug__" : PySem.Str))
theorem compSc_of {cs : Scope} {x : PySem.Str} (h : compScOk cs x = true) : CompSc cs x := by
  unfold compScOk at h
  simp only [Bool.and_eq_true, List.all_eq_true, decide_eq_true_eq, Bool.or_eq_true, Bool.not_eq_true', decide_eq_false_iff_not] at h
  obtain ⟨⟨⟨h1, h2⟩, h3⟩, h4⟩ := h
  exact ⟨fun y hy => (h1 y hy).1.1, fun y hy => (h1 y hy).1.2, h2, fun y hy hl => (h1 y hy).2.resolve_left fun q => q hl, h3, h4⟩
def noSuper : Expr → Bool
  | .Call (.Name id _) [] [] _ => !(id == ("super" : PySem.Str))
  | _ => true
def glob (sc : Scope) (x : PySem.Str) : Bool := decide (sc.names.lookup x = some .globalImplicit)

mutual
def chkE (sc : Scope) (names : List PySem.Str) : PE → Expr → Bool
  | .fail, _ => true
  | .loc i, e => match e with | .Name x _ => decide (names[i]? = some x) | _ => false
  | .lit v, e => match e with
    | .Constant c _ _ => (match v, c with
      | .int i, .int j => decide (i = j)
      | .str x, .str y => decide (x = y)
      | .sep x, .str y => decide (x = y)
      | .bool x, .bool y => decide (x = y)
      | .none, .none => true
      | _, _ => false)
    | _ => false
  | .powers, e => match e with | .Name x _ => decide (x = PySem.Str.ofString "powers") && glob sc x | _ => false
  | .human, e => match e with | .Name x _ => decide (x = PySem.Str.ofString "human_powers") && glob sc x | _ => false
  | .bin o a b, e => match e with | .BinOp x o' y _ => decide (o' = o) && chkE sc names a x && chkE sc names b y | _ => false
  | .neg a, e => match e with | .UnaryOp .USub x _ => chkE sc names a x | _ => false
  | .not_ a, e => match e with | .UnaryOp .Not x _ => chkE sc names a x | _ => false
  | .cmp o a b, e => match e with | .Compare x [o'] [y] _ => decide (o' = o) && !behindInMarks o y && chkE sc names a x && chkE sc names b y | _ => false
  | .bop o a b, e => match e with | .BoolOp o' [x, y] _ => decide (o' = o) && chkE sc names a x && chkE sc names b y | _ => false
  | .ite c a b, e => match e with | .IfExp x y z _ => chkE sc names c x && chkE sc names a y && chkE sc names b z | _ => false
  | .tup as, e => match e with | .Tuple es _ _ => chkL sc names as es | _ => false
  | .lst as, e => match e with | .List es _ => chkL sc names as es | _ => false
  | .nil, _ => false
  | .cons _ _, _ => false
  | .call k as, e => match e with | .Call (.Name x _) es [] _ => decide (x = fnN k) && callables.contains k && glob sc x && chkL sc names as es | _ => false
  | .mkd as, e => match e with | .Call (.Name x _) es [] _ => decide (x = PySem.Str.ofString "Double") && glob sc x && chkL sc names as es | _ => false
  | .bi b as, e => match e with | .Call (.Name x _) es [] _ => decide (x = PySem.Str.ofString (biN b)) && glob sc x && chkL sc names as es | _ => false
  | .isi a t, e => match e with | .Call (.Name x _) [y, .Name z _] [] _ => decide (x = PySem.Str.ofString "isinstance") && glob sc x && decide (z = PySem.Str.ofString (tyN t)) && glob sc z && plainE y && chkE sc names a y | _ => false
  | .meth o m as, e => match e with | .Call (.Attribute y x ap) es [] pos => decide (x = PySem.Str.ofString (meN m)) && decide (es.length < 20) && (ap.endLine == pos.line) && noSuper y && chkE sc names o y && chkL sc names as es | _ => false
  | .repl o a b, e => match e with | .Call (.Attribute y x ap) [.Constant (.str c) _ _, z] [] pos => decide (x = PySem.Str.ofString "replace") && decide (c = a) && (ap.endLine == pos.line) && noSuper y && plainE z && chkE sc names o y && chkE sc names b z | _ => false
  | .trans o, e => match e with | .Call (.Attribute y x ap) [.Name z _] [] pos => decide (x = PySem.Str.ofString "translate") && decide (z = PySem.Str.ofString "_SUPERSCRIPT_TRANS") && glob sc z && (ap.endLine == pos.line) && noSuper y && chkE sc names o y | _ => false
  | .getSep k, e => match e with | .Call (.Attribute (.Name y _) x ap) [.Constant .none _ _, .Constant (.str v) _ _] [] pos => decide (y = sepN k) && glob sc y && decide (x = PySem.Str.ofString "get") && decide (v = sepV k) && (ap.endLine == pos.line) | _ => false
  | .attr o s, e => match e with | .Attribute (.Name x xp) y _ => decide (y = if s then PySem.Str.ofString "d" else PySem.Str.ofString "n") && chkE sc names o (.Name x xp) | _ => false
  | .item o i, e => match e with | .Subscript y z _ => plainE z && chkE sc names o y && chkE sc names i z | _ => false
  | .slice o lo hi, e => match e with
    | .Subscript y (.Slice l h none _) _ => chkE sc names o y && (match l with | none => (match lo with | .lit .none => true | _ => false) | some l => chkE sc names lo l) && (match h with | none => (match hi with | .lit .none => true | _ => false) | some h => chkE sc names hi h)
    | _ => false
  | .fstr as, e => match e with | .JoinedStr es _ => chkL sc names as es | _ => false
  | .fval a, e => match e with | .FormattedValue y c none _ => decide (c = -1) && chkE sc names a y | _ => false
  | .comp1 a, e => match a with
    | .loc i => (match e with
      | .ListComp (.Name x1 _) [⟨.Name x2 _, .Name y _, [.Compare (.Name x3 _) [.NotIn] [.Constant (.str d) _ _] _], z⟩] cs _ => decide (x1 = x2) && decide (x3 = x2) && decide (d = PySem.Str.ofString "0123456789") && decide (z = 0) && decide (names[i]? = some y) && compScOk cs x2
      | _ => false)
    | _ => false
  | .comp2 a, e => match a with
    | .loc i => (match e with
      | .ListComp (.Subscript (.Name t _) (.Name x1 _) _) [⟨.Name x2 _, .Name y _, [], z⟩] cs _ => decide (x1 = x2) && decide (t = PySem.Str.ofString "_law_raised") && glob cs t && decide (z = 0) && decide (names[i]? = some y) && compScOk cs x2
      | _ => false)
    | _ => false
def chkL (sc : Scope) (names : List PySem.Str) : PE → List Expr → Bool
  | .nil, es => es.isEmpty
  | .cons h t, es => match es with | e :: r => plainE e && chkE sc names h e && chkL sc names t r | [] => false
  | _, _ => false
end

theorem star_plain {e : Expr} (h : plainE e = true) (rest : List Expr) (env : Env) : starEach (e :: rest) env = (false, eval e env) :: starEach rest env := star_plain' h
theorem sub_plain {e : Expr} (h : plainE e = true) (o i : Value) : subscripted e false o i = operate [o, i] (getItem o i) := by
  cases e <;> first | rfl | cases h
theorem base_plain {e : Expr} (h : noSuper e = true) (x : PySem.Str) (env : Env) : attributeBase e x env (eval e env) = eval e env := by
  unfold attributeBase
  split
  · rename_i id p pos
    have h' : (id != ("super" : PySem.Str)) = true := h
    simp [h']
  · rfl

section
variable {g : GC} {n : Nat} {sc : Scope} {names : List PySem.Str} {cf : CF}

theorem chk_sound (C : CallOK g n fad cf) (hN : NamesOK sc names) (p : PE) : (∀ e, chkE sc names p e = true → EvOK g n sc names cf e p ∧ TsOK g n sc names cf e p) ∧ (∀ es, chkL sc names p es = true → EsOK g n sc names cf es p ∧ JsOK g n sc names cf es p) ∧ (∀ e pos, chkL sc names p [e] = true → EvOK g n sc names cf (.JoinedStr [e] pos) (.fstr p)) := by
  have hk := hN.kind
  have gl : ∀ {x : PySem.Str}, glob sc x = true → sc.names.lookup x = some .globalImplicit := fun h => of_decide_eq_true h
  induction p with
  | fail => exact ⟨fun e _ => ⟨ev_fail, fun cn a ccd L W r st A s Q E v st' b hR I he => by unfold ev at he; cases he⟩, (fun es h => by unfold chkL at h; cases h), (fun e pos h => by unfold chkL at h; cases h)⟩
  | loc i =>
    refine ⟨fun e h => ?_, (fun es h => by unfold chkL at h; cases h), (fun e pos h => by unfold chkL at h; cases h)⟩
    unfold chkE at h
    split at h
    · have := ev_loc (g := g) (n := n) (cf := cf) (pos := ‹Pos›) hN (of_decide_eq_true h)
      exact ⟨this, ts_plain (fun _ _ => rfl) this⟩
    · cases h
  | lit v =>
    refine ⟨fun e h => ?_, (fun es h => by unfold chkL at h; cases h), (fun e pos h => by unfold chkL at h; cases h)⟩
    unfold chkE at h
    split at h
    · have this : EvOK g n sc names cf (.Constant ‹Const› ‹Nat› ‹Pos›) (.lit v) := by
        split at h
        · rw [of_decide_eq_true h]; exact ev_int
        · rw [of_decide_eq_true h]; exact ev_str
        · rw [of_decide_eq_true h]; exact ev_sep
        · rw [of_decide_eq_true h]; exact ev_bool
        · exact ev_none
        · cases h
      exact ⟨this, ts_plain (fun _ _ => rfl) this⟩
    · cases h
  | powers =>
    refine ⟨fun e h => ?_, (fun es h => by unfold chkL at h; cases h), (fun e pos h => by unfold chkL at h; cases h)⟩
    unfold chkE at h
    split at h
    · rw [Bool.and_eq_true] at h
      obtain rfl := of_decide_eq_true h.1
      have this : EvOK g n sc names cf (.Name _ ‹Pos›) .powers := ev_powers hk (gl h.2)
      exact ⟨this, ts_plain (fun _ _ => rfl) this⟩
    · cases h
  | human =>
    refine ⟨fun e h => ?_, (fun es h => by unfold chkL at h; cases h), (fun e pos h => by unfold chkL at h; cases h)⟩
    unfold chkE at h
    split at h
    · rw [Bool.and_eq_true] at h
      obtain rfl := of_decide_eq_true h.1
      have this : EvOK g n sc names cf (.Name _ ‹Pos›) .human := ev_human hk (gl h.2)
      exact ⟨this, ts_plain (fun _ _ => rfl) this⟩
    · cases h
  | bin o a b iha ihb =>
    refine ⟨fun e h => ?_, (fun es h => by unfold chkL at h; cases h), (fun e pos h => by unfold chkL at h; cases h)⟩
    unfold chkE at h
    split at h
    · simp only [Bool.and_eq_true, decide_eq_true_eq] at h
      obtain ⟨⟨rfl, h1⟩, h2⟩ := h
      have this := ev_bin (pos := ‹Pos›) C (o := ‹Operator›) (iha.1 _ h1).1 (ihb.1 _ h2).1
      exact ⟨this, ts_plain (fun _ _ => rfl) this⟩
    · cases h
  | neg a iha =>
    refine ⟨fun e h => ?_, (fun es h => by unfold chkL at h; cases h), (fun e pos h => by unfold chkL at h; cases h)⟩
    unfold chkE at h
    split at h
    · have this := ev_neg (pos := ‹Pos›) (iha.1 _ h).1
      exact ⟨this, ts_plain (fun _ _ => rfl) this⟩
    · cases h
  | not_ a iha =>
    refine ⟨fun e h => ?_, (fun es h => by unfold chkL at h; cases h), (fun e pos h => by unfold chkL at h; cases h)⟩
    unfold chkE at h
    split at h
    · exact ⟨ev_not (iha.1 _ h).1, ts_not (iha.1 _ h).2⟩
    · cases h
  | cmp o a b iha ihb =>
    refine ⟨fun e h => ?_, (fun es h => by unfold chkL at h; cases h), (fun e pos h => by unfold chkL at h; cases h)⟩
    unfold chkE at h
    split at h
    · simp only [Bool.and_eq_true, decide_eq_true_eq, Bool.not_eq_true'] at h
      obtain ⟨⟨⟨rfl, h0⟩, h1⟩, h2⟩ := h
      exact ⟨ev_cmp C h0 (iha.1 _ h1).1 (ihb.1 _ h2).1, ts_cmp C h0 (iha.1 _ h1).1 (ihb.1 _ h2).1⟩
    · cases h
  | bop o a b iha ihb =>
    refine ⟨fun e h => ?_, (fun es h => by unfold chkL at h; cases h), (fun e pos h => by unfold chkL at h; cases h)⟩
    unfold chkE at h
    split at h
    · simp only [Bool.and_eq_true, decide_eq_true_eq] at h
      obtain ⟨⟨rfl, h1⟩, h2⟩ := h
      exact ⟨ev_bop (iha.1 _ h1).1 (ihb.1 _ h2).1, ts_bop (iha.1 _ h1).2 (ihb.1 _ h2).2⟩
    · cases h
  | ite c a b ihc iha ihb =>
    refine ⟨fun e h => ?_, (fun es h => by unfold chkL at h; cases h), (fun e pos h => by unfold chkL at h; cases h)⟩
    unfold chkE at h
    split at h
    · simp only [Bool.and_eq_true] at h
      obtain ⟨⟨h0, h1⟩, h2⟩ := h
      exact ⟨ev_ite (ihc.1 _ h0).2 (iha.1 _ h1).1 (ihb.1 _ h2).1, ts_ite (ihc.1 _ h0).2 (iha.1 _ h1).2 (ihb.1 _ h2).2⟩
    · cases h
  | tup as ih =>
    refine ⟨fun e h => ?_, (fun es h => by unfold chkL at h; cases h), (fun e pos h => by unfold chkL at h; cases h)⟩
    unfold chkE at h
    split at h
    · have this : EvOK g n sc names cf (.Tuple _ ‹Nat› ‹Pos›) _ := ev_tup (ih.2.1 _ h).1
      exact ⟨this, ts_plain (fun _ _ => rfl) this⟩
    · cases h
  | lst as ih =>
    refine ⟨fun e h => ?_, (fun es h => by unfold chkL at h; cases h), (fun e pos h => by unfold chkL at h; cases h)⟩
    unfold chkE at h
    split at h
    · have this : EvOK g n sc names cf (.List _ ‹Pos›) _ := ev_lst (ih.2.1 _ h).1
      exact ⟨this, ts_plain (fun _ _ => rfl) this⟩
    · cases h
  | nil =>
    refine ⟨(fun e h => by unfold chkE at h; cases h), fun es h => ?_, (fun e pos h => by unfold chkL at h; cases h)⟩
    unfold chkL at h
    rw [List.isEmpty_iff] at h
    subst h
    exact ⟨es_nil, js_nil⟩
  | cons a b iha ihb =>
    refine ⟨(fun e h => by unfold chkE at h; cases h), fun es h => ?_, fun e pos h => ?_⟩
    rotate_left
    · unfold chkL at h
      simp only [Bool.and_eq_true] at h
      obtain ⟨⟨h0, h1⟩, h2⟩ := h
      have hb : b = .nil := by
        cases b <;> unfold chkL at h2 <;> first | rfl | cases h2
      subst hb
      exact ev_fstr1 (iha.1 _ h1).1
    unfold chkL at h
    split at h
    · simp only [Bool.and_eq_true] at h
      obtain ⟨⟨h0, h1⟩, h2⟩ := h
      exact ⟨es_cons (fun env => star_plain h0 _ env) (iha.1 _ h1).1 (ihb.2.1 _ h2).1, js_cons (iha.1 _ h1).1 (ihb.2.1 _ h2).2⟩
    · cases h
  | call k as ih =>
    refine ⟨fun e h => ?_, (fun es h => by unfold chkL at h; cases h), (fun e pos h => by unfold chkL at h; cases h)⟩
    unfold chkE at h
    split at h
    · rename_i x px es pos
      simp only [Bool.and_eq_true, decide_eq_true_eq, List.contains_iff_mem] at h
      obtain ⟨⟨⟨rfl, h0⟩, h1⟩, h2⟩ := h
      have hx : ∀ P, nsIn (KK P) mainGlobals (fnN k) = some (some (.ref (fad k))) := fun P => of_decide_eq_true (List.all_eq_true.mp (kf_fns P) k h0)
      have hd : (fnN k == ("__debug__" : PySem.Str)) = false := by have := List.all_eq_true.mp fns_dbg k h0; simpa using this
      have hlt : k < 40 ∧ k ≠ 3 := by
        simp only [callables, List.mem_cons, List.not_mem_nil, or_false] at h0
        omega
      have this : EvOK g n sc names cf (.Call (.Name (fnN k) px) es [] pos) (.call k as) := ev_call C (gl h1) hk hd hx (fun P => keep_of hlt.1 hlt.2) (ih.2.1 _ h2).1
      exact ⟨this, ts_plain (fun _ _ => rfl) this⟩
    · cases h
  | mkd as ih =>
    refine ⟨fun e h => ?_, (fun es h => by unfold chkL at h; cases h), (fun e pos h => by unfold chkL at h; cases h)⟩
    unfold chkE at h
    split at h
    · rename_i x px es pos
      simp only [Bool.and_eq_true, decide_eq_true_eq] at h
      obtain ⟨⟨rfl, h1⟩, h2⟩ := h
      have this : EvOK g n sc names cf (.Call (.Name (PySem.Str.ofString "Double") px) es [] pos) (.mkd as) := ev_mkd C hk (gl h1) (ih.2.1 _ h2).1
      exact ⟨this, ts_plain (fun _ _ => rfl) this⟩
    · cases h
  | bi b as ih =>
    refine ⟨fun e h => ?_, (fun es h => by unfold chkL at h; cases h), (fun e pos h => by unfold chkL at h; cases h)⟩
    unfold chkE at h
    split at h
    · rename_i x px es pos
      simp only [Bool.and_eq_true, decide_eq_true_eq] at h
      obtain ⟨⟨rfl, h1⟩, h2⟩ := h
      have this : EvOK g n sc names cf (.Call (.Name (PySem.Str.ofString (biN b)) px) es [] pos) (.bi b as) := ev_bi C hk (gl h1) (ih.2.1 _ h2).1
      exact ⟨this, ts_plain (fun _ _ => rfl) this⟩
    · cases h
  | isi a t ih =>
    refine ⟨fun e h => ?_, (fun es h => by unfold chkL at h; cases h), (fun e pos h => by unfold chkL at h; cases h)⟩
    unfold chkE at h
    split at h
    · rename_i x px y z pz pos
      simp only [Bool.and_eq_true, decide_eq_true_eq] at h
      obtain ⟨⟨⟨⟨⟨rfl, h1⟩, rfl⟩, h3⟩, h4⟩, h5⟩ := h
      have this : EvOK g n sc names cf (.Call (.Name (PySem.Str.ofString "isinstance") px) [y, .Name (PySem.Str.ofString (tyN t)) pz] [] pos) (.isi a t) := ev_isi hk (gl h1) (gl h3) (fun env rest => star_plain h4 rest env) (ih.1 _ h5).1
      exact ⟨this, ts_plain (fun _ _ => rfl) this⟩
    · cases h
  | meth o m as iho iha =>
    refine ⟨fun e h => ?_, (fun es h => by unfold chkL at h; cases h), (fun e pos h => by unfold chkL at h; cases h)⟩
    unfold chkE at h
    split at h
    · rename_i y x ap es pos
      simp only [Bool.and_eq_true, decide_eq_true_eq] at h
      obtain ⟨⟨⟨⟨⟨rfl, h1⟩, h2⟩, h3⟩, h4⟩, h5⟩ := h
      have this : EvOK g n sc names cf (.Call (.Attribute y (PySem.Str.ofString (meN m)) ap) es [] pos) (.meth o m as) := ev_meth C (base_plain h3 _) h1 h2 (iho.1 _ h4).1 (iha.2.1 _ h5).1 (fun x h X => me_keeps m x h X)
      exact ⟨this, ts_plain (fun _ _ => rfl) this⟩
    · cases h
  | repl o a b iho ihb =>
    refine ⟨fun e h => ?_, (fun es h => by unfold chkL at h; cases h), (fun e pos h => by unfold chkL at h; cases h)⟩
    unfold chkE at h
    split at h
    · rename_i y x ap c k1 p1 z pos
      simp only [Bool.and_eq_true, decide_eq_true_eq] at h
      obtain ⟨⟨⟨⟨⟨⟨rfl, rfl⟩, h2⟩, h3⟩, h4⟩, h5⟩, h6⟩ := h
      have this : EvOK g n sc names cf (.Call (.Attribute y (PySem.Str.ofString "replace") ap) [.Constant (.str c) k1 p1, z] [] pos) (.repl o c b) := ev_repl (base_plain h3 _) h2 h4 (iho.1 _ h5).1 (ihb.1 _ h6).1 (fun v hv => by
        subst hv
        unfold chkE at h6
        split at h6
        · rename_i cc kk pp
          cases cc with
          | str w => 
            have h7 : decide (v = w) = true := h6
            rw [of_decide_eq_true h7]; exact ⟨_, _, rfl⟩
          | _ => cases h6
        · cases h6)
      exact ⟨this, ts_plain (fun _ _ => rfl) this⟩
    · cases h
  | trans o iho =>
    refine ⟨fun e h => ?_, (fun es h => by unfold chkL at h; cases h), (fun e pos h => by unfold chkL at h; cases h)⟩
    unfold chkE at h
    split at h
    · rename_i y x ap z pz pos
      simp only [Bool.and_eq_true, decide_eq_true_eq] at h
      obtain ⟨⟨⟨⟨⟨rfl, rfl⟩, h2⟩, h3⟩, h4⟩, h5⟩ := h
      have this : EvOK g n sc names cf (.Call (.Attribute y (PySem.Str.ofString "translate") ap) [.Name (PySem.Str.ofString "_SUPERSCRIPT_TRANS") pz] [] pos) (.trans o) := ev_trans hk (gl h2) (base_plain h4 _) h3 (iho.1 _ h5).1
      exact ⟨this, ts_plain (fun _ _ => rfl) this⟩
    · cases h
  | getSep k =>
    refine ⟨fun e h => ?_, (fun es h => by unfold chkL at h; cases h), (fun e pos h => by unfold chkL at h; cases h)⟩
    unfold chkE at h
    split at h
    · rename_i y py x ap k1 p1 v k2 p2 pos
      simp only [Bool.and_eq_true, decide_eq_true_eq] at h
      obtain ⟨⟨⟨⟨rfl, h1⟩, rfl⟩, rfl⟩, h2⟩ := h
      have this : EvOK g n sc names cf (.Call (.Attribute (.Name (sepN k) py) (PySem.Str.ofString "get") ap) [.Constant .none k1 p1, .Constant (.str (sepV k)) k2 p2] [] pos) (.getSep k) := ev_getSep hk (gl h1) h2
      exact ⟨this, ts_plain (fun _ _ => rfl) this⟩
    · cases h
  | comp1 a _ =>
    refine ⟨fun e h => ?_, (fun es h => by unfold chkL at h; cases h), (fun e pos h => by unfold chkL at h; cases h)⟩
    unfold chkE at h
    split at h
    · split at h
      · simp only [Bool.and_eq_true, decide_eq_true_eq] at h
        obtain ⟨⟨⟨⟨⟨rfl, rfl⟩, rfl⟩, rfl⟩, h1⟩, h2⟩ := h
        have this := fun p1 p2 p3 p4 p5 p6 pos k5 => ev_comp1 (g := g) (n := n) (cf := cf) (p1 := p1) (p2 := p2) (p3 := p3) (p4 := p4) (p5 := p5) (p6 := p6) (pos := pos) (k5 := k5) hN h1 (compSc_of h2)
        exact ⟨this _ _ _ _ _ _ _ _, ts_plain (fun _ _ => rfl) (this _ _ _ _ _ _ _ _)⟩
      · cases h
    · cases h
  | comp2 a _ =>
    refine ⟨fun e h => ?_, (fun es h => by unfold chkL at h; cases h), (fun e pos h => by unfold chkL at h; cases h)⟩
    unfold chkE at h
    split at h
    · split at h
      · simp only [Bool.and_eq_true, decide_eq_true_eq] at h
        obtain ⟨⟨⟨⟨⟨rfl, rfl⟩, h0⟩, rfl⟩, h1⟩, h2⟩ := h
        have this := fun p1 p2 p3 p4 p5 pos => ev_comp2 (g := g) (n := n) (cf := cf) (p1 := p1) (p2 := p2) (p3 := p3) (p4 := p4) (p5 := p5) (pos := pos) hN h1 (compSc_of h2) (of_decide_eq_true h0)
        exact ⟨this _ _ _ _ _ _, ts_plain (fun _ _ => rfl) (this _ _ _ _ _ _)⟩
      · cases h
    · cases h
  | attr o s ih =>
    refine ⟨fun e h => ?_, (fun es h => by unfold chkL at h; cases h), (fun e pos h => by unfold chkL at h; cases h)⟩
    unfold chkE at h
    split at h
    · rename_i x xp y pos
      simp only [Bool.and_eq_true, decide_eq_true_eq] at h
      obtain ⟨rfl, h1⟩ := h
      have this : EvOK g n sc names cf (.Attribute (.Name x xp) (if s then PySem.Str.ofString "d" else PySem.Str.ofString "n") pos) (.attr o s) := ev_attr (ih.1 _ h1).1
      exact ⟨this, ts_plain (fun _ _ => rfl) this⟩
    · cases h
  | item o i iho ihi =>
    refine ⟨fun e h => ?_, (fun es h => by unfold chkL at h; cases h), (fun e pos h => by unfold chkL at h; cases h)⟩
    unfold chkE at h
    split at h
    · rename_i y z pos
      simp only [Bool.and_eq_true] at h
      obtain ⟨⟨h0, h1⟩, h2⟩ := h
      have this : EvOK g n sc names cf (.Subscript y z pos) (.item o i) := ev_item (sub_plain h0) (iho.1 _ h1).1 (ihi.1 _ h2).1
      exact ⟨this, ts_plain (fun _ _ => rfl) this⟩
    · cases h
  | slice o lo hi iho ihl ihh =>
    refine ⟨fun e h => ?_, (fun es h => by unfold chkL at h; cases h), (fun e pos h => by unfold chkL at h; cases h)⟩
    unfold chkE at h
    split at h
    · rename_i y l hh sp pos
      simp only [Bool.and_eq_true] at h
      obtain ⟨⟨h0, h1⟩, h2⟩ := h
      have p1 : PartOK g n sc names cf l lo := by
        cases l with
        | none =>
          dsimp only at h1
          split at h1
          · exact part_none
          · cases h1
        | some l => exact part_some (ihl.1 _ h1).1
      have p2 : PartOK g n sc names cf hh hi := by
        cases hh with
        | none =>
          dsimp only at h2
          split at h2
          · exact part_none
          · cases h2
        | some l => exact part_some (ihh.1 _ h2).1
      have this : EvOK g n sc names cf (.Subscript y (.Slice l hh none sp) pos) (.slice o lo hi) := ev_slice (iho.1 _ h0).1 p1 p2
      exact ⟨this, ts_plain (fun _ _ => rfl) this⟩
    · cases h
  | fstr as ih =>
    refine ⟨fun e h => ?_, (fun es h => by unfold chkL at h; cases h), (fun e pos h => by unfold chkL at h; cases h)⟩
    unfold chkE at h
    split at h
    · rename_i es pos
      have this : EvOK g n sc names cf (.JoinedStr es pos) (.fstr as) := by
        by_cases h1 : ∃ e', es = [e']
        · obtain ⟨e', rfl⟩ := h1
          exact ih.2.2 e' pos h
        · exact ev_fstr (fun e' q => h1 ⟨e', q⟩) (ih.2.1 _ h).2
      exact ⟨this, ts_plain (fun _ _ => rfl) this⟩
    · cases h
  | fval a ih =>
    refine ⟨fun e h => ?_, (fun es h => by unfold chkL at h; cases h), (fun e pos h => by unfold chkL at h; cases h)⟩
    unfold chkE at h
    split at h
    · rename_i y c pos
      simp only [Bool.and_eq_true, decide_eq_true_eq] at h
      obtain ⟨rfl, h1⟩ := h
      have this : EvOK g n sc names cf (.FormattedValue y (-1) none pos) (.fval a) := ev_fval (ih.1 _ h1).1
      exact ⟨this, ts_plain (fun _ _ => rfl) this⟩
    · cases h
end
end Mine
end
section
open PySem PySem.W PyProof.Rows
set_option Elab.async false
set_option maxRecDepth 100000
namespace Mine

def noComp : Expr → Bool
  | .ListComp _ _ _ _ => false
  | .SetComp _ _ _ _ => false
  | .DictComp _ _ _ _ _ => false
  | _ => true
theorem swaps_no {v : Expr} (h : noComp v = true) (t : Option Expr) (l : Nat) (env : Env) : swapsWith v t l env = pure false := by
  cases v <;> first | rfl | cases h

theorem swapsSole_no {v : Expr} (h : noComp v = true) (t : Expr) (l : Nat) (env : Env) : swapsWithSole [t] v l env = pure false := by
  cases v <;> first | rfl | cases h

def env0 (sc : Scope) : Env := envX (PySem.Str.ofString "") sc 0 0 .none []
theorem swapped0 (ts : List Expr) (v : Expr) (cn : PySem.Str) (sc : Scope) (L a : Addr) (ccd : Value) : swappedStores ts v (envX cn sc L a ccd []) = swappedStores ts v (env0 sc) := rfl

def tgChk (names : List PySem.Str) : List Expr → List Nat → Bool
  | [], [] => true
  | .Name x _ :: r, i :: is => decide (names[i]? = some x) && tgChk names r is
  | _, _ => false

mutual
def chkS (sc : Scope) (names : List PySem.Str) : PS → Stmt → Bool
  | .fail, _ => true
  | .skip, _ => false
  | .seq _ _, _ => false
  | .asg i e, s => match s with | .Assign [.Name x _] v _ => decide (names[i]? = some x) && noComp v && chkE sc names e v | _ => false
  | .unp is e, s => match s with | .Assign [.Tuple elts k tp] v _ => tgChk names elts is && noComp v && decide (pureOf (swappedStores [.Tuple elts k tp] v (env0 sc)) = some none) && chkE sc names e v | _ => false
  | .swp is as, s => match s with
    | .Assign [.Tuple elts k tp] (.Tuple es kv vp) _ => decide (is.Nodup) && decide (pureOf (swappedStores [.Tuple elts k tp] (.Tuple es kv vp) (env0 sc)) = some (some (is.filterMap (names[·]?)))) && decide (is.map (names[·]?) = (is.filterMap (names[·]?)).map some) && chkL sc names as es
    | _ => false
  | .aug i o e, s => match s with | .AugAssign (.Name x _) o' v _ => decide (names[i]? = some x) && decide (o' = o) && chkE sc names e v | _ => false
  | .newc i as, s => match s with | .Assign [.Name x _] (.List es _) _ => decide (names[i]? = some x) && chkL sc names as es | _ => false
  | .setc i k e, s => match s with | .Assign [.Subscript (.Name x _) kx _] v _ => decide (names[i]? = some x) && noComp v && chkE sc names k kx && chkE sc names e v | _ => false
  | .ins i e, s => match s with | .Expr (.Call (.Attribute (.Name x _) m ap) [.Constant (.int z) _ _, v] [] pos) _ => decide (names[i]? = some x) && decide (m = PySem.Str.ofString "insert") && decide (z = 0) && (ap.endLine == pos.line) && plainE v && chkE sc names e v | _ => false
  | .ite c a b, s => match s with | .If t xs ys _ => chkE sc names c t && chkSs sc names a xs && chkSs sc names b ys | _ => false
  | .whl c b, s => match s with | .While t xs [] _ => chkE sc names c t && chkSs sc names b xs | _ => false
  | .forr i n b, s => match s with | .For (.Name x _) (.Call (.Name y _) [v] [] _) xs [] _ => decide (names[i]? = some x) && decide (y = PySem.Str.ofString "range") && glob sc y && plainE v && chkE sc names n v && chkSs sc names b xs | _ => false
  | .ret e, s => match s with | .Return (some v) _ => chkE sc names e v | _ => false
  | .tryy b, s => match s with | .Try xs (_ :: _) [] [] _ => chkSs sc names b xs | _ => false
def chkSs (sc : Scope) (names : List PySem.Str) : PS → List Stmt → Bool
  | .skip, xs => xs.isEmpty
  | .seq a b, xs => match xs with | x :: r => chkS sc names a x && chkSs sc names b r | [] => false
  | _, _ => false
end

def defOk (K : Frag) (k : Nat) : Bool := match code k with
  | some fdc => (match fdAt K (fad k) with
    | some fd => fdOk K fd fdc.args && decide ((namesOf fd.scope).length = fdc.args + fdc.more) && chkSs fd.scope (namesOf fd.scope) fdc.body (stmtsOf fd.body)
    | none => false)
  | none => true

theorem tg_of {names : List PySem.Str} : ∀ {elts : List Expr} {is : List Nat}, tgChk names elts is = true → Tg names elts is
  | [], is, h => by
    cases is with
    | nil => exact .nil
    | cons _ _ => simp [tgChk] at h
  | e :: r, is, h => by
    cases is with
    | nil => cases e <;> simp [tgChk] at h
    | cons i is =>
      unfold tgChk at h
      split at h
      · rename_i h0; simp at h0
      · rename_i x px r' i' is' h1 h2
        cases h1; cases h2
        rw [Bool.and_eq_true] at h
        exact .cons (of_decide_eq_true h.1) (tg_of h.2)
      · cases h

section
variable {g : GC} {n : Nat} {sc : Scope} {names : List PySem.Str} {cf : CF} {fuel : Nat}

theorem chkS_sound (C : CallOK g n fad cf) (hN : NamesOK sc names) (p : PS) : (∀ x, chkS sc names p x = true → S1OK g n sc names cf fuel x p) ∧ (∀ xs, chkSs sc names p xs = true → StOK g n sc names cf fuel xs p) := by
  have E := fun q e h => ((chk_sound (g := g) C hN q).1 e h).1
  have T := fun q e h => ((chk_sound (g := g) C hN q).1 e h).2
  have Ls := fun q es h => ((chk_sound (g := g) C hN q).2.1 es h).1
  induction p with
  | fail => exact ⟨fun x _ => s1_fail, (fun xs h => by unfold chkSs at h; cases h)⟩
  | skip =>
    refine ⟨(fun x h => by unfold chkS at h; cases h), fun xs h => ?_⟩
    unfold chkSs at h
    rw [List.isEmpty_iff] at h
    subst h
    exact st_nil
  | seq a b iha ihb =>
    refine ⟨(fun x h => by unfold chkS at h; cases h), fun xs h => ?_⟩
    unfold chkSs at h
    split at h
    · rw [Bool.and_eq_true] at h
      exact st_cons (iha.1 _ h.1) (ihb.2 _ h.2)
    · cases h
  | asg i e =>
    refine ⟨fun x h => ?_, (fun xs h => by unfold chkSs at h; cases h)⟩
    unfold chkS at h
    split at h
    · simp only [Bool.and_eq_true, decide_eq_true_eq] at h
      exact s_asg hN h.1.1 (fun env => swaps_no h.1.2 _ _ _) (E _ _ h.2)
    · cases h
  | unp is e =>
    refine ⟨fun x h => ?_, (fun xs h => by unfold chkSs at h; cases h)⟩
    unfold chkS at h
    split at h
    · simp only [Bool.and_eq_true, decide_eq_true_eq] at h
      obtain ⟨⟨⟨h1, h2⟩, h3⟩, h4⟩ := h
      exact s_unp hN (tg_of h1) (fun env => swapsSole_no h2 _ _ _) (fun cn L a ccd => (swapped0 _ _ _ _ _ _ _).trans (of_pureOf h3)) (E _ _ h4)
    · cases h
  | swp is as =>
    refine ⟨fun x h => ?_, (fun xs h => by unfold chkSs at h; cases h)⟩
    unfold chkS at h
    split at h
    · simp only [Bool.and_eq_true, decide_eq_true_eq] at h
      obtain ⟨⟨⟨h1, h2⟩, h3⟩, h4⟩ := h
      exact s_swp hN h3 h1 (fun env => rfl) (fun cn L a ccd => (swapped0 _ _ _ _ _ _ _).trans (of_pureOf h2)) (Ls _ _ h4)
    · cases h
  | aug i o e =>
    refine ⟨fun x h => ?_, (fun xs h => by unfold chkSs at h; cases h)⟩
    unfold chkS at h
    split at h
    · simp only [Bool.and_eq_true, decide_eq_true_eq] at h
      obtain ⟨⟨h1, rfl⟩, h3⟩ := h
      exact s_aug hN C h1 (E _ _ h3)
    · cases h
  | newc i as =>
    refine ⟨fun x h => ?_, (fun xs h => by unfold chkSs at h; cases h)⟩
    unfold chkS at h
    split at h
    · simp only [Bool.and_eq_true, decide_eq_true_eq] at h
      exact s_newc hN h.1 (Ls _ _ h.2)
    · cases h
  | setc i k e =>
    refine ⟨fun x h => ?_, (fun xs h => by unfold chkSs at h; cases h)⟩
    unfold chkS at h
    split at h
    · simp only [Bool.and_eq_true, decide_eq_true_eq] at h
      obtain ⟨⟨⟨h1, h2⟩, h3⟩, h4⟩ := h
      exact s_setc hN h1 (fun env => swaps_no h2 _ _ _) (E _ _ h4) (ev_loc hN h1) (E _ _ h3)
    · cases h
  | ins i e =>
    refine ⟨fun x h => ?_, (fun xs h => by unfold chkSs at h; cases h)⟩
    unfold chkS at h
    split at h
    · simp only [Bool.and_eq_true, decide_eq_true_eq] at h
      obtain ⟨⟨⟨⟨⟨h1, rfl⟩, rfl⟩, h3⟩, h4⟩, h5⟩ := h
      exact s_ins hN h1 h3 (ev_loc hN h1) ev_int (fun env => by rw [star_plain rfl, star_plain h4]; rfl) (E _ _ h5)
    · cases h
  | ite c a b iha ihb =>
    refine ⟨fun x h => ?_, (fun xs h => by unfold chkSs at h; cases h)⟩
    unfold chkS at h
    split at h
    · simp only [Bool.and_eq_true] at h
      exact s_if (T _ _ h.1.1) (iha.2 _ h.1.2) (ihb.2 _ h.2)
    · cases h
  | whl c b ihb =>
    refine ⟨fun x h => ?_, (fun xs h => by unfold chkSs at h; cases h)⟩
    unfold chkS at h
    split at h
    · simp only [Bool.and_eq_true] at h
      exact s_while (T _ _ h.1) (ihb.2 _ h.2)
    · cases h
  | forr i m b ihb =>
    refine ⟨fun x h => ?_, (fun xs h => by unfold chkSs at h; cases h)⟩
    unfold chkS at h
    split at h
    · simp only [Bool.and_eq_true, decide_eq_true_eq] at h
      obtain ⟨⟨⟨⟨⟨h1, rfl⟩, h3⟩, h4⟩, h5⟩, h6⟩ := h
      exact s_for hN h1 (of_decide_eq_true h3) (fun env => star_plain h4 _ _) (E _ _ h5) (ihb.2 _ h6)
    · cases h
  | ret e =>
    refine ⟨fun x h => ?_, (fun xs h => by unfold chkSs at h; cases h)⟩
    unfold chkS at h
    split at h
    · exact s_ret (E _ _ h)
    · cases h
  | tryy b ihb =>
    refine ⟨fun x h => ?_, (fun xs h => by unfold chkSs at h; cases h)⟩
    unfold chkS at h
    split at h
    · exact s_try (ihb.2 _ h)
    · cases h
end

section
variable {g : GC} {fuel : Nat}

theorem out {names : List PySem.Str} {L : Addr} {W W₁ W₂ : Wd} {r : Rho} {st : Store} {h : Heap} {s₁ : Shared} {h₂ : Heap} (x : Ext [] W W₁ h s₁.heap) (I : Inv g L names W₁ r st s₁) (y : Ext [L] W₁ W₂ s₁.heap h₂) (f : h.get? L = none) : Ext [] W W₂ h h₂ := by
  have z : Ext [L] W W₂ h h₂ := (x.more (Y := [L])).trans y (fun a ha => by rw [List.mem_singleton.mp ha]; exact I.lives) fun _ ha => I.st.clives _ (x.csub ha)
  exact ⟨fun b o e _ hc => z.keep b o e (fun q => by rw [List.mem_singleton.mp q, f] at e; cases e) hc, z.xs, z.cs⟩

/-- all the defs, by their fuel -/
theorem callok (H : ∀ k fdc, code k = some fdc → defOk g.K k = true) : ∀ n, CallOK g (n + 1) fad (callP fuel code n)
  | 0 => fun k W st A s Q E vs cvs v st' _ _ _ h _ => by cases h
  | n + 1 => fun k W st A s Q E vs cvs v st' hR S Rv h kq => by
    have IH := callok H n
    unfold callP at h
    split at h
    · rename_i fdc hfdc
      split at h
      · rename_i hlen
        have hd := H k fdc hfdc
        unfold defOk at hd
        rw [hfdc] at hd
        dsimp only at hd
        split at hd
        · rename_i fd hfd
          simp only [Bool.and_eq_true, decide_eq_true_eq] at hd
          obtain ⟨⟨h1, h2⟩, h3⟩ := hd
          have HF := fdIs_of hfd h1
          have hcl : cvs.length = fdc.args := by rw [Rv.length, hlen]
          have hR' : ∀ env, Room (2 * (n + 1) + 1) (A.deeper env) := fun env => Room.down (n := 2 * (n + 1) + 1) hR (h1 := rfl) (h2 := by show A.depth + 1 ≤ _; omega) (h3 := by show A.units + 3 ≤ _; omega)
          refine enter (r := vs.map some ++ List.replicate fdc.more none) HF S hR.d (binds_exact HF.params ((List.take_sublist _ _).nodup HF.names.nd) (by rw [HF.klen, hcl]) ?_) hcl (fun i u hi => ?_) fun W1 L1 h1' x1 I1 F1 f1 => ?_
          · rcases HF.dflt with e | ⟨T, o, its, m, e1, e2, e3⟩
            · exact .inl e
            · exact .inr ⟨T, o, its, m, e1, S.KIn _ _ e2, e3⟩
          · have hu : vs[i]? = some u := by
              have : ∀ {l : List PVal} {m i : Nat}, lk (l.map some ++ List.replicate m none) i = some u → l[i]? = some u := by
                intro l
                induction l with
                | nil =>
                  intro m
                  induction m with
                  | zero => intro i h; simp [lk] at h
                  | succ m ih =>
                    intro i h
                    cases i with
                    | zero => cases h
                    | succ i => exact absurd (ih (i := i) h) (by simp)
                | cons a l ih =>
                  intro m i h
                  cases i with
                  | zero => simpa [lk] using h
                  | succ i => simpa using ih (m := m) (i := i) h
              exact this hi
            exact Rv.get i hu
          · have St := (chkS_sound (fuel := fuel) (g := g) IH HF.names fdc.body).2 _ h3
            split at h
            · rename_i u rr st1 hx
              cases h
              refine St fd.qualname _ fd.code L1 W1 _ st _ _ _ _ _ _ _ (hR' _) I1 hx fun W2 s2 f x2 I2 R2 => ?_
              obtain ⟨cv, rfl, Rr⟩ := R2
              exact kq W2 s2 cv (out x1 I1 x2 f1) I2.st Rr
            · rename_i rr st1 hx
              cases h
              refine St fd.qualname _ fd.code L1 W1 _ st _ _ _ _ _ _ _ (hR' _) I1 hx fun W2 s2 f x2 I2 R2 => ?_
              obtain rfl : f = .next := R2
              exact kq W2 s2 _ (out x1 I1 x2 f1) I2.st (by unfold Rep; rfl)
            · cases h
        · cases hd
      · cases h
    · cases h
end

theorem tall (P : Params) : ((List.range 40).all fun k => defOk (KK P) k) = true := by kernel_rfl
theorem defsOk (P : Params) (k : Nat) (fdc : FD) (h : code k = some fdc) : defOk (KK P) k = true := by
  by_cases hk : k < 40
  · exact List.all_eq_true.mp (tall P) k (List.mem_range.mpr hk)
  · obtain ⟨m, rfl⟩ : ∃ m, k = m + 40 := ⟨k - 40, by omega⟩
    cases h

/-- every call of the text's defs -/
theorem sound (g : GC) (fuel n : Nat) : CallOK g (n + 1) fad (callP fuel code n) := callok (defsOk g.w.params) n
end Mine
end
section
open PySem PySem.W PyProof.Rows
set_option Elab.async false
set_option maxRecDepth 100000
namespace Mine

/-- the plain law: what the interpreter answers -/
def LawTrue : Prop := ∀ ns : List Int, ns.length ≤ 63 → ∃ st, callP 2000 code 12 39 [.lst (ns.map .int)] [] = some (.bool true, st)

theorem reps_ints {h : Heap} {W : Wd} : ∀ {vs : List Value} {ns : List Int}, IntsAre vs ns → Reps h W (ns.map .int) vs
  | _, _, .nil => by simp only [List.map_nil]; unfold Reps; rfl
  | _, _, .cons i t r => by
    rw [List.map_cons]
    unfold Reps
    exact ⟨_, _, rfl, by unfold Rep; exact ⟨t, rfl⟩, reps_ints r⟩
theorem intsOf_map : ∀ ns : List Int, (intsOf (ns.map .int)).isSome = true
  | [] => rfl
  | n :: ns => by
    rw [List.map_cons]
    unfold intsOf
    rw [Option.isSome_map]
    exact intsOf_map ns

def lawScopeOk (sc : Scope) (body : List Stmt) : Bool := decide ((namesOf sc).Nodup) && (namesOf sc).all (fun x => decide (sc.names.lookup x = some .local) && !(x == ("__debug__" : PySem.Str))) && decide (sc.kind = .function) && decide ((namesOf sc)[0]? = some (PySem.Str.ofString "script")) && chkSs sc (namesOf sc) claw body

theorem law_run (H : LawTrue) {g : GC} {sc : Scope} {body : List Stmt} {A : Around} {L a fa : Addr} {vs : List Value} {ns : List Int} {s : Shared} {cn : PySem.Str} {cdv : Value} {m : PySem.Str → Option Value} {Q : Flow → Shared → Prop} {E : Value → Shared → Prop}
    (hc : lawScopeOk sc body = true) (hR : Room 27 A) (F : Fr g.base L s.heap m) (hm : m (PySem.Str.ofString "script") = some (.ref a)) (hL : g.base.IsList a vs.toArray) (hI : IntsAre vs ns) (hns : ns.length ≤ 63)
    (hg : s.gens = #[]) (hos : s.os = g.os) (ht : 1 ≤ s.toks) (hLs : L = g.base.objs.size)
    (q : ∀ s' m', Fr g.base L s'.heap m' → s'.gens = #[] → s'.os = g.os → Q (.ret (.bool true)) s') : wpAny g.M A (execs body (envX cn sc L fa cdv [])) Q E s := by
  unfold lawScopeOk at hc
  simp only [Bool.and_eq_true, decide_eq_true_eq, List.all_eq_true, Bool.not_eq_true'] at hc
  obtain ⟨⟨⟨⟨c1, c2⟩, c3⟩, c4⟩, c5⟩ := hc
  have hN : NamesOK sc (namesOf sc) := ⟨c3, fun i x hx => c2 x ((List.getElem?_eq_some_iff.mp hx).2 ▸ List.getElem_mem _), c1⟩
  obtain ⟨st, hst⟩ := H ns hns
  unfold callP at hst
  have hcode : code 39 = some ⟨1, 18, claw⟩ := rfl
  rw [hcode] at hst
  dsimp only at hst
  rw [if_pos (show [PVal.lst (ns.map .int)].length = 1 from rfl)] at hst
  have nb : g.base.get? L = none := by rw [hLs]; exact get?_size _
  obtain ⟨oL, es, ep, hoL, _⟩ := id F.ns
  obtain ⟨ol, hol, _⟩ := id hL
  have ha : a ∉ [L] := fun e => by rw [List.mem_singleton.mp e, nb] at hol; cases hol
  have I : Inv g L (namesOf sc) ⟨[L], []⟩ ([PVal.lst (ns.map .int)].map some ++ List.replicate 18 none) [] s := by
    refine ⟨⟨F.keep, fun b hb => by rw [List.mem_singleton.mp hb]; exact nb, fun b hb => ⟨oL, by rw [List.mem_singleton.mp hb]; exact hoL⟩, fun b hb => (nomatch hb), List.nodup_nil, rfl, fun i l hi => by simp at hi, hg, hos, ht, Nat.le_trans F.above (Nat.le_of_lt (Heap.lt_size hoL))⟩, List.mem_singleton.mpr rfl, List.not_mem_nil, m, F, fun i v hi => ?_⟩
    cases i with
    | zero =>
      cases hi
      refine ⟨_, _, c4, hm, ?_⟩
      unfold Rep
      exact ⟨a, vs, rfl, ha, .inr ⟨intsOf_map ns, let ⟨o, ho, r⟩ := hL; ⟨o, F.keep _ _ ho, r⟩⟩, reps_ints hI⟩
    | succ i =>
      have : ∀ (m i : Nat), lk (List.replicate m (none : Option PVal)) i = some v → False := by
        intro m
        induction m with
        | zero => intro i h; simp [lk] at h
        | succ m ih =>
          intro i h
          cases i with
          | zero => cases h
          | succ i => exact ih i h
      exact (this 18 i hi).elim
  have St := (chkS_sound (fuel := 2000) (sound g 2000 11) hN claw).2 _ c5
  split at hst
  · rename_i v rr st1 hx
    cases hst
    refine St cn fa cdv L ⟨[L], []⟩ _ [] A s Q E _ _ _ ⟨hR.handled, by have := hR.depth; omega, by have := hR.units; omega⟩ I hx fun W2 s2 f x2 I2 R2 => ?_
    obtain ⟨cv, rfl, Rr⟩ := R2
    unfold Rep at Rr
    subst Rr
    obtain ⟨m2, F2, _⟩ := I2.fr
    exact q s2 m2 F2 I2.st.gens I2.st.os
  · cases hst
  · cases hst

theorem law_run0 (H : LawTrue) {w : World} {p : Program} {loose : List PySem.Str} {mean : ExcName → Option Value} {mg mb : PySem.Str → Option Value} {base : Heap} (KI : (hd.heap_39 w.params).In base) (T : Top p loose mean mg mb base)
    {sc : Scope} {body : List Stmt} {A : Around} {L a fa : Addr} {vs : List Value} {ns : List Int} {s : Shared} {cn : PySem.Str} {cdv : Value} {m : PySem.Str → Option Value} {Q : Flow → Shared → Prop} {E : Value → Shared → Prop}
    (hc : lawScopeOk sc body = true) (hR : Room 27 A) (F : Fr base L s.heap m) (hm : m (PySem.Str.ofString "script") = some (.ref a)) (hL : base.IsList a vs.toArray) (hI : IntsAre vs ns) (hns : ns.length ≤ 63)
    (hg : s.gens = #[]) (ht : 1 ≤ s.toks) (hLs : L = base.objs.size)
    (q : ∀ s' m', Fr base L s'.heap m' → s'.gens = #[] → s'.os = s.os → Q (.ret (.bool true)) s') : wpAny (model Challenge.rw_fe0133_01.row.prog w) A (execs body (envOf cn sc L fa cdv)) Q E s :=
  law_run H (g := ⟨w, p, loose, mean, mg, mb, base, s.os, KI, T⟩) hc hR F hm hL hI hns hg rfl ht hLs q
end Mine
end
section
open PySem PySem.W PyProof.Rows
set_option Elab.async false
namespace Mine
theorem room_law (env : Env) : Room 27 (callerA.deeper env) := ⟨rfl, by show 1 + claimMargin + 1 + 3 * 27 + 20 < recursionLimit; decide, by show 4 + 3 + 20 * 27 + 100 < cLine; decide⟩
set_option maxRecDepth 100000 in
set_option maxHeartbeats 0 in
theorem goal_of (H : LawTrue) : PySem.Challenge.rw_fe0133_01.Holds := hd (by
  k_go0
  refine law_run0 H (by assumption) (by assumption) ?hc ?hR (by assumption) ?hm (by assumption) (by assumption) ?hns ?hg ?ht rfl ?q
  case hc => kernel_rfl
  case hm => rfl
  case hns => omega
  case hg => assumption
  case hR => exact room_law _
  case ht => exact Nat.le_add_left _ _
  case q =>
    intro s' m' F' hg' hos'
    refine goodW_bool F' hg' (raisesW_false ?_) ?_ hos'
    · wrow_none_raised
    · first | rfl | wrow_post)
end Mine
end
section
set_option Elab.async false
namespace Mine

/-- half to even -/
def rnd (n d : Int) : Int := if 2 * n.fmod d > d ∨ (2 * n.fmod d = d ∧ (n.fdiv d).fmod 2 = 1) then n.fdiv d + 1 else n.fdiv d

structure IsRnd (n d r : Int) : Prop where
  hi : 2 * (n - d * r) ≤ d
  lo : -d ≤ 2 * (n - d * r)
  even : 2 * (n - d * r) = d ∨ 2 * (n - d * r) = -d → r % 2 = 0

theorem fdm {n d : Int} (hd : 0 < d) : n.fdiv d * d + n.fmod d = n ∧ 0 ≤ n.fmod d ∧ n.fmod d < d := by
  rw [Int.fdiv_eq_ediv_of_nonneg _ (Int.le_of_lt hd), Int.fmod_eq_emod_of_nonneg _ (Int.le_of_lt hd)]
  exact ⟨by have := Int.mul_ediv_add_emod n d; grind, Int.emod_nonneg _ (by omega), Int.emod_lt_of_pos _ hd⟩

theorem rnd_is {n d : Int} (hd : 0 < d) : IsRnd n d (rnd n d) := by
  obtain ⟨h1, h2, h3⟩ := fdm (n := n) hd
  have e2 : (n.fdiv d).fmod 2 = n.fdiv d % 2 := Int.fmod_eq_emod_of_nonneg _ (by decide)
  unfold rnd
  rw [e2]
  generalize n.fdiv d = q at *
  generalize n.fmod d = m at *
  have e : n - d * q = m := by grind
  have e' : n - d * (q + 1) = m - d := by grind
  split
  · rename_i h
    refine ⟨by rw [e']; omega, by rw [e']; omega, ?_⟩
    rw [e']; intro h4; omega
  · rename_i h
    refine ⟨by rw [e]; omega, by rw [e]; omega, ?_⟩
    rw [e]; intro h4; omega

/-- nearer in ratio, no lower -/
theorem IsRnd.mono {n d n' d' r r' : Int} (hd : 0 < d) (hd' : 0 < d') (h : IsRnd n d r) (h' : IsRnd n' d' r') (hle : n * d' ≤ n' * d) : r ≤ r' := by
  apply Decidable.byContradiction
  intro hlt
  have hr : r' + 1 ≤ r := by omega
  have a1 := h.lo
  have a2 := h'.hi
  have p := Int.mul_pos hd hd'
  have b1 : d' * (d * (2 * r - 1)) ≤ d' * (2 * n) := Int.mul_le_mul_of_nonneg_left (by have : d * (2 * r - 1) = 2 * (d * r) - d := by grind
                                                                                       omega) (by omega)
  have b2 : d * (2 * n') ≤ d * (d' * (2 * r' + 1)) := Int.mul_le_mul_of_nonneg_left (by have : d' * (2 * r' + 1) = 2 * (d' * r') + d' := by grind
                                                                                        omega) (by omega)
  have b3 : (d * d') * (2 * r' + 1) ≤ (d * d') * (2 * r - 1) := Int.mul_le_mul_of_nonneg_left (by omega) (by omega)
  have q1 : d' * (d * (2 * r - 1)) = (d * d') * (2 * r - 1) := by grind
  have q2 : d * (d' * (2 * r' + 1)) = (d * d') * (2 * r' + 1) := by grind
  have q3 : d' * (2 * n) = 2 * (n * d') := by grind
  have q4 : d * (2 * n') = 2 * (n' * d) := by grind
  have c0 : (d * d') * (2 * r - 1) = (d * d') * (2 * r' + 1) := by omega
  have c1 : 2 * r - 1 = 2 * r' + 1 := Int.eq_of_mul_eq_mul_left (by omega) c0
  have c2 : d' * (2 * n) = d' * (d * (2 * r - 1)) := by omega
  have c3' : 2 * n = d * (2 * r - 1) := Int.eq_of_mul_eq_mul_left (by omega) c2
  have c3 : 2 * (n - d * r) = -d := by have : d * (2 * r - 1) = 2 * (d * r) - d := by grind
                                       omega
  have c4 : d * (2 * n') = d * (d' * (2 * r' + 1)) := by omega
  have c5' : 2 * n' = d' * (2 * r' + 1) := Int.eq_of_mul_eq_mul_left (by omega) c4
  have c5 : 2 * (n' - d' * r') = d' := by have : d' * (2 * r' + 1) = 2 * (d' * r') + d' := by grind
                                          omega
  have e1 := h.even (.inr c3)
  have e2 := h'.even (.inl c5)
  omega

theorem IsRnd.unique {n d n' d' r r' : Int} (hd : 0 < d) (hd' : 0 < d') (h : IsRnd n d r) (h' : IsRnd n' d' r') (he : n * d' = n' * d) : r = r' :=
  Int.le_antisymm (h.mono hd hd' h' (by omega)) (h'.mono hd' hd h (by omega))

theorem rnd_mono {n d n' d' : Int} (hd : 0 < d) (hd' : 0 < d') (h : n * d' ≤ n' * d) : rnd n d ≤ rnd n' d' := (rnd_is hd).mono hd hd' (rnd_is hd') h
theorem rnd_same {n d n' d' : Int} (hd : 0 < d) (hd' : 0 < d') (h : n * d' = n' * d) : rnd n d = rnd n' d' := (rnd_is hd).unique hd hd' (rnd_is hd') h
theorem rnd_whole {m d : Int} (hd : 0 < d) : rnd (m * d) d = m :=
  (rnd_is hd).unique hd hd ⟨by have : m * d - d * m = 0 := by grind
                               omega, by have : m * d - d * m = 0 := by grind
                                         omega, fun h => by
    have : m * d - d * m = 0 := by grind
    omega⟩ rfl
theorem rnd_ge {n d m : Int} (hd : 0 < d) (h : m * d ≤ n) : m ≤ rnd n d := by
  have := rnd_mono (n := m * d) (n' := n) hd hd (Int.mul_le_mul_of_nonneg_right h (by omega))
  rwa [rnd_whole hd] at this
theorem rnd_le {n d m : Int} (hd : 0 < d) (h : n ≤ m * d) : rnd n d ≤ m := by
  have := rnd_mono (n := n) (n' := m * d) hd hd (Int.mul_le_mul_of_nonneg_right h (by omega))
  rwa [rnd_whole hd] at this
end Mine
end
section
set_option Elab.async false
namespace Mine

theorem castle {a b : Int} (h : a ≤ b) : (a : Rat) ≤ (b : Rat) := Rat.intCast_le_intCast.mpr h
theorem castlt {a b : Int} (h : a < b) : (a : Rat) < (b : Rat) := Rat.intCast_lt_intCast.mpr h

/-- r is x rounded, half to even -/
structure IsR (x : Rat) (r : Int) : Prop where
  hi : 2 * (x - r) ≤ 1
  lo : -1 ≤ 2 * (x - r)
  even : 2 * (x - r) = 1 ∨ 2 * (x - r) = -1 → r % 2 = 0

theorem IsR.mono {x y : Rat} {r t : Int} (h : IsR x r) (h' : IsR y t) (hle : x ≤ y) : r ≤ t := by
  apply Decidable.byContradiction
  intro hlt
  have hr : t + 1 ≤ r := by omega
  have c : (t : Rat) + 1 ≤ (r : Rat) := by have := castle hr; rw [Rat.intCast_add] at this; exact this
  have a1 := h.lo
  have a2 := h'.hi
  have e1 : 2 * (x - r) = -1 := by grind
  have e2 : 2 * (y - t) = 1 := by grind
  have e3 : (r : Rat) = (t : Rat) + 1 := by grind
  have e4 : (r : Rat) = ((t + 1 : Int) : Rat) := by rw [Rat.intCast_add]; exact e3
  have e5 : r = t + 1 := by
    have := Rat.intCast_le_intCast.mp (show (r : Rat) ≤ ((t + 1 : Int) : Rat) by rw [e4]; exact Rat.le_refl)
    omega
  have := h.even (.inr e1)
  have := h'.even (.inl e2)
  omega
theorem IsR.unique {x : Rat} {r t : Int} (h : IsR x r) (h' : IsR x t) : r = t := Int.le_antisymm (h.mono h' Rat.le_refl) (h'.mono h Rat.le_refl)
theorem IsR.whole (m : Int) : IsR (m : Rat) m := ⟨by grind, by grind, fun h => by grind⟩
theorem IsR.ge {x : Rat} {r m : Int} (h : IsR x r) (hm : (m : Rat) ≤ x) : m ≤ r := (IsR.whole m).mono h hm
theorem IsR.le {x : Rat} {r m : Int} (h : IsR x r) (hm : x ≤ (m : Rat)) : r ≤ m := h.mono (IsR.whole m) hm

theorem rnd_isR {n d : Int} {x : Rat} (hd : 0 < d) (hx : x * d = n) : IsR x (rnd n d) := by
  have h := rnd_is (n := n) hd
  generalize rnd n d = r at h
  have hd' : (0 : Rat) < (d : Rat) := castlt hd
  have c1 := castle h.hi
  have c2 := castle h.lo
  simp only [Rat.intCast_mul, Rat.intCast_sub, Rat.intCast_neg] at c1 c2
  have t2 : ((2 : Int) : Rat) = 2 := rfl
  rw [t2] at c1 c2
  refine ⟨?_, ?_, fun h4 => h.even ?_⟩
  · refine Rat.le_of_mul_le_mul_left (c := (d : Rat)) ?_ hd'
    grind
  · refine Rat.le_of_mul_le_mul_left (c := (d : Rat)) ?_ hd'
    grind
  · have cast : ∀ {a b : Int}, (a : Rat) = (b : Rat) → a = b := fun {a b} e => Int.le_antisymm (Rat.intCast_le_intCast.mp (by rw [e]; exact Rat.le_refl)) (Rat.intCast_le_intCast.mp (by rw [e]; exact Rat.le_refl))
    rcases h4 with h4 | h4
    · left
      apply cast
      simp only [Rat.intCast_mul, Rat.intCast_sub]
      rw [t2]
      grind
    · right
      apply cast
      simp only [Rat.intCast_mul, Rat.intCast_sub, Rat.intCast_neg]
      rw [t2]
      grind

/-! ### powers -/
theorem zp_pos {b : Rat} (hb : 0 < b) (k : Int) : 0 < b ^ k := Rat.zpow_pos hb
theorem zp_add {b : Rat} (hb : 0 < b) (m n : Int) : b ^ (m + n) = b ^ m * b ^ n := Rat.zpow_add (by grind) m n
theorem zp_ge_one {b : Rat} (hb : 1 ≤ b) : ∀ n : Nat, 1 ≤ b ^ (n : Int)
  | 0 => by rw [show ((0 : Nat) : Int) = 0 from rfl, Rat.zpow_zero]; exact Rat.le_refl
  | n + 1 => by
    have ih := zp_ge_one hb n
    rw [show ((n + 1 : Nat) : Int) = (n : Int) + 1 by omega, zp_add (by grind) _ _, Rat.zpow_one]
    have := Rat.mul_le_mul_of_nonneg_left ih (show (0 : Rat) ≤ b by grind)
    grind
theorem zp_mono {b : Rat} (hb : 1 ≤ b) {m n : Int} (h : m ≤ n) : b ^ m ≤ b ^ n := by
  obtain ⟨k, rfl⟩ : ∃ k : Nat, n = m + k := ⟨(n - m).toNat, by omega⟩
  have hp := zp_pos (show (0 : Rat) < b by grind) m
  rw [zp_add (by grind)]
  have := Rat.mul_le_mul_of_nonneg_left (zp_ge_one hb k) (show (0 : Rat) ≤ b ^ m by grind)
  grind
theorem zp_neg {b : Rat} (hb : 0 < b) (k : Int) : b ^ k * b ^ (-k) = 1 := by
  rw [← zp_add hb, show k + -k = 0 by omega, Rat.zpow_zero]
theorem zp_nat (b : Int) (k : Nat) : ((b ^ k : Int) : Rat) = (b : Rat) ^ (k : Int) := by
  rw [Rat.intCast_pow, Rat.zpow_natCast]
end Mine
end
section
set_option Elab.async false
namespace Mine

/-- x's scale: b^p ≤ x b^s < b^(p+1) -/
structure IsSc (b : Rat) (p : Int) (x : Rat) (s : Int) : Prop where
  lo : b ^ p ≤ x * b ^ s
  hi : x * b ^ s < b ^ (p + 1)

theorem IsSc.mono {b : Rat} {p s t : Int} {x y : Rat} (hb : 1 ≤ b) (h : IsSc b p x s) (h' : IsSc b p y t) (hle : x ≤ y) : t ≤ s := by
  apply Decidable.byContradiction
  intro hlt
  have hs : s + 1 ≤ t := by omega
  have b0 : (0 : Rat) < b := by grind
  have ps := zp_pos b0 s
  have pt := zp_pos b0 t
  have m := zp_mono hb hs
  rw [zp_add b0, Rat.zpow_one] at m
  have hy : 0 ≤ y := by
    have := h'.lo
    have pp := zp_pos b0 p
    apply Decidable.byContradiction
    intro hn
    have : y * b ^ t ≤ 0 := by
      have := Rat.mul_le_mul_of_nonneg_left (show y ≤ 0 by grind) (show (0 : Rat) ≤ b ^ t by grind)
      grind
    grind
  have a1 := h.lo
  have a2 := h'.hi
  rw [zp_add b0, Rat.zpow_one] at a2
  have c1 : b ^ s * x ≤ b ^ s * y := Rat.mul_le_mul_of_nonneg_left hle (by grind)
  have c2 : y * (b ^ s * b) ≤ y * b ^ t := Rat.mul_le_mul_of_nonneg_left m hy
  have c3 : b * b ^ p ≤ b * (x * b ^ s) := Rat.mul_le_mul_of_nonneg_left a1 (by grind)
  have c4 : b * (b ^ s * x) ≤ b * (b ^ s * y) := Rat.mul_le_mul_of_nonneg_left c1 (by grind)
  grind
theorem IsSc.unique {b : Rat} {p s t : Int} {x : Rat} (hb : 1 ≤ b) (h : IsSc b p x s) (h' : IsSc b p x t) : s = t := Int.le_antisymm (h'.mono hb h Rat.le_refl) (h.mono hb h' Rat.le_refl)

/-- x told with p + 1 figures to the base b -/
structure IsFl (b : Int) (p : Nat) (x t : Rat) (s w : Int) : Prop where
  sc : IsSc b p x s
  r : IsR (x * (b : Rat) ^ s) w
  eq : t = w * (b : Rat) ^ (-s)

theorem IsFl.range {b : Int} {p : Nat} {x t : Rat} {s w : Int} (h : IsFl b p x t s w) : b ^ p ≤ w ∧ w ≤ b ^ (p + 1) := by
  have e1 : ((b ^ p : Int) : Rat) = (b : Rat) ^ (p : Int) := zp_nat b p
  have e2 : ((b ^ (p + 1) : Int) : Rat) = (b : Rat) ^ ((p : Int) + 1) := by rw [zp_nat b (p + 1)]; rfl
  refine ⟨h.r.ge (by rw [e1]; exact h.sc.lo), h.r.le (by rw [e2]; have := h.sc.hi; grind)⟩

theorem IsFl.mono {b : Int} {p : Nat} {x t x' t' : Rat} {s w s' w' : Int} (hb : 1 ≤ b) (h : IsFl b p x t s w) (h' : IsFl b p x' t' s' w') (hle : x ≤ x') : t ≤ t' := by
  have hb' : (1 : Rat) ≤ (b : Rat) := castle hb
  have b0 : (0 : Rat) < (b : Rat) := by grind
  have hs := h.sc.mono hb' h'.sc hle
  rw [h.eq, h'.eq]
  by_cases e : s' = s
  · subst e
    have p1 := zp_pos b0 s'
    have p2 := zp_pos b0 (-s')
    have : x * (b : Rat) ^ s' ≤ x' * (b : Rat) ^ s' := by
      have := Rat.mul_le_mul_of_nonneg_left hle (show (0 : Rat) ≤ (b : Rat) ^ s' by grind)
      grind
    have hw := castle (h.r.mono h'.r this)
    have := Rat.mul_le_mul_of_nonneg_left hw (show (0 : Rat) ≤ (b : Rat) ^ (-s') by grind)
    grind
  · have hs' : -s + 1 ≤ -s' := by omega
    have p2 := zp_pos b0 (-s)
    have p3 := zp_pos b0 (-s')
    have m := zp_mono hb' hs'
    rw [zp_add b0, Rat.zpow_one] at m
    have r1 := castle h.range.2
    have r2 := castle h'.range.1
    rw [zp_nat] at r1 r2
    have e2 : (b : Rat) ^ ((p + 1 : Nat) : Int) = (b : Rat) ^ (p : Int) * b := by rw [show ((p + 1 : Nat) : Int) = (p : Int) + 1 by omega, zp_add b0, Rat.zpow_one]
    rw [e2] at r1
    have pp := zp_pos b0 (p : Int)
    have c1 := Rat.mul_le_mul_of_nonneg_left r1 (show (0 : Rat) ≤ (b : Rat) ^ (-s) by grind)
    have c2 := Rat.mul_le_mul_of_nonneg_left m (show (0 : Rat) ≤ (b : Rat) ^ (p : Int) by grind)
    have c3 := Rat.mul_le_mul_of_nonneg_left r2 (show (0 : Rat) ≤ (b : Rat) ^ (-s') by grind)
    grind

theorem IsFl.unique {b : Int} {p : Nat} {x t t' : Rat} {s w s' w' : Int} (hb : 1 ≤ b) (h : IsFl b p x t s w) (h' : IsFl b p x t' s' w') : s = s' ∧ w = w' ∧ t = t' := by
  have hb' : (1 : Rat) ≤ (b : Rat) := castle hb
  have e := h.sc.unique hb' h'.sc
  subst e
  have e2 := h.r.unique h'.r
  subst e2
  exact ⟨rfl, rfl, by rw [h.eq, h'.eq]⟩

/-- half a unit of the last figure -/
theorem IsFl.err {b : Int} {p : Nat} {x t : Rat} {s w : Int} (hb : 1 ≤ b) (h : IsFl b p x t s w) : 2 * (x - t) ≤ (b : Rat) ^ (-s) ∧ -(b : Rat) ^ (-s) ≤ 2 * (x - t) := by
  have hb' : (1 : Rat) ≤ (b : Rat) := castle hb
  have b0 : (0 : Rat) < (b : Rat) := by grind
  have p2 := zp_pos b0 (-s)
  have n := zp_neg b0 s
  have a1 := Rat.mul_le_mul_of_nonneg_left h.r.hi (show (0 : Rat) ≤ (b : Rat) ^ (-s) by grind)
  have a2 := Rat.mul_le_mul_of_nonneg_left h.r.lo (show (0 : Rat) ≤ (b : Rat) ^ (-s) by grind)
  have e : (b : Rat) ^ (-s) * (2 * (x * (b : Rat) ^ s - w)) = 2 * (x * ((b : Rat) ^ s * (b : Rat) ^ (-s)) - w * (b : Rat) ^ (-s)) := by grind
  rw [e, n, ← h.eq] at a1 a2
  grind

/-- the unit is small beside the number -/
theorem IsFl.unit {b : Int} {p : Nat} {x t : Rat} {s w : Int} (hb : 1 ≤ b) (h : IsFl b p x t s w) : (b : Rat) ^ (p : Int) * (b : Rat) ^ (-s) ≤ x := by
  have hb' : (1 : Rat) ≤ (b : Rat) := castle hb
  have b0 : (0 : Rat) < (b : Rat) := by grind
  have p2 := zp_pos b0 (-s)
  have n := zp_neg b0 s
  have := Rat.mul_le_mul_of_nonneg_left h.sc.lo (show (0 : Rat) ≤ (b : Rat) ^ (-s) by grind)
  have e : (b : Rat) ^ (-s) * (x * (b : Rat) ^ s) = x * ((b : Rat) ^ s * (b : Rat) ^ (-s)) := by grind
  rw [e, n] at this
  grind

/-- where the scaled number is whole nothing is lost -/
theorem IsFl.exact {b : Int} {p : Nat} {x t : Rat} {s w m : Int} (hb : 1 ≤ b) (h : IsFl b p x t s w) (hm : x * (b : Rat) ^ s = m) : t = x := by
  have hb' : (1 : Rat) ≤ (b : Rat) := castle hb
  have b0 : (0 : Rat) < (b : Rat) := by grind
  have n := zp_neg b0 s
  have e : w = m := h.r.unique (by rw [hm]; exact IsR.whole m)
  rw [h.eq, e, ← hm]
  have e : x * (b : Rat) ^ s * (b : Rat) ^ (-s) = x * ((b : Rat) ^ s * (b : Rat) ^ (-s)) := by grind
  rw [e, n]
  grind
end Mine
end
section
open PySem
set_option Elab.async false
set_option maxRecDepth 100000
set_option exponentiation.threshold 2500
namespace Mine

theorem fit_of {z : Int} (h : z.natAbs < 2 ^ 1900) : fit z = true := decide_eq_true h
theorem fit_small {z : Int} (h : z.natAbs < 2 ^ 60) : fit z = true := fit_of (Nat.lt_of_lt_of_le h (Nat.pow_le_pow_right (by decide) (by decide)))
theorem fit_abs {z : Int} (h : fit z = true) : z.natAbs < 2 ^ 1900 := of_decide_eq_true h
theorem fit_le {z y : Int} (h : fit y = true) (h1 : z.natAbs ≤ y.natAbs) : fit z = true := fit_of (Nat.lt_of_le_of_lt h1 (fit_abs h))

def finP : Option (Fl × Rho × Store) → Option (PVal × Store)
  | some (.ret v, _, st) => some (v, st)
  | some (.next, _, st) => some (.none, st)
  | none => none
theorem call_eq {fuel n k : Nat} {vs : List PVal} {st : Store} {fd : FD} (h : code k = some fd) (hl : vs.length = fd.args) :
    callP fuel code (n + 1) k vs st = finP (ex fuel (callP fuel code n) fd.body (vs.map some ++ List.replicate fd.more none) st) := by
  unfold callP
  rw [h]
  dsimp only
  rw [if_pos hl]
  unfold finP
  split <;> rename_i h1 <;> simp [h1]

theorem beqD (a b : Int) : (a == b) = decide (a = b) := rfl
theorem bneD (a b : Int) : (a != b) = !decide (a = b) := rfl


section
variable {fuel n : Nat} {st : Store}

theorem sp_rounded {a b : Int} (hb : 0 < b) (fb : fit b = true) : callP fuel code (n + 1) 0 [.int a, .int b] st = some (.int (rnd a b), st) := by
  obtain ⟨h1, h2, h3⟩ := fdm (n := a) hb
  have f2 : fit 2 = true := fit_small (by decide)
  have fm : fit (a.fmod b) = true := fit_le fb (by omega)
  have hb0 : b ≠ 0 := by omega
  rw [call_eq (fd := ⟨2, 2, crounded⟩) rfl rfl]
  unfold crounded rnd
  by_cases c1 : b < 2 * a.fmod b
  · simp [finP, ex, ev, evs, biP, binP, binI, cmpP, cmpI, lk, upd, upds, truth, augOk, isNum, isiP, slim, beqD, bneD, fb, f2, fm, hb0, c1]
  · by_cases c2 : 2 * a.fmod b = b
    · by_cases c3 : (a.fdiv b).fmod 2 = 1
      · simp [finP, ex, ev, evs, biP, binP, binI, cmpP, cmpI, lk, upd, upds, truth, augOk, isNum, isiP, slim, beqD, bneD, fb, f2, fm, hb0, c1, c2, c3]
      · simp [finP, ex, ev, evs, biP, binP, binI, cmpP, cmpI, lk, upd, upds, truth, augOk, isNum, isiP, slim, beqD, bneD, fb, f2, fm, hb0, c1, c2, c3]
    · simp [finP, ex, ev, evs, biP, binP, binI, cmpP, cmpI, lk, upd, upds, truth, augOk, isNum, isiP, slim, beqD, bneD, fb, f2, fm, hb0, c1, c2]
end
end Mine
end
section
open PySem
set_option Elab.async false
set_option maxRecDepth 100000
set_option exponentiation.threshold 2500
namespace Mine

theorem bits_pos {n : Int} (h : 0 < n) : ∃ k : Nat, Builtin.Int.intBits n = k + 1 ∧ (2 : Int) ^ k ≤ n ∧ n < 2 ^ (k + 1) := by
  obtain ⟨m, rfl⟩ := Int.eq_ofNat_of_zero_le (Int.le_of_lt h)
  have hm : m ≠ 0 := by omega
  refine ⟨m.log2, ?_, ?_, ?_⟩
  · unfold Builtin.Int.intBits
    simp [hm]
  · have := Nat.log2_self_le hm
    exact_mod_cast this
  · have := (Nat.log2_lt hm).mp (Nat.lt_succ_self m.log2)
    exact_mod_cast this

theorem zp2 (k : Int) (hk : 0 ≤ k) : (((2 : Int) ^ k.toNat : Int) : Rat) = (2 : Rat) ^ k := by
  rw [zp_nat 2 k.toNat, Int.toNat_of_nonneg hk]; rfl

theorem zp2_max (s : Int) : (2 : Rat) ^ (max s 0) = (2 : Rat) ^ s * (2 : Rat) ^ (max (-s) 0) := by
  rw [← zp_add (by decide +kernel)]
  congr 1
  omega

theorem pow_lt_pow {a b : Nat} (h : a < b) : (2 : Int) ^ a < 2 ^ b := by
  have := Nat.pow_lt_pow_right (a := 2) (by decide) h
  exact_mod_cast this
theorem pow_le_pow {a b : Nat} (h : a ≤ b) : (2 : Int) ^ a ≤ 2 ^ b := by
  have := Nat.pow_le_pow_right (n := 2) (by decide) h
  exact_mod_cast this
theorem of_pow_lt {a b : Nat} (h : (2 : Int) ^ a < 2 ^ b) : a < b := by
  apply Decidable.byContradiction
  intro hn
  have := pow_le_pow (show b ≤ a by omega)
  omega

/-- the scale of n/d -/
def sc0 (n d : Int) : Int := 53 - (Builtin.Int.intBits n : Nat) + (Builtin.Int.intBits d : Nat)
def sc1 (n d : Int) : Int := if d * 2 ^ (max (-sc0 n d) 0 + 53).toNat ≤ n * 2 ^ (max (sc0 n d) 0).toNat then sc0 n d - 1 else sc0 n d

theorem sc_ok {n d : Int} {x : Rat} (hn : 0 < n) (hd : 0 < d) (hx : x * d = n) : IsSc 2 52 x (sc1 n d) := by
  obtain ⟨a, ea, a1, a2⟩ := bits_pos hn
  obtain ⟨b, eb, b1, b2⟩ := bits_pos hd
  have es : sc0 n d = 53 - a + b := by unfold sc0; rw [ea, eb]; omega
  have t0 : (0 : Rat) < 2 := by decide +kernel
  have d0 : (0 : Rat) < (d : Rat) := castlt hd
  have ra1 := castle a1
  have ra2 := castlt a2
  have rb1 := castle b1
  have rb2 := castlt b2
  rw [zp_nat] at ra1 ra2 rb1 rb2
  have t2 : ((2 : Int) : Rat) = 2 := rfl
  rw [t2] at ra1 ra2 rb1 rb2
  rw [show ((a + 1 : Nat) : Int) = (a : Int) + 1 by omega] at ra2
  rw [show ((b + 1 : Nat) : Int) = (b : Int) + 1 by omega] at rb2
  have ps := zp_pos t0 (sc0 n d)
  have lo : (2 : Rat) ^ (52 : Int) ≤ x * (2 : Rat) ^ (sc0 n d) := by
    refine Rat.le_of_mul_le_mul_left (c := (d : Rat)) ?_ d0
    have c1 := Rat.mul_le_mul_of_nonneg_left ra1 (show (0 : Rat) ≤ (2 : Rat) ^ (sc0 n d) by grind)
    have e1 : (2 : Rat) ^ (sc0 n d) * (2 : Rat) ^ (a : Int) = (2 : Rat) ^ (52 : Int) * (2 : Rat) ^ ((b : Int) + 1) := by
      rw [← zp_add t0, ← zp_add t0]; congr 1; omega
    have p52 := zp_pos t0 52
    have c2 := Rat.mul_le_mul_of_nonneg_left (show (d : Rat) ≤ (2 : Rat) ^ ((b : Int) + 1) by grind) (show (0 : Rat) ≤ (2 : Rat) ^ (52 : Int) by grind)
    grind
  have hi : x * (2 : Rat) ^ (sc0 n d) < (2 : Rat) ^ (54 : Int) := by
    refine Rat.lt_of_mul_lt_mul_left (c := (d : Rat)) ?_ (by grind)
    have c1 := Rat.mul_lt_mul_of_pos_left ra2 ps
    have e1 : (2 : Rat) ^ (sc0 n d) * (2 : Rat) ^ ((a : Int) + 1) = (2 : Rat) ^ (54 : Int) * (2 : Rat) ^ (b : Int) := by
      rw [← zp_add t0, ← zp_add t0]; congr 1; omega
    have p54 := zp_pos t0 54
    have c2 := Rat.mul_le_mul_of_nonneg_left rb1 (show (0 : Rat) ≤ (2 : Rat) ^ (54 : Int) by grind)
    grind
  have key : d * 2 ^ (max (-sc0 n d) 0 + 53).toNat ≤ n * 2 ^ (max (sc0 n d) 0).toNat ↔ (2 : Rat) ^ (53 : Int) ≤ x * (2 : Rat) ^ (sc0 n d) := by
    rw [← Rat.intCast_le_intCast, Rat.intCast_mul, Rat.intCast_mul, zp2 _ (by omega), zp2 _ (by omega), zp2_max, zp_add t0]
    have pm := zp_pos t0 (max (-sc0 n d) 0)
    have pd := Rat.mul_pos d0 pm
    constructor
    · intro h
      refine Rat.le_of_mul_le_mul_left (c := (d : Rat) * (2 : Rat) ^ (max (-sc0 n d) 0)) ?_ pd
      grind
    · intro h
      have := Rat.mul_le_mul_of_nonneg_left h (show (0 : Rat) ≤ (d : Rat) * (2 : Rat) ^ (max (-sc0 n d) 0) by grind)
      grind
  unfold sc1
  have e53 : (2 : Rat) ^ (53 : Int) = 2 ^ (52 : Int) * 2 := by rw [show (53 : Int) = 52 + 1 by omega, zp_add t0, Rat.zpow_one]
  have e54 : (2 : Rat) ^ (54 : Int) = 2 ^ (53 : Int) * 2 := by rw [show (54 : Int) = 53 + 1 by omega, zp_add t0, Rat.zpow_one]
  split
  · rename_i h
    rw [key] at h
    have em : (2 : Rat) ^ (sc0 n d) = (2 : Rat) ^ (sc0 n d - 1) * 2 := by
      have := zp_add t0 (sc0 n d - 1) 1
      rw [Rat.zpow_one, show sc0 n d - 1 + 1 = sc0 n d by omega] at this
      exact this
    rw [em] at h hi
    exact ⟨by grind, by rw [show (52 : Int) + 1 = 53 by omega]; grind⟩
  · rename_i h
    rw [key] at h
    exact ⟨lo, by rw [show (52 : Int) + 1 = 53 by omega]; grind⟩
end Mine
end
section
open PySem
set_option Elab.async false
set_option maxRecDepth 100000
set_option exponentiation.threshold 2500
namespace Mine

def nearW (n d : Int) : Int := rnd (n * 2 ^ (max (sc1 n d) 0).toNat) (d * 2 ^ (max (-sc1 n d) 0).toNat)
def nearN (n d : Int) : Int := nearW n d * 2 ^ (max (-sc1 n d) 0).toNat
def nearD (n d : Int) : Int := 2 ^ (max (sc1 n d) 0).toNat

theorem nearD_pos (n d : Int) : 0 < nearD n d := Int.pow_pos (by decide)

theorem near_fl {n d : Int} {x : Rat} (hn : 0 < n) (hd : 0 < d) (hx : x * d = n) : IsFl 2 52 x ((nearW n d : Rat) * (2 : Rat) ^ (-sc1 n d)) (sc1 n d) (nearW n d) := by
  have t0 : (0 : Rat) < 2 := by decide +kernel
  refine ⟨sc_ok hn hd hx, ?_, rfl⟩
  have pm : (0 : Int) < 2 ^ (max (-sc1 n d) 0).toNat := Int.pow_pos (by decide)
  refine rnd_isR (Int.mul_pos hd pm) ?_
  rw [Rat.intCast_mul, Rat.intCast_mul, zp2 _ (by omega), zp2 _ (by omega), zp2_max (sc1 n d), ← hx]
  have : (((2 : Int) : Rat)) = 2 := rfl
  rw [this]
  grind

theorem near_val {n d : Int} : ((nearW n d : Rat) * (2 : Rat) ^ (-sc1 n d)) * nearD n d = nearN n d := by
  have t0 : (0 : Rat) < 2 := by decide +kernel
  unfold nearN nearD
  rw [Rat.intCast_mul, zp2 _ (by omega), zp2 _ (by omega), zp2_max (sc1 n d)]
  have := zp_neg t0 (sc1 n d)
  grind

theorem near_w {n d : Int} (hn : 0 < n) (hd : 0 < d) : 2 ^ 52 ≤ nearW n d ∧ nearW n d ≤ 2 ^ 53 := by
  have d0 : ((d : Rat)) ≠ 0 := by have := castlt hd; have e : ((0 : Int) : Rat) = 0 := rfl; grind
  have h := near_fl (x := (n : Rat) / d) hn hd (Rat.div_mul_cancel d0)
  exact h.range

theorem sc_bounds {n d : Int} (hn : 0 < n) (hd : 0 < d) (bn : n < 2 ^ 600) (bd : d < 2 ^ 600) : -548 ≤ sc0 n d ∧ sc0 n d ≤ 652 ∧ -549 ≤ sc1 n d ∧ sc1 n d ≤ 652 := by
  obtain ⟨a, ea, a1, a2⟩ := bits_pos hn
  obtain ⟨b, eb, b1, b2⟩ := bits_pos hd
  have es : sc0 n d = 53 - a + b := by unfold sc0; rw [ea, eb]; omega
  have ha : a < 600 := of_pow_lt (by omega)
  have hb : b < 600 := of_pow_lt (by omega)
  have h1 : sc1 n d = sc0 n d ∨ sc1 n d = sc0 n d - 1 := by unfold sc1; split <;> simp
  omega

theorem natAbs_lt {z : Int} {k : Nat} (h : 0 ≤ z) (h2 : z < 2 ^ k) : z.natAbs < 2 ^ k := by
  have : ((z.natAbs : Nat) : Int) < ((2 ^ k : Nat) : Int) := by push_cast; omega
  exact_mod_cast this
theorem fit_pow {z : Int} {k : Nat} (h : 0 ≤ z) (h2 : z < 2 ^ k) (hk : k ≤ 1900) : fit z = true := fit_of (Nat.lt_of_lt_of_le (natAbs_lt h h2) (Nat.pow_le_pow_right (by decide) hk))
theorem mul_pow_lt {a : Int} {j k m : Nat} (h : a < 2 ^ j) (hk : j + k ≤ m) : a * 2 ^ k < 2 ^ m := by
  have p : (0 : Int) < 2 ^ k := Int.pow_pos (by decide)
  have h1 : a * 2 ^ k < 2 ^ j * 2 ^ k := Int.mul_lt_mul_of_pos_right h p
  rw [← Int.pow_add] at h1
  have := pow_le_pow hk
  omega

section
variable {fuel m : Nat} {st : Store}

set_option exponentiation.threshold 256 in
theorem sp_near {n d : Int} (hn : 0 < n) (hd : 0 < d) (bn : n < 2 ^ 600) (bd : d < 2 ^ 600) : callP fuel code (m + 2) 1 [.int n, .int d] st = some (.tup [.int (nearN n d), .int (nearD n d)], st) := by
  obtain ⟨s1, s2, s3, s4⟩ := sc_bounds hn hd bn bd
  obtain ⟨w1, w2⟩ := near_w hn hd
  have fn : fit n = true := fit_pow (Int.le_of_lt hn) bn (by decide)
  have fd : fit d = true := fit_pow (Int.le_of_lt hd) bd (by decide)
  have f1 : fit 1 = true := fit_small (by decide)
  have fw : fit (nearW n d) = true := fit_pow (k := 54) (by omega) (by omega) (by decide)
  have habs : ((n.natAbs : Nat) : Int) = n := by omega
  have hmin : min (53 - (Builtin.Int.intBits n : Int) + (Builtin.Int.intBits d : Int)) 1074 = sc0 n d := by
    have : sc0 n d = 53 - (Builtin.Int.intBits n : Nat) + (Builtin.Int.intBits d : Nat) := rfl
    omega
  have pd : (0 : Int) < 2 ^ (max (-sc1 n d) 0).toNat := Int.pow_pos (by decide)
  have hb : 0 < d * 2 ^ (max (-sc1 n d) 0).toNat := Int.mul_pos hd pd
  have fb : fit (d * 2 ^ (max (-sc1 n d) 0).toNat) = true := fit_pow (Int.le_of_lt hb) (mul_pow_lt (m := 1200) bd (by omega)) (by decide)
  have call : callP fuel code (m + 1) 0 [.int (n * 2 ^ (max (sc1 n d) 0).toNat), .int (d * 2 ^ (max (-sc1 n d) 0).toNat)] st = some (.int (nearW n d), st) := sp_rounded hb fb
  have hover : ¬ (2 ^ 1024 ≤ nearW n d * 2 ^ (max (-sc1 n d) 0).toNat) := by
    have := mul_pow_lt (a := nearW n d) (j := 54) (k := (max (-sc1 n d) 0).toNat) (m := 1024) (by omega) (by omega)
    exact Int.not_le.mpr this
  have wabs : (((nearW n d).natAbs : Nat) : Int) = nearW n d := by omega
  have r1 : (0 : Int) ≤ max (sc0 n d) 0 ∧ max (sc0 n d) 0 ≤ 20000 := by omega
  have r2 : (0 : Int) ≤ max (-sc0 n d) 0 + 53 ∧ max (-sc0 n d) 0 + 53 ≤ 20000 := by omega
  have r3 : (0 : Int) ≤ max (sc1 n d) 0 ∧ max (sc1 n d) 0 ≤ 20000 := by omega
  have r4 : (0 : Int) ≤ max (-sc1 n d) 0 ∧ max (-sc1 n d) 0 ≤ 20000 := by omega
  rw [call_eq (fd := ⟨2, 2, cnearest⟩) rfl rfl]
  unfold cnearest nearN nearD
  by_cases c : d * 2 ^ (max (-sc0 n d) 0 + 53).toNat ≤ n * 2 ^ (max (sc0 n d) 0).toNat
  · have e1 : sc1 n d = sc0 n d - 1 := by unfold sc1; rw [if_pos c]
    have e1' : sc0 n d - 1 = sc1 n d := e1.symm
    simp [finP, ex, ev, evs, biP, binP, binI, cmpP, cmpI, lk, upd, upds, truth, augOk, isNum, isiP, slim, beqD, bneD, methP, habs, hmin, fn, fd, f1, fw, fb, r1, r2, r3, r4, c, e1', call, wabs, hover]

  · have e1 : sc0 n d = sc1 n d := by unfold sc1; rw [if_neg c]
    rw [e1] at c r1 r2 hmin
    simp [finP, ex, ev, evs, biP, binP, binI, cmpP, cmpI, lk, upd, upds, truth, augOk, isNum, isiP, slim, beqD, bneD, methP, habs, hmin, fn, fd, f1, fw, fb, r1, r2, r3, r4, c, call, wabs, hover]

end
end Mine
end
section
open PySem
set_option Elab.async false
set_option maxRecDepth 100000
namespace Mine

theorem while_run {test : Rho → Store → Option (PVal × Store)} {body : Rho → Store → Option (Fl × Rho × Store)} (I : Nat → Rho → Store → Prop) (D : Rho → Store → Prop)
    (step : ∀ k r st, I k r st → ∃ v st1, test r st = some (v, st1) ∧ ((truth v = some false ∧ D r st1) ∨ (truth v = some true ∧ ∃ j r2 st2, j < k ∧ body r st1 = some (.next, r2, st2) ∧ I j r2 st2))) :
    ∀ (k : Nat) (r : Rho) (st : Store) (fuel : Nat), I k r st → k < fuel → ∃ r' st', whileP test body fuel r st = some (.next, r', st') ∧ D r' st' := by
  intro k
  induction k using Nat.strongRecOn with
  | ind k ih =>
    intro r st fuel h hf
    obtain ⟨fuel, rfl⟩ : ∃ m, fuel = m + 1 := ⟨fuel - 1, by omega⟩
    obtain ⟨v, st1, ht, h1⟩ := step k r st h
    rcases h1 with ⟨hv, hD⟩ | ⟨hv, j, r2, st2, hj, hb, hI⟩
    · refine ⟨r, st1, ?_, hD⟩
      unfold whileP
      rw [ht]
      simp only [hv]
    · obtain ⟨r', st', e, hD⟩ := ih j hj r2 st2 fuel hI (by omega)
      refine ⟨r', st', ?_, hD⟩
      unfold whileP
      rw [ht]
      simp only [hv, hb]
      exact e

theorem for_run {i : Nat} {body : Rho → Store → Option (Fl × Rho × Store)} (I : Nat → Rho → Store → Prop)
    (step : ∀ k r st, I k r st → ∃ r2 st2, body (upd r i (.int k)) st = some (.next, r2, st2) ∧ I (k + 1) r2 st2) :
    ∀ (n k : Nat) (r : Rho) (st : Store), I k r st → ∃ r' st', forP i body n k r st = some (.next, r', st') ∧ I (k + n) r' st' := by
  intro n
  induction n with
  | zero => intro k r st h; exact ⟨r, st, rfl, h⟩
  | succ n ih =>
    intro k r st h
    obtain ⟨r2, st2, hb, hI⟩ := step k r st h
    obtain ⟨r', st', e, hD⟩ := ih (k + 1) r2 st2 hI
    refine ⟨r', st', ?_, by rw [show k + (n + 1) = k + 1 + n by omega]; exact hD⟩
    unfold forP
    rw [hb]
    exact e
end Mine
end
section
open PySem
set_option Elab.async false
set_option maxRecDepth 100000
set_option exponentiation.threshold 2500
namespace Mine

def lnR (n d top low e : Int) : Rho := [some (.int n), some (.int d), some (.int 1), some (.int top), some (.int low), some (.int e), none, none]

section
variable {fuel m : Nat} {st : Store} {n d : Int} {cf : CF}

/-- the first loop and the second: low doubles while the ratio is too great -/
theorem ln_up (hn : 0 < n) (hd : 0 < d) (bn : n < 2 ^ 600) (bd : d < 2 ^ 600) (a b : Nat) (ha : 0 < a) (ha' : a ≤ 32) (hb : b ≤ 100) (ab : a ≤ b) (test : PE) (body : PS) (fuel' : Nat)
    (ht : test = .cmp .GtE (.loc 3) (.bin .LShift (.loc 4) (.lit (.int b)))) (hbody : body = .seq (.swp [4, 5] (.cons (.bin .LShift (.loc 4) (.lit (.int a))) (.cons (.bin .Add (.loc 5) (.lit (.int a))) .nil))) .skip) (j0 : Nat) (hj0 : j0 ≤ 600) (hf : 601 < fuel) :
    ∃ j : Nat, j ≤ 600 ∧ j0 ≤ j ∧ n < d * 2 ^ j * 2 ^ b ∧ whileP (ev cf test) (ex fuel' cf body) fuel (lnR n d n (d * 2 ^ j0) j0) st = some (.next, lnR n d n (d * 2 ^ j) j, st) := by
  subst ht; subst hbody
  have step : ∀ (k : Nat) (r : Rho) (s : Store), (∃ j : Nat, j + k = 600 ∧ j0 ≤ j ∧ r = lnR n d n (d * 2 ^ j) j ∧ s = st) →
      ∃ v st1, ev cf (.cmp .GtE (.loc 3) (.bin .LShift (.loc 4) (.lit (.int b)))) r s = some (v, st1) ∧ ((truth v = some false ∧ (∃ j : Nat, j ≤ 600 ∧ j0 ≤ j ∧ n < d * 2 ^ j * 2 ^ b ∧ r = lnR n d n (d * 2 ^ j) j ∧ st1 = st)) ∨
        (truth v = some true ∧ ∃ k' r2 st2, k' < k ∧ ex fuel' cf (.seq (.swp [4, 5] (.cons (.bin .LShift (.loc 4) (.lit (.int a))) (.cons (.bin .Add (.loc 5) (.lit (.int a))) .nil))) .skip) r st1 = some (.next, r2, st2) ∧ (∃ j : Nat, j + k' = 600 ∧ j0 ≤ j ∧ r2 = lnR n d n (d * 2 ^ j) j ∧ st2 = st))) := by
    intro k r s h
    obtain ⟨j, hj, hj', rfl, rfl⟩ := h
    have pj : (0 : Int) < 2 ^ j := Int.pow_pos (by decide)
    have hlow : 0 < d * 2 ^ j := Int.mul_pos hd pj
    have flow : fit (d * 2 ^ j) = true := fit_pow (Int.le_of_lt hlow) (mul_pow_lt (m := 1200) bd (by omega)) (by decide)
    have rb : (0 : Int) ≤ (b : Int) ∧ (b : Int) ≤ 20000 := by omega
    have ra : (0 : Int) ≤ (a : Int) ∧ (a : Int) ≤ 20000 := by omega
    by_cases c : d * 2 ^ j * 2 ^ b ≤ n
    · have hjb : j + b < 600 := by
        have h1 : (1 : Int) * (2 ^ j * 2 ^ b) ≤ d * (2 ^ j * 2 ^ b) := Int.mul_le_mul_of_nonneg_right (by omega) (Int.le_of_lt (Int.mul_pos pj (Int.pow_pos (by decide))))
        have h2 : d * (2 ^ j * 2 ^ b) = d * 2 ^ j * 2 ^ b := by grind
        have h3 : (2 : Int) ^ (j + b) = 2 ^ j * 2 ^ b := Int.pow_add 2 j b
        exact of_pow_lt (by omega)
      refine ⟨.bool true, s, ?_, .inr ⟨rfl, k - a, lnR n d n (d * 2 ^ (j + a)) ((j + a : Nat) : Int), s, by omega, ?_, j + a, by omega, by omega, rfl, rfl⟩⟩
      · unfold lnR
        simp [ev, binP, binI, cmpP, cmpI, lk, flow, rb, c]
      · unfold lnR
        have e1 : d * 2 ^ j * 2 ^ a = d * 2 ^ (j + a) := by rw [Int.pow_add]; grind
        simp [ex, ev, evs, binP, binI, lk, upd, upds, slim, flow, ra, e1]
    · refine ⟨.bool false, s, ?_, .inl ⟨rfl, j, by omega, hj', by omega, rfl, rfl⟩⟩
      unfold lnR
      simp [ev, binP, binI, cmpP, cmpI, lk, flow, rb, c]
  obtain ⟨r', st', e, j, h1, h2, h3, rfl, rfl⟩ := while_run (test := ev cf (.cmp .GtE (.loc 3) (.bin .LShift (.loc 4) (.lit (.int b))))) (body := ex fuel' cf (.seq (.swp [4, 5] (.cons (.bin .LShift (.loc 4) (.lit (.int a))) (.cons (.bin .Add (.loc 5) (.lit (.int a))) .nil))) .skip))
    (fun k r s => ∃ j : Nat, j + k = 600 ∧ j0 ≤ j ∧ r = lnR n d n (d * 2 ^ j) j ∧ s = st)
    (fun r s => ∃ j : Nat, j ≤ 600 ∧ j0 ≤ j ∧ n < d * 2 ^ j * 2 ^ b ∧ r = lnR n d n (d * 2 ^ j) j ∧ s = st) step (600 - j0) (lnR n d n (d * 2 ^ j0) j0) st fuel ⟨j0, by omega, Nat.le_refl _, rfl, rfl⟩ (by omega)
  exact ⟨j, h1, h2, h3, e⟩

/-- the third loop and the fourth: top doubles while the ratio is too small -/
theorem ln_down (hn : 0 < n) (hd : 0 < d) (bn : n < 2 ^ 600) (bd : d < 2 ^ 600) (a b l : Nat) (ha : 0 < a) (hab : a + b ≤ 53) (hl : 700 ≤ l) (E : Nat) (hE : E ≤ 600) (i0 : Nat) (hi0 : n * 2 ^ i0 < d * 2 ^ E * 2 ^ 53) (fuel' : Nat) (hf : 1500 < fuel) :
    ∃ i : Nat, i0 ≤ i ∧ n * 2 ^ i < d * 2 ^ E * 2 ^ 53 ∧ d * 2 ^ E * 2 ^ b ≤ n * 2 ^ i ∧ whileP (ev cf (.bop .And (.cmp .Lt (.loc 3) (.bin .LShift (.loc 4) (.lit (.int b)))) (.cmp .Gt (.loc 5) (.neg (.lit (.int l)))))) (ex fuel' cf (.seq (.swp [3, 5] (.cons (.bin .LShift (.loc 3) (.lit (.int a))) (.cons (.bin .Sub (.loc 5) (.lit (.int a))) .nil))) .skip)) fuel (lnR n d (n * 2 ^ i0) (d * 2 ^ E) ((E : Int) - i0)) st = some (.next, lnR n d (n * 2 ^ i) (d * 2 ^ E) ((E : Int) - i), st) := by
  have pE : (0 : Int) < 2 ^ E := Int.pow_pos (by decide)
  have hlow : 0 < d * 2 ^ E := Int.mul_pos hd pE
  have blow : d * 2 ^ E < 2 ^ 1200 := mul_pow_lt (m := 1200) bd (by omega)
  have flow : fit (d * 2 ^ E) = true := fit_pow (Int.le_of_lt hlow) blow (by decide)
  have bi : ∀ i : Nat, n * 2 ^ i < d * 2 ^ E * 2 ^ 53 → i < 653 + E := fun i h => by
    have pi : (0 : Int) < 2 ^ i := Int.pow_pos (by decide)
    have h1 : (1 : Int) * 2 ^ i ≤ n * 2 ^ i := Int.mul_le_mul_of_nonneg_right (by omega) (Int.le_of_lt pi)
    have h2 := mul_pow_lt (a := d * 2 ^ E) (j := 600 + E) (k := 53) (m := 653 + E) (mul_pow_lt bd (Nat.le_refl _)) (by omega)
    exact of_pow_lt (by omega)
  have step : ∀ (k : Nat) (r : Rho) (s : Store), (∃ i : Nat, i + k = 1400 ∧ i0 ≤ i ∧ n * 2 ^ i < d * 2 ^ E * 2 ^ 53 ∧ r = lnR n d (n * 2 ^ i) (d * 2 ^ E) ((E : Int) - i) ∧ s = st) →
      ∃ v st1, ev cf (.bop .And (.cmp .Lt (.loc 3) (.bin .LShift (.loc 4) (.lit (.int b)))) (.cmp .Gt (.loc 5) (.neg (.lit (.int l))))) r s = some (v, st1) ∧ ((truth v = some false ∧ (∃ i : Nat, i0 ≤ i ∧ n * 2 ^ i < d * 2 ^ E * 2 ^ 53 ∧ d * 2 ^ E * 2 ^ b ≤ n * 2 ^ i ∧ r = lnR n d (n * 2 ^ i) (d * 2 ^ E) ((E : Int) - i) ∧ st1 = st)) ∨
        (truth v = some true ∧ ∃ k' r2 st2, k' < k ∧ ex fuel' cf (.seq (.swp [3, 5] (.cons (.bin .LShift (.loc 3) (.lit (.int a))) (.cons (.bin .Sub (.loc 5) (.lit (.int a))) .nil))) .skip) r st1 = some (.next, r2, st2) ∧ (∃ i : Nat, i + k' = 1400 ∧ i0 ≤ i ∧ n * 2 ^ i < d * 2 ^ E * 2 ^ 53 ∧ r2 = lnR n d (n * 2 ^ i) (d * 2 ^ E) ((E : Int) - i) ∧ st2 = st))) := by
    intro k r s h
    obtain ⟨i, hi, hi', hlt, rfl, rfl⟩ := h
    have pi : (0 : Int) < 2 ^ i := Int.pow_pos (by decide)
    have htop : 0 < n * 2 ^ i := Int.mul_pos hn pi
    have h53 := mul_pow_lt (a := d * 2 ^ E) (j := 1200) (k := 53) (m := 1300) blow (by omega)
    have ftop : fit (n * 2 ^ i) = true := fit_pow (k := 1300) (Int.le_of_lt htop) (by omega) (by decide)
    have ib := bi i hlt
    have rb : (0 : Int) ≤ (b : Int) ∧ (b : Int) ≤ 20000 := by omega
    have ra : (0 : Int) ≤ (a : Int) ∧ (a : Int) ≤ 20000 := by omega
    have ge : -(l : Int) < (E : Int) - i := by omega
    by_cases c : n * 2 ^ i < d * 2 ^ E * 2 ^ b
    · have e1 : n * 2 ^ i * 2 ^ a = n * 2 ^ (i + a) := by rw [Int.pow_add]; grind
      have e2 : (E : Int) - i - a = (E : Int) - ((i + a : Nat) : Int) := by push_cast; omega
      refine ⟨.bool true, s, ?_, .inr ⟨rfl, k - a, lnR n d (n * 2 ^ (i + a)) (d * 2 ^ E) ((E : Int) - ((i + a : Nat) : Int)), s, by omega, ?_, i + a, by omega, by omega, ?_, rfl, rfl⟩⟩
      · unfold lnR
        simp [ev, binP, binI, cmpP, cmpI, lk, truth, flow, rb, c, ge]
      · unfold lnR
        rw [← e2]
        simp [ex, ev, evs, binP, binI, lk, upd, upds, slim, ftop, ra, e1]
      · rw [← e1]
        have pa : (0 : Int) < 2 ^ a := Int.pow_pos (by decide)
        have h1 := Int.mul_lt_mul_of_pos_right c pa
        have h2 : d * 2 ^ E * 2 ^ b * 2 ^ a = d * 2 ^ E * 2 ^ (b + a) := by rw [Int.pow_add]; grind
        have h3 := Int.mul_le_mul_of_nonneg_left (pow_le_pow (show b + a ≤ 53 by omega)) (Int.le_of_lt hlow)
        omega
    · refine ⟨.bool false, s, ?_, .inl ⟨rfl, i, hi', hlt, by omega, rfl, rfl⟩⟩
      unfold lnR
      simp [ev, binP, binI, cmpP, cmpI, lk, truth, flow, rb, c]
  have hi := bi i0 hi0
  obtain ⟨r', st', e, i, h1, h2, h3, rfl, rfl⟩ := while_run (test := ev cf (.bop .And (.cmp .Lt (.loc 3) (.bin .LShift (.loc 4) (.lit (.int b)))) (.cmp .Gt (.loc 5) (.neg (.lit (.int l)))))) (body := ex fuel' cf (.seq (.swp [3, 5] (.cons (.bin .LShift (.loc 3) (.lit (.int a))) (.cons (.bin .Sub (.loc 5) (.lit (.int a))) .nil))) .skip))
    (fun k r s => ∃ i : Nat, i + k = 1400 ∧ i0 ≤ i ∧ n * 2 ^ i < d * 2 ^ E * 2 ^ 53 ∧ r = lnR n d (n * 2 ^ i) (d * 2 ^ E) ((E : Int) - i) ∧ s = st)
    (fun r s => ∃ i : Nat, i0 ≤ i ∧ n * 2 ^ i < d * 2 ^ E * 2 ^ 53 ∧ d * 2 ^ E * 2 ^ b ≤ n * 2 ^ i ∧ r = lnR n d (n * 2 ^ i) (d * 2 ^ E) ((E : Int) - i) ∧ s = st) step (1400 - i0) _ st fuel ⟨i0, by omega, Nat.le_refl _, hi0, rfl, rfl⟩ (by omega)
  exact ⟨i, h1, h2, h3, e⟩
end
end Mine
end
section
open PySem
set_option Elab.async false
set_option maxRecDepth 100000
set_option exponentiation.threshold 2500
namespace Mine

section
variable {fuel m : Nat} {st : Store}

theorem sc_of {n d : Int} (hn : 0 < n) (hd : 0 < d) {i E : Nat} (h1 : d * 2 ^ E * 2 ^ 52 ≤ n * 2 ^ i) (h2 : n * 2 ^ i < d * 2 ^ E * 2 ^ 53) : sc1 n d = (i : Int) - E := by
  have t0 : (0 : Rat) < 2 := by decide +kernel
  have d0 : (0 : Rat) < (d : Rat) := castlt hd
  have hx : ((n : Rat) / d) * d = n := Rat.div_mul_cancel (by grind)
  generalize (n : Rat) / d = x at hx
  refine (sc_ok hn hd hx).unique (by decide +kernel) ⟨?_, ?_⟩
  · have c := castle h1
    simp only [Rat.intCast_mul, zp_nat] at c
    have t2 : ((2 : Int) : Rat) = 2 := rfl
    rw [t2, ← hx] at c
    have pE := zp_pos t0 (E : Int)
    refine Rat.le_of_mul_le_mul_left (c := (d : Rat) * (2 : Rat) ^ (E : Int)) ?_ (Rat.mul_pos d0 pE)
    have e : (2 : Rat) ^ (i : Int) = (2 : Rat) ^ ((i : Int) - E) * (2 : Rat) ^ (E : Int) := by rw [← zp_add t0]; congr 1; omega
    rw [e] at c
    have e52 : (2 : Rat) ^ ((52 : Nat) : Int) = (2 : Rat) ^ (52 : Int) := rfl
    rw [e52] at c
    grind
  · have c := castlt h2
    simp only [Rat.intCast_mul, zp_nat] at c
    have t2 : ((2 : Int) : Rat) = 2 := rfl
    rw [t2, ← hx] at c
    have pE := zp_pos t0 (E : Int)
    have pp := Rat.mul_pos d0 pE
    refine Rat.lt_of_mul_lt_mul_left (c := (d : Rat) * (2 : Rat) ^ (E : Int)) ?_ (by grind)
    have e : (2 : Rat) ^ (i : Int) = (2 : Rat) ^ ((i : Int) - E) * (2 : Rat) ^ (E : Int) := by rw [← zp_add t0]; congr 1; omega
    rw [e] at c
    have e53 : (2 : Rat) ^ ((53 : Nat) : Int) = (2 : Rat) ^ ((52 : Int) + 1) := by rfl
    rw [e53] at c
    grind

theorem ex_whl {cf : CF} {c : PE} {b : PS} {r : Rho} {s : Store} : whileP (ev cf c) (ex fuel cf b) fuel r s = ex fuel cf (.whl c b) r s := by rw [ex]

set_option maxHeartbeats 1000000 in
theorem sp_lawnear {n d : Int} (hn : 0 < n) (hd : 0 < d) (bn : n < 2 ^ 600) (bd : d < 2 ^ 600) (hf : 1500 < fuel) : callP fuel code (m + 1) 34 [.int n, .int d] st = some (.tup [.int (nearN n d), .int (nearD n d)], st) := by
  obtain ⟨j1, a1, a2, a3, e1⟩ := ln_up (cf := callP fuel code m) (st := st) hn hd bn bd 32 85 (by decide) (by decide) (by decide) (by decide) _ _ fuel rfl rfl 0 (by decide) (fuel := fuel) (by omega)
  obtain ⟨E, b1, b2, b3, e2⟩ := ln_up (cf := callP fuel code m) (st := st) hn hd bn bd 1 53 (by decide) (by decide) (by decide) (by decide) _ _ fuel rfl rfl j1 a1 (fuel := fuel) (by omega)
  obtain ⟨i1, c1, c2, c3, e3⟩ := ln_down (cf := callP fuel code m) (st := st) hn hd bn bd 32 20 1042 (by decide) (by decide) (by decide) E b1 0 (by simpa using b3) fuel (fuel := fuel) hf
  obtain ⟨i, d1, d2, d3, e4⟩ := ln_down (cf := callP fuel code m) (st := st) hn hd bn bd 1 52 1074 (by decide) (by decide) (by decide) E b1 i1 c2 fuel (fuel := fuel) hf
  have hs := sc_of hn hd d3 d2
  have pE : (0 : Int) < 2 ^ E := Int.pow_pos (by decide)
  have hlow : 0 < d * 2 ^ E := Int.mul_pos hd pE
  have blow : d * 2 ^ E < 2 ^ 1200 := mul_pow_lt (m := 1200) bd (by omega)
  have flow : fit (d * 2 ^ E) = true := fit_pow (Int.le_of_lt hlow) blow (by decide)
  have hw : nearW n d = rnd (n * 2 ^ i) (d * 2 ^ E) := by
    unfold nearW
    refine rnd_same (Int.mul_pos hd (Int.pow_pos (by decide))) hlow ?_
    have e : (2 : Int) ^ (max (sc1 n d) 0).toNat * 2 ^ E = 2 ^ i * 2 ^ (max (-sc1 n d) 0).toNat := by
      rw [← Int.pow_add, ← Int.pow_add]; congr 1; omega
    grind
  obtain ⟨w1, w2⟩ := near_w hn hd
  obtain ⟨s1, s2, s3, s4⟩ := sc_bounds hn hd bn bd
  have fw : fit (nearW n d) = true := fit_pow (k := 54) (by omega) (by omega) (by decide)
  have f1 : fit 1 = true := fit_small (by decide)
  have f2 : fit 2 = true := fit_small (by decide)
  obtain ⟨q1, q2, q3⟩ := fdm (n := n * 2 ^ i) hlow
  have fr : fit ((n * 2 ^ i).fmod (d * 2 ^ E)) = true := fit_le flow (by omega)
  have hl0 : d * 2 ^ E ≠ 0 := by omega
  have habs : ((n.natAbs : Nat) : Int) = n := by omega
  have hn0 : n ≠ 0 := by omega
  have hnn : ¬ n < 0 := by omega
  have z0 : d * 2 ^ 0 = d := by simp
  have z1 : n * 2 ^ 0 = n := by simp
  rw [z0] at e1
  rw [z1] at e3
  unfold lnR at e1 e2 e3 e4
  rw [ex_whl] at e1 e2 e3 e4
  rw [show ((0 : Nat) : Int) = 0 from rfl] at e1
  rw [show (E : Int) - ((0 : Nat) : Int) = (E : Int) by omega] at e3
  rw [call_eq (fd := ⟨2, 6, c_law_near⟩) rfl rfl]
  unfold c_law_near
  generalize PS.whl (.cmp .GtE (.loc 3) (.bin .LShift (.loc 4) (.lit (.int 85)))) _ = W1 at e1 ⊢
  generalize PS.whl (.cmp .GtE (.loc 3) (.bin .LShift (.loc 4) (.lit (.int 53)))) _ = W2 at e2 ⊢
  generalize PS.whl (.bop .And (.cmp .Lt (.loc 3) (.bin .LShift (.loc 4) (.lit (.int 20)))) _) _ = W3 at e3 ⊢
  generalize PS.whl (.bop .And (.cmp .Lt (.loc 3) (.bin .LShift (.loc 4) (.lit (.int 52)))) _) _ = W4 at e4 ⊢
  have hif : (if d * 2 ^ E < 2 * (n * 2 ^ i).fmod (d * 2 ^ E) ∨ (2 * (n * 2 ^ i).fmod (d * 2 ^ E) = d * 2 ^ E ∧ ((n * 2 ^ i).fdiv (d * 2 ^ E)).fmod 2 = 1) then (n * 2 ^ i).fdiv (d * 2 ^ E) + 1 else (n * 2 ^ i).fdiv (d * 2 ^ E)) = nearW n d := by rw [hw]; rfl
  have fin : ∀ (c1 : Bool), ex fuel (callP fuel code m) (.seq (.ret (.ite (.cmp .GtE (.loc 5) (.lit (.int 0))) (.tup (.cons (.bin .LShift (.bin .Mult (.loc 2) (.loc 6)) (.loc 5)) (.cons (.lit (.int 1)) (.nil)))) (.tup (.cons (.bin .Mult (.loc 2) (.loc 6)) (.cons (.bin .LShift (.lit (.int 1)) (.bin .Sub (.lit (.int 0)) (.loc 5))) (.nil)))))) .skip)
      [some (.int n), some (.int d), some (.int 1), some (.int (n * 2 ^ i)), some (.int (d * 2 ^ E)), some (.int ((E : Int) - i)), some (.int (nearW n d)), some (.int ((n * 2 ^ i).fmod (d * 2 ^ E)))] st = some (.ret (.tup [.int (nearN n d), .int (nearD n d)]), [some (.int n), some (.int d), some (.int 1), some (.int (n * 2 ^ i)), some (.int (d * 2 ^ E)), some (.int ((E : Int) - i)), some (.int (nearW n d)), some (.int ((n * 2 ^ i).fmod (d * 2 ^ E)))], st) := by
    intro _
    by_cases g0 : i ≤ E
    · have pN : nearN n d = nearW n d * 2 ^ (E - i) := by unfold nearN; rw [show (max (-sc1 n d) 0).toNat = E - i by omega]
      have pD : nearD n d = 1 := by unfold nearD; rw [show (max (sc1 n d) 0).toNat = 0 by omega]; rfl
      have rb : (E : Int) - i ≤ 20000 := by omega
      have et : ((E : Int) - i).toNat = E - i := by omega
      rw [pN, pD]
      simp [ex, ev, evs, binP, binI, cmpP, cmpI, lk, truth, slim, f1, fw, rb, g0, et]
    · have pN : nearN n d = nearW n d := by unfold nearN; rw [show (max (-sc1 n d) 0).toNat = 0 by omega]; simp
      have pD : nearD n d = 2 ^ (-((E : Int) - i)).toNat := by unfold nearD; rw [show (max (sc1 n d) 0).toNat = (-((E : Int) - i)).toNat by omega]
      have rb : (E : Int) - i ≤ 0 ∧ -((E : Int) - i) ≤ 20000 := by omega
      rw [pN, pD]
      simp [ex, ev, evs, binP, binI, cmpP, cmpI, lk, truth, slim, f1, fw, rb, g0]
  generalize hL : PS.seq (.ret (.ite (.cmp .GtE (.loc 5) (.lit (.int 0))) _ _)) .skip = WL at fin ⊢
  have fin' := fin true
  by_cases g1 : d * 2 ^ E < 2 * (n * 2 ^ i).fmod (d * 2 ^ E)
  · rw [if_pos (.inl g1)] at hif
    simp [finP, ex, ev, evs, biP, binP, binI, cmpP, cmpI, lk, upd, upds, truth, slim, beqD, bneD, habs, hn0, hnn, e1, e2, e3, e4, flow, fr, f1, f2, hl0, g1, hif, fin']
  · by_cases g2 : 2 * (n * 2 ^ i).fmod (d * 2 ^ E) = d * 2 ^ E
    · by_cases g3 : ((n * 2 ^ i).fdiv (d * 2 ^ E)).fmod 2 = 1
      · rw [if_pos (.inr ⟨g2, g3⟩)] at hif
        simp [finP, ex, ev, evs, biP, binP, binI, cmpP, cmpI, lk, upd, upds, truth, slim, beqD, bneD, habs, hn0, hnn, e1, e2, e3, e4, flow, fr, f1, f2, hl0, g1, g2, g3, hif, fin']
      · rw [if_neg (by simp [g1, g3])] at hif
        have g4 := g3
        rw [hif] at g4
        simp [finP, ex, ev, evs, biP, binP, binI, cmpP, cmpI, lk, upd, upds, truth, slim, beqD, bneD, habs, hn0, hnn, e1, e2, e3, e4, flow, fr, f1, f2, hl0, g1, g2, g3, g4, hif, fin']
    · rw [if_neg (by simp [g1, g2])] at hif
      simp [finP, ex, ev, evs, biP, binP, binI, cmpP, cmpI, lk, upd, upds, truth, slim, beqD, bneD, habs, hn0, hnn, e1, e2, e3, e4, flow, fr, f1, f2, hl0, g1, g2, hif, fin']
end
end Mine
end
section
open PySem
set_option Elab.async false
set_option maxRecDepth 100000
set_option exponentiation.threshold 2500
namespace Mine

/-- a double above nought, by its value -/
def DV (v : PVal) (t : Rat) : Prop := ∃ N D : Int, v = .dbl N D ∧ 0 < N ∧ 0 < D ∧ N < 2 ^ 600 ∧ D < 2 ^ 600 ∧ t * D = N

section
variable {fuel m : Nat} {st : Store}

theorem sp_parts {N D : Int} : callP fuel code (m + 1) 2 [.dbl N D] st = some (.tup [.int N, .int D], st) := by
  rw [call_eq (fd := ⟨1, 0, cparts⟩) rfl rfl]
  unfold cparts
  simp [finP, ex, ev, evs, lk, isiP, truth, slim]
theorem sp_parts_int {N : Int} : callP fuel code (m + 1) 2 [.int N] st = some (.tup [.int N, .int 1], st) := by
  rw [call_eq (fd := ⟨1, 0, cparts⟩) rfl rfl]
  unfold cparts
  simp [finP, ex, ev, evs, lk, isiP, truth, slim]
theorem sp_finite {N D : Int} (hD : 0 < D) : callP fuel code (m + 2) 14 [.dbl N D] st = some (.bool true, st) := by
  rw [call_eq (fd := ⟨1, 0, cisfinite⟩) rfl rfl]
  unfold cisfinite
  have h : D ≠ 0 := by omega
  simp [finP, ex, ev, evs, lk, sp_parts, itemP, itemL, cmpP, cmpI, bneD, h]
theorem sp_double {N D : Int} : callP fuel code (m + 1) 13 [.dbl N D] st = some (.dbl N D, st) := by
  rw [call_eq (fd := ⟨1, 0, cdouble⟩) rfl rfl]
  unfold cdouble
  simp [finP, ex, ev, evs, lk, isiP, truth, slim]

theorem sp_int {N D : Int} (hN : 0 ≤ N) (hD : D ≠ 0) (fD : fit D = true) : callP fuel code (m + 1) 5 [.dbl N D] st = some (.int (N.fdiv D), st) := by
  rw [call_eq (fd := ⟨1, 0, c__int__⟩) rfl rfl]
  unfold c__int__
  simp [finP, ex, ev, lk, truth, cmpP, cmpI, binP, binI, hN, hD, fD]
theorem sp_lt {N D n d : Int} {o : PVal} (hp : callP fuel code (m + 1) 2 [o] st = some (.tup [.int n, .int d], st)) (f1 : fit N = true) (f2 : fit D = true) (f3 : fit n = true) (f4 : fit d = true) : callP fuel code (m + 2) 7 [.dbl N D, o] st = some (.bool (decide (N * d < n * D)), st) := by
  rw [call_eq (fd := ⟨2, 2, c__lt__⟩) rfl rfl]
  unfold c__lt__
  simp [finP, ex, ev, evs, lk, upd, upds, cmpP, cmpI, binP, binI, hp, f1, f2, f3, f4]
theorem sp_gt {N D n d : Int} {o : PVal} (hp : callP fuel code (m + 1) 2 [o] st = some (.tup [.int n, .int d], st)) (f1 : fit N = true) (f2 : fit D = true) (f3 : fit n = true) (f4 : fit d = true) : callP fuel code (m + 2) 8 [.dbl N D, o] st = some (.bool (decide (n * D < N * d)), st) := by
  rw [call_eq (fd := ⟨2, 2, c__gt__⟩) rfl rfl]
  unfold c__gt__
  simp [finP, ex, ev, evs, lk, upd, upds, cmpP, cmpI, binP, binI, hp, f1, f2, f3, f4]
theorem sp_ge {N D n d : Int} {o : PVal} (hp : callP fuel code (m + 1) 2 [o] st = some (.tup [.int n, .int d], st)) (f1 : fit N = true) (f2 : fit D = true) (f3 : fit n = true) (f4 : fit d = true) : callP fuel code (m + 2) 9 [.dbl N D, o] st = some (.bool (decide (n * D ≤ N * d)), st) := by
  rw [call_eq (fd := ⟨2, 2, c__ge__⟩) rfl rfl]
  unfold c__ge__
  simp [finP, ex, ev, evs, lk, upd, upds, cmpP, cmpI, binP, binI, hp, f1, f2, f3, f4]
theorem sp_eq {N D n d : Int} {o : PVal} (hp : callP fuel code (m + 1) 2 [o] st = some (.tup [.int n, .int d], st)) (f1 : fit N = true) (f2 : fit D = true) (f3 : fit n = true) (f4 : fit d = true) : callP fuel code (m + 2) 6 [.dbl N D, o] st = some (.bool (decide (N * d = n * D)), st) := by
  rw [call_eq (fd := ⟨2, 2, c__eq__⟩) rfl rfl]
  unfold c__eq__
  simp [finP, ex, ev, evs, lk, upd, upds, cmpP, cmpI, binP, binI, beqD, hp, f1, f2, f3, f4]
end
end Mine
end
section
open PySem
set_option Elab.async false
set_option maxRecDepth 100000
set_option exponentiation.threshold 2500
namespace Mine

section
variable {fuel m : Nat} {st : Store}

theorem sp_size {N D : Int} (hN : 0 < N) (hD : 0 < D) (bN : N < 2 ^ 600) (bD : D < 2 ^ 600) : callP fuel code (m + 3) 4 [.dbl N D] st = some (.dbl (nearN N D) (nearD N D), st) := by
  rw [call_eq (fd := ⟨1, 0, csize⟩) rfl rfl]
  unfold csize
  have h : N ≠ 0 := by omega
  have h2 : D ≠ 0 := by omega
  have ha : ((N.natAbs : Nat) : Int) = N := by omega
  simp [finP, ex, ev, evs, lk, biP, ha, h, h2, fNear, sp_near hN hD bN bD]

theorem sp_quot {a b : Int} (ha : 0 < a) (hb : 0 < b) (ba : a < 2 ^ 600) (bb : b < 2 ^ 600) : callP fuel code (m + 3) 12 [.int a, .int b] st = some (.dbl (nearN a b) (nearD a b), st) := by
  rw [call_eq (fd := ⟨2, 0, cquotient⟩) rfl rfl]
  unfold cquotient
  have h : a ≠ 0 := by omega
  have h2 : b ≠ 0 := by omega
  simp [finP, ex, ev, evs, lk, isiP, truth, h, h2, fNear, sp_near ha hb ba bb]

theorem sp_double_int {a : Int} (ha : 0 < a) (ba : a < 2 ^ 600) : callP fuel code (m + 3) 13 [.int a] st = some (.dbl (nearN a 1) (nearD a 1), st) := by
  rw [call_eq (fd := ⟨1, 0, cdouble⟩) rfl rfl]
  unfold cdouble
  have h : a ≠ 0 := by omega
  simp [finP, ex, ev, evs, lk, isiP, truth, h, fNear, sp_near ha (show (0 : Int) < 1 by decide) ba (by decide)]

theorem sp_truediv {N D n d : Int} {o : PVal} (hd : callP fuel code (m + 2) 13 [o] st = some (.dbl n d, st)) (f1 : fit N = true) (f2 : fit D = true) (f3 : fit n = true) (f4 : fit d = true)
    (h1 : 0 < N * d) (h2 : 0 < D * n) (b1 : N * d < 2 ^ 600) (b2 : D * n < 2 ^ 600) : callP fuel code (m + 3) 11 [.dbl N D, o] st = some (.dbl (nearN (N * d) (D * n)) (nearD (N * d) (D * n)), st) := by
  rw [call_eq (fd := ⟨2, 2, c__truediv__⟩) rfl rfl]
  unfold c__truediv__
  have a1 : N * d ≠ 0 := by omega
  have a2 : D * n ≠ 0 := by omega
  have hs := sp_near (fuel := fuel) (m := m) (st := st) h1 h2 b1 b2
  have hp : callP fuel code (m + 2) 2 [.dbl n d] st = some (.tup [.int n, .int d], st) := sp_parts
  simp [finP, ex, ev, evs, lk, upd, upds, binP, binI, hd, hp, f1, f2, f3, f4, a1, a2, fNear, hs]

theorem sp_sub {N D n d : Int} {o : PVal} (hd : callP fuel code (m + 2) 13 [o] st = some (.dbl n d, st)) (f1 : fit N = true) (f2 : fit D = true) (f3 : fit n = true) (f4 : fit d = true)
    (h1 : 0 < N * d - n * D) (h2 : 0 < D * d) (b1 : N * d - n * D < 2 ^ 600) (b2 : D * d < 2 ^ 600) : callP fuel code (m + 3) 10 [.dbl N D, o] st = some (.dbl (nearN (N * d - n * D) (D * d)) (nearD (N * d - n * D) (D * d)), st) := by
  rw [call_eq (fd := ⟨2, 2, c__sub__⟩) rfl rfl]
  unfold c__sub__
  have hs := sp_near (fuel := fuel) (m := m) (st := st) h1 h2 b1 b2
  have hp : callP fuel code (m + 2) 2 [.dbl n d] st = some (.tup [.int n, .int d], st) := sp_parts
  have c1 : N * d - n * D ≠ 0 := by omega
  have c5 : D * d ≠ 0 := by omega
  simp [finP, ex, ev, evs, lk, upd, upds, binP, binI, hd, hp, f1, f2, f3, f4, c1, c5, fNear, hs]
end
end Mine
end
section
open PySem
set_option Elab.async false
set_option maxRecDepth 100000
set_option exponentiation.threshold 2500
namespace Mine

theorem pow10_le {a b : Nat} (h : a ≤ b) : (10 : Int) ^ a ≤ 10 ^ b := by
  have := Nat.pow_le_pow_right (n := 10) (by decide) h
  exact_mod_cast this
theorem two_le_ten (a : Nat) : (2 : Int) ^ a ≤ 10 ^ a := by
  have := Nat.pow_le_pow_left (show 2 ≤ 10 by decide) a
  exact_mod_cast this
theorem pow10_pos (a : Nat) : (0 : Int) < 10 ^ a := Int.pow_pos (by decide)
theorem pow10_lt2 {a : Nat} : (10 : Int) ^ a < 2 ^ (4 * a + 1) := by
  have h : (10 : Nat) ^ a ≤ 16 ^ a := Nat.pow_le_pow_left (by decide) a
  have h2 : (16 : Nat) ^ a = 2 ^ (4 * a) := by rw [Nat.pow_mul]
  have h3 : (2 : Nat) ^ (4 * a) < 2 ^ (4 * a + 1) := Nat.pow_lt_pow_right (by decide) (by omega)
  have : (10 : Nat) ^ a < 2 ^ (4 * a + 1) := by omega
  exact_mod_cast this
theorem fit10 {a : Nat} (h : a ≤ 470) : fit ((10 : Int) ^ a) = true := fit_pow (Int.le_of_lt (pow10_pos a)) pow10_lt2 (by omega)
theorem zp10 (k : Nat) : (((10 : Int) ^ k : Int) : Rat) = (10 : Rat) ^ (k : Int) := zp_nat 10 k

def wlR (N D k : Int) : Rho := [some (.dbl N D), some (.int 10), some (.int N), some (.int D), some (.int k)]

section
variable {fuel m : Nat} {st : Store} {N D : Int} {cf : CF}

theorem fit10' : fit 10 = true := fit_small (by decide)

def wlT1 : PE := .bop .And (.cmp .Lt (.loc 4) (.lit (.int 309))) (.cmp .GtE (.loc 2) (.bin .Mult (.loc 3) (.bin .Pow (.loc 1) (.bin .Add (.loc 4) (.lit (.int 1))))))
def wlB1 : PS := .seq (.aug 4 .Add (.lit (.int 1))) .skip
def wlT2 : PE := .bop .And (.cmp .LtE (.loc 4) (.lit (.int 0))) (.cmp .Lt (.bin .Mult (.loc 2) (.bin .Pow (.loc 1) (.neg (.loc 4)))) (.loc 3))
def wlB2 : PS := .seq (.aug 4 .Sub (.lit (.int 1))) .skip

theorem wl_up (hN : 0 < N) (hD : 0 < D) (bN : N < 2 ^ 600) (bD : D < 2 ^ 600) (fuel' : Nat) (hf : 700 < fuel) :
    ∃ k : Nat, k < 200 ∧ N < D * 10 ^ (k + 1) ∧ (k = 0 ∨ D * 10 ^ k ≤ N) ∧ whileP (ev cf wlT1) (ex fuel' cf wlB1) fuel (wlR N D 0) st = some (.next, wlR N D k, st) := by
  have fD : fit D = true := fit_pow (Int.le_of_lt hD) bD (by decide)
  have bk : ∀ k : Nat, D * 10 ^ k ≤ N → k < 200 := fun k h => by
    apply Decidable.byContradiction
    intro hk
    have h1 := pow10_le (show 200 ≤ k by omega)
    have h2 : (1 : Int) * 10 ^ k ≤ D * 10 ^ k := Int.mul_le_mul_of_nonneg_right (by omega) (Int.le_of_lt (pow10_pos k))
    have h3 : (2 : Int) ^ 600 < 10 ^ 200 := by decide +kernel
    omega
  have step : ∀ (c : Nat) (r : Rho) (s : Store), (∃ k : Nat, k + c = 600 ∧ (k = 0 ∨ D * 10 ^ k ≤ N) ∧ r = wlR N D k ∧ s = st) →
      ∃ v st1, ev cf wlT1 r s = some (v, st1) ∧ ((truth v = some false ∧ (∃ k : Nat, N < D * 10 ^ (k + 1) ∧ (k = 0 ∨ D * 10 ^ k ≤ N) ∧ r = wlR N D k ∧ st1 = st)) ∨
        (truth v = some true ∧ ∃ c' r2 st2, c' < c ∧ ex fuel' cf wlB1 r st1 = some (.next, r2, st2) ∧ (∃ k : Nat, k + c' = 600 ∧ (k = 0 ∨ D * 10 ^ k ≤ N) ∧ r2 = wlR N D k ∧ st2 = st))) := by
    intro c r s h
    obtain ⟨k, h1, h2, rfl, rfl⟩ := h
    have hk : k < 200 := by
      rcases h2 with rfl | h2
      · decide
      · exact bk k h2
    have et : ((k : Int) + 1).toNat = k + 1 := by omega
    have g0 : (k : Int) < 309 := by omega
    have g1 : 0 ≤ (k : Int) + 1 ∧ (k : Int) + 1 ≤ 2000 := by omega
    have f10 := fit10'
    have fp := fit10 (a := k + 1) (by omega)
    by_cases cc : D * 10 ^ (k + 1) ≤ N
    · refine ⟨.bool true, s, ?_, .inr ⟨rfl, c - 1, wlR N D ((k + 1 : Nat) : Int), s, by omega, ?_, k + 1, by omega, .inr cc, rfl, rfl⟩⟩
      · unfold wlR wlT1
        simp [ev, binP, binI, cmpP, cmpI, lk, truth, fD, fp, f10, g0, g1, et, cc]
      · unfold wlR wlB1
        simp [ex, ev, binP, binI, lk, upd, augOk]
    · refine ⟨.bool false, s, ?_, .inl ⟨rfl, k, by omega, h2, rfl, rfl⟩⟩
      unfold wlR wlT1
      simp [ev, binP, binI, cmpP, cmpI, lk, truth, fD, fp, f10, g0, g1, et, cc]
  obtain ⟨r', st', e, k, h1, h2, rfl, rfl⟩ := while_run (test := ev cf wlT1) (body := ex fuel' cf wlB1)
    (fun c r s => ∃ k : Nat, k + c = 600 ∧ (k = 0 ∨ D * 10 ^ k ≤ N) ∧ r = wlR N D k ∧ s = st)
    (fun r s => ∃ k : Nat, N < D * 10 ^ (k + 1) ∧ (k = 0 ∨ D * 10 ^ k ≤ N) ∧ r = wlR N D k ∧ s = st) step 600 (wlR N D 0) st fuel ⟨0, by omega, .inl rfl, rfl, rfl⟩ (by omega)
  refine ⟨k, ?_, h1, h2, e⟩
  rcases h2 with rfl | h2
  · decide
  · exact bk k h2

theorem wl_down (hN : 0 < N) (hD : 0 < D) (bN : N < 2 ^ 600) (bD : D < 2 ^ 600) (hlt : N < D * 10) (fuel' : Nat) (hf : 700 < fuel) :
    ∃ j : Nat, j < 201 ∧ D ≤ N * 10 ^ j ∧ N * 10 ^ j < D * 10 ∧ whileP (ev cf wlT2) (ex fuel' cf wlB2) fuel (wlR N D 0) st = some (.next, wlR N D (-(j : Int)), st) := by
  have fN : fit N = true := fit_pow (Int.le_of_lt hN) bN (by decide)
  have bk : ∀ k : Nat, N * 10 ^ k < D * 10 → k < 201 := fun k h => by
    apply Decidable.byContradiction
    intro hk
    have h1 := pow10_le (show 201 ≤ k by omega)
    have h2 : (1 : Int) * 10 ^ k ≤ N * 10 ^ k := Int.mul_le_mul_of_nonneg_right (by omega) (Int.le_of_lt (pow10_pos k))
    have h3 : (2 : Int) ^ 600 * 10 < 10 ^ 201 := by decide +kernel
    omega
  have step : ∀ (c : Nat) (r : Rho) (s : Store), (∃ j : Nat, j + c = 600 ∧ N * 10 ^ j < D * 10 ∧ r = wlR N D (-(j : Int)) ∧ s = st) →
      ∃ v st1, ev cf wlT2 r s = some (v, st1) ∧ ((truth v = some false ∧ (∃ j : Nat, D ≤ N * 10 ^ j ∧ N * 10 ^ j < D * 10 ∧ r = wlR N D (-(j : Int)) ∧ st1 = st)) ∨
        (truth v = some true ∧ ∃ c' r2 st2, c' < c ∧ ex fuel' cf wlB2 r st1 = some (.next, r2, st2) ∧ (∃ j : Nat, j + c' = 600 ∧ N * 10 ^ j < D * 10 ∧ r2 = wlR N D (-(j : Int)) ∧ st2 = st))) := by
    intro c r s h
    obtain ⟨k, h1, h2, rfl, rfl⟩ := h
    have hk := bk k h2
    have g0 : -(k : Int) ≤ 0 := by omega
    have g1 : (k : Int) ≤ 2000 := by omega
    have f10 := fit10'
    have fp := fit10 (a := k) (by omega)
    by_cases cc : N * 10 ^ k < D
    · refine ⟨.bool true, s, ?_, .inr ⟨rfl, c - 1, wlR N D (-((k + 1 : Nat) : Int)), s, by omega, ?_, k + 1, by omega, ?_, rfl, rfl⟩⟩
      · unfold wlR wlT2
        simp [ev, binP, binI, cmpP, cmpI, lk, truth, fN, fp, f10, g1, cc]
      · unfold wlR wlB2
        have e2 : -(k : Int) - 1 = -((k + 1 : Nat) : Int) := by push_cast; omega
        rw [← e2]
        simp [ex, ev, binP, binI, lk, upd, augOk]
      · have e3 : N * 10 ^ (k + 1) = N * 10 ^ k * 10 := by rw [Int.pow_succ]; grind
        omega
    · refine ⟨.bool false, s, ?_, .inl ⟨rfl, k, by omega, h2, rfl, rfl⟩⟩
      unfold wlR wlT2
      simp [ev, binP, binI, cmpP, cmpI, lk, truth, fN, fp, f10, g1, cc]
  obtain ⟨r', st', e, j, h1, h2, rfl, rfl⟩ := while_run (test := ev cf wlT2) (body := ex fuel' cf wlB2)
    (fun c r s => ∃ j : Nat, j + c = 600 ∧ N * 10 ^ j < D * 10 ∧ r = wlR N D (-(j : Int)) ∧ s = st)
    (fun r s => ∃ j : Nat, D ≤ N * 10 ^ j ∧ N * 10 ^ j < D * 10 ∧ r = wlR N D (-(j : Int)) ∧ s = st) step 600 (wlR N D 0) st fuel ⟨0, by omega, by simpa using hlt, rfl, rfl⟩ (by omega)
  exact ⟨j, bk j h2, h1, h2, e⟩
end
end Mine
end
section
open PySem
set_option Elab.async false
set_option maxRecDepth 100000
set_option exponentiation.threshold 2500
namespace Mine

theorem whileP_stop {test : Rho → Store → Option (PVal × Store)} {body : Rho → Store → Option (Fl × Rho × Store)} {f : Nat} {r : Rho} {st st1 : Store} {v : PVal} (h : test r st = some (v, st1)) (hv : truth v = some false) (hf : 0 < f) : whileP test body f r st = some (.next, r, st1) := by
  obtain ⟨f, rfl⟩ : ∃ m, f = m + 1 := ⟨f - 1, by omega⟩
  unfold whileP
  rw [h]
  simp only [hv]

section
variable {fuel m : Nat} {st : Store} {N D : Int}

theorem sp_wlog (hN : 0 < N) (hD : 0 < D) (bN : N < 2 ^ 600) (bD : D < 2 ^ 600) (hf : 700 < fuel) {t : Rat} (ht : t * D = N) :
    ∃ k : Int, -201 < k ∧ k < 200 ∧ IsSc 10 0 t (-k) ∧ callP fuel code (m + 2) 21 [.dbl N D, .int 10] st = some (.int k, st) := by
  have t0 : (0 : Rat) < 10 := by decide +kernel
  have d0 : (0 : Rat) < (D : Rat) := castlt hD
  have t10 : ((10 : Int) : Rat) = 10 := rfl
  obtain ⟨k, h1, h2, h3, e1⟩ := wl_up (cf := callP fuel code (m + 1)) (st := st) hN hD bN bD fuel hf
  have hp : callP fuel code (m + 1) 2 [.dbl N D] st = some (.tup [.int N, .int D], st) := sp_parts
  have fin : ∀ k' : Int, whileP (ev (callP fuel code (m + 1)) wlT2) (ex fuel (callP fuel code (m + 1)) wlB2) fuel (wlR N D k) st = some (.next, wlR N D k', st) → callP fuel code (m + 2) 21 [.dbl N D, .int 10] st = some (.int k', st) := by
    intro k' e2
    rw [call_eq (fd := ⟨2, 3, cwhole_log⟩) rfl rfl]
    unfold wlR at e1 e2
    rw [ex_whl] at e1 e2
    have hc : cwhole_log = .seq (.unp [2, 3] (.call 2 (.cons (.loc 0) (.nil)))) (.seq (.asg 4 (.lit (.int 0))) (.seq (.whl wlT1 wlB1) (.seq (.whl wlT2 wlB2) (.seq (.ret (.loc 4)) .skip)))) := rfl
    rw [hc]
    generalize PS.whl wlT1 wlB1 = W1 at e1 ⊢
    generalize PS.whl wlT2 wlB2 = W2 at e2 ⊢
    simp [finP, ex, ev, evs, lk, upd, upds, hp, e1, e2]
  by_cases hk : k = 0
  · subst hk
    have hlt : N < D * 10 := by simpa using h2
    obtain ⟨j, g1, g2, g3, e2⟩ := wl_down (cf := callP fuel code (m + 1)) (st := st) hN hD bN bD hlt fuel hf
    refine ⟨-(j : Int), by omega, by omega, ⟨?_, ?_⟩, fin _ e2⟩
    · rw [Rat.zpow_zero, show - -(j : Int) = (j : Int) by omega]
      have c := castle g2
      rw [Rat.intCast_mul, zp10, ← ht] at c
      refine Rat.le_of_mul_le_mul_left (c := (D : Rat)) ?_ d0
      grind
    · rw [show (0 : Int) + 1 = 1 by omega, Rat.zpow_one, show - -(j : Int) = (j : Int) by omega]
      have c := castlt g3
      rw [Rat.intCast_mul, Rat.intCast_mul, zp10, ← ht, t10] at c
      refine Rat.lt_of_mul_lt_mul_left (c := (D : Rat)) ?_ (by grind)
      grind
  · have h4 : D * 10 ^ k ≤ N := h3.resolve_left hk
    refine ⟨k, by omega, by omega, ⟨?_, ?_⟩, fin _ ?_⟩
    · have pk := zp_pos t0 (k : Int)
      have nk := zp_neg t0 (k : Int)
      have c := castle h4
      rw [Rat.intCast_mul, zp10, ← ht] at c
      rw [Rat.zpow_zero]
      refine Rat.le_of_mul_le_mul_left (c := (D : Rat) * (10 : Rat) ^ (k : Int)) ?_ (Rat.mul_pos d0 pk)
      have e : (D : Rat) * (10 : Rat) ^ (k : Int) * (t * (10 : Rat) ^ (-(k : Int))) = t * D * ((10 : Rat) ^ (k : Int) * (10 : Rat) ^ (-(k : Int))) := by grind
      rw [e, nk, Rat.mul_one, Rat.mul_one]
      exact c
    · have pk := zp_pos t0 (k : Int)
      have nk := zp_neg t0 (k : Int)
      have c := castlt h2
      rw [Rat.intCast_mul, zp10, ← ht, show ((k + 1 : Nat) : Int) = (k : Int) + 1 by omega, zp_add t0, Rat.zpow_one] at c
      rw [show (0 : Int) + 1 = 1 by omega, Rat.zpow_one]
      have pp := Rat.mul_pos d0 pk
      refine Rat.lt_of_mul_lt_mul_left (c := (D : Rat) * (10 : Rat) ^ (k : Int)) ?_ (Rat.le_of_lt pp)
      have e : (D : Rat) * (10 : Rat) ^ (k : Int) * (t * (10 : Rat) ^ (-(k : Int))) = t * D * ((10 : Rat) ^ (k : Int) * (10 : Rat) ^ (-(k : Int))) := by grind
      rw [e, nk, Rat.mul_one, Rat.mul_assoc]
      exact c
    · have hk0 : ¬ (k : Int) ≤ 0 := by omega
      refine whileP_stop (v := .bool false) ?_ rfl (by omega)
      unfold wlR wlT2
      simp [ev, cmpP, cmpI, lk, truth, hk]
end
end Mine
end
section
open PySem PySem.Builtin PySem.Builtin.Str
set_option Elab.async false
set_option maxRecDepth 100000
namespace Mine

def S (l : List Nat) : Str := ⟨l.toArray⟩
theorem S_toList (l : List Nat) : (S l).cps.toList = l := by simp [S]
theorem S_length (l : List Nat) : (S l).length = l.length := by simp [S, Str.length]
theorem S_append (a b : List Nat) : S a ++ S b = S (a ++ b) := Str.ext' (by simp [S, Str.cps_append])
theorem S_of (x : String) : Str.ofString x = S (x.toList.map Char.toNat) := Str.ofString_eq_toList x
theorem S_mk {x : Str} {l : List Nat} (h : x.cps.toList = l) : x = S l := StrLaws.mk_of_toList h
theorem S_inj {a b : List Nat} (h : S a = S b) : a = b := by have := congrArg (fun x : Str => x.cps.toList) h; simpa [S] using this
theorem S_beq (a b : List Nat) : (S a == S b) = decide (a = b) := by
  by_cases h : a = b
  · subst h; simp
  · have : S a ≠ S b := fun e => h (S_inj e)
    simp [h, this]

theorem S_eq (a b : List Nat) : S a = S b ↔ a = b := ⟨S_inj, fun h => by rw [h]⟩
def At' (l p : List Nat) (i : Nat) : Prop := i + p.length ≤ l.length ∧ (l.drop i).take p.length = p
theorem At_iff (l p : List Nat) (i : Nat) : StrLaws.At (S l) (S p) (S l).length i ↔ At' l p i := by
  unfold StrLaws.At At'
  rw [StrLaws.subAt_eq, S_length, S_length, S_toList, S_toList]
  simp

theorem At_get {l p : List Nat} {i j : Nat} {c : Nat} (h : At' l p i) (hj : p[j]? = some c) : l[i + j]? = some c := by
  obtain ⟨h1, h2⟩ := h
  have hlt : j < p.length := (List.getElem?_eq_some_iff.mp hj).1
  rw [← h2, List.getElem?_take_of_lt hlt, List.getElem?_drop] at hj
  exact hj

theorem occ_no {l p : List Nat} {limit : Nat} (hl : 1 ≤ limit) (hn : ∀ i, ¬ At' l p i) : occurrences (S l) (S p) 0 (S l).length limit = [] := by
  rcases StrLaws.occ_head (S l) (S p) limit hl with ⟨h, _⟩ | ⟨i, r, _, h, _⟩
  · exact h
  · exact absurd ((At_iff l p i).mp h) (hn i)

theorem occ_uni {l p : List Nat} {k limit : Nat} (hl : 1 ≤ limit) (hp : 1 ≤ p.length) (h : ∀ i, At' l p i ↔ i = k) : occurrences (S l) (S p) 0 (S l).length limit = [k] := by
  rcases StrLaws.occ_head (S l) (S p) limit hl with ⟨_, h1⟩ | ⟨i, r, e, h1, _⟩
  · exact absurd ((At_iff l p k).mpr ((h k).mpr rfl)) (h1 k)
  · have ei := (h i).mp ((At_iff l p i).mp h1)
    subst ei
    obtain ⟨f, hc⟩ := StrLaws.occ_chain (S l) (S p) limit
    rw [e] at hc ⊢
    cases r with
    | nil => rfl
    | cons c r =>
      obtain ⟨_, _, h3, h4, _⟩ := hc
      have := (h c).mp ((At_iff l p c).mp h4)
      rw [S_length] at h3
      omega

/-- a sign that stands in p once and nowhere else -/
theorem at_uni {a b q q' : List Nat} {x : Nat} (ha : x ∉ a) (hb : x ∉ b) (hq : x ∉ q) (hq' : x ∉ q') (i : Nat) : At' (a ++ (q ++ x :: q') ++ b) (q ++ x :: q') i ↔ i = a.length := by
  constructor
  · intro h
    have g := At_get (j := q.length) (c := x) h (by simp)
    have key : ∀ (u v : List Nat) (j : Nat), x ∉ u → x ∉ v → (u ++ x :: v)[j]? = some x → j = u.length := by
      intro u v j hu hv hj
      rw [List.getElem?_append] at hj
      split at hj
      · exact absurd (List.mem_of_getElem? hj) hu
      · rename_i hlt
        obtain ⟨d, hd⟩ : ∃ d, j - u.length = d := ⟨_, rfl⟩
        rw [hd] at hj
        cases d with
        | zero => omega
        | succ d =>
          rw [List.getElem?_cons_succ] at hj
          exact absurd (List.mem_of_getElem? hj) hv
    have e : a ++ (q ++ x :: q') ++ b = (a ++ q) ++ x :: (q' ++ b) := by simp
    rw [e] at g
    have := key (a ++ q) (q' ++ b) _ (by simp [ha, hq]) (by simp [hb, hq']) g
    simp at this
    omega
  · rintro rfl
    refine ⟨by simp, ?_⟩
    rw [List.append_assoc, List.drop_left, List.take_left]

theorem occ_pat {a b q q' : List Nat} {x limit : Nat} (hl : 1 ≤ limit) (ha : x ∉ a) (hb : x ∉ b) (hq : x ∉ q) (hq' : x ∉ q') :
    occurrences (S (a ++ (q ++ x :: q') ++ b)) (S (q ++ x :: q')) 0 (S (a ++ (q ++ x :: q') ++ b)).length limit = [a.length] :=
  occ_uni hl (by simp; omega) (at_uni ha hb hq hq')
theorem occ_one {a b : List Nat} {x limit : Nat} (hl : 1 ≤ limit) (ha : x ∉ a) (hb : x ∉ b) : occurrences (S (a ++ x :: b)) (S [x]) 0 (S (a ++ x :: b)).length limit = [a.length] := by
  have := occ_pat (q := []) (q' := []) hl ha hb (by simp) (by simp)
  simpa using this
theorem at_none {l p : List Nat} {x : Nat} (hp : x ∈ p) (hl : x ∉ l) (i : Nat) : ¬ At' l p i := by
  intro h
  obtain ⟨j, hj⟩ := List.getElem?_of_mem hp
  exact hl (List.mem_of_getElem? (At_get h hj))

theorem sub_take (l : List Nat) (k : Nat) : strSub (S l) 0 k = S (l.take k) := S_mk (by rw [StrLaws.strSub_toList, S_toList]; simp)
theorem sub_drop (l : List Nat) (k : Nat) : strSub (S l) k (S l).length = S (l.drop k) := S_mk (by
  rw [StrLaws.strSub_toList, S_toList, S_length]
  exact List.take_of_length_le (by simp))

theorem part_at {a b : List Nat} {x : Nat} (ha : x ∉ a) (hb : x ∉ b) : Txt.partition (S (a ++ x :: b)) (S [x]) = (S a, S [x], S b) := by
  unfold Txt.partition
  rw [occ_one (Nat.le_refl 1) ha hb]
  show (strSub _ 0 a.length, S [x], strSub _ (a.length + (S [x]).length) _) = _
  rw [sub_take, sub_drop, S_length]
  simp
theorem part_no {a : List Nat} {x : Nat} (ha : x ∉ a) : Txt.partition (S a) (S [x]) = (S a, S [], S []) := by
  unfold Txt.partition
  rw [occ_no (Nat.le_refl 1) (at_none (List.mem_singleton.mpr rfl) ha)]
  rfl
theorem has_one (l : List Nat) (x : Nat) : Txt.contains (S l) (S [x]) = decide (x ∈ l) := by
  have := StrLaws.found_one (S l) x
  rw [S_toList] at this
  exact this
theorem has_pat {a b q q' : List Nat} {x : Nat} (ha : x ∉ a) (hb : x ∉ b) (hq : x ∉ q) (hq' : x ∉ q') : Txt.contains (S (a ++ (q ++ x :: q') ++ b)) (S (q ++ x :: q')) = true := by
  unfold Txt.contains
  rw [occ_pat (Nat.le_refl 1) ha hb hq hq']
  rfl
theorem has_no {l p : List Nat} {x : Nat} (hp : x ∈ p) (hl : x ∉ l) : Txt.contains (S l) (S p) = false := by
  unfold Txt.contains
  rw [occ_no (Nat.le_refl 1) (at_none hp hl)]
  rfl

theorem kind_le {l p : List Nat} (h : ∀ x ∈ p, x ∈ l) : ¬ strKind (S l) < strKind (S p) := by
  unfold Str.strKind
  have e1 : ∀ B : Nat, (S l).cps.all (· < B) = true → (S p).cps.all (· < B) = true := by
    intro B hB
    simp only [S, List.all_toArray, List.all_eq_true] at hB ⊢
    exact fun x hx => hB x (h x hx)
  by_cases h1 : (S l).cps.all (· < 256) = true
  · rw [if_pos h1, if_pos (e1 _ h1)]; omega
  · rw [if_neg h1]
    by_cases h2 : (S l).cps.all (· < 65536) = true
    · rw [if_pos h2]
      have := e1 _ h2
      simp only [this, if_true]
      split <;> omega
    · rw [if_neg h2]
      split
      · omega
      · split <;> omega

theorem split_at {a b q q' : List Nat} {x : Nat} (ha : x ∉ a) (hb : x ∉ b) (hq : x ∉ q) (hq' : x ∉ q') : Txt.split (S (a ++ (q ++ x :: q') ++ b)) (S (q ++ x :: q')) = [S a, S b] := by
  unfold Txt.split
  rw [occ_pat (by omega) ha hb hq hq']
  have h1 : ¬ (S (a ++ (q ++ x :: q') ++ b)).length < (S (q ++ x :: q')).length := by rw [S_length, S_length]; simp; omega
  have h2 := kind_le (l := a ++ (q ++ x :: q') ++ b) (p := q ++ x :: q') (fun y hy => by simp at hy ⊢; grind)
  simp only [h1, h2, decide_false, Bool.or_self, Bool.false_eq_true, if_false, List.isEmpty_cons]
  rw [StrLaws.partsBetween_eq]
  show [strSub _ 0 a.length, strSub _ (a.length + (S (q ++ x :: q')).length) _] = _
  rw [sub_take, sub_drop, S_length]
  congr 1
  · simp
  · congr 1
    congr 1
    rw [show a.length + (q ++ x :: q').length = (a ++ (q ++ x :: q')).length by simp, List.drop_left]
theorem splitMax_at {a b : List Nat} {x : Nat} {k : Int} (hk : 1 ≤ k) (ha : x ∉ a) (hb : x ∉ b) : Txt.splitMax (S (a ++ x :: b)) (S [x]) k = [S a, S b] := by
  unfold Txt.splitMax
  have hl : 1 ≤ limitOf (S (a ++ x :: b)) k := by unfold limitOf; rw [if_neg (by omega)]; omega
  rw [occ_one hl ha hb]
  have h1 : ¬ (S (a ++ x :: b)).length < (S [x]).length := by rw [S_length, S_length]; simp
  have h2 := kind_le (l := a ++ x :: b) (p := [x]) (fun y hy => by simp at hy ⊢; grind)
  simp only [h1, h2, decide_false, Bool.or_self, Bool.false_eq_true, if_false, List.isEmpty_cons]
  rw [StrLaws.partsBetween_eq]
  show [strSub _ 0 a.length, strSub _ (a.length + (S [x]).length) _] = _
  rw [sub_take, sub_drop, S_length]
  simp
end Mine
end
section
open PySem PySem.Builtin PySem.Builtin.Str PySem.NumText
set_option Elab.async false
set_option maxRecDepth 100000
namespace Mine

def dig (n : Nat) : List Nat := (Nat.toDigits 10 n).map Char.toNat
theorem dig_all (n : Nat) : AllDigits (dig n) := by
  intro c hc
  obtain ⟨ch, hch, e⟩ := List.mem_map.mp hc
  have r := PyProof.Rows.digit_range (Nat.isDigit_of_mem_toDigits (by decide) (by decide) hch)
  rw [← e]
  exact r
theorem dig_val (n : Nat) : digitsVal (dig n) = n := PySem.W.KIN.val_back n
theorem dig_len {n k : Nat} (hk : 1 ≤ k) : (dig n).length ≤ k ↔ n < 10 ^ k := by
  unfold dig
  rw [List.length_map]
  exact Nat.length_toDigits_le_iff (by decide) (by omega)
theorem dig_ne (n : Nat) : dig n ≠ [] := by
  intro e
  have h := dig_len (n := n) (k := 1) (Nat.le_refl 1)
  have : (Nat.toDigits 10 n).length = 0 := by
    have := congrArg List.length e
    rwa [dig, List.length_map] at this
  exact absurd this (by have := Nat.length_toDigits_pos (b := 10) (n := n); omega)
theorem dig_pos (n : Nat) : 1 ≤ (dig n).length := by
  have := dig_ne n
  cases h : dig n with
  | nil => exact absurd h this
  | cons a l => simp

theorem str_nat (n : Nat) : Str.ofString (toString ((n : Nat) : Int)) = S (dig n) := S_mk (PySem.W.KIN.signs_num n)
theorem str_pos {i : Int} (h : 0 ≤ i) : Str.ofString (toString i) = S (dig i.toNat) := by
  obtain ⟨n, rfl⟩ := Int.eq_ofNat_of_zero_le h
  exact str_nat n
theorem str_neg {i : Int} (h : i < 0) : Str.ofString (toString i) = S (45 :: dig (-i).toNat) := by
  obtain ⟨n, rfl⟩ : ∃ n : Nat, i = Int.negSucc n := ⟨(-i - 1).toNat, by omega⟩
  refine S_mk ?_
  rw [PyProof.Rows.signs_ofString]
  show ("-" ++ Nat.repr (n + 1)).toList.map Char.toNat = _
  rw [String.toList_append, Nat.toList_repr]
  rfl

theorem rep_pos {i : Int} (h : 0 ≤ i) : Str.ofString (Int.repr i) = S (dig i.toNat) := str_pos h
theorem rep_neg {i : Int} (h : i < 0) : Str.ofString (Int.repr i) = S (45 :: dig (-i).toNat) := str_neg h

theorem val_app (a b : List Nat) : digitsVal (a ++ b) = digitsVal a * 10 ^ b.length + digitsVal b := by
  unfold digitsVal
  rw [List.foldl_append]
  generalize List.foldl (fun acc c => acc * 10 + (c - 48)) 0 a = z
  have key : ∀ (b : List Nat) (z y : Nat), List.foldl (fun acc c => acc * 10 + (c - 48)) (z + y) b = z * 10 ^ b.length + List.foldl (fun acc c => acc * 10 + (c - 48)) y b := by
    intro b
    induction b with
    | nil => intro z y; simp
    | cons c b ih =>
      intro z y
      show List.foldl _ ((z + y) * 10 + (c - 48)) b = _
      rw [show (z + y) * 10 + (c - 48) = z * 10 + (y * 10 + (c - 48)) by omega, ih]
      simp only [List.length_cons, List.foldl_cons, Nat.pow_succ]
      grind
  have := key b z 0
  simpa using this
theorem val_rep (k : Nat) (l : List Nat) : digitsVal (List.replicate k 48 ++ l) = digitsVal l := by
  induction k with
  | zero => simp
  | succ k ih => rw [List.replicate_succ, List.cons_append, digitsVal_zero, ih]
theorem val_lt {l : List Nat} (h : AllDigits l) : digitsVal l < 10 ^ l.length := by
  induction l with
  | nil => decide
  | cons c l ih =>
    have e : digitsVal (c :: l) = (c - 48) * 10 ^ l.length + digitsVal l := by
      have := val_app [c] l
      have e2 : digitsVal [c] = c - 48 := by unfold digitsVal; simp
      rw [e2] at this
      exact this
    have h1 := ih h.tail
    have h2 : c - 48 ≤ 9 := by have := h.head; omega
    have h3 : (c - 48) * 10 ^ l.length ≤ 9 * 10 ^ l.length := Nat.mul_le_mul_right _ h2
    rw [e, List.length_cons, Nat.pow_succ]
    omega

theorem int_S {l : List Nat} (h : AllDigits l) (h1 : l ≠ []) (h2 : l.length ≤ 640) : PySem.intText? (S l) = some ((digitsVal l : Nat) : Int) := by
  have := intText_digits (x := S l) (by rw [S_toList]; exact h) (by rw [S_toList]; exact h1) (by rw [S_length]; omega)
  rwa [S_toList] at this
theorem int_neg {l : List Nat} (h : AllDigits l) (h1 : l ≠ []) (h2 : l.length ≤ 640) : PySem.intText? (S (45 :: l)) = some (-((digitsVal l : Nat) : Int)) :=
  intText_neg (x := S (45 :: l)) (S_toList _) h h1 (by rw [S_length]; simp; omega)

def pad (g m : Nat) : List Nat := List.replicate (g - (dig m).length) 48 ++ dig m
theorem pad_all (g m : Nat) : AllDigits (pad g m) := by
  intro c hc
  rcases List.mem_append.mp hc with h | h
  · rw [List.eq_of_mem_replicate h]; decide
  · exact dig_all m c h
theorem pad_len {g m : Nat} (hg : 1 ≤ g) (h : m < 10 ^ g) : (pad g m).length = g := by
  have := (dig_len hg).mpr h
  unfold pad
  simp
  omega
theorem pad_val (g m : Nat) : digitsVal (pad g m) = m := by unfold pad; rw [val_rep, dig_val]
theorem zfill_S {l : List Nat} (k : Nat) (h : AllDigits l) (h1 : l ≠ []) : Txt.zfill (S l) (k : Int) = S (List.replicate (k - l.length) 48 ++ l) := by
  unfold Txt.zfill
  rw [S_length]
  split
  · rename_i hk
    have : k - l.length = 0 := by omega
    rw [this]; simp
  · cases l with
    | nil => exact absurd rfl h1
    | cons c l =>
      have hc := h.head
      unfold zfilled
      have e : (S (c :: l)).cps[0]? = some c := by simp [S]
      rw [e]
      have : padded (S (c :: l)) ((k : Int).toNat - (c :: l).length) 0 48 = S (List.replicate (k - (c :: l).length) 48 ++ c :: l) := S_mk (by simp [padded, S])
      split
      · rename_i h43; cases h43; omega
      · rename_i h45; cases h45; omega
      · exact this
theorem zfill_dig (g m : Nat) : Txt.zfill (S (dig m)) (g : Int) = S (pad g m) := zfill_S g (dig_all m) (dig_ne m)

/-- a decimal text: R over 10^g -/
structure IsDec (l : List Nat) (R g : Nat) : Prop where
  ex : ∃ a b, AllDigits a ∧ AllDigits b ∧ a ≠ [] ∧ b.length = g ∧ digitsVal (a ++ b) = R ∧ l = a ++ (if g = 0 then [] else 46 :: b)
  len : l.length ≤ 200

def dec (R g : Nat) : List Nat := dig (R / 10 ^ g) ++ (if g = 0 then [] else 46 :: pad g (R % 10 ^ g))
theorem dec_is {R g : Nat} (hR : R < 10 ^ 100) (hg : g ≤ 20) : IsDec (dec R g) R g := by
  have pg : 0 < 10 ^ g := Nat.pow_pos (by decide)
  have hm : R % 10 ^ g < 10 ^ g := Nat.mod_lt _ pg
  have hd : (dig (R / 10 ^ g)).length ≤ 100 := (dig_len (by decide)).mpr (Nat.lt_of_le_of_lt (Nat.div_le_self ..) hR)
  by_cases h0 : g = 0
  · subst h0
    have hnil : AllDigits [] := fun _ h => nomatch h
    refine ⟨⟨dig (R / 10 ^ 0), [], dig_all _, hnil, dig_ne _, rfl, ?_, ?_⟩, ?_⟩
    · simp [dig_val]
    · simp [dec]
    · simp [dec] at hd ⊢; omega
  · refine ⟨⟨dig (R / 10 ^ g), pad g (R % 10 ^ g), dig_all _, pad_all _ _, dig_ne _, pad_len (by omega) hm, ?_, ?_⟩, ?_⟩
    · rw [val_app, pad_len (by omega) hm, dig_val, pad_val, Nat.div_add_mod']
    · simp [dec, h0]
    · have := pad_len (by omega) hm
      simp [dec, h0, this]; omega

theorem strip_S {l : List Nat} (h : ∀ c ∈ l, Unicode.isSpace c = false) : Txt.strip (S l) = S l := by
  unfold Txt.strip Txt.stripBy
  have t : ∀ k : List Nat, (∀ c ∈ k, Unicode.isSpace c = false) → k.takeWhile Unicode.isSpace = [] := by
    intro k hk
    cases k with
    | nil => rfl
    | cons c k => rw [List.takeWhile_cons, hk c (List.mem_cons_self ..)]; simp
  have e1 : stripLo Unicode.isSpace true (S l) = 0 := by
    unfold stripLo
    rw [S_toList, t l h]; rfl
  have e2 : stripHi Unicode.isSpace true (S l) 0 = (S l).length := by
    unfold stripHi
    rw [S_toList, List.drop_zero, t l.reverse (fun c hc => h c (List.mem_reverse.mp hc))]; rfl
  have : stripSame Unicode.isSpace true true (S l) = true := by
    unfold stripSame
    rw [e1, e2]; simp
  rw [this]; rfl
theorem lower_S {l : List Nat} (h : ∀ c ∈ l, Unicode.lowerOf c = [c] ∧ c ≠ 0x3A3) : Txt.lower (S l) = S l := by
  refine S_mk ?_
  unfold Txt.lower placed
  have e : (S l).cps.mapIdx (fun i c => (Unicode.lowerAt (S l).cps i).toArray) = (S l).cps.map fun c => #[c] := by
    apply Array.ext
    · simp
    · intro i h1 h2
      have hi : i < (S l).cps.size := by simpa using h1
      rw [Array.getElem_mapIdx, Array.getElem_map]
      unfold Unicode.lowerAt
      rw [Array.getElem?_eq_getElem hi]
      have hm : (S l).cps[i] ∈ l := by
        have := Array.getElem_mem hi
        rw [← Array.mem_toList_iff, S_toList] at this
        exact this
      obtain ⟨h3, h4⟩ := h _ hm
      have h5 : ((S l).cps[i] == 0x3A3) = false := by simp [h4]
      simp only [h5, Bool.false_and, h3]
      rfl
  rw [e]
  have : ∀ k : List Nat, ((k.map fun c => #[c]).toArray.flatten).toList = k := by
    intro k
    induction k with
    | nil => rfl
    | cons c k ih => simp_all
  have h2 := this l
  simpa [S] using h2
theorem digit_low : ∀ c : Nat, (48 ≤ c ∧ c ≤ 57) ∨ c = 46 → Unicode.isSpace c = false ∧ Unicode.lowerOf c = [c] ∧ c ≠ 0x3A3 := by
  have h : ∀ c : Nat, c < 58 → (48 ≤ c ∧ c ≤ 57) ∨ c = 46 → Unicode.isSpace c = false ∧ Unicode.lowerOf c = [c] ∧ c ≠ 0x3A3 := by decide +kernel
  intro c hc
  exact h c (by omega) hc
theorem IsDec.signs {l : List Nat} {R g : Nat} (h : IsDec l R g) : ∀ c ∈ l, (48 ≤ c ∧ c ≤ 57) ∨ c = 46 := by
  obtain ⟨⟨a, b, ha, hb, _, _, _, rfl⟩, _⟩ := h
  intro c hc
  rcases List.mem_append.mp hc with h | h
  · exact .inl (ha c h)
  · split at h
    · cases h
    · rcases List.mem_cons.mp h with h | h
      · exact .inr h
      · exact .inl (hb c h)
theorem IsDec.strip {l : List Nat} {R g : Nat} (h : IsDec l R g) : Txt.strip (S l) = S l := strip_S fun c hc => (digit_low c (h.signs c hc)).1
theorem IsDec.lower {l : List Nat} {R g : Nat} (h : IsDec l R g) : Txt.lower (S l) = S l := lower_S fun c hc => (digit_low c (h.signs c hc)).2
theorem IsDec.ne {l : List Nat} {R g : Nat} (h : IsDec l R g) : l ≠ [] := by
  obtain ⟨⟨a, b, ha, hb, h1, _, _, rfl⟩, _⟩ := h
  simp [h1]

theorem ad_app {a b : List Nat} (ha : AllDigits a) (hb : AllDigits b) : AllDigits (a ++ b) := fun c hc => (List.mem_append.mp hc).elim (ha c) (hb c)
theorem ad_not {a : List Nat} (ha : AllDigits a) {c : Nat} (hc : c < 48 ∨ 57 < c) : c ∉ a := fun h => by have := ha c h; omega

theorem slice_to {l : List Nat} {j : Nat} (h : j ≤ l.length) : Txt.slice (S l) none (some (j : Int)) = S (l.take j) := by
  have := StrLaws.sliceText_to (x := S l) (j := (j : Int)) ⟨by omega, by rw [S_toList]; omega⟩
  rw [S_toList] at this
  refine Eq.trans this ?_
  simp [S]
theorem slice_from {l : List Nat} {j : Nat} (h : j ≤ l.length) : Txt.slice (S l) (some (j : Int)) none = S (l.drop j) := by
  have := StrLaws.sliceText_from (x := S l) (i := (j : Int)) ⟨by omega, by rw [S_toList]; omega⟩
  rw [S_toList] at this
  refine Eq.trans this ?_
  have e : ((l.length : Int) - (j : Int)).toNat = l.length - j := by omega
  rw [e]
  simp only [Int.toNat_natCast]
  rw [List.take_of_length_le (by simp)]
  rfl
theorem slice_to_neg {l : List Nat} {j : Nat} (h0 : 0 < j) (h : j ≤ l.length) : Txt.slice (S l) none (some (-(j : Int))) = S (l.take (l.length - j)) := by
  have := StrLaws.sliceText_to_neg (x := S l) (j := -(j : Int)) (by omega) (by rw [S_length]; omega)
  rw [S_toList, S_length] at this
  refine Eq.trans this ?_
  have e : (-(j : Int) + (l.length : Int) - 0).toNat = l.length - j := by omega
  rw [e]; rfl
theorem slice_from_neg {l : List Nat} {j : Nat} (h0 : 0 < j) (h : j ≤ l.length) : Txt.slice (S l) (some (-(j : Int))) none = S (l.drop (l.length - j)) := by
  have := StrLaws.sliceText_from_neg (x := S l) (i := -(j : Int)) (by omega) (by rw [S_length]; omega)
  rw [S_toList, S_length] at this
  refine Eq.trans this ?_
  have e : (-(j : Int) + (l.length : Int)).toNat = l.length - j := by omega
  have e2 : ((l.length : Int) - (-(j : Int) + (l.length : Int))).toNat = j := by omega
  rw [e, e2, List.take_of_length_le (by simp; omega)]
  rfl
theorem item_S (c : Nat) (l : List Nat) : Txt.item (S (c :: l)) 0 = S [c] := by
  unfold Txt.item Txt.charAt
  rw [StrLaws.seqIndex_nonneg (Int.le_refl 0) (by rw [S_length]; simp)]
  simp [S]
theorem item_at {l : List Nat} {k c : Nat} (h : l[k]? = some c) : Txt.item (S l) (k : Int) = S [c] := by
  have hk : k < l.length := (List.getElem?_eq_some_iff.mp h).1
  unfold Txt.item Txt.charAt
  rw [StrLaws.seqIndex_nonneg (by omega) (by rw [S_length]; omega)]
  have : (S l).cps[((k : Int)).toNat]? = some c := by simpa [S] using h
  show (⟨#[((S l).cps[((k : Int)).toNat]?).getD 0]⟩ : Str) = _
  rw [this]; rfl

theorem join_free (c : Nat) : ∀ parts : List Str, (∀ p ∈ parts, c ∉ p.cps.toList) → (Str.join (S []) parts).cps.toList = (Str.join (S [c]) parts).cps.toList.filter (fun d => d != c)
  | [], _ => rfl
  | [p], h => by
    show p.cps.toList = p.cps.toList.filter _
    rw [List.filter_eq_self.mpr]
    intro d hd
    have := h p (List.mem_singleton.mpr rfl)
    simp only [bne_iff_ne]
    exact fun e => this (e ▸ hd)
  | p :: q :: r, h => by
    have ih := join_free c (q :: r) fun x hx => h x (List.mem_cons_of_mem _ hx)
    show (p ++ S [] ++ Str.join (S []) (q :: r)).cps.toList = (p ++ S [c] ++ Str.join (S [c]) (q :: r)).cps.toList.filter _
    simp only [Str.cps_append, Array.toList_append, List.filter_append, S_toList]
    rw [ih]
    have hp' : p.cps.toList.filter (fun d => d != c) = p.cps.toList := by
      rw [List.filter_eq_self]
      intro d hd
      have := h p (List.mem_cons_self ..)
      simp only [bne_iff_ne]
      exact fun e => this (e ▸ hd)
    rw [hp']
    simp
theorem repl_free (l : List Nat) (c : Nat) : Txt.replace (S l) (S [c]) (S []) = S (l.filter (fun d => d != c)) := by
  refine S_mk ?_
  have e := StrLaws.replace_one (S l) (S []) c
  have e2 : Txt.replace (S l) (S [c]) (S []) = Str.join (S []) (Txt.split (S l) (S [c])) := e
  have e3 := join_free c (Txt.split (S l) (S [c])) (StrLaws.split_free (S l) c)
  rw [e2, e3]
  have := StrLaws.join_split (S l) (S [c])
  rw [this, S_toList]
theorem join_S (sep : List Nat) (parts : List Str) : Txt.join (S sep) parts = Str.join (S sep) parts := StrLaws.glued_eq_join _ _
end Mine
end
section
open PySem PySem.Builtin PySem.Builtin.Str PySem.NumText
set_option Elab.async false
set_option maxRecDepth 100000
set_option linter.unusedSimpArgs false
set_option exponentiation.threshold 2500
namespace Mine

theorem l_dot : Str.ofString "." = S [46] := by rw [S_of]; rfl
theorem l_e : Str.ofString "e" = S [101] := by rw [S_of]; rfl
theorem l_nil : Str.ofString "" = S [] := by rw [S_of]; rfl
theorem l_min : Str.ofString "-" = S [45] := by rw [S_of]; rfl
theorem l_plus : Str.ofString "+" = S [43] := by rw [S_of]; rfl
theorem l_inf : Str.ofString "inf" = S [105, 110, 102] := by rw [S_of]; rfl
theorem l_infinity : Str.ofString "infinity" = S [105, 110, 102, 105, 110, 105, 116, 121] := by rw [S_of]; rfl
theorem l_nan : Str.ofString "nan" = S [110, 97, 110] := by rw [S_of]; rfl
theorem l_pct : Str.ofString "%" = S [37] := by rw [S_of]; rfl
theorem l_pctdot : Str.ofString "%." = S [37, 46] := by rw [S_of]; rfl
theorem l_f : Str.ofString "f" = S [102] := by rw [S_of]; rfl
theorem l_di : Str.ofString "di" = S [100, 105] := by rw [S_of]; rfl
theorem l_zero : Str.ofString "0" = S [48] := by rw [S_of]; rfl
theorem l_digs : Str.ofString "0123456789" = S [48, 49, 50, 51, 52, 53, 54, 55, 56, 57] := by rw [S_of]; rfl
theorem l_digsdot : Str.ofString "0123456789." = S [48, 49, 50, 51, 52, 53, 54, 55, 56, 57, 46] := by rw [S_of]; rfl

def fmt (g : Nat) : Str := S [37, 46, 48 + g, 102]
theorem dig_one : ∀ g : Nat, g < 10 → dig g = [48 + g] := by decide
theorem lst_f : ∀ g : Nat, g < 9 → Txt.lstripChars (S [46, 48 + g, 102]) (S [48, 49, 50, 51, 52, 53, 54, 55, 56, 57, 46]) = S [102] := by
  have h : ∀ g : Nat, g < 9 → (Txt.lstripChars (S [46, 48 + g, 102]) (S [48, 49, 50, 51, 52, 53, 54, 55, 56, 57, 46]) == S [102]) = true := by decide +kernel
  intro g hg
  exact eq_of_beq (h g hg)

section
variable {fuel m : Nat} {st : Store}

theorem rnd_nn {n d : Int} (hn : 0 ≤ n) (hd : 0 < d) : 0 ≤ rnd n d := rnd_ge hd (by omega)

theorem sp_laid {N D : Int} {g : Nat} (hN : 0 ≤ N) (hD : 0 < D) (fN : fit N = true) (fD : fit D = true) (hg : g < 9) (hR : rnd (N * 10 ^ g) D < 10 ^ 100) :
    callP fuel code (m + 2) 19 [.str (fmt g), .dbl N D] st = some (.str (S (dec (rnd (N * 10 ^ g) D).toNat g)), st) := by
  have h1 : Txt.splitMax (fmt g) (S [37]) 1 = [S [], S [46, 48 + g, 102]] := splitMax_at (a := []) (Int.le_refl 1) (by simp) (by simp; omega)
  have h2 := lst_f g hg
  have h3 : Txt.slice (S [46, 48 + g, 102]) none (some 2) = S [46, 48 + g] := slice_to (j := 2) (by simp)
  have h4 : Txt.slice (S [46, 48 + g, 102]) (some 3) none = S [] := slice_from (j := 3) (by simp)
  have h5 : Txt.item (S [46, 48 + g, 102]) 2 = S [102] := item_at (k := 2) rfl
  have h6 : Txt.contains (S [100, 105]) (S [102]) = false := by rw [has_one]; rfl
  have h7 : Txt.contains (S [46, 48 + g]) (S [46]) = true := by rw [has_one]; simp
  have h8 : Txt.partition (S [46, 48 + g]) (S [46]) = (S [], S [46], S [48 + g]) := part_at (a := []) (by simp) (by simp; omega)
  have h9 : intText? (S [48 + g]) = some (g : Int) := by
    rw [int_S (fun c hc => by simp at hc; omega) (by simp) (by simp)]
    have : digitsVal [48 + g] = g := by unfold digitsVal; simp
    rw [this]
  have hr0 := rnd_nn (n := N * 10 ^ g) (d := D) (Int.mul_nonneg hN (Int.le_of_lt (pow10_pos g))) hD
  have call : callP fuel code (m + 1) 0 [.int (N * 10 ^ g), .int D] st = some (.int (rnd (N * 10 ^ g) D), st) := sp_rounded hD fD
  generalize rnd (N * 10 ^ g) D = R at *
  have f10 := fit10'
  have f1 : fit 1 = true := fit_small (by decide)
  have fp := fit10 (a := g) (by omega)
  have hp := pow10_pos g
  have hp0 : (10 : Int) ^ g ≠ 0 := by omega
  have habs : ((N.natAbs : Nat) : Int) = N := by omega
  have hnn : ¬ N < 0 := by omega
  have hpar : callP fuel code (m + 1) 2 [.dbl N D] st = some (.tup [.int N, .int D], st) := sp_parts
  obtain ⟨q1, q2, q3⟩ := fdm (n := R) hp
  have fR : fit R = true := fit_pow (k := 400) hr0 (by have : (10 : Int) ^ 100 < 2 ^ 400 := by decide +kernel
                                                       omega) (by decide)
  have hq0 : 0 ≤ R.fdiv (10 ^ g) := by rw [Int.fdiv_eq_ediv_of_nonneg _ (by omega)]; exact Int.ediv_nonneg hr0 (by omega)
  have fq : fit (R.fdiv (10 ^ g)) = true := fit_le fR (by
    have : R.fdiv (10 ^ g) * 1 ≤ R.fdiv (10 ^ g) * 10 ^ g := Int.mul_le_mul_of_nonneg_left (by omega) hq0
    omega)
  have fr : fit (R.fmod (10 ^ g)) = true := fit_le fp (by omega)
  have s1 : Str.ofString (Int.repr (R.fdiv (10 ^ g))) = S (dig (R.toNat / 10 ^ g)) := by
    rw [rep_pos hq0]
    congr 2
    obtain ⟨r, rfl⟩ := Int.eq_ofNat_of_zero_le hr0
    rw [Int.fdiv_eq_ediv_of_nonneg _ (by omega)]
    exact_mod_cast rfl
  have s2 : Str.ofString (Int.repr (R.fmod (10 ^ g))) = S (dig (R.toNat % 10 ^ g)) := by
    rw [rep_pos q2]
    congr 2
    obtain ⟨r, rfl⟩ := Int.eq_ofNat_of_zero_le hr0
    rw [Int.fmod_eq_emod_of_nonneg _ (by omega)]
    exact_mod_cast rfl
  have s3 := zfill_dig g (R.toNat % 10 ^ g)
  have e37 : (fmt g).length = 4 := by unfold fmt; rw [S_length]; rfl
  have hg2 : (g : Int) ≤ 4096 ∧ (g : Int) ≤ 2000 := by omega
  have hg3 : g ≤ 4096 ∧ g ≤ 2000 ∧ g + 1 ≤ 4096 := by omega
  have hlen : (dig (R.toNat / 10 ^ g)).length ≤ 100 := (dig_len (by decide)).mpr (by
    have : R.toNat < 10 ^ 100 := by omega
    exact Nat.lt_of_le_of_lt (Nat.div_le_self ..) this)
  have hpm : R.toNat % 10 ^ g < 10 ^ g := Nat.mod_lt _ (Nat.pow_pos (by decide))
  rw [call_eq (fd := ⟨2, 10, claid_out⟩) rfl rfl]
  unfold claid_out
  by_cases hg0 : g = 0
  · subst hg0
    have hd : dec R.toNat 0 = dig R.toNat := by unfold dec; simp
    rw [hd]
    simp at s1 fR call hlen
    have hlen2 : (dig R.toNat).length ≤ 4096 := by omega
    simp [finP, ex, ev, evs, biP, binP, binI, cmpP, cmpI, methP, itemP, itemL, sliceP, optI, lk, upd, upds, truth, slim, beqD, bneD, l_pct, l_digsdot, l_di, l_dot, l_nil, l_zero, e37, h1, h2, h3, h4, h5, h6, h7, h8, h9, S_length, habs, f10, f1, fN, fD, fR, call, hpar, hnn, s1, S_append, hlen2]
    done
  · have hd : dec R.toNat g = dig (R.toNat / 10 ^ g) ++ 46 :: pad g (R.toNat % 10 ^ g) := by unfold dec; simp [hg0]
    have hpl := pad_len (g := g) (m := R.toNat % 10 ^ g) (by omega) hpm
    have hlen2 : (dig (R.toNat / 10 ^ g)).length ≤ 4096 := by omega
    have hlen3 : (dig (R.toNat / 10 ^ g)).length + (g + 1) ≤ 4096 := by omega
    rw [hd]
    simp [finP, ex, ev, evs, biP, binP, binI, cmpP, cmpI, methP, itemP, itemL, sliceP, optI, lk, upd, upds, truth, slim, beqD, bneD, l_pct, l_digsdot, l_di, l_dot, l_nil, l_zero, e37, h1, h2, h3, h4, h5, h6, h7, h8, h9, S_length, habs, f10, f1, fN, fD, fp, fR, fq, fr, call, hpar, hnn, s1, s2, s3, hg0, hg2, hp0, hpl, S_append, hlen2, hlen3, hg3]
    done
end
end Mine
end
section
open PySem PySem.Builtin PySem.Builtin.Str PySem.NumText
set_option Elab.async false
set_option maxRecDepth 100000
set_option exponentiation.threshold 2500
set_option linter.unusedSimpArgs false
namespace Mine

theorem l_x10 : Str.ofString " x 10" = S [32, 120, 32, 49, 48] := by rw [S_of]; rfl
theorem l_pm : Str.ofString "+-" = S [43, 45] := by rw [S_of]; rfl

theorem IsDec.free {l : List Nat} {R g c : Nat} (h : IsDec l R g) (hc : c < 46 ∨ c = 47 ∨ 57 < c) : c ∉ l := fun hm => by have := h.signs c hm; omega
theorem IsDec.lt {l : List Nat} {R g : Nat} (h : IsDec l R g) : R < 10 ^ 200 ∧ g ≤ 200 := by
  obtain ⟨⟨a, b, ha, hb, h1, h2, rfl, rfl⟩, h3⟩ := h
  have hv := val_lt (ad_app ha hb)
  have hl : (a ++ b).length ≤ 200 := by
    rw [List.length_append] at h3 ⊢
    split at h3
    · have : b.length = 0 := by omega
      simp at h3; omega
    · simp at h3; omega
  refine ⟨Nat.lt_of_lt_of_le hv (Nat.pow_le_pow_right (by decide) hl), ?_⟩
  rw [List.length_append] at hl; omega

/-- the power as text -/
def pw (i : Int) : List Nat := if i < 0 then 45 :: dig (-i).toNat else dig i.toNat
theorem rep_pw (i : Int) : Str.ofString (Int.repr i) = S (pw i) := by
  unfold pw
  split
  · rename_i h; exact rep_neg h
  · exact rep_pos (by omega)
theorem pw_signs (i : Int) : ∀ c ∈ pw i, c = 45 ∨ (48 ≤ c ∧ c ≤ 57) := by
  intro c hc
  unfold pw at hc
  split at hc
  · rcases List.mem_cons.mp hc with h | h
    · exact .inl h
    · exact .inr (dig_all _ c h)
  · exact .inr (dig_all _ c hc)
theorem pw_len {i : Int} (h : i.natAbs < 1000) : (pw i).length ≤ 4 := by
  unfold pw
  split
  · have : (dig (-i).toNat).length ≤ 3 := (dig_len (by decide)).mpr (by omega)
    simp; omega
  · have : (dig i.toNat).length ≤ 3 := (dig_len (by decide)).mpr (by omega)
    omega
theorem pw_int {i : Int} (h : i.natAbs < 1000) : intText? (S (pw i)) = some i := by
  have hl := pw_len h
  unfold pw at hl ⊢
  split
  · rename_i h0
    rw [if_pos h0] at hl
    rw [int_neg (dig_all _) (dig_ne _) (by simp at hl; omega), dig_val]
    congr 1; omega
  · rename_i h0
    rw [if_neg h0] at hl
    rw [int_S (dig_all _) (dig_ne _) (by omega), dig_val]
    congr 1; omega

theorem sup_back : ∀ l : List Nat, (∀ c ∈ l, c = 45 ∨ (48 ≤ c ∧ c ≤ 57)) → (l.map supOf).mapM numOf = some l
  | [], _ => rfl
  | c :: l, h => by
    have ih := sup_back l fun d hd => h d (List.mem_cons_of_mem _ hd)
    have hc : numOf (supOf c) = some c := by
      have key : ∀ d : Nat, d < 58 → d = 45 ∨ (48 ≤ d ∧ d ≤ 57) → numOf (supOf d) = some d := by decide +kernel
      have := h c (List.mem_cons_self ..)
      exact key c (by omega) this
    rw [List.map_cons, List.mapM_cons, hc, ih]; rfl
theorem sup_big {c : Nat} (h : c = 45 ∨ (48 ≤ c ∧ c ≤ 57)) : 178 ≤ supOf c := by
  have key : ∀ d : Nat, d < 58 → d = 45 ∨ (48 ≤ d ∧ d ≤ 57) → 178 ≤ supOf d := by decide +kernel
  exact key c (by omega) h
theorem strs_one (l : List Nat) : strsOf (l.map one) = some (l.map fun c => S [c]) := by
  induction l with
  | nil => rfl
  | cons c l ih =>
    show (strsOf (l.map one)).map (S [c] :: ·) = _
    rw [ih]; rfl
theorem join_ones (l : List Nat) : Txt.join (S []) (l.map fun c => S [c]) = S l := by
  rw [join_S]
  induction l with
  | nil => rfl
  | cons c l ih =>
    cases l with
    | nil => rfl
    | cons d l =>
      show S [c] ++ S [] ++ Str.join (S []) ((d :: l).map fun c => S [c]) = _
      rw [ih, S_append, S_append]; rfl
theorem sum_ones (l : List Nat) : ((l.map fun c => S [c]).map (·.length)).sum = l.length := by
  induction l with
  | nil => rfl
  | cons c l ih =>
    simp only [List.map_cons, List.sum_cons, ih, List.length_cons, S_length]
    simp; omega

section
variable {fuel m : Nat} {st : Store}

theorem IsDec.part {l : List Nat} {R g : Nat} (h : IsDec l R g) : ∃ a b, AllDigits a ∧ AllDigits b ∧ a ≠ [] ∧ b.length = g ∧ digitsVal (a ++ b) = R ∧ l = a ++ (if g = 0 then [] else 46 :: b) ∧ (a ++ b).length ≤ 200 ∧
    Txt.partition (S l) (S [46]) = (S a, (if g = 0 then S [] else S [46]), S b) := by
  obtain ⟨⟨a, b, ha, hb, h1, h2, h3, rfl⟩, h4⟩ := h
  refine ⟨a, b, ha, hb, h1, h2, h3, rfl, ?_, ?_⟩
  · rw [List.length_append] at h4 ⊢
    split at h4
    · have : b.length = 0 := by omega
      simp at h4; omega
    · simp at h4; omega
  · by_cases h0 : g = 0
    · subst h0
      have hb0 : b = [] := List.eq_nil_of_length_eq_zero h2
      subst hb0
      simp only [if_true, List.append_nil]
      exact part_no (ad_not ha (by decide))
    · simp only [h0, if_false]
      exact part_at (ad_not ha (by decide)) (ad_not hb (by decide))

theorem fitN {n : Nat} (h : n < 10 ^ 200) : fit (n : Int) = true := by
  refine fit_of (Nat.lt_trans (m := 10 ^ 200) ?_ (by decide +kernel))
  simpa using h

theorem sp_decimal {l : List Nat} {R g : Nat} {ten : Int} (h : IsDec l R g) (ht : ten.natAbs ≤ 100) :
    callP fuel code (m + 1) 37 [.str (S l), .int ten] st = some (.tup [.int (R * 10 ^ (max ten 0).toNat), .int (10 ^ g * 10 ^ (max (-ten) 0).toNat), .int (10 ^ (max ten 0).toNat), .int (10 ^ g * 10 ^ (max (-ten) 0).toNat)], st) := by
  obtain ⟨hR, hg⟩ := h.lt
  have hl := h.len
  obtain ⟨a, b, ha, hb, h1, h2, h3, h4, h5, h6⟩ := h.part
  have h5' := h5
  rw [List.length_append] at h5'
  have hi := int_S (ad_app ha hb) (by simp [h1]) (by omega : (a ++ b).length ≤ 640)
  rw [h3] at hi
  have f10 := fit10'
  have fR := fitN hR
  have fp := fit10 (a := (max ten 0).toNat) (by omega)
  have fq := fit10 (a := (max (-ten) 0).toNat) (by omega)
  have fg := fit10 (a := g) (by omega)
  have r1 : (0 : Int) ≤ max ten 0 ∧ max ten 0 ≤ 2000 := by omega
  have r2 : (0 : Int) ≤ max (-ten) 0 ∧ max (-ten) 0 ≤ 2000 := by omega
  have hs : l.length ≤ 4096 ∧ a.length ≤ 4096 ∧ b.length ≤ 4096 ∧ a.length + b.length ≤ 640 ∧ (b.length : Int) ≤ 2000 ∧ g ≤ 4096 ∧ (g : Int) ≤ 2000 ∧ a.length + g ≤ 640 := by omega
  rw [call_eq (fd := ⟨2, 5, c_law_decimal⟩) rfl rfl]
  unfold c_law_decimal
  simp [finP, ex, ev, evs, biP, binP, binI, cmpP, cmpI, methP, lk, upd, upds, truth, slim, l_dot, S_length, S_append, h6, hi, f10, fR, fp, fq, fg, r1, r2, hs, h2]

theorem sp_parted {l : List Nat} {R g : Nat} {ten : Int} (h : IsDec l R g) (ht : ten.natAbs ≤ 100) :
    callP fuel code (m + 1) 35 [.str (S (l ++ [32, 120, 32, 49, 48] ++ (pw ten).map supOf))] st = some (.tup [.str (S l), .int g, .int ten], st) := by
  obtain ⟨hR, hg⟩ := h.lt
  have hl := h.len
  obtain ⟨a, b, ha, hb, h1, h2, h3, h4, h5, h6⟩ := h.part
  have h5' := h5
  rw [List.length_append] at h5'
  have hsp : Txt.split (S (l ++ ([32] ++ 120 :: [32, 49, 48]) ++ (pw ten).map supOf)) (S ([32] ++ 120 :: [32, 49, 48])) = [S l, S ((pw ten).map supOf)] :=
    split_at (h.free (by decide)) (fun hm => by
      obtain ⟨c, hc, e⟩ := List.mem_map.mp hm
      have := sup_big (pw_signs ten c hc)
      omega) (by decide) (by decide)
  simp only [List.cons_append, List.nil_append, List.append_assoc] at hsp
  have hpl := pw_len (i := ten) (by omega)
  have hback := sup_back (pw ten) (pw_signs ten)
  have hint := pw_int (i := ten) (by omega)
  have hs : b.length ≤ 4096 ∧ l.length ≤ 4096 ∧ (pw ten).length ≤ 4096 ∧ (pw ten).length ≤ 640 ∧ (pw ten).length + (pw ten).length ≤ 4096 ∧ l.length + ((pw ten).length + 1 + 1 + 1 + 1 + 1) ≤ 4096 ∧ g ≤ 4096 := by omega
  have hsum := sum_ones (pw ten)
  rw [call_eq (fd := ⟨1, 2, c_law_parted⟩) rfl rfl]
  unfold c_law_parted
  simp [finP, ex, ev, evs, biP, binP, binI, cmpP, cmpI, methP, itemP, itemL, comp2P, lk, upd, upds, truth, slim, l_dot, l_x10, l_nil, S_length, S_toList, h2, h6, hsp, hback, hint, hs, strs_one, join_ones, -List.map_map, hsum]
end
end Mine
end
section
open PySem PySem.Builtin PySem.Builtin.Str PySem.NumText
set_option Elab.async false
set_option maxRecDepth 100000
set_option exponentiation.threshold 2500
set_option linter.unusedSimpArgs false
namespace Mine

section
variable {fuel m : Nat} {st : Store}

theorem comp1_digits {l : List Nat} (h : AllDigits l) : l.filter (fun c => !Txt.contains (S [48, 49, 50, 51, 52, 53, 54, 55, 56, 57]) ⟨#[c]⟩) = [] := by
  rw [List.filter_eq_nil_iff]
  intro c hc
  have := h c hc
  have e : Txt.contains (S [48, 49, 50, 51, 52, 53, 54, 55, 56, 57]) ⟨#[c]⟩ = decide (c ∈ [48, 49, 50, 51, 52, 53, 54, 55, 56, 57]) := has_one _ c
  rw [e]
  simp
  omega

theorem sp_plain {l : List Nat} (h : AllDigits l) (h1 : l ≠ []) (h2 : l.length ≤ 4096) : callP fuel code (m + 1) 17 [.str (S l)] st = some (.bool true, st) := by
  have hf := comp1_digits h
  have hne : (S l != S []) = true := by
    simp only [bne, S_beq]
    simp [h1]
  rw [call_eq (fd := ⟨1, 0, cplain⟩) rfl rfl]
  unfold cplain
  simp [finP, ex, ev, evs, cmpP, comp1P, lk, truth, slim, l_nil, l_digs, S_length, S_toList, h2, hne, hf]

theorem sp_read {l : List Nat} {R g : Nat} (h : IsDec l R g) (hR0 : 0 < R) (hR : R < 10 ^ 100) (hg : g ≤ 20) :
    callP fuel code (m + 3) 18 [.str (S l)] st = some (.dbl (nearN R (10 ^ g)) (nearD R (10 ^ g)), st) := by
  have hl := h.len
  have hst := h.strip
  have hlo := h.lower
  have hne := h.ne
  obtain ⟨a, b, ha, hb, h1, h2, h3, h4, h5, h6⟩ := h.part
  have h5' := h5
  rw [List.length_append] at h5'
  obtain ⟨c, l', hcl⟩ : ∃ c l', l = c :: l' := by
    cases l with
    | nil => exact absurd rfl hne
    | cons c l' => exact ⟨c, l', rfl⟩
  have hc := h.signs c (by rw [hcl]; exact List.mem_cons_self ..)
  have hsl : Txt.slice (S l) none (some 1) = S [c] := by
    have := slice_to (l := l) (j := 1) (by rw [hcl]; simp)
    rw [hcl] at this ⊢
    exact this
  have n1 : c ≠ 45 ∧ c ≠ 43 := by omega
  have n2 : l ≠ [105, 110, 102] := fun e => by rw [e] at hcl; simp at hcl; omega
  have n3 : l ≠ [105, 110, 102, 105, 110, 105, 116, 121] := fun e => by rw [e] at hcl; simp at hcl; omega
  have n4 : l ≠ [110, 97, 110] := fun e => by rw [e] at hcl; simp at hcl; omega
  have hpe : Txt.partition (S l) (S [101]) = (S l, S [], S []) := part_no (h.free (by decide))
  have hi := int_S (ad_app ha hb) (by simp [h1]) (by omega : (a ++ b).length ≤ 640)
  rw [h3] at hi
  have hi0 : intText? (S [48]) = some 0 := int_S (l := [48]) (fun c hc => by simp at hc; omega) (by simp) (by simp)
  have hplain : callP fuel code (m + 2) 17 [.str (S (a ++ b))] st = some (.bool true, st) := sp_plain (ad_app ha hb) (by simp [h1]) (by omega)
  have f1 : fit 1 = true := fit_small (by decide)
  have f10 := fit10'
  have fR : fit (R : Int) = true := fitN (Nat.lt_trans hR (by decide +kernel))
  have fg := fit10 (a := g) (by omega)
  have m1 : max (-(g : Int)) 0 = 0 := by omega
  have m2 : max (g : Int) 0 = g := by omega
  have hs : l.length ≤ 4096 ∧ a.length ≤ 4096 ∧ b.length ≤ 4096 ∧ a.length + b.length ≤ 640 ∧ g ≤ 4096 ∧ (g : Int) ≤ 2000 ∧ a.length + g ≤ 640 ∧ g ≤ 2000 ∧ a.length ≤ 640 := by omega
  have p10 := pow10_pos g
  have p0 : (10 : Int) ^ g ≠ 0 := by omega
  have hR1 : R ≠ 0 := by omega
  have big : (10 : Int) ^ 100 < 2 ^ 600 := by decide +kernel
  have bR : (R : Int) < 2 ^ 600 := by
    have h1 : (R : Int) < ((10 ^ 100 : Nat) : Int) := Int.ofNat_lt.mpr hR
    have h2 : ((10 ^ 100 : Nat) : Int) < 2 ^ 600 := by decide +kernel
    omega
  have b10 : (10 : Int) ^ g < 2 ^ 600 := by have := pow10_le (show g ≤ 100 by omega); omega
  have hnear : callP fuel code (m + 2) 1 [.int (R : Int), .int (10 ^ g)] st = some (.tup [.int (nearN R (10 ^ g)), .int (nearD R (10 ^ g))], st) := sp_near (m := m) (by omega) p10 bR b10
  rw [call_eq (fd := ⟨1, 9, cread⟩) rfl rfl]
  unfold cread
  by_cases hg0 : g = 0
  · subst hg0
    have hb0 : b = [] := List.eq_nil_of_length_eq_zero h2
    subst hb0
    simp at h6 hnear hplain hi
    simp [finP, ex, ev, evs, biP, binP, binI, cmpP, cmpI, methP, sliceP, optI, strsOf, lk, upd, upds, truth, slim, beqD, bneD, S_eq, S_beq, S_length, S_append, l_min, l_plus, l_inf, l_infinity, l_nan, l_e, l_dot, l_pm, l_zero, l_nil, hst, hlo, hsl, n1, n2, n3, n4, hpe, h6, h2, hi, hi0, hplain, f1, f10, fR, fg, m1, m2, hs, hR1, p0, fNear, hnear]
  · simp [hg0] at h6
    simp [finP, ex, ev, evs, biP, binP, binI, cmpP, cmpI, methP, sliceP, optI, strsOf, lk, upd, upds, truth, slim, beqD, bneD, S_eq, S_beq, S_length, S_append, l_min, l_plus, l_inf, l_infinity, l_nan, l_e, l_dot, l_pm, l_zero, l_nil, hst, hlo, hsl, n1, n2, n3, n4, hpe, h6, h2, hi, hi0, hplain, f1, f10, fR, fg, m1, m2, hs, hR1, p0, fNear, hnear]
end
end Mine
end
section
open PySem PySem.Builtin PySem.Builtin.Str PySem.NumText
set_option Elab.async false
set_option maxRecDepth 100000
set_option exponentiation.threshold 2500
set_option linter.unusedSimpArgs false
namespace Mine

theorem l_comma : Str.ofString "," = S [44] := by rw [S_of]; rfl
theorem strs_S (gs : List (List Nat)) : strsOf (gs.map fun x => PVal.str (S x)) = some (gs.map S) := by
  induction gs with
  | nil => rfl
  | cons c l ih =>
    show (strsOf (l.map fun x => PVal.str (S x))).map (S c :: ·) = _
    rw [ih]; rfl
theorem sum_S (gs : List (List Nat)) : ((gs.map S).map (·.length)).sum = gs.flatten.length := by
  induction gs with
  | nil => rfl
  | cons c l ih =>
    simp only [List.map_cons, List.sum_cons, ih, S_length, List.flatten_cons, List.length_append]
theorem join_flat (gs : List (List Nat)) : (Str.join (S []) (gs.map S)).cps.toList = gs.flatten := by
  induction gs with
  | nil => rfl
  | cons c l ih =>
    cases l with
    | nil => simp [Str.join, S_toList]
    | cons d l =>
      show (S c ++ S [] ++ Str.join (S []) ((d :: l).map S)).cps.toList = _
      simp only [Str.cps_append, Array.toList_append, S_toList, ih]
      simp

def grT : PE := .cmp .Gt (.bi .len (.cons (.loc 1) (.nil))) (.lit (.int 3))
def grB : PS := .seq (.ins 5 (.slice (.loc 1) (.neg (.lit (.int 3))) (.lit .none))) (.seq (.asg 1 (.slice (.loc 1) (.lit .none) (.neg (.lit (.int 3))))) .skip)

section
variable {fuel m : Nat} {st : Store}

def GrI (x y z : Str) (a : List Nat) (st : Store) (k : Nat) (r : Rho) (s : Store) : Prop :=
  ∃ (w : List Nat) (gs : List (List Nat)), w ++ gs.flatten = a ∧ w.length ≤ k ∧ gs.length * 3 ≤ gs.flatten.length ∧ r = [some (.str x), some (.str (S w)), some (.str y), some (.str z), some (.str (S [])), some (.cell st.length)] ∧ s = st ++ [gs.map fun x => PVal.str (S x)]

theorem gr_loop {x y z : Str} {a : List Nat} (ha : a.length ≤ 200) (hf : 300 < fuel) (cf : CF) :
    ∃ (w : List Nat) (gs : List (List Nat)), w ++ gs.flatten = a ∧ gs.length * 3 ≤ gs.flatten.length ∧
      whileP (ev cf grT) (ex fuel cf grB) fuel [some (.str x), some (.str (S a)), some (.str y), some (.str z), some (.str (S [])), some (.cell st.length)] (st ++ [[]]) =
        some (.next, [some (.str x), some (.str (S w)), some (.str y), some (.str z), some (.str (S [])), some (.cell st.length)], st ++ [gs.map fun x => PVal.str (S x)]) := by
  obtain ⟨r', st', e, w, gs, h1, h2, rfl, rfl⟩ := while_run (test := ev cf grT) (body := ex fuel cf grB) (GrI x y z a st)
    (fun r s => ∃ (w : List Nat) (gs : List (List Nat)), w ++ gs.flatten = a ∧ gs.length * 3 ≤ gs.flatten.length ∧ r = [some (.str x), some (.str (S w)), some (.str y), some (.str z), some (.str (S [])), some (.cell st.length)] ∧ s = st ++ [gs.map fun x => PVal.str (S x)])
    (by
      rintro k r s ⟨w, gs, h1, h2, h3, rfl, rfl⟩
      have hlen : w.length + gs.flatten.length = a.length := by rw [← h1, List.length_append]
      have hs : w.length ≤ 4096 ∧ gs.length ≤ 4096 := by omega
      by_cases hw : 3 < w.length
      · have hw' : (3 : Int) < w.length := by omega
        have s1 : Txt.slice (S w) (some (-3)) none = S (w.drop (w.length - 3)) := slice_from_neg (j := 3) (by decide) (by omega)
        have s2 : Txt.slice (S w) none (some (-3)) = S (w.take (w.length - 3)) := slice_to_neg (j := 3) (by decide) (by omega)
        refine ⟨.bool true, st ++ [gs.map fun x => PVal.str (S x)], ?_, .inr ⟨rfl, k - 1, [some (.str x), some (.str (S (w.take (w.length - 3)))), some (.str y), some (.str z), some (.str (S [])), some (.cell st.length)], st ++ [(w.drop (w.length - 3) :: gs).map fun x => PVal.str (S x)], by omega, ?_, w.take (w.length - 3), w.drop (w.length - 3) :: gs, ?_, ?_, ?_, rfl, rfl⟩⟩
        · unfold grT
          simp [ev, evs, biP, cmpP, cmpI, lk, slim, S_length, hs, hw']
        · unfold grB
          simp [ex, ev, evs, biP, cmpP, cmpI, sliceP, optI, lk, upd, slim, S_length, hs, s1, s2]
        · rw [List.flatten_cons, ← List.append_assoc, List.take_append_drop]; exact h1
        · simp; omega
        · simp [-List.length_flatten]; omega
      · refine ⟨.bool false, st ++ [gs.map fun x => PVal.str (S x)], ?_, .inl ⟨rfl, w, gs, h1, h3, rfl, rfl⟩⟩
        unfold grT
        have hw' : (w.length : Int) ≤ 3 := by omega
        simp [ev, evs, biP, cmpP, cmpI, lk, slim, S_length, hs, hw, hw'])
    200 _ _ fuel ⟨a, [], by simp, ha, by simp, rfl, rfl⟩ (by omega)
  exact ⟨w, gs, h1, h2, e⟩

theorem sp_grouped {l : List Nat} {R g : Nat} (h : IsDec l R g) (hf : 300 < fuel) :
    ∃ (l' : List Nat) (x : List PVal), l'.filter (fun d => d != 44) = l ∧ l'.length ≤ 1000 ∧ callP fuel code (m + 1) 20 [.str (S l)] st = some (.str (S l'), st ++ [x]) := by
  have hl := h.len
  have hne := h.ne
  obtain ⟨a, b, ha, hb, h1, h2, h3, h4, h5, h6⟩ := h.part
  have h5' := h5
  rw [List.length_append] at h5'
  obtain ⟨w, gs, g1, g2, e⟩ := gr_loop (st := st) (x := S l) (y := if g = 0 then S [] else S [46]) (z := S b) (a := a) (by omega) hf (callP fuel code m)
  have hlen : w.length + gs.flatten.length = a.length := by rw [← g1, List.length_append]
  have hs : l.length ≤ 4096 ∧ a.length ≤ 4096 ∧ b.length ≤ 4096 ∧ gs.length ≤ 4096 ∧ w.length + gs.flatten.length + (gs.length + 1) ≤ 4096 := by omega
  obtain ⟨c, a', hca⟩ : ∃ c a', a = c :: a' := by
    cases a with
    | nil => exact absurd rfl h1
    | cons c a' => exact ⟨c, a', rfl⟩
  have hc := ha c (by rw [hca]; exact List.mem_cons_self ..)
  have hsl : Txt.slice (S a) none (some 1) = S [c] := by
    have := slice_to (l := a) (j := 1) (by rw [hca]; simp)
    rw [hca] at this ⊢
    exact this
  have n1 : c ≠ 45 := by omega
  have hs0 : Txt.slice (S a) (some 0) none = S a := slice_from (j := 0) (by simp)
  have hstr : strsOf (.str (S w) :: gs.map fun x => PVal.str (S x)) = some ((w :: gs).map S) := strs_S (w :: gs)
  have hsum : (((w :: gs).map S).map (·.length)).sum = (w :: gs).flatten.length := sum_S (w :: gs)
  obtain ⟨J, hJ⟩ : ∃ J, Str.join (S [44]) ((w :: gs).map S) = S J := ⟨_, S_mk rfl⟩
  have hfree : ∀ p ∈ (w :: gs).map S, 44 ∉ p.cps.toList := by
    intro p hp
    obtain ⟨q, hq, rfl⟩ := List.mem_map.mp hp
    rw [S_toList]
    intro hm
    have : 44 ∈ a := by
      rw [← g1]
      rcases List.mem_cons.mp hq with rfl | hq
      · exact List.mem_append.mpr (.inl hm)
      · exact List.mem_append.mpr (.inr (List.mem_flatten.mpr ⟨q, hq, hm⟩))
    exact absurd (ha 44 this) (by decide)
  have hJf : J.filter (fun d => d != 44) = a := by
    have h8 := join_free 44 _ hfree
    rw [hJ, S_toList, join_flat] at h8
    rw [← h8, ← g1]; rfl
  have hJl : J.length ≤ 500 := by
    have h8 := StrLaws.join_length_le (S [44]) ((w :: gs).map S)
    rw [hJ, S_length, S_length, hsum] at h8
    simp [-List.length_flatten] at h8
    omega
  have hbf : b.filter (fun d => d != 44) = b := by
    rw [List.filter_eq_self]
    intro d hd
    have := hb d hd
    simp; omega
  have e44 : Txt.join (S [44]) ((w :: gs).map S) = S J := by rw [join_S, hJ]
  have hJs : J.length ≤ 4096 ∧ J.length + 1 ≤ 4096 := by omega
  rw [ex_whl] at e
  refine ⟨J ++ (if g = 0 then [] else [46]) ++ b, gs.map fun x => PVal.str (S x), ?_, ?_, ?_⟩
  · rw [List.filter_append, List.filter_append, hJf, hbf, h4]
    split
    · have : b = [] := List.eq_nil_of_length_eq_zero (by omega)
      simp [this]
    · simp
  · split <;> simp <;> omega
  · rw [call_eq (fd := ⟨1, 5, cgrouped⟩) rfl rfl]
    have hcode : cgrouped = .seq (.unp [1, 2, 3] (.meth (.loc 0) .partition (.cons (.lit (.str (PySem.Str.ofString "."))) (.nil))))
      (.seq (.asg 4 (.ite (.cmp .Eq (.slice (.loc 1) (.lit .none) (.lit (.int 1))) (.lit (.str (PySem.Str.ofString "-")))) (.lit (.str (PySem.Str.ofString "-"))) (.lit (.str (PySem.Str.ofString "")))))
      (.seq (.asg 1 (.slice (.loc 1) (.bi .len (.cons (.loc 4) (.nil))) (.lit .none)))
      (.seq (.newc 5 (.nil))
      (.seq (.whl grT grB)
      (.seq (.ret (.bin .Add (.bin .Add (.bin .Add (.loc 4) (.meth (.lit (.str (PySem.Str.ofString ","))) .join (.cons (.bin .Add (.lst (.cons (.loc 1) (.nil))) (.loc 5)) (.nil)))) (.loc 2)) (.loc 3)))
      (.skip)))))) := rfl
    rw [hcode]
    generalize PS.whl grT grB = W at e ⊢
    by_cases hg0 : g = 0
    · simp [hg0] at h6 e ⊢
      simp [finP, ex, ev, evs, biP, binP, binI, cmpP, cmpI, methP, sliceP, optI, lk, upd, upds, truth, slim, S_eq, S_beq, S_length, S_append, l_min, l_dot, l_nil, l_comma, hsl, hs0, n1, h6, e, hs, hstr, -List.map_map, -List.map_cons, -List.length_flatten, List.flatten_cons, List.length_append, hsum, e44, hJs]
    · simp [hg0] at h6 e ⊢
      simp [finP, ex, ev, evs, biP, binP, binI, cmpP, cmpI, methP, sliceP, optI, lk, upd, upds, truth, slim, S_eq, S_beq, S_length, S_append, l_min, l_dot, l_nil, l_comma, hsl, hs0, n1, h6, e, hs, hstr, -List.map_map, -List.map_cons, -List.length_flatten, List.flatten_cons, List.length_append, hsum, e44, hJs]
end
end Mine
end
section
open PySem PySem.Builtin PySem.Builtin.Str PySem.NumText
set_option Elab.async false
set_option maxRecDepth 100000
set_option exponentiation.threshold 2500
set_option linter.unusedSimpArgs false
namespace Mine

theorem zp_of_lt {b : Rat} (hb : 1 ≤ b) {m n : Int} (h : b ^ m < b ^ n) : m < n := by
  apply Decidable.byContradiction
  intro hn
  have := zp_mono hb (show n ≤ m by omega)
  grind
theorem t0 : (0 : Rat) < 2 := by decide +kernel
theorem t1 : (1 : Rat) ≤ 2 := by decide +kernel
theorem k0 : (0 : Rat) < 10 := by decide +kernel
theorem k1 : (1 : Rat) ≤ 10 := by decide +kernel
theorem c2 : ((2 : Int) : Rat) = 2 := rfl
theorem c10 : ((10 : Int) : Rat) = 10 := rfl

/-- t is the double nearest to x -/
def IsNear (x t : Rat) : Prop := ∃ s w, IsFl 2 52 x t s w

theorem IsFl.pos {b : Int} {p : Nat} {x t : Rat} {s w : Int} (hb : 1 ≤ b) (h : IsFl b p x t s w) : 0 < x ∧ 0 < t ∧ 0 < w := by
  have hb' : (1 : Rat) ≤ (b : Rat) := castle hb
  have b0 : (0 : Rat) < (b : Rat) := by grind
  have p2 := zp_pos b0 (-s)
  have pp := zp_pos b0 (p : Int)
  have hu := h.unit hb
  have hr := h.range.1
  have hw : 0 < w := by have : 0 < b ^ p := Int.pow_pos (by omega); omega
  have hwq : (0 : Rat) < (w : Rat) := castlt hw
  have m := Rat.mul_pos pp p2
  refine ⟨by grind, ?_, hw⟩
  rw [h.eq]
  exact Rat.mul_pos hwq p2

theorem IsNear.pos {x t : Rat} (h : IsNear x t) : 0 < x ∧ 0 < t := by
  obtain ⟨s, w, h⟩ := h
  exact ⟨(h.pos (by decide)).1, (h.pos (by decide)).2.1⟩
theorem IsNear.mono {x t x' t' : Rat} (h : IsNear x t) (h' : IsNear x' t') (hle : x ≤ x') : t ≤ t' := by
  obtain ⟨s, w, h⟩ := h
  obtain ⟨s', w', h'⟩ := h'
  exact h.mono (by decide) h' hle
theorem IsNear.uniq {x t t' : Rat} (h : IsNear x t) (h' : IsNear x t') : t = t' := Rat.le_antisymm (h.mono h' Rat.le_refl) (h'.mono h Rat.le_refl)
theorem IsNear.err {x t : Rat} (h : IsNear x t) : 9007199254740992 * (x - t) ≤ x ∧ 9007199254740992 * (t - x) ≤ x := by
  obtain ⟨s, w, h⟩ := h
  have e := h.err (by decide)
  have u := h.unit (by decide)
  rw [c2] at e u
  have e52 : (2 : Rat) ^ ((52 : Nat) : Int) = 4503599627370496 := by decide +kernel
  rw [e52] at u
  generalize (2 : Rat) ^ (-s) = z at e u
  grind
theorem halve {t z : Rat} (h : t * (z * 2) = 9007199254740992) : t * z = 4503599627370496 := by grind
theorem IsNear.self {x t : Rat} (h : IsNear x t) : IsNear t t := by
  obtain ⟨s, w, h⟩ := h
  have hr := h.range
  have e := h.eq
  have n := zp_neg t0 s
  rw [c2] at e
  have ets : t * (2 : Rat) ^ s = w := by
    rw [e]
    have : (w : Rat) * (2 : Rat) ^ (-s) * (2 : Rat) ^ s = w * ((2 : Rat) ^ s * (2 : Rat) ^ (-s)) := by grind
    rw [this, n]; grind
  have e52 : (2 : Rat) ^ ((52 : Nat) : Int) = 4503599627370496 := by decide +kernel
  have e53 : (2 : Rat) ^ (((52 : Nat) : Int) + 1) = 9007199254740992 := by decide +kernel
  by_cases hw : w = 2 ^ 53
  · have em := zp_add t0 (s - 1) 1
    rw [Rat.zpow_one, show s - 1 + 1 = s by omega] at em
    have h1 : (w : Rat) = 9007199254740992 := by rw [hw]; decide +kernel
    rw [em, h1] at ets
    have half := halve ets
    have h2 : ((2 ^ 52 : Int) : Rat) = 4503599627370496 := by decide +kernel
    refine ⟨s - 1, 2 ^ 52, ⟨?_, ?_⟩, ?_, ?_⟩
    all_goals rw [c2]
    · rw [e52, half]; exact Rat.le_refl
    · rw [e53, half]; decide +kernel
    · rw [half, ← h2]
      exact IsR.whole _
    · have em2 := zp_add t0 (-s) 1
      rw [Rat.zpow_one, show -s + 1 = -(s - 1) by omega] at em2
      rw [em2, e, h1, h2]
      generalize (2 : Rat) ^ (-s) = z
      clear e n em em2 ets half
      grind
  · refine ⟨s, w, ⟨?_, ?_⟩, ?_, ?_⟩
    all_goals rw [c2]
    · rw [ets, e52]
      have := castle hr.1
      have h2 : ((2 ^ 52 : Int) : Rat) = 4503599627370496 := by decide +kernel
      grind
    · rw [ets, e53]
      have := castlt (show w < 2 ^ 53 by omega)
      have h2 : ((2 ^ 53 : Int) : Rat) = 9007199254740992 := by decide +kernel
      grind
    · rw [ets]; exact IsR.whole w
    · exact e
theorem IsNear.idem {x t u : Rat} (h : IsNear x t) (h' : IsNear t u) : u = t := h'.uniq h.self

/-- a double of moderate size, by its value -/
def DB (v : PVal) (t : Rat) : Prop := ∃ N D : Int, v = .dbl N D ∧ 0 < N ∧ 0 < D ∧ N < 2 ^ 230 ∧ D < 2 ^ 230 ∧ t * D = N

theorem zp2_le {k : Nat} {a : Rat} (h : a ≤ (2 : Rat) ^ (k : Int)) : a ≤ ((2 ^ k : Int) : Rat) := by rw [zp_nat]; exact h

theorem near_db {n d : Int} {x : Rat} (hn : 0 < n) (hd : 0 < d) (hx : x * d = n) (lo : (2 : Rat) ^ (-150 : Int) ≤ x) (hi : x ≤ (2 : Rat) ^ (150 : Int)) :
    ∃ t, IsNear x t ∧ DB (.dbl (nearN n d) (nearD n d)) t := by
  have hfl := near_fl hn hd hx
  have hw := hfl.range
  refine ⟨_, ⟨_, _, hfl⟩, nearN n d, nearD n d, rfl, ?_, nearD_pos n d, ?_, ?_, near_val⟩
  · unfold nearN
    exact Int.mul_pos (hfl.pos (by decide)).2.2 (Int.pow_pos (by decide))
  all_goals
    have s1 : sc1 n d < 203 := by
      have h1 := hfl.sc.hi
      have p := zp_pos t0 (sc1 n d)
      have h2 := Rat.mul_le_mul_of_nonneg_left lo (show (0 : Rat) ≤ (2 : Rat) ^ (sc1 n d) by grind)
      rw [← zp_add t0] at h2
      have h3 : (2 : Rat) ^ (sc1 n d + -150) < (2 : Rat) ^ (((52 : Nat) : Int) + 1) := by rw [c2] at h1; grind
      have := zp_of_lt t1 h3
      omega
    have s2 : -99 < sc1 n d := by
      have h1 := hfl.sc.lo
      have p := zp_pos t0 (sc1 n d)
      have h2 := Rat.mul_le_mul_of_nonneg_left hi (show (0 : Rat) ≤ (2 : Rat) ^ (sc1 n d) by grind)
      rw [← zp_add t0] at h2
      have h3 : (2 : Rat) ^ ((51 : Int)) < (2 : Rat) ^ (sc1 n d + 150) := by
        rw [c2] at h1
        have e52 : (2 : Rat) ^ ((52 : Nat) : Int) = 4503599627370496 := by decide +kernel
        have e51 : (2 : Rat) ^ (51 : Int) = 2251799813685248 := by decide +kernel
        rw [e52] at h1; rw [e51]
        grind
      have := zp_of_lt t1 h3
      omega
  · unfold nearN
    exact mul_pow_lt (j := 54) (by omega) (by omega)
  · unfold nearD
    exact pow_lt_pow (by omega)
end Mine
end
section
open PySem PySem.Builtin PySem.Builtin.Str PySem.NumText
set_option Elab.async false
set_option maxRecDepth 100000
set_option exponentiation.threshold 2500
set_option linter.unusedSimpArgs false
namespace Mine

def Rng (t : Rat) : Prop := (10 : Rat) ^ (-30 : Int) ≤ t ∧ t ≤ (10 : Rat) ^ (36 : Int)
theorem Rng.two {t : Rat} (h : Rng t) : (2 : Rat) ^ (-150 : Int) ≤ t ∧ t ≤ (2 : Rat) ^ (150 : Int) := by
  have a : (2 : Rat) ^ (-150 : Int) ≤ (10 : Rat) ^ (-30 : Int) := by decide +kernel
  have b : (10 : Rat) ^ (36 : Int) ≤ (2 : Rat) ^ (150 : Int) := by decide +kernel
  exact ⟨Rat.le_trans a h.1, Rat.le_trans h.2 b⟩
theorem Rng.exp {t : Rat} {k : Int} (h : Rng t) (hk : IsSc 10 0 t (-k)) : -31 ≤ k ∧ k ≤ 36 := by
  have p := zp_pos k0 k
  have n := zp_neg k0 k
  have a := Rat.mul_le_mul_of_nonneg_left hk.lo (show (0 : Rat) ≤ (10 : Rat) ^ k by grind)
  have b := Rat.mul_lt_mul_of_pos_left hk.hi p
  rw [Rat.zpow_zero] at a
  rw [show (0 : Int) + 1 = 1 by omega, Rat.zpow_one] at b
  have e : (10 : Rat) ^ k * (t * (10 : Rat) ^ (-k)) = t := by
    have : (10 : Rat) ^ k * (t * (10 : Rat) ^ (-k)) = t * ((10 : Rat) ^ k * (10 : Rat) ^ (-k)) := by grind
    rw [this, n]; grind
  rw [e] at a b
  have c := zp_add k0 k 1
  rw [Rat.zpow_one] at c
  rw [← c] at b
  have h1 : (10 : Rat) ^ k < (10 : Rat) ^ (37 : Int) := by
    have : (10 : Rat) ^ (36 : Int) < (10 : Rat) ^ (37 : Int) := by decide +kernel
    have := h.2
    grind
  have h2 : (10 : Rat) ^ (-30 : Int) < (10 : Rat) ^ (k + 1) := Std.lt_of_le_of_lt h.1 b
  have := zp_of_lt k1 h1
  have := zp_of_lt k1 h2
  omega

theorem dig_exact {W g : Nat} (h1 : 10 ^ g ≤ W) (h2 : W < 10 ^ (g + 1)) : (dig W).length = g + 1 := by
  have a := (dig_len (n := W) (k := g + 1) (by omega)).mpr h2
  by_cases h0 : g = 0
  · subst h0
    have := dig_pos W
    omega
  · have b : ¬ (dig W).length ≤ g := fun h => by
      have := (dig_len (n := W) (k := g) (by omega)).mp h
      omega
    omega

theorem zp10_max (a b : Int) : (10 : Rat) ^ (max (a - b) 0) = (10 : Rat) ^ (a - b) * (10 : Rat) ^ (max (b - a) 0) := by
  rw [← zp_add k0]
  congr 1
  omega
theorem zp10i (k : Int) (hk : 0 ≤ k) : (((10 : Int) ^ k.toNat : Int) : Rat) = (10 : Rat) ^ k := by
  rw [zp10 k.toNat, Int.toNat_of_nonneg hk]

theorem mul_lt_2 {a b : Int} {i j k : Nat} (ha : 0 ≤ a) (h1 : a < 2 ^ i) (hb : 0 < b) (h2 : b < 2 ^ j) (hk : i + j ≤ k) : a * b < 2 ^ k := by
  have p : (0 : Int) < 2 ^ i := Int.pow_pos (by decide)
  have h3 : a * b ≤ 2 ^ i * b := Int.mul_le_mul_of_nonneg_right (by omega) (by omega)
  have h4 : 2 ^ i * b < 2 ^ i * 2 ^ j := Int.mul_lt_mul_of_pos_left h2 p
  rw [← Int.pow_add] at h4
  have := pow_le_pow hk
  omega

/-- the mantissa's text -/
theorem mant_text {W g : Nat} (hg : g ≤ 14) (h1 : 10 ^ g ≤ W) (h2 : W < 10 ^ (g + 1)) : ∃ c r, dig W = c :: r ∧ r.length = g ∧ IsDec (c :: (if g = 0 then [] else 46 :: r)) W g := by
  have hl := dig_exact h1 h2
  cases hd : dig W with
  | nil => rw [hd] at hl; simp at hl
  | cons c r =>
    rw [hd] at hl
    have hr : r.length = g := by simpa using hl
    have ha := dig_all W
    rw [hd] at ha
    refine ⟨c, r, rfl, hr, ⟨⟨[c], r, fun x hx => ?_, fun x hx => ha x (List.mem_cons_of_mem _ hx), by simp, hr, ?_, rfl⟩, ?_⟩⟩
    · rw [List.mem_singleton.mp hx]; exact ha.head
    · show digitsVal (c :: r) = W
      rw [← hd, dig_val]
    · split <;> simp <;> omega

section
variable {fuel m : Nat} {st : Store}

theorem sp_mant {N D : Int} {t : Rat} {g : Nat} (hN : 0 < N) (hD : 0 < D) (bN : N < 2 ^ 230) (bD : D < 2 ^ 230) (ht : t * D = N) (hs : IsNear t t) (hr : Rng t) (hg : g ≤ 14) (hf : 700 < fuel) :
    ∃ (W : Nat) (e k : Int) (l : List Nat) (T : Rat) (W0 : Int), IsDec l W g ∧ IsFl 10 g t T (g - k) W0 ∧ T = (W : Rat) * (10 : Rat) ^ (e - g) ∧ k ≤ e ∧ e ≤ k + 1 ∧ 10 ^ g ≤ W ∧ W < 10 ^ (g + 1) ∧ -31 ≤ k ∧ k ≤ 36 ∧
      callP fuel code (m + 4) 22 [.dbl N D, .int g] st = some (.tup [.str (S l), .int e], st) := by
  have w1 : (2 : Int) ^ 230 < 2 ^ 600 := pow_lt_pow (by decide)
  obtain ⟨u, hu, a, b, e0, ha, hb, ba, bb, hab⟩ := near_db hN hD ht hr.two.1 hr.two.2
  have eu := hs.idem hu
  rw [eu] at hab
  clear hu eu
  injection e0 with ea eb
  obtain ⟨k, _, _, hk, hlog⟩ := sp_wlog (fuel := fuel) (m := m + 1) (st := st) ha hb (by omega) (by omega) hf hab
  rw [← ea, ← eb] at hlog
  obtain ⟨hk1, hk2⟩ := hr.exp hk
  have hsize := sp_size (fuel := fuel) (m := m) (st := st) hN hD (by omega) (by omega)
  have d0 : (0 : Rat) < (D : Rat) := castlt hD
  have fN : fit N = true := fit_pow (Int.le_of_lt hN) bN (by decide)
  have fD : fit D = true := fit_pow (Int.le_of_lt hD) bD (by decide)
  have f10 := fit10'
  have f1 : fit 1 = true := fit_small (by decide)
  have fp := fit10 (a := (max ((g : Int) - k) 0).toNat) (by omega)
  have fq := fit10 (a := (max (k - (g : Int)) 0).toNat) (by omega)
  have pq := pow10_pos (max (k - (g : Int)) 0).toNat
  have hdq : 0 < D * 10 ^ (max (k - (g : Int)) 0).toNat := Int.mul_pos hD pq
  have fdq : fit (D * 10 ^ (max (k - (g : Int)) 0).toNat) = true := by
    have := pow10_lt2 (a := (max (k - (g : Int)) 0).toNat)
    have := mul_lt_2 (Int.le_of_lt hD) bD pq this (Nat.le_refl _)
    exact fit_pow (Int.le_of_lt hdq) this (by omega)
  have call := sp_rounded (fuel := fuel) (n := m + 2) (st := st) (a := N * 10 ^ (max ((g : Int) - k) 0).toNat) hdq fdq
  have hR : IsR (t * (10 : Rat) ^ ((g : Int) - k)) (rnd (N * 10 ^ (max ((g : Int) - k) 0).toNat) (D * 10 ^ (max (k - (g : Int)) 0).toNat)) := by
    refine rnd_isR hdq ?_
    rw [Rat.intCast_mul, Rat.intCast_mul, zp10i _ (by omega), zp10i _ (by omega), zp10_max (g : Int) k, ← ht]
    generalize (10 : Rat) ^ ((g : Int) - k) = z
    generalize (10 : Rat) ^ (max (k - (g : Int)) 0) = y
    clear call hlog hsize
    grind
  generalize rnd (N * 10 ^ (max ((g : Int) - k) 0).toNat) (D * 10 ^ (max (k - (g : Int)) 0).toNat) = W0 at call hR
  have hsc : IsSc ((10 : Int) : Rat) g t ((g : Int) - k) := by
    have p := zp_pos k0 (g : Int)
    rw [c10]
    have e1 : (10 : Rat) ^ ((g : Int) - k) = (10 : Rat) ^ (g : Int) * (10 : Rat) ^ (-k) := by rw [← zp_add k0]; congr 1
    have lo := Rat.mul_le_mul_of_nonneg_left hk.lo (show (0 : Rat) ≤ (10 : Rat) ^ (g : Int) by grind)
    have hi := Rat.mul_lt_mul_of_pos_left hk.hi p
    rw [Rat.zpow_zero] at lo
    rw [show (0 : Int) + 1 = 1 by omega, Rat.zpow_one] at hi
    have e2 := zp_add k0 (g : Int) 1
    rw [Rat.zpow_one] at e2
    refine ⟨?_, ?_⟩
    · rw [e1]; grind
    · rw [e1, e2]; grind
  have hfl : IsFl 10 g t ((W0 : Rat) * (10 : Rat) ^ (-((g : Int) - k))) ((g : Int) - k) W0 := ⟨hsc, by rw [c10]; exact hR, by rw [c10]⟩
  have hrg := hfl.range
  have hw0 := (hfl.pos (by decide)).2.2
  have habs : ((N.natAbs : Nat) : Int) = N := by omega
  have hN0 : N ≠ 0 := by omega
  have hnn : ¬ N < 0 := by omega
  have r1 : (0 : Int) ≤ max ((g : Int) - k) 0 ∧ max ((g : Int) - k) 0 ≤ 2000 := by omega
  have r2 : (0 : Int) ≤ max (k - (g : Int)) 0 ∧ max (k - (g : Int)) 0 ≤ 2000 := by omega
  have r3 : (0 : Int) ≤ (g : Int) + 1 ∧ (g : Int) + 1 ≤ 2000 ∧ (g : Int) + 1 ≤ 4096 ∧ (g : Int) ≤ 2000 ∧ ((g : Int) + 1).toNat = g + 1 := by omega
  have hpar : callP fuel code (m + 3) 2 [.dbl N D] st = some (.tup [.int N, .int D], st) := sp_parts
  have gs : g ≤ 4096 ∧ g + 1 ≤ 4096 ∧ g ≤ 2000 ∧ (0 : Int) ≤ g := by omega
  by_cases hc : W0 = 10 ^ (g + 1)
  · have hW1 : 10 ^ g < 10 ^ (g + 1) := Nat.pow_lt_pow_right (by decide) (by omega)
    obtain ⟨c, r, hd, hrl, hdec⟩ := mant_text (W := 10 ^ g) hg (Nat.le_refl _) hW1
    refine ⟨10 ^ g, k + 1, k, _, _, W0, hdec, hfl, ?_, by omega, by omega, Nat.le_refl _, hW1, hk1, hk2, ?_⟩
    · rw [hc, zp10, Rat.natCast_pow, ← Rat.zpow_natCast]
      have : ((10 : Nat) : Rat) = 10 := rfl
      rw [this, ← zp_add k0, ← zp_add k0]
      congr 1; omega
    · have hst : Str.ofString (Int.repr ((10 : Int) ^ g)) = S (c :: r) := by
        rw [rep_pos (Int.le_of_lt (pow10_pos g)), ← hd]
        congr 2
      have hz : Txt.zfill (S (c :: r)) ((g : Int) + 1) = S (c :: r) := by
        have := zfill_S (l := c :: r) (g + 1) (by rw [← hd]; exact dig_all _) (by simp)
        rw [show ((g + 1 : Nat) : Int) = (g : Int) + 1 by omega] at this
        rw [this]
        have : g + 1 - (c :: r).length = 0 := by simp; omega
        rw [this]; simp
      have hi := item_S c r
      have hsl : Txt.slice (S (c :: r)) (some 1) none = S r := slice_from (j := 1) (by simp)
      have fpg := fit10 (a := g) (by omega)
      rw [call_eq (fd := ⟨2, 5, cmantissa_and_power⟩) rfl rfl]
      unfold cmantissa_and_power
      by_cases hg0 : g = 0
      · subst hg0
        have hr0 : r = [] := List.eq_nil_of_length_eq_zero hrl
        subst hr0
        simp at call fp fq fdq r1 r2 r3 hst hz hc
        simp [finP, ex, ev, evs, biP, binP, binI, cmpP, cmpI, methP, itemP, itemL, sliceP, optI, lk, upd, upds, truth, slim, beqD, bneD, S_length, S_append, l_min, l_dot, l_nil, hpar, hN0, hnn, fSize, hsize, hlog, habs, fN, fD, f10, f1, fp, fq, fdq, r1, r2, r3, gs, call, hc, hst, hz, hi, hsl, fpg]
      · simp [finP, ex, ev, evs, biP, binP, binI, cmpP, cmpI, methP, itemP, itemL, sliceP, optI, lk, upd, upds, truth, slim, beqD, bneD, S_length, S_append, l_min, l_dot, l_nil, hpar, hN0, hnn, fSize, hsize, hlog, habs, fN, fD, f10, f1, fp, fq, fdq, r1, r2, r3, gs, call, hc, hst, hz, hi, hsl, fpg, hg0, hrl]
  · obtain ⟨W, rfl⟩ := Int.eq_ofNat_of_zero_le (Int.le_of_lt hw0)
    have hW0 : 10 ^ g ≤ W := by have := hrg.1; exact_mod_cast this
    have hW1 : W < 10 ^ (g + 1) := by
      have h1 : W ≤ 10 ^ (g + 1) := by have := hrg.2; exact_mod_cast this
      have h2 : W ≠ 10 ^ (g + 1) := fun e => hc (by rw [e]; exact_mod_cast rfl)
      omega
    obtain ⟨c, r, hd, hrl, hdec⟩ := mant_text (W := W) hg hW0 hW1
    refine ⟨W, k, k, _, _, (W : Int), hdec, hfl, ?_, by omega, by omega, hW0, hW1, hk1, hk2, ?_⟩
    · rw [show -((g : Int) - k) = k - g by omega]; rfl
    · have hst : Str.ofString (Int.repr ((W : Nat) : Int)) = S (c :: r) := by
        rw [rep_pos (by omega), ← hd]; rfl
      have hz : Txt.zfill (S (c :: r)) ((g : Int) + 1) = S (c :: r) := by
        have := zfill_S (l := c :: r) (g + 1) (by rw [← hd]; exact dig_all _) (by simp)
        rw [show ((g + 1 : Nat) : Int) = (g : Int) + 1 by omega] at this
        rw [this]
        have : g + 1 - (c :: r).length = 0 := by simp; omega
        rw [this]; simp
      have hi := item_S c r
      have hsl : Txt.slice (S (c :: r)) (some 1) none = S r := slice_from (j := 1) (by simp)
      have fW : fit (W : Int) = true := fitN (Nat.lt_of_lt_of_le hW1 (Nat.pow_le_pow_right (by decide) (by omega)))
      rw [call_eq (fd := ⟨2, 5, cmantissa_and_power⟩) rfl rfl]
      unfold cmantissa_and_power
      by_cases hg0 : g = 0
      · subst hg0
        have hr0 : r = [] := List.eq_nil_of_length_eq_zero hrl
        subst hr0
        simp at call fp fq fdq r1 r2 r3 hst hz hc
        simp [finP, ex, ev, evs, biP, binP, binI, cmpP, cmpI, methP, itemP, itemL, sliceP, optI, lk, upd, upds, truth, slim, beqD, bneD, S_length, S_append, l_min, l_dot, l_nil, hpar, hN0, hnn, fSize, hsize, hlog, habs, fN, fD, f10, f1, fp, fq, fdq, r1, r2, r3, gs, call, hc, hst, hz, hi, hsl, fW]
      · simp [finP, ex, ev, evs, biP, binP, binI, cmpP, cmpI, methP, itemP, itemL, sliceP, optI, lk, upd, upds, truth, slim, beqD, bneD, S_length, S_append, l_min, l_dot, l_nil, hpar, hN0, hnn, fSize, hsize, hlog, habs, fN, fD, f10, f1, fp, fq, fdq, r1, r2, r3, gs, call, hc, hst, hz, hi, hsl, fW, hg0, hrl]
end
end Mine
end
section
open PySem PySem.Builtin PySem.Builtin.Str PySem.NumText
set_option Elab.async false
set_option maxRecDepth 100000
set_option exponentiation.threshold 2500
set_option linter.unusedSimpArgs false
namespace Mine

/-- what the law asks of one telling -/
def ToldOk (cut : Int) (t T : Rat) (v : PVal) : Prop := ∃ tt tl pl pls : Int, v = .tup [.int tt, .int tl, .int pl, .int pls] ∧ 0 < tl ∧ 0 < pls ∧ 0 ≤ tt ∧ 0 ≤ pl ∧ tt < 2 ^ 400 ∧ tl < 2 ^ 400 ∧ pl < 2 ^ 400 ∧ pls < 2 ^ 400 ∧
  T * tl = tt ∧ ∃ U : Rat, U * pls = pl ∧ 20000 * (t - T) ≤ 10001 * U + 20001 * cut ∧ 20000 * (T - t) ≤ 10001 * U + 20001 * cut

theorem p10_lt {k : Nat} (h : k ≤ 99) : (10 : Int) ^ k < 2 ^ 400 := by
  have := pow10_le h
  have : (10 : Int) ^ 99 < 2 ^ 400 := by decide +kernel
  omega

theorem dec_told {cut ten : Int} {t T : Rat} {R g : Nat} (hR : R < 10 ^ 50) (hg : g ≤ 20) (ht : ten.natAbs ≤ 40) (hT : T = (R : Rat) * (10 : Rat) ^ (ten - g))
    (h1 : 20000 * (t - T) ≤ 10001 * (10 : Rat) ^ (ten - g) + 20001 * cut) (h2 : 20000 * (T - t) ≤ 10001 * (10 : Rat) ^ (ten - g) + 20001 * cut) :
    ToldOk cut t T (.tup [.int (R * 10 ^ (max ten 0).toNat), .int (10 ^ g * 10 ^ (max (-ten) 0).toNat), .int (10 ^ (max ten 0).toNat), .int (10 ^ g * 10 ^ (max (-ten) 0).toNat)]) := by
  have p1 := pow10_pos (max ten 0).toNat
  have p2 := pow10_pos (max (-ten) 0).toNat
  have p3 := pow10_pos g
  have hRi : (R : Int) < 10 ^ 50 := by exact_mod_cast hR
  have key : (10 : Rat) ^ (ten - g) * ((10 ^ g * 10 ^ (max (-ten) 0).toNat : Int) : Rat) = ((10 ^ (max ten 0).toNat : Int) : Rat) := by
    rw [Rat.intCast_mul, zp10 g, zp10i _ (by omega), zp10i _ (by omega), ← zp_add k0, ← zp_add k0]
    congr 1; omega
  refine ⟨_, _, _, _, rfl, Int.mul_pos p3 p2, Int.mul_pos p3 p2, Int.mul_nonneg (by omega) (by omega), by omega, ?_, ?_, p10_lt (by omega), ?_, ?_, (10 : Rat) ^ (ten - g), key, h1, h2⟩
  · have h3 : (R : Int) * 10 ^ (max ten 0).toNat ≤ 10 ^ 50 * 10 ^ (max ten 0).toNat := Int.mul_le_mul_of_nonneg_right (by omega) (by omega)
    rw [← Int.pow_add] at h3
    have := p10_lt (k := 50 + (max ten 0).toNat) (by omega)
    omega
  · rw [← Int.pow_add]; exact p10_lt (by omega)
  · rw [← Int.pow_add]; exact p10_lt (by omega)
  · rw [hT, Rat.mul_assoc, key, Rat.intCast_mul]; rfl

section
variable {fuel m : Nat} {st : Store}

theorem sp_sci {N D : Int} {g : Nat} {l : List Nat} {e : Int} (hD : 0 < D) (he : e.natAbs < 1000) (hl : l.length ≤ 200)
    (h : callP fuel code (m + 4) 22 [.dbl N D, .int g] st = some (.tup [.str (S l), .int e], st)) :
    callP fuel code (m + 5) 31 [.dbl N D, .int g] st = some (.str (S (l ++ [32, 120, 32, 49, 48] ++ (pw e).map supOf)), st) := by
  have hf := sp_finite (fuel := fuel) (m := m + 2) (st := st) (N := N) hD
  have hd : callP fuel code (m + 4) 13 [.dbl N D] st = some (.dbl N D, st) := sp_double
  have hrep := rep_pw e
  have hpl := pw_len he
  have fe : fit e = true := fit_small (by omega)
  have hall : ∀ c ∈ pw e, c = 45 ∨ isDig c = true := fun c hc => by
    rcases pw_signs e c hc with h | h
    · exact .inl h
    · right; unfold isDig; simp; exact h
  have hs : l.length ≤ 4096 ∧ l.length + 5 ≤ 4096 ∧ (pw e).length ≤ 4096 ∧ l.length + (1 + 1 + 1 + 1 + 1) ≤ 4096 := by omega
  have hS : (⟨((pw e).map supOf).toArray⟩ : Str) = S ((pw e).map supOf) := rfl
  rw [call_eq (fd := ⟨2, 2, cscientific⟩) rfl rfl]
  unfold cscientific
  simp [finP, ex, ev, evs, biP, binP, transP, lk, upd, upds, truth, slim, S_length, S_toList, S_append, l_x10, hf, hd, h, hrep, fe, hs, -List.map_map]
  rw [if_pos hall, hS]
  simp [S_append, S_length, hs]

def Way0 (g : Nat) (t T : Rat) : Prop := ∃ s w, IsFl 10 g t T s w
theorem Way0.mono {g : Nat} {t T t' T' : Rat} (h : Way0 g t T) (h' : Way0 g t' T') (hle : t ≤ t') : T ≤ T' := by
  obtain ⟨s, w, h⟩ := h
  obtain ⟨s', w', h'⟩ := h'
  exact h.mono (by decide) h' hle

/-- scientific's words, read back -/
theorem sci_told {N D : Int} {t : Rat} {g : Nat} (hN : 0 < N) (hD : 0 < D) (bN : N < 2 ^ 230) (bD : D < 2 ^ 230) (ht : t * D = N) (hs : IsNear t t) (hr : Rng t) (hg : g ≤ 8) (hf : 700 < fuel) :
    ∃ (l : List Nat) (e : Int) (T : Rat) (v : PVal), l.length ≤ 200 ∧ 120 ∉ l ∧ -31 ≤ e ∧ e ≤ 37 ∧ Way0 g t T ∧ ToldOk 0 t T v ∧
      callP fuel code (m + 5) 31 [.dbl N D, .int g] st = some (.str (S (l ++ [32, 120, 32, 49, 48] ++ (pw e).map supOf)), st) ∧
      (∀ n, callP fuel code (n + 1) 35 [.str (S (l ++ [32, 120, 32, 49, 48] ++ (pw e).map supOf))] st = some (.tup [.str (S l), .int g, .int e], st)) ∧
      ∀ n, callP fuel code (n + 1) 37 [.str (S l), .int e] st = some (v, st) := by
  obtain ⟨W, e, k, l, T, W0, h1, h2, h3, h4, h5, h6, h7, h8, h9, h10⟩ := sp_mant (fuel := fuel) (m := m) (st := st) hN hD bN bD ht hs hr (show g ≤ 14 by omega) hf
  have hl := h1.len
  have hW : W < 10 ^ 50 := Nat.lt_of_lt_of_le h7 (Nat.pow_le_pow_right (by decide) (by omega))
  have err := h2.err (by decide)
  rw [c10] at err
  have hu : (10 : Rat) ^ (-((g : Int) - k)) ≤ (10 : Rat) ^ (e - g) := zp_mono k1 (by omega)
  have pu := zp_pos k0 (e - g)
  refine ⟨l, e, T, _, hl, h1.free (by decide), by omega, by omega, ⟨_, _, h2⟩, dec_told hW (by omega) (by omega) h3 ?_ ?_, sp_sci hD (by omega) hl h10, fun n => sp_parted h1 (by omega), fun n => sp_decimal h1 (by omega)⟩
  · have : ((0 : Int) : Rat) = 0 := rfl
    rw [this]
    generalize (10 : Rat) ^ (e - g) = y at hu pu
    generalize (10 : Rat) ^ (-((g : Int) - k)) = z at hu err
    clear h3
    grind
  · have : ((0 : Int) : Rat) = 0 := rfl
    rw [this]
    generalize (10 : Rat) ^ (e - g) = y at hu pu
    generalize (10 : Rat) ^ (-((g : Int) - k)) = z at hu err
    clear h3
    grind

theorem told0 {N D : Int} {t : Rat} {g : Nat} (hN : 0 < N) (hD : 0 < D) (bN : N < 2 ^ 230) (bD : D < 2 ^ 230) (ht : t * D = N) (hs : IsNear t t) (hr : Rng t) (hg : g ≤ 8) (hf : 700 < fuel) :
    ∃ T v, Way0 g t T ∧ ToldOk 0 t T v ∧ callP fuel code (m + 6) 38 [.int 0, .dbl N D, .int g] st = some (v, st) := by
  obtain ⟨l, e, T, v, hl, _, _, _, hw, hv, h1, h2, h3⟩ := sci_told (m := m) (st := st) hN hD bN bD ht hs hr hg hf
  refine ⟨T, v, hw, hv, ?_⟩
  have h2' := h2 (m + 4)
  have h3' := h3 (m + 4)
  rw [call_eq (fd := ⟨3, 13, c_law_told⟩) rfl rfl]
  unfold c_law_told
  generalize l ++ [32, 120, 32, 49, 48] ++ (pw e).map supOf = L at h1 h2'
  simp [finP, ex, ev, evs, cmpP, cmpI, lk, upd, upds, truth, beqD, h1, h2', h3']
end
end Mine
end
section
open PySem PySem.Builtin PySem.Builtin.Str PySem.NumText
set_option Elab.async false
set_option maxRecDepth 100000
set_option exponentiation.threshold 2500
set_option linter.unusedSimpArgs false
namespace Mine

theorem isR_nat {N D : Int} {t : Rat} {g : Nat} (hN : 0 ≤ N) (hD : 0 < D) (ht : t * D = N) : ∃ R : Nat, rnd (N * 10 ^ g) D = R ∧ IsR (t * (10 : Rat) ^ (g : Int)) R := by
  have h0 : 0 ≤ rnd (N * 10 ^ g) D := rnd_nn (Int.mul_nonneg hN (Int.le_of_lt (pow10_pos g))) hD
  obtain ⟨R, hR⟩ := Int.eq_ofNat_of_zero_le h0
  refine ⟨R, hR, ?_⟩
  rw [← hR]
  refine rnd_isR hD ?_
  rw [Rat.intCast_mul, zp10, ← ht]
  grind

theorem isR_lt {t : Rat} {g R : Nat} (hr : t ≤ (10 : Rat) ^ (36 : Int)) (hg : g ≤ 10) (h : IsR (t * (10 : Rat) ^ (g : Int)) R) : R < 10 ^ 50 := by
  have p := zp_pos k0 (g : Int)
  have a := Rat.mul_le_mul_of_nonneg_left hr (show (0 : Rat) ≤ (10 : Rat) ^ (g : Int) by grind)
  rw [← zp_add k0] at a
  have b := zp_mono k1 (show (g : Int) + 36 ≤ 46 by omega)
  have c : (10 : Rat) ^ (46 : Int) = ((10 ^ 46 : Int) : Rat) := by decide +kernel
  have := h.le (m := 10 ^ 46) (by rw [← c]; grind)
  have d : (10 : Int) ^ 46 < 10 ^ 50 := by decide +kernel
  have e : (R : Int) < 10 ^ 50 := by omega
  exact_mod_cast e

def Way4 (g : Nat) (t T : Rat) : Prop := ∃ R : Int, IsR (t * (10 : Rat) ^ (g : Int)) R ∧ T = (R : Rat) * (10 : Rat) ^ (-(g : Int))
theorem Way4.mono {g : Nat} {t T t' T' : Rat} (h : Way4 g t T) (h' : Way4 g t' T') (hle : t ≤ t') : T ≤ T' := by
  obtain ⟨R, h1, rfl⟩ := h
  obtain ⟨R', h1', rfl⟩ := h'
  have p := zp_pos k0 (g : Int)
  have q := zp_pos k0 (-(g : Int))
  have a := Rat.mul_le_mul_of_nonneg_left hle (show (0 : Rat) ≤ (10 : Rat) ^ (g : Int) by grind)
  have b := castle (h1.mono h1' (by grind))
  have := Rat.mul_le_mul_of_nonneg_left b (show (0 : Rat) ≤ (10 : Rat) ^ (-(g : Int)) by grind)
  grind
theorem isR_far {t : Rat} {g R : Int} (h : IsR (t * (10 : Rat) ^ g) R) : 2 * (t - R * (10 : Rat) ^ (-g)) ≤ (10 : Rat) ^ (-g) ∧ 2 * (R * (10 : Rat) ^ (-g) - t) ≤ (10 : Rat) ^ (-g) := by
  have q := zp_pos k0 (-g)
  have n := zp_neg k0 g
  have a := Rat.mul_le_mul_of_nonneg_left h.hi (show (0 : Rat) ≤ (10 : Rat) ^ (-g) by grind)
  have b := Rat.mul_le_mul_of_nonneg_left h.lo (show (0 : Rat) ≤ (10 : Rat) ^ (-g) by grind)
  have e : (10 : Rat) ^ (-g) * (2 * (t * (10 : Rat) ^ g - R)) = 2 * (t * ((10 : Rat) ^ g * (10 : Rat) ^ (-g)) - R * (10 : Rat) ^ (-g)) := by grind
  rw [e, n] at a b
  grind

theorem s_empty : Str.empty = S [] := rfl
theorem fmt_len (g : Nat) : (fmt g).length = 4 := by unfold fmt; rw [S_length]; rfl
theorem l_sepk (k : Nat) : (if k = 0 then Str.ofString "," else Str.ofString ".") = if k = 0 then S [44] else S [46] := by rw [l_comma, l_dot]
section
variable {fuel m : Nat} {st : Store}

theorem sp_tsep : callP fuel code (m + 1) 25 [] st = some (.sep (S [44]), st) := by
  rw [call_eq (fd := ⟨0, 0, cthousands_separator⟩) rfl rfl]
  unfold cthousands_separator
  simp [finP, ex, ev, l_comma]
theorem sp_dsep : callP fuel code (m + 1) 26 [] st = some (.sep (S [46]), st) := by
  rw [call_eq (fd := ⟨0, 0, cdecimal_separator⟩) rfl rfl]
  unfold cdecimal_separator
  simp [finP, ex, ev, l_dot]

theorem laid_v {N D : Int} {t : Rat} {g : Nat} (hN : 0 ≤ N) (hD : 0 < D) (bN : N < 2 ^ 600) (bD : D < 2 ^ 600) (ht : t * D = N) (hr : t ≤ (10 : Rat) ^ (36 : Int)) (hg : g ≤ 8) :
    ∃ R : Nat, rnd (N * 10 ^ g) D = R ∧ IsR (t * (10 : Rat) ^ (g : Int)) R ∧ R < 10 ^ 50 ∧ IsDec (dec R g) R g ∧ ∀ m st, callP fuel code (m + 2) 19 [.str (fmt g), .dbl N D] st = some (.str (S (dec R g)), st) := by
  obtain ⟨R, h1, h2⟩ := isR_nat (g := g) hN hD ht
  have h3 := isR_lt hr (by omega) h2
  have h4 : (10 : Nat) ^ 50 < 10 ^ 100 := Nat.pow_lt_pow_right (by decide) (by decide)
  refine ⟨R, h1, h2, h3, dec_is (by omega) (by omega), fun m st => ?_⟩
  have h5 : (R : Int) < 10 ^ 100 := by
    have h6 : R < 10 ^ 100 := by omega
    exact_mod_cast h6
  have := sp_laid (fuel := fuel) (m := m) (st := st) (g := g) hN hD (fit_pow hN bN (by decide)) (fit_pow (Int.le_of_lt hD) bD (by decide)) (by omega) (by rw [h1]; exact h5)
  rw [h1] at this
  exact this

theorem fstr_fmt {g : Nat} (hg : g ≤ 8) : Str.ofString (Int.repr (g : Int)) = S [48 + g] := by
  rw [rep_pos (by omega)]
  rw [show ((g : Int)).toNat = g by omega, dig_one g (by omega)]

theorem told4 {N D : Int} {t : Rat} {g : Nat} (hN : 0 < N) (hD : 0 < D) (bN : N < 2 ^ 230) (bD : D < 2 ^ 230) (ht : t * D = N) (hr : Rng t) (hg : g ≤ 8) (hf : 300 < fuel) :
    ∃ T v x, Way4 g t T ∧ ToldOk 0 t T v ∧ callP fuel code (m + 5) 38 [.int 4, .dbl N D, .int g] st = some (v, st ++ [x]) := by
  have w1 : (2 : Int) ^ 230 < 2 ^ 600 := pow_lt_pow (by decide)
  obtain ⟨R, e1, h2, h3, hdec, hlaid⟩ := laid_v (fuel := fuel) (g := g) (Int.le_of_lt hN) hD (by omega) (by omega) ht hr.2 hg
  obtain ⟨l', x, g1, g2, g3⟩ := sp_grouped (fuel := fuel) (m := m + 2) (st := st) hdec hf
  have hl1 := hlaid (m + 1) st
  have hfar := isR_far h2
  have hrep : Txt.replace (S l') (S [44]) (S []) = S (dec R g) := by rw [repl_free, g1]
  have hs : l'.length ≤ 4096 ∧ g ≤ 4096 := by omega
  have hfin := sp_finite (fuel := fuel) (m := m + 1) (st := st) (N := N) hD
  have hd : callP fuel code (m + 3) 13 [.dbl N D] st = some (.dbl N D, st) := sp_double
  have fg : fit (g : Int) = true := fit_small (by omega)
  have hfm := fstr_fmt hg
  have hq : S [37, 46, 48 + g, 102] = fmt g := rfl
  have h28 : callP fuel code (m + 4) 28 [.dbl N D, .int g] st = some (.str (S l'), st ++ [x]) := by
    rw [call_eq (fd := ⟨2, 3, cintcomma⟩) rfl rfl]
    unfold cintcomma
    simp [finP, ex, ev, evs, cmpP, isiP, fvalP, catStrs, lk, upd, upds, truth, slim, sp_tsep, sp_dsep, hd, hfin, fg, hfm, l_pctdot, l_f, S_append, S_length, s_empty, hq, fmt_len, hl1, g3]
  refine ⟨_, _, x, ⟨R, h2, rfl⟩, dec_told (ten := 0) (g := g) (R := R) h3 (by omega) (by decide) (by rw [show (0 : Int) - (g : Int) = -(g : Int) by omega]; rfl) ?_ ?_, ?_⟩
  · have : ((0 : Int) : Rat) = 0 := rfl
    rw [this, show (0 : Int) - (g : Int) = -(g : Int) by omega]
    have q := zp_pos k0 (-(g : Int))
    grind
  · have : ((0 : Int) : Rat) = 0 := rfl
    rw [this, show (0 : Int) - (g : Int) = -(g : Int) by omega]
    have q := zp_pos k0 (-(g : Int))
    grind
  · have h37 := sp_decimal (fuel := fuel) (m := m + 3) (st := st ++ [x]) hdec (ten := 0) (by decide)
    rw [call_eq (fd := ⟨3, 13, c_law_told⟩) rfl rfl]
    unfold c_law_told
    simp [finP, ex, ev, evs, cmpP, cmpI, lk, upd, upds, truth, beqD, h28, replOk, replP, slim, l_comma, l_nil, S_length, hs, hrep]
    simp at h37
    simp [h37]
end
end Mine
end
section
open PySem PySem.Builtin PySem.Builtin.Str PySem.NumText
set_option Elab.async false
set_option maxRecDepth 100000
set_option exponentiation.threshold 2500
set_option linter.unusedSimpArgs false
namespace Mine

theorem bisGo_eq {l : List Int} {x : Int} {r : Nat} (h : ∀ i y, l[i]? = some y → (i < r ↔ y ≤ x)) : ∀ n lo hi, lo ≤ r → r ≤ hi → hi ≤ l.length → hi - lo ≤ n → bisGo l x n lo hi = r := by
  intro n
  induction n with
  | zero => intro lo hi h1 h2 h3 h4; unfold bisGo; omega
  | succ n ih =>
    intro lo hi h1 h2 h3 h4
    unfold bisGo
    by_cases hlt : lo < hi
    · rw [if_pos hlt]
      have hm : (lo + hi) / 2 < l.length := by omega
      have hg : l[(lo + hi) / 2]? = some l[(lo + hi) / 2] := List.getElem?_eq_getElem hm
      have hk := h _ _ hg
      rw [hg]
      dsimp only
      split
      · exact ih _ _ h1 (by omega) (by omega) (by omega)
      · exact ih _ _ (by omega) h2 h3 (by omega)
    · rw [if_neg hlt]; omega

def pe (j : Nat) : Nat := if j < 11 then 3 * j + 3 else 100
def powersI : List Int := [3, 6, 9, 12, 15, 18, 21, 24, 27, 30, 33, 100].map fun k : Nat => (10 : Int) ^ k
theorem ints_pow : intsOf powersV = some powersI := rfl
theorem powI_at : ∀ j : Nat, j < 12 → powersI[j]? = some ((10 : Int) ^ pe j) := by decide +kernel
theorem powV_at {j : Nat} (h : j < 12) : itemL powersV (j : Int) = some (.int (10 ^ pe j)) := by
  unfold itemL
  rw [if_pos (by omega)]
  have e : powersV = powersI.map .int := rfl
  rw [e, List.getElem?_map]
  rw [show ((j : Int)).toNat = j by omega, powI_at j h]
  rfl
theorem powV_len : powersV.length = 12 := rfl

/-- the place among the powers -/
theorem pow_place {V : Int} (h : 1000 ≤ V) : ∀ J : Nat, ∃ j : Nat, j ≤ J ∧ (10 : Int) ^ (3 * j + 3) ≤ V ∧ (j < J → V < 10 ^ (3 * j + 6)) := by
  intro J
  induction J with
  | zero => exact ⟨0, Nat.le_refl _, h, fun h => absurd h (by omega)⟩
  | succ J ih =>
    obtain ⟨j, h1, h2, h3⟩ := ih
    by_cases hj : j < J
    · exact ⟨j, by omega, h2, fun _ => h3 hj⟩
    · have : j = J := by omega
      subst this
      by_cases hv : V < 10 ^ (3 * j + 6)
      · exact ⟨j, by omega, h2, fun _ => hv⟩
      · exact ⟨j + 1, by omega, by rw [show 3 * (j + 1) + 3 = 3 * j + 6 by omega]; omega, fun h => absurd h (by omega)⟩

theorem bis_place {V : Int} {j : Nat} (hj : j ≤ 10) (h1 : (10 : Int) ^ (3 * j + 3) ≤ V) (h2 : j < 10 → V < 10 ^ (3 * j + 6)) (h3 : V < 10 ^ 100) : bisR powersI V = j + 1 := by
  unfold bisR
  have hlen : powersI.length = 12 := rfl
  refine bisGo_eq (fun i y hy => ?_) _ _ _ (Nat.zero_le _) (by omega) (Nat.le_refl _) (Nat.sub_le _ _)
  have hi : i < 12 := by
    have : i < powersI.length := (List.getElem?_eq_some_iff.mp hy).1
    exact this
  rw [powI_at i hi] at hy
  injection hy with hy
  subst hy
  constructor
  · intro h
    have : pe i ≤ 3 * j + 3 := by unfold pe; rw [if_pos (by omega)]; omega
    have := pow10_le this
    omega
  · intro h
    apply Decidable.byContradiction
    intro hn
    by_cases h10 : j < 10
    · have : 3 * j + 6 ≤ pe i := by unfold pe; split <;> omega
      have := pow10_le this
      have := h2 h10
      omega
    · have : i = 11 := by omega
      subst this
      have : pe 11 = 100 := rfl
      rw [this] at h
      omega

def nmS (j : Nat) : String := ["thousand", "million", "billion", "trillion", "quadrillion", "quintillion", "sextillion", "septillion", "octillion", "nonillion", "decillion", "googol"].getD j ""
def nm (j : Nat) : List Nat := (nmS j).toList.map Char.toNat
theorem nm_facts : ∀ j : Nat, j < 11 → nm j ≠ [] ∧ 32 ∉ nm j ∧ (nm j).length ≤ 20 := by decide +kernel
theorem human_at : ∀ j : Nat, j < 11 → itemL humanV (j : Int) = some (.tup [.str (S (nm j)), .str (S (nm j))]) := by
  intro j hj
  have h : j = 0 ∨ j = 1 ∨ j = 2 ∨ j = 3 ∨ j = 4 ∨ j = 5 ∨ j = 6 ∨ j = 7 ∨ j = 8 ∨ j = 9 ∨ j = 10 := by omega
  have e : ∀ j, S (nm j) = Str.ofString (nmS j) := fun j => (S_of _).symm
  rw [e]
  rcases h with rfl | rfl | rfl | rfl | rfl | rfl | rfl | rfl | rfl | rfl | rfl <;> rfl
def namesV : List PVal := (List.range 11).map fun j => .str (S (nm j))
section
variable {fuel m : Nat} {st : Store}
theorem sp_names : callP fuel code (m + 1) 36 [] st = some (.lst namesV, st) := by
  rw [call_eq (fd := ⟨0, 0, c_law_names⟩) rfl rfl]
  unfold c_law_names
  have e : ∀ x : String, Str.ofString x = S (x.toList.map Char.toNat) := S_of
  have hn : namesV = [.str (Str.ofString "thousand"), .str (Str.ofString "million"), .str (Str.ofString "billion"), .str (Str.ofString "trillion"), .str (Str.ofString "quadrillion"), .str (Str.ofString "quintillion"), .str (Str.ofString "sextillion"), .str (Str.ofString "septillion"), .str (Str.ofString "octillion"), .str (Str.ofString "nonillion"), .str (Str.ofString "decillion")] := by
    simp only [e]; rfl
  rw [hn]
  simp [finP, ex, ev, evs, slim]
theorem names_idx {cf : CF} : ∀ j : Nat, j < 11 → methP cf .index (.lst namesV) [.str (S (nm j))] st = some (.int j, st) := by
  intro j hj
  unfold methP
  have h1 : strsOf namesV = some ((List.range 11).map fun j => S (nm j)) := by
    have := strs_S ((List.range 11).map nm)
    rw [List.map_map, List.map_map] at this
    exact this
  have h2 : ∀ j : Nat, j < 11 → ((List.range 11).map nm).contains (nm j) = true ∧ ((List.range 11).map nm).idxOf (nm j) = j := by decide +kernel
  have h3 : ∀ l : List (List Nat), ∀ x : List Nat, (l.map S).contains (S x) = l.contains x ∧ (l.map S).idxOf (S x) = l.idxOf x := by
    intro l x
    induction l with
    | nil => exact ⟨rfl, rfl⟩
    | cons a l ih =>
      constructor
      · have := ih.1
        simp only [List.map_cons, List.contains_cons, this, S_beq]
        rw [Bool.eq_iff_iff]; simp
      · have := ih.2
        simp only [List.map_cons, List.idxOf_cons, this, S_beq]
        have e : (a == x) = decide (a = x) := by rw [Bool.eq_iff_iff]; simp
        rw [e]
  have h4 := h3 ((List.range 11).map nm) (nm j)
  rw [List.map_map] at h4
  have h5 : (S ∘ nm) = fun j => S (nm j) := rfl
  rw [h5] at h4
  simp only [h1]
  rw [h4.1, h4.2, (h2 j hj).1, (h2 j hj).2]
  have : namesV.length ≤ slim := by decide
  simp [this]
end
end Mine
end
section
open PySem PySem.Builtin PySem.Builtin.Str PySem.NumText
set_option Elab.async false
set_option maxRecDepth 100000
set_option exponentiation.threshold 2500
set_option linter.unusedSimpArgs false
namespace Mine

theorem near_whole {n : Int} (h : 0 < n) (h2 : n < 2 ^ 53) : IsNear (n : Rat) (n : Rat) := by
  have hfl := near_fl (n := n) (d := 1) (x := (n : Rat)) h (by decide) (by
    have : ((1 : Int) : Rat) = 1 := rfl
    rw [this]; grind)
  have hs : 0 ≤ sc1 n 1 := by
    have h1 := hfl.sc.lo
    rw [c2] at h1
    have h3 := castlt h2
    have e53 : ((2 ^ 53 : Int) : Rat) = (2 : Rat) ^ (53 : Int) := by decide +kernel
    rw [e53] at h3
    have p := zp_pos t0 (sc1 n 1)
    have h4 := Rat.mul_lt_mul_of_pos_left h3 p
    rw [← zp_add t0] at h4
    have h5 : (2 : Rat) ^ (((52 : Nat) : Int)) < (2 : Rat) ^ (sc1 n 1 + 53) := by grind
    have := zp_of_lt t1 h5
    omega
  have he := hfl.exact (by decide) (m := n * 2 ^ (sc1 n 1).toNat) (by
    rw [Rat.intCast_mul, zp2 _ hs, c2])
  rw [he] at hfl
  exact ⟨_, _, hfl⟩

theorem isR_near {x : Rat} {R R' : Int} (h : IsR x R') (h1 : 2 * (x - R) < 1) (h2 : -1 < 2 * (x - R)) : R' = R :=
  h.unique ⟨by grind, by grind, fun h => by grind⟩

theorem floor_lt {t : Rat} {V V' : Int} {t' : Rat} (h1 : (V : Rat) ≤ t) (h2 : t' < (V' : Rat) + 1) (h : t ≤ t') : V ≤ V' := by
  have : (V : Rat) < ((V' + 1 : Int) : Rat) := by rw [Rat.intCast_add]; have : ((1 : Int) : Rat) = 1 := rfl
                                                  grind
  have := Rat.intCast_lt_intCast.mp this
  omega

/-- one chopped number: its power, the double, the whole number told -/
structure Chop (g : Nat) (V : Int) (j : Nat) (c : Rat) (R : Int) : Prop where
  j10 : j ≤ 10
  lo : (10 : Int) ^ (3 * j + 3) ≤ V
  hi : j < 10 → V < 10 ^ (3 * j + 6)
  near : IsNear ((V : Rat) * (10 : Rat) ^ (-((3 * j + 3 : Nat) : Int))) c
  r : IsR (c * (10 : Rat) ^ (g : Int)) R

theorem Chop.c_ge {g j : Nat} {V R : Int} {c : Rat} (h : Chop g V j c R) : 1 ≤ c ∧ (10 : Int) ^ g ≤ R := by
  have h1 : (1 : Rat) ≤ (V : Rat) * (10 : Rat) ^ (-((3 * j + 3 : Nat) : Int)) := by
    have a := castle h.lo
    rw [zp10] at a
    have q := zp_pos k0 (-((3 * j + 3 : Nat) : Int))
    have n := zp_neg k0 ((3 * j + 3 : Nat) : Int)
    have b := Rat.mul_le_mul_of_nonneg_left a (show (0 : Rat) ≤ (10 : Rat) ^ (-((3 * j + 3 : Nat) : Int)) by grind)
    grind
  have n1 : IsNear 1 1 := near_whole (n := 1) (by decide) (by decide)
  have hc := n1.mono h.near h1
  refine ⟨hc, h.r.ge ?_⟩
  rw [zp10]
  have p := zp_pos k0 (g : Int)
  have := Rat.mul_le_mul_of_nonneg_left hc (show (0 : Rat) ≤ (10 : Rat) ^ (g : Int) by grind)
  grind
theorem Chop.c_le {g j : Nat} {V R : Int} {c : Rat} (h : Chop g V j c R) (hV : V ≤ 10 ^ (3 * j + 6)) : c ≤ 1000 ∧ R ≤ (10 : Int) ^ (g + 3) := by
  have h1 : (V : Rat) * (10 : Rat) ^ (-((3 * j + 3 : Nat) : Int)) ≤ 1000 := by
    have a := castle hV
    rw [zp10] at a
    have q := zp_pos k0 (-((3 * j + 3 : Nat) : Int))
    have n := zp_neg k0 ((3 * j + 3 : Nat) : Int)
    have b := Rat.mul_le_mul_of_nonneg_left a (show (0 : Rat) ≤ (10 : Rat) ^ (-((3 * j + 3 : Nat) : Int)) by grind)
    have e : (10 : Rat) ^ ((3 * j + 6 : Nat) : Int) = (10 : Rat) ^ ((3 * j + 3 : Nat) : Int) * 1000 := by
      have : (1000 : Rat) = (10 : Rat) ^ (3 : Int) := by decide +kernel
      rw [this, ← zp_add k0]; congr 1
    rw [e] at b
    have e2 : (10 : Rat) ^ (-((3 * j + 3 : Nat) : Int)) * ((10 : Rat) ^ ((3 * j + 3 : Nat) : Int) * 1000) = 1000 * ((10 : Rat) ^ ((3 * j + 3 : Nat) : Int) * (10 : Rat) ^ (-((3 * j + 3 : Nat) : Int))) := by grind
    rw [e2, n] at b
    grind
  have n1 : IsNear 1000 1000 := near_whole (n := 1000) (by decide) (by decide)
  have hc := h.near.mono n1 h1
  refine ⟨hc, h.r.le ?_⟩
  rw [zp10]
  have p := zp_pos k0 (g : Int)
  have := Rat.mul_le_mul_of_nonneg_left hc (show (0 : Rat) ≤ (10 : Rat) ^ (g : Int) by grind)
  have e : (10 : Rat) ^ ((g + 3 : Nat) : Int) = (10 : Rat) ^ (g : Int) * 1000 := by
    have : (1000 : Rat) = (10 : Rat) ^ (3 : Int) := by decide +kernel
    rw [this, ← zp_add k0]; congr 1
  rw [e]
  grind

def chopT (g j : Nat) (R : Int) : Rat := (R : Rat) * (10 : Rat) ^ (((3 * j + 3 : Nat) : Int) - (g : Int))
theorem Chop.T_ge {g j : Nat} {V R : Int} {c : Rat} (h : Chop g V j c R) : (10 : Rat) ^ ((3 * j + 3 : Nat) : Int) ≤ chopT g j R := by
  have a := castle h.c_ge.2
  rw [zp10] at a
  have p := zp_pos k0 (((3 * j + 3 : Nat) : Int) - (g : Int))
  have b := Rat.mul_le_mul_of_nonneg_left a (show (0 : Rat) ≤ (10 : Rat) ^ (((3 * j + 3 : Nat) : Int) - (g : Int)) by grind)
  rw [← zp_add k0, show ((3 * j + 3 : Nat) : Int) - (g : Int) + g = ((3 * j + 3 : Nat) : Int) by omega] at b
  unfold chopT
  grind
theorem Chop.T_le {g j : Nat} {V R : Int} {c : Rat} (h : Chop g V j c R) (hV : V ≤ 10 ^ (3 * j + 6)) : chopT g j R ≤ (10 : Rat) ^ ((3 * j + 6 : Nat) : Int) := by
  have a := castle (h.c_le hV).2
  rw [zp10] at a
  have p := zp_pos k0 (((3 * j + 3 : Nat) : Int) - (g : Int))
  have b := Rat.mul_le_mul_of_nonneg_left a (show (0 : Rat) ≤ (10 : Rat) ^ (((3 * j + 3 : Nat) : Int) - (g : Int)) by grind)
  rw [← zp_add k0, show ((3 * j + 3 : Nat) : Int) - (g : Int) + ((g + 3 : Nat) : Int) = ((3 * j + 6 : Nat) : Int) by omega] at b
  unfold chopT
  grind

def Way2 (g : Nat) (t T : Rat) : Prop := ∃ V : Int, (V : Rat) ≤ t ∧ t < (V : Rat) + 1 ∧ ((V < 1000 ∧ T = V) ∨ ∃ j c R, Chop g V j c R ∧ T = chopT g j R)

theorem Way2.mono {g : Nat} {t T t' T' : Rat} (h : Way2 g t T) (h' : Way2 g t' T') (hle : t ≤ t') : T ≤ T' := by
  obtain ⟨V, a1, a2, h⟩ := h
  obtain ⟨V', b1, b2, h'⟩ := h'
  have hV := floor_lt a1 b2 hle
  have big : ∀ j : Nat, (1000 : Int) ≤ 10 ^ (3 * j + 3) := fun j => by
    have := pow10_le (show 3 ≤ 3 * j + 3 by omega)
    have e : (10 : Int) ^ 3 = 1000 := by decide
    omega
  rcases h with ⟨h1, rfl⟩ | ⟨j, c, R, h1, rfl⟩
  · rcases h' with ⟨h2, rfl⟩ | ⟨j', c', R', h2, rfl⟩
    · exact castle hV
    · have e1 := castle (show V ≤ 1000 by omega)
      have e2 := castle (big j')
      rw [zp10] at e2
      have := h2.T_ge
      grind
  · rcases h' with ⟨h2, rfl⟩ | ⟨j', c', R', h2, rfl⟩
    · have := h1.lo
      have := big j
      omega
    · have hj : j ≤ j' := by
        apply Decidable.byContradiction
        intro hn
        have e1 := h2.hi (by have := h1.j10; omega)
        have e2 := h1.lo
        have := pow10_le (show 3 * j' + 6 ≤ 3 * j + 3 by omega)
        omega
      by_cases hjj : j = j'
      · subst hjj
        have q := zp_pos k0 (-((3 * j + 3 : Nat) : Int))
        have m1 := Rat.mul_le_mul_of_nonneg_left (castle hV) (show (0 : Rat) ≤ (10 : Rat) ^ (-((3 * j + 3 : Nat) : Int)) by grind)
        have hc := h1.near.mono h2.near (by grind)
        have p := zp_pos k0 (g : Int)
        have m2 := Rat.mul_le_mul_of_nonneg_left hc (show (0 : Rat) ≤ (10 : Rat) ^ (g : Int) by grind)
        have hR := castle (h1.r.mono h2.r (by grind))
        have p3 := zp_pos k0 (((3 * j + 3 : Nat) : Int) - (g : Int))
        have m3 := Rat.mul_le_mul_of_nonneg_left hR (show (0 : Rat) ≤ (10 : Rat) ^ (((3 * j + 3 : Nat) : Int) - (g : Int)) by grind)
        unfold chopT
        grind
      · have e1 := h1.T_le (by have := h1.hi (by have := h2.j10; omega); omega)
        have e2 := h2.T_ge
        have e3 := zp_mono k1 (show ((3 * j + 6 : Nat) : Int) ≤ ((3 * j' + 3 : Nat) : Int) by omega)
        grind

/-- how far a chopped number lies -/
theorem Chop.far {g j : Nat} {V R : Int} {c t : Rat} (h : Chop g V j c R) (hg : g ≤ 8) (hV : V ≤ 10 ^ (3 * j + 6)) (h1 : (V : Rat) ≤ t) (h2 : t < (V : Rat) + 1) :
    20000 * (t - chopT g j R) ≤ 10001 * (10 : Rat) ^ (((3 * j + 3 : Nat) : Int) - (g : Int)) + 20001 ∧ 20000 * (chopT g j R - t) ≤ 10001 * (10 : Rat) ^ (((3 * j + 3 : Nat) : Int) - (g : Int)) + 20001 := by
  have e := h.near.err
  have f := isR_far h.r
  have pP := zp_pos k0 ((3 * j + 3 : Nat) : Int)
  have n := zp_neg k0 ((3 * j + 3 : Nat) : Int)
  have sp : (10 : Rat) ^ (((3 * j + 3 : Nat) : Int) - (g : Int)) = (10 : Rat) ^ ((3 * j + 3 : Nat) : Int) * (10 : Rat) ^ (-(g : Int)) := by rw [← zp_add k0]; congr 1
  have hv := castle hV
  rw [zp10] at hv
  have e6 : (10 : Rat) ^ ((3 * j + 6 : Nat) : Int) = (10 : Rat) ^ ((3 * j + 3 : Nat) : Int) * 1000 := by
    have : (1000 : Rat) = (10 : Rat) ^ (3 : Int) := by decide +kernel
    rw [this, ← zp_add k0]; congr 1
  rw [e6] at hv
  have g8 := zp_mono k1 (show (-8 : Int) ≤ -(g : Int) by omega)
  have e8 : (10 : Rat) ^ (-8 : Int) = 1 / 100000000 := by decide +kernel
  rw [e8] at g8
  have u8 := Rat.mul_le_mul_of_nonneg_left g8 (show (0 : Rat) ≤ (10 : Rat) ^ ((3 * j + 3 : Nat) : Int) by grind)
  unfold chopT
  rw [sp]
  generalize (10 : Rat) ^ (-(g : Int)) = u at f u8 ⊢
  generalize (10 : Rat) ^ ((3 * j + 3 : Nat) : Int) = P at pP n hv u8 ⊢
  have e' := h.near.err
  generalize (10 : Rat) ^ (-((3 * j + 3 : Nat) : Int)) = Q at e n
  have f1 := Rat.mul_le_mul_of_nonneg_left f.1 (show (0 : Rat) ≤ P by grind)
  have f2 := Rat.mul_le_mul_of_nonneg_left f.2 (show (0 : Rat) ≤ P by grind)
  have d1 := Rat.mul_le_mul_of_nonneg_left e.1 (show (0 : Rat) ≤ P by grind)
  have d2 := Rat.mul_le_mul_of_nonneg_left e.2 (show (0 : Rat) ≤ P by grind)
  have x1 : P * (9007199254740992 * ((V : Rat) * Q - c)) = 9007199254740992 * ((V : Rat) * (P * Q) - P * c) := by grind
  have x2 : P * (9007199254740992 * (c - (V : Rat) * Q)) = 9007199254740992 * (P * c - (V : Rat) * (P * Q)) := by grind
  have x3 : P * ((V : Rat) * Q) = (V : Rat) * (P * Q) := by grind
  rw [x1, x3, n, Rat.mul_one] at d1
  rw [x2, x3, n, Rat.mul_one] at d2
  clear e e' x1 x2 x3 n sp e6 g8 e8 h
  have y1 : P * (2 * (c - R * u)) = 2 * (P * c) - 2 * (R * (P * u)) := by grind
  have y2 : P * (2 * (R * u - c)) = 2 * (R * (P * u)) - 2 * (P * c) := by grind
  rw [y1] at f1
  rw [y2] at f2
  generalize P * u = w at f1 f2 u8 ⊢
  generalize P * c = z at f1 f2 d1 d2
  generalize (R : Rat) * w = y at f1 f2 ⊢
  clear y1 y2 f hg
  constructor <;> grind
end Mine
end
section
open PySem PySem.Builtin PySem.Builtin.Str PySem.NumText
set_option Elab.async false
set_option maxRecDepth 100000
set_option exponentiation.threshold 2500
set_option linter.unusedSimpArgs false
namespace Mine

theorem reread {x r : Rat} {R R' : Int} {g : Nat} (hg : g ≤ 8) (hx : x * (10 : Rat) ^ (g : Int) = R) (hR : R ≤ 10 ^ (g + 3)) (h : IsNear x r) (h' : IsR (r * (10 : Rat) ^ (g : Int)) R') : R' = R := by
  have p := zp_pos k0 (g : Int)
  have e := h.err
  have hp := pow10_le (show g + 3 ≤ 11 by omega)
  have e11 : (10 : Int) ^ 11 = 100000000000 := by decide
  have b := castle (show R ≤ 100000000000 by omega)
  have e2 : ((100000000000 : Int) : Rat) = 100000000000 := rfl
  rw [e2] at b
  have a1 := Rat.mul_le_mul_of_nonneg_left e.1 (show (0 : Rat) ≤ (10 : Rat) ^ (g : Int) by grind)
  have a2 := Rat.mul_le_mul_of_nonneg_left e.2 (show (0 : Rat) ≤ (10 : Rat) ^ (g : Int) by grind)
  generalize (10 : Rat) ^ (g : Int) = P at hx h' a1 a2
  refine isR_near h' ?_ ?_
  · clear h h' hp e11 e
    have y : P * (9007199254740992 * (r - x)) = 9007199254740992 * (r * P) - 9007199254740992 * (x * P) := by grind
    rw [y] at a2
    have z : P * x = x * P := by grind
    rw [z, hx] at a2
    grind
  · clear h h' hp e11 e
    have y : P * (9007199254740992 * (x - r)) = 9007199254740992 * (x * P) - 9007199254740992 * (r * P) := by grind
    rw [y] at a1
    have z : P * x = x * P := by grind
    rw [z, hx] at a1
    grind

/-- the double read back is a thousand: so was the text -/
theorem read_1000 {x r : Rat} {R : Int} {g : Nat} (hg : g ≤ 8) (hx : x * (10 : Rat) ^ (g : Int) = R) (hR : R ≤ 10 ^ (g + 3)) (h : IsNear x r) (h' : 1000 ≤ r) : R = 10 ^ (g + 3) := by
  have p := zp_pos k0 (g : Int)
  have e := h.err.2
  have hp := pow10_le (show g + 3 ≤ 11 by omega)
  have e11 : (10 : Int) ^ 11 = 100000000000 := by decide
  apply Decidable.byContradiction
  intro hn
  have b := castle (show R ≤ 10 ^ (g + 3) - 1 by omega)
  have b2 := castle (show (10 : Int) ^ (g + 3) ≤ 100000000000 by omega)
  have e3 : (((10 : Int) ^ (g + 3) : Int) : Rat) = 1000 * (10 : Rat) ^ (g : Int) := by
    rw [zp10]
    have : (1000 : Rat) = (10 : Rat) ^ (3 : Int) := by decide +kernel
    rw [this, ← zp_add k0]; congr 1; omega
  rw [Rat.intCast_sub, e3] at b
  rw [e3] at b2
  have e4 : ((1 : Int) : Rat) = 1 := rfl
  have e5 : ((100000000000 : Int) : Rat) = 100000000000 := rfl
  rw [e4, ← hx] at b
  rw [e5] at b2
  have a := Rat.mul_le_mul_of_nonneg_left h' (show (0 : Rat) ≤ (10 : Rat) ^ (g : Int) by grind)
  have a2 := Rat.mul_le_mul_of_nonneg_left e (show (0 : Rat) ≤ (10 : Rat) ^ (g : Int) by grind)
  clear e3 hp e11 hx h
  generalize (10 : Rat) ^ (g : Int) = P at a a2 b b2 p
  have y : P * (9007199254740992 * (r - x)) = 9007199254740992 * (P * r) - 9007199254740992 * (x * P) := by grind
  rw [y] at a2
  have z : P * x = x * P := by grind
  rw [z] at a2
  clear y z e
  grind

theorem floor_is {N D : Int} {t : Rat} (hN : 0 ≤ N) (hD : 0 < D) (ht : t * D = N) : 0 ≤ N.fdiv D ∧ ((N.fdiv D : Int) : Rat) ≤ t ∧ t < ((N.fdiv D : Int) : Rat) + 1 := by
  obtain ⟨h1, h2, h3⟩ := fdm (n := N) hD
  have d0 : (0 : Rat) < (D : Rat) := castlt hD
  refine ⟨by rw [Int.fdiv_eq_ediv_of_nonneg _ (by omega)]; exact Int.ediv_nonneg hN (by omega), ?_, ?_⟩
  · refine Rat.le_of_mul_le_mul_left (c := (D : Rat)) ?_ d0
    have := castle (show N.fdiv D * D ≤ N by omega)
    rw [Rat.intCast_mul, ← ht] at this
    grind
  · refine Rat.lt_of_mul_lt_mul_left (c := (D : Rat)) ?_ (by grind)
    have := castlt (show N < N.fdiv D * D + D by omega)
    rw [Rat.intCast_add, Rat.intCast_mul, ← ht] at this
    grind

section
variable {fuel m : Nat} {st : Store}

theorem sp_ngettext {x : Str} {i : Int} : callP fuel code (m + 1) 24 [.str x, .str x, .int i] st = some (.str x, st) := by
  rw [call_eq (fd := ⟨3, 0, c_ngettext⟩) rfl rfl]
  unfold c_ngettext
  by_cases h : i = 1
  · simp [finP, ex, ev, lk, cmpP, cmpI, truth, beqD, h]
  · simp [finP, ex, ev, lk, cmpP, cmpI, truth, beqD, h]

theorem sp_iw_small {N D V : Int} {F : Str} (hV : N.fdiv D = V) (hN : 0 ≤ N) (hD : 0 < D) (fD : fit D = true) (h0 : 0 ≤ V) (h1 : V < 1000) :
    callP fuel code (m + 5) 29 [.dbl N D, .str F] st = some (.str (S (dig V.toNat)), st) := by
  have hfin := sp_finite (fuel := fuel) (m := m + 2) (st := st) (N := N) hD
  have hd : callP fuel code (m + 4) 13 [.dbl N D] st = some (.dbl N D, st) := sp_double
  have hi : callP fuel code (m + 4) 5 [.dbl N D] st = some (.int (N.fdiv D), st) := sp_int hN (by omega) fD
  rw [hV] at hi
  have hp : itemL powersV 0 = some (.int 1000) := powV_at (j := 0) (by decide)
  have hnn : ¬ V < 0 := by omega
  have fV : fit V = true := fit_small (by omega)
  have hr := rep_pos h0
  have hl : (dig V.toNat).length ≤ 4096 := by
    have : (dig V.toNat).length ≤ 3 := (dig_len (by decide)).mpr (by omega)
    omega
  rw [call_eq (fd := ⟨2, 11, cintword⟩) rfl rfl]
  unfold cintword
  simp [finP, ex, ev, evs, biP, binP, cmpP, cmpI, itemP, fvalP, catStrs, lk, upd, upds, truth, slim, fInt, hd, hfin, hi, hp, hnn, h0, h1, fV, hr, l_nil, s_empty, S_append, S_length, hl]
end
end Mine
end
section
open PySem PySem.Builtin PySem.Builtin.Str PySem.NumText
set_option Elab.async false
set_option maxRecDepth 100000
set_option exponentiation.threshold 2500
set_option linter.unusedSimpArgs false
namespace Mine

theorem l_sp : Str.ofString " " = S [32] := by rw [S_of]; rfl


def iwB : PS := .seq (.unp [8, 9] (.item (.human) (.loc 3)))
  (.seq (.asg 10 (.call 24 (.cons (.loc 8) (.cons (.loc 9) (.cons (.bi .int (.cons (.loc 7) (.nil))) (.nil))))))
  (.seq (.asg 11 (.call 26 (.nil)))
  (.seq (.asg 12 (.repl (.call 19 (.cons (.loc 1) (.cons (.loc 7) (.nil)))) (PySem.Str.ofString ".") (.loc 11)))
  (.seq (.ret (.fstr (.cons (.fval (.loc 2)) (.cons (.fval (.loc 12)) (.cons (.lit (.str (PySem.Str.ofString " "))) (.cons (.fval (.loc 10)) (.nil)))))))
  (.skip)))))
def iwC : PS := .ite (.bop .And (.not_ (.loc 4)) (.cmp .Eq (.loc 7) (.bin .FloorDiv (.item (.powers) (.bin .Add (.loc 3) (.lit (.int 1)))) (.loc 5))))
  (.seq (.aug 3 .Add (.lit (.int 1)))
  (.seq (.asg 7 (.mkd (.cons (.lit (.int 1)) (.nil))))
  (.skip)))
  (.skip)
def iwA : PS := .seq iwC iwB
def iwD : PS := .seq (.asg 4 (.cmp .Eq (.loc 3) (.bi .len (.cons (.powers) (.nil)))))
      (.seq (.aug 3 .Sub (.lit (.int 1)))
      (.seq (.asg 5 (.item (.powers) (.loc 3)))
      (.seq (.asg 6 (.call 12 (.cons (.loc 0) (.cons (.loc 5) (.nil)))))
      (.seq (.asg 7 (.call 18 (.cons (.call 19 (.cons (.loc 1) (.cons (.loc 6) (.nil)))) (.nil))))
      (iwA)))))
theorem iw_eq : cintword = .seq (.tryy (.seq (.ite (.not_ (.call 14 (.cons (.call 13 (.cons (.loc 0) (.nil))) (.nil))))
  (.seq (.ret (.call 27 (.cons (.call 13 (.cons (.loc 0) (.nil))) (.nil))))
  (.skip))
  (.skip))
  (.seq (.asg 0 (.bi .int (.cons (.loc 0) (.nil))))
  (.skip))))
      (.seq (.ite (.cmp .Lt (.loc 0) (.lit (.int 0)))
  (.seq (.aug 0 .Mult (.neg (.lit (.int 1))))
  (.seq (.asg 2 (.lit (.str (PySem.Str.ofString "-"))))
  (.skip)))
  (.seq (.asg 2 (.lit (.str (PySem.Str.ofString ""))))
  (.skip)))
      (.seq (.ite (.cmp .Lt (.loc 0) (.item (.powers) (.lit (.int 0))))
  (.seq (.ret (.fstr (.cons (.fval (.loc 2)) (.cons (.fval (.loc 0)) (.nil)))))
  (.skip))
  (.skip))
      (.seq (.asg 3 (.bi .bisect (.cons (.powers) (.cons (.loc 0) (.nil)))))
      (iwD)))) := rfl

section
variable {fuel m : Nat} {st : Store}

/-- the last part: the name and the text -/
theorem iw_tail {g : Nat} {l nam : List Nat} {n d i z : Int} {a0 a4 a5 a6 : Option PVal} (hl : l.length ≤ 200) (hhum : itemL humanV z = some (.tup [.str (S nam), .str (S nam)])) (hn : nam.length ≤ 20)
    (h19 : callP fuel code (m + 4) 19 [.str (fmt g), .dbl n d] st = some (.str (S l), st)) (h5 : callP fuel code (m + 4) 5 [.dbl n d] st = some (.int i, st)) :
    finP (ex fuel (callP fuel code (m + 4)) iwB [a0, some (.str (fmt g)), some (.str (S [])), some (.int z), a4, a5, a6, some (.dbl n d), none, none, none, none, none] st) = some (.str (S (l ++ [32] ++ nam)), st) := by
  have hs : l.length ≤ 4096 ∧ nam.length ≤ 4096 ∧ l.length + (nam.length + 1) ≤ 4096 := by omega
  have hself : ∀ x : Str, Txt.replace x (S [46]) (S [46]) = x := fun x => Txt.replace_self x (S [46])
  unfold iwB
  simp [finP, ex, ev, evs, biP, itemP, fvalP, catStrs, lk, upd, upds, truth, slim, fInt, replOk, replP, hhum, h5, sp_ngettext, sp_dsep, h19, hself, l_dot, l_sp, s_empty, S_append, S_length, hs]

theorem iw_mid {V z p : Int} {cN cD rN rD : Int} {F : Str} {L : List Nat} (h12 : ¬ z + 1 = 12) (h11 : ¬ z = 11) (hpj : itemL powersV z = some (.int p))
    (hquot : callP fuel code (m + 4) 12 [.int V, .int p] st = some (.dbl cN cD, st)) (hl1 : callP fuel code (m + 4) 19 [.str F, .dbl cN cD] st = some (.str (S L), st))
    (hread : callP fuel code (m + 4) 18 [.str (S L)] st = some (.dbl rN rD, st)) {v : PVal}
    (ht : finP (ex fuel (callP fuel code (m + 4)) iwA [some (.int V), some (.str F), some (.str (S [])), some (.int z), some (.bool false), some (.int p), some (.dbl cN cD), some (.dbl rN rD), none, none, none, none, none] st) = some (v, st)) :
    finP (ex fuel (callP fuel code (m + 4)) iwD [some (.int V), some (.str F), some (.str (S [])), some (.int (z + 1)), none, none, none, none, none, none, none, none, none] st) = some (v, st) := by
  have hplen : powersI.length ≤ 100 ∧ powersV.length = 12 := by decide
  unfold iwD
  generalize iwA = W at ht ⊢
  simp [ex, ev, evs, biP, binP, binI, cmpP, cmpI, itemP, lk, upd, upds, truth, augOk, slim, beqD, hplen, h12, h11, hpj, hquot, hl1, hread, ht]

/-- the first part -/
theorem iw_front {N D V z : Int} {F : Str} (hfin : callP fuel code (m + 4) 14 [.dbl N D] st = some (.bool true, st)) (hi0 : callP fuel code (m + 4) 5 [.dbl N D] st = some (.int V, st))
    (h0 : 1000 ≤ V) (hbis : ((bisR powersI V : Nat) : Int) = z) {v : PVal}
    (ht : finP (ex fuel (callP fuel code (m + 4)) iwD [some (.int V), some (.str F), some (.str (S [])), some (.int z), none, none, none, none, none, none, none, none, none] st) = some (v, st)) :
    callP fuel code (m + 5) 29 [.dbl N D, .str F] st = some (v, st) := by
  have hd : callP fuel code (m + 4) 13 [.dbl N D] st = some (.dbl N D, st) := sp_double
  have hp0 : itemL powersV 0 = some (.int 1000) := powV_at (j := 0) (by decide)
  have hplen : powersI.length ≤ 100 ∧ powersV.length = 12 := by decide
  have hnn : ¬ V < 0 := by omega
  have h1000 : ¬ V < 1000 := by omega
  have hle0 : 0 ≤ V := by omega
  rw [call_eq (fd := ⟨2, 11, cintword⟩) rfl rfl]
  simp only [iw_eq]
  generalize iwD = W at ht ⊢
  simp [ex, ev, evs, biP, binP, binI, cmpP, cmpI, itemP, lk, upd, upds, truth, augOk, slim, beqD, fInt, hd, hfin, hi0, hp0, hnn, hle0, h1000, ints_pow, hplen, hbis, l_nil, ht]
end

section
variable {fuel m : Nat} {st : Store}

theorem iw_carry {V z p p1 Q : Int} {cN cD rN rD oN oD : Int} {F : Str} {v : PVal} (hp1 : itemL powersV (z + 1) = some (.int p1)) (hQ : p1.fdiv p = Q) (fp : fit p = true) (p0 : p ≠ 0)
    (heq : callP fuel code (m + 4) 6 [.dbl rN rD, .int Q] st = some (.bool (decide (rN * 1 = Q * rD)), st)) (hc : rN * 1 = Q * rD)
    (hnear1 : callP fuel code (m + 4) 1 [.int 1, .int 1] st = some (.tup [.int oN, .int oD], st))
    (ht : finP (ex fuel (callP fuel code (m + 4)) iwB [some (.int V), some (.str F), some (.str (S [])), some (.int (z + 1)), some (.bool false), some (.int p), some (.dbl cN cD), some (.dbl oN oD), none, none, none, none, none] st) = some (v, st)) :
    finP (ex fuel (callP fuel code (m + 4)) iwA [some (.int V), some (.str F), some (.str (S [])), some (.int z), some (.bool false), some (.int p), some (.dbl cN cD), some (.dbl rN rD), none, none, none, none, none] st) = some (v, st) := by
  rw [decide_eq_true hc] at heq
  unfold iwA
  generalize iwB = W at ht ⊢
  unfold iwC
  simp [ex, ev, evs, binP, binI, cmpP, itemP, lk, upd, truth, augOk, isNum, fEq, fNear, hp1, hQ, fp, p0, heq, hnear1, ht]
theorem iw_nocarry {V z p p1 Q : Int} {cN cD rN rD : Int} {F : Str} {v : PVal} (hp1 : itemL powersV (z + 1) = some (.int p1)) (hQ : p1.fdiv p = Q) (fp : fit p = true) (p0 : p ≠ 0)
    (heq : callP fuel code (m + 4) 6 [.dbl rN rD, .int Q] st = some (.bool (decide (rN * 1 = Q * rD)), st)) (hc : ¬ rN * 1 = Q * rD)
    (ht : finP (ex fuel (callP fuel code (m + 4)) iwB [some (.int V), some (.str F), some (.str (S [])), some (.int z), some (.bool false), some (.int p), some (.dbl cN cD), some (.dbl rN rD), none, none, none, none, none] st) = some (v, st)) :
    finP (ex fuel (callP fuel code (m + 4)) iwA [some (.int V), some (.str F), some (.str (S [])), some (.int z), some (.bool false), some (.int p), some (.dbl cN cD), some (.dbl rN rD), none, none, none, none, none] st) = some (v, st) := by
  rw [decide_eq_false hc] at heq
  unfold iwA
  generalize iwB = W at ht ⊢
  unfold iwC
  simp [ex, ev, evs, binP, binI, cmpP, itemP, lk, upd, truth, augOk, isNum, fEq, fNear, hp1, hQ, fp, p0, heq, ht]

set_option maxHeartbeats 1000000 in
theorem sp_iw_big {N D V : Int} {g j : Nat} (hV : N.fdiv D = V) (hN : 0 ≤ N) (hD : 0 < D) (fD : fit D = true) (hg : g ≤ 8) (hj : j ≤ 10)
    (lo : (10 : Int) ^ (3 * j + 3) ≤ V) (hi : j < 10 → V < 10 ^ (3 * j + 6)) (h36 : V ≤ 10 ^ 36) :
    ∃ (c : Rat) (R : Int) (j' : Nat) (R' : Nat) (l : List Nat), Chop g V j c R ∧ j' ≤ 10 ∧ IsDec l R' g ∧ R' < 10 ^ 50 ∧ ((j' = j ∧ (R' : Int) = R) ∨ (j' = j + 1 ∧ R' = 10 ^ g ∧ R = 10 ^ (g + 3))) ∧
      callP fuel code (m + 5) 29 [.dbl N D, .str (fmt g)] st = some (.str (S (l ++ [32] ++ nm j')), st) := by
  have hVle : V ≤ 10 ^ (3 * j + 6) := by
    by_cases h : j < 10
    · have := hi h; omega
    · have : j = 10 := by omega
      subst this; exact h36
  have pj := pow10_pos (3 * j + 3)
  have hV0 : 0 < V := by omega
  have b36 : (10 : Int) ^ 36 < 2 ^ 230 := by decide +kernel
  have b600 : (2 : Int) ^ 230 < 2 ^ 600 := pow_lt_pow (by decide)
  have bV : V < 2 ^ 600 := by omega
  have fV : fit V = true := fit_pow (by omega) bV (by decide)
  have b33 : (10 : Int) ^ (3 * j + 3) < 2 ^ 600 := by have := pow10_le (show 3 * j + 3 ≤ 36 by omega); omega
  -- the quotient
  have hx : ((V : Rat) * (10 : Rat) ^ (-((3 * j + 3 : Nat) : Int))) * ((10 ^ (3 * j + 3) : Int) : Rat) = V := by
    have n := zp_neg k0 ((3 * j + 3 : Nat) : Int)
    rw [zp10, Rat.mul_assoc, Rat.mul_comm ((10 : Rat) ^ (-((3 * j + 3 : Nat) : Int))), n]; grind
  have q := zp_pos k0 (-((3 * j + 3 : Nat) : Int))
  have n := zp_neg k0 ((3 * j + 3 : Nat) : Int)
  have lo1 : 1 ≤ (V : Rat) * (10 : Rat) ^ (-((3 * j + 3 : Nat) : Int)) := by
    have a := castle lo
    rw [zp10] at a
    have b := Rat.mul_le_mul_of_nonneg_left a (show (0 : Rat) ≤ (10 : Rat) ^ (-((3 * j + 3 : Nat) : Int)) by grind)
    grind
  have hi1 : (V : Rat) * (10 : Rat) ^ (-((3 * j + 3 : Nat) : Int)) ≤ 1000 := by
    have a := castle hVle
    rw [zp10] at a
    have b := Rat.mul_le_mul_of_nonneg_left a (show (0 : Rat) ≤ (10 : Rat) ^ (-((3 * j + 3 : Nat) : Int)) by grind)
    have e : (10 : Rat) ^ ((3 * j + 6 : Nat) : Int) = (10 : Rat) ^ ((3 * j + 3 : Nat) : Int) * 1000 := by
      have : (1000 : Rat) = (10 : Rat) ^ (3 : Int) := by decide +kernel
      rw [this, ← zp_add k0]; congr 1
    rw [e] at b
    grind
  have z1 : (2 : Rat) ^ (-150 : Int) ≤ 1 := by decide +kernel
  have z2 : (1000 : Rat) ≤ (2 : Rat) ^ (150 : Int) := by decide +kernel
  obtain ⟨c, hc, cN, cD, ce, cN0, cD0, bcN, bcD, hcv⟩ := near_db hV0 pj hx (Rat.le_trans z1 lo1) (Rat.le_trans hi1 z2)
  have hc1000 : c ≤ 1000 := hc.mono (near_whole (n := 1000) (by decide) (by decide)) hi1
  have z3 : (1000 : Rat) ≤ (10 : Rat) ^ (36 : Int) := by decide +kernel
  obtain ⟨R, e1, hR, hR50, hdec, hlaid⟩ := laid_v (fuel := fuel) (g := g) (Int.le_of_lt cN0) cD0 (by omega) (by omega) hcv (Rat.le_trans hc1000 z3) hg
  have hch : Chop g V j c R := ⟨hj, lo, hi, hc, hR⟩
  have hRlo := hch.c_ge.2
  have hRhi := (hch.c_le hVle).2
  have pg := pow10_pos g
  have hR0 : 0 < R := by omega
  -- read back
  have hx2 : ((R : Rat) * (10 : Rat) ^ (-(g : Int))) * (10 : Rat) ^ (g : Int) = ((R : Int) : Rat) := by
    have n := zp_neg k0 (g : Int)
    rw [Rat.mul_assoc, Rat.mul_comm ((10 : Rat) ^ (-(g : Int))), n, Rat.mul_one]; rfl
  have hx2' : ((R : Rat) * (10 : Rat) ^ (-(g : Int))) * ((10 ^ g : Int) : Rat) = ((R : Int) : Rat) := by rw [zp10]; exact hx2
  have pgq := zp_pos k0 (g : Int)
  have lo2 : 1 ≤ (R : Rat) * (10 : Rat) ^ (-(g : Int)) := by
    refine Rat.le_of_mul_le_mul_left (c := (10 : Rat) ^ (g : Int)) ?_ pgq
    have a := castle hRlo
    rw [zp10, ← hx2] at a
    grind
  have hi2 : (R : Rat) * (10 : Rat) ^ (-(g : Int)) ≤ 1000 := by
    refine Rat.le_of_mul_le_mul_left (c := (10 : Rat) ^ (g : Int)) ?_ pgq
    have a := castle hRhi
    have e : (((10 : Int) ^ (g + 3) : Int) : Rat) = (10 : Rat) ^ (g : Int) * 1000 := by
      have : (1000 : Rat) = (10 : Rat) ^ (3 : Int) := by decide +kernel
      rw [zp10, this, ← zp_add k0]; congr 1
    rw [e, ← hx2] at a
    grind
  obtain ⟨r, hr, rN, rD, re, rN0, rD0, brN, brD, hrv⟩ := near_db (n := (R : Int)) (d := 10 ^ g) (by omega) pg hx2' (Rat.le_trans z1 lo2) (Rat.le_trans hi2 z2)
  have hr1000 : r ≤ 1000 := hr.mono (near_whole (n := 1000) (by decide) (by decide)) hi2
  have hR100 : R < 10 ^ 100 := Nat.lt_trans hR50 (Nat.pow_lt_pow_right (by decide) (by decide))
  obtain ⟨R2, e2, hR2, _, hdec2, hlaid2⟩ := laid_v (fuel := fuel) (g := g) (Int.le_of_lt rN0) rD0 (by omega) (by omega) hrv (Rat.le_trans hr1000 z3) hg
  have hRR : (R2 : Int) = R := reread hg hx2 hRhi hr hR2
  have hRR' : R2 = R := by omega
  subst hRR'
  -- facts for the walk
  injection ce with ca cb
  injection re with ra rb
  have hquot := sp_quot (fuel := fuel) (m := m + 1) (st := st) hV0 pj bV b33
  rw [ca, cb] at hquot
  have hread := sp_read (fuel := fuel) (m := m + 1) (st := st) hdec (by omega) hR100 (by omega)
  rw [ra, rb] at hread
  have hl1 := hlaid (m + 2) st
  have hl2 := hlaid2 (m + 2) st
  have frN : fit rN = true := fit_pow (by omega) brN (by decide)
  have frD : fit rD = true := fit_pow (by omega) brD (by decide)
  have hri : callP fuel code (m + 4) 5 [.dbl rN rD] st = some (.int (rN.fdiv rD), st) := sp_int (by omega) (by omega) frD
  have hfin := sp_finite (fuel := fuel) (m := m + 2) (st := st) (N := N) hD
  have hd : callP fuel code (m + 4) 13 [.dbl N D] st = some (.dbl N D, st) := sp_double
  have hi0 : callP fuel code (m + 4) 5 [.dbl N D] st = some (.int (N.fdiv D), st) := sp_int hN (by omega) fD
  rw [hV] at hi0
  have hp0 : itemL powersV 0 = some (.int 1000) := powV_at (j := 0) (by decide)
  have hpe : pe j = 3 * j + 3 := by unfold pe; rw [if_pos (by omega)]
  have hpj := powV_at (j := j) (by omega)
  rw [hpe] at hpj
  have hpj1 : itemL powersV ((j : Int) + 1) = some (.int (10 ^ pe (j + 1))) := powV_at (j := j + 1) (by omega)
  have hbis := bis_place hj lo hi (by have : (10 : Int) ^ 36 < 10 ^ 100 := by decide +kernel
                                      omega)
  have hplen : powersI.length ≤ 100 ∧ powersV.length = 12 := by decide
  have fpj := fit10 (a := 3 * j + 3) (by omega)
  have hnn : ¬ V < 0 := by omega
  have h1000 : ¬ V < 1000 := by
    have := pow10_le (show 3 ≤ 3 * j + 3 by omega)
    have e : (10 : Int) ^ 3 = 1000 := by decide
    omega
  have hle0 : 0 ≤ V := by omega
  have pj0 : (10 : Int) ^ (3 * j + 3) ≠ 0 := by omega
  have hj11 : ¬ (j : Int) + 1 = 12 ∧ ¬ (j : Int) = 11 ∧ ¬ j = 11 ∧ ¬ j + 1 = 12 := by omega
  obtain ⟨Q, hQ⟩ : ∃ Q : Int, ((10 : Int) ^ pe (j + 1)).fdiv (10 ^ (3 * j + 3)) = Q := ⟨_, rfl⟩
  have hQv : Q = if j < 10 then 1000 else 10 ^ 67 := by
    rw [← hQ]
    have key : ∀ a b : Nat, ((10 : Int) ^ (a + b)).fdiv (10 ^ a) = 10 ^ b := fun a b => by
      rw [Int.fdiv_eq_ediv_of_nonneg _ (Int.le_of_lt (pow10_pos a)), Int.pow_add, Int.mul_comm]
      exact Int.mul_ediv_cancel _ (by have := pow10_pos a; omega)
    by_cases h : j < 10
    · rw [if_pos h, show pe (j + 1) = (3 * j + 3) + 3 by unfold pe; rw [if_pos (by omega)]; omega, key]; rfl
    · have : j = 10 := by omega
      subst this
      rw [if_neg h]
      exact key 33 67
  have fQ : fit Q = true := by
    rw [hQv]
    split
    · exact fit_small (by decide)
    · exact fit10 (by decide)
  have f1 : fit 1 = true := fit_small (by decide)
  have heq : callP fuel code (m + 2 + 2) 6 [.dbl rN rD, .int Q] st = some (.bool (decide (rN * 1 = Q * rD)), st) := sp_eq sp_parts_int frN frD fQ f1
  have hdl : (dec R2 g).length ≤ 200 := hdec.len
  have hself : ∀ x : Str, Txt.replace x (S [46]) (S [46]) = x := fun x => Txt.replace_self x (S [46])
  have hdl2 : (dec R2 g).length ≤ 4096 := by omega
  by_cases hcar : rN * 1 = Q * rD
  · -- carry
    have hrQ : r = Q := by
      have d0 : (0 : Rat) < (rD : Rat) := castlt rD0
      have h := congrArg (fun z : Int => (z : Rat)) hcar
      simp only [Rat.intCast_mul] at h
      rw [← hrv] at h
      have e : ((1 : Int) : Rat) = 1 := rfl
      rw [e] at h
      refine Rat.le_antisymm (Rat.le_of_mul_le_mul_left (c := (rD : Rat)) ?_ d0) (Rat.le_of_mul_le_mul_left (c := (rD : Rat)) ?_ d0) <;> grind
    have hj9 : j < 10 := by
      apply Decidable.byContradiction
      intro hn
      rw [if_neg hn] at hQv
      rw [hrQ, hQv] at hr1000
      revert hr1000
      decide +kernel
    rw [if_pos hj9] at hQv
    have hR3 : ((R2 : Nat) : Int) = 10 ^ (g + 3) := read_1000 hg hx2 hRhi hr (by rw [hrQ, hQv]; decide +kernel)
    have hone : IsNear 1 1 := near_whole (n := 1) (by decide) (by decide)
    have z4 : (1 : Rat) ≤ (2 : Rat) ^ (150 : Int) := by decide +kernel
    obtain ⟨o, ho, oN, oD, oe, oN0, oD0, boN, boD, hov⟩ := near_db (n := 1) (d := 1) (x := 1) (by decide) (by decide) (by decide +kernel) z1 z4
    have ho1 : o = 1 := hone.idem ho
    have z5 : (1 : Rat) ≤ (10 : Rat) ^ (36 : Int) := by decide +kernel
    rw [ho1] at hov
    obtain ⟨R3, e3, hR3', hR350, hdec3, hlaid3⟩ := laid_v (fuel := fuel) (g := g) (Int.le_of_lt oN0) oD0 (by omega) (by omega) hov z5 hg
    have hR3g : ((R3 : Nat) : Int) = 10 ^ g := hR3'.unique (by rw [Rat.one_mul, ← zp10]; exact IsR.whole _)
    have hR3g' : R3 = 10 ^ g := by exact_mod_cast hR3g
    injection oe with oa ob
    have hnear1 := sp_near (fuel := fuel) (m := m + 2) (st := st) (n := 1) (d := 1) (by decide) (by decide) (by decide) (by decide)
    rw [oa, ob] at hnear1
    have hl3 := hlaid3 (m + 2) st
    have foD : fit oD = true := fit_pow (by omega) boD (by decide)
    have hoi : callP fuel code (m + 4) 5 [.dbl oN oD] st = some (.int (oN.fdiv oD), st) := sp_int (by omega) (by omega) foD
    refine ⟨c, _, j + 1, R3, _, hch, by omega, hdec3, hR350, .inr ⟨rfl, hR3g', hR3⟩, ?_⟩
    refine iw_front hfin hi0 (by omega) (z := (j : Int) + 1) (by rw [hbis]; omega) (iw_mid hj11.1 hj11.2.1 hpj hquot hl1 hread ?_)
    have htail := iw_tail (fuel := fuel) (m := m) (st := st) (g := g) (a0 := some (.int V)) (a4 := some (.bool false)) (a5 := some (.int (10 ^ (3 * j + 3)))) (a6 := some (.dbl cN cD)) hdec3.len (human_at (j + 1) (by omega)) (nm_facts (j + 1) (by omega)).2.2 hl3 hoi
    rw [show (((j + 1 : Nat)) : Int) = (j : Int) + 1 by omega] at htail
    exact iw_carry hpj1 hQ fpj pj0 heq hcar hnear1 htail
  · have hcar' : ¬ rN = Q * rD := by rw [Int.mul_one] at hcar; exact hcar
    refine ⟨c, _, j, R2, _, hch, hj, hdec, hR50, .inl ⟨rfl, rfl⟩, ?_⟩
    refine iw_front hfin hi0 (by omega) (z := (j : Int) + 1) (by rw [hbis]; omega) (iw_mid hj11.1 hj11.2.1 hpj hquot hl1 hread ?_)
    have htail := iw_tail (fuel := fuel) (m := m) (st := st) (g := g) (a0 := some (.int V)) (a4 := some (.bool false)) (a5 := some (.int (10 ^ (3 * j + 3)))) (a6 := some (.dbl cN cD)) hdec.len (human_at j (by omega)) (nm_facts j (by omega)).2.2 hl2 hri
    exact iw_nocarry hpj1 hQ fpj pj0 heq hcar htail
end
end Mine
end
section
open PySem PySem.Builtin PySem.Builtin.Str PySem.NumText
set_option Elab.async false
set_option maxRecDepth 100000
set_option exponentiation.threshold 2500
set_option linter.unusedSimpArgs false
namespace Mine

theorem dig_dec {V : Nat} (h : V < 10 ^ 100) : IsDec (dig V) V 0 := by
  have hl : (dig V).length ≤ 100 := (dig_len (by decide)).mpr h
  have hnil : AllDigits [] := fun _ h => nomatch h
  exact ⟨⟨dig V, [], dig_all V, hnil, dig_ne V, rfl, by simp [dig_val], by simp⟩, by omega⟩

theorem m_part {cf : CF} {st : Store} (x y : Str) : methP cf .partition (.str x) [.str y] st = if x.length ≤ slim ∧ y.length ≠ 0 then some (.tup [.str (Txt.partition x y).1, .str (Txt.partition x y).2.1, .str (Txt.partition x y).2.2], st) else none := rfl
section
variable {fuel m : Nat} {st : Store}

theorem told2_small {N D V : Int} {t : Rat} {g : Nat} (hV : N.fdiv D = V) (hN : 0 < N) (hD : 0 < D) (fD : fit D = true) (hg : g ≤ 8) (h0 : 0 ≤ V) (h1 : V < 1000) (v1 : (V : Rat) ≤ t) (v2 : t < (V : Rat) + 1) :
    ∃ v, ToldOk 1 t V v ∧ callP fuel code (m + 6) 38 [.int 2, .dbl N D, .int g] st = some (v, st) := by
  obtain ⟨n, rfl⟩ := Int.eq_ofNat_of_zero_le h0
  have hn : n < 10 ^ 50 := by
    have : n < 1000 := by omega
    exact Nat.lt_trans this (by decide +kernel)
  have hn2 : n < 10 ^ 100 := Nat.lt_trans hn (Nat.pow_lt_pow_right (by decide) (by decide))
  have hdec := dig_dec hn2
  have h29 := sp_iw_small (fuel := fuel) (m := m) (st := st) (F := fmt g) hV (by omega) hD fD h0 h1
  rw [show ((n : Int)).toNat = n by omega] at h29
  have h37 := sp_decimal (fuel := fuel) (m := m + 4) (st := st) (ten := 0) hdec (by decide)
  have hfm := fstr_fmt hg
  have fg : fit (g : Int) = true := fit_small (by omega)
  have hq : S [37, 46, 48 + g, 102] = fmt g := rfl
  have hl := hdec.len
  have hl2 : (dig n).length ≤ 4096 := by omega
  have hpart : Txt.partition (S (dig n)) (S [32]) = (S (dig n), S [], S []) := part_no (hdec.free (by decide))
  refine ⟨_, dec_told (ten := 0) (g := 0) (R := n) hn (by decide) (by decide) ?_ ?_ ?_, ?_⟩
  · rw [show (0 : Int) - ((0 : Nat) : Int) = 0 by omega, Rat.zpow_zero, Rat.mul_one]; rfl
  · rw [show (0 : Int) - ((0 : Nat) : Int) = 0 by omega, Rat.zpow_zero]
    have : ((1 : Int) : Rat) = 1 := rfl
    rw [this]
    generalize (((n : Nat) : Int) : Rat) = z at v1 v2 ⊢
    clear hl hl2 hdec h29 h37 hfm fg hq hpart hn hn2
    grind
  · rw [show (0 : Int) - ((0 : Nat) : Int) = 0 by omega, Rat.zpow_zero]
    have : ((1 : Int) : Rat) = 1 := rfl
    rw [this]
    generalize (((n : Nat) : Int) : Rat) = z at v1 v2 ⊢
    clear hl hl2 hdec h29 h37 hfm fg hq hpart hn hn2
    grind
  · rw [call_eq (fd := ⟨3, 13, c_law_told⟩) rfl rfl]
    unfold c_law_told
    simp [finP, ex, ev, evs, cmpP, cmpI, methP, fvalP, catStrs, lk, upd, upds, truth, slim, beqD, bneD, S_beq, bne, S_eq, fg, hfm, l_pctdot, l_f, l_sp, l_nil, s_empty, S_append, S_length, hq, fmt_len, h29, hl2, hpart]
    simp at h37
    simp [h37]

theorem told2_big {N D V : Int} {t : Rat} {g j : Nat} (hV : N.fdiv D = V) (hN : 0 < N) (hD : 0 < D) (fD : fit D = true) (hg : g ≤ 8) (hj : j ≤ 10)
    (lo : (10 : Int) ^ (3 * j + 3) ≤ V) (hi : j < 10 → V < 10 ^ (3 * j + 6)) (h36 : V ≤ 10 ^ 36) (v1 : (V : Rat) ≤ t) (v2 : t < (V : Rat) + 1) :
    ∃ c R v, Chop g V j c R ∧ ToldOk 1 t (chopT g j R) v ∧ callP fuel code (m + 6) 38 [.int 2, .dbl N D, .int g] st = some (v, st) := by
  obtain ⟨c, R, j', R', l, hch, hj', hdec, hR', hcase, h29⟩ := sp_iw_big (fuel := fuel) (m := m) (st := st) hV (by omega) hD fD hg hj lo hi h36
  have hVle : V ≤ 10 ^ (3 * j + 6) := by
    by_cases h : j < 10
    · have := hi h; omega
    · have : j = 10 := by omega
      subst this; exact h36
  have hfar := hch.far hg hVle v1 v2
  obtain ⟨nf1, nf2, nf3⟩ := nm_facts j' (by omega)
  have h37 := sp_decimal (fuel := fuel) (m := m + 4) (st := st) (ten := 3 * ((j' : Int) + 1)) hdec (by omega)
  have hfm := fstr_fmt hg
  have fg : fit (g : Int) = true := fit_small (by omega)
  have hq : S [37, 46, 48 + g, 102] = fmt g := rfl
  have hl := hdec.len
  have hpart : Txt.partition (S (l ++ [32] ++ nm j')) (S [32]) = (S l, S [32], S (nm j')) := by
    have := part_at (a := l) (b := nm j') (x := 32) (hdec.free (by decide)) nf2
    rw [← this]
    congr 2
    simp
  have hlen : (S (l ++ [32] ++ nm j')).length ≤ slim := by
    rw [S_length]
    have : slim = 4096 := rfl
    rw [this]
    simp
    omega
  have hmp : ∀ cf : CF, methP cf .partition (.str (S (l ++ [32] ++ nm j'))) [.str (S [32])] st = some (.tup [.str (S l), .str (S [32]), .str (S (nm j'))], st) := by
    intro cf
    rw [m_part, if_pos ⟨hlen, by rw [S_length]; decide⟩, hpart]
  have hidx := fun cf => names_idx (cf := cf) (st := st) j' (by omega)
  have hne : (S (nm j') != S []) = true := by simp only [bne, S_beq]; simp [nf1]
  have e1 : ((1 : Int) : Rat) = 1 := rfl
  have f3 : fit 3 = true := fit_small (by decide)
  have fj : fit ((j' : Int) + 1) = true := fit_small (by omega)
  refine ⟨c, R, _, hch, dec_told (ten := 3 * ((j' : Int) + 1)) (g := g) (R := R') hR' (by omega) (by omega) ?_ ?_ ?_, ?_⟩
  · rcases hcase with ⟨rfl, hr⟩ | ⟨rfl, hr, hr2⟩
    · unfold chopT
      rw [← hr, show ((3 * j' + 3 : Nat) : Int) - (g : Int) = 3 * ((j' : Int) + 1) - g by omega]; rfl
    · unfold chopT
      rw [hr2, hr, zp10, ← zp_add k0, Rat.natCast_pow, ← Rat.zpow_natCast]
      have : ((10 : Nat) : Rat) = 10 := rfl
      rw [this, ← zp_add k0]
      congr 1; omega
  · have hu : (10 : Rat) ^ (((3 * j + 3 : Nat) : Int) - (g : Int)) ≤ (10 : Rat) ^ (3 * ((j' : Int) + 1) - g) := zp_mono k1 (by omega)
    rw [e1]
    have := hfar.1
    grind
  · have hu : (10 : Rat) ^ (((3 * j + 3 : Nat) : Int) - (g : Int)) ≤ (10 : Rat) ^ (3 * ((j' : Int) + 1) - g) := zp_mono k1 (by omega)
    rw [e1]
    have := hfar.2
    grind
  · generalize S (l ++ [32] ++ nm j') = L at h29 hmp
    generalize (j' : Int) = z at h37 hidx fj
    rw [call_eq (fd := ⟨3, 13, c_law_told⟩) rfl rfl]
    unfold c_law_told
    simp [finP, ex, ev, evs, binP, binI, cmpP, cmpI, fvalP, catStrs, lk, upd, upds, truth, slim, beqD, bneD, fg, hfm, l_pctdot, l_f, l_sp, l_nil, s_empty, S_append, S_length, hq, fmt_len, h29, hmp, sp_names, hidx, hne, h37, f3, fj]

theorem told2 {N D : Int} {t : Rat} {g : Nat} (hN : 0 < N) (hD : 0 < D) (bN : N < 2 ^ 230) (bD : D < 2 ^ 230) (ht : t * D = N) (hr : Rng t) (hg : g ≤ 8) :
    ∃ T v, Way2 g t T ∧ ToldOk 1 t T v ∧ callP fuel code (m + 6) 38 [.int 2, .dbl N D, .int g] st = some (v, st) := by
  have fD : fit D = true := fit_pow (Int.le_of_lt hD) bD (by decide)
  obtain ⟨v0, v1, v2⟩ := floor_is (Int.le_of_lt hN) hD ht
  obtain ⟨V, hV⟩ : ∃ V, N.fdiv D = V := ⟨_, rfl⟩
  rw [hV] at v0 v1 v2
  by_cases h : V < 1000
  · obtain ⟨v, h1, h2⟩ := told2_small (fuel := fuel) (m := m) (st := st) hV hN hD fD hg v0 h v1 v2
    exact ⟨_, v, ⟨V, v1, v2, .inl ⟨h, rfl⟩⟩, h1, h2⟩
  · have h36 : V ≤ 10 ^ 36 := by
      have := Rat.le_trans v1 hr.2
      have e : (10 : Rat) ^ (36 : Int) = ((10 ^ 36 : Int) : Rat) := by decide +kernel
      rw [e] at this
      exact Rat.intCast_le_intCast.mp this
    obtain ⟨j, h1, h2, h3⟩ := pow_place (V := V) (by omega) 10
    obtain ⟨c, R, v, g1, g2, g3⟩ := told2_big (fuel := fuel) (m := m) (st := st) hV hN hD fD hg h1 h2 h3 h36 v1 v2
    exact ⟨_, v, ⟨V, v1, v2, .inr ⟨j, c, R, g1, rfl⟩⟩, g2, g3⟩
end
end Mine
end
section
open PySem PySem.Builtin PySem.Builtin.Str PySem.NumText
set_option Elab.async false
set_option maxRecDepth 100000
set_option linter.unusedSimpArgs false
namespace Mine

/-- neighbours among the fractions -/
structure Farey (f : Rat) (a b c e : Int) : Prop where
  det : b * c - a * e = 1
  b1 : 1 ≤ b
  b2 : b ≤ 1000
  e1 : 1 ≤ e
  e2 : e ≤ 1000
  far : 1000 < b + e
  lo : (a : Rat) ≤ f * b
  hi : f * e < c

def Over (f : Rat) (a b c e : Int) : Prop := (c - f * e) * b < (f * b - a) * e ∨ ((f * b - a) * e = (c - f * e) * b ∧ e < b)

/-- A over B is the fraction told for f -/
def Frac (f : Rat) (A B : Int) : Prop := 1 ≤ B ∧ B ≤ 1000 ∧ (f * B = A ∨ ∃ a b c e, Farey f a b c e ∧ ((Over f a b c e ∧ A = c ∧ B = e) ∨ (¬ Over f a b c e ∧ A = a ∧ B = b)))

theorem Farey.gap {f : Rat} {a b c e x y : Int} (h : Farey f a b c e) (hy : 1 ≤ y) (hy2 : y ≤ 1000) : x * b ≤ a * y ∨ c * y ≤ x * e := by
  apply Decidable.byContradiction
  intro hn
  have h1 : 1 ≤ x * b - a * y := by omega
  have h2 : 1 ≤ c * y - x * e := by omega
  have m1 : e * 1 ≤ e * (x * b - a * y) := Int.mul_le_mul_of_nonneg_left h1 (by have := h.e1; omega)
  have m2 : b * 1 ≤ b * (c * y - x * e) := Int.mul_le_mul_of_nonneg_left h2 (by have := h.b1; omega)
  have d := h.det
  have key : e * (x * b - a * y) + b * (c * y - x * e) = y * (b * c - a * e) := by grind
  rw [d] at key
  have := h.far
  omega

theorem Farey.same {f f' : Rat} {a b c e a' b' c' e' : Int} (h : Farey f a b c e) (h' : Farey f' a' b' c' e') (h1 : a * b' = a' * b) (h2 : c * e' = c' * e) : a = a' ∧ b = b' ∧ c = c' ∧ e = e' := by
  have p1 := h.b1
  have p2 := h'.b1
  have q1 := h.e1
  have q2 := h'.e1
  have d1 := h.det
  have d2 := h'.det
  have b1 : b ∣ b' := ⟨b' * c - a' * e, by
    have : b * (b' * c - a' * e) = b' * (b * c - a * e) := by grind
    rw [d1] at this; omega⟩
  have b2 : b' ∣ b := ⟨b * c' - a * e', by
    have : b' * (b * c' - a * e') = b * (b' * c' - a' * e') := by grind
    rw [d2] at this; omega⟩
  have e1 : e ∣ e' := ⟨b * c' - a * e', by
    have : e * (b * c' - a * e') = e' * (b * c - a * e) := by grind
    rw [d1] at this; omega⟩
  have e2 : e' ∣ e := ⟨b' * c - a' * e, by
    have : e' * (b' * c - a' * e) = e * (b' * c' - a' * e') := by grind
    rw [d2] at this; omega⟩
  have hb : b = b' := by
    have x1 := Int.le_of_dvd (by omega) b1
    have x2 := Int.le_of_dvd (by omega) b2
    omega
  have he : e = e' := by
    have x1 := Int.le_of_dvd (by omega) e1
    have x2 := Int.le_of_dvd (by omega) e2
    omega
  subst hb he
  exact ⟨Int.eq_of_mul_eq_mul_right (by omega) h1, rfl, Int.eq_of_mul_eq_mul_right (by omega) h2, rfl⟩

theorem castmul {a b c d : Int} (h : a * b ≤ c * d) : (a : Rat) * b ≤ (c : Rat) * d := by
  have := castle h
  rwa [Rat.intCast_mul, Rat.intCast_mul] at this
theorem uncast {a b c d : Int} (h : (a : Rat) * b ≤ (c : Rat) * d) : a * b ≤ c * d := by
  apply Rat.intCast_le_intCast.mp
  rwa [Rat.intCast_mul, Rat.intCast_mul]
theorem uncastlt {a b c d : Int} (h : (a : Rat) * b < (c : Rat) * d) : a * b < c * d := by
  apply Rat.intCast_lt_intCast.mp
  rwa [Rat.intCast_mul, Rat.intCast_mul]
theorem castpos {b : Int} (h : 1 ≤ b) : (0 : Rat) < (b : Rat) := castlt (show (0 : Int) < b by omega)

theorem Farey.ac {f : Rat} {a b c e : Int} (h : Farey f a b c e) : a * e ≤ c * b := by have := h.det; have : b * c = c * b := Int.mul_comm ..; omega

/-- x/y ≤ f ≤ g < .. as whole products -/
theorem le_trans_frac {x y z w : Int} {f g : Rat} (hy : 1 ≤ y) (hw : 1 ≤ w) (h1 : (x : Rat) ≤ f * y) (h2 : f ≤ g) (h3 : g * w ≤ z) : x * w ≤ z * y := by
  have py := castpos hy
  have pw := castpos hw
  apply uncast
  have a1 := Rat.mul_le_mul_of_nonneg_left h1 (show (0 : Rat) ≤ (w : Rat) by grind)
  have a2 := Rat.mul_le_mul_of_nonneg_left h3 (show (0 : Rat) ≤ (y : Rat) by grind)
  have a3 := Rat.mul_le_mul_of_nonneg_left h2 (show (0 : Rat) ≤ (y : Rat) * w by have := Rat.mul_pos py pw; grind)
  grind
theorem lt_trans_frac {x y z w : Int} {f g : Rat} (hy : 1 ≤ y) (hw : 1 ≤ w) (h1 : (x : Rat) ≤ f * y) (h2 : f ≤ g) (h3 : g * w < z) : x * w < z * y := by
  have py := castpos hy
  have pw := castpos hw
  apply uncastlt
  have a1 := Rat.mul_le_mul_of_nonneg_left h1 (show (0 : Rat) ≤ (w : Rat) by grind)
  have a2 := Rat.mul_lt_mul_of_pos_left h3 py
  have a3 := Rat.mul_le_mul_of_nonneg_left h2 (show (0 : Rat) ≤ (y : Rat) * w by have := Rat.mul_pos py pw; grind)
  grind

theorem Frac.mono {f f' : Rat} {A B A' B' : Int} (h : Frac f A B) (h' : Frac f' A' B') (hle : f ≤ f') : A * B' ≤ A' * B := by
  obtain ⟨B1, B2, h⟩ := h
  obtain ⟨B1', B2', h'⟩ := h'
  rcases h with h | ⟨a, b, c, e, hf, h⟩
  · rcases h' with h' | ⟨a', b', c', e', hf', h'⟩
    · exact le_trans_frac B1 B1' (by rw [h]; exact Rat.le_refl) hle (by rw [h']; exact Rat.le_refl)
    · -- A/B lies below the pair
      have k : A * b' ≤ a' * B := by
        rcases hf'.gap (x := A) B1 B2 with k | k
        · exact k
        · have := lt_trans_frac B1 hf'.e1 (show (A : Rat) ≤ f * B by rw [h]; exact Rat.le_refl) hle hf'.hi
          omega
      rcases h' with ⟨_, rfl, rfl⟩ | ⟨_, rfl, rfl⟩
      · have ac := hf'.ac
        have m1 : A * b' * B' ≤ a' * B * B' := Int.mul_le_mul_of_nonneg_right k (by omega)
        have m2 : a' * B' * B ≤ A' * b' * B := Int.mul_le_mul_of_nonneg_right ac (by omega)
        have : b' * (A * B') ≤ b' * (A' * B) := by
          have x1 : b' * (A * B') = A * b' * B' := by grind
          have x2 : b' * (A' * B) = A' * b' * B := by grind
          have x3 : a' * B * B' = a' * B' * B := by grind
          omega
        exact Int.le_of_mul_le_mul_left this (by have := hf'.b1; omega)
      · exact k
  · rcases h' with h' | ⟨a', b', c', e', hf', h'⟩
    · rcases hf.gap (x := A') B1' B2' with k | k
      · -- f = f' = a/b
        have k2 : a * B' ≤ A' * b := le_trans_frac hf.b1 B1' hf.lo hle (by rw [h']; exact Rat.le_refl)
        have k3 : A' * b = a * B' := by omega
        have hno : ¬ Over f a b c e := by
          have pb := castpos hf.b1
          have pB := castpos B1'
          have pe := castpos hf.e1
          have e1 := congrArg (fun z : Int => (z : Rat)) k3
          simp only [Rat.intCast_mul] at e1
          rw [← h'] at e1
          have e2 : f' * b = a := by
            refine Rat.le_antisymm (Rat.le_of_mul_le_mul_left (c := (B' : Rat)) ?_ pB) (Rat.le_of_mul_le_mul_left (c := (B' : Rat)) ?_ pB) <;> grind
          have e3 : f * b = a := by
            have := Rat.mul_le_mul_of_nonneg_left hle (show (0 : Rat) ≤ (b : Rat) by grind)
            have := hf.lo
            grind
          have hh := hf.hi
          unfold Over
          have : (f * (b : Rat) - a) * e = 0 := by rw [e3]; grind
          rw [this]
          have p := Rat.mul_pos (show (0 : Rat) < c - f * e by grind) pb
          intro hov
          rcases hov with hov | ⟨hov, _⟩ <;> grind
        rcases h with ⟨ho, _⟩ | ⟨_, rfl, rfl⟩
        · exact absurd ho hno
        · omega
      · rcases h with ⟨_, rfl, rfl⟩ | ⟨_, rfl, rfl⟩
        · exact k
        · have ac := hf.ac
          have m1 : c * B' * B ≤ A' * e * B := Int.mul_le_mul_of_nonneg_right k (by omega)
          have m2 : A * e * B' ≤ c * B * B' := Int.mul_le_mul_of_nonneg_right ac (by omega)
          have : e * (A * B') ≤ e * (A' * B) := by
            have x1 : e * (A * B') = A * e * B' := by grind
            have x2 : e * (A' * B) = A' * e * B := by grind
            have x3 : c * B * B' = c * B' * B := by grind
            omega
          exact Int.le_of_mul_le_mul_left this (by have := hf.e1; omega)
    · rcases hf.gap (x := a') hf'.b1 hf'.b2 with k | k
      · -- the same pair
        have k1 : a * b' ≤ a' * b := by
          rcases hf'.gap (x := a) hf.b1 hf.b2 with k1 | k1
          · exact k1
          · have := lt_trans_frac hf.b1 hf'.e1 hf.lo hle hf'.hi
            omega
        have ka : a * b' = a' * b := by omega
        have acs : a * e < c * b := by have := hf.det; have : b * c = c * b := Int.mul_comm ..; omega
        have acs' : a' * e' < c' * b' := by have := hf'.det; have : b' * c' = c' * b' := Int.mul_comm ..; omega
        have k2 : c' * e ≤ c * e' := by
          rcases hf'.gap (x := c) hf.e1 hf.e2 with k2 | k2
          · exfalso
            have m1 : c * b' * b ≤ a' * e * b := Int.mul_le_mul_of_nonneg_right k2 (by have := hf.b1; omega)
            have m2 : a * e * b' < c * b * b' := Int.mul_lt_mul_of_pos_right acs (by have := hf'.b1; omega)
            have x1 : c * b' * b = c * b * b' := by grind
            have x2 : a' * e * b = e * (a' * b) := by grind
            have x3 : a * e * b' = e * (a * b') := by grind
            rw [ka] at x3
            omega
          · exact k2
        have k3 : c * e' ≤ c' * e := by
          rcases hf.gap (x := c') hf'.e1 hf'.e2 with k3 | k3
          · exfalso
            have m1 : c' * b * b' ≤ a * e' * b' := Int.mul_le_mul_of_nonneg_right k3 (by have := hf'.b1; omega)
            have m2 : a' * e' * b < c' * b' * b := Int.mul_lt_mul_of_pos_right acs' (by have := hf.b1; omega)
            have x1 : c' * b * b' = c' * b' * b := by grind
            have x2 : a * e' * b' = e' * (a * b') := by grind
            have x3 : a' * e' * b = e' * (a' * b) := by grind
            rw [ka] at x2
            omega
          · exact k3
        obtain ⟨rfl, rfl, rfl, rfl⟩ := hf.same hf' ka (by omega)
        have pb := castpos hf.b1
        have pe := castpos hf.e1
        have pp := Rat.mul_pos pb pe
        have mm := Rat.mul_le_mul_of_nonneg_left hle (show (0 : Rat) ≤ (b : Rat) * e by grind)
        rcases h with ⟨ho, rfl, rfl⟩ | ⟨ho, rfl, rfl⟩
        · rcases h' with ⟨ho', rfl, rfl⟩ | ⟨ho', rfl, rfl⟩
          · omega
          · exfalso
            apply ho'
            unfold Over at ho ⊢
            have o1 : (A - f * B) * B' = A * B' - f * (B' * B) := by grind
            have o2 : (f * B' - A') * B = f * (B' * B) - A' * B := by grind
            have o3 : (A - f' * B) * B' = A * B' - f' * (B' * B) := by grind
            have o4 : (f' * B' - A') * B = f' * (B' * B) - A' * B := by grind
            rw [o1, o2] at ho
            rw [o3, o4]
            clear o1 o2 o3 o4
            have mm' : f * ((B' : Rat) * B) ≤ f' * ((B' : Rat) * B) := by grind
            generalize f * ((B' : Rat) * B) = u at ho mm'
            generalize f' * ((B' : Rat) * B) = v at mm' ⊢
            generalize (A : Rat) * B' = x at ho ⊢
            generalize (A' : Rat) * B = y at ho ⊢
            clear mm pp pb pe
            rcases ho with ho | ⟨ho, hb⟩
            · left; grind
            · by_cases huv : u = v
              · right; exact ⟨by grind, hb⟩
              · left; grind
        · rcases h' with ⟨ho', rfl, rfl⟩ | ⟨ho', rfl, rfl⟩
          · exact hf.ac
          · omega
      · have ac := hf.ac
        have ac' := hf'.ac
        have q1 : A * e ≤ c * B := by
          rcases h with ⟨_, rfl, rfl⟩ | ⟨_, rfl, rfl⟩
          · omega
          · exact ac
        have q2 : a' * B' ≤ A' * b' := by
          rcases h' with ⟨_, rfl, rfl⟩ | ⟨_, rfl, rfl⟩
          · exact ac'
          · omega
        have pe := hf.e1
        have pb := hf'.b1
        have m1 : A * e * (b' * B') ≤ c * B * (b' * B') := Int.mul_le_mul_of_nonneg_right q1 (Int.mul_nonneg (by omega) (by omega))
        have m2 : c * b' * (B * B') ≤ a' * e * (B * B') := Int.mul_le_mul_of_nonneg_right k (Int.mul_nonneg (by omega) (by omega))
        have m3 : a' * B' * (e * B) ≤ A' * b' * (e * B) := Int.mul_le_mul_of_nonneg_right q2 (Int.mul_nonneg (by omega) (by omega))
        have : (e * b') * (A * B') ≤ (e * b') * (A' * B) := by
          have x1 : (e * b') * (A * B') = A * e * (b' * B') := by grind
          have x2 : (e * b') * (A' * B) = A' * b' * (e * B) := by grind
          have x3 : c * B * (b' * B') = c * b' * (B * B') := by grind
          have x4 : a' * e * (B * B') = a' * B' * (e * B) := by grind
          omega
        exact Int.le_of_mul_le_mul_left this (Int.mul_pos (by omega) (by omega))

/-- half a thousandth -/
theorem Frac.far {f T : Rat} {A B : Int} (h : Frac f A B) (hT : T * B = A) : 2000 * (f - T) ≤ 1 ∧ 2000 * (T - f) ≤ 1 := by
  obtain ⟨B1, B2, h⟩ := h
  have pB := castpos B1
  rcases h with h | ⟨a, b, c, e, hf, h⟩
  · have : f = T := by
      refine Rat.le_antisymm (Rat.le_of_mul_le_mul_left (c := (B : Rat)) ?_ pB) (Rat.le_of_mul_le_mul_left (c := (B : Rat)) ?_ pB) <;> grind
    subst this
    constructor <;> grind
  · have pb := castpos hf.b1
    have pe := castpos hf.e1
    have hbe : 1000 ≤ b * e := by
      have : 0 ≤ (b - 1) * (e - 1) := Int.mul_nonneg (by have := hf.b1; omega) (by have := hf.e1; omega)
      have e1 : (b - 1) * (e - 1) = b * e - b - e + 1 := by grind
      have := hf.far
      omega
    have cbe := castle hbe
    rw [Rat.intCast_mul] at cbe
    have e1000 : ((1000 : Int) : Rat) = 1000 := rfl
    rw [e1000] at cbe
    have d := congrArg (fun z : Int => (z : Rat)) hf.det
    simp only [Rat.intCast_mul, Rat.intCast_sub] at d
    have one : ((1 : Int) : Rat) = 1 := rfl
    rw [one] at d
    have hlo := hf.lo
    have hhi := hf.hi
    have pp := Rat.mul_pos pb pe
    rcases h with ⟨ho, rfl, rfl⟩ | ⟨ho, rfl, rfl⟩
    · have hle : (A - f * B) * b ≤ (f * b - a) * B := by unfold Over at ho; grind
      have s : (A - f * B) * b + (f * b - a) * B = 1 := by grind
      have h2 : 2 * ((A - f * B) * b) ≤ 1 := by grind
      have e2 : (A - f * (B : Rat)) * b = (T - f) * ((b : Rat) * B) := by rw [← hT]; grind
      rw [e2] at h2
      have pos : 0 ≤ T - f := by
        refine Rat.le_of_mul_le_mul_left (c := (B : Rat)) ?_ pB
        grind
      have m := Rat.mul_le_mul_of_nonneg_left cbe pos
      constructor <;> grind
    · have hle : (f * B - A) * e ≤ (c - f * e) * B := by unfold Over at ho; grind
      have s : (c - f * e) * B + (f * B - A) * e = 1 := by grind
      have h2 : 2 * ((f * B - A) * e) ≤ 1 := by grind
      have e2 : (f * (B : Rat) - A) * e = (f - T) * ((B : Rat) * e) := by rw [← hT]; grind
      rw [e2] at h2
      have pos : 0 ≤ f - T := by
        refine Rat.le_of_mul_le_mul_left (c := (B : Rat)) ?_ pB
        grind
      have m := Rat.mul_le_mul_of_nonneg_left cbe pos
      constructor <;> grind
end Mine
end
section
open PySem PySem.Builtin PySem.Builtin.Str PySem.NumText
set_option Elab.async false
set_option maxRecDepth 100000
set_option exponentiation.threshold 2500
set_option linter.unusedSimpArgs false
namespace Mine

def nfT : PE := .bop .And (.cmp .LtE (.bin .Add (.loc 5) (.loc 7)) (.loc 1)) (.cmp .NotEq (.bin .Mult (.loc 4) (.loc 3)) (.bin .Mult (.loc 2) (.loc 5)))
def nfB1 : PS := .asg 8 (.bi .min (.cons (.bin .FloorDiv (.bin .Sub (.bin .Mult (.loc 2) (.loc 5)) (.bin .Mult (.loc 4) (.loc 3))) (.bin .Sub (.bin .Mult (.loc 6) (.loc 3)) (.bin .Mult (.loc 2) (.loc 7)))) (.cons (.bin .FloorDiv (.bin .Sub (.loc 1) (.loc 5)) (.loc 7)) (.nil))))
def nfB2 : PS := .swp [4, 5] (.cons (.bin .Add (.loc 4) (.bin .Mult (.loc 8) (.loc 6))) (.cons (.bin .Add (.loc 5) (.bin .Mult (.loc 8) (.loc 7))) (.nil)))
def nfB3 : PS := .ite (.cmp .NotEq (.bin .Mult (.loc 4) (.loc 3)) (.bin .Mult (.loc 2) (.loc 5)))
  (.seq (.asg 8 (.bi .min (.cons (.bin .FloorDiv (.bin .Sub (.bin .Sub (.bin .Mult (.loc 6) (.loc 3)) (.bin .Mult (.loc 2) (.loc 7))) (.lit (.int 1))) (.bin .Sub (.bin .Mult (.loc 2) (.loc 5)) (.bin .Mult (.loc 4) (.loc 3)))) (.cons (.bin .FloorDiv (.bin .Sub (.loc 1) (.loc 7)) (.loc 5)) (.nil)))))
  (.seq (.swp [6, 7] (.cons (.bin .Add (.loc 6) (.bin .Mult (.loc 8) (.loc 4))) (.cons (.bin .Add (.loc 7) (.bin .Mult (.loc 8) (.loc 5))) (.nil))))
  (.skip)))
  (.skip)
def nfB : PS := .seq nfB1 (.seq nfB2 (.seq nfB3 .skip))
def nfR : PS := .seq (.swp [9, 10] (.cons (.bin .Mult (.bin .Sub (.bin .Mult (.loc 2) (.loc 5)) (.bin .Mult (.loc 4) (.loc 3))) (.loc 7)) (.cons (.bin .Mult (.bin .Sub (.bin .Mult (.loc 6) (.loc 3)) (.bin .Mult (.loc 2) (.loc 7))) (.loc 5)) (.nil))))
  (.seq (.ite (.bop .Or (.cmp .Gt (.loc 9) (.loc 10)) (.bop .And (.cmp .Eq (.loc 9) (.loc 10)) (.cmp .Gt (.loc 5) (.loc 7))))
  (.seq (.swp [4, 5] (.cons (.loc 6) (.cons (.loc 7) (.nil))))
  (.skip))
  (.skip))
  (.seq (.ret (.tup (.cons (.ite (.cmp .GtE (.attr (.loc 0) false) (.lit (.int 0))) (.loc 4) (.neg (.loc 4))) (.cons (.loc 5) (.nil)))))
  (.skip)))
theorem nf_eq : cnearest_fraction = .seq (.swp [2, 3] (.cons (.bi .abs (.cons (.attr (.loc 0) false) (.nil))) (.cons (.attr (.loc 0) true) (.nil)))) (.seq (.unp [4, 5, 6, 7] (.tup (.cons (.bin .FloorDiv (.loc 2) (.loc 3)) (.cons (.lit (.int 1)) (.cons (.bin .Add (.bin .FloorDiv (.loc 2) (.loc 3)) (.lit (.int 1))) (.cons (.lit (.int 1)) (.nil))))))) (.seq (.whl nfT nfB) nfR)) := rfl

structure FI (n d a b c e : Int) : Prop where
  det : b * c - a * e = 1
  a0 : 0 ≤ a
  ab : a ≤ b
  c1 : 0 ≤ c
  ce : c ≤ e
  b1 : 1 ≤ b
  b2 : b ≤ 1000
  e1 : 1 ≤ e
  e2 : e ≤ 1000
  lo : a * d ≤ n * b
  hi : n * e < c * d

theorem fd_nn {x y : Int} (hy : 0 < y) (hx : 0 ≤ x) : 0 ≤ x.fdiv y := by rw [Int.fdiv_eq_ediv_of_nonneg _ (by omega)]; exact Int.ediv_nonneg hx (by omega)
theorem fd_le {x y : Int} (hy : 0 < y) : x.fdiv y * y ≤ x := by obtain ⟨h1, h2, h3⟩ := fdm (n := x) hy; omega
theorem fd_pos {x y : Int} (hy : 0 < y) (h : y ≤ x) : 1 ≤ x.fdiv y := by
  rw [Int.fdiv_eq_ediv_of_nonneg _ (by omega)]
  exact (Int.le_ediv_iff_mul_le hy).mpr (by omega)
theorem fd_min {x y z w k : Int} (hy : 0 < y) (hw : 0 < w) (hx : 0 ≤ x) (hz : 0 ≤ z) (hk : k = min (x.fdiv y) (z.fdiv w)) : 0 ≤ k ∧ k * y ≤ x ∧ k * w ≤ z ∧ (y ≤ x → w ≤ z → 1 ≤ k) := by
  have h1 := fd_nn hy hx
  have h2 := fd_nn hw hz
  have h3 := fd_le (x := x) hy
  have h4 := fd_le (x := z) hw
  have h5 : k * y ≤ x.fdiv y * y := Int.mul_le_mul_of_nonneg_right (by omega) (by omega)
  have h6 : k * w ≤ z.fdiv w * w := Int.mul_le_mul_of_nonneg_right (by omega) (by omega)
  refine ⟨by omega, by omega, by omega, fun h7 h8 => ?_⟩
  have := fd_pos hy h7
  have := fd_pos hw h8
  omega

/-- the first half of a turn -/
theorem FI.left {n d a b c e k : Int} (h : FI n d a b c e) (hle : b + e ≤ 1000) (hk : k = min ((n * b - a * d).fdiv (c * d - n * e)) ((1000 - b).fdiv e)) :
    FI n d (a + k * c) (b + k * e) c e ∧ b ≤ b + k * e ∧ (c * d - n * e ≤ n * b - a * d → b + 1 ≤ b + k * e) := by
  have hq : 0 < c * d - n * e := by have := h.hi; omega
  have he : 0 < e := by have := h.e1; omega
  obtain ⟨k0, k1, k2, k3⟩ := fd_min hq he (by have := h.lo; omega) (by have := h.b2; omega) hk
  have hd := h.det
  have c1 := h.c1
  have a0 := h.a0
  have ab := h.ab
  have ce := h.ce
  have b1 := h.b1
  have kc : 0 ≤ k * c := Int.mul_nonneg k0 c1
  have ke : 0 ≤ k * e := Int.mul_nonneg k0 (by omega)
  have kce : k * c ≤ k * e := Int.mul_le_mul_of_nonneg_left ce k0
  refine ⟨⟨?_, by omega, by omega, c1, ce, by omega, by omega, h.e1, h.e2, ?_, h.hi⟩, by omega, fun h7 => ?_⟩
  · have : (b + k * e) * c - (a + k * c) * e = b * c - a * e := by grind
    omega
  · have x1 : (a + k * c) * d = a * d + k * (c * d) := by grind
    have x2 : n * (b + k * e) = n * b + k * (n * e) := by grind
    have x3 : k * (c * d - n * e) = k * (c * d) - k * (n * e) := by grind
    omega
  · have := k3 h7 (by omega)
    have : 1 * e ≤ k * e := Int.mul_le_mul_of_nonneg_right this (by omega)
    omega

/-- the second half of a turn -/
theorem FI.right {n d a b c e k : Int} (h : FI n d a b c e) (hp : a * d ≠ n * b) (hk : k = min ((c * d - n * e - 1).fdiv (n * b - a * d)) ((1000 - e).fdiv b)) :
    FI n d a b (c + k * a) (e + k * b) ∧ e ≤ e + k * b ∧ (n * b - a * d < c * d - n * e → b + e ≤ 1000 → e + 1 ≤ e + k * b) := by
  have hlo := h.lo
  have hhi := h.hi
  have hb : 0 < b := by have := h.b1; omega
  obtain ⟨k0, k1, k2, k3⟩ := fd_min (show 0 < n * b - a * d by omega) hb (by omega) (by have := h.e2; omega) hk
  have hd := h.det
  have c1 := h.c1
  have a0 := h.a0
  have ab := h.ab
  have ce := h.ce
  have e1 := h.e1
  have ka : 0 ≤ k * a := Int.mul_nonneg k0 a0
  have kb : 0 ≤ k * b := Int.mul_nonneg k0 (by omega)
  have kab : k * a ≤ k * b := Int.mul_le_mul_of_nonneg_left ab k0
  refine ⟨⟨?_, a0, ab, by omega, by omega, h.b1, h.b2, by omega, by omega, h.lo, ?_⟩, by omega, fun h7 h8 => ?_⟩
  · have : b * (c + k * a) - a * (e + k * b) = b * c - a * e := by grind
    omega
  · have x1 : (c + k * a) * d = c * d + k * (a * d) := by grind
    have x2 : n * (e + k * b) = n * e + k * (n * b) := by grind
    have x3 : k * (n * b - a * d) = k * (n * b) - k * (a * d) := by grind
    omega
  · have := k3 (by omega) (by omega)
    have : 1 * b ≤ k * b := Int.mul_le_mul_of_nonneg_right this (by omega)
    omega

def nfr (n d a b c e : Int) (x : Option PVal) : Rho := [some (.dbl n d), some (.int 1000), some (.int n), some (.int d), some (.int a), some (.int b), some (.int c), some (.int e), x, none, none]

section
variable {fuel m : Nat} {st : Store} {n d a b c e : Int} {cf : CF}

theorem FI.fits (h : FI n d a b c e) (hn : 0 ≤ n) (hd : 0 < d) (bn : n < 2 ^ 500) (bd : d < 2 ^ 500) :
    fit n = true ∧ fit d = true ∧ fit a = true ∧ fit b = true ∧ fit c = true ∧ fit e = true ∧ fit (n * b - a * d) = true ∧ fit (c * d - n * e) = true := by
  have a0 := h.a0
  have ab := h.ab
  have ce := h.ce
  have c1 := h.c1
  have b1 := h.b1
  have b2 := h.b2
  have e1 := h.e1
  have e2 := h.e2
  have hlo := h.lo
  have hhi := h.hi
  have m1 : 0 ≤ a * d := Int.mul_nonneg a0 (by omega)
  have m2 : 0 ≤ n * e := Int.mul_nonneg hn (by omega)
  have p10 : (2 : Int) ^ 10 = 1024 := by decide
  have m3 : n * b < 2 ^ 510 := mul_lt_2 hn bn (by omega) (by omega : b < 2 ^ 10) (Nat.le_refl _)
  have m4 : c * d < 2 ^ 510 := mul_lt_2 c1 (by omega : c < 2 ^ 10) hd bd (Nat.le_refl _)
  exact ⟨fit_pow hn bn (by decide), fit_pow (by omega) bd (by decide), fit_small (by omega), fit_small (by omega), fit_small (by omega), fit_small (by omega),
    fit_pow (k := 510) (by omega) (by omega) (by decide), fit_pow (k := 510) (by omega) (by omega) (by decide)⟩

theorem nf_test (h : FI n d a b c e) (hn : 0 ≤ n) (hd : 0 < d) (bn : n < 2 ^ 500) (bd : d < 2 ^ 500) (x : Option PVal) : ev cf nfT (nfr n d a b c e x) st = some (.bool (decide (b + e ≤ 1000) && decide (a * d ≠ n * b)), st) := by
  obtain ⟨f1, f2, f3, f4, f5, f6, f7, f8⟩ := h.fits hn hd bn bd
  unfold nfT nfr
  by_cases h1 : b + e ≤ 1000
  · simp [ev, binP, binI, cmpP, cmpI, lk, truth, bneD, f1, f2, f3, f4, h1]
  · simp [ev, binP, binI, cmpP, cmpI, lk, truth, bneD, f1, f2, f3, f4, h1]

theorem nf_half1 (h : FI n d a b c e) (hn : 0 ≤ n) (hd : 0 < d) (bn : n < 2 ^ 500) (bd : d < 2 ^ 500) (hle : b + e ≤ 1000) {k : Int} (hk : k = min ((n * b - a * d).fdiv (c * d - n * e)) ((1000 - b).fdiv e)) (x : Option PVal) {S : PS} :
    ex fuel cf (.seq nfB1 (.seq nfB2 S)) (nfr n d a b c e x) st = ex fuel cf S (nfr n d (a + k * c) (b + k * e) c e (some (.int k))) st := by
  obtain ⟨f1, f2, f3, f4, f5, f6, f7, f8⟩ := h.fits hn hd bn bd
  have hq : c * d - n * e ≠ 0 := by have := h.hi; omega
  have he : e ≠ 0 := by have := h.e1; omega
  have b1 := h.b1
  have fk : fit k = true := by
    obtain ⟨k0, k1, k2, _⟩ := fd_min (show 0 < c * d - n * e by have := h.hi; omega) (show 0 < e by have := h.e1; omega) (by have := h.lo; omega) (by have := h.b2; omega) hk
    have : k * 1 ≤ k * e := Int.mul_le_mul_of_nonneg_left (by have := h.e1; omega) k0
    exact fit_small (by omega)
  unfold nfB1 nfB2 nfr
  simp [ex, ev, evs, biP, binP, binI, lk, upd, upds, slim, f1, f2, f3, f4, f5, f6, f7, f8, hq, he, ← hk, fk]

theorem nf_half2 (h : FI n d a b c e) (hn : 0 ≤ n) (hd : 0 < d) (bn : n < 2 ^ 500) (bd : d < 2 ^ 500) (hp : a * d ≠ n * b) {k : Int} (hk : k = min ((c * d - n * e - 1).fdiv (n * b - a * d)) ((1000 - e).fdiv b)) (x : Option PVal) :
    ex fuel cf (.seq nfB3 .skip) (nfr n d a b c e x) st = some (.next, nfr n d a b (c + k * a) (e + k * b) (some (.int k)), st) := by
  obtain ⟨f1, f2, f3, f4, f5, f6, f7, f8⟩ := h.fits hn hd bn bd
  have hp' : n * b - a * d ≠ 0 := by omega
  have hb : b ≠ 0 := by have := h.b1; omega
  have fk : fit k = true := by
    obtain ⟨k0, k1, k2, _⟩ := fd_min (show 0 < n * b - a * d by have := h.lo; omega) (show 0 < b by have := h.b1; omega) (by have := h.hi; omega) (by have := h.e2; omega) hk
    have : k * 1 ≤ k * b := Int.mul_le_mul_of_nonneg_left (by have := h.b1; omega) k0
    exact fit_small (by have := h.e1; omega)
  unfold nfB3 nfr
  simp [ex, ev, evs, biP, binP, binI, cmpP, cmpI, lk, upd, upds, truth, bneD, slim, f1, f2, f3, f4, f5, f6, f7, f8, hp, hp', hb, ← hk, fk]
theorem nf_half2n (h : FI n d a b c e) (hn : 0 ≤ n) (hd : 0 < d) (bn : n < 2 ^ 500) (bd : d < 2 ^ 500) (hp : a * d = n * b) (x : Option PVal) :
    ex fuel cf (.seq nfB3 .skip) (nfr n d a b c e x) st = some (.next, nfr n d a b c e x, st) := by
  obtain ⟨f1, f2, f3, f4, f5, f6, f7, f8⟩ := h.fits hn hd bn bd
  unfold nfB3 nfr
  simp [ex, ev, evs, biP, binP, binI, cmpP, cmpI, lk, upd, upds, truth, bneD, slim, f1, f2, f3, f4, f5, f6, f7, f8, hp]

/-- one turn -/
theorem nf_turn (h : FI n d a b c e) (hn : 0 ≤ n) (hd : 0 < d) (bn : n < 2 ^ 500) (bd : d < 2 ^ 500) (hle : b + e ≤ 1000) (hp : a * d ≠ n * b) (x : Option PVal) :
    ∃ a' b' c' e' x', FI n d a' b' c' e' ∧ b + e < b' + e' ∧ ex fuel cf nfB (nfr n d a b c e x) st = some (.next, nfr n d a' b' c' e' x', st) := by
  obtain ⟨k, hk⟩ : ∃ k, k = min ((n * b - a * d).fdiv (c * d - n * e)) ((1000 - b).fdiv e) := ⟨_, rfl⟩
  obtain ⟨g1, g2, g3⟩ := h.left hle hk
  have s1 := nf_half1 (fuel := fuel) (cf := cf) (st := st) (S := .seq nfB3 .skip) h hn hd bn bd hle hk x
  unfold nfB
  rw [s1]
  by_cases hp' : (a + k * c) * d = n * (b + k * e)
  · refine ⟨_, _, _, _, _, g1, ?_, nf_half2n g1 hn hd bn bd hp' _⟩
    by_cases hc : c * d - n * e ≤ n * b - a * d
    · have := g3 hc; omega
    · exfalso
      -- then k = 0 and a, b stay
      have hq : 0 < c * d - n * e := by have := h.hi; omega
      have hz : (n * b - a * d).fdiv (c * d - n * e) = 0 := by
        rw [Int.fdiv_eq_ediv_of_nonneg _ (by omega)]
        exact Int.ediv_eq_zero_of_lt (by have := h.lo; omega) (by omega)
      have hk0 : k = 0 := by
        have := fd_nn (x := 1000 - b) (y := e) (by have := h.e1; omega) (by have := h.b2; omega)
        rw [hz] at hk; omega
      subst hk0
      apply hp
      simpa using hp'
  · obtain ⟨k', hk'⟩ : ∃ k', k' = min ((c * d - n * e - 1).fdiv (n * (b + k * e) - (a + k * c) * d)) ((1000 - e).fdiv (b + k * e)) := ⟨_, rfl⟩
    obtain ⟨r1, r2, r3⟩ := g1.right hp' hk'
    refine ⟨_, _, _, _, _, r1, ?_, nf_half2 g1 hn hd bn bd hp' hk' _⟩
    by_cases hc : c * d - n * e ≤ n * b - a * d
    · have := g3 hc; omega
    · have hq : 0 < c * d - n * e := by have := h.hi; omega
      have hz : (n * b - a * d).fdiv (c * d - n * e) = 0 := by
        rw [Int.fdiv_eq_ediv_of_nonneg _ (by omega)]
        exact Int.ediv_eq_zero_of_lt (by have := h.lo; omega) (by omega)
      have hk0 : k = 0 := by
        have := fd_nn (x := 1000 - b) (y := e) (by have := h.e1; omega) (by have := h.b2; omega)
        rw [hz] at hk; omega
      subst hk0
      have := r3 (by
        have x1 : n * (b + 0 * e) - (a + 0 * c) * d = n * b - a * d := by grind
        omega) (by omega)
      omega

theorem nf_loop (hn : 0 ≤ n) (hd : 0 < d) (bn : n < 2 ^ 500) (bd : d < 2 ^ 500) (h : FI n d a b c e) (hf : 1500 < fuel) (x : Option PVal) :
    ∃ a' b' c' e' x', FI n d a' b' c' e' ∧ (1000 < b' + e' ∨ a' * d = n * b') ∧ whileP (ev cf nfT) (ex fuel cf nfB) fuel (nfr n d a b c e x) st = some (.next, nfr n d a' b' c' e' x', st) := by
  obtain ⟨r', st', e0, a', b', c', e', x', h1, h2, rfl, rfl⟩ := while_run (test := ev cf nfT) (body := ex fuel cf nfB)
    (fun k r s => ∃ a b c e x, FI n d a b c e ∧ 1001 - (b + e) ≤ k ∧ r = nfr n d a b c e x ∧ s = st)
    (fun r s => ∃ a b c e x, FI n d a b c e ∧ (1000 < b + e ∨ a * d = n * b) ∧ r = nfr n d a b c e x ∧ s = st)
    (by
      rintro k r s ⟨a, b, c, e, x, h, hk, rfl, rfl⟩
      have ht := nf_test (cf := cf) (st := s) h hn hd bn bd x
      refine ⟨_, s, ht, ?_⟩
      by_cases h1 : b + e ≤ 1000
      · by_cases h2 : a * d = n * b
        · exact .inl ⟨by simp [truth, h2], a, b, c, e, x, h, .inr h2, rfl, rfl⟩
        · obtain ⟨a', b', c', e', x', g1, g2, g3⟩ := nf_turn (fuel := fuel) (cf := cf) (st := s) h hn hd bn bd h1 h2 x
          refine .inr ⟨by simp [truth, h1, h2], k - 1, _, s, by omega, g3, a', b', c', e', x', g1, by omega, rfl, rfl⟩
      · exact .inl ⟨by simp [truth, h1], a, b, c, e, x, h, .inl (by omega), rfl, rfl⟩)
    1000 (nfr n d a b c e x) st fuel ⟨a, b, c, e, x, h, by have := h.b1; have := h.e1; omega, rfl, rfl⟩ (by omega)
  exact ⟨a', b', c', e', x', h1, h2, e0⟩
end
end Mine
end
section
open PySem PySem.Builtin PySem.Builtin.Str PySem.NumText
set_option Elab.async false
set_option maxRecDepth 100000
set_option exponentiation.threshold 2500
set_option linter.unusedSimpArgs false
namespace Mine

theorem FI.rat {n d a b c e : Int} {f : Rat} (h : FI n d a b c e) (hd : 0 < d) (hf : f * d = n) : (a : Rat) ≤ f * b ∧ f * e < c ∧ (a * d = n * b → f * b = a) ∧
    (Over f a b c e ↔ ((c * d - n * e) * b < (n * b - a * d) * e ∨ ((n * b - a * d) * e = (c * d - n * e) * b ∧ e < b))) := by
  have d0 : (0 : Rat) < (d : Rat) := castlt hd
  have clo := castmul h.lo
  have chi : (n : Rat) * e < (c : Rat) * d := by
    have := castlt h.hi
    rwa [Rat.intCast_mul, Rat.intCast_mul] at this
  have x1 : ((((c * d - n * e) * b : Int)) : Rat) = d * ((c - f * e) * b) := by
    simp only [Rat.intCast_mul, Rat.intCast_sub]
    rw [← hf]; grind
  have x2 : ((((n * b - a * d) * e : Int)) : Rat) = d * ((f * b - a) * e) := by
    simp only [Rat.intCast_mul, Rat.intCast_sub]
    rw [← hf]; grind
  refine ⟨?_, ?_, ?_, ?_⟩
  · refine Rat.le_of_mul_le_mul_left (c := (d : Rat)) ?_ d0
    rw [← hf] at clo
    grind
  · refine Rat.lt_of_mul_lt_mul_left (c := (d : Rat)) ?_ (by grind)
    rw [← hf] at chi
    grind
  · intro he
    have := congrArg (fun z : Int => (z : Rat)) he
    simp only [Rat.intCast_mul] at this
    rw [← hf] at this
    refine Rat.le_antisymm (Rat.le_of_mul_le_mul_left (c := (d : Rat)) ?_ d0) (Rat.le_of_mul_le_mul_left (c := (d : Rat)) ?_ d0) <;> grind
  · unfold Over
    generalize (c - f * e) * (b : Rat) = u at x1 ⊢
    generalize (f * b - a) * (e : Rat) = v at x2 ⊢
    constructor
    · rintro (h1 | ⟨h1, h2⟩)
      · left
        apply Rat.intCast_lt_intCast.mp
        rw [x1, x2]
        exact Rat.mul_lt_mul_of_pos_left h1 d0
      · right
        refine ⟨Int.le_antisymm (Rat.intCast_le_intCast.mp ?_) (Rat.intCast_le_intCast.mp ?_), h2⟩
        · rw [x1, x2, h1]; exact Rat.le_refl
        · rw [x1, x2, h1]; exact Rat.le_refl
    · rintro (h1 | ⟨h1, h2⟩)
      · left
        have := castlt h1
        rw [x1, x2] at this
        exact Rat.lt_of_mul_lt_mul_left this (by grind)
      · right
        have := congrArg (fun z : Int => (z : Rat)) h1
        rw [x1, x2] at this
        refine ⟨Rat.le_antisymm (Rat.le_of_mul_le_mul_left (c := (d : Rat)) ?_ d0) (Rat.le_of_mul_le_mul_left (c := (d : Rat)) ?_ d0), h2⟩ <;> grind

section
variable {fuel m : Nat} {st : Store} {n d : Int}

theorem nf_rest {a b c e : Int} {cf : CF} (h : FI n d a b c e) (hn : 0 ≤ n) (hd : 0 < d) (bn : n < 2 ^ 500) (bd : d < 2 ^ 500) (x : Option PVal) :
    finP (ex fuel cf nfR (nfr n d a b c e x) st) = some (if (c * d - n * e) * b < (n * b - a * d) * e ∨ ((n * b - a * d) * e = (c * d - n * e) * b ∧ e < b) then .tup [.int c, .int e] else .tup [.int a, .int b], st) := by
  obtain ⟨f1, f2, f3, f4, f5, f6, f7, f8⟩ := h.fits hn hd bn bd
  unfold nfR nfr
  by_cases g1 : (c * d - n * e) * b < (n * b - a * d) * e
  · simp [finP, ex, ev, evs, binP, binI, cmpP, cmpI, lk, upd, upds, truth, beqD, slim, f1, f2, f3, f4, f5, f6, f7, f8, g1, hn]
  · by_cases g2 : (n * b - a * d) * e = (c * d - n * e) * b
    · by_cases g3 : e < b
      · simp [finP, ex, ev, evs, binP, binI, cmpP, cmpI, lk, upd, upds, truth, beqD, slim, f1, f2, f3, f4, f5, f6, f7, f8, g2, g3, hn]
      · simp [finP, ex, ev, evs, binP, binI, cmpP, cmpI, lk, upd, upds, truth, beqD, slim, f1, f2, f3, f4, f5, f6, f7, f8, g2, g3, hn]
    · simp [finP, ex, ev, evs, binP, binI, cmpP, cmpI, lk, upd, upds, truth, beqD, slim, f1, f2, f3, f4, f5, f6, f7, f8, g1, g2, hn]

theorem sp_nf {f : Rat} (hn : 0 ≤ n) (hlt : n < d) (bn : n < 2 ^ 500) (bd : d < 2 ^ 500) (hf : f * d = n) (hfu : 1500 < fuel) :
    ∃ A B : Int, Frac f A B ∧ 0 ≤ A ∧ A ≤ B ∧ callP fuel code (m + 1) 23 [.dbl n d, .int 1000] st = some (.tup [.int A, .int B], st) := by
  have hd : 0 < d := by omega
  have h0 : FI n d 0 1 1 1 := ⟨by decide, by decide, by decide, by decide, by decide, by decide, by decide, by decide, by decide, by omega, by omega⟩
  obtain ⟨a, b, c, e, x, h1, h2, e0⟩ := nf_loop (fuel := fuel) (cf := callP fuel code m) (st := st) hn hd bn bd h0 hfu none
  have hr := nf_rest (fuel := fuel) (st := st) (cf := callP fuel code m) h1 hn hd bn bd x
  obtain ⟨r1, r2, r3, r4⟩ := h1.rat hd hf
  have hcall : callP fuel code (m + 1) 23 [.dbl n d, .int 1000] st = some (if (c * d - n * e) * b < (n * b - a * d) * e ∨ ((n * b - a * d) * e = (c * d - n * e) * b ∧ e < b) then .tup [.int c, .int e] else .tup [.int a, .int b], st) := by
    rw [ex_whl] at e0
    rw [call_eq (fd := ⟨2, 9, cnearest_fraction⟩) rfl rfl]
    simp only [nf_eq]
    generalize PS.whl nfT nfB = W at e0 ⊢
    rw [← hr]
    generalize nfR = R
    have habs : ((n.natAbs : Nat) : Int) = n := by omega
    have fd : fit d = true := fit_pow (by omega) bd (by decide)
    have hd0 : d ≠ 0 := by omega
    have hq : n.fdiv d = 0 := by
      rw [Int.fdiv_eq_ediv_of_nonneg _ (by omega)]
      exact Int.ediv_eq_zero_of_lt hn hlt
    unfold nfr at e0
    simp [ex, ev, evs, biP, binP, binI, lk, upd, upds, slim, habs, fd, hd0, hq, e0, nfr]
  have q0 : 0 < c * d - n * e := by have := h1.hi; omega
  have b1 := h1.b1
  have e1 := h1.e1
  by_cases hex : a * d = n * b
  · have hno : ¬ ((c * d - n * e) * b < (n * b - a * d) * e ∨ ((n * b - a * d) * e = (c * d - n * e) * b ∧ e < b)) := by
      have : (n * b - a * d) = 0 := by omega
      rw [this, Int.zero_mul]
      have p : 0 < (c * d - n * e) * b := Int.mul_pos q0 (by omega)
      omega
    rw [if_neg hno] at hcall
    exact ⟨a, b, ⟨b1, h1.b2, .inl (r3 hex)⟩, h1.a0, h1.ab, hcall⟩
  · have hfar : Farey f a b c e := ⟨h1.det, b1, h1.b2, e1, h1.e2, by omega, r1, r2⟩
    by_cases ho : Over f a b c e
    · rw [if_pos (r4.mp ho)] at hcall
      exact ⟨c, e, ⟨e1, h1.e2, .inr ⟨a, b, c, e, hfar, .inl ⟨ho, rfl, rfl⟩⟩⟩, h1.c1, h1.ce, hcall⟩
    · rw [if_neg (fun h => ho (r4.mpr h))] at hcall
      exact ⟨a, b, ⟨b1, h1.b2, .inr ⟨a, b, c, e, hfar, .inr ⟨ho, rfl, rfl⟩⟩⟩, h1.a0, h1.ab, hcall⟩
end
end Mine
end
section
open PySem PySem.Builtin PySem.Builtin.Str PySem.NumText
set_option Elab.async false
set_option maxRecDepth 100000
set_option exponentiation.threshold 2500
set_option linter.unusedSimpArgs false
namespace Mine

theorem IsNear.scale {x t : Rat} (h : IsNear x t) (k : Int) : IsNear (x * (2 : Rat) ^ k) (t * (2 : Rat) ^ k) := by
  obtain ⟨s, w, h⟩ := h
  have e : (2 : Rat) ^ s = (2 : Rat) ^ k * (2 : Rat) ^ (s - k) := by rw [← zp_add t0]; congr 1; omega
  have hx : x * (2 : Rat) ^ k * (2 : Rat) ^ (s - k) = x * (2 : Rat) ^ s := by rw [e]; grind
  refine ⟨s - k, w, ⟨?_, ?_⟩, ?_, ?_⟩
  · rw [c2, hx]; have := h.sc.lo; rw [c2] at this; exact this
  · rw [c2, hx]; have := h.sc.hi; rw [c2] at this; exact this
  · rw [c2, hx]; have := h.r; rw [c2] at this; exact this
  · have := h.eq
    rw [c2] at this ⊢
    rw [this, Rat.mul_assoc, ← zp_add t0]
    congr 2; omega

/-- a double and what lies below it: the whole part and the rest are doubles -/
theorem near_parts {t : Rat} {V : Int} (h : IsNear t t) (hV : 1 ≤ V) (h1 : (V : Rat) ≤ t) (h2 : t < (V : Rat) + 1) : IsNear V V ∧ (t = V ∨ (IsNear (t - V) (t - V) ∧ (2 : Rat) ^ (-53 : Int) ≤ t - V)) := by
  have hh := h
  obtain ⟨s, w, h⟩ := h
  have hr := h.range
  have e := h.eq
  rw [c2] at e
  have hV1 : (1 : Rat) ≤ (V : Rat) := castle hV
  by_cases hs : s ≤ 0
  · -- a whole number
    have ht : t = ((w * 2 ^ (-s).toNat : Int) : Rat) := by rw [Rat.intCast_mul, zp2 _ (by omega)]; exact e
    have : V = w * 2 ^ (-s).toNat := by
      rw [ht] at h1 h2
      have a := Rat.intCast_le_intCast.mp h1
      have b : ((w * 2 ^ (-s).toNat : Int) : Rat) < ((V + 1 : Int) : Rat) := by rw [Rat.intCast_add]; exact h2
      have := Rat.intCast_lt_intCast.mp b
      omega
    have htV : t = V := by rw [ht, ← this]
    rw [htV] at hh
    exact ⟨hh, .inl htV⟩
  · have p := zp_pos t0 (-s)
    have n := zp_neg t0 s
    have hw := castle hr.2
    have ew : ((2 ^ (52 + 1) : Int) : Rat) = (2 : Rat) ^ (53 : Int) := by decide +kernel
    rw [ew] at hw
    have hlt : t ≤ (2 : Rat) ^ (53 : Int) * (2 : Rat) ^ (-s) := by
      rw [e]
      have := Rat.mul_le_mul_of_nonneg_left hw (show (0 : Rat) ≤ (2 : Rat) ^ (-s) by grind)
      grind
    rw [← zp_add t0] at hlt
    have h52 := zp_mono t1 (show 53 + -s ≤ 52 by omega)
    have hV53 : V < 2 ^ 53 := by
      have e52 : (2 : Rat) ^ (52 : Int) = ((2 ^ 52 : Int) : Rat) := by decide +kernel
      have : (V : Rat) ≤ ((2 ^ 52 : Int) : Rat) := by rw [← e52]; grind
      have := Rat.intCast_le_intCast.mp this
      omega
    refine ⟨near_whole (by omega) hV53, ?_⟩
    by_cases hf : t = V
    · exact .inl hf
    right
    have hm : t - V = ((w - V * 2 ^ s.toNat : Int) : Rat) * (2 : Rat) ^ (-s) := by
      rw [Rat.intCast_sub, Rat.intCast_mul, zp2 _ (by omega), e]
      have : ((w : Rat) - V * (2 : Rat) ^ s) * (2 : Rat) ^ (-s) = w * (2 : Rat) ^ (-s) - V * ((2 : Rat) ^ s * (2 : Rat) ^ (-s)) := by grind
      rw [this, n]; grind
    have hpos : 0 < t - V := by grind
    have hm0 : 0 < w - V * 2 ^ s.toNat := by
      apply Rat.intCast_lt_intCast.mp
      refine Rat.lt_of_mul_lt_mul_left (c := (2 : Rat) ^ (-s)) ?_ (by grind)
      have : ((0 : Int) : Rat) = 0 := rfl
      rw [this]
      grind
    have hmw : w - V * 2 ^ s.toNat < 2 ^ 53 := by
      have : (0 : Int) < 2 ^ s.toNat := Int.pow_pos (by decide)
      have := Int.mul_pos (show 0 < V by omega) this
      have := hr.2
      omega
    have hn := (near_whole hm0 hmw).scale (-s)
    rw [← hm] at hn
    refine ⟨hn, ?_⟩
    have one := castle (show (1 : Int) ≤ w - V * 2 ^ s.toNat by omega)
    have e1 : ((1 : Int) : Rat) = 1 := rfl
    rw [e1] at one
    have a := Rat.mul_le_mul_of_nonneg_left one (show (0 : Rat) ≤ (2 : Rat) ^ (-s) by grind)
    have s53 : s ≤ 53 := by
      have : (2 : Rat) ^ (-1 : Int) < (2 : Rat) ^ (53 + -s) := by
        have : (2 : Rat) ^ (-1 : Int) < 1 := by decide +kernel
        grind
      have := zp_of_lt t1 this
      omega
    have := zp_mono t1 (show (-53 : Int) ≤ -s by omega)
    rw [hm]
    grind

section
variable {fuel m : Nat} {st : Store}

theorem sp_double_zero : callP fuel code (m + 1) 13 [.int 0] st = some (.dbl 0 1, st) := by
  rw [call_eq (fd := ⟨1, 0, cdouble⟩) rfl rfl]
  unfold cdouble
  simp [finP, ex, ev, evs, lk, isiP, truth]

theorem sp_sub0 {N D n d : Int} {o : PVal} (hd : callP fuel code (m + 2) 13 [o] st = some (.dbl n d, st)) (f1 : fit N = true) (f2 : fit D = true) (f3 : fit n = true) (f4 : fit d = true)
    (h1 : N * d - n * D = 0) : callP fuel code (m + 3) 10 [.dbl N D, o] st = some (.dbl 0 (D * d), st) := by
  rw [call_eq (fd := ⟨2, 2, c__sub__⟩) rfl rfl]
  unfold c__sub__
  have hp : callP fuel code (m + 2) 2 [.dbl n d] st = some (.tup [.int n, .int d], st) := sp_parts
  simp [finP, ex, ev, evs, lk, upd, upds, binP, binI, hd, hp, f1, f2, f3, f4, h1]

theorem frac_lt {f : Rat} {n d : Int} (hd : 0 < d) (h : f * d = n) (hf : f < 1) : n < d := by
  apply Rat.intCast_lt_intCast.mp
  rw [← h]
  have := Rat.mul_lt_mul_of_pos_left hf (castlt hd : (0 : Rat) < (d : Rat))
  grind

theorem sp_subwhole {N D V : Int} {t : Rat} (hN : 0 < N) (hD : 0 < D) (bN : N < 2 ^ 230) (bD : D < 2 ^ 230) (ht : t * D = N) (hs : IsNear t t) (hr : Rng t) (hV0 : 0 ≤ V) (h1 : (V : Rat) ≤ t) (h2 : t < (V : Rat) + 1) :
    ∃ fn fd : Int, 0 ≤ fn ∧ fn < fd ∧ fn < 2 ^ 500 ∧ fd < 2 ^ 500 ∧ (t - V) * fd = fn ∧ callP fuel code (m + 5) 10 [.dbl N D, .int V] st = some (.dbl fn fd, st) := by
  have fN : fit N = true := fit_pow (Int.le_of_lt hN) bN (by decide)
  have fD : fit D = true := fit_pow (Int.le_of_lt hD) bD (by decide)
  have w600 : (2 : Int) ^ 230 < 2 ^ 600 := pow_lt_pow (by decide)
  have w500 : (2 : Int) ^ 230 < 2 ^ 500 := pow_lt_pow (by decide)
  have w460 : (2 : Int) ^ 460 < 2 ^ 500 := pow_lt_pow (by decide)
  have w460' : (2 : Int) ^ 460 < 2 ^ 600 := pow_lt_pow (by decide)
  by_cases hz : V = 0
  · subst hz
    have e0 : ((0 : Int) : Rat) = 0 := rfl
    rw [e0] at h1 h2 ⊢
    obtain ⟨u, hu, a, b, ee, ha, hb, ba, bb, hab⟩ := near_db hN hD ht hr.two.1 hr.two.2
    have eu := hs.idem hu
    rw [eu] at hab
    injection ee with ea eb
    have z1 : N * 1 - 0 * D = N := by grind
    have z2 : D * 1 = D := by grind
    have hsub := sp_sub (fuel := fuel) (m := m + 2) (st := st) (N := N) (D := D) (n := 0) (d := 1) (o := .int 0) sp_double_zero fN fD (fit_small (by decide)) (fit_small (by decide)) (by omega) (by omega) (by omega) (by omega)
    rw [z1, z2, ea, eb] at hsub
    refine ⟨a, b, by omega, frac_lt hb hab (by grind), by omega, by omega, ?_, hsub⟩
    rw [← hab]; grind
  · have hV : 1 ≤ V := by omega
    obtain ⟨nv, hcase⟩ := near_parts hs hV h1 h2
    have V1 : (1 : Rat) ≤ (V : Rat) := castle hV
    have z1 : (2 : Rat) ^ (-150 : Int) ≤ 1 := by decide +kernel
    obtain ⟨u, hu, a, b, ee, ha, hb, ba, bb, hab⟩ := near_db (n := V) (d := 1) (x := (V : Rat)) (by omega) (by decide) (by have : ((1 : Int) : Rat) = 1 := rfl
                                                                                                                           rw [this]; grind) (Rat.le_trans z1 V1) (Rat.le_trans h1 hr.two.2)
    have eu := nv.idem hu
    rw [eu] at hab
    injection ee with ea eb
    have bV : V < 2 ^ 600 := by
      have := Rat.le_trans h1 hr.2
      have e : (10 : Rat) ^ (36 : Int) = ((10 ^ 36 : Int) : Rat) := by decide +kernel
      rw [e] at this
      have := Rat.intCast_le_intCast.mp this
      have : (10 : Int) ^ 36 < 2 ^ 600 := by decide +kernel
      omega
    have hdbl := sp_double_int (fuel := fuel) (m := m + 1) (st := st) (a := V) (by omega) bV
    rw [ea, eb] at hdbl
    have fa : fit a = true := fit_pow (by omega) ba (by decide)
    have fb : fit b = true := fit_pow (by omega) bb (by decide)
    have hDb : 0 < D * b := Int.mul_pos hD hb
    have bDb : D * b < 2 ^ 460 := mul_lt_2 (by omega) bD hb bb (Nat.le_refl _)
    have bNb : N * b < 2 ^ 460 := mul_lt_2 (by omega) bN hb bb (Nat.le_refl _)
    have haD : 0 < a * D := Int.mul_pos ha hD
    have hx : (t - V) * ((D * b : Int) : Rat) = ((N * b - a * D : Int) : Rat) := by
      simp only [Rat.intCast_mul, Rat.intCast_sub]
      rw [← ht, ← hab]; grind
    rcases hcase with hcase | ⟨hf, hlo⟩
    · have h0 : N * b - a * D = 0 := by
        have : ((N * b - a * D : Int) : Rat) = ((0 : Int) : Rat) := by rw [← hx, hcase]; have : ((0 : Int) : Rat) = 0 := rfl
                                                                       rw [this]; grind
        exact Int.le_antisymm (Rat.intCast_le_intCast.mp (by rw [this]; exact Rat.le_refl)) (Rat.intCast_le_intCast.mp (by rw [this]; exact Rat.le_refl))
      have hsub := sp_sub0 (fuel := fuel) (m := m + 2) (st := st) hdbl fN fD fa fb h0
      refine ⟨0, D * b, by decide, hDb, by decide, by omega, ?_, hsub⟩
      rw [hx, h0]
    · have hpos : 0 < N * b - a * D := by
        apply Rat.intCast_lt_intCast.mp
        rw [← hx]
        have : ((0 : Int) : Rat) = 0 := rfl
        rw [this]
        have p := zp_pos t0 (-53)
        exact Rat.mul_pos (by grind) (castlt hDb)
      have z3 : (2 : Rat) ^ (-150 : Int) ≤ (2 : Rat) ^ (-53 : Int) := by decide +kernel
      have z4 : (1 : Rat) ≤ (2 : Rat) ^ (150 : Int) := by decide +kernel
      obtain ⟨u2, hu2, a2, b2, ee2, ha2, hb2, ba2, bb2, hab2⟩ := near_db hpos hDb hx (Rat.le_trans z3 hlo) (Rat.le_trans (by grind) z4)
      have eu2 := hf.idem hu2
      rw [eu2] at hab2
      injection ee2 with ea2 eb2
      have hsub := sp_sub (fuel := fuel) (m := m + 2) (st := st) hdbl fN fD fa fb hpos hDb (by omega) (by omega)
      rw [ea2, eb2] at hsub
      exact ⟨a2, b2, by omega, frac_lt hb2 hab2 (by grind), by omega, by omega, hab2, hsub⟩
end
end Mine
end
section
open PySem PySem.Builtin PySem.Builtin.Str PySem.NumText
set_option Elab.async false
set_option maxRecDepth 100000
set_option exponentiation.threshold 2500
set_option linter.unusedSimpArgs false
namespace Mine

theorem l_slash : Str.ofString "/" = S [47] := by rw [S_of]; rfl
theorem l_01 : Str.ofString "0/1" = S [48, 47, 49] := by rw [S_of]; rfl
theorem dig_int {n : Nat} (h : n < 10 ^ 100) : intText? (S (dig n)) = some (n : Int) ∧ (dig n).length ≤ 100 := by
  have hl : (dig n).length ≤ 100 := (dig_len (by decide)).mpr h
  refine ⟨?_, hl⟩
  rw [int_S (dig_all n) (dig_ne n) (by omega), dig_val]

def Way3 (t T : Rat) : Prop := ∃ (V A B : Int) (T1 : Rat), (V : Rat) ≤ t ∧ t < (V : Rat) + 1 ∧ Frac (t - V) A B ∧ 0 ≤ A ∧ A ≤ B ∧ T1 * B = A ∧ T = V + T1

theorem frac_unit {A B : Int} {T1 : Rat} (hB : 1 ≤ B) (h0 : 0 ≤ A) (h1 : A ≤ B) (h : T1 * B = A) : 0 ≤ T1 ∧ T1 ≤ 1 := by
  have pB := castpos hB
  have a := castle h0
  have b := castle h1
  rw [← h] at a b
  have e0 : ((0 : Int) : Rat) = 0 := rfl
  rw [e0] at a
  refine ⟨Rat.le_of_mul_le_mul_left (c := (B : Rat)) ?_ pB, Rat.le_of_mul_le_mul_left (c := (B : Rat)) ?_ pB⟩ <;> grind

theorem Way3.mono {t T t' T' : Rat} (h : Way3 t T) (h' : Way3 t' T') (hle : t ≤ t') : T ≤ T' := by
  obtain ⟨V, A, B, T1, a1, a2, a3, a4, a5, a6, rfl⟩ := h
  obtain ⟨V', A', B', T1', b1, b2, b3, b4, b5, b6, rfl⟩ := h'
  have hV := floor_lt a1 b2 hle
  have u := frac_unit a3.1 a4 a5 a6
  have u' := frac_unit b3.1 b4 b5 b6
  by_cases e : V = V'
  · subst e
    have m := a3.mono b3 (by grind)
    have pB := castpos a3.1
    have pB' := castpos b3.1
    have mm := castmul m
    rw [← a6, ← b6] at mm
    have : T1 ≤ T1' := by
      refine Rat.le_of_mul_le_mul_left (c := (B : Rat) * B') ?_ (Rat.mul_pos pB pB')
      grind
    grind
  · have c := castle (show V + 1 ≤ V' by omega)
    rw [Rat.intCast_add] at c
    have e1 : ((1 : Int) : Rat) = 1 := rfl
    rw [e1] at c
    grind

theorem frac_told {t : Rat} {V A B : Int} {T1 : Rat} (h36 : V ≤ 10 ^ 36) (h0 : 0 ≤ V) (a3 : Frac (t - V) A B) (a4 : 0 ≤ A) (a5 : A ≤ B) (a6 : T1 * B = A) :
    ToldOk 0 t (V + T1) (.tup [.int (V * B + A), .int B, .int 1, .int 1000]) := by
  have far := a3.far a6
  have B1 := a3.1
  have B2 := a3.2.1
  have h1 : 0 ≤ V * B := Int.mul_nonneg h0 (by omega)
  have h2 : V * B ≤ 10 ^ 36 * B := Int.mul_le_mul_of_nonneg_right h36 (by omega)
  have big : (10 : Int) ^ 36 * 1000 + 1000 < 2 ^ 400 := by decide +kernel
  have k : (2 : Int) ^ 10 < 2 ^ 400 := pow_lt_pow (by decide)
  have e10 : (2 : Int) ^ 10 = 1024 := by decide
  refine ⟨_, _, _, _, rfl, by omega, by decide, by omega, by decide, by omega, by omega, by omega, by omega, ?_, 1 / 1000, ?_, ?_, ?_⟩
  · rw [Rat.intCast_add, Rat.intCast_mul, ← a6]; grind
  · decide +kernel
  · have e0 : ((0 : Int) : Rat) = 0 := rfl
    rw [e0]
    have := far.1
    grind
  · have e0 : ((0 : Int) : Rat) = 0 := rfl
    rw [e0]
    have := far.2
    grind

section
variable {fuel m : Nat} {st : Store}

theorem sp_frac {N D V A B fn fd : Int} (hN : 0 ≤ N) (hD : 0 < D) (fD : fit D = true) (hV : N.fdiv D = V) (hV0 : 0 ≤ V) (h36 : V ≤ 10 ^ 36) (a4 : 0 ≤ A) (a5 : A ≤ B) (B1 : 1 ≤ B) (B2 : B ≤ 1000)
    (hsub : callP fuel code (m + 5) 10 [.dbl N D, .int V] st = some (.dbl fn fd, st)) (hnf : callP fuel code (m + 5) 23 [.dbl fn fd, .int 1000] st = some (.tup [.int A, .int B], st)) :
    callP fuel code (m + 6) 30 [.dbl N D] st = some (.str (S (if B = 1 then dig (V + A).toNat else if V = 0 then dig A.toNat ++ 47 :: dig B.toNat else dig V.toNat ++ 32 :: (dig A.toNat ++ 47 :: dig B.toNat))), st) := by
  have hfin := sp_finite (fuel := fuel) (m := m + 3) (st := st) (N := N) hD
  have hd : callP fuel code (m + 5) 13 [.dbl N D] st = some (.dbl N D, st) := sp_double
  have hi0 : callP fuel code (m + 5) 5 [.dbl N D] st = some (.int (N.fdiv D), st) := sp_int hN (by omega) fD
  rw [hV] at hi0
  have b36 : (10 : Int) ^ 36 < 2 ^ 200 := by decide +kernel
  have b36' : (10 : Int) ^ 36 + 1000 < 10 ^ 100 := by decide +kernel
  have fV : fit V = true := fit_pow hV0 (by omega) (by decide : 200 ≤ 1900)
  have b201 : (2 : Int) ^ 200 + 1000 < 2 ^ 201 := by decide +kernel
  have fVA : fit (V + A) = true := fit_pow (k := 201) (by omega) (by omega) (by decide)
  have fA : fit A = true := fit_small (by omega)
  have fB : fit B = true := fit_small (by omega)
  have r1 := rep_pos hV0
  have r2 := rep_pos a4
  have r3 := rep_pos (show 0 ≤ B by omega)
  have r4 := rep_pos (show 0 ≤ V + A by omega)
  have hAabs : ((A.natAbs : Nat) : Int) = A := by omega
  have nb : ∀ z : Int, z < 10 ^ 100 → z.toNat < 10 ^ 100 := fun z hz => by
    have : (0 : Int) < 10 ^ 100 := pow10_pos 100
    have : ((z.toNat : Nat) : Int) < ((10 ^ 100 : Nat) : Int) := by
      have e : ((10 ^ 100 : Nat) : Int) = 10 ^ 100 := by exact_mod_cast rfl
      omega
    exact Int.ofNat_lt.mp this
  have l1 := (dig_int (nb V (by omega))).2
  have l2 := (dig_int (nb A (by omega))).2
  have l3 := (dig_int (nb B (by omega))).2
  have l4 := (dig_int (nb (V + A) (by omega))).2
  have hs : (dig V.toNat).length ≤ 4096 ∧ (dig A.toNat).length ≤ 4096 ∧ (dig B.toNat).length ≤ 4096 ∧ (dig (V + A).toNat).length ≤ 4096 ∧
    (dig A.toNat).length + ((dig B.toNat).length + 1) ≤ 4096 ∧ (dig V.toNat).length + ((dig A.toNat).length + ((dig B.toNat).length + 1) + 1) ≤ 4096 := by omega
  rw [call_eq (fd := ⟨1, 4, cfractional⟩) rfl rfl]
  unfold cfractional
  by_cases hB : B = 1
  · simp [finP, ex, ev, evs, biP, binP, binI, cmpP, cmpI, fvalP, catStrs, isNum, lk, upd, upds, truth, slim, beqD, bneD, fSub, fInt, hd, hfin, hi0, hsub, hnf, hB, fVA, r4, s_empty, S_append, S_length, hs]
  · by_cases hz : V = 0
    · subst hz
      simp [finP, ex, ev, evs, biP, binP, binI, cmpP, cmpI, fvalP, catStrs, isNum, lk, upd, upds, truth, slim, beqD, bneD, fSub, fInt, hd, hfin, hi0, hsub, hnf, hB, fA, fB, r2, r3, l_slash, s_empty, S_append, S_length, hs]
    · simp [finP, ex, ev, evs, biP, binP, binI, cmpP, cmpI, fvalP, catStrs, isNum, lk, upd, upds, truth, slim, beqD, bneD, fSub, fInt, hd, hfin, hi0, hsub, hnf, hB, hz, hAabs, fV, fA, fB, r1, r2, r3, l_slash, l_sp, s_empty, S_append, S_length, hs]

theorem told3 {N D : Int} {t : Rat} {g : Nat} (hN : 0 < N) (hD : 0 < D) (bN : N < 2 ^ 230) (bD : D < 2 ^ 230) (ht : t * D = N) (hs : IsNear t t) (hr : Rng t) (hf : 1500 < fuel) :
    ∃ T v, Way3 t T ∧ ToldOk 0 t T v ∧ callP fuel code (m + 7) 38 [.int 3, .dbl N D, .int g] st = some (v, st) := by
  have fD : fit D = true := fit_pow (Int.le_of_lt hD) bD (by decide)
  obtain ⟨v0, v1, v2⟩ := floor_is (Int.le_of_lt hN) hD ht
  obtain ⟨V, hV⟩ : ∃ V, N.fdiv D = V := ⟨_, rfl⟩
  rw [hV] at v0 v1 v2
  have h36 : V ≤ 10 ^ 36 := by
    have := Rat.le_trans v1 hr.2
    have e : (10 : Rat) ^ (36 : Int) = ((10 ^ 36 : Int) : Rat) := by decide +kernel
    rw [e] at this
    exact Rat.intCast_le_intCast.mp this
  obtain ⟨fn, fd, s1, s2, s3, s4, s5, s6⟩ := sp_subwhole (fuel := fuel) (m := m) (st := st) hN hD bN bD ht hs hr v0 v1 v2
  obtain ⟨A, B, a3, a4, a5, hnf⟩ := sp_nf (fuel := fuel) (m := m + 4) (st := st) s1 s2 s3 s4 s5 hf
  have B1 := a3.1
  have B2 := a3.2.1
  have pB := castpos B1
  have hT1 : (A : Rat) / B * B = A := Rat.div_mul_cancel (by grind)
  generalize (A : Rat) / B = T1 at hT1
  have h30 := sp_frac (m := m) (Int.le_of_lt hN) hD fD hV v0 h36 a4 a5 B1 B2 s6 hnf
  refine ⟨_, _, ⟨V, A, B, T1, v1, v2, a3, a4, a5, hT1, rfl⟩, frac_told h36 v0 a3 a4 a5 hT1, ?_⟩
  have b36' : (10 : Int) ^ 36 + 1000 < 10 ^ 100 := by decide +kernel
  have nb : ∀ z : Int, z < 10 ^ 100 → z.toNat < 10 ^ 100 := fun z hz => by
    have : (0 : Int) < 10 ^ 100 := pow10_pos 100
    have : ((z.toNat : Nat) : Int) < ((10 ^ 100 : Nat) : Int) := by
      have e : ((10 ^ 100 : Nat) : Int) = 10 ^ 100 := by exact_mod_cast rfl
      omega
    exact Int.ofNat_lt.mp this
  obtain ⟨i1, l1⟩ := dig_int (nb V (by omega))
  obtain ⟨i2, l2⟩ := dig_int (nb A (by omega))
  obtain ⟨i3, l3⟩ := dig_int (nb B (by omega))
  obtain ⟨i4, l4⟩ := dig_int (nb (V + A) (by omega))
  rw [Int.toNat_of_nonneg v0] at i1
  rw [Int.toNat_of_nonneg a4] at i2
  rw [Int.toNat_of_nonneg (show 0 ≤ B by omega)] at i3
  rw [Int.toNat_of_nonneg (show 0 ≤ V + A by omega)] at i4
  have d1 := dig_all V.toNat
  have d2 := dig_all A.toNat
  have d3 := dig_all B.toNat
  have d4 := dig_all (V + A).toNat
  have n2 := dig_ne A.toNat
  have j0 : intText? (S [48]) = some 0 := int_S (l := [48]) (fun c hc => by simp at hc; omega) (by simp) (by simp)
  have j1 : intText? (S [49]) = some 1 := int_S (l := [49]) (fun c hc => by simp at hc; omega) (by simp) (by simp)
  have p01 : Txt.partition (S [48, 47, 49]) (S [47]) = (S [48], S [47], S [49]) := part_at (a := [48]) (b := [49]) (by decide) (by decide)
  have pf : Txt.partition (S (dig A.toNat ++ 47 :: dig B.toNat)) (S [47]) = (S (dig A.toNat), S [47], S (dig B.toNat)) := part_at (ad_not d2 (by decide)) (ad_not d3 (by decide))
  have f1 : fit 1 = true := fit_small (by decide)
  have f0 : fit 0 = true := fit_small (by decide)
  have b36 : (10 : Int) ^ 36 < 2 ^ 200 := by decide +kernel
  have fV : fit V = true := fit_pow v0 (by omega) (by decide : 200 ≤ 1900)
  have b201 : (2 : Int) ^ 200 + 1000 < 2 ^ 201 := by decide +kernel
  have fVA : fit (V + A) = true := fit_pow (k := 201) (by omega) (by omega) (by decide)
  have fB : fit B = true := fit_small (by omega)
  rw [call_eq (fd := ⟨3, 13, c_law_told⟩) rfl rfl]
  unfold c_law_told
  by_cases hB : B = 1
  · rw [if_pos hB] at h30
    have c1 : Txt.contains (S (dig (V + A).toNat)) (S [32]) = false := has_no (x := 32) (by simp) (ad_not d4 (by decide))
    have c2 : Txt.contains (S (dig (V + A).toNat)) (S [47]) = false := has_no (x := 47) (by simp) (ad_not d4 (by decide))
    have p1 : Txt.partition (S (dig (V + A).toNat)) (S [32]) = (S (dig (V + A).toNat), S [], S []) := part_no (ad_not d4 (by decide))
    have hs : (dig (V + A).toNat).length ≤ 4096 ∧ (dig (V + A).toNat).length ≤ 640 := by omega
    simp [finP, ex, ev, evs, biP, binP, binI, cmpP, cmpI, methP, lk, upd, upds, truth, slim, beqD, bneD, bne, S_beq, S_eq, l_sp, l_slash, l_01, l_zero, l_nil, S_length, h30, c1, c2, p1, p01, hs, i4, j0, j1, f1, fVA, hB]
  · rw [if_neg hB] at h30
    by_cases hz : V = 0
    · rw [if_pos hz] at h30
      have c1 : Txt.contains (S (dig A.toNat ++ 47 :: dig B.toNat)) (S [32]) = false := has_no (x := 32) (by simp) (by simp [ad_not d2 (show 32 < 48 ∨ 57 < 32 by decide), ad_not d3 (show 32 < 48 ∨ 57 < 32 by decide)])
      have c2 : Txt.contains (S (dig A.toNat ++ 47 :: dig B.toNat)) (S [47]) = true := by rw [has_one]; simp
      have hs : (dig A.toNat).length ≤ 4096 ∧ (dig A.toNat).length ≤ 640 ∧ (dig B.toNat).length ≤ 640 ∧ (dig A.toNat).length + ((dig B.toNat).length + 1) ≤ 4096 := by omega
      simp [finP, ex, ev, evs, biP, binP, binI, cmpP, cmpI, methP, lk, upd, upds, truth, slim, beqD, bneD, bne, S_beq, S_eq, l_sp, l_slash, l_01, l_zero, l_nil, S_length, h30, c1, c2, pf, hs, i2, i3, j0, f0, fB, hz]
    · rw [if_neg hz] at h30
      have c1 : Txt.contains (S (dig V.toNat ++ 32 :: (dig A.toNat ++ 47 :: dig B.toNat))) (S [32]) = true := by rw [has_one]; simp
      have p1 : Txt.partition (S (dig V.toNat ++ 32 :: (dig A.toNat ++ 47 :: dig B.toNat))) (S [32]) = (S (dig V.toNat), S [32], S (dig A.toNat ++ 47 :: dig B.toNat)) :=
        part_at (ad_not d1 (by decide)) (by simp [ad_not d2 (show 32 < 48 ∨ 57 < 32 by decide), ad_not d3 (show 32 < 48 ∨ 57 < 32 by decide)])
      have hs : (dig V.toNat).length ≤ 640 ∧ (dig A.toNat).length ≤ 640 ∧ (dig B.toNat).length ≤ 640 ∧ (dig A.toNat).length + ((dig B.toNat).length + 1) ≤ 4096 ∧
        (dig V.toNat).length + ((dig A.toNat).length + ((dig B.toNat).length + 1) + 1) ≤ 4096 := by omega
      simp [finP, ex, ev, evs, biP, binP, binI, cmpP, cmpI, methP, lk, upd, upds, truth, slim, beqD, bneD, bne, S_beq, S_eq, l_sp, l_slash, l_01, l_zero, l_nil, S_length, h30, c1, p1, pf, hs, i1, i2, i3, fV, fB]
end
end Mine
end
section
open PySem PySem.Builtin PySem.Builtin.Str PySem.NumText
set_option Elab.async false
set_option maxRecDepth 100000
set_option linter.unusedSimpArgs false
namespace Mine

theorem IsR.ge' {x : Rat} {r m : Int} (h : IsR x r) (hm : 2 * (m : Rat) < 2 * x + 1) : m ≤ r := by
  apply Decidable.byContradiction
  intro hn
  have a := castle (show r + 1 ≤ m by omega)
  rw [Rat.intCast_add] at a
  have e1 : ((1 : Int) : Rat) = 1 := rfl
  rw [e1] at a
  have := h.hi
  grind
theorem IsR.le' {x : Rat} {r m : Int} (h : IsR x r) (hm : 2 * x < 2 * (m : Rat) + 1) : r ≤ m := by
  apply Decidable.byContradiction
  intro hn
  have a := castle (show m + 1 ≤ r by omega)
  rw [Rat.intCast_add] at a
  have e1 : ((1 : Int) : Rat) = 1 := rfl
  rw [e1] at a
  have := h.lo
  grind
theorem IsR.geE {x : Rat} {r m : Int} (h : IsR x r) (he : m % 2 = 0) (hm : 2 * (m : Rat) ≤ 2 * x + 1) : m ≤ r := by
  apply Decidable.byContradiction
  intro hn
  have a := castle (show r + 1 ≤ m by omega)
  rw [Rat.intCast_add] at a
  have e1 : ((1 : Int) : Rat) = 1 := rfl
  rw [e1] at a
  have h1 := h.hi
  have h2 : 2 * (x - r) = 1 := by grind
  have h3 := h.even (.inl h2)
  have h4 : (m : Rat) = ((r + 1 : Int) : Rat) := by rw [Rat.intCast_add, e1]; grind
  have h5 : m = r + 1 := Int.le_antisymm (Rat.intCast_le_intCast.mp (by rw [h4]; exact Rat.le_refl)) (Rat.intCast_le_intCast.mp (by rw [h4]; exact Rat.le_refl))
  omega

/-- the power of ten of fifteen figures -/
def E14 (t : Rat) (e : Int) : Prop := ∃ (W : Nat) (k : Int) (T : Rat) (W0 : Int), IsFl 10 14 t T (14 - k) W0 ∧ T = (W : Rat) * (10 : Rat) ^ (e - 14) ∧ 10 ^ 14 ≤ W ∧ W < 10 ^ 15 ∧ k ≤ e ∧ e ≤ k + 1

theorem nat_pow_rat (k : Nat) : (((10 ^ k : Nat) : Nat) : Rat) = (10 : Rat) ^ (k : Int) := by
  rw [Rat.natCast_pow, ← Rat.zpow_natCast]; rfl
theorem natle {a b : Nat} (h : a ≤ b) : (a : Rat) ≤ (b : Rat) := by
  have := castle (show (a : Int) ≤ (b : Int) by omega)
  exact this
theorem natlt {a b : Nat} (h : a < b) : (a : Rat) < (b : Rat) := by
  have := castlt (show (a : Int) < (b : Int) by omega)
  exact this

theorem E14.T {t : Rat} {e : Int} (h : E14 t e) : ∃ T s w, IsFl 10 14 t T s w ∧ (10 : Rat) ^ e ≤ T ∧ T < (10 : Rat) ^ (e + 1) ∧ t < (10 : Rat) ^ (e + 1) ∧ 200000000000000 * (T - t) ≤ (10 : Rat) ^ e := by
  obtain ⟨W, k, T, W0, h1, h2, h3, h4, h5, h6⟩ := h
  have p := zp_pos k0 (e - 14)
  have a := natle h3
  have b := natlt h4
  rw [nat_pow_rat] at a b
  have s1 : (10 : Rat) ^ e = (10 : Rat) ^ ((14 : Nat) : Int) * (10 : Rat) ^ (e - 14) := by rw [← zp_add k0]; congr 1; omega
  have s2 : (10 : Rat) ^ (e + 1) = (10 : Rat) ^ ((15 : Nat) : Int) * (10 : Rat) ^ (e - 14) := by rw [← zp_add k0]; congr 1; omega
  have m1 := Rat.mul_le_mul_of_nonneg_left a (show (0 : Rat) ≤ (10 : Rat) ^ (e - 14) by grind)
  have m2 := Rat.mul_lt_mul_of_pos_left b p
  refine ⟨T, _, _, h1, by rw [s1, h2]; grind, by rw [s2, h2]; grind, ?_, ?_⟩
  · have hi := h1.sc.hi
    rw [c10] at hi
    have pk := zp_pos k0 (-(14 - k))
    have n := zp_neg k0 (14 - k)
    have := Rat.mul_lt_mul_of_pos_left hi pk
    have e1 : (10 : Rat) ^ (-(14 - k)) * (t * (10 : Rat) ^ (14 - k)) = t * ((10 : Rat) ^ (14 - k) * (10 : Rat) ^ (-(14 - k))) := by grind
    rw [e1, n, ← zp_add k0] at this
    have := zp_mono k1 (show -(14 - k) + (((14 : Nat) : Int) + 1) ≤ e + 1 by omega)
    grind
  · have er := (h1.err (by decide)).2
    rw [c10] at er
    have := zp_mono k1 (show -(14 - k) ≤ e - 14 by omega)
    have s3 : (10 : Rat) ^ e = 100000000000000 * (10 : Rat) ^ (e - 14) := by
      have : (100000000000000 : Rat) = (10 : Rat) ^ (14 : Int) := by decide +kernel
      rw [this, ← zp_add k0]; congr 1; omega
    rw [s3]
    grind
theorem E14.mono {t t' : Rat} {e e' : Int} (h : E14 t e) (h' : E14 t' e') (hle : t ≤ t') : e ≤ e' := by
  obtain ⟨T, s, w, h1, h2, h3, h4, h5⟩ := h.T
  obtain ⟨T', s', w', h1', h2', h3', h4', h5'⟩ := h'.T
  have := h1.mono (by decide) h1' hle
  have : (10 : Rat) ^ e < (10 : Rat) ^ (e' + 1) := by grind
  have := zp_of_lt k1 this
  omega

structure Met (g : Nat) (t : Rat) (q : Int) (i : Nat) (v : Rat) (R : Int) : Prop where
  i3 : i < 3
  e14 : E14 t (3 * q + i)
  near : ∃ P x, IsNear ((10 : Rat) ^ (3 * q)) P ∧ x * P = t ∧ IsNear x v
  r : IsR (v * (10 : Rat) ^ (((g - i : Nat)) : Int)) R

/-- the number beside its bucket -/
theorem Met.close {g i : Nat} {t v : Rat} {q R : Int} (h : Met g t q i v R) : ∃ τ, t = τ * (10 : Rat) ^ (3 * q) ∧ 9007199254740991 * v ≤ 9007199254740993 * τ ∧ 9007199254740991 * τ ≤ 9007199254740993 * v ∧
    199999999999999 * (10 : Rat) ^ (i : Int) ≤ 200000000000000 * τ ∧ τ < 10 * (10 : Rat) ^ (i : Int) := by
  obtain ⟨P, x, hP, hx, hv⟩ := h.near
  obtain ⟨T, s, w, h1, h2, h3, h4, h5⟩ := h.e14.T
  have eP := hP.err
  have ev := hv.err
  have pP := hP.pos.2
  have pv := hv.pos.2
  have px := hv.pos.1
  have pB := zp_pos k0 (3 * q)
  have nB := zp_neg k0 (3 * q)
  have pQ := zp_pos k0 (-(3 * q))
  have pI := zp_pos k0 (i : Int)
  have e1 : (10 : Rat) ^ (3 * q + (i : Int)) = (10 : Rat) ^ (3 * q) * (10 : Rat) ^ (i : Int) := zp_add k0 _ _
  have e2 : (10 : Rat) ^ (3 * q + (i : Int) + 1) = (10 : Rat) ^ (3 * q) * (10 : Rat) ^ (i : Int) * 10 := by rw [zp_add k0, zp_add k0, Rat.zpow_one]
  rw [e1] at h2 h5
  rw [e2] at h4
  generalize (10 : Rat) ^ (3 * q) = B at *
  generalize (10 : Rat) ^ (-(3 * q)) = Q at *
  generalize (10 : Rat) ^ (i : Int) = I at *
  have ht : t = t * Q * B := by
    have : t * Q * B = t * (B * Q) := by grind
    rw [this, nB]; grind
  have hlow : 199999999999999 * (B * I) ≤ 200000000000000 * t := by grind
  clear h1 h2 h3 h5 e1 e2
  refine ⟨t * Q, ht, ?_, ?_, ?_, ?_⟩
  · -- v B (M-1) ≤ (M+1) t
    have a1 := Rat.mul_le_mul_of_nonneg_left eP.1 (show (0 : Rat) ≤ v by grind)
    have a2 := Rat.mul_le_mul_of_nonneg_left ev.2 (show (0 : Rat) ≤ P by grind)
    have b1 : 9007199254740991 * (v * B) ≤ 9007199254740992 * (v * P) := by grind
    have b2 : 9007199254740992 * (v * P) ≤ 9007199254740993 * t := by rw [← hx]; grind
    refine Rat.le_of_mul_le_mul_left (c := B) ?_ pB
    have c1 : B * (9007199254740993 * (t * Q)) = 9007199254740993 * (t * (B * Q)) := by grind
    rw [c1, nB]
    grind
  · have a1 := Rat.mul_le_mul_of_nonneg_left eP.2 (show (0 : Rat) ≤ v by grind)
    have a2 := Rat.mul_le_mul_of_nonneg_left ev.1 (show (0 : Rat) ≤ P by grind)
    have b1 : 9007199254740992 * (v * P) ≤ 9007199254740993 * (v * B) := by grind
    have b2 : 9007199254740991 * t ≤ 9007199254740992 * (v * P) := by rw [← hx]; grind
    refine Rat.le_of_mul_le_mul_left (c := B) ?_ pB
    have c1 : B * (9007199254740991 * (t * Q)) = 9007199254740991 * (t * (B * Q)) := by grind
    rw [c1, nB]
    grind
  · have a := Rat.mul_le_mul_of_nonneg_left hlow (show (0 : Rat) ≤ Q by grind)
    have c1 : Q * (199999999999999 * (B * I)) = 199999999999999 * ((B * Q) * I) := by grind
    rw [c1, nB] at a
    grind
  · have a := Rat.mul_lt_mul_of_pos_left h4 pQ
    have c1 : Q * (B * I * 10) = (B * Q) * I * 10 := by grind
    rw [c1, nB] at a
    grind

theorem Met.v_bounds {g i : Nat} {t v : Rat} {q R : Int} (h : Met g t q i v R) : 9999999999999 * (10 : Rat) ^ (i : Int) ≤ 10000000000000 * v ∧ 10000000000000 * v ≤ 10000000000001 * (10 * (10 : Rat) ^ (i : Int)) := by
  obtain ⟨τ, _, h1, h2, h3, h4⟩ := h.close
  have := zp_pos k0 (i : Int)
  generalize (10 : Rat) ^ (i : Int) = I at *
  constructor <;> grind

theorem IJ {g i : Nat} (hg : g ≤ 8) (hi : i < 3) : (10 : Rat) ^ (i : Int) * (10 : Rat) ^ (((g - i : Nat)) : Int) ≤ 100000000 := by
  have : (100000000 : Rat) = (10 : Rat) ^ (8 : Int) := by decide +kernel
  rw [← zp_add k0, this]
  exact zp_mono k1 (by omega)

theorem Met.R_bounds {g i : Nat} {t v : Rat} {q R : Int} (h : Met g t q i v R) (hg : g ≤ 8) : (10 : Int) ^ (i + (g - i)) ≤ R ∧ R ≤ (10 : Int) ^ (i + 1 + (g - i)) := by
  obtain ⟨h1, h2⟩ := h.v_bounds
  have ij := IJ hg h.i3
  have pJ := zp_pos k0 (((g - i : Nat)) : Int)
  have e1 : (((10 : Int) ^ (i + (g - i)) : Int) : Rat) = (10 : Rat) ^ (i : Int) * (10 : Rat) ^ (((g - i : Nat)) : Int) := by rw [zp10, ← zp_add k0]; congr 1
  have e2 : (((10 : Int) ^ (i + 1 + (g - i)) : Int) : Rat) = 10 * ((10 : Rat) ^ (i : Int) * (10 : Rat) ^ (((g - i : Nat)) : Int)) := by
    have : (10 : Rat) = (10 : Rat) ^ (1 : Int) := by decide +kernel
    rw [zp10, ← zp_add k0]
    conv => rhs; lhs; rw [this]
    rw [← zp_add k0]; congr 1; omega
  have m1 := Rat.mul_le_mul_of_nonneg_left h1 (show (0 : Rat) ≤ (10 : Rat) ^ (((g - i : Nat)) : Int) by grind)
  have m2 := Rat.mul_le_mul_of_nonneg_left h2 (show (0 : Rat) ≤ (10 : Rat) ^ (((g - i : Nat)) : Int) by grind)
  have hr := h.r
  clear h
  generalize (10 : Rat) ^ (((g - i : Nat)) : Int) = J at *
  generalize (10 : Rat) ^ (i : Int) = I at *
  refine ⟨hr.ge' ?_, hr.le' ?_⟩
  · rw [e1]; grind
  · rw [e2]; grind
end Mine
end
section
open PySem PySem.Builtin PySem.Builtin.Str PySem.NumText
set_option Elab.async false
set_option maxRecDepth 100000
set_option linter.unusedSimpArgs false
namespace Mine

def metT (g : Nat) (q : Int) (i : Nat) (R : Int) : Rat := (R : Rat) * (10 : Rat) ^ (3 * q - ((g - i : Nat) : Int))
def Carry (g : Nat) (e : Int) (i : Nat) (R : Int) : Prop := e < 30 ∧ (10 : Int) ^ (i + 1 + (g - i)) ≤ R

theorem Met.T_bounds {g i : Nat} {t v : Rat} {q R : Int} (h : Met g t q i v R) (hg : g ≤ 8) : (10 : Rat) ^ (3 * q + i) ≤ metT g q i R ∧ metT g q i R ≤ (10 : Rat) ^ (3 * q + i + 1) := by
  obtain ⟨h1, h2⟩ := h.R_bounds hg
  have a := castle h1
  have b := castle h2
  rw [zp10] at a b
  have p := zp_pos k0 (3 * q - ((g - i : Nat) : Int))
  have m1 := Rat.mul_le_mul_of_nonneg_left a (show (0 : Rat) ≤ (10 : Rat) ^ (3 * q - ((g - i : Nat) : Int)) by grind)
  have m2 := Rat.mul_le_mul_of_nonneg_left b (show (0 : Rat) ≤ (10 : Rat) ^ (3 * q - ((g - i : Nat) : Int)) by grind)
  rw [← zp_add k0] at m1 m2
  rw [show 3 * q - ((g - i : Nat) : Int) + ((i + (g - i) : Nat) : Int) = 3 * q + i by omega] at m1
  rw [show 3 * q - ((g - i : Nat) : Int) + ((i + 1 + (g - i) : Nat) : Int) = 3 * q + i + 1 by omega] at m2
  unfold metT
  constructor <;> grind

def Way1 (g : Nat) (t T : Rat) : Prop := ∃ e, E14 t e ∧ ((33 ≤ e ∧ Way0 g t T) ∨
  (e < 33 ∧ ∃ (q : Int) (i : Nat) (v : Rat) (R : Int), e = 3 * q + i ∧ Met g t q i v R ∧ ((Carry g e i R ∧ T = (10 : Rat) ^ (e + 1)) ∨ (¬ Carry g e i R ∧ T = metT g q i R))))

/-- what fifteen figures lift, fewer lift too -/
theorem Way0.lift {g : Nat} {t T : Rat} {e : Int} (hg : g ≤ 8) (he : E14 t e) (h : Way0 g t T) : (10 : Rat) ^ e ≤ T := by
  obtain ⟨T14, s14, w14, a1, a2, a3, a4, a5⟩ := he.T
  obtain ⟨s, w, h⟩ := h
  have hr := h.range.1
  have hsc := h.sc
  have heq := h.eq
  have hR := h.r
  rw [c10] at hsc heq hR
  have p := zp_pos k0 (-s)
  have n := zp_neg k0 s
  by_cases hs : e ≤ (g : Int) - s
  · -- plain
    have c := castle hr
    rw [zp10] at c
    have m := Rat.mul_le_mul_of_nonneg_left c (show (0 : Rat) ≤ (10 : Rat) ^ (-s) by grind)
    rw [← zp_add k0] at m
    have := zp_mono k1 (show e ≤ -s + ((g : Nat) : Int) by omega)
    rw [heq]; grind
  · -- lifted
    have ps := zp_pos k0 s
    have hi := hsc.hi
    have pe := zp_pos k0 e
    have low : 199999999999999 * (10 : Rat) ^ e ≤ 200000000000000 * t := by grind
    have hge : e = (g : Int) - s + 1 := by
      have m := Rat.mul_le_mul_of_nonneg_left low (show (0 : Rat) ≤ (10 : Rat) ^ s by grind)
      have c1 : (10 : Rat) ^ s * (199999999999999 * (10 : Rat) ^ e) = 199999999999999 * (10 : Rat) ^ (s + e) := by rw [zp_add k0]; grind
      have c2' : (10 : Rat) ^ s * (200000000000000 * t) = 200000000000000 * (t * (10 : Rat) ^ s) := by grind
      rw [c1, c2'] at m
      have c3 : (10 : Rat) ^ (s + e) = (10 : Rat) ^ (s + e - 1) * 10 := by
        have := zp_add k0 (s + e - 1) 1
        rw [Rat.zpow_one, show s + e - 1 + 1 = s + e by omega] at this
        exact this
      rw [c3] at m
      have p2 := zp_pos k0 (s + e - 1)
      have : (10 : Rat) ^ (s + e - 1) < (10 : Rat) ^ ((g : Int) + 1) := by grind
      have := zp_of_lt k1 this
      omega
    have hw : (10 : Int) ^ (g + 1) ≤ w := by
      refine hR.ge' ?_
      have m := Rat.mul_le_mul_of_nonneg_left a5 (show (0 : Rat) ≤ (10 : Rat) ^ s by grind)
      have m2 := Rat.mul_le_mul_of_nonneg_left a2 (show (0 : Rat) ≤ (10 : Rat) ^ s by grind)
      have c1 : (((10 : Int) ^ (g + 1) : Int) : Rat) = (10 : Rat) ^ s * (10 : Rat) ^ e := by rw [zp10, ← zp_add k0]; congr 1; omega
      have c4 : (10 : Rat) ^ s * (10 : Rat) ^ e ≤ 1000000000 := by
        have : (1000000000 : Rat) = (10 : Rat) ^ (9 : Int) := by decide +kernel
        rw [← zp_add k0, this]
        exact zp_mono k1 (by omega)
      rw [c1]
      clear hsc heq hR hi low a3 a4 n p a5 a2 c1
      generalize (10 : Rat) ^ s * (10 : Rat) ^ e = u at m m2 c4 ⊢
      have d1 : (10 : Rat) ^ s * (200000000000000 * (T14 - t)) = 200000000000000 * ((10 : Rat) ^ s * T14) - 200000000000000 * ((10 : Rat) ^ s * t) := by grind
      rw [d1] at m
      have d2 : t * (10 : Rat) ^ s = (10 : Rat) ^ s * t := by grind
      rw [d2]
      generalize (10 : Rat) ^ s * T14 = x at m m2
      generalize (10 : Rat) ^ s * t = y at m ⊢
      clear d1 d2 ps
      grind
    have c := castle hw
    rw [zp10] at c
    have m := Rat.mul_le_mul_of_nonneg_left c (show (0 : Rat) ≤ (10 : Rat) ^ (-s) by grind)
    rw [← zp_add k0, show -s + ((g + 1 : Nat) : Int) = e by omega] at m
    rw [heq]; grind

theorem Way1.mono {g : Nat} {t T t' T' : Rat} (hg : g ≤ 8) (h : Way1 g t T) (h' : Way1 g t' T') (hle : t ≤ t') : T ≤ T' := by
  obtain ⟨e, he, h⟩ := h
  obtain ⟨e', he', h'⟩ := h'
  have hee := he.mono he' hle
  have top : ∀ {q : Int} {i : Nat} {v : Rat} {R : Int} {t T : Rat} {e : Int}, e = 3 * q + i → Met g t q i v R → ((Carry g e i R ∧ T = (10 : Rat) ^ (e + 1)) ∨ (¬ Carry g e i R ∧ T = metT g q i R)) → (10 : Rat) ^ e ≤ T ∧ T ≤ (10 : Rat) ^ (e + 1) := by
    intro q i v R t T e e0 hm hc
    rcases hc with ⟨_, rfl⟩ | ⟨_, rfl⟩
    · exact ⟨zp_mono k1 (by omega), Rat.le_refl⟩
    · have := hm.T_bounds hg
      rw [← e0] at this
      exact this
  rcases h with ⟨h1, h2⟩ | ⟨h1, q, i, v, R, e0, hm, hc⟩
  · rcases h' with ⟨h1', h2'⟩ | ⟨h1', _⟩
    · exact h2.mono h2' hle
    · omega
  · have b := top e0 hm hc
    rcases h' with ⟨h1', h2'⟩ | ⟨h1', q', i', v', R', e0', hm', hc'⟩
    · have := h2'.lift hg he'
      have := zp_mono k1 (show e + 1 ≤ e' by omega)
      grind
    · have b' := top e0' hm' hc'
      by_cases hlt : e < e'
      · have := zp_mono k1 (show e + 1 ≤ e' by omega)
        grind
      · have e1 : e = e' := by omega
        have i3 := hm.i3
        have i3' := hm'.i3
        have e2 : q = q' := by omega
        have e3 : i = i' := by omega
        subst e1 e2 e3
        obtain ⟨P, x, p1, p2, p3⟩ := hm.near
        obtain ⟨P', x', p1', p2', p3'⟩ := hm'.near
        have eP := p1.uniq p1'
        subst eP
        have hx : x ≤ x' := by
          refine Rat.le_of_mul_le_mul_left (c := P) ?_ p1.pos.2
          grind
        have hv := p3.mono p3' hx
        have p := zp_pos k0 (((g - i : Nat)) : Int)
        have m := Rat.mul_le_mul_of_nonneg_left hv (show (0 : Rat) ≤ (10 : Rat) ^ (((g - i : Nat)) : Int) by grind)
        have hR := hm.r.mono hm'.r (by grind)
        rcases hc' with ⟨_, rfl⟩ | ⟨c', rfl⟩
        · exact b.2
        · rcases hc with ⟨c, rfl⟩ | ⟨_, rfl⟩
          · exact absurd ⟨c.1, Int.le_trans c.2 hR⟩ c'
          · have q2 := zp_pos k0 (3 * q - ((g - i : Nat) : Int))
            have := Rat.mul_le_mul_of_nonneg_left (castle hR) (show (0 : Rat) ≤ (10 : Rat) ^ (3 * q - ((g - i : Nat) : Int)) by grind)
            unfold metT
            grind

/-- the distance, where nothing is carried -/
theorem Met.far {g i : Nat} {t v : Rat} {q R : Int} (h : Met g t q i v R) (hg : g ≤ 8) :
    20000 * (t - metT g q i R) ≤ 10001 * (10 : Rat) ^ (3 * q - ((g - i : Nat) : Int)) ∧ 20000 * (metT g q i R - t) ≤ 10001 * (10 : Rat) ^ (3 * q - ((g - i : Nat) : Int)) := by
  obtain ⟨τ, ht, h1, h2, h3, h4⟩ := h.close
  have f := isR_far h.r
  have ij := IJ hg h.i3
  have pB := zp_pos k0 (3 * q)
  have pJ := zp_pos k0 (((g - i : Nat)) : Int)
  have pu := zp_pos k0 (-((g - i : Nat) : Int))
  have nJ := zp_neg k0 ((g - i : Nat) : Int)
  have sp : (10 : Rat) ^ (3 * q - ((g - i : Nat) : Int)) = (10 : Rat) ^ (3 * q) * (10 : Rat) ^ (-((g - i : Nat) : Int)) := by rw [← zp_add k0]; congr 1
  unfold metT
  rw [sp, ht]
  clear ht sp h
  generalize (10 : Rat) ^ (3 * q) = B at *
  generalize (10 : Rat) ^ (((g - i : Nat)) : Int) = J at *
  generalize (10 : Rat) ^ (-((g - i : Nat) : Int)) = u at *
  generalize (10 : Rat) ^ (i : Int) = I at *
  -- I ≤ 10^8 u
  have iu : I ≤ 100000000 * u := by
    have := Rat.mul_le_mul_of_nonneg_left ij (show (0 : Rat) ≤ u by grind)
    have e : u * (I * J) = I * (J * u) := by grind
    rw [e, nJ] at this
    grind
  clear nJ ij
  have k1 : 20000 * (τ - R * u) ≤ 10001 * u := by grind
  have k2 : 20000 * (R * u - τ) ≤ 10001 * u := by grind
  have m1 := Rat.mul_le_mul_of_nonneg_left k1 (show (0 : Rat) ≤ B by grind)
  have m2 := Rat.mul_le_mul_of_nonneg_left k2 (show (0 : Rat) ≤ B by grind)
  constructor <;> grind

/-- the distance, where the figure is carried -/
theorem Met.far_carry {g i : Nat} {t v : Rat} {q R : Int} (h : Met g t q i v R) (hg : g ≤ 8) (hc : (10 : Int) ^ (i + 1 + (g - i)) ≤ R) {U : Rat} (hU : (10 : Rat) ^ (3 * q - ((g - i : Nat) : Int)) ≤ U) :
    20000 * (t - (10 : Rat) ^ (3 * q + i + 1)) ≤ 10001 * U ∧ 20000 * ((10 : Rat) ^ (3 * q + i + 1) - t) ≤ 10001 * U := by
  have hR : R = (10 : Int) ^ (i + 1 + (g - i)) := Int.le_antisymm (h.R_bounds hg).2 hc
  have hT : metT g q i R = (10 : Rat) ^ (3 * q + i + 1) := by
    unfold metT
    rw [hR, zp10, ← zp_add k0]; congr 1; omega
  have := h.far hg
  rw [hT] at this
  have p := zp_pos k0 (3 * q - ((g - i : Nat) : Int))
  constructor <;> grind
end Mine
end
section
open PySem PySem.Builtin PySem.Builtin.Str PySem.NumText
set_option Elab.async false
set_option maxRecDepth 100000
set_option linter.unusedSimpArgs false
namespace Mine

theorem Met.carry_low {g i : Nat} {t v : Rat} {q R R' : Int} (h : Met g t q i v R) (hg : g ≤ 8) (hi : i < 2) (hc : (10 : Int) ^ (i + 1 + (g - i)) ≤ R) (h' : IsR (v * (10 : Rat) ^ (((g - (i + 1) : Nat)) : Int)) R') : R' = (10 : Int) ^ (i + 1 + (g - (i + 1))) := by
  have hR : R = (10 : Int) ^ (i + 1 + (g - i)) := Int.le_antisymm (h.R_bounds hg).2 hc
  by_cases hd : g ≤ i
  · have e : g - (i + 1) = g - i := by omega
    rw [e] at h' ⊢
    rw [h'.unique h.r, hR]
  · have hv := h.v_bounds.2
    have lo := h.r.lo
    have ij := IJ hg (show i + 1 < 3 by omega)
    have eJ : (10 : Rat) ^ (((g - i : Nat)) : Int) = (10 : Rat) ^ (((g - (i + 1) : Nat)) : Int) * 10 := by
      have := zp_add k0 (((g - (i + 1) : Nat)) : Int) 1
      rw [Rat.zpow_one] at this
      rw [← this]; congr 1; omega
    have eI : (10 : Rat) ^ ((i + 1 : Nat) : Int) = (10 : Rat) ^ (i : Int) * 10 := by
      have := zp_add k0 (i : Int) 1
      rw [Rat.zpow_one] at this
      rw [← this]; congr 1
    have e1 : (((10 : Int) ^ (i + 1 + (g - (i + 1))) : Int) : Rat) = (10 : Rat) ^ (i : Int) * 10 * (10 : Rat) ^ (((g - (i + 1) : Nat)) : Int) := by rw [zp10, ← eI, ← zp_add k0]; congr 1
    have e2 : (R : Rat) = (10 : Rat) ^ (i : Int) * 10 * ((10 : Rat) ^ (((g - (i + 1) : Nat)) : Int) * 10) := by rw [hR, zp10, ← eI, ← eJ, ← zp_add k0]; congr 1
    rw [e2, eJ] at lo
    rw [eI] at ij
    have pJ := zp_pos k0 (((g - (i + 1) : Nat)) : Int)
    have m := Rat.mul_le_mul_of_nonneg_left hv (show (0 : Rat) ≤ (10 : Rat) ^ (((g - (i + 1) : Nat)) : Int) by grind)
    clear h hR hc e2 eJ eI
    refine Int.le_antisymm (h'.le' ?_) (h'.ge' ?_)
    · rw [e1]
      generalize (10 : Rat) ^ (((g - (i + 1) : Nat)) : Int) = J at *
      generalize (10 : Rat) ^ (i : Int) = I at *
      grind
    · rw [e1]
      generalize (10 : Rat) ^ (((g - (i + 1) : Nat)) : Int) = J at *
      generalize (10 : Rat) ^ (i : Int) = I at *
      grind

theorem Met.carry_high {g : Nat} {t v v' x : Rat} {q R R' : Int} (h : Met g t q 2 v R) (hg : g ≤ 8) (hc : (10 : Int) ^ (2 + 1 + (g - 2)) ≤ R) (hx : x * 1000 = v) (hn : IsNear x v') (h' : IsR (v' * (10 : Rat) ^ (g : Int)) R') : R' = (10 : Int) ^ g := by
  have hR : R = (10 : Int) ^ (2 + 1 + (g - 2)) := Int.le_antisymm (h.R_bounds hg).2 hc
  have hv := h.v_bounds.2
  have lo := h.r.lo
  have er := hn.err
  have px := hn.pos.1
  have e2 : (R : Rat) = 1000 * (10 : Rat) ^ (((g - 2 : Nat)) : Int) := by
    have : (1000 : Rat) = (10 : Rat) ^ (3 : Int) := by decide +kernel
    rw [hR, zp10, this, ← zp_add k0]; congr 1
  have i2 : (10 : Rat) ^ ((2 : Nat) : Int) = 100 := by decide +kernel
  rw [i2] at hv
  rw [e2] at lo
  have pG := zp_pos k0 (g : Int)
  have pJ := zp_pos k0 (((g - 2 : Nat)) : Int)
  have gj : (10 : Rat) ^ (g : Int) ≤ 100 * (10 : Rat) ^ (((g - 2 : Nat)) : Int) := by
    have : (100 : Rat) = (10 : Rat) ^ (2 : Int) := by decide +kernel
    rw [this, ← zp_add k0]
    exact zp_mono k1 (by omega)
  have g8 : (10 : Rat) ^ (g : Int) ≤ 100000000 := by
    have : (100000000 : Rat) = (10 : Rat) ^ (8 : Int) := by decide +kernel
    rw [this]
    exact zp_mono k1 (by omega)
  have pJ1 : 1 ≤ (10 : Rat) ^ (((g - 2 : Nat)) : Int) := by
    have := zp_mono k1 (show (0 : Int) ≤ (((g - 2 : Nat)) : Int) by omega)
    rwa [Rat.zpow_zero] at this
  clear h hR hc e2 i2 hn
  generalize (10 : Rat) ^ (((g - 2 : Nat)) : Int) = J at *
  have eG : (((10 : Int) ^ g : Int) : Rat) = (10 : Rat) ^ (g : Int) := zp10 g
  generalize (10 : Rat) ^ (g : Int) = G at *
  -- x J ≥ J - 1/2000
  have x1 : 2000 * J - 1 ≤ 2000 * (x * J) := by rw [← hx] at lo; grind
  have x2 : 10000000000000 * x ≤ 10000000000001 := by grind
  -- x G ≥ G - 1/20
  have x3 : 20 * G - 1 ≤ 20 * (x * G) := by
    -- (1 - x) J ≤ 1/2000 and G ≤ 100 J
    by_cases hx1 : 1 ≤ x
    · have := Rat.mul_le_mul_of_nonneg_left hx1 (show (0 : Rat) ≤ G by grind)
      grind
    · have := Rat.mul_le_mul_of_nonneg_left gj (show (0 : Rat) ≤ 1 - x by grind)
      have e : (1 - x) * (100 * J) = 100 * J - 100 * (x * J) := by grind
      rw [e] at this
      grind
  have m1 := Rat.mul_le_mul_of_nonneg_left er.1 (show (0 : Rat) ≤ G by grind)
  have m2 := Rat.mul_le_mul_of_nonneg_left er.2 (show (0 : Rat) ≤ G by grind)
  have m3 := Rat.mul_le_mul_of_nonneg_left x2 (show (0 : Rat) ≤ G by grind)
  refine Int.le_antisymm (h'.le' ?_) (h'.ge' ?_)
  · rw [eG]; grind
  · rw [eG]; grind
end Mine
end
section
open PySem PySem.Builtin PySem.Builtin.Str PySem.NumText
set_option Elab.async false
set_option maxRecDepth 100000
set_option exponentiation.threshold 2500
set_option linter.unusedSimpArgs false
namespace Mine

def mtPre : PS := .ite (.cmp .GtE (.loc 3) (.lit (.int 3)))
  (.seq (.asg 7 (.item (.lit (.str (PySem.Str.ofString "kMGTPEZYRQ"))) (.bin .Sub (.bin .FloorDiv (.loc 3) (.lit (.int 3))) (.lit (.int 1)))))
  (.skip))
  (.seq (.ite (.cmp .Lt (.loc 3) (.lit (.int 0)))
  (.seq (.asg 7 (.item (.lit (.str (PySem.Str.ofString "mμnpfazyrq"))) (.bin .FloorDiv (.bin .Sub (.neg (.loc 3)) (.lit (.int 1))) (.lit (.int 3)))))
  (.skip))
  (.seq (.asg 7 (.lit (.str (PySem.Str.ofString ""))))
  (.skip)))
  (.skip))
def mtTail : PS := .seq mtPre
  (.seq (.asg 8 (.call 19 (.cons (.fstr (.cons (.lit (.str (PySem.Str.ofString "%."))) (.cons (.fval (.loc 5)) (.cons (.lit (.str (PySem.Str.ofString "f"))) (.nil))))) (.cons (.loc 0) (.nil)))))
  (.seq (.ite (.bop .Or (.not_ (.bop .Or (.loc 1) (.loc 7))) (.cmp .In (.loc 1) (.tup (.cons (.lit (.str (PySem.Str.ofString "°"))) (.cons (.lit (.str (PySem.Str.ofString "′"))) (.cons (.lit (.str (PySem.Str.ofString "″"))) (.nil)))))))
  (.seq (.asg 9 (.lit (.str (PySem.Str.ofString ""))))
  (.skip))
  (.seq (.asg 9 (.lit (.str (PySem.Str.ofString " "))))
  (.skip)))
  (.seq (.ret (.fstr (.cons (.fval (.loc 8)) (.cons (.fval (.loc 9)) (.cons (.fval (.loc 7)) (.cons (.fval (.loc 1)) (.nil)))))))
  (.skip))))
def mtCar : PS := .ite (.bop .And (.cmp .Lt (.loc 3) (.lit (.int 30))) (.cmp .GtE (.call 18 (.cons (.call 19 (.cons (.fstr (.cons (.lit (.str (PySem.Str.ofString "%."))) (.cons (.fval (.loc 5)) (.cons (.lit (.str (PySem.Str.ofString "f"))) (.nil))))) (.cons (.meth (.loc 0) .size (.nil)) (.nil)))) (.nil))) (.bin .Pow (.lit (.int 10)) (.bin .Add (.bin .Mod (.loc 3) (.lit (.int 3))) (.lit (.int 1))))))
  (.seq (.aug 3 .Add (.lit (.int 1)))
  (.seq (.asg 6 (.bin .Mult (.bin .FloorDiv (.loc 3) (.lit (.int 3))) (.lit (.int 3))))
  (.seq (.aug 0 .Div (.bin .Pow (.lit (.int 10)) (.bin .Sub (.loc 6) (.loc 4))))
  (.seq (.asg 5 (.bi .int (.cons (.bi .max (.cons (.lit (.int 0)) (.cons (.bin .Sub (.bin .Sub (.loc 2) (.bin .Mod (.loc 3) (.lit (.int 3)))) (.lit (.int 1))) (.nil)))) (.nil))))
  (.skip)))))
  (.skip)
def mtQuo : PS := .asg 0 (.call 12 (.cons (.loc 0) (.cons (.ite (.cmp .GtE (.loc 4) (.lit (.int 0))) (.bin .Pow (.lit (.int 10)) (.loc 4)) (.mkd (.cons (.lit (.int 1)) (.cons (.bin .Pow (.lit (.int 10)) (.neg (.loc 4))) (.nil))))) (.nil))))
theorem mt_eq : cmetric = .seq (.ite (.not_ (.call 14 (.cons (.loc 0) (.nil))))
  (.seq (.ret (.call 27 (.cons (.loc 0) (.nil))))
  (.skip))
  (.skip))
  (.seq (.asg 3 (.ite (.bop .Or (.cmp .Gt (.loc 0) (.lit (.int 0))) (.cmp .Lt (.loc 0) (.lit (.int 0)))) (.item (.call 22 (.cons (.meth (.call 13 (.cons (.loc 0) (.nil))) .size (.nil)) (.cons (.lit (.int 14)) (.nil)))) (.lit (.int 1))) (.lit (.int 0))))
  (.seq (.ite (.bop .Or (.cmp .GtE (.loc 3) (.lit (.int 33))) (.cmp .Lt (.loc 3) (.neg (.lit (.int 30)))))
  (.seq (.ret (.bin .Add (.call 31 (.cons (.loc 0) (.cons (.bin .Sub (.loc 2) (.lit (.int 1))) (.nil)))) (.loc 1)))
  (.skip))
  (.skip))
  (.seq (.asg 4 (.bin .Mult (.bin .FloorDiv (.loc 3) (.lit (.int 3))) (.lit (.int 3))))
  (.seq mtQuo (.seq (.asg 5 (.bi .int (.cons (.bi .max (.cons (.lit (.int 0)) (.cons (.bin .Sub (.bin .Sub (.loc 2) (.bin .Mod (.loc 3) (.lit (.int 3)))) (.lit (.int 1))) (.nil)))) (.nil)))) (.seq mtCar mtTail)))))) := rfl

def bigs : List Nat := [107, 77, 71, 84, 80, 69, 90, 89, 82, 81]
def smalls : List Nat := [109, 956, 110, 112, 102, 97, 122, 121, 114, 113]
theorem l_big : Str.ofString "kMGTPEZYRQ" = S bigs := by rw [S_of]; rfl
theorem l_small : Str.ofString "mμnpfazyrq" = S smalls := by rw [S_of]; rfl
theorem l_deg : Str.ofString "°" = S [176] := by rw [S_of]; rfl
theorem l_min1 : Str.ofString "′" = S [8242] := by rw [S_of]; rfl
theorem l_min2 : Str.ofString "″" = S [8243] := by rw [S_of]; rfl
def pn (q : Int) : List Nat := if 0 < q then [bigs.getD (q - 1).toNat 0] else if q < 0 then [smalls.getD (-q - 1).toNat 0] else []

theorem ten_at {l : List Nat} {k : Nat} (hl : l.length = 10) (hk : k < 10) : ∃ c, l[k]? = some c := ⟨_, List.getElem?_eq_getElem (by omega)⟩
theorem item_str {l : List Nat} {z : Int} {c : Nat} {st : Store} (h0 : 0 ≤ z) (h : l[z.toNat]? = some c) (hl : l.length ≤ 4096) : itemP (.str (S l)) (.int z) st = some (.str (S [c])) := by
  have hlt : z.toNat < l.length := (List.getElem?_eq_some_iff.mp h).1
  have e : itemP (.str (S l)) (.int z) st = if 0 ≤ z ∧ z < (S l).length ∧ (S l).length ≤ slim then some (.str (Txt.item (S l) z)) else none := rfl
  rw [e, S_length, if_pos ⟨h0, by omega, hl⟩]
  have := item_at (l := l) (k := z.toNat) h
  rw [show ((z.toNat : Nat) : Int) = z by omega] at this
  rw [this]

section
variable {fuel m : Nat} {st : Store}

theorem mt_tail {e q n d z : Int} {g : Nat} {l : List Nat} {a2 a4 a6 : Option PVal} {cf : CF} (hq : e.fdiv 3 = q) (hq1 : -10 ≤ q) (hq2 : q ≤ 10) (h3 : 3 ≤ e ↔ 0 < q) (h0 : e < 0 ↔ q < 0) (hs : (-e - 1).fdiv 3 = -q - 1) (hz : z = (g : Int)) (hg : g ≤ 8)
    (hl : l.length ≤ 200) (h19 : cf 19 [.str (fmt g), .dbl n d] st = some (.str (S l), st)) :
    finP (ex fuel cf mtTail [some (.dbl n d), some (.str (S [86])), a2, some (.int e), a4, some (.int z), a6, none, none, none] st) = some (.str (S (l ++ 32 :: (pn q ++ [86]))), st) := by
  have hfm := fstr_fmt hg
  rw [← hz] at hfm
  have fg : fit z = true := fit_small (by omega)
  have hqq : S [37, 46, 48 + g, 102] = fmt g := rfl
  have f3 : fit 3 = true := fit_small (by decide)
  have hs1 : l.length ≤ 4096 ∧ l.length + 2 ≤ 4096 ∧ l.length + 3 ≤ 4096 ∧ l.length + (1 + 1) ≤ 4096 ∧ l.length + (1 + 1 + 1) ≤ 4096 := by omega
  unfold mtTail
  by_cases c1 : 3 ≤ e
  · have q0 := h3.mp c1
    obtain ⟨c, hc⟩ := ten_at (l := bigs) rfl (show (q - 1).toNat < 10 by omega)
    have hit := item_str (z := q - 1) (st := st) (by omega) hc (by decide)
    have hpn : pn q = [c] := by unfold pn; rw [if_pos q0, List.getD_eq_getElem?_getD, hc]; rfl
    rw [hpn]
    have hpre : ex fuel cf mtPre [some (.dbl n d), some (.str (S [86])), a2, some (.int e), a4, some (.int z), a6, none, none, none] st = some (.next, [some (.dbl n d), some (.str (S [86])), a2, some (.int e), a4, some (.int z), a6, some (.str (S [c])), none, none], st) := by
      unfold mtPre
      simp [ex, ev, binP, binI, cmpP, cmpI, lk, upd, truth, l_big, f3, c1, hq, hit]
    generalize mtPre = W at hpre ⊢
    simp [finP, ex, ev, evs, cmpP, fvalP, catStrs, strsOf, lk, upd, truth, slim, fg, hfm, l_pctdot, l_f, l_sp, l_nil, l_deg, l_min1, l_min2, s_empty, S_append, S_length, S_eq, S_beq, hqq, fmt_len, h19, hs1, hpre]
  · by_cases c2 : e < 0
    · have q0 := h0.mp c2
      obtain ⟨c, hc⟩ := ten_at (l := smalls) rfl (show (-q - 1).toNat < 10 by omega)
      have hit := item_str (z := -q - 1) (st := st) (by omega) hc (by decide)
      have hpn : pn q = [c] := by unfold pn; rw [if_neg (by omega), if_pos q0, List.getD_eq_getElem?_getD, hc]; rfl
      rw [hpn]
      have hpre : ex fuel cf mtPre [some (.dbl n d), some (.str (S [86])), a2, some (.int e), a4, some (.int z), a6, none, none, none] st = some (.next, [some (.dbl n d), some (.str (S [86])), a2, some (.int e), a4, some (.int z), a6, some (.str (S [c])), none, none], st) := by
        unfold mtPre
        simp [ex, ev, binP, binI, cmpP, cmpI, lk, upd, truth, l_small, f3, c1, c2, hs, hit]
      generalize mtPre = W at hpre ⊢
      simp [finP, ex, ev, evs, cmpP, fvalP, catStrs, strsOf, lk, upd, truth, slim, fg, hfm, l_pctdot, l_f, l_sp, l_nil, l_deg, l_min1, l_min2, s_empty, S_append, S_length, S_eq, S_beq, hqq, fmt_len, h19, hs1, hpre]
    · have hpn : pn q = [] := by unfold pn; rw [if_neg (fun h => c1 (h3.mpr h)), if_neg (fun h => c2 (h0.mpr h))]
      rw [hpn]
      have hpre : ex fuel cf mtPre [some (.dbl n d), some (.str (S [86])), a2, some (.int e), a4, some (.int z), a6, none, none, none] st = some (.next, [some (.dbl n d), some (.str (S [86])), a2, some (.int e), a4, some (.int z), a6, some (.str (S [])), none, none], st) := by
        unfold mtPre
        simp [ex, ev, cmpP, cmpI, lk, upd, truth, l_nil, c1, c2]
      generalize mtPre = W at hpre ⊢
      simp [finP, ex, ev, evs, cmpP, fvalP, catStrs, strsOf, lk, upd, truth, slim, fg, hfm, l_pctdot, l_f, l_sp, l_nil, l_deg, l_min1, l_min2, s_empty, S_append, S_length, S_eq, S_beq, hqq, fmt_len, h19, hs1, hpre]
end
end Mine
end
section
open PySem PySem.Builtin PySem.Builtin.Str PySem.NumText
set_option Elab.async false
set_option maxRecDepth 100000
set_option exponentiation.threshold 2500
set_option linter.unusedSimpArgs false
namespace Mine

theorem mul_i1 (x : Rat) : x * ((1 : Int) : Rat) = x := Rat.mul_one x
section
variable {fuel m : Nat} {st : Store}

theorem sp_quoI {N D pN pD z : Int} (hd : callP fuel code (m + 3) 13 [.int z] st = some (.dbl pN pD, st)) (f1 : fit N = true) (f2 : fit D = true) (f3 : fit pN = true) (f4 : fit pD = true)
    (h1 : 0 < N * pD) (h2 : 0 < D * pN) (b1 : N * pD < 2 ^ 600) (b2 : D * pN < 2 ^ 600) :
    callP fuel code (m + 5) 12 [.dbl N D, .int z] st = some (.dbl (nearN (N * pD) (D * pN)) (nearD (N * pD) (D * pN)), st) := by
  have h := sp_truediv (fuel := fuel) (m := m + 1) (st := st) hd f1 f2 f3 f4 h1 h2 b1 b2
  have h13 : callP fuel code (m + 4) 13 [.dbl N D] st = some (.dbl N D, st) := sp_double
  rw [call_eq (fd := ⟨2, 0, cquotient⟩) rfl rfl]
  unfold cquotient
  simp [finP, ex, ev, evs, binP, isNum, lk, isiP, truth, fDiv, h13, h]
theorem sp_quoD {N D pN pD : Int} (f1 : fit N = true) (f2 : fit D = true) (f3 : fit pN = true) (f4 : fit pD = true)
    (h1 : 0 < N * pD) (h2 : 0 < D * pN) (b1 : N * pD < 2 ^ 600) (b2 : D * pN < 2 ^ 600) :
    callP fuel code (m + 5) 12 [.dbl N D, .dbl pN pD] st = some (.dbl (nearN (N * pD) (D * pN)) (nearD (N * pD) (D * pN)), st) := by
  have hd : callP fuel code (m + 3) 13 [.dbl pN pD] st = some (.dbl pN pD, st) := sp_double
  have h := sp_truediv (fuel := fuel) (m := m + 1) (st := st) hd f1 f2 f3 f4 h1 h2 b1 b2
  have h13 : callP fuel code (m + 4) 13 [.dbl N D] st = some (.dbl N D, st) := sp_double
  rw [call_eq (fd := ⟨2, 0, cquotient⟩) rfl rfl]
  unfold cquotient
  simp [finP, ex, ev, evs, binP, isNum, lk, isiP, truth, fDiv, h13, h]

/-- a quotient of two doubles, by value -/
theorem div_db {N D pN pD : Int} {t P x : Rat} (hN : 0 < N) (hD : 0 < D) (bN : N < 2 ^ 230) (bD : D < 2 ^ 230) (ht : t * D = N) (hp : 0 < pN) (hq : 0 < pD) (bp : pN < 2 ^ 230) (bq : pD < 2 ^ 230) (hP : P * pD = pN) (hx : x * P = t)
    (lo : (2 : Rat) ^ (-150 : Int) ≤ x) (hi : x ≤ (2 : Rat) ^ (150 : Int)) :
    0 < N * pD ∧ 0 < D * pN ∧ N * pD < 2 ^ 600 ∧ D * pN < 2 ^ 600 ∧ ∃ v, IsNear x v ∧ DB (.dbl (nearN (N * pD) (D * pN)) (nearD (N * pD) (D * pN))) v := by
  have a := Int.mul_pos hN hq
  have b := Int.mul_pos hD hp
  have a2 : N * pD < 2 ^ 600 := mul_lt_2 (by omega) bN hq bq (by decide)
  have b2 : D * pN < 2 ^ 600 := mul_lt_2 (by omega) bD hp bp (by decide)
  refine ⟨a, b, a2, b2, near_db a b ?_ lo hi⟩
  rw [Rat.intCast_mul, Rat.intCast_mul, ← ht, ← hP, ← hx]
  grind

/-- the stage of the quotient -/
theorem mt_quo {N D b : Int} {t : Rat} {a1 a2 a3 a5 a6 a7 a8 a9 : Option PVal} (hN : 0 < N) (hD : 0 < D) (bN : N < 2 ^ 230) (bD : D < 2 ^ 230) (ht : t * D = N) (hb1 : -30 ≤ b) (hb2 : b ≤ 33)
    (lo : (10 : Rat) ^ b ≤ 2 * t) (hi : t ≤ 1000 * (10 : Rat) ^ b) :
    ∃ (vN vD : Int) (P x v : Rat), IsNear ((10 : Rat) ^ b) P ∧ x * P = t ∧ IsNear x v ∧ 0 < vN ∧ 0 < vD ∧ vN < 2 ^ 230 ∧ vD < 2 ^ 230 ∧ v * vD = vN ∧
      ex fuel (callP fuel code (m + 5)) mtQuo [some (.dbl N D), a1, a2, a3, some (.int b), a5, a6, a7, a8, a9] st = some (.next, [some (.dbl vN vD), a1, a2, a3, some (.int b), a5, a6, a7, a8, a9], st) := by
  have fN : fit N = true := fit_pow (Int.le_of_lt hN) bN (by decide)
  have fD : fit D = true := fit_pow (Int.le_of_lt hD) bD (by decide)
  have f10 := fit10'
  have f1 : fit 1 = true := fit_small (by decide)
  have y1 : (2 : Rat) ^ (-150 : Int) ≤ (10 : Rat) ^ (-30 : Int) := by decide +kernel
  have y2 : (10 : Rat) ^ (33 : Int) ≤ (2 : Rat) ^ (150 : Int) := by decide +kernel
  have l1 := Rat.le_trans y1 (zp_mono k1 hb1)
  have l2 := Rat.le_trans (zp_mono k1 hb2) y2
  -- what follows from the divisor
  have pB := zp_pos k0 b
  have key : ∀ (P : Rat), IsNear ((10 : Rat) ^ b) P → ∃ x, x * P = t ∧ (2 : Rat) ^ (-150 : Int) ≤ x ∧ x ≤ (2 : Rat) ^ (150 : Int) := by
    intro P hP
    have pP := hP.pos.2
    have er := hP.err
    have hx : t / P * P = t := Rat.div_mul_cancel (by grind)
    have w1 : (2 : Rat) ^ (-150 : Int) ≤ 1 / 4 := by decide +kernel
    have w2 : (2000 : Rat) ≤ (2 : Rat) ^ (150 : Int) := by decide +kernel
    refine ⟨t / P, hx, Rat.le_trans w1 ?_, Rat.le_trans ?_ w2⟩
    · refine Rat.le_of_mul_le_mul_left (c := P) ?_ pP
      have : P * (t / P) = t := by rw [Rat.mul_comm]; exact hx
      rw [this]; grind
    · refine Rat.le_of_mul_le_mul_left (c := P) ?_ pP
      have : P * (t / P) = t := by rw [Rat.mul_comm]; exact hx
      rw [this]; grind
  by_cases hb : 0 ≤ b
  · have p10 := pow10_pos b.toNat
    have b10 : (10 : Int) ^ b.toNat < 2 ^ 600 := by
      have h1 := pow10_le (show b.toNat ≤ 33 by omega)
      have h2 : (10 : Int) ^ 33 < 2 ^ 600 := by decide +kernel
      omega
    obtain ⟨P, hP, pN, pD, pe, hp, hq, bp, bq, hpv⟩ := near_db (n := 10 ^ b.toNat) (d := 1) (x := (10 : Rat) ^ b) p10 (by decide) (by rw [zp10i b hb]; exact mul_i1 _) l1 l2
    obtain ⟨x, hx, x1, x2⟩ := key P hP
    obtain ⟨c1, c2, c3, c4, v, hv, vN, vD, ve, v1, v2, v3, v4, v5⟩ := div_db hN hD bN bD ht hp hq bp bq hpv hx x1 x2
    injection pe with pa pb
    injection ve with va vb
    have hdbl := sp_double_int (fuel := fuel) (m := m) (st := st) p10 b10
    rw [pa, pb] at hdbl
    have hquo := sp_quoI (m := m) hdbl fN fD (fit_pow (by omega) bp (by decide)) (fit_pow (by omega) bq (by decide)) c1 c2 c3 c4
    rw [va, vb] at hquo
    refine ⟨vN, vD, P, x, v, hP, hx, hv, v1, v2, v3, v4, v5, ?_⟩
    have hb3 : b ≤ 2000 := by omega
    unfold mtQuo
    simp [ex, ev, evs, binP, binI, cmpP, cmpI, lk, upd, truth, hb, hb3, f10, hquo]
  · have p10 := pow10_pos (-b).toNat
    have b10 : (10 : Int) ^ (-b).toNat < 2 ^ 600 := by
      have h1 := pow10_le (show (-b).toNat ≤ 33 by omega)
      have h2 : (10 : Int) ^ 33 < 2 ^ 600 := by decide +kernel
      omega
    obtain ⟨P, hP, pN, pD, pe, hp, hq, bp, bq, hpv⟩ := near_db (n := 1) (d := 10 ^ (-b).toNat) (x := (10 : Rat) ^ b) (by decide) p10 (by rw [zp10i (-b) (by omega), zp_neg k0 b]; rfl) l1 l2
    obtain ⟨x, hx, x1, x2⟩ := key P hP
    obtain ⟨c1, c2, c3, c4, v, hv, vN, vD, ve, v1, v2, v3, v4, v5⟩ := div_db hN hD bN bD ht hp hq bp bq hpv hx x1 x2
    injection pe with pa pb
    injection ve with va vb
    have hnear := sp_near (fuel := fuel) (m := m + 3) (st := st) (n := 1) (d := 10 ^ (-b).toNat) (by decide) p10 (by decide) b10
    rw [pa, pb] at hnear
    have hquo := sp_quoD (fuel := fuel) (m := m) (st := st) fN fD (fit_pow (by omega) bp (by decide)) (fit_pow (by omega) bq (by decide)) c1 c2 c3 c4
    rw [va, vb] at hquo
    refine ⟨vN, vD, P, x, v, hP, hx, hv, v1, v2, v3, v4, v5, ?_⟩
    have hb3 : 0 ≤ -b ∧ -b ≤ 2000 ∧ b ≤ 0 := by omega
    have p0 : (10 : Int) ^ (-b).toNat ≠ 0 := by omega
    unfold mtQuo
    simp [ex, ev, evs, binP, binI, cmpP, cmpI, lk, upd, truth, hb, hb3, f10, fNear, p0, hnear, hquo]

/-- the stage of the carry: nothing is carried -/
theorem mt_nocar {vN vD sN sD rN rD e b z i : Int} {d : Nat} {B : Bool} {L : List Nat} {a1 a2 a6 a7 a8 a9 : Option PVal} {cf : CF} (hd : d ≤ 8) (hz : z = (d : Int)) (hi : e.fmod 3 = i) (hi0 : 0 ≤ i) (hi1 : i ≤ 2) (hL : L.length ≤ 200)
    (h4 : cf 4 [.dbl vN vD] st = some (.dbl sN sD, st)) (h19 : cf 19 [.str (fmt d), .dbl sN sD] st = some (.str (S L), st)) (h18 : cf 18 [.str (S L)] st = some (.dbl rN rD, st))
    (h9 : cf 9 [.dbl rN rD, .int (10 ^ (i + 1).toNat)] st = some (.bool B, st)) (hB : e < 30 → B = false) :
    ex fuel cf mtCar [some (.dbl vN vD), a1, a2, some (.int e), some (.int b), some (.int z), a6, a7, a8, a9] st = some (.next, [some (.dbl vN vD), a1, a2, some (.int e), some (.int b), some (.int z), a6, a7, a8, a9], st) := by
  have hfm := fstr_fmt hd
  rw [← hz] at hfm
  have fz : fit z = true := fit_small (by omega)
  have hqq : S [37, 46, 48 + d, 102] = fmt d := rfl
  have f3 : fit 3 = true := fit_small (by decide)
  have f10 := fit10'
  have r1 : 0 ≤ i + 1 ∧ i + 1 ≤ 2000 := by omega
  unfold mtCar
  by_cases he : e < 30
  · have hB' := hB he
    subst hB'
    simp [ex, ev, evs, binP, binI, cmpP, methP, cmpI, fvalP, catStrs, isNum, lk, upd, truth, slim, fSize, fGe, fz, hfm, l_pctdot, l_f, s_empty, S_append, S_length, hqq, fmt_len, f3, f10, hi, r1, he, h4, h19, h18, h9]
  · simp [ex, ev, cmpP, cmpI, lk, truth, he]

/-- the stage of the carry: one is carried -/
theorem mt_car {vN vD sN sD rN rD fN fD e b z i i' p q' w z' : Int} {d : Nat} {L : List Nat} {a1 a6 a7 a8 a9 : Option PVal} {cf : CF} (hd : d ≤ 8) (hz : z = (d : Int)) (hi : e.fmod 3 = i) (hi0 : 0 ≤ i) (hi1 : i ≤ 2) (hL : L.length ≤ 200)
    (h4 : cf 4 [.dbl vN vD] st = some (.dbl sN sD, st)) (h19 : cf 19 [.str (fmt d), .dbl sN sD] st = some (.str (S L), st)) (h18 : cf 18 [.str (S L)] st = some (.dbl rN rD, st))
    (h9 : cf 9 [.dbl rN rD, .int (10 ^ (i + 1).toNat)] st = some (.bool true, st)) (he : e < 30)
    (hq' : (e + 1).fdiv 3 = q') (hi' : (e + 1).fmod 3 = i') (fq : fit q' = true) (hw : q' * 3 - b = w) (hw0 : 0 ≤ w) (hw1 : w ≤ 3) (hz' : max 0 (p - i' - 1) = z')
    (h11 : cf 11 [.dbl vN vD, .int (10 ^ w.toNat)] st = some (.dbl fN fD, st)) :
    ex fuel cf mtCar [some (.dbl vN vD), a1, some (.int p), some (.int e), some (.int b), some (.int z), a6, a7, a8, a9] st = some (.next, [some (.dbl fN fD), a1, some (.int p), some (.int (e + 1)), some (.int b), some (.int z'), some (.int (q' * 3)), a7, a8, a9], st) := by
  have hfm := fstr_fmt hd
  rw [← hz] at hfm
  have fz : fit z = true := fit_small (by omega)
  have hqq : S [37, 46, 48 + d, 102] = fmt d := rfl
  have f3 : fit 3 = true := fit_small (by decide)
  have f10 := fit10'
  have r1 : 0 ≤ i + 1 ∧ i + 1 ≤ 2000 := by omega
  have r2 : w ≤ 2000 := by omega
  unfold mtCar
  simp [ex, ev, evs, biP, binP, binI, cmpP, methP, cmpI, fvalP, catStrs, isNum, augOk, lk, upd, truth, slim, fSize, fGe, fDiv, fz, hfm, l_pctdot, l_f, s_empty, S_append, S_length, hqq, fmt_len, f3, f10, fq, hi, r1, r2, he, h4, h19, h18, h9, hq', hi', hw, hw0, hz', h11]
end
end Mine
end
section
open PySem PySem.Builtin PySem.Builtin.Str PySem.NumText
set_option Elab.async false
set_option maxRecDepth 100000
set_option exponentiation.threshold 2500
set_option linter.unusedSimpArgs false
namespace Mine

section
variable {fuel m : Nat} {st : Store}

theorem mt_front {N D nN nD vN vD e q i p z : Int} {L : List Nat} {v : PVal} (hD : 0 < D)
    (h8 : callP fuel code (m + 5) 8 [.dbl N D, .int 0] st = some (.bool true, st))
    (h4 : callP fuel code (m + 5) 4 [.dbl N D] st = some (.dbl nN nD, st)) (h22 : callP fuel code (m + 5) 22 [.dbl nN nD, .int 14] st = some (.tup [.str (S L), .int e], st))
    (e1 : e < 33) (e2 : -30 ≤ e) (hq : e.fdiv 3 = q) (hi : e.fmod 3 = i) (hz : max 0 (p - i - 1) = z)
    (hquo : ex fuel (callP fuel code (m + 5)) mtQuo [some (.dbl N D), some (.str (S [86])), some (.int p), some (.int e), some (.int (q * 3)), none, none, none, none, none] st = some (.next, [some (.dbl vN vD), some (.str (S [86])), some (.int p), some (.int e), some (.int (q * 3)), none, none, none, none, none], st))
    (ht : finP (ex fuel (callP fuel code (m + 5)) (.seq mtCar mtTail) [some (.dbl vN vD), some (.str (S [86])), some (.int p), some (.int e), some (.int (q * 3)), some (.int z), none, none, none, none] st) = some (v, st)) :
    callP fuel code (m + 6) 32 [.dbl N D, .str (S [86]), .int p] st = some (v, st) := by
  have hfin := sp_finite (fuel := fuel) (m := m + 3) (st := st) (N := N) hD
  have h13 : callP fuel code (m + 5) 13 [.dbl N D] st = some (.dbl N D, st) := sp_double
  have f3 : fit 3 = true := fit_small (by decide)
  have hq2 := fd_le (x := e) (y := 3) (by decide)
  have hq3 := fdm (n := e) (d := 3) (by decide)
  have fq : fit q = true := fit_small (by omega)
  have c1 : ¬ 33 ≤ e := by omega
  have c2 : ¬ e < -30 := by omega
  rw [call_eq (fd := ⟨3, 7, cmetric⟩) rfl rfl]
  simp only [mt_eq]
  generalize PS.seq mtCar mtTail = W at ht ⊢
  generalize mtQuo = W2 at hquo ⊢
  simp [ex, ev, evs, biP, binP, binI, cmpP, cmpI, methP, itemP, itemL, isNum, lk, upd, truth, fGt, fSize, hfin, h8, h13, h4, h22, c1, c2, f3, fq, hq, hi, hz, hquo, ht]
end
end Mine
end
section
open PySem PySem.Builtin PySem.Builtin.Str PySem.NumText
set_option Elab.async false
set_option maxRecDepth 100000
set_option exponentiation.threshold 2500
set_option linter.unusedSimpArgs false
namespace Mine

theorem fdiv3 {e q : Int} {i : Nat} (h : e = 3 * q + i) (hi : i < 3) : e.fdiv 3 = q ∧ e.fmod 3 = i := by
  rw [Int.fdiv_eq_ediv_of_nonneg _ (by decide), Int.fmod_eq_emod_of_nonneg _ (by decide)]
  omega

/-- the double read back reaches the power: so did the text -/
theorem read_reach {x r : Rat} {R : Int} {d i : Nat} (hid : i + 1 + d ≤ 9) (hx : x * (10 : Rat) ^ (d : Int) = R) (h : IsNear x r) : (10 : Rat) ^ ((i + 1 : Nat) : Int) ≤ r ↔ (10 : Int) ^ (i + 1 + d) ≤ R := by
  have p := zp_pos k0 (d : Int)
  have e3 : (((10 : Int) ^ (i + 1 + d) : Int) : Rat) = (10 : Rat) ^ ((i + 1 : Nat) : Int) * (10 : Rat) ^ (d : Int) := by rw [zp10, ← zp_add k0]; congr 1
  constructor
  · intro hr
    have e := h.err.2
    have hp := pow10_le hid
    have e9 : (10 : Int) ^ 9 = 1000000000 := by decide
    apply Decidable.byContradiction
    intro hn
    have b := castle (show R ≤ 10 ^ (i + 1 + d) - 1 by omega)
    have b2 := castle (show (10 : Int) ^ (i + 1 + d) ≤ 1000000000 by omega)
    rw [Rat.intCast_sub, e3] at b
    rw [e3] at b2
    have e4 : ((1 : Int) : Rat) = 1 := rfl
    have e5 : ((1000000000 : Int) : Rat) = 1000000000 := rfl
    rw [e4, ← hx] at b
    rw [e5] at b2
    have a := Rat.mul_le_mul_of_nonneg_left hr (show (0 : Rat) ≤ (10 : Rat) ^ (d : Int) by grind)
    have a2 := Rat.mul_le_mul_of_nonneg_left e (show (0 : Rat) ≤ (10 : Rat) ^ (d : Int) by grind)
    clear e3 hp e9 hx h hr
    generalize (10 : Rat) ^ (d : Int) = P at a a2 b b2 p
    generalize (10 : Rat) ^ ((i + 1 : Nat) : Int) = K at a b b2
    have y : P * (9007199254740992 * (r - x)) = 9007199254740992 * (P * r) - 9007199254740992 * (x * P) := by grind
    rw [y] at a2
    have z : P * x = x * P := by grind
    rw [z] at a2
    clear y z e
    grind
  · intro hR
    have a := castle hR
    rw [e3, ← hx] at a
    have : (10 : Rat) ^ ((i + 1 : Nat) : Int) ≤ x := by
      refine Rat.le_of_mul_le_mul_left (c := (10 : Rat) ^ (d : Int)) ?_ p
      grind
    have hw : IsNear (((10 : Int) ^ (i + 1) : Int) : Rat) (((10 : Int) ^ (i + 1) : Int) : Rat) := near_whole (pow10_pos _) (by
      have := pow10_le (show i + 1 ≤ 9 by omega)
      have e9 : (10 : Int) ^ 9 = 1000000000 := by decide
      omega)
    rw [zp10] at hw
    exact hw.mono h this

section
variable {fuel m : Nat} {st : Store}

theorem mt_sci {N D nN nD e p G : Int} {L X : List Nat} (hD : 0 < D) (hX : X.length ≤ 400)
    (h8 : callP fuel code (m + 5) 8 [.dbl N D, .int 0] st = some (.bool true, st))
    (h4 : callP fuel code (m + 5) 4 [.dbl N D] st = some (.dbl nN nD, st)) (h22 : callP fuel code (m + 5) 22 [.dbl nN nD, .int 14] st = some (.tup [.str (S L), .int e], st))
    (e1 : 33 ≤ e) (hp : p - 1 = G) (h31 : callP fuel code (m + 5) 31 [.dbl N D, .int G] st = some (.str (S X), st)) :
    callP fuel code (m + 6) 32 [.dbl N D, .str (S [86]), .int p] st = some (.str (S (X ++ [86])), st) := by
  have hfin := sp_finite (fuel := fuel) (m := m + 3) (st := st) (N := N) hD
  have h13 : callP fuel code (m + 5) 13 [.dbl N D] st = some (.dbl N D, st) := sp_double
  have hs : X.length ≤ 4096 := by omega
  rw [call_eq (fd := ⟨3, 7, cmetric⟩) rfl rfl]
  simp only [mt_eq]
  generalize mtQuo = W2
  generalize PS.seq mtCar mtTail = W3
  simp [finP, ex, ev, evs, biP, binP, binI, cmpP, cmpI, methP, itemP, itemL, isNum, lk, upd, truth, slim, fGt, fSize, hfin, h8, h13, h4, h22, e1, hp, h31, S_length, S_append, hs]

/-- what metric says below the last prefix -/
structure MetSays (g : Nat) (t : Rat) (e q : Int) (i : Nat) (v : Rat) (R : Int) (qf : Int) (df Rf : Nat) (l : List Nat) : Prop where
  eq : e = 3 * q + i
  met : Met g t q i v R
  dec : IsDec l Rf df
  big : Rf < 10 ^ 50
  df8 : df ≤ 8
  q1 : -10 ≤ qf
  q2 : qf ≤ 10
  way : (Carry g e i R ∧ (Rf : Rat) * (10 : Rat) ^ (3 * qf - df) = (10 : Rat) ^ (e + 1) ∧ 3 * q - ((g - i : Nat) : Int) ≤ 3 * qf - df) ∨ (¬ Carry g e i R ∧ qf = q ∧ df = g - i ∧ (Rf : Int) = R)

set_option maxHeartbeats 1000000 in
theorem sp_metric {N D : Int} {t : Rat} {g : Nat} (hN : 0 < N) (hD : 0 < D) (bN : N < 2 ^ 230) (bD : D < 2 ^ 230) (ht : t * D = N) (hs : IsNear t t) (hr : Rng t) (hg : g ≤ 8) (hf : 700 < fuel) :
    ∃ e, E14 t e ∧ ((33 ≤ e ∧ ∀ X : List Nat, X.length ≤ 400 → callP fuel code (m + 5) 31 [.dbl N D, .int g] st = some (.str (S X), st) → callP fuel code (m + 6) 32 [.dbl N D, .str (S [86]), .int (g + 1)] st = some (.str (S (X ++ [86])), st)) ∨
      (e < 33 ∧ ∃ q i v R qf df Rf l, MetSays g t e q i v R qf df Rf l ∧ callP fuel code (m + 6) 32 [.dbl N D, .str (S [86]), .int (g + 1)] st = some (.str (S (l ++ 32 :: (pn qf ++ [86]))), st))) := by
  have w600 : (2 : Int) ^ 230 < 2 ^ 600 := pow_lt_pow (by decide)
  have fN : fit N = true := fit_pow (Int.le_of_lt hN) bN (by decide)
  have fD : fit D = true := fit_pow (Int.le_of_lt hD) bD (by decide)
  have f0 : fit 0 = true := fit_small (by decide)
  have f1 : fit 1 = true := fit_small (by decide)
  obtain ⟨u, hu, nN, nD, ne, n1, n2, n3, n4, n5⟩ := near_db hN hD ht hr.two.1 hr.two.2
  have eu := hs.idem hu
  rw [eu] at n5
  clear hu eu
  injection ne with na nb
  have h4 := sp_size (fuel := fuel) (m := m + 2) (st := st) hN hD (by omega) (by omega)
  rw [na, nb] at h4
  obtain ⟨W, e, k, L, T, W0, _, g2, g3, g4, g5, g6, g7, _, _, h22⟩ := sp_mant (fuel := fuel) (m := m + 1) (st := st) (g := 14) n1 n2 n3 n4 n5 hs hr (Nat.le_refl _) hf
  have hE : E14 t e := ⟨W, k, T, W0, g2, g3, g6, g7, g4, g5⟩
  have h8 := sp_gt (fuel := fuel) (m := m + 3) (st := st) (N := N) (D := D) (o := .int 0) sp_parts_int fN fD f0 f1
  rw [decide_eq_true (show 0 * D < N * 1 by omega)] at h8
  have h22' : callP fuel code (m + 5) 22 [.dbl nN nD, .int 14] st = some (.tup [.str (S L), .int e], st) := h22
  clear g2 g3 g6 g7 g4 g5 h22
  refine ⟨e, hE, ?_⟩
  by_cases he : 33 ≤ e
  · exact .inl ⟨he, fun X hX h31 => mt_sci hD hX h8 h4 h22' he (by omega) h31⟩
  right
  obtain ⟨q, i, hqi, hi3⟩ : ∃ (q : Int) (i : Nat), e = 3 * q + i ∧ i < 3 := ⟨e / 3, (e % 3).toNat, by omega, by omega⟩
  obtain ⟨fq, fi⟩ := fdiv3 hqi hi3
  obtain ⟨T', s', w', a1, a2, a3, a4, a5⟩ := hE.T
  have elo : -30 ≤ e := by
    have : (10 : Rat) ^ (-30 : Int) < (10 : Rat) ^ (e + 1) := Std.lt_of_le_of_lt hr.1 a4
    have := zp_of_lt k1 this
    omega
  refine ⟨by omega, ?_⟩
  -- the quotient
  have pe := zp_pos k0 e
  have lo : (10 : Rat) ^ (q * 3) ≤ 2 * t := by
    have := zp_mono k1 (show q * 3 ≤ e by omega)
    grind
  have hi : t ≤ 1000 * (10 : Rat) ^ (q * 3) := by
    have h1 := zp_mono k1 (show e + 1 ≤ 3 + q * 3 by omega)
    rw [zp_add k0 3 (q * 3)] at h1
    have h2 : (10 : Rat) ^ (3 : Int) = 1000 := by decide +kernel
    rw [h2] at h1
    grind
  obtain ⟨vN, vD, P, x, v, hP, hx, hv, v1, v2, v3, v4, v5, hquo⟩ := mt_quo (fuel := fuel) (m := m) (st := st) (b := q * 3) (a1 := some (.str (S [86]))) (a2 := some (.int (g + 1))) (a3 := some (.int e)) (a5 := none) (a6 := none) (a7 := none) (a8 := none) (a9 := none) hN hD bN bD ht (by omega) (by omega) lo hi
  have hvv := hv.self
  obtain ⟨R, hRr, hR⟩ := isR_nat (g := g - i) (Int.le_of_lt v1) v2 v5
  rw [Int.mul_comm] at hP
  have hmet : Met g t q i v R := ⟨hi3, by rw [← hqi]; exact hE, ⟨P, x, hP, hx, hv⟩, hR⟩
  obtain ⟨R1, R2⟩ := hmet.R_bounds hg
  obtain ⟨vb1, vb2⟩ := hmet.v_bounds
  have pI := zp_pos k0 (i : Int)
  have I1 : 1 ≤ (10 : Rat) ^ (i : Int) := by
    have := zp_mono k1 (show (0 : Int) ≤ (i : Int) by omega)
    rwa [Rat.zpow_zero] at this
  have I2 : (10 : Rat) ^ (i : Int) ≤ 100 := by
    have := zp_mono k1 (show (i : Int) ≤ 2 by omega)
    have e2 : (10 : Rat) ^ (2 : Int) = 100 := by decide +kernel
    rwa [e2] at this
  have vlo : 1 / 2 ≤ v := by grind
  have vhi : v ≤ 2000 := by grind
  have y1 : (2 : Rat) ^ (-150 : Int) ≤ 1 / 2 := by decide +kernel
  have y2 : (2000 : Rat) ≤ (2 : Rat) ^ (150 : Int) := by decide +kernel
  have y3 : (2000 : Rat) ≤ (10 : Rat) ^ (36 : Int) := by decide +kernel
  -- its size
  obtain ⟨us, hus, sN, sD, se, s1, s2, s3, s4, s5⟩ := near_db v1 v2 v5 (Rat.le_trans y1 vlo) (Rat.le_trans vhi y2)
  have eus := hvv.idem hus
  rw [eus] at s5
  injection se with sa sb
  have h4v := sp_size (fuel := fuel) (m := m + 2) (st := st) v1 v2 (by omega) (by omega)
  rw [sa, sb] at h4v
  have d8 : g - i ≤ 8 := by omega
  obtain ⟨Rs, _, hRs, hRs50, hdecs, hlaids⟩ := laid_v (fuel := fuel) (g := g - i) (Int.le_of_lt s1) s2 (by omega) (by omega) s5 (Rat.le_trans vhi y3) d8
  have ers : Rs = R := by have := hRs.unique hR; omega
  rw [ers] at hRs50 hdecs hlaids
  have h19s := hlaids (m + 3) st
  -- read back
  have pd := pow10_pos (g - i)
  have hR0 : 0 < R := by have := pow10_pos (i + (g - i)); omega
  have hR100 : R < 10 ^ 100 := Nat.lt_trans hRs50 (Nat.pow_lt_pow_right (by decide) (by decide))
  have hread := sp_read (fuel := fuel) (m := m + 2) (st := st) hdecs hR0 hR100 (by omega)
  have hx2 : ((R : Rat) * (10 : Rat) ^ (-((g - i : Nat) : Int))) * (10 : Rat) ^ ((g - i : Nat) : Int) = ((R : Int) : Rat) := by
    have n := zp_neg k0 ((g - i : Nat) : Int)
    rw [Rat.mul_assoc, Rat.mul_comm ((10 : Rat) ^ (-((g - i : Nat) : Int))), n, Rat.mul_one]; rfl
  have hx2' : ((R : Rat) * (10 : Rat) ^ (-((g - i : Nat) : Int))) * ((10 ^ (g - i) : Int) : Rat) = ((R : Int) : Rat) := by rw [zp10]; exact hx2
  have pgq := zp_pos k0 ((g - i : Nat) : Int)
  have lo2 : 1 / 2 ≤ (R : Rat) * (10 : Rat) ^ (-((g - i : Nat) : Int)) := by
    refine Rat.le_of_mul_le_mul_left (c := (10 : Rat) ^ ((g - i : Nat) : Int)) ?_ pgq
    have a := castle (show (10 : Int) ^ (g - i) ≤ R by have := pow10_le (show g - i ≤ i + (g - i) by omega); omega)
    rw [zp10, ← hx2] at a
    grind
  have hi2 : (R : Rat) * (10 : Rat) ^ (-((g - i : Nat) : Int)) ≤ 2000 := by
    refine Rat.le_of_mul_le_mul_left (c := (10 : Rat) ^ ((g - i : Nat) : Int)) ?_ pgq
    have a := castle (show (R : Int) ≤ 10 ^ (3 + (g - i)) by have := pow10_le (show i + 1 + (g - i) ≤ 3 + (g - i) by omega); omega)
    have e3 : (((10 : Int) ^ (3 + (g - i)) : Int) : Rat) = 1000 * (10 : Rat) ^ ((g - i : Nat) : Int) := by
      have : (1000 : Rat) = (10 : Rat) ^ (3 : Int) := by decide +kernel
      rw [zp10, this, ← zp_add k0]; congr 1
    rw [e3, ← hx2] at a
    grind
  obtain ⟨r, hrn, rN, rD, re, r1, r2, r3, r4, r5⟩ := near_db (n := (R : Int)) (d := 10 ^ (g - i)) (by omega) pd hx2' (Rat.le_trans y1 lo2) (Rat.le_trans hi2 y2)
  injection re with ra rb
  rw [ra, rb] at hread
  have frN : fit rN = true := fit_pow (by omega) r3 (by decide)
  have frD : fit rD = true := fit_pow (by omega) r4 (by decide)
  have fi1 := fit10 (a := i + 1) (by omega)
  have h9 := sp_ge (fuel := fuel) (m := m + 3) (st := st) (N := rN) (D := rD) (o := .int (10 ^ (i + 1))) sp_parts_int frN frD fi1 f1
  have reach : (10 ^ (i + 1) * rD ≤ rN * 1) ↔ (10 : Int) ^ (i + 1 + (g - i)) ≤ R := by
    rw [← read_reach (by omega) hx2 hrn, ← Rat.intCast_le_intCast, Rat.intCast_mul, Int.mul_one, ← r5, zp10]
    have d0 : (0 : Rat) < (rD : Rat) := castlt r2
    constructor
    · intro h
      refine Rat.le_of_mul_le_mul_left (c := (rD : Rat)) ?_ d0
      grind
    · intro h
      have := Rat.mul_le_mul_of_nonneg_left h (show (0 : Rat) ≤ (rD : Rat) by grind)
      grind
  have ei : ((i : Int) + 1).toNat = i + 1 := by omega
  have h9' : callP fuel code (m + 5) 9 [.dbl rN rD, .int (10 ^ ((i : Int) + 1).toNat)] st = some (.bool (decide (10 ^ (i + 1) * rD ≤ rN * 1)), st) := by rw [ei]; exact h9
  have hz : max 0 ((g : Int) + 1 - (i : Int) - 1) = ((g - i : Nat) : Int) := by omega
  by_cases hcar : Carry g e i R
  · -- one is carried
    obtain ⟨hc1, hc2⟩ := hcar
    rw [decide_eq_true (reach.mpr hc2)] at h9'
    obtain ⟨q', i', hqi', hi3', hcase⟩ : ∃ (q' : Int) (i' : Nat), e + 1 = 3 * q' + i' ∧ i' < 3 ∧ ((i < 2 ∧ q' = q ∧ i' = i + 1) ∨ (i = 2 ∧ q' = q + 1 ∧ i' = 0)) := by
      by_cases h : i < 2
      · exact ⟨q, i + 1, by omega, by omega, .inl ⟨h, rfl, rfl⟩⟩
      · exact ⟨q + 1, 0, by omega, by omega, .inr ⟨by omega, rfl, rfl⟩⟩
    obtain ⟨fq', fi'⟩ := fdiv3 hqi' hi3'
    obtain ⟨w, hw⟩ : ∃ w, q' * 3 - q * 3 = w := ⟨_, rfl⟩
    have hw0 : w = 0 ∨ w = 3 := by omega
    have pw10 := pow10_pos w.toNat
    have pw3 : (10 : Int) ^ w.toNat ≤ 1000 := pow10_le (show w.toNat ≤ 3 by omega)
    have hnw : IsNear (((10 : Int) ^ w.toNat : Int) : Rat) (((10 : Int) ^ w.toNat : Int) : Rat) := near_whole pw10 (by omega)
    have c1 := castle (show (1 : Int) ≤ 10 ^ w.toNat by omega)
    have c2 := castle pw3
    have one : ((1 : Int) : Rat) = 1 := rfl
    have thou : ((1000 : Int) : Rat) = 1000 := rfl
    rw [one] at c1
    rw [thou] at c2
    obtain ⟨o, ho, oN, oD, oe, o1, o2, o3, o4, o5⟩ := near_db (n := 10 ^ w.toNat) (d := 1) (x := (((10 : Int) ^ w.toNat : Int) : Rat)) pw10 (by decide) (mul_i1 _) (Rat.le_trans y1 (by grind)) (Rat.le_trans (show (((10 : Int) ^ w.toNat : Int) : Rat) ≤ 2000 by grind) y2)
    have eo := hnw.idem ho
    rw [eo] at o5
    injection oe with oa ob
    have hdi := sp_double_int (fuel := fuel) (m := m + 1) (st := st) (a := 10 ^ w.toNat) pw10 (by omega)
    rw [oa, ob] at hdi
    have hK : (0 : Rat) < (((10 : Int) ^ w.toNat : Int) : Rat) := by grind
    have hxx : v / (((10 : Int) ^ w.toNat : Int) : Rat) * (((10 : Int) ^ w.toNat : Int) : Rat) = v := Rat.div_mul_cancel (by grind)
    generalize v / (((10 : Int) ^ w.toNat : Int) : Rat) = x' at hxx
    have xlo : 1 / 4000 ≤ x' := by
      refine Rat.le_of_mul_le_mul_left (c := (((10 : Int) ^ w.toNat : Int) : Rat)) ?_ hK
      have : (((10 : Int) ^ w.toNat : Int) : Rat) * x' = v := by rw [Rat.mul_comm]; exact hxx
      rw [this]; grind
    have xhi : x' ≤ 2000 := by
      refine Rat.le_of_mul_le_mul_left (c := (((10 : Int) ^ w.toNat : Int) : Rat)) ?_ hK
      have : (((10 : Int) ^ w.toNat : Int) : Rat) * x' = v := by rw [Rat.mul_comm]; exact hxx
      rw [this]; grind
    have y4 : (2 : Rat) ^ (-150 : Int) ≤ 1 / 4000 := by decide +kernel
    obtain ⟨b1, b2, b3, b4, v', hv', fN', fD', fe, f1', f2', f3', f4', f5'⟩ := div_db v1 v2 v3 v4 v5 o1 o2 o3 o4 o5 hxx (Rat.le_trans y4 xlo) (Rat.le_trans xhi y2)
    injection fe with fa fb
    have h11 := sp_truediv (fuel := fuel) (m := m + 2) (st := st) hdi (fit_pow (by omega) v3 (by decide)) (fit_pow (by omega) v4 (by decide)) (fit_pow (by omega) o3 (by decide)) (fit_pow (by omega) o4 (by decide)) b1 b2 b3 b4
    rw [fa, fb] at h11
    have hvhi' : v' ≤ 2000 := by
      have hn2000 : IsNear 2000 2000 := near_whole (n := 2000) (by decide) (by decide)
      exact hv'.mono hn2000 xhi
    obtain ⟨Rf, _, hRf, hRf50, hdecf, hlaidf⟩ := laid_v (fuel := fuel) (g := g - i') (Int.le_of_lt f1') f2' (by omega) (by omega) f5' (Rat.le_trans hvhi' y3) (by omega)
    have hRfv : ((Rf : Nat) : Int) = 10 ^ (i' + (g - i')) := by
      rcases hcase with ⟨h2, hq2, rfl⟩ | ⟨rfl, hq2, rfl⟩
      · have w0 : w = 0 := by omega
        subst w0
        have ex' : x' = v := by
          have : (((10 : Int) ^ ((0 : Int)).toNat : Int) : Rat) = 1 := by decide +kernel
          rw [this] at hxx; grind
        rw [ex'] at hv'
        rw [hvv.idem hv'] at hRf
        exact hmet.carry_low hg h2 hc2 hRf
      · have w3 : w = 3 := by omega
        subst w3
        have : (((10 : Int) ^ ((3 : Int)).toNat : Int) : Rat) = 1000 := by decide +kernel
        rw [this] at hxx
        have := hmet.carry_high hg hc2 hxx hv' hRf
        rw [this]
        congr 1; omega
    have hz' : max 0 ((g : Int) + 1 - (i' : Int) - 1) = ((g - i' : Nat) : Int) := by omega
    have h19f := hlaidf (m + 3) st
    have hcarst := mt_car (fuel := fuel) (st := st) (cf := callP fuel code (m + 5)) (a1 := some (.str (S [86]))) (a6 := none) (a7 := none) (a8 := none) (a9 := none) (b := q * 3) (p := (g : Int) + 1) d8 rfl fi (by omega) (by omega) hdecs.len h4v h19s hread h9' hc1 fq' fi' (fit_small (by omega)) hw (by omega) (by omega) hz' h11
    refine ⟨q, i, v, R, q', g - i', Rf, _, ⟨hqi, hmet, hdecf, hRf50, by omega, by omega, by omega, .inl ⟨⟨hc1, hc2⟩, ?_, by omega⟩⟩, ?_⟩
    · have : (Rf : Rat) = (((Rf : Nat) : Int) : Rat) := rfl
      rw [this, hRfv, zp10, ← zp_add k0]
      congr 1; omega
    · refine mt_front hD h8 h4 h22' (by omega) elo fq fi hz hquo ?_
      have htail := mt_tail (fuel := fuel) (st := st) (cf := callP fuel code (m + 5)) (e := e + 1) (q := q') (n := fN') (d := fD') (z := ((g - i' : Nat) : Int)) (g := g - i') (l := dec Rf (g - i')) (a2 := some (.int ((g : Int) + 1))) (a4 := some (.int (q * 3))) (a6 := some (.int (q' * 3)))
        fq' (by omega) (by omega) (by omega) (by omega) (by rw [Int.fdiv_eq_ediv_of_nonneg _ (by decide)]; omega) rfl (by omega) hdecf.len h19f
      generalize mtTail = W4 at htail ⊢
      generalize mtCar = W5 at hcarst ⊢
      simp only [ex, hcarst]
      exact htail
  · -- nothing is carried
    obtain ⟨R3, _, hR3, hR350, hdec3, hlaid3⟩ := laid_v (fuel := fuel) (g := g - i) (Int.le_of_lt v1) v2 (by omega) (by omega) v5 (Rat.le_trans vhi y3) d8
    have er3 : R3 = R := by have := hR3.unique hR; omega
    rw [er3] at hdec3 hlaid3
    have h19v := hlaid3 (m + 3) st
    have hcarst := mt_nocar (fuel := fuel) (st := st) (cf := callP fuel code (m + 5)) (a1 := some (.str (S [86]))) (a2 := some (.int ((g : Int) + 1))) (a6 := none) (a7 := none) (a8 := none) (a9 := none) (b := q * 3) d8 rfl fi (by omega) (by omega) hdecs.len h4v h19s hread h9' (fun h30 => by
      refine decide_eq_false fun h => hcar ⟨h30, reach.mp h⟩)
    refine ⟨q, i, v, R, q, g - i, R, _, ⟨hqi, hmet, hdec3, hRs50, d8, by omega, by omega, .inr ⟨hcar, rfl, rfl, rfl⟩⟩, ?_⟩
    refine mt_front hD h8 h4 h22' (by omega) elo fq fi hz hquo ?_
    have htail := mt_tail (fuel := fuel) (st := st) (cf := callP fuel code (m + 5)) (e := e) (q := q) (n := vN) (d := vD) (z := ((g - i : Nat) : Int)) (g := g - i) (l := dec R (g - i)) (a2 := some (.int ((g : Int) + 1))) (a4 := some (.int (q * 3))) (a6 := none)
      fq (by omega) (by omega) (by omega) (by omega) (by rw [Int.fdiv_eq_ediv_of_nonneg _ (by decide)]; omega) rfl d8 hdec3.len h19v
    generalize mtTail = W4 at htail ⊢
    generalize mtCar = W5 at hcarst ⊢
    simp only [ex, hcarst]
    exact htail
end
end Mine
end
section
open PySem PySem.Builtin PySem.Builtin.Str PySem.NumText
set_option Elab.async false
set_option maxRecDepth 100000
set_option exponentiation.threshold 2500
set_option linter.unusedSimpArgs false
namespace Mine

theorem big_facts : ∀ k : Nat, k < 10 → Txt.find (S bigs) (S [bigs.getD k 0]) = (k : Int) ∧ Txt.contains (S bigs) (S [bigs.getD k 0]) = true ∧ bigs.getD k 0 ≠ 120 ∧ bigs.getD k 0 ≠ 32 := by decide +kernel
theorem small_facts : ∀ k : Nat, k < 10 → Txt.find (S smalls) (S [smalls.getD k 0]) = (k : Int) ∧ Txt.contains (S bigs) (S [smalls.getD k 0]) = false ∧ smalls.getD k 0 ≠ 120 ∧ smalls.getD k 0 ≠ 32 := by decide +kernel
theorem pn_free (q : Int) (h1 : -10 ≤ q) (h2 : q ≤ 10) : 120 ∉ pn q ∧ 32 ∉ pn q ∧ (pn q).length ≤ 1 := by
  unfold pn
  split
  · have := big_facts (q - 1).toNat (by omega)
    simp only [List.mem_singleton]
    exact ⟨fun h => this.2.2.1 h.symm, fun h => this.2.2.2 h.symm, by simp⟩
  · split
    · have := small_facts (-q - 1).toNat (by omega)
      simp only [List.mem_singleton]
      exact ⟨fun h => this.2.2.1 h.symm, fun h => this.2.2.2 h.symm, by simp⟩
    · simp

def t1E : PE := .ite (.cmp .Eq (.loc 7) (.lit (.str (PySem.Str.ofString "")))) (.lit (.int 0)) (.ite (.cmp .In (.loc 7) (.lit (.str (PySem.Str.ofString "kMGTPEZYRQ")))) (.bin .Add (.meth (.lit (.str (PySem.Str.ofString "kMGTPEZYRQ"))) .index (.cons (.loc 7) (.nil))) (.lit (.int 1))) (.bin .Sub (.bin .Sub (.lit (.int 0)) (.lit (.int 1))) (.meth (.lit (.str (PySem.Str.ofString "mμnpfazyrq"))) .index (.cons (.loc 7) (.nil)))))
theorem t1_eq : c_law_told = .seq (.ite (.cmp .Eq (.loc 0) (.lit (.int 0)))
  (.seq (.unp [3, 4, 5] (.call 35 (.cons (.call 31 (.cons (.loc 1) (.cons (.loc 2) (.nil)))) (.nil))))
  (.seq (.ret (.call 37 (.cons (.loc 3) (.cons (.loc 5) (.nil)))))
  (.skip)))
  (.skip))
  (.seq (.ite (.cmp .Eq (.loc 0) (.lit (.int 1)))
  (.seq (.asg 6 (.slice (.call 32 (.cons (.loc 1) (.cons (.lit (.str (PySem.Str.ofString "V"))) (.cons (.bin .Add (.loc 2) (.lit (.int 1))) (.nil))))) (.lit .none) (.neg (.lit (.int 1)))))
  (.seq (.ite (.cmp .In (.lit (.str (PySem.Str.ofString " x 10"))) (.loc 6))
  (.seq (.unp [3, 4, 5] (.call 35 (.cons (.loc 6) (.nil))))
  (.seq (.ret (.call 37 (.cons (.loc 3) (.cons (.loc 5) (.nil)))))
  (.skip)))
  (.skip))
  (.seq (.unp [3, 7] (.ite (.cmp .In (.lit (.str (PySem.Str.ofString " "))) (.loc 6)) (.meth (.loc 6) .split (.cons (.lit (.str (PySem.Str.ofString " "))) (.nil))) (.tup (.cons (.loc 6) (.cons (.lit (.str (PySem.Str.ofString ""))) (.nil))))))
  (.seq (.asg 8 t1E)
  (.seq (.ret (.call 37 (.cons (.loc 3) (.cons (.bin .Mult (.lit (.int 3)) (.loc 8)) (.nil)))))
  (.skip))))))
  (.skip))
  (.seq (.ite (.cmp .Eq (.loc 0) (.lit (.int 2)))
  (.seq (.unp [3, 9, 7] (.meth (.call 29 (.cons (.loc 1) (.cons (.fstr (.cons (.lit (.str (PySem.Str.ofString "%."))) (.cons (.fval (.loc 2)) (.cons (.lit (.str (PySem.Str.ofString "f"))) (.nil))))) (.nil)))) .partition (.cons (.lit (.str (PySem.Str.ofString " "))) (.nil))))
  (.seq (.ret (.call 37 (.cons (.loc 3) (.cons (.ite (.cmp .NotEq (.loc 7) (.lit (.str (PySem.Str.ofString "")))) (.bin .Mult (.lit (.int 3)) (.bin .Add (.meth (.call 36 (.nil)) .index (.cons (.loc 7) (.nil))) (.lit (.int 1)))) (.lit (.int 0))) (.nil)))))
  (.skip)))
  (.skip))
  (.seq (.ite (.cmp .Eq (.loc 0) (.lit (.int 3)))
  (.seq (.asg 6 (.call 30 (.cons (.loc 1) (.nil))))
  (.seq (.unp [10, 11, 12] (.ite (.bop .Or (.cmp .In (.lit (.str (PySem.Str.ofString " "))) (.loc 6)) (.cmp .NotIn (.lit (.str (PySem.Str.ofString "/"))) (.loc 6))) (.meth (.loc 6) .partition (.cons (.lit (.str (PySem.Str.ofString " "))) (.nil))) (.tup (.cons (.lit (.str (PySem.Str.ofString "0"))) (.cons (.lit (.str (PySem.Str.ofString ""))) (.cons (.loc 6) (.nil)))))))
  (.seq (.unp [13, 14, 15] (.meth (.ite (.cmp .NotEq (.loc 12) (.lit (.str (PySem.Str.ofString "")))) (.loc 12) (.lit (.str (PySem.Str.ofString "0/1")))) .partition (.cons (.lit (.str (PySem.Str.ofString "/"))) (.nil))))
  (.seq (.ret (.tup (.cons (.bin .Add (.bin .Mult (.bi .int (.cons (.loc 10) (.nil))) (.bi .int (.cons (.loc 15) (.nil)))) (.bi .int (.cons (.loc 13) (.nil)))) (.cons (.bi .int (.cons (.loc 15) (.nil))) (.cons (.lit (.int 1)) (.cons (.lit (.int 1000)) (.nil)))))))
  (.skip)))))
  (.skip))
  (.seq (.ret (.call 37 (.cons (.repl (.call 28 (.cons (.loc 1) (.cons (.loc 2) (.nil)))) (PySem.Str.ofString ",") (.lit (.sep (PySem.Str.ofString "")))) (.cons (.lit (.int 0)) (.nil)))))
  (.skip))))) := rfl

section
variable {fuel m : Nat} {st : Store}

theorem t1_three {q : Int} (q1 : -10 ≤ q) (q2 : q ≤ 10) {cf : CF} {r : Rho} (h : lk r 7 = some (.str (S (pn q)))) : ev cf t1E r st = some (.int q, st) := by
  unfold t1E
  by_cases c1 : 0 < q
  · have hpn : pn q = [bigs.getD (q - 1).toNat 0] := by unfold pn; rw [if_pos c1]
    obtain ⟨g1, g2, _, _⟩ := big_facts (q - 1).toNat (by omega)
    rw [hpn] at h
    generalize bigs.getD (q - 1).toNat 0 = c at h g1 g2
    obtain ⟨z, hz⟩ : ∃ z : Int, z = q - 1 := ⟨_, rfl⟩
    rw [show (((q - 1).toNat : Nat) : Int) = z by omega] at g1
    have z0 : 0 ≤ z := by omega
    have zq : z + 1 = q := by omega
    simp [ev, evs, binP, binI, cmpP, methP, truth, l_nil, l_big, S_eq, S_beq, h, g1, g2, z0, zq]
  · by_cases c2 : q < 0
    · have hpn : pn q = [smalls.getD (-q - 1).toNat 0] := by unfold pn; rw [if_neg c1, if_pos c2]
      obtain ⟨g1, g2, _, _⟩ := small_facts (-q - 1).toNat (by omega)
      rw [hpn] at h
      generalize smalls.getD (-q - 1).toNat 0 = c at h g1 g2
      obtain ⟨z, hz⟩ : ∃ z : Int, z = -q - 1 := ⟨_, rfl⟩
      rw [show (((-q - 1).toNat : Nat) : Int) = z by omega] at g1
      have z0 : 0 ≤ z := by omega
      have zq : -1 - z = q := by omega
      simp [ev, evs, binP, binI, cmpP, methP, truth, l_nil, l_big, l_small, S_eq, S_beq, h, g1, g2, z0, zq]
    · have : q = 0 := by omega
      subst this
      have hpn : pn 0 = [] := rfl
      rw [hpn] at h
      simp [ev, cmpP, truth, l_nil, S_eq, S_beq, h]

/-- the law's reading of metric's words, below the last prefix -/
theorem told1_met {N D q : Int} {g : Nat} {l : List Nat} {v : PVal} (hl : l.length ≤ 200) (hx : 120 ∉ l) (hb : 32 ∉ l) (q1 : -10 ≤ q) (q2 : q ≤ 10)
    (h32 : callP fuel code (m + 6) 32 [.dbl N D, .str (S [86]), .int (g + 1)] st = some (.str (S (l ++ 32 :: (pn q ++ [86]))), st))
    (h37 : callP fuel code (m + 6) 37 [.str (S l), .int (3 * q)] st = some (v, st)) :
    callP fuel code (m + 7) 38 [.int 1, .dbl N D, .int g] st = some (v, st) := by
  obtain ⟨p1, p2, p3⟩ := pn_free q q1 q2
  have e : l ++ 32 :: (pn q ++ [86]) = (l ++ 32 :: pn q) ++ [86] := by simp
  have hsl : Txt.slice (S (l ++ 32 :: (pn q ++ [86]))) none (some (-1)) = S (l ++ 32 :: pn q) := by
    have := slice_to_neg (l := l ++ 32 :: (pn q ++ [86])) (j := 1) (by decide) (by simp; omega)
    rw [show (-((1 : Nat) : Int)) = -1 by rfl] at this
    rw [this, e]
    congr 1
    have hl : ((l ++ 32 :: pn q) ++ [86]).length - 1 = (l ++ 32 :: pn q).length := by simp
    rw [hl, List.take_left]
  have hno : Txt.contains (S (l ++ 32 :: pn q)) (S [32, 120, 32, 49, 48]) = false := has_no (x := 120) (by simp) (by simp [hx, p1])
  have hyes : Txt.contains (S (l ++ 32 :: pn q)) (S [32]) = true := by rw [has_one]; simp
  have hsp : Txt.split (S (l ++ 32 :: pn q)) (S [32]) = [S l, S (pn q)] := by
    have := split_at (a := l) (b := pn q) (q := []) (q' := []) (x := 32) hb p2 (by simp) (by simp)
    simpa using this
  have hs1 : (l ++ 32 :: pn q).length ≤ 4096 := by simp; omega
  have hs2 : (l ++ 32 :: (pn q ++ [86])).length ≤ 4096 := by simp; omega
  have f3 : fit 3 = true := fit_small (by decide)
  have fq : fit q = true := fit_small (by omega)
  have l_V : Str.ofString "V" = S [86] := by rw [S_of]; rfl
  have h3 := t1_three (st := st) q1 q2 (cf := callP fuel code (m + 6)) (r := [some (.int 1), some (.dbl N D), some (.int (g : Int)), some (.str (S l)), none, none, some (.str (S (l ++ 32 :: pn q))), some (.str (S (pn q))), none, none, none, none, none, none, none, none]) rfl
  generalize l ++ 32 :: (pn q ++ [86]) = L1 at h32 hsl hs2
  generalize l ++ 32 :: pn q = L2 at hsl hno hyes hsp hs1 h3
  generalize pn q = L3 at hsp h3
  rw [call_eq (fd := ⟨3, 13, c_law_told⟩) rfl rfl]
  simp only [t1_eq]
  generalize t1E = W at h3 ⊢
  simp [finP, ex, ev, evs, binP, binI, cmpP, cmpI, methP, sliceP, optI, lk, upd, upds, truth, slim, beqD, S_eq, S_beq, S_length, l_V, l_x10, l_sp, hs1, hs2, h32, hsl, hno, hyes, hsp, h3, f3, fq, h37]

theorem told1_sci {N D e g' : Int} {g : Nat} {l X : List Nat} {v : PVal} (hX : X.length ≤ 400) (hc : Txt.contains (S X) (S [32, 120, 32, 49, 48]) = true)
    (h32 : callP fuel code (m + 6) 32 [.dbl N D, .str (S [86]), .int (g + 1)] st = some (.str (S (X ++ [86])), st))
    (h35 : callP fuel code (m + 6) 35 [.str (S X)] st = some (.tup [.str (S l), .int g', .int e], st))
    (h37 : callP fuel code (m + 6) 37 [.str (S l), .int e] st = some (v, st)) :
    callP fuel code (m + 7) 38 [.int 1, .dbl N D, .int g] st = some (v, st) := by
  have hsl : Txt.slice (S (X ++ [86])) none (some (-1)) = S X := by
    have := slice_to_neg (l := X ++ [86]) (j := 1) (by decide) (by simp)
    rw [show (-((1 : Nat) : Int)) = -1 by rfl] at this
    rw [this]
    congr 1
    have hl : (X ++ [86]).length - 1 = X.length := by simp
    rw [hl, List.take_left]
  have hs1 : X.length ≤ 4096 := by omega
  have hs2 : (X ++ [86]).length ≤ 4096 := by simp; omega
  have l_V : Str.ofString "V" = S [86] := by rw [S_of]; rfl
  generalize X ++ [86] = L1 at h32 hsl hs2
  rw [call_eq (fd := ⟨3, 13, c_law_told⟩) rfl rfl]
  simp only [t1_eq]
  generalize t1E = W
  simp [finP, ex, ev, evs, binP, binI, cmpP, cmpI, sliceP, optI, lk, upd, upds, truth, slim, beqD, S_length, l_V, l_x10, l_sp, hs1, hs2, h32, hsl, hc, h35, h37]

theorem told1 {N D : Int} {t : Rat} {g : Nat} (hN : 0 < N) (hD : 0 < D) (bN : N < 2 ^ 230) (bD : D < 2 ^ 230) (ht : t * D = N) (hs : IsNear t t) (hr : Rng t) (hg : g ≤ 8) (hf : 700 < fuel) :
    ∃ T v, Way1 g t T ∧ ToldOk 0 t T v ∧ callP fuel code (m + 7) 38 [.int 1, .dbl N D, .int g] st = some (v, st) := by
  obtain ⟨e, hE, hcase⟩ := sp_metric (m := m) (st := st) hN hD bN bD ht hs hr hg hf
  rcases hcase with ⟨he, h32⟩ | ⟨he, q, i, v, R, qf, df, Rf, l, hm, h32⟩
  · obtain ⟨l, e', T, v, hl, hx, e1, e2, hw, hv, h31, h35, h37⟩ := sci_told (m := m) (st := st) hN hD bN bD ht hs hr hg hf
    have hpl := pw_len (i := e') (by omega)
    have hX : (l ++ [32, 120, 32, 49, 48] ++ (pw e').map supOf).length ≤ 400 := by simp; omega
    have hc : Txt.contains (S (l ++ [32, 120, 32, 49, 48] ++ (pw e').map supOf)) (S [32, 120, 32, 49, 48]) = true :=
      has_pat (a := l) (b := (pw e').map supOf) (q := [32]) (q' := [32, 49, 48]) (x := 120) hx (fun hm => by
        obtain ⟨c, hc, ec⟩ := List.mem_map.mp hm
        have := sup_big (pw_signs e' c hc)
        omega) (by decide) (by decide)
    exact ⟨T, v, ⟨e, hE, .inl ⟨he, hw⟩⟩, hv, told1_sci hX hc (h32 _ hX h31) (h35 (m + 5)) (h37 (m + 5))⟩
  · have h37 := sp_decimal (fuel := fuel) (m := m + 5) (st := st) (ten := 3 * qf) hm.dec (by have := hm.q1; have := hm.q2; omega)
    have htold := told1_met (m := m) hm.dec.len (hm.dec.free (by decide)) (hm.dec.free (by decide)) hm.q1 hm.q2 h32 h37
    have hmet := hm.met
    have z0 : ((0 : Int) : Rat) = 0 := rfl
    have hq : (3 * qf).natAbs ≤ 40 := by have := hm.q1; have := hm.q2; omega
    have hd := hm.df8
    rcases hm.way with ⟨hc, hRf, hU⟩ | ⟨hc, rfl, rfl, hRf⟩
    · have hfar := hmet.far_carry hg hc.2 (zp_mono k1 hU)
      rw [← hm.eq] at hfar
      refine ⟨_, _, ⟨e, hE, .inr ⟨he, q, i, v, R, hm.eq, hmet, .inl ⟨hc, rfl⟩⟩⟩, dec_told (cut := 0) (ten := 3 * qf) (g := df) (R := Rf) hm.big (by omega) hq hRf.symm ?_ ?_, htold⟩
      · rw [z0]; have := hfar.1; grind
      · rw [z0]; have := hfar.2; grind
    · have hfar := hmet.far hg
      refine ⟨_, _, ⟨e, hE, .inr ⟨he, qf, i, v, R, hm.eq, hmet, .inr ⟨hc, rfl⟩⟩⟩, dec_told (cut := 0) (ten := 3 * qf) (g := g - i) (R := Rf) hm.big (by omega) hq ?_ ?_ ?_, htold⟩
      · unfold metT; rw [← hRf]; rfl
      · rw [z0]; have := hfar.1; grind
      · rw [z0]; have := hfar.2; grind
end
end Mine
end
section
open PySem PySem.Builtin PySem.Builtin.Str PySem.NumText
set_option Elab.async false
set_option maxRecDepth 100000
set_option exponentiation.threshold 2500
set_option linter.unusedSimpArgs false
namespace Mine

theorem for_upto {i K : Nat} {body : Rho → Store → Option (Fl × Rho × Store)} (I : Nat → Rho → Store → Prop)
    (step : ∀ k r st, k < K → I k r st → ∃ r2 st2, body (upd r i (.int k)) st = some (.next, r2, st2) ∧ I (k + 1) r2 st2) :
    ∀ (n k : Nat) (r : Rho) (st : Store), k + n = K → I k r st → ∃ r' st', forP i body n k r st = some (.next, r', st') ∧ I K r' st' := by
  intro n
  induction n with
  | zero => intro k r st hk h; exact ⟨r, st, rfl, by rw [← hk]; exact h⟩
  | succ n ih =>
    intro k r st hk h
    obtain ⟨r2, st2, hb, hI⟩ := step k r st (by omega) h
    obtain ⟨r', st', e, hD⟩ := ih (k + 1) r2 st2 (by omega) hI
    refine ⟨r', st', ?_, hD⟩
    unfold forP
    rw [hb]
    exact e

/-- the cell of the law's own state -/
def CellOk (st : Store) : Prop := ∃ (ns : List Int) (i s : Int), st[0]? = some [.lst (ns.map .int), .int i, .int s] ∧ ns.length ≤ 63 ∧ 0 ≤ i ∧ i ≤ 63 ∧ 0 ≤ s ∧ s < 2147483647

theorem fmod_range {a b : Int} (hb : 0 < b) : 0 ≤ a.fmod b ∧ a.fmod b < b := ⟨(fdm hb).2.1, (fdm hb).2.2⟩

section
variable {fuel m : Nat} {st : Store}

theorem CellOk.push (h : CellOk st) (x : List PVal) : CellOk (st ++ [x]) := by
  obtain ⟨ns, i, s, h1, h2⟩ := h
  refine ⟨ns, i, s, ?_, h2⟩
  have hlt : 0 < st.length := (List.getElem?_eq_some_iff.mp h1).1
  rw [List.getElem?_append_left hlt]
  exact h1

theorem sp_next {many : Int} (hm : 0 < many) (h : CellOk st) : ∃ v st', callP fuel code (m + 1) 33 [.cell 0, .int many] st = some (.int v, st') ∧ 0 ≤ v ∧ v < many ∧ CellOk st' := by
  obtain ⟨ns, i, s, h1, h2, h3, h4, h5, h6⟩ := h
  have hlt0 : 0 < st.length := (List.getElem?_eq_some_iff.mp h1).1
  have hm0 : many ≠ 0 := by omega
  have hlen : (ns.map PVal.int).length ≤ 4096 := by simp; omega
  have hlen2 : ns.length ≤ 4096 := by omega
  have fs : fit s = true := fit_small (by omega)
  have f31 : fit 31 = true := fit_small (by decide)
  have f48 : fit 48271 = true := fit_small (by decide)
  have f7 : fit 7 = true := fit_small (by decide)
  by_cases hlt : i < ns.length
  · obtain ⟨x, hx⟩ : ∃ x, ns[i.toNat]? = some x := ⟨_, List.getElem?_eq_getElem (by omega)⟩
    have hit : itemL (ns.map .int) i = some (.int x) := by
      unfold itemL
      rw [if_pos ⟨h3, by omega⟩, List.getElem?_map, hx]; rfl
    obtain ⟨f, hf⟩ : ∃ f : Int, (x.natAbs : Int) = f := ⟨_, rfl⟩
    obtain ⟨s1, s2⟩ := fmod_range (a := s * 31 + f) (b := 2147483647) (by decide)
    obtain ⟨v1, v2⟩ := fmod_range (a := f) hm
    refine ⟨f.fmod many, (st.set 0 [.lst (ns.map .int), .int (i + 1), .int s]).set 0 [.lst (ns.map .int), .int (i + 1), .int ((s * 31 + f).fmod 2147483647)], ?_, v1, v2, ns, i + 1, (s * 31 + f).fmod 2147483647, ?_, h2, by omega, by omega, s1, s2⟩
    · rw [call_eq (fd := ⟨2, 1, c_law_next⟩) rfl rfl]
      unfold c_law_next
      have hl1 : (st.set 0 [.lst (ns.map .int), .int (i + 1), .int s])[0]? = some [.lst (ns.map .int), .int (i + 1), .int s] := by
        rw [List.getElem?_set_self hlt0]
      generalize hst1 : st.set 0 [.lst (ns.map .int), .int (i + 1), .int s] = st1 at hl1
      generalize hns : ns.map PVal.int = nl at *
      have hnl : nl.length = ns.length := by rw [← hns]; simp
      have z0 : itemL [.lst nl, .int i, .int s] 0 = some (.lst nl) := rfl
      have z1 : itemL [.lst nl, .int i, .int s] 1 = some (.int i) := rfl
      have z2 : itemL [.lst nl, .int (i + 1), .int s] 2 = some (.int s) := rfl
      simp [finP, ex, ev, evs, biP, binP, binI, cmpP, cmpI, itemP, lk, upd, truth, slim, h1, z0, z1, z2, hit, hlen, hlen2, hnl, hlt, hf, hl1, hst1, fs, f31, hm0]
    · rw [List.getElem?_set_self (by simp; exact hlt0)]
  · obtain ⟨s1, s2⟩ := fmod_range (a := s * 48271 + 11) (b := 2147483647) (by decide)
    generalize hS : (s * 48271 + 11).fmod 2147483647 = S1 at s1 s2
    obtain ⟨v1, v2⟩ := fmod_range (a := S1.fdiv 7) hm
    refine ⟨(S1.fdiv 7).fmod many, st.set 0 [.lst (ns.map .int), .int i, .int S1], ?_, v1, v2, ns, i, S1, ?_, h2, h3, h4, s1, s2⟩
    · rw [call_eq (fd := ⟨2, 1, c_law_next⟩) rfl rfl]
      unfold c_law_next
      have hl1 : (st.set 0 [.lst (ns.map .int), .int i, .int S1])[0]? = some [.lst (ns.map .int), .int i, .int S1] := by
        rw [List.getElem?_set_self hlt0]
      generalize hst1 : st.set 0 [.lst (ns.map .int), .int i, .int S1] = st1 at hl1
      generalize hns : ns.map PVal.int = nl at *
      have hnl : nl.length = ns.length := by rw [← hns]; simp
      have z0 : itemL [.lst nl, .int i, .int s] 0 = some (.lst nl) := rfl
      have z1 : itemL [.lst nl, .int i, .int s] 1 = some (.int i) := rfl
      have z2 : itemL [.lst nl, .int i, .int s] 2 = some (.int s) := rfl
      have z3 : itemL [.lst nl, .int i, .int S1] 2 = some (.int S1) := rfl
      simp [finP, ex, ev, evs, biP, binP, binI, cmpP, cmpI, itemP, lk, upd, truth, slim, h1, z0, z1, z2, z3, hlen, hlen2, hnl, hlt, hl1, hst1, fs, f48, f7, hS, hm0]
    · rw [List.getElem?_set_self hlt0]
end
end Mine
end
section
open PySem PySem.Builtin PySem.Builtin.Str PySem.NumText
set_option Elab.async false
set_option maxRecDepth 100000
set_option exponentiation.threshold 2500
set_option linter.unusedSimpArgs false
namespace Mine

def in1 : PS := .unp [12, 13, 14, 15] (.call 38 (.cons (.loc 11) (.cons (.loc 9) (.cons (.loc 7) (.nil)))))
def in2 : PS := .asg 16 (.ite (.cmp .Eq (.loc 11) (.lit (.int 2))) (.lit (.int 1)) (.lit (.int 0)))
def in3 : PS := .asg 17 (.bin .Mult (.lit (.int 20000)) (.bi .abs (.cons (.bin .Sub (.bin .Mult (.item (.loc 10) (.lit (.int 0))) (.loc 13)) (.bin .Mult (.loc 12) (.item (.loc 10) (.lit (.int 1))))) (.nil))))
def in4 : PS := .ite (.cmp .Gt (.loc 17) (.bin .FloorDiv (.bin .Mult (.bin .Mult (.bin .Add (.bin .Mult (.lit (.int 10001)) (.loc 14)) (.bin .Mult (.bin .Mult (.lit (.int 20001)) (.loc 16)) (.loc 15))) (.loc 13)) (.item (.loc 10) (.lit (.int 1)))) (.loc 15)))
  (.seq (.ret (.lit (.bool false)))
  (.skip))
  (.skip)
def in5 : PS := .ite (.bop .And (.cmp .Gt (.bi .len (.cons (.loc 8) (.nil))) (.loc 11)) (.cmp .Lt (.bin .Mult (.loc 12) (.item (.item (.loc 8) (.loc 11)) (.lit (.int 1)))) (.bin .Mult (.item (.item (.loc 8) (.loc 11)) (.lit (.int 0))) (.loc 13))))
  (.seq (.ret (.lit (.bool false)))
  (.skip))
  (.skip)
def in6 : PS := .asg 8 (.bin .Add (.bin .Add (.slice (.loc 8) (.lit .none) (.loc 11)) (.lst (.cons (.tup (.cons (.loc 12) (.cons (.loc 13) (.nil)))) (.nil)))) (.slice (.loc 8) (.bin .Add (.loc 11) (.lit (.int 1))) (.lit .none)))
def inB : PS := .seq in1 (.seq in2 (.seq in3 (.seq in4 (.seq in5 (.seq in6 .skip)))))
def ou1 : PS := .swp [9, 10] (.cons (.mkd (.cons (.loc 2) (.cons (.loc 3) (.nil)))) (.cons (.call 34 (.cons (.loc 2) (.cons (.loc 3) (.nil)))) (.nil)))
def ou3 : PS := .asg 18 (.bin .Pow (.lit (.int 10)) (.call 33 (.cons (.loc 1) (.cons (.lit (.int 17)) (.nil)))))
def ou4 : PS := .swp [2, 3] (.cons (.bin .Add (.bin .Add (.bin .Mult (.loc 2) (.loc 18)) (.bin .FloorDiv (.bin .Mult (.call 33 (.cons (.loc 1) (.cons (.lit (.int 1000)) (.nil)))) (.loc 2)) (.lit (.int 1000000)))) (.call 33 (.cons (.loc 1) (.cons (.lit (.int 3)) (.nil))))) (.cons (.bin .Mult (.loc 3) (.loc 18)) (.nil)))
def ouB : PS := .seq ou1 (.seq (.forr 11 (.lit (.int 5)) inB) (.seq ou3 (.seq ou4 .skip)))
def lw0 : PS := .newc 1 (.cons (.slice (.loc 0) (.lit .none) (.lit (.int 70))) (.cons (.lit (.int 0)) (.cons (.lit (.int 17)) (.nil))))
def lw1 : PS := .swp [2, 3] (.cons (.bin .Add (.lit (.int 1)) (.call 33 (.cons (.loc 1) (.cons (.lit (.int 9)) (.nil))))) (.cons (.item (.lst (.cons (.lit (.int 1)) (.cons (.lit (.int 3)) (.cons (.lit (.int 7)) (.cons (.lit (.int 8)) (.cons (.lit (.int 1000)) (.cons (.lit (.int 999999999989)) (.cons (.lit (.int 1099511627776)) (.nil))))))))) (.call 33 (.cons (.loc 1) (.cons (.lit (.int 7)) (.nil))))) (.nil)))
def lw3 : PS := .swp [5, 6, 7] (.cons (.call 33 (.cons (.loc 1) (.cons (.lit (.int 3)) (.nil)))) (.cons (.bin .Sub (.call 33 (.cons (.loc 1) (.cons (.lit (.int 29)) (.nil)))) (.lit (.int 14))) (.cons (.call 33 (.cons (.loc 1) (.cons (.lit (.int 9)) (.nil)))) (.nil))))
def lw4 : PS := .ite (.cmp .Eq (.loc 5) (.lit (.int 2)))
  (.seq (.swp [2, 3] (.cons (.bin .Sub (.bin .Sub (.bin .Pow (.lit (.int 10)) (.bin .Add (.lit (.int 6)) (.call 33 (.cons (.loc 1) (.cons (.lit (.int 10)) (.nil)))))) (.lit (.int 1))) (.call 33 (.cons (.loc 1) (.cons (.lit (.int 60)) (.nil))))) (.cons (.bin .Pow (.lit (.int 10)) (.call 33 (.cons (.loc 1) (.cons (.lit (.int 12)) (.nil))))) (.nil))))
  (.skip))
  (.skip)
def lw5 : PS := .swp [2, 3, 8] (.cons (.bin .Mult (.loc 2) (.bin .Pow (.lit (.int 10)) (.bi .max (.cons (.loc 6) (.cons (.lit (.int 0)) (.nil)))))) (.cons (.bin .Mult (.loc 3) (.bin .Pow (.lit (.int 10)) (.bi .max (.cons (.bin .Sub (.lit (.int 0)) (.loc 6)) (.cons (.lit (.int 0)) (.nil)))))) (.cons (.lst (.nil)) (.nil))))
def lwF : PS := .seq (.asg 2 (.bin .Add (.bin .Mult (.loc 2) (.lit (.int 10))) (.call 33 (.cons (.loc 1) (.cons (.lit (.int 10)) (.nil))))))
  (.skip)
def lw2 : PS := .forr 4 (.call 33 (.cons (.loc 1) (.cons (.lit (.int 21)) (.nil)))) lwF
def lw6 : PS := .forr 4 (.lit (.int 4)) ouB
def lw7 : PS := .seq (.ret (.lit (.bool true))) .skip
theorem law_eq : claw = .seq lw0 (.seq lw1 (.seq lw2 (.seq lw3 (.seq lw4 (.seq lw5 (.seq lw6 lw7)))))) := rfl

/-- the law's test of the distance, in whole numbers -/
theorem far_int {N D tt tl pl pls cut : Int} {t T U : Rat} (hD : 0 < D) (hl : 0 < tl) (hs : 0 < pls) (ht : t * D = N) (hT : T * tl = tt) (hU : U * pls = pl)
    (h1 : 20000 * (t - T) ≤ 10001 * U + 20001 * cut) (h2 : 20000 * (T - t) ≤ 10001 * U + 20001 * cut) :
    20000 * ((N * tl - tt * D).natAbs : Int) ≤ ((10001 * pl + 20001 * cut * pls) * tl * D).fdiv pls := by
  have p1 : (0 : Rat) < (tl : Rat) * D * pls := Rat.mul_pos (Rat.mul_pos (castlt hl) (castlt hD)) (castlt hs)
  have a1 := Rat.mul_le_mul_of_nonneg_left h1 (show (0 : Rat) ≤ (tl : Rat) * D * pls by grind)
  have a2 := Rat.mul_le_mul_of_nonneg_left h2 (show (0 : Rat) ≤ (tl : Rat) * D * pls by grind)
  have c20 : ((20000 : Int) : Rat) = 20000 := rfl
  have c1 : ((10001 : Int) : Rat) = 10001 := rfl
  have c3 : ((20001 : Int) : Rat) = 20001 := rfl
  have e1 : ((20000 * (N * tl - tt * D) * pls : Int) : Rat) = (tl : Rat) * D * pls * (20000 * (t - T)) := by
    simp only [Rat.intCast_mul, Rat.intCast_sub, c20]
    rw [← ht, ← hT]; grind
  have e2 : ((20000 * (tt * D - N * tl) * pls : Int) : Rat) = (tl : Rat) * D * pls * (20000 * (T - t)) := by
    simp only [Rat.intCast_mul, Rat.intCast_sub, c20]
    rw [← ht, ← hT]; grind
  have e3 : (((10001 * pl + 20001 * cut * pls) * tl * D : Int) : Rat) = (tl : Rat) * D * pls * (10001 * U + 20001 * cut) := by
    simp only [Rat.intCast_mul, Rat.intCast_add, c1, c3]
    rw [← hU]; grind
  have b1 : 20000 * (N * tl - tt * D) * pls ≤ (10001 * pl + 20001 * cut * pls) * tl * D := by
    apply Rat.intCast_le_intCast.mp
    rw [e1, e3]; exact a1
  have b2 : 20000 * (tt * D - N * tl) * pls ≤ (10001 * pl + 20001 * cut * pls) * tl * D := by
    apply Rat.intCast_le_intCast.mp
    rw [e2, e3]; exact a2
  rw [Int.fdiv_eq_ediv_of_nonneg _ (by omega)]
  refine (Int.le_ediv_iff_mul_le hs).mpr ?_
  by_cases h : 0 ≤ N * tl - tt * D
  · rw [Int.natAbs_of_nonneg h]; exact b1
  · have e4 : ((N * tl - tt * D).natAbs : Int) = tt * D - N * tl := by omega
    rw [e4]; exact b2

section
variable {fuel : Nat} {st st' : Store} {cf : CF} {x0 x1 x2 x3 x4 x5 x6 x12 x13 x14 x15 x16 x17 x18 : Option PVal} {g N D z tt tl pl pls cut : Int} {bl : List PVal}

theorem in_a (hcall : cf 38 [.int z, .dbl N D, .int g] st = some (.tup [.int tt, .int tl, .int pl, .int pls], st')) (hc : cut = if z = 2 then 1 else 0) {W : PS} :
    ex fuel cf (.seq in1 (.seq in2 W)) [x0, x1, x2, x3, x4, x5, x6, some (.int g), some (.lst bl), some (.dbl N D), some (.tup [.int N, .int D]), some (.int z), x12, x13, x14, x15, x16, x17, x18] st =
    ex fuel cf W [x0, x1, x2, x3, x4, x5, x6, some (.int g), some (.lst bl), some (.dbl N D), some (.tup [.int N, .int D]), some (.int z), some (.int tt), some (.int tl), some (.int pl), some (.int pls), some (.int cut), x17, x18] st' := by
  unfold in1 in2
  by_cases h : z = 2
  · rw [if_pos h] at hc
    subst hc h
    simp [ex, ev, evs, cmpP, cmpI, lk, upd, upds, truth, beqD, hcall]
  · rw [if_neg h] at hc
    subst hc
    simp [ex, ev, evs, cmpP, cmpI, lk, upd, upds, truth, beqD, hcall, h]

theorem in_b (f1 : fit N = true) (f2 : fit D = true) (f3 : fit tt = true) (f4 : fit tl = true) (f5 : fit (((N * tl - tt * D).natAbs : Nat) : Int) = true) {W : PS} :
    ex fuel cf (.seq in3 W) [x0, x1, x2, x3, x4, x5, x6, some (.int g), some (.lst bl), some (.dbl N D), some (.tup [.int N, .int D]), some (.int z), some (.int tt), some (.int tl), some (.int pl), some (.int pls), some (.int cut), x17, x18] st =
    ex fuel cf W [x0, x1, x2, x3, x4, x5, x6, some (.int g), some (.lst bl), some (.dbl N D), some (.tup [.int N, .int D]), some (.int z), some (.int tt), some (.int tl), some (.int pl), some (.int pls), some (.int cut), some (.int (20000 * ((N * tl - tt * D).natAbs : Int))), x18] st := by
  have f6 : fit 20000 = true := fit_small (by decide)
  have z0 : itemL [.int N, .int D] 0 = some (.int N) := rfl
  have z1 : itemL [.int N, .int D] 1 = some (.int D) := rfl
  unfold in3
  simp [ex, ev, evs, biP, binP, binI, itemP, lk, upd, z0, z1, f1, f2, f3, f4, f5, f6]

theorem in_c {F : Int} (f1 : fit pl = true) (f2 : fit cut = true) (f3 : fit pls = true) (f4 : fit tl = true) (f5 : fit D = true) (f6 : fit (20001 * cut) = true) (f7 : fit (10001 * pl + 20001 * cut * pls) = true) (f8 : fit ((10001 * pl + 20001 * cut * pls) * tl) = true) (hs : pls ≠ 0)
    (hF : F ≤ ((10001 * pl + 20001 * cut * pls) * tl * D).fdiv pls) {W : PS} :
    ex fuel cf (.seq in4 W) [x0, x1, x2, x3, x4, x5, x6, some (.int g), some (.lst bl), some (.dbl N D), some (.tup [.int N, .int D]), some (.int z), some (.int tt), some (.int tl), some (.int pl), some (.int pls), some (.int cut), some (.int F), x18] st =
    ex fuel cf W [x0, x1, x2, x3, x4, x5, x6, some (.int g), some (.lst bl), some (.dbl N D), some (.tup [.int N, .int D]), some (.int z), some (.int tt), some (.int tl), some (.int pl), some (.int pls), some (.int cut), some (.int F), x18] st := by
  have g1 : fit 10001 = true := fit_small (by decide)
  have g2 : fit 20001 = true := fit_small (by decide)
  have z1 : itemL [.int N, .int D] 1 = some (.int D) := rfl
  have hF' : ¬ ((10001 * pl + 20001 * cut * pls) * tl * D).fdiv pls < F := by omega
  unfold in4
  simp [ex, ev, binP, binI, cmpP, cmpI, itemP, lk, truth, z1, f1, f2, f3, f4, f5, f6, f7, f8, g1, g2, hs, hF']

theorem in_d1 (hlen : bl.length ≤ 100) (h : (bl.length : Int) ≤ z) {W : PS} {x17 : Option PVal} :
    ex fuel cf (.seq in5 W) [x0, x1, x2, x3, x4, x5, x6, some (.int g), some (.lst bl), some (.dbl N D), some (.tup [.int N, .int D]), some (.int z), some (.int tt), some (.int tl), some (.int pl), some (.int pls), some (.int cut), x17, x18] st =
    ex fuel cf W [x0, x1, x2, x3, x4, x5, x6, some (.int g), some (.lst bl), some (.dbl N D), some (.tup [.int N, .int D]), some (.int z), some (.int tt), some (.int tl), some (.int pl), some (.int pls), some (.int cut), x17, x18] st := by
  have hl : bl.length ≤ 4096 := by omega
  have hn : ¬ z < (bl.length : Int) := by omega
  unfold in5
  simp [ex, ev, evs, biP, cmpP, cmpI, lk, truth, slim, hl, hn]
theorem in_d2 {bt bw : Int} (hlen : bl.length ≤ 100) (h : z < (bl.length : Int)) (hit : itemL bl z = some (.tup [.int bt, .int bw])) (f1 : fit tt = true) (f2 : fit tl = true) (f3 : fit bt = true) (f4 : fit bw = true) (hle : bt * tl ≤ tt * bw) {W : PS} {x17 : Option PVal} :
    ex fuel cf (.seq in5 W) [x0, x1, x2, x3, x4, x5, x6, some (.int g), some (.lst bl), some (.dbl N D), some (.tup [.int N, .int D]), some (.int z), some (.int tt), some (.int tl), some (.int pl), some (.int pls), some (.int cut), x17, x18] st =
    ex fuel cf W [x0, x1, x2, x3, x4, x5, x6, some (.int g), some (.lst bl), some (.dbl N D), some (.tup [.int N, .int D]), some (.int z), some (.int tt), some (.int tl), some (.int pl), some (.int pls), some (.int cut), x17, x18] st := by
  have hl : bl.length ≤ 4096 := by omega
  have hn : ¬ tt * bw < bt * tl := by omega
  have z0 : itemL [.int bt, .int bw] 0 = some (.int bt) := rfl
  have z1 : itemL [.int bt, .int bw] 1 = some (.int bw) := rfl
  unfold in5
  simp [ex, ev, evs, biP, binP, binI, cmpP, cmpI, itemP, lk, truth, slim, hl, h, hit, z0, z1, f1, f2, f3, f4, hn]
theorem in_e (hlen : bl.length ≤ 100) (h0 : 0 ≤ z) (h1 : z < 100) {x17 : Option PVal} :
    ex fuel cf (.seq in6 .skip) [x0, x1, x2, x3, x4, x5, x6, some (.int g), some (.lst bl), some (.dbl N D), some (.tup [.int N, .int D]), some (.int z), some (.int tt), some (.int tl), some (.int pl), some (.int pls), some (.int cut), x17, x18] st =
    some (.next, [x0, x1, x2, x3, x4, x5, x6, some (.int g), some (.lst (bl.take z.toNat ++ [.tup [.int tt, .int tl]] ++ bl.drop (z + 1).toNat)), some (.dbl N D), some (.tup [.int N, .int D]), some (.int z), some (.int tt), some (.int tl), some (.int pl), some (.int pls), some (.int cut), x17, x18], st) := by
  have hl : bl.length ≤ 4096 := by omega
  have o1 : -1000000000 < z ∧ z < 1000000000 := by omega
  have o2 : -1000000000 < z + 1 ∧ z + 1 < 1000000000 ∧ 0 ≤ z + 1 := by omega
  have t1 : (bl.take z.toNat).length ≤ 4096 := by simp; omega
  have t2 : (bl.drop (z + 1).toNat).length ≤ 4096 := by simp; omega
  have t3 : (bl.take z.toNat ++ [PVal.tup [.int tt, .int tl]]).length ≤ 4096 := by simp; omega
  unfold in6
  generalize hA : bl.take z.toNat = A at *
  generalize hB : bl.drop (z + 1).toNat = B at *
  simp at t3
  simp [ex, ev, evs, binP, binI, sliceP, sliceL, optI, lk, upd, slim, hl, h0, o1, o2, hA, hB, t1, t2, t3]
end
end Mine
end
section
open PySem PySem.Builtin PySem.Builtin.Str PySem.NumText
set_option Elab.async false
set_option maxRecDepth 100000
set_option exponentiation.threshold 2500
set_option linter.unusedSimpArgs false
namespace Mine

def WayR (g : Nat) : Nat → Rat → Rat → Prop
  | 0 => Way0 g
  | 1 => Way1 g
  | 2 => Way2 g
  | 3 => Way3
  | _ => Way4 g
theorem WayR.mono {g w : Nat} {t T t' T' : Rat} (hg : g ≤ 8) (h : WayR g w t T) (h' : WayR g w t' T') (hle : t ≤ t') : T ≤ T' := by
  match w, h, h' with
  | 0, h, h' => exact Way0.mono h h' hle
  | 1, h, h' => exact Way1.mono hg h h' hle
  | 2, h, h' => exact Way2.mono h h' hle
  | 3, h, h' => exact Way3.mono h h' hle
  | _ + 4, h, h' => exact Way4.mono h h' hle

def Ent (g w : Nat) (t : Rat) (v : PVal) : Prop := ∃ (tt tl : Int) (T : Rat), v = .tup [.int tt, .int tl] ∧ 0 < tl ∧ fit tt = true ∧ fit tl = true ∧ T * tl = tt ∧ WayR g w t T
def Old (g w : Nat) (t : Rat) (v : PVal) : Prop := ∃ t0, t0 ≤ t ∧ Ent g w t0 v

section
variable {fuel m : Nat} {st : Store}

theorem told_any {N D : Int} {t : Rat} {g : Nat} (hN : 0 < N) (hD : 0 < D) (bN : N < 2 ^ 230) (bD : D < 2 ^ 230) (ht : t * D = N) (hs : IsNear t t) (hr : Rng t) (hg : g ≤ 8) (hf : 1500 < fuel) (hc : CellOk st) (w : Nat) (hw : w < 5) :
    ∃ T v st', WayR g w t T ∧ ToldOk (if (w : Int) = 2 then 1 else 0) t T v ∧ CellOk st' ∧ callP fuel code (m + 7) 38 [.int w, .dbl N D, .int g] st = some (v, st') := by
  match w, hw with
  | 0, _ =>
    obtain ⟨T, v, h1, h2, h3⟩ := told0 (fuel := fuel) (m := m + 1) (st := st) hN hD bN bD ht hs hr hg (by omega)
    exact ⟨T, v, st, h1, h2, hc, h3⟩
  | 1, _ =>
    obtain ⟨T, v, h1, h2, h3⟩ := told1 (fuel := fuel) (m := m) (st := st) hN hD bN bD ht hs hr hg (by omega)
    exact ⟨T, v, st, h1, h2, hc, h3⟩
  | 2, _ =>
    obtain ⟨T, v, h1, h2, h3⟩ := told2 (fuel := fuel) (m := m + 1) (st := st) hN hD bN bD ht hr hg
    exact ⟨T, v, st, h1, h2, hc, h3⟩
  | 3, _ =>
    obtain ⟨T, v, h1, h2, h3⟩ := told3 (fuel := fuel) (m := m) (st := st) (g := g) hN hD bN bD ht hs hr hf
    exact ⟨T, v, st, h1, h2, hc, h3⟩
  | 4, _ =>
    obtain ⟨T, v, x, h1, h2, h3⟩ := told4 (fuel := fuel) (m := m + 2) (st := st) hN hD bN bD ht hr hg (by omega)
    exact ⟨T, v, _, h1, h2, hc.push x, h3⟩

/-- the state within the loop over the ways -/
def InI (x0 x2 x3 x4 x5 x6 : Option PVal) (g : Nat) (N D : Int) (t : Rat) (w : Nat) (r : Rho) (s : Store) : Prop :=
  ∃ (bl : List PVal) (y11 y12 y13 y14 y15 y16 y17 y18 : Option PVal), r = [x0, some (.cell 0), x2, x3, x4, x5, x6, some (.int g), some (.lst bl), some (.dbl N D), some (.tup [.int N, .int D]), y11, y12, y13, y14, y15, y16, y17, y18] ∧
    CellOk s ∧ w ≤ bl.length ∧ bl.length ≤ 5 ∧ ∀ j v, bl[j]? = some v → (j < w → Ent g j t v) ∧ (w ≤ j → Old g j t v)

theorem in_step {N D : Int} {t : Rat} {g : Nat} (hN : 0 < N) (hD : 0 < D) (bN : N < 2 ^ 230) (bD : D < 2 ^ 230) (ht : t * D = N) (hs : IsNear t t) (hr : Rng t) (hg : g ≤ 8) (hf : 1500 < fuel) {x0 x2 x3 x4 x5 x6 : Option PVal} (w : Nat) (hw : w < 5) (r : Rho) (s : Store) (h : InI x0 x2 x3 x4 x5 x6 g N D t w r s) :
    ∃ r2 s2, ex fuel (callP fuel code (m + 7)) inB (upd r 11 (.int w)) s = some (.next, r2, s2) ∧ InI x0 x2 x3 x4 x5 x6 g N D t (w + 1) r2 s2 := by
  obtain ⟨bl, y11, y12, y13, y14, y15, y16, y17, y18, rfl, hc, hw1, hw2, hent⟩ := h
  obtain ⟨T, v, s', hway, ⟨tt, tl, pl, pls, rfl, q1, q2, q3, q4, q5, q6, q7, q8, hT, U, hU, u1, u2⟩, hc', hcall⟩ := told_any (m := m) hN hD bN bD ht hs hr hg hf hc w hw
  obtain ⟨z, hz⟩ : ∃ z : Int, z = (w : Int) := ⟨_, rfl⟩
  have hu : upd [x0, some (.cell 0), x2, x3, x4, x5, x6, some (.int g), some (.lst bl), some (.dbl N D), some (.tup [.int N, .int D]), y11, y12, y13, y14, y15, y16, y17, y18] 11 (.int w) =
    [x0, some (.cell 0), x2, x3, x4, x5, x6, some (.int g), some (.lst bl), some (.dbl N D), some (.tup [.int N, .int D]), some (.int z), y12, y13, y14, y15, y16, y17, y18] := by rw [hz]; rfl
  rw [hu]
  rw [← hz] at hcall u1 u2
  obtain ⟨cut, hcut⟩ : ∃ cut : Int, cut = if z = 2 then 1 else 0 := ⟨_, rfl⟩
  rw [← hcut] at u1 u2
  have cut01 : 0 ≤ cut ∧ cut ≤ 1 := by rw [hcut]; split <;> omega
  -- sizes
  have fN : fit N = true := fit_pow (by omega) bN (by decide)
  have fD : fit D = true := fit_pow (by omega) bD (by decide)
  have ftt : fit tt = true := fit_pow q3 q5 (by decide)
  have ftl : fit tl = true := fit_pow (by omega) q6 (by decide)
  have fpl : fit pl = true := fit_pow q4 q7 (by decide)
  have fpls : fit pls = true := fit_pow (by omega) q8 (by decide)
  have fcut : fit cut = true := fit_small (by omega)
  have f20 : fit (20001 * cut) = true := fit_small (by omega)
  have b1 : N * tl < 2 ^ 630 := mul_lt_2 (by omega) bN q1 q6 (Nat.le_refl _)
  have b2 : tt * D < 2 ^ 630 := mul_lt_2 q3 q5 hD bD (by decide)
  have n1 : 0 < N * tl := Int.mul_pos hN q1
  have n2 : 0 ≤ tt * D := Int.mul_nonneg q3 (by omega)
  have fA : fit (((N * tl - tt * D).natAbs : Nat) : Int) = true := fit_pow (k := 630) (by omega) (by omega) (by decide)
  have hcp : 0 ≤ 20001 * cut * pls ∧ 20001 * cut * pls ≤ 20001 * pls := by
    have a : 0 ≤ cut * pls := Int.mul_nonneg cut01.1 (by omega)
    have b : cut * pls ≤ 1 * pls := Int.mul_le_mul_of_nonneg_right cut01.2 (by omega)
    have c : 20001 * cut * pls = 20001 * (cut * pls) := Int.mul_assoc ..
    omega
  have b3 : 10001 * pl + 20001 * cut * pls < 2 ^ 420 := by
    have : (30002 : Int) * 2 ^ 400 < 2 ^ 420 := by decide +kernel
    omega
  have f7 : fit (10001 * pl + 20001 * cut * pls) = true := fit_pow (by omega) b3 (by decide)
  have b4 : (10001 * pl + 20001 * cut * pls) * tl < 2 ^ 820 := mul_lt_2 (by omega) b3 q1 q6 (Nat.le_refl _)
  have f8 : fit ((10001 * pl + 20001 * cut * pls) * tl) = true := fit_pow (Int.mul_nonneg (by omega) (by omega)) b4 (by decide)
  have hfar := far_int hD q1 q2 ht hT hU u1 u2
  unfold inB
  rw [in_a hcall hcut, in_b fN fD ftt ftl fA, in_c fpl fcut fpls ftl fD f20 f7 f8 (by omega) hfar]
  have hstep5 : ∀ {W : PS}, ex fuel (callP fuel code (m + 7)) (.seq in5 W) [x0, some (.cell 0), x2, x3, x4, x5, x6, some (.int g), some (.lst bl), some (.dbl N D), some (.tup [.int N, .int D]), some (.int z), some (.int tt), some (.int tl), some (.int pl), some (.int pls), some (.int cut), some (.int (20000 * ((N * tl - tt * D).natAbs : Int))), y18] s' =
    ex fuel (callP fuel code (m + 7)) W [x0, some (.cell 0), x2, x3, x4, x5, x6, some (.int g), some (.lst bl), some (.dbl N D), some (.tup [.int N, .int D]), some (.int z), some (.int tt), some (.int tl), some (.int pl), some (.int pls), some (.int cut), some (.int (20000 * ((N * tl - tt * D).natAbs : Int))), y18] s' := by
    intro W
    by_cases hlen : bl.length ≤ w
    · exact in_d1 (by omega) (by omega)
    · have hg1 : bl[w]? = some bl[w] := List.getElem?_eq_getElem (by omega)
      obtain ⟨t0, ht0, bt, bw, T0, e0, p0, fb1, fb2, hT0, hway0⟩ := (hent w _ hg1).2 (Nat.le_refl _)
      rw [e0] at hg1
      have hit : itemL bl z = some (.tup [.int bt, .int bw]) := by
        have e : itemL bl z = if 0 ≤ z ∧ z < 10 ^ 9 then bl[z.toNat]? else none := rfl
        rw [e, if_pos ⟨by omega, by omega⟩, show z.toNat = w by omega]
        exact hg1
      refine in_d2 (by omega) (by omega) hit ftt ftl fb1 fb2 ?_
      have hTT := WayR.mono hg hway0 hway ht0
      apply uncast
      have pt : (0 : Rat) < (tl : Rat) := castlt q1
      have pb : (0 : Rat) < (bw : Rat) := castlt p0
      rw [← hT, ← hT0]
      have := Rat.mul_le_mul_of_nonneg_left hTT (show (0 : Rat) ≤ (tl : Rat) * bw by have := Rat.mul_pos pt pb; grind)
      grind
  rw [hstep5, in_e (by omega) (by omega) (by omega)]
  refine ⟨_, s', rfl, _, _, _, _, _, _, _, _, _, rfl, hc', ?_, ?_, ?_⟩
  · simp; omega
  · simp; omega
  · have zt : z.toNat = w := by omega
    have zt1 : (z + 1).toNat = w + 1 := by omega
    rw [zt, zt1]
    intro j v hj
    by_cases h1 : j < w
    · have e : (bl.take w ++ [PVal.tup [.int tt, .int tl]] ++ bl.drop (w + 1))[j]? = bl[j]? := by
        rw [List.append_assoc, List.getElem?_append_left (by simp; omega), List.getElem?_take_of_lt h1]
      rw [e] at hj
      exact ⟨fun _ => (hent j v hj).1 h1, fun h => by omega⟩
    · by_cases h2 : j = w
      · subst h2
        have e : (bl.take j ++ [PVal.tup [.int tt, .int tl]] ++ bl.drop (j + 1))[j]? = some (.tup [.int tt, .int tl]) := by
          rw [List.append_assoc, List.getElem?_append_right (by simp; omega)]
          have : j - (bl.take j).length = 0 := by simp; omega
          rw [this]; rfl
        rw [e] at hj
        injection hj with hj
        refine ⟨fun _ => ⟨tt, tl, T, hj.symm, q1, ftt, ftl, hT, hway⟩, fun h => by omega⟩
      · have e : (bl.take w ++ [PVal.tup [.int tt, .int tl]] ++ bl.drop (w + 1))[j]? = bl[j]? := by
          rw [List.append_assoc, List.getElem?_append_right (by simp; omega)]
          have h3 : j - (bl.take w).length = (j - (w + 1)) + 1 := by simp; omega
          rw [h3]
          show (bl.drop (w + 1))[j - (w + 1)]? = _
          rw [List.getElem?_drop]
          congr 1; omega
        rw [e] at hj
        exact ⟨fun h => by omega, fun _ => (hent j v hj).2 (by omega)⟩

/-- the loop over the ways -/
theorem in_loop {N D : Int} {t : Rat} {g : Nat} (hN : 0 < N) (hD : 0 < D) (bN : N < 2 ^ 230) (bD : D < 2 ^ 230) (ht : t * D = N) (hs : IsNear t t) (hr : Rng t) (hg : g ≤ 8) (hf : 1500 < fuel) {x0 x2 x3 x4 x5 x6 : Option PVal} (r : Rho) (s : Store) (h : InI x0 x2 x3 x4 x5 x6 g N D t 0 r s) :
    ∃ r2 s2, ex fuel (callP fuel code (m + 7)) (.forr 11 (.lit (.int 5)) inB) r s = some (.next, r2, s2) ∧ InI x0 x2 x3 x4 x5 x6 g N D t 5 r2 s2 := by
  obtain ⟨r', s', e, hI⟩ := for_upto (i := 11) (K := 5) (body := ex fuel (callP fuel code (m + 7)) inB) (InI x0 x2 x3 x4 x5 x6 g N D t)
    (fun k r s hk h => in_step (m := m) hN hD bN bD ht hs hr hg hf k hk r s h) 5 0 r s rfl h
  refine ⟨r', s', ?_, hI⟩
  generalize inB = W at e ⊢
  simp [ex, ev]
  exact e
end
end Mine
end
section
open PySem PySem.Builtin PySem.Builtin.Str PySem.NumText
set_option Elab.async false
set_option maxRecDepth 100000
set_option exponentiation.threshold 2500
set_option linter.unusedSimpArgs false
namespace Mine

structure Bnd (k : Nat) (top low : Int) : Prop where
  t0 : 0 < top
  l0 : 0 < low
  t1 : top < 10 ^ (35 + 17 * k)
  l1 : low < 10 ^ (27 + 16 * k)
  hi : top ≤ low * (10 ^ 35 * 2 ^ k)
  lo : low ≤ top * 10 ^ 27

theorem Bnd.next {k : Nat} {top low more q1 v1 v2 : Int} (h : Bnd k top low) (m1 : 1 ≤ more) (m2 : more ≤ 10 ^ 16) (hq : q1 = (v1 * top).fdiv 1000000) (a1 : 0 ≤ v1) (a2 : v1 < 1000) (b1 : 0 ≤ v2) (b2 : v2 < 3) :
    Bnd (k + 1) (top * more + q1 + v2) (low * more) ∧ top * more ≤ top * more + q1 + v2 := by
  have t0 := h.t0
  have l0 := h.l0
  have q0 : 0 ≤ q1 := by rw [hq]; exact fd_nn (by decide) (Int.mul_nonneg a1 (by omega))
  have q2 : q1 * 1000000 ≤ v1 * top := by rw [hq]; exact fd_le (by decide)
  have q3 : v1 * top ≤ 999 * top := Int.mul_le_mul_of_nonneg_right (by omega) (by omega)
  have tm : top * 1 ≤ top * more := Int.mul_le_mul_of_nonneg_left m1 (by omega)
  have tm2 : top * more ≤ top * 10 ^ 16 := Int.mul_le_mul_of_nonneg_left m2 (by omega)
  have lm : low * 1 ≤ low * more := Int.mul_le_mul_of_nonneg_left m1 (by omega)
  have lm2 : low * more ≤ low * 10 ^ 16 := Int.mul_le_mul_of_nonneg_left m2 (by omega)
  refine ⟨⟨by omega, by omega, ?_, ?_, ?_, ?_⟩, by omega⟩
  · have e : (10 : Int) ^ (35 + 17 * (k + 1)) = 10 ^ (35 + 17 * k) * 10 ^ 17 := by rw [← Int.pow_add]; congr 1
    rw [e]
    have : top * 10 ^ 17 < 10 ^ (35 + 17 * k) * 10 ^ 17 := Int.mul_lt_mul_of_pos_right h.t1 (by decide)
    omega
  · have e : (10 : Int) ^ (27 + 16 * (k + 1)) = 10 ^ (27 + 16 * k) * 10 ^ 16 := by rw [← Int.pow_add]; congr 1
    rw [e]
    have : low * 10 ^ 16 < 10 ^ (27 + 16 * k) * 10 ^ 16 := Int.mul_lt_mul_of_pos_right h.l1 (by decide)
    omega
  · have p2 : (1 : Int) ≤ 2 ^ k := by have : (0 : Int) < 2 ^ k := Int.pow_pos (by decide)
                                      omega
    have e : low * more * (10 ^ 35 * 2 ^ (k + 1)) = 2 * (low * (10 ^ 35 * 2 ^ k) * more) := by rw [Int.pow_succ]; grind
    rw [e]
    have y : top * more ≤ low * (10 ^ 35 * 2 ^ k) * more := Int.mul_le_mul_of_nonneg_right h.hi (by omega)
    have y2 : 10 ^ 35 * 1 ≤ (10 : Int) ^ 35 * 2 ^ k := Int.mul_le_mul_of_nonneg_left p2 (by decide)
    have y3 : 1 * (10 ^ 35 * 2 ^ k) ≤ low * (10 ^ 35 * 2 ^ k) := Int.mul_le_mul_of_nonneg_right (by omega) (by omega)
    have y4 : low * (10 ^ 35 * 2 ^ k) * 1 ≤ low * (10 ^ 35 * 2 ^ k) * more := Int.mul_le_mul_of_nonneg_left m1 (by omega)
    generalize low * (10 ^ 35 * 2 ^ k) * more = Y at y y4 ⊢
    generalize low * (10 ^ 35 * 2 ^ k) = Z at y3 y4
    generalize (10 : Int) ^ 35 * 2 ^ k = A at y2 y3
    generalize top * more = B at *
    generalize v1 * top = C at *
    omega
  · have e : low * more ≤ top * 10 ^ 27 * more := Int.mul_le_mul_of_nonneg_right h.lo (by omega)
    have e2 : top * 10 ^ 27 * more = top * more * 10 ^ 27 := by grind
    omega

theorem Bnd.big {k : Nat} {top low : Int} (h : Bnd k top low) (hk : k ≤ 4) : top < 2 ^ 500 ∧ low < 2 ^ 500 := by
  have h1 := h.t1
  have h2 := h.l1
  have h3 := pow10_le (show 35 + 17 * k ≤ 120 by omega)
  have h4 := pow10_le (show 27 + 16 * k ≤ 120 by omega)
  have h5 : (10 : Int) ^ 120 < 2 ^ 500 := by decide +kernel
  omega

/-- the value and its double are of moderate size -/
theorem Bnd.rng {k : Nat} {top low : Int} {x : Rat} (h : Bnd k top low) (hk : k < 4) (hx : x * low = top) : (2 : Rat) ^ (-150 : Int) ≤ x ∧ x ≤ (2 : Rat) ^ (150 : Int) ∧ ∀ t, IsNear x t → Rng t := by
  have l0 : (0 : Rat) < (low : Rat) := castlt h.l0
  have p2 : (2 : Int) ^ k ≤ 2 ^ 3 := pow_le_pow (by omega)
  have e8 : (2 : Int) ^ 3 = 8 := by decide
  have hi' : top ≤ low * (10 ^ 35 * 8) := by
    have a : (10 : Int) ^ 35 * 2 ^ k ≤ 10 ^ 35 * 8 := Int.mul_le_mul_of_nonneg_left (by omega) (by decide)
    have b : low * (10 ^ 35 * 2 ^ k) ≤ low * (10 ^ 35 * 8) := Int.mul_le_mul_of_nonneg_left a (by have := h.l0; omega)
    have := h.hi
    omega
  have c1 := castle hi'
  have c2 := castle h.lo
  rw [Rat.intCast_mul] at c1 c2
  have d1 : ((10 ^ 35 * 8 : Int) : Rat) = 800000000000000000000000000000000000 := by decide +kernel
  have d2 : ((10 ^ 27 : Int) : Rat) = 1000000000000000000000000000 := by decide +kernel
  rw [d1, ← hx] at c1
  rw [d2, ← hx] at c2
  have x1 : x ≤ 800000000000000000000000000000000000 := by
    refine Rat.le_of_mul_le_mul_left (c := (low : Rat)) ?_ l0
    grind
  have x2 : 1 / 1000000000000000000000000000 ≤ x := by
    refine Rat.le_of_mul_le_mul_left (c := (low : Rat)) ?_ l0
    grind
  have z1 : (2 : Rat) ^ (-150 : Int) ≤ 1 / 1000000000000000000000000000 := by decide +kernel
  have z2 : (800000000000000000000000000000000000 : Rat) ≤ (2 : Rat) ^ (150 : Int) := by decide +kernel
  refine ⟨Rat.le_trans z1 x2, Rat.le_trans x1 z2, fun t ht => ?_⟩
  have er := ht.err
  have z3 : (10 : Rat) ^ (-30 : Int) = 1 / 1000000000000000000000000000000 := by decide +kernel
  have z4 : (10 : Rat) ^ (36 : Int) = 1000000000000000000000000000000000000 := by decide +kernel
  unfold Rng
  rw [z3, z4]
  constructor <;> grind

def OutI (x0 x5 x6 : Option PVal) (g : Nat) (k : Nat) (r : Rho) (s : Store) : Prop :=
  ∃ (top low : Int) (bl : List PVal) (x4 x9 x10 x11 x12 x13 x14 x15 x16 x17 x18 : Option PVal),
    r = [x0, some (.cell 0), some (.int top), some (.int low), x4, x5, x6, some (.int g), some (.lst bl), x9, x10, x11, x12, x13, x14, x15, x16, x17, x18] ∧ CellOk s ∧ Bnd k top low ∧
    (bl = [] ∨ (bl.length = 5 ∧ ∃ X0 t0 : Rat, IsNear X0 t0 ∧ X0 * low ≤ top ∧ ∀ j v, bl[j]? = some v → Ent g j t0 v))

section
variable {fuel m : Nat} {st : Store}

theorem ou_a {top low N D : Int} {G : Int} {L : PVal} {x0 x1 x4 x5 x6 x9 x10 x11 x12 x13 x14 x15 x16 x17 x18 : Option PVal} {cf : CF} (h1 : cf 1 [.int top, .int low] st = some (.tup [.int N, .int D], st)) (h34 : cf 34 [.int top, .int low] st = some (.tup [.int N, .int D], st)) (t0 : top ≠ 0) (l0 : low ≠ 0) {W : PS} :
    ex fuel cf (.seq ou1 W) [x0, x1, some (.int top), some (.int low), x4, x5, x6, some (.int G), some L, x9, x10, x11, x12, x13, x14, x15, x16, x17, x18] st =
    ex fuel cf W [x0, x1, some (.int top), some (.int low), x4, x5, x6, some (.int G), some L, some (.dbl N D), some (.tup [.int N, .int D]), x11, x12, x13, x14, x15, x16, x17, x18] st := by
  unfold ou1
  simp [ex, ev, evs, lk, upd, upds, slim, fNear, t0, l0, h1, h34]

theorem ou_b {v : Int} {st1 : Store} {x0 x2 x3 x4 x5 x6 x7 x8 x9 x10 x11 x12 x13 x14 x15 x16 x17 x18 : Option PVal} {cf : CF} (h : cf 33 [.cell 0, .int 17] st = some (.int v, st1)) (v0 : 0 ≤ v) (v1 : v < 17) {W : PS} :
    ex fuel cf (.seq ou3 W) [x0, some (.cell 0), x2, x3, x4, x5, x6, x7, x8, x9, x10, x11, x12, x13, x14, x15, x16, x17, x18] st =
    ex fuel cf W [x0, some (.cell 0), x2, x3, x4, x5, x6, x7, x8, x9, x10, x11, x12, x13, x14, x15, x16, x17, some (.int (10 ^ v.toNat))] st1 := by
  have f10 := fit10'
  have r : v ≤ 2000 := by omega
  unfold ou3
  simp [ex, ev, evs, binP, binI, lk, upd, h, f10, v0, r]

theorem ou_c {top low more v1 v2 : Int} {st1 st2 : Store} {x0 x4 x5 x6 x7 x8 x9 x10 x11 x12 x13 x14 x15 x16 x17 : Option PVal} {cf : CF} (h1 : cf 33 [.cell 0, .int 1000] st = some (.int v1, st1)) (h2 : cf 33 [.cell 0, .int 3] st1 = some (.int v2, st2))
    (f1 : fit top = true) (f2 : fit low = true) (f3 : fit more = true) (f4 : fit v1 = true) :
    ex fuel cf (.seq ou4 .skip) [x0, some (.cell 0), some (.int top), some (.int low), x4, x5, x6, x7, x8, x9, x10, x11, x12, x13, x14, x15, x16, x17, some (.int more)] st =
    some (.next, [x0, some (.cell 0), some (.int (top * more + (v1 * top).fdiv 1000000 + v2)), some (.int (low * more)), x4, x5, x6, x7, x8, x9, x10, x11, x12, x13, x14, x15, x16, x17, some (.int more)], st2) := by
  have f6 : fit 1000000 = true := fit_small (by decide)
  unfold ou4
  simp [ex, ev, evs, binP, binI, lk, upd, upds, slim, h1, h2, f1, f2, f3, f4, f6]

theorem out_step {g : Nat} (hg : g ≤ 8) (hf : 1500 < fuel) {x0 x5 x6 : Option PVal} (k : Nat) (r : Rho) (s : Store) (hk : k < 4) (h : OutI x0 x5 x6 g k r s) :
    ∃ r2 s2, ex fuel (callP fuel code (m + 7)) ouB (upd r 4 (.int k)) s = some (.next, r2, s2) ∧ OutI x0 x5 x6 g (k + 1) r2 s2 := by
  obtain ⟨top, low, bl, x4, x9, x10, x11, x12, x13, x14, x15, x16, x17, x18, rfl, hc, hb, hbl⟩ := h
  have hu : upd [x0, some (.cell 0), some (.int top), some (.int low), x4, x5, x6, some (.int g), some (.lst bl), x9, x10, x11, x12, x13, x14, x15, x16, x17, x18] 4 (.int k) =
    [x0, some (.cell 0), some (.int top), some (.int low), some (.int k), x5, x6, some (.int g), some (.lst bl), x9, x10, x11, x12, x13, x14, x15, x16, x17, x18] := rfl
  rw [hu]
  obtain ⟨b1, b2⟩ := hb.big (by omega)
  have w600 : (2 : Int) ^ 500 < 2 ^ 600 := pow_lt_pow (by decide)
  have l0q : (0 : Rat) < (low : Rat) := castlt hb.l0
  have hx : (top : Rat) / low * low = top := Rat.div_mul_cancel (by grind)
  generalize (top : Rat) / low = x at hx
  obtain ⟨x1, x2, x3⟩ := hb.rng hk hx
  obtain ⟨t, ht, N, D, e, n1, n2, n3, n4, n5⟩ := near_db hb.t0 hb.l0 hx x1 x2
  have hrng := x3 t ht
  injection e with ea eb
  have h1 := sp_near (fuel := fuel) (m := m + 5) (st := s) hb.t0 hb.l0 (by omega) (by omega)
  have h34 := sp_lawnear (fuel := fuel) (m := m + 6) (st := s) hb.t0 hb.l0 (by omega) (by omega) hf
  rw [ea, eb] at h1 h34
  unfold ouB
  rw [ou_a h1 h34 (by have := hb.t0; omega) (by have := hb.l0; omega)]
  have hI0 : InI x0 (some (.int top)) (some (.int low)) (some (.int k)) x5 x6 g N D t 0 [x0, some (.cell 0), some (.int top), some (.int low), some (.int k), x5, x6, some (.int g), some (.lst bl), some (.dbl N D), some (.tup [.int N, .int D]), x11, x12, x13, x14, x15, x16, x17, x18] s := by
    refine ⟨bl, x11, x12, x13, x14, x15, x16, x17, x18, rfl, hc, Nat.zero_le _, ?_, ?_⟩
    · rcases hbl with rfl | ⟨h, _⟩
      · simp
      · omega
    · intro j v hj
      refine ⟨fun h => by omega, fun _ => ?_⟩
      rcases hbl with rfl | ⟨h, X0, t0, hX, hXt, hent⟩
      · simp at hj
      · refine ⟨t0, hX.mono ht ?_, hent j v hj⟩
        refine Rat.le_of_mul_le_mul_left (c := (low : Rat)) ?_ l0q
        grind
  obtain ⟨r2, s2, hloop, hI⟩ := in_loop (fuel := fuel) (m := m) n1 n2 n3 n4 n5 ht.self hrng hg hf _ _ hI0
  obtain ⟨bl', y11, y12, y13, y14, y15, y16, y17, y18, rfl, hc2, l1, l2, hent⟩ := hI
  obtain ⟨v, s3, h33, v0, v1, hc3⟩ := sp_next (fuel := fuel) (m := m + 6) (many := 17) (by decide) hc2
  obtain ⟨w, s4, h33b, w0, w1, hc4⟩ := sp_next (fuel := fuel) (m := m + 6) (many := 1000) (by decide) hc3
  obtain ⟨u, s5, h33c, u0, u1, hc5⟩ := sp_next (fuel := fuel) (m := m + 6) (many := 3) (by decide) hc4
  have m1 := pow10_pos v.toNat
  have m2 := pow10_le (show v.toNat ≤ 16 by omega)
  obtain ⟨hb', htm⟩ := hb.next (more := 10 ^ v.toNat) (by omega) m2 rfl w0 w1 u0 u1
  refine ⟨[x0, some (.cell 0), some (.int (top * 10 ^ v.toNat + (w * top).fdiv 1000000 + u)), some (.int (low * 10 ^ v.toNat)), some (.int k), x5, x6, some (.int g), some (.lst bl'), some (.dbl N D), some (.tup [.int N, .int D]), y11, y12, y13, y14, y15, y16, y17, some (.int (10 ^ v.toNat))], s5, ?_, ?_⟩
  · generalize hinB : PS.forr 11 (.lit (.int 5)) inB = W at hloop ⊢
    show (match ex fuel (callP fuel code (m + 7)) W _ s with | some (.next, r₁, st₁) => ex fuel (callP fuel code (m + 7)) (.seq ou3 (.seq ou4 .skip)) r₁ st₁ | x => x) = _
    rw [hloop]
    dsimp only
    rw [ou_b h33 v0 v1, ou_c h33b h33c (fit_pow (by have := hb.t0; omega) b1 (by decide)) (fit_pow (by have := hb.l0; omega) b2 (by decide)) (fit10 (by omega)) (fit_small (by omega))]
  · refine ⟨_, _, bl', _, _, _, _, _, _, _, _, _, _, _, rfl, hc5, hb', .inr ⟨by omega, x, t, ht, ?_, fun j v hj => ?_⟩⟩
    · have := castle htm
      rw [Rat.intCast_mul] at this
      rw [Rat.intCast_mul]
      rw [← hx] at this
      grind
    · have hj5 : j < 5 := by
        have := (List.getElem?_eq_some_iff.mp hj).1
        omega
      exact (hent j v hj).1 hj5
end
end Mine
end
section
open PySem PySem.Builtin PySem.Builtin.Str PySem.NumText
set_option Elab.async false
set_option maxRecDepth 100000
set_option exponentiation.threshold 2500
set_option linter.unusedSimpArgs false
namespace Mine

section
variable {fuel m : Nat} {st : Store} {cf : CF}

theorem lw_0 {ns : List Int} (h : ns.length ≤ 63) {W : PS} {x2 x3 x4 x5 x6 x7 x8 x9 x10 x11 x12 x13 x14 x15 x16 x17 x18 : Option PVal} :
    ex fuel cf (.seq lw0 W) [some (.lst (ns.map .int)), none, x2, x3, x4, x5, x6, x7, x8, x9, x10, x11, x12, x13, x14, x15, x16, x17, x18] [] =
    ex fuel cf W [some (.lst (ns.map .int)), some (.cell 0), x2, x3, x4, x5, x6, x7, x8, x9, x10, x11, x12, x13, x14, x15, x16, x17, x18] [[.lst (ns.map .int), .int 0, .int 17]] := by
  have hl : (ns.map PVal.int).length ≤ 4096 := by simp; omega
  have ht : (ns.map PVal.int).take 70 = ns.map PVal.int := List.take_of_length_le (by simp; omega)
  generalize ns.map PVal.int = L at hl ht ⊢
  unfold lw0
  simp [ex, ev, evs, sliceP, sliceL, optI, lk, upd, slim, hl, ht]

def lows : List PVal := [.int 1, .int 3, .int 7, .int 8, .int 1000, .int 999999999989, .int 1099511627776]
theorem lows_at {v : Int} (h0 : 0 ≤ v) (h1 : v < 7) : ∃ low, itemL lows v = some (.int low) ∧ 1 ≤ low ∧ low ≤ 1099511627776 := by
  have h : v = 0 ∨ v = 1 ∨ v = 2 ∨ v = 3 ∨ v = 4 ∨ v = 5 ∨ v = 6 := by omega
  rcases h with rfl | rfl | rfl | rfl | rfl | rfl | rfl <;> exact ⟨_, rfl, by decide, by decide⟩

theorem lw_1 {a v low : Int} {st1 st2 : Store} {W : PS} {x0 x2 x3 x4 x5 x6 x7 x8 x9 x10 x11 x12 x13 x14 x15 x16 x17 x18 : Option PVal} (h1 : cf 33 [.cell 0, .int 9] st = some (.int a, st1)) (h2 : cf 33 [.cell 0, .int 7] st1 = some (.int v, st2)) (hl : itemL lows v = some (.int low)) :
    ex fuel cf (.seq lw1 W) [x0, some (.cell 0), x2, x3, x4, x5, x6, x7, x8, x9, x10, x11, x12, x13, x14, x15, x16, x17, x18] st =
    ex fuel cf W [x0, some (.cell 0), some (.int (1 + a)), some (.int low), x4, x5, x6, x7, x8, x9, x10, x11, x12, x13, x14, x15, x16, x17, x18] st2 := by
  unfold lows at hl
  unfold lw1
  simp [ex, ev, evs, binP, binI, itemP, lk, upd, upds, slim, h1, h2, hl]

theorem lw_3 {a b c : Int} {st1 st2 st3 : Store} {W : PS} {x0 x2 x3 x4 x5 x6 x7 x8 x9 x10 x11 x12 x13 x14 x15 x16 x17 x18 : Option PVal} (h1 : cf 33 [.cell 0, .int 3] st = some (.int a, st1)) (h2 : cf 33 [.cell 0, .int 29] st1 = some (.int b, st2)) (h3 : cf 33 [.cell 0, .int 9] st2 = some (.int c, st3)) :
    ex fuel cf (.seq lw3 W) [x0, some (.cell 0), x2, x3, x4, x5, x6, x7, x8, x9, x10, x11, x12, x13, x14, x15, x16, x17, x18] st =
    ex fuel cf W [x0, some (.cell 0), x2, x3, x4, some (.int a), some (.int (b - 14)), some (.int c), x8, x9, x10, x11, x12, x13, x14, x15, x16, x17, x18] st3 := by
  unfold lw3
  simp [ex, ev, evs, binP, binI, lk, upd, upds, slim, h1, h2, h3]

theorem lw_4n {a : Int} {W : PS} {x0 x2 x3 x4 x6 x7 x8 x9 x10 x11 x12 x13 x14 x15 x16 x17 x18 : Option PVal} (h : ¬ a = 2) :
    ex fuel cf (.seq lw4 W) [x0, some (.cell 0), x2, x3, x4, some (.int a), x6, x7, x8, x9, x10, x11, x12, x13, x14, x15, x16, x17, x18] st =
    ex fuel cf W [x0, some (.cell 0), x2, x3, x4, some (.int a), x6, x7, x8, x9, x10, x11, x12, x13, x14, x15, x16, x17, x18] st := by
  unfold lw4
  simp [ex, ev, cmpP, cmpI, lk, truth, beqD, h]

theorem lw_4y {a p b c : Int} {st1 st2 st3 : Store} {W : PS} {x0 x2 x3 x4 x6 x7 x8 x9 x10 x11 x12 x13 x14 x15 x16 x17 x18 : Option PVal} (h : a = 2) (h1 : cf 33 [.cell 0, .int 10] st = some (.int p, st1)) (h2 : cf 33 [.cell 0, .int 60] st1 = some (.int b, st2)) (h3 : cf 33 [.cell 0, .int 12] st2 = some (.int c, st3))
    (p0 : 0 ≤ p) (p1 : p < 10) (c0 : 0 ≤ c) (c1 : c < 12) :
    ex fuel cf (.seq lw4 W) [x0, some (.cell 0), x2, x3, x4, some (.int a), x6, x7, x8, x9, x10, x11, x12, x13, x14, x15, x16, x17, x18] st =
    ex fuel cf W [x0, some (.cell 0), some (.int (10 ^ (6 + p).toNat - 1 - b)), some (.int (10 ^ c.toNat)), x4, some (.int a), x6, x7, x8, x9, x10, x11, x12, x13, x14, x15, x16, x17, x18] st3 := by
  have f10 := fit10'
  have r1 : 0 ≤ 6 + p ∧ 6 + p ≤ 2000 := by omega
  have r2 : c ≤ 2000 := by omega
  unfold lw4
  simp [ex, ev, evs, binP, binI, cmpP, cmpI, lk, upd, upds, truth, beqD, slim, h, h1, h2, h3, f10, r1, r2, c0]

theorem lw_5 {top low ten : Int} {W : PS} {x0 x4 x5 x7 x8 x9 x10 x11 x12 x13 x14 x15 x16 x17 x18 : Option PVal} (f1 : fit top = true) (f2 : fit low = true) (t1 : -14 ≤ ten) (t2 : ten ≤ 14) :
    ex fuel cf (.seq lw5 W) [x0, some (.cell 0), some (.int top), some (.int low), x4, x5, some (.int ten), x7, x8, x9, x10, x11, x12, x13, x14, x15, x16, x17, x18] st =
    ex fuel cf W [x0, some (.cell 0), some (.int (top * 10 ^ (max ten 0).toNat)), some (.int (low * 10 ^ (max (-ten) 0).toNat)), x4, x5, some (.int ten), x7, some (.lst []), x9, x10, x11, x12, x13, x14, x15, x16, x17, x18] st := by
  have f10 := fit10'
  have fp := fit10 (a := (max ten 0).toNat) (by omega)
  have fq := fit10 (a := (max (-ten) 0).toNat) (by omega)
  have r1 : 0 ≤ max ten 0 ∧ max ten 0 ≤ 2000 := by omega
  have r2 : 0 ≤ max (-ten) 0 ∧ max (-ten) 0 ≤ 2000 := by omega
  unfold lw5
  simp [ex, ev, evs, biP, binP, binI, lk, upd, upds, slim, f1, f2, f10, fp, fq, r1, r2]

/-- the loop over the figures -/
theorem lw_2 {top low n : Int} {x0 x4 : Option PVal} {st1 : Store} (h33 : callP fuel code (m + 7) 33 [.cell 0, .int 21] st = some (.int n, st1)) (n0 : 0 ≤ n) (n1 : n < 21) (hc : CellOk st1) (t0 : 0 < top) (t1 : top < 10) :
    ∃ top' y4 st', ex fuel (callP fuel code (m + 7)) lw2 [x0, some (.cell 0), some (.int top), some (.int low), x4, none, none, none, none, none, none, none, none, none, none, none, none, none, none] st =
      some (.next, [x0, some (.cell 0), some (.int top'), some (.int low), y4, none, none, none, none, none, none, none, none, none, none, none, none, none, none], st') ∧ CellOk st' ∧ 0 < top' ∧ top' < 10 ^ 21 := by
  obtain ⟨r', s', e, top', y4, rfl, hc', p0, p1⟩ := for_upto (i := 4) (K := n.toNat) (body := ex fuel (callP fuel code (m + 7)) lwF)
    (fun k r s => ∃ top y4, r = [x0, some (.cell 0), some (.int top), some (.int low), y4, none, none, none, none, none, none, none, none, none, none, none, none, none, none] ∧ CellOk s ∧ 0 < top ∧ top < 10 ^ (1 + k))
    (by
      rintro k r s hk ⟨top, y4, rfl, hc, p0, p1⟩
      obtain ⟨v, s2, h, v0, v1, hc2⟩ := sp_next (fuel := fuel) (m := m + 6) (many := 10) (by decide) hc
      have hp := pow10_le (show 1 + k ≤ 30 by omega)
      have big : (10 : Int) ^ 30 < 2 ^ 200 := by decide +kernel
      have f10 := fit10'
      have ft : fit top = true := fit_pow (k := 200) (by omega) (by omega) (by decide)
      refine ⟨[x0, some (.cell 0), some (.int (top * 10 + v)), some (.int low), some (.int k), none, none, none, none, none, none, none, none, none, none, none, none, none, none], s2, ?_, top * 10 + v, some (.int k), rfl, hc2, by omega, ?_⟩
      · unfold lwF
        simp [ex, ev, evs, binP, binI, lk, upd, h, f10, ft]
      · rw [show 1 + (k + 1) = (1 + k) + 1 by omega, Int.pow_succ]
        omega)
    n.toNat 0 [x0, some (.cell 0), some (.int top), some (.int low), x4, none, none, none, none, none, none, none, none, none, none, none, none, none, none] st1 (by omega) ⟨top, x4, rfl, hc, t0, by simpa using t1⟩
  refine ⟨top', y4, s', ?_, hc', p0, ?_⟩
  · unfold lw2
    generalize lwF = W at e ⊢
    have hn : n ≤ 100000 := by omega
    simp [ex, ev, evs, lk, h33, n0, hn]
    exact e
  · have := pow10_le (show 1 + n.toNat ≤ 21 by omega)
    omega

theorem bnd0 {top low ten : Int} (t0 : 0 < top) (t1 : top < 10 ^ 21) (l0 : 1 ≤ low) (l1 : low ≤ 1099511627776) (a : -14 ≤ ten) (b : ten ≤ 14) : Bnd 0 (top * 10 ^ (max ten 0).toNat) (low * 10 ^ (max (-ten) 0).toNat) := by
  have p1 := pow10_pos (max ten 0).toNat
  have p2 := pow10_pos (max (-ten) 0).toNat
  have q1 := pow10_le (show (max ten 0).toNat ≤ 14 by omega)
  have q2 := pow10_le (show (max (-ten) 0).toNat ≤ 14 by omega)
  have e14 : (10 : Int) ^ 14 = 100000000000000 := by decide
  have e21 : (10 : Int) ^ 21 = 1000000000000000000000 := by decide
  have e35 : (10 : Int) ^ 35 = 100000000000000000000000000000000000 := by decide +kernel
  have e27 : (10 : Int) ^ 27 = 1000000000000000000000000000 := by decide +kernel
  generalize (10 : Int) ^ (max ten 0).toNat = P at *
  generalize (10 : Int) ^ (max (-ten) 0).toNat = Q at *
  have a1 : 0 < top * P := Int.mul_pos t0 p1
  have a2 : 0 < low * Q := Int.mul_pos (by omega) p2
  have a3 : top * P ≤ top * 10 ^ 14 := Int.mul_le_mul_of_nonneg_left q1 (by omega)
  have a4 : low * Q ≤ low * 10 ^ 14 := Int.mul_le_mul_of_nonneg_left q2 (by omega)
  have a5 : 1 * 10 ^ 35 ≤ low * Q * 10 ^ 35 := Int.mul_le_mul_of_nonneg_right (by omega) (by decide)
  have a6 : 1 * 10 ^ 27 ≤ top * P * 10 ^ 27 := Int.mul_le_mul_of_nonneg_right (by omega) (by decide)
  refine ⟨a1, a2, ?_, ?_, ?_, ?_⟩
  · rw [show 35 + 17 * 0 = 35 by rfl]; omega
  · rw [show 27 + 16 * 0 = 27 by rfl]; omega
  · rw [Int.pow_zero, Int.mul_one]; omega
  · omega

theorem law_ok {ns : List Int} (h : ns.length ≤ 63) (hf : 1500 < fuel) : ∃ s, callP fuel code (m + 8) 39 [.lst (ns.map .int)] [] = some (.bool true, s) := by
  have hc0 : CellOk [[.lst (ns.map .int), .int 0, .int 17]] := ⟨ns, 0, 17, rfl, h, by decide, by decide, by decide, by decide⟩
  obtain ⟨a, s1, g1, a0, a1, c1⟩ := sp_next (fuel := fuel) (m := m + 6) (many := 9) (by decide) hc0
  obtain ⟨v, s2, g2, v0, v1, c2⟩ := sp_next (fuel := fuel) (m := m + 6) (many := 7) (by decide) c1
  obtain ⟨low, hlow, l0, l1⟩ := lows_at v0 v1
  obtain ⟨n, s3, g3, n0, n1, c3⟩ := sp_next (fuel := fuel) (m := m + 6) (many := 21) (by decide) c2
  obtain ⟨top, y4, s4, hloop, c4, t0, t1⟩ := lw_2 (fuel := fuel) (m := m) (st := s2) (top := 1 + a) (low := low) (x0 := some (.lst (ns.map .int))) (x4 := none) g3 n0 n1 c3 (by omega) (by omega)
  obtain ⟨nines, s5, g5, b0, b1, c5⟩ := sp_next (fuel := fuel) (m := m + 6) (many := 3) (by decide) c4
  obtain ⟨ten, s6, g6, e0, e1, c6⟩ := sp_next (fuel := fuel) (m := m + 6) (many := 29) (by decide) c5
  obtain ⟨dg, s7, g7, d0, d1, c7⟩ := sp_next (fuel := fuel) (m := m + 6) (many := 9) (by decide) c6
  obtain ⟨g, rfl⟩ := Int.eq_ofNat_of_zero_le d0
  have seqrw : ∀ {A B : PS} {r r1 : Rho} {s s1 : Store}, ex fuel (callP fuel code (m + 7)) A r s = some (.next, r1, s1) → ex fuel (callP fuel code (m + 7)) (.seq A B) r s = ex fuel (callP fuel code (m + 7)) B r1 s1 := by
    intro A B r r1 s s1 h
    show (match ex fuel (callP fuel code (m + 7)) A r s with | some (.next, r₁, st₁) => ex fuel (callP fuel code (m + 7)) B r₁ st₁ | x => x) = _
    rw [h]
  -- the rest, once the first fraction stands
  have rest : ∀ (top low : Int) (s : Store), CellOk s → 0 < top → top < 10 ^ 21 → 1 ≤ low → low ≤ 1099511627776 →
      ∃ r' s', ex fuel (callP fuel code (m + 7)) (.seq lw5 (.seq lw6 lw7)) [some (.lst (ns.map .int)), some (.cell 0), some (.int top), some (.int low), y4, some (.int nines), some (.int (ten - 14)), some (.int g), none, none, none, none, none, none, none, none, none, none, none] s = some (.ret (.bool true), r', s') := by
    intro top low s hc p0 p1 q0 q1
    have big : (10 : Int) ^ 21 < 2 ^ 100 := by decide +kernel
    rw [lw_5 (fit_pow (k := 100) (by omega) (by omega) (by decide)) (fit_small (by omega)) (by omega) (by omega)]
    have hI : OutI (some (.lst (ns.map .int))) (some (.int nines)) (some (.int (ten - 14))) g 0
        [some (.lst (ns.map .int)), some (.cell 0), some (.int (top * 10 ^ (max (ten - 14) 0).toNat)), some (.int (low * 10 ^ (max (-(ten - 14)) 0).toNat)), y4, some (.int nines), some (.int (ten - 14)), some (.int g), some (.lst []), none, none, none, none, none, none, none, none, none, none] s :=
      ⟨_, _, [], _, _, _, _, _, _, _, _, _, _, _, rfl, hc, bnd0 p0 p1 q0 q1 (by omega) (by omega), .inl rfl⟩
    obtain ⟨r', s', e, hI'⟩ := for_upto (i := 4) (K := 4) (body := ex fuel (callP fuel code (m + 7)) ouB) (OutI (some (.lst (ns.map .int))) (some (.int nines)) (some (.int (ten - 14))) g)
      (fun k r s hk h => out_step (m := m) (show g ≤ 8 by omega) hf k r s hk h) 4 0 _ s rfl hI
    have e6 : ex fuel (callP fuel code (m + 7)) lw6 [some (.lst (ns.map .int)), some (.cell 0), some (.int (top * 10 ^ (max (ten - 14) 0).toNat)), some (.int (low * 10 ^ (max (-(ten - 14)) 0).toNat)), y4, some (.int nines), some (.int (ten - 14)), some (.int g), some (.lst []), none, none, none, none, none, none, none, none, none, none] s = some (.next, r', s') := by
      unfold lw6
      generalize ouB = W at e ⊢
      simp [ex, ev]
      exact e
    rw [seqrw e6]
    refine ⟨r', s', ?_⟩
    unfold lw7
    simp [ex, ev]
  have fin : ∀ {r : Rho} {s : Store}, (∃ r' s', ex fuel (callP fuel code (m + 7)) claw r s = some (.ret (.bool true), r', s')) → ∃ s', finP (ex fuel (callP fuel code (m + 7)) claw r s) = some (.bool true, s') := by
    rintro r s ⟨r', s', e⟩
    exact ⟨s', by rw [e]; rfl⟩
  rw [call_eq (fd := ⟨1, 18, claw⟩) rfl rfl]
  refine fin ?_
  show ∃ r' s', ex fuel (callP fuel code (m + 7)) claw [some (.lst (ns.map .int)), none, none, none, none, none, none, none, none, none, none, none, none, none, none, none, none, none, none] [] = some (.ret (.bool true), r', s')
  rw [law_eq, lw_0 h, lw_1 g1 g2 hlow, seqrw hloop, lw_3 g5 g6 g7]
  by_cases hn : nines = 2
  · obtain ⟨p, s8, g8, p0, p1, c8⟩ := sp_next (fuel := fuel) (m := m + 6) (many := 10) (by decide) c7
    obtain ⟨b, s9, g9, q0, q1, c9⟩ := sp_next (fuel := fuel) (m := m + 6) (many := 60) (by decide) c8
    obtain ⟨c, s10, g10, w0, w1, c10⟩ := sp_next (fuel := fuel) (m := m + 6) (many := 12) (by decide) c9
    rw [lw_4y hn g8 g9 g10 p0 p1 w0 w1]
    have e1 := pow10_le (show 6 ≤ (6 + p).toNat by omega)
    have e2 := pow10_le (show (6 + p).toNat ≤ 15 by omega)
    have e3 := pow10_le (show c.toNat ≤ 11 by omega)
    have e4 := pow10_pos c.toNat
    have z1 : (10 : Int) ^ 6 = 1000000 := by decide
    have z2 : (10 : Int) ^ 15 = 1000000000000000 := by decide
    have z3 : (10 : Int) ^ 11 = 100000000000 := by decide
    have z4 : (10 : Int) ^ 21 = 1000000000000000000000 := by decide
    exact rest _ _ _ c10 (by omega) (by omega) (by omega) (by omega)
  · rw [lw_4n hn]
    exact rest _ _ _ c7 t0 t1 l0 l1
end
end Mine
end
namespace Mine
theorem lawTrue : LawTrue := fun _ h => law_ok (fuel := 2000) (m := 4) h (by decide)
end Mine
theorem PySem.Challenge.cw_fe0133_01_holds : PySem.Challenge.rw_fe0133_01.Holds :=
  Mine.goal_of Mine.lawTrue
