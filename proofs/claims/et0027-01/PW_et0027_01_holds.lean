import PyProof.Rows.All
import Wide.All
import OpenK.AllK
import Wide.FinOn
import PySem.Challenge.RW_et0027_01
set_option Elab.async false
set_option linter.unusedVariables false
namespace Mine
open PySem PySem.W PyProof.Rows
set_option maxRecDepth 100000 in
set_option maxHeartbeats 8000000 in
open_top hd for PySem.Challenge.rw_et0027_01
end Mine
namespace Mine
open PySem

inductive MV where
  | none | bool (b : Bool) | int (i : Int) | str (s : List Nat) | bytes (b : List Nat)
  | tup (xs : List MV) | list (xs : List MV) | own (xs : List MV) | ref (a : Addr) | prim (n : Nat) | obj (k : Nat) | rng (a b c : Int) | text

def leq : List Nat → List Nat → Bool
  | [], [] => true
  | a :: r, b :: q => match Nat.beq a b with
    | true => leq r q
    | false => false
  | _, _ => false
def seq (a b : Str) : Bool := leq a.cps.toList b.cps.toList
def lk {α : Type} (x : Str) : List (Str × α) → Option α
  | [] => none
  | p :: r => match seq x p.1 with
    | true => some p.2
    | false => lk x r
def put {α : Type} (x : Str) (v : α) : List (Str × α) → List (Str × α)
  | [] => [(x, v)]
  | p :: r => match seq x p.1 with
    | true => (x, v) :: r
    | false => p :: put x v r
def lkN {α : Type} (a : Nat) : List (Nat × α) → Option α
  | [] => none
  | p :: r => match Nat.beq a p.1 with
    | true => some p.2
    | false => lkN a r

abbrev Loc := List (Str × MV)
abbrev Att := Str → Option MV
abbrev Sto := List Att
def noAtt : Att := fun _ => none
inductive Fl where
  | next | brk | cont | ret (v : MV) | exc (c : Addr)
inductive Out where
  | val (v : MV) | exc (c : Addr)

structure Fn where
  params : List Str
  body : List Stmt
  scope : Scope
structure Tab where
  glob : List (Str × MV)
  fn : List (Addr × Fn)
  C : Addr
  init : Addr
  meth : List (Str × Addr)
  cattr : List (Str × MV)
  attrs : List Str
  exc : List Addr
  smeth : List (Addr × List (Str × Addr))
  dict : List (Addr × List (MV × MV))
  dictI : List (Addr × List (MV × MV))

def memS (x : Str) : List Str → Bool
  | [] => false
  | y :: r => match seq x y with
    | true => true
    | false => memS x r
def mfilter {α : Type} (p : α → Bool) : List α → List α
  | [] => []
  | a :: r => match p a with
    | true => a :: mfilter p r
    | false => mfilter p r

def truthy : MV → Option Bool
  | .bool b => some b
  | .int i => some (match i with | .ofNat 0 => false | _ => true)
  | .list xs => some (match xs with | [] => false | _ => true)
  | _ => none

abbrev ibeq := PySem.W.Z.eqB
abbrev ilt := PySem.W.Z.ltB
abbrev ile := PySem.W.Z.leB

def isNat? : Int → Option Nat
  | .ofNat n => some n
  | .negSucc _ => none
/-- a difference that reduces where only the smaller number is known -/
def subN : (b a : Nat) → Int
  | 0, a => .ofNat a
  | b + 1, a => match a with
    | 0 => .negSucc b
    | a + 1 => subN b a
termination_by structural b => b
def subI : Int → Int → Int
  | .ofNat a, .ofNat b => subN b a
  | x, y => x - y
theorem subN_eq : ∀ (b a : Nat), subN b a = Int.ofNat a - Int.ofNat b
  | 0, a => by simp [subN]
  | b + 1, 0 => by simp only [subN, Int.ofNat_eq_natCast]; omega
  | b + 1, a + 1 => by simp only [subN]; rw [subN_eq b a]; simp only [Int.ofNat_eq_natCast]; omega
theorem subI_eq (x y : Int) : subI x y = x - y := by
  unfold subI
  split
  · exact subN_eq _ _
  · rfl
def binop (op : Operator) (a b : MV) : Option MV := match op, a, b with
  | .Add, .int x, .int y => some (.int (x + y))
  | .Sub, .int x, .int y => some (.int (subI x y))
  | .Mult, .int x, .int y => match ile (-1152921504606846976) x && ile x 1152921504606846976 && ile (-1152921504606846976) y && ile y 1152921504606846976 with
    | true => some (.int (x * y))
    | false => none
  | .Mod, .int x, .int (.ofNat (n + 1)) => some (.int (Int.fmod x (.ofNat (n + 1))))
  | .FloorDiv, .int x, .int (.ofNat (n + 1)) => match Nat.ble n 1000000 with
    | true => some (.int (Int.fdiv x (.ofNat (n + 1))))
    | false => none
  | .Pow, .int (.ofNat x), .int (.ofNat n) => match Nat.ble n 100 && Nat.ble x 1000000 with
    | true => some (.int (.ofNat (x ^ n)))
    | false => none
  | .BitAnd, .int (.ofNat x), .int (.ofNat y) => some (.int (.ofNat (x &&& y)))
  | .BitOr, .int (.ofNat x), .int (.ofNat y) => some (.int (.ofNat (x ||| y)))
  | .Add, .bytes x, .bytes y => match Nat.ble (x.length + y.length) 1000000 with
    | true => some (.bytes (x ++ y))
    | false => none
  | .Mult, .bytes (c :: x), .int (.ofNat n) => match Nat.ble (x.length + 1) 10 && Nat.ble n 1000 with
    | true => some (.bytes (List.replicate n (c :: x)).flatten)
    | false => none
  | .Add, .list x, .list y => match Nat.ble (x.length + y.length) 1000000 with
    | true => some (.list (x ++ y))
    | false => none
  | _, _, _ => none

def iop (op : Operator) (a b : MV) : Option MV := match op, a, b with
  | .Add, .int x, .int y => some (.int (x + y))
  | .Sub, .int x, .int y => some (.int (subI x y))
  | .Mult, .int _, .int _ => binop .Mult a b
  | .FloorDiv, .int _, .int _ => binop .FloorDiv a b
  | .BitOr, .int _, .int _ => binop .BitOr a b
  | .Add, .bytes _, .bytes _ => binop .Add a b
  | _, _, _ => none

def mEq : MV → MV → Option Bool
  | .int x, .int y => some (ibeq x y)
  | .str x, .str y => some (leq x y)
  | .bytes x, .bytes y => some (leq x y)
  | .bool x, .bool y => some (x == y)
  | _, _ => none
def ints? : List MV → Option (List Int)
  | [] => some []
  | .int x :: r => (ints? r).map (x :: ·)
  | _ => none
def strs? : List MV → Option (List (List Nat))
  | [] => some []
  | .str x :: r => (strs? r).map (x :: ·)
  | _ => none
def anyInt (x : Int) : List Int → Bool
  | [] => false
  | y :: r => match ibeq y x with
    | true => true
    | false => anyInt x r
def anyStr (x : List Nat) : List (List Nat) → Bool
  | [] => false
  | y :: r => match leq y x with
    | true => true
    | false => anyStr x r
def mIn : MV → List MV → Option Bool
  | .int x, xs => (ints? xs).map (anyInt x)
  | .str x, xs => (strs? xs).map (anyStr x)
  | _, _ => none
def cmp (op : CmpOp) (a b : MV) : Option Bool := match op, a, b with
  | .Eq, a, b => mEq a b
  | .NotEq, .int x, .int y => some (!ibeq x y)
  | .Lt, .int x, .int y => some (ilt x y)
  | .LtE, .int x, .int y => some (ile x y)
  | .Gt, .int x, .int y => some (ilt y x)
  | .GtE, .int x, .int y => some (ile y x)
  | .In, a, .list xs => mIn a xs
  | .NotIn, a, .list xs => (mIn a xs).map not
  | .Is, .obj i, .obj j => some (Nat.beq i j)
  | .IsNot, .prim 9, .prim 9 => some false
  | _, _, _ => none

def constMV : Const → Option MV
  | .none => some .none
  | .bool b => some (.bool b)
  | .int i => some (.int i)
  | .str s => match Nat.ble s.length 1000000 with
    | true => some (.str s.cps.toList)
    | false => none
  | .bytes b => match Nat.ble b.length 1000000 with
    | true => some (.bytes (b.map (·.toNat)))
    | false => none
  | _ => none

def nameMV (T : Tab) (sc : Scope) (l : Loc) (x : Str) : Option MV := match seq x "__debug__" with
 | true => none
 | false => match lk x sc.names with
  | some .globalImplicit => lk x T.glob
  | some .globalExplicit => none
  | some _ => (lk x l).bind fun v => match v with | .own _ => none | v => some v
  | none => none

def rngGo (a c : Int) : Nat → List MV
  | 0 => []
  | n + 1 => .int a :: rngGo (a + c) c n
def rngLen (a b c : Int) : Nat := match ilt a b with
  | true => ((b - a - 1).fdiv c).toNat + 1
  | false => 0
def items (T : Tab) : MV → Option (List MV)
  | .list xs => some xs
  | .bytes b => some (b.map fun n => .int (.ofNat n))
  | .str s => some (s.map fun n => .str [n])
  | .ref a => (lkN a T.dict).map fun d => d.map (·.1)
  | .rng a b (.ofNat (c + 1)) => match ilt (-1000000000) a && ilt a 1000000000 && ilt (-1000000000) b && ilt b 1000000000 && Nat.blt c 1000000 with
    | true => some (rngGo a (.ofNat (c + 1)) (rngLen a b (.ofNat (c + 1))))
    | false => none
  | _ => none

def getL {α : Type} : List α → Nat → Option α
  | [], _ => none
  | a :: _, 0 => some a
  | _ :: r, n + 1 => getL r n
def dictGet (k : MV) : List (MV × MV) → Option MV
  | [] => none
  | p :: r => (mEq p.1 k).bind fun b => match b with
    | true => some p.2
    | false => dictGet k r
def item (T : Tab) (o i : MV) : Option MV := match o, i with
  | .list xs, .int (.ofNat n) => getL xs n
  | .tup xs, .int (.ofNat n) => getL xs n
  | .bytes b, .int (.ofNat n) => (getL b n).map fun k => .int (.ofNat k)
  | .ref a, .int k => (lkN a T.dictI).bind (dictGet (.int k))
  | .ref a, .str k => (lkN a T.dict).bind (dictGet (.str k))
  | _, _ => none
def cut {α : Type} (lo hi : Option Nat) (xs : List α) : List α :=
  let ys := match hi with | some h => xs.take h | none => xs
  match lo with | some l => ys.drop l | none => ys
def slice (o : MV) (lo hi : Option Nat) : Option MV := match o, lo, hi with
  | .list xs, lo, hi => some (.list (cut lo hi xs))
  | .bytes b, lo, hi => some (.bytes (cut lo hi b))
  | .str s, none, some k => some (.str (s.take k))
  | _, _, _ => none

/-- all signs `c` struck -/
def strike (c : Nat) : List Nat → List Nat
  | [] => []
  | a :: r => match Nat.beq a c with
    | true => strike c r
    | false => a :: strike c r
def utf8 : Nat → List Nat := fun c =>
  match Nat.blt c 128 with
  | true => [c]
  | false => match Nat.blt c 2048 with
    | true => [192 + c / 64, 128 + c % 64]
    | false => match Nat.blt c 65536 with
      | true => [224 + c / 4096, 128 + c / 64 % 64, 128 + c % 64]
      | false => [240 + c / 262144, 128 + c / 4096 % 64, 128 + c / 64 % 64, 128 + c % 64]
def encode (s : List Nat) : List Nat := s.flatMap utf8
/-- the four texts of the law -/
def texts : List (List Nat) := [[], [97], [233, 8364], [66376, 32, 120]]
def decodeIn (b : List Nat) : List (List Nat) → Option (List Nat)
  | [] => none
  | t :: r => match leq (encode t) b with
    | true => some t
    | false => decodeIn b r
def toBig : Nat → Nat → List Nat
  | 0, _ => []
  | k + 1, x => toBig k (x / 256) ++ [x % 256]
def idxOf (x : List Nat) : List (List Nat) → Nat → Option Nat
  | [], _ => none
  | y :: r, n => match leq y x with
    | true => some n
    | false => idxOf x r (n + 1)
def allByte : List MV → Option (List Nat)
  | [] => some []
  | .int (.ofNat n) :: r => match Nat.blt n 256 with
    | true => (allByte r).map (n :: ·)
    | false => none
  | _ :: _ => none

def bmeth (nm : Str) (o : MV) (args : List MV) : Option MV := match o, args with
  | .str s, [.str e] => match seq nm "encode" && leq e [117, 116, 102, 45, 56] with
    | true => match anyStr s texts with
      | true => some (.bytes (encode s))
      | false => none
    | false => none
  | .bytes b, [.str e] => match seq nm "decode" && leq e [117, 116, 102, 45, 56] with
    | true => (decodeIn b texts).map .str
    | false => none
  | .int (.ofNat x), [.int (.ofNat k), .str e] => match seq nm "to_bytes" && leq e [98, 105, 103] && Nat.ble k 8 && Nat.blt x (256 ^ k) with
    | true => some (.bytes (toBig k x))
    | false => none
  | .list xs, [.str x] => match seq nm "index" with
    | true => (strs? xs).bind fun l => (idxOf x l 0).map fun n => .int (.ofNat n)
    | false => none
  | _, _ => none

/-- 0 len, 1 type, 2 isinstance, 3 ord, 4 hasattr, 5 getattr, 6 range, 7 bytes, 8 list, 9 str -/
def kindOf : MV → Option Nat
  | .str _ => some 9
  | .bytes _ => some 7
  | .list _ => some 8
  | .int _ => some 10
  | .tup _ => some 11
  | _ => none
def bfun (T : Tab) (n : Nat) (s : Sto) (args : List MV) : Option MV := match n, args with
  | 0, [.list xs] => some (.int (.ofNat xs.length))
  | 0, [.bytes b] => some (.int (.ofNat b.length))
  | 1, [.str _] => some (.prim 9)
  | 2, [v, .prim k] => (kindOf v).bind fun j => match Nat.beq k 7 || Nat.beq k 8 with
    | true => some (.bool (Nat.beq j k))
    | false => none
  | 3, [.str [c]] => some (.int (.ofNat c))
  | 4, [.obj k, .str x] => (getL s k).bind fun a => match memS ⟨x.toArray⟩ T.attrs with
    | true => some (.bool (a ⟨x.toArray⟩).isSome)
    | false => none
  | 5, [.obj k, .str x] => (getL s k).bind fun a => match memS ⟨x.toArray⟩ T.attrs with
    | true => a ⟨x.toArray⟩
    | false => none
  | 6, [.int a, .int b, .int (.ofNat (c + 1))] => match ilt (-1000000000) a && ilt a 1000000000 && ilt (-1000000000) b && ilt b 1000000000 && Nat.blt c 1000000 with
    | true => some (.rng a b (.ofNat (c + 1)))
    | false => none
  | 7, [.list xs] => (allByte xs).map .bytes
  | 8, [.ref a] => (lkN a T.dict).map fun d => .list (d.map (·.1))
  | _, _ => none

def smallCps : List Nat → Bool
  | [] => true
  | c :: r => match Nat.blt c 4294967296 with
    | true => smallCps r
    | false => false
/-- more than the signs that such a list shows -/
def textLen : List (List Nat) → Option Nat
  | [] => some 2
  | x :: r => match smallCps x with
    | true => (textLen r).map fun n => n + (10 * x.length + 4)
    | false => none
def textOf : MV → Bool
  | .str _ => true
  | .list xs => match (strs? xs).bind textLen with
    | some n => Nat.ble n 1000000
    | none => false
  | _ => false
def joinGo (f : Sto → Expr → Option (MV × Sto)) : List Expr → Sto → Option Sto
  | [], s => some s
  | .Constant (.str x) _ _ :: r, s => match Nat.ble x.length 1000000 with
    | true => joinGo f r s
    | false => none
  | .FormattedValue e (.negSucc 0) none _ :: r, s => (f s e).bind fun p => match textOf p.1 with
    | true => joinGo f r p.2
    | false => none
  | _, _ => none

structure Rec where
  ev : Scope → Loc → Sto → Expr → Option (MV × Sto)
  tr : Scope → Loc → Sto → Expr → Option (Bool × Sto)
  ex : Scope → Loc → Sto → Stmt → Option (Fl × Loc × Sto)
  ca : Addr → List MV → Sto → Option (Out × Sto)
  wh : Scope → Expr → List Stmt → Loc → Sto → Option (Fl × Loc × Sto)

def isStar : Expr → Bool | .Starred .. => true | _ => false
def isSetD : Expr → Bool | .Set .. => true | _ => false
def isComp : Expr → Bool | .ListComp .. => true | .SetComp .. => true | .DictComp .. => true | _ => false
def isCallE : Expr → Bool | .Call .. => true | _ => false
def isSlice : Expr → Bool | .Slice .. => true | _ => false
def isTupE : Expr → Bool | .Tuple .. => true | _ => false
def evs (f : Sto → Expr → Option (MV × Sto)) : List Expr → Sto → Option (List MV × Sto)
  | [], s => some ([], s)
  | e :: r, s => match isStar e with
    | true => none
    | false => (f s e).bind fun p => (evs f r p.2).bind fun q => some (p.1 :: q.1, q.2)
def boolGo (op : BoolOp) (f : Sto → Expr → Option (MV × Sto)) : List Expr → Sto → Option (MV × Sto)
  | [], _ => none
  | [e], s => f s e
  | e :: r, s => (f s e).bind fun p => (truthy p.1).bind fun b => match op, b with
    | .And, false => some p
    | .Or, true => some p
    | _, _ => boolGo op f r p.2
def trueGo (op : BoolOp) (f : Sto → Expr → Option (Bool × Sto)) : List Expr → Sto → Option (Bool × Sto)
  | [], s => some (match op with | .And => true | .Or => false, s)
  | e :: r, s => (f s e).bind fun p => match op, p.1 with
    | .And, false => some (false, p.2)
    | .Or, true => some (true, p.2)
    | _, _ => trueGo op f r p.2
def cmpGo (f : Sto → Expr → Option (MV × Sto)) : MV → List CmpOp → List Expr → Sto → Option (Bool × Sto)
  | a, [op], [e], s => match isSetD e with
    | true => none
    | false => (f s e).bind fun p => (cmp op a p.1).map fun b => (b, p.2)
  | a, op :: op' :: ops, e :: e' :: es, s => (f s e).bind fun p => (cmp op a p.1).bind fun b => match b with
    | true => cmpGo f p.1 (op' :: ops) (e' :: es) p.2
    | false => some (false, p.2)
  | _, _, _, _ => none
def exs (f : Loc → Sto → Stmt → Option (Fl × Loc × Sto)) : List Stmt → Loc → Sto → Option (Fl × Loc × Sto)
  | [], l, s => some (.next, l, s)
  | t :: r, l, s => (f l s t).bind fun p => match p.1 with
    | .next => exs f r p.2.1 p.2.2
    | _ => some p
/-- the names of `l0` alone: what a loop's turn has bound anew is forgotten -/
def restr (l0 l : Loc) : Loc := mfilter (fun p => memS p.1 (l0.map fun p => p.1)) l
def forGo (f : Loc → Sto → Option (Fl × Loc × Sto)) (x : Str) : List MV → Loc → Sto → Option (Fl × Loc × Sto)
  | [], l, s => some (.next, l, s)
  | v :: r, l, s => (f (put x v l) s).bind fun p => match p.1 with
    | .next => forGo f x r (restr l p.2.1) p.2.2
    | .cont => forGo f x r (restr l p.2.1) p.2.2
    | .brk => some (.next, p.2)
    | .ret v => some (.ret v, p.2)
    | .exc _ => none

def bound (o : Option Expr) (f : Sto → Expr → Option (MV × Sto)) (s : Sto) : Option (Option Nat × Sto) := match o with
  | none => some (none, s)
  | some e => (f s e).bind fun p => match p.1 with
    | .int (.ofNat n) => some (some n, p.2)
    | _ => none

/-- the free names of a comprehension, out of the frame around it -/
def compLoc (names : List (Str × NameKind)) (sc : Scope) (x : Str) (l : Loc) : Option Loc := match names with
  | [(a, .local), (y, .local)] => match seq y x && !seq a x with
    | true => some []
    | false => none
  | [(a, .local), (y, .local), (f, .free)] => match seq y x && !seq a x && !seq f x && !seq f a with
    | true => match lk f sc.names, lk f l with
      | some .cell, some (.own _) => none
      | some .cell, some v => some [(f, v)]
      | _, _ => none
    | false => none
  | _ => none
def isFun : ScopeKind → Bool | .function => true | _ => false
def compGo (test : Option (Loc → Sto → Option (Bool × Sto))) (elt : Loc → Sto → Option (MV × Sto)) (x : Str) (l : Loc) : List MV → Sto → Option (List MV × Sto)
  | [], s => some ([], s)
  | v :: r, s => (match test with | some t => t ((x, v) :: l) s | none => some (true, s)).bind fun b => match b.1 with
    | true => (elt ((x, v) :: l) b.2).bind fun p => (compGo test elt x l r p.2).bind fun q => some (p.1 :: q.1, q.2)
    | false => compGo test elt x l r b.2

def attrOf (T : Tab) (nm : Str) (o : MV) (s : Sto) : Option MV := match o with
  | .obj k => (getL s k).bind fun a => match memS nm T.attrs with
    | true => a nm
    | false => (lk nm T.cattr).bind fun v => match a nm with | none => some v | some _ => none
  | _ => none

def source (T : Tab) (l : Loc) (e : Expr) (f : Sto → Expr → Option (MV × Sto)) (s : Sto) : Option (List MV × Sto) := match e with
  | .Name y _ => match lk y l with
    | some (.own xs) => some (xs, s)
    | _ => (f s e).bind fun p => (items T p.1).map fun xs => (xs, p.2)
  | e => (f s e).bind fun p => (items T p.1).map fun xs => (xs, p.2)

def ownName (l : Loc) : Expr → Option (Str × List MV)
  | .Name y _ => match lk y l with
    | some (.own xs) => some (y, xs)
    | _ => none
  | _ => none

def compS (T : Tab) (r : Rec) (sc : Scope) (l : Loc) (s : Sto) (elt : Expr) (x : Str) (iter : Expr) (ifs : List Expr) (csc : Scope) : Option (List MV × Sto) :=
  match isFun csc.kind with
  | false => none
  | true => (compLoc csc.names sc x l).bind fun l0 => (source T l iter (r.ev sc l) s).bind fun q => match Nat.ble q.1.length 1000000 with
   | false => none
   | true => match ifs with
    | [] => compGo none (fun l' s' => r.ev csc l' s' elt) x l0 q.1 q.2
    | [c] => compGo (some fun l' s' => r.tr csc l' s' c) (fun l' s' => r.ev csc l' s' elt) x l0 q.1 q.2
    | _ => none

def valOut : Option (Out × Sto) → Option (MV × Sto)
  | some (.val v, s) => some (v, s)
  | _ => none

def methS (T : Tab) (r : Rec) (nm : Str) (o : MV) (args : List MV) (s : Sto) : Option (Out × Sto) := match o with
  | .obj _ => match memS nm T.attrs with
    | false => (lk nm T.meth).bind fun f => r.ca f (o :: args) s
    | true => none
  | .ref a => (lkN a T.smeth).bind fun t => (lk nm t).bind fun f => r.ca f args s
  | o => (bmeth nm o args).map fun v => (.val v, s)
def callS (T : Tab) (r : Rec) (f : MV) (args : List MV) (s : Sto) : Option (Out × Sto) := match f with
  | .ref a => match Nat.beq a T.C with
    | true => match r.ca T.init (.obj s.length :: args) (s ++ [noAtt]) with
      | some (.val .none, s') => some (.val (.obj s.length), s')
      | _ => none
    | false => r.ca a args s
  | .prim n => (bfun T n s args).map fun v => (.val v, s)
  | _ => none

def evCall (T : Tab) (r : Rec) (sc : Scope) (l : Loc) (s : Sto) : Expr → Option (Out × Sto)
  | .Call (.Attribute o nm ap) args [] pos => match !isCallE o && Nat.beq ap.endLine pos.line && Nat.blt args.length 29 with
    | false => none
    | true => (r.ev sc l s o).bind fun p => match p.1, args with
      | .str x, [.Constant (.str y) _ _, .Constant (.str z) _ _] => match seq nm "replace", y.cps.toList, z.cps.toList with
        | true, [c], [] => some (.val (.str (strike c x)), p.2)
        | _, _, _ => none
      | _, _ => (evs (r.ev sc l) args p.2).bind fun q => methS T r nm p.1 q.1 q.2
  | .Call f args [] _ => (r.ev sc l s f).bind fun p => (evs (r.ev sc l) args p.2).bind fun q => callS T r p.1 q.1 q.2
  | _ => none

def evS (T : Tab) (r : Rec) (sc : Scope) (l : Loc) (s : Sto) (e : Expr) : Option (MV × Sto) := match e with
  | .Constant c _ _ => (constMV c).map fun v => (v, s)
  | .Name x _ => (nameMV T sc l x).map fun v => (v, s)
  | .BoolOp op vs _ => boolGo op (r.ev sc l) vs s
  | .BinOp a op b _ => (r.ev sc l s a).bind fun p => (r.ev sc l p.2 b).bind fun q => (binop op p.1 q.1).map fun v => (v, q.2)
  | .UnaryOp .Not a _ => (r.ev sc l s a).bind fun p => (truthy p.1).map fun b => (.bool (!b), p.2)
  | .UnaryOp .USub (.Constant (.int i) _ _) _ => some (.int (-i), s)
  | .IfExp t a b _ => (r.tr sc l s t).bind fun p => match p.1 with
    | true => r.ev sc l p.2 a
    | false => r.ev sc l p.2 b
  | .List es _ => match Nat.ble es.length 1000 with
    | true => (evs (r.ev sc l) es s).map fun p => (.list p.1, p.2)
    | false => none
  | .Tuple es _ _ => match Nat.ble es.length 1000 with
    | true => (evs (r.ev sc l) es s).map fun p => (.tup p.1, p.2)
    | false => none
  | .ListComp elt [⟨.Name x _, iter, ifs, 0⟩] csc _ => match isSetD iter with
    | true => none
    | false => (compS T r sc l s elt x iter ifs csc).map fun p => (.list p.1, p.2)
  | .Compare a ops bs _ => (r.ev sc l s a).bind fun p => (cmpGo (r.ev sc l) p.1 ops bs p.2).map fun q => (.bool q.1, q.2)
  | .Call f args kws pos => match f, args, kws with
    | .Name fn _, [.Name x _], [] => match lk x l with
      | some (.own xs) => match nameMV T sc l fn with
        | some (.prim 0) => some (.int (.ofNat xs.length), s)
        | _ => none
      | _ => valOut (evCall T r sc l s (.Call f args kws pos))
    | _, _, _ => valOut (evCall T r sc l s (.Call f args kws pos))
  | .Attribute o nm _ => match isCallE o with
    | true => none
    | false => (r.ev sc l s o).bind fun p => (attrOf T nm p.1 p.2).map fun v => (v, p.2)
  | .Subscript o (.Slice lo hi none _) _ => (r.ev sc l s o).bind fun p => (bound lo (r.ev sc l) p.2).bind fun a => (bound hi (r.ev sc l) a.2).bind fun b => (slice p.1 a.1 b.1).map fun v => (v, b.2)
  | .Subscript o i _ => match isSlice i with
    | true => none
    | false => (r.ev sc l s o).bind fun p => (r.ev sc l p.2 i).bind fun q => (item T p.1 q.1).map fun v => (v, q.2)
  | .JoinedStr (a :: b :: es) _ => match Nat.ble es.length 8 with
    | true => (joinGo (r.ev sc l) (a :: b :: es) s).map fun s' => (.text, s')
    | false => none
  | _ => none

def trS (_T : Tab) (r : Rec) (sc : Scope) (l : Loc) (s : Sto) (e : Expr) : Option (Bool × Sto) := match e with
  | .UnaryOp .Not a _ => (r.tr sc l s a).map fun p => (!p.1, p.2)
  | .BoolOp op vs _ => trueGo op (r.tr sc l) vs s
  | .IfExp .. => none
  | .Compare a ops bs _ => (r.ev sc l s a).bind fun p => cmpGo (r.ev sc l) p.1 ops bs p.2
  | e => (r.ev sc l s e).bind fun p => (truthy p.1).map fun b => (b, p.2)

def canSto (sc : Scope) (x : Str) : Bool := match lk x sc.names with
  | some .local => true
  | some .cell => true
  | _ => false
def isLocal (sc : Scope) (x : Str) : Bool := match lk x sc.names with
  | some .local => true
  | _ => false
def rowsName : Str := "rows"
def evH (T : Tab) (sc : Scope) (l : Loc) : Nat → Expr → Option MV
  | 0, _ => none
  | _ + 1, .Name x _ => nameMV T sc l x
  | n + 1, .UnaryOp .Not a _ => (evH T sc l n a).bind fun v => (truthy v).map fun b => .bool (!b)
  | n + 1, .BoolOp .And [a, b] _ => (evH T sc l n a).bind fun v => (truthy v).bind fun c => match c with
    | false => some v
    | true => evH T sc l n b
  | _, _ => none
def exH (T : Tab) (sc : Scope) (l : Loc) : List Stmt → Option (Fl × Loc)
  | [.Continue _] => some (.cont, l)
  | [.Assign [.Name x _] e _] => match canSto sc x with
    | true => (evH T sc l 8 e).map fun v => (.next, put x v l)
    | false => none
  | _ => none

def asgn (sc : Scope) (xs : List Expr) (vs : List MV) (l : Loc) : Option Loc := match xs, vs with
  | [], [] => some l
  | .Name x _ :: r, v :: q => match canSto sc x with
    | true => asgn sc r q (put x v l)
    | false => none
  | _, _ => none

def memN (a : Nat) : List Nat → Bool
  | [] => false
  | b :: r => match Nat.beq a b with
    | true => true
    | false => memN a r
def exS (T : Tab) (r : Rec) (sc : Scope) (l : Loc) (s : Sto) (t : Stmt) : Option (Fl × Loc × Sto) := match t with
  | .Pass _ => some (.next, l, s)
  | .Break _ => some (.brk, l, s)
  | .Continue _ => some (.cont, l, s)
  | .Return none _ => some (.ret .none, l, s)
  | .Return (some e) _ => (r.ev sc l s e).map fun p => (.ret p.1, l, p.2)
  | .Expr (.Call f args kws pos) _ => match f, args, kws with
    | .Attribute (.Name y _) nm ap, [e], [] => match lk y l with
      | some (.own xs) => match seq nm "append" && Nat.beq ap.endLine pos.line && !isStar e && Nat.ble xs.length 1000 with
        | true => (r.ev sc l s e).map fun p => (.next, put y (.own (xs ++ [p.1])) l, p.2)
        | false => none
      | _ => match evCall T r sc l s (.Call f args kws pos) with
        | some (.val .none, s') => some (.next, l, s')
        | _ => none
    | _, _, _ => match evCall T r sc l s (.Call f args kws pos) with
      | some (.val .none, s') => some (.next, l, s')
      | _ => none
  | .Assign [.Name x px] e _ => match canSto sc x with
   | false => none
   | true => match seq x rowsName && isLocal sc x with
    | true => match e with
      | .List [] _ => some (.next, put x (.own []) l, s)
      | .ListComp elt [⟨.Name y _, iter, ifs, 0⟩] csc cp => match isSetD iter || !Nat.beq px.line cp.line || memS x (csc.names.map fun p => p.1) with
        | true => none
        | false => (compS T r sc l s elt y iter ifs csc).map fun p => (.next, put x (.own p.1) l, p.2)
      | _ => none
    | false => match isComp e with
      | true => none
      | false => (r.ev sc l s e).map fun p => (.next, put x p.1 l, p.2)
  | .Assign [.Tuple xs _ _] e _ => match isTupE e || isComp e with
    | true => none
    | false => (r.ev sc l s e).bind fun p => match p.1 with
      | .tup vs => (asgn sc xs vs l).map fun l' => (.next, l', p.2)
      | _ => none
  | .Assign [.Attribute o nm _] e _ => match isComp e with
   | true => none
   | false => (r.ev sc l s e).bind fun p => (r.ev sc l p.2 o).bind fun q => match q.1 with
    | .obj k => match memS nm T.attrs, getL q.2 k with
      | true, some a => some (.next, l, q.2.set k fun y => match seq y nm with | true => some p.1 | false => a y)
      | _, _ => none
    | _ => none
  | .AugAssign (.Name x _) op e _ => match canSto sc x with
   | false => none
   | true => (nameMV T sc l x).bind fun a => (r.ev sc l s e).bind fun p => (iop op a p.1).map fun v => (.next, put x v l, p.2)
  | .If c a b _ => (r.tr sc l s c).bind fun p => exs (fun l' s' t' => r.ex sc l' s' t') (match p.1 with | true => a | false => b) l p.2
  | .While c a [] _ => r.wh sc c a l s
  | .For (.Name x _) it a [] _ => match isSetD it || !canSto sc x, ownName l it with
    | true, _ => none
    | false, some q => forGo (fun l' s' => exs (fun l'' s'' t' => r.ex sc l'' s'' t') a l' s') x q.2 (put q.1 (.list q.2) l) s
    | false, none => (source T l it (r.ev sc l) s).bind fun q => forGo (fun l' s' => exs (fun l'' s'' t' => r.ex sc l'' s'' t') a l' s') x q.1 l q.2
  | .Raise (some (.Call (.Name c _) [e] [] _)) none _ => match nameMV T sc l c with
    | some (.ref a) => match memN a T.exc && !isStar e with
      | true => (r.ev sc l s e).bind fun p => match p.1 with
        | .text => some (.exc a, l, p.2)
        | .str _ => some (.exc a, l, p.2)
        | _ => none
      | false => none
    | _ => none
  | .Try (.Expr (.Call f args kws pos) _ :: a) [.ExceptHandler (some (.Name c _)) none hb _] [] [] _ => match lk "ident" sc.names with
   | some .cell => match evCall T r sc l s (.Call f args kws pos) with
    | some (.val .none, s') => (exs (fun l' s' t' => r.ex sc l' s' t') a l s').bind fun p => match p.1 with
      | .exc _ => none
      | _ => some p
    | some (.exc e, s') => match nameMV T sc l c with
      | some (.ref a) => match Nat.beq a e && memN a T.exc with
        | true => (exH T sc l hb).map fun q => (q.1, q.2, s')
        | false => none
      | _ => none
    | _ => none
   | _ => none
  | _ => none

def whS (_T : Tab) (r : Rec) (sc : Scope) (c : Expr) (a : List Stmt) (l : Loc) (s : Sto) : Option (Fl × Loc × Sto) :=
  (r.tr sc l s c).bind fun p => match p.1 with
    | false => some (.next, l, p.2)
    | true => (exs (fun l' s' t' => r.ex sc l' s' t') a l p.2).bind fun q => match q.1 with
      | .next => r.wh sc c a (restr l q.2.1) q.2.2
      | .cont => r.wh sc c a (restr l q.2.1) q.2.2
      | .brk => some (.next, q.2)
      | .ret v => some (.ret v, q.2)
      | .exc _ => none

def zipArgs : List Str → List MV → Option Loc
  | [], [] => some []
  | x :: r, v :: q => (zipArgs r q).map ((x, v) :: ·)
  | _, _ => none
def caS (T : Tab) (r : Rec) (f : Addr) (args : List MV) (s : Sto) : Option (Out × Sto) :=
  (lkN f T.fn).bind fun fn => (zipArgs fn.params args).bind fun l =>
    (exs (fun l' s' t' => r.ex fn.scope l' s' t') fn.body l s).bind fun p => match p.1 with
      | .next => some (.val .none, p.2.2)
      | .ret v => some (.val v, p.2.2)
      | .exc c => some (.exc c, p.2.2)
      | _ => none

def step (T : Tab) (r : Rec) : Rec where
  ev := evS T r
  tr := trS T r
  ex := exS T r
  ca := caS T r
  wh := whS T r
def run (T : Tab) : Nat → Rec
  | 0 => ⟨fun _ _ _ _ => none, fun _ _ _ _ => none, fun _ _ _ _ => none, fun _ _ _ => none, fun _ _ _ _ _ => none⟩
  | n + 1 => step T (run T n)
end Mine
namespace Mine
open PySem
def asFn : Option Stmt → Fn
  | some (.FunctionDef _ a b _ _ _ sc _ _ _) => ⟨a.args.map (·.arg), b, sc⟩
  | _ => ⟨[], [], ⟨.function, [], false, false, []⟩⟩
def clsBody : Option Stmt → List Stmt
  | some (.ClassDef _ _ _ b _ _ _ _ _ _ _) => b
  | _ => []
def prog : List Stmt := PySem.Challenge.pw_et0027_01.main.body
def fnAt (i : Nat) : Fn := asFn (getL prog i)
def mtAt (c i : Nat) : Fn := asFn (getL (clsBody (getL prog c)) i)

def namesL : List (List Nat) := [[80, 97, 121, 108, 111, 97, 100, 32, 70, 111, 114, 109, 97, 116, 32, 73, 110, 100, 105, 99, 97, 116, 111, 114], [77, 101, 115, 115, 97, 103, 101, 32, 69, 120, 112, 105, 114, 121, 32, 73, 110, 116, 101, 114, 118, 97, 108], [67, 111, 110, 116, 101, 110, 116, 32, 84, 121, 112, 101], [82, 101, 115, 112, 111, 110, 115, 101, 32, 84, 111, 112, 105, 99], [67, 111, 114, 114, 101, 108, 97, 116, 105, 111, 110, 32, 68, 97, 116, 97], [83, 117, 98, 115, 99, 114, 105, 112, 116, 105, 111, 110, 32, 73, 100, 101, 110, 116, 105, 102, 105, 101, 114], [83, 101, 115, 115, 105, 111, 110, 32, 69, 120, 112, 105, 114, 121, 32, 73, 110, 116, 101, 114, 118, 97, 108], [65, 115, 115, 105, 103, 110, 101, 100, 32, 67, 108, 105, 101, 110, 116, 32, 73, 100, 101, 110, 116, 105, 102, 105, 101, 114], [83, 101, 114, 118, 101, 114, 32, 75, 101, 101, 112, 32, 65, 108, 105, 118, 101], [65, 117, 116, 104, 101, 110, 116, 105, 99, 97, 116, 105, 111, 110, 32, 77, 101, 116, 104, 111, 100], [65, 117, 116, 104, 101, 110, 116, 105, 99, 97, 116, 105, 111, 110, 32, 68, 97, 116, 97], [82, 101, 113, 117, 101, 115, 116, 32, 80, 114, 111, 98, 108, 101, 109, 32, 73, 110, 102, 111, 114, 109, 97, 116, 105, 111, 110], [87, 105, 108, 108, 32, 68, 101, 108, 97, 121, 32, 73, 110, 116, 101, 114, 118, 97, 108], [82, 101, 113, 117, 101, 115, 116, 32, 82, 101, 115, 112, 111, 110, 115, 101, 32, 73, 110, 102, 111, 114, 109, 97, 116, 105, 111, 110], [82, 101, 115, 112, 111, 110, 115, 101, 32, 73, 110, 102, 111, 114, 109, 97, 116, 105, 111, 110], [83, 101, 114, 118, 101, 114, 32, 82, 101, 102, 101, 114, 101, 110, 99, 101], [82, 101, 97, 115, 111, 110, 32, 83, 116, 114, 105, 110, 103], [82, 101, 99, 101, 105, 118, 101, 32, 77, 97, 120, 105, 109, 117, 109], [84, 111, 112, 105, 99, 32, 65, 108, 105, 97, 115, 32, 77, 97, 120, 105, 109, 117, 109], [84, 111, 112, 105, 99, 32, 65, 108, 105, 97, 115], [77, 97, 120, 105, 109, 117, 109, 32, 81, 111, 83], [82, 101, 116, 97, 105, 110, 32, 65, 118, 97, 105, 108, 97, 98, 108, 101], [85, 115, 101, 114, 32, 80, 114, 111, 112, 101, 114, 116, 121], [77, 97, 120, 105, 109, 117, 109, 32, 80, 97, 99, 107, 101, 116, 32, 83, 105, 122, 101], [87, 105, 108, 100, 99, 97, 114, 100, 32, 83, 117, 98, 115, 99, 114, 105, 112, 116, 105, 111, 110, 32, 65, 118, 97, 105, 108, 97, 98, 108, 101], [83, 117, 98, 115, 99, 114, 105, 112, 116, 105, 111, 110, 32, 73, 100, 101, 110, 116, 105, 102, 105, 101, 114, 32, 65, 118, 97, 105, 108, 97, 98, 108, 101], [83, 104, 97, 114, 101, 100, 32, 83, 117, 98, 115, 99, 114, 105, 112, 116, 105, 111, 110, 32, 65, 118, 97, 105, 108, 97, 98, 108, 101]]
def identsL : List Nat := [1, 2, 3, 8, 9, 11, 17, 18, 19, 21, 22, 23, 24, 25, 26, 28, 31, 33, 34, 35, 36, 37, 38, 39, 40, 41, 42]
def namesD : List (MV × MV) := [(.str [80, 97, 121, 108, 111, 97, 100, 32, 70, 111, 114, 109, 97, 116, 32, 73, 110, 100, 105, 99, 97, 116, 111, 114], .int 1), (.str [77, 101, 115, 115, 97, 103, 101, 32, 69, 120, 112, 105, 114, 121, 32, 73, 110, 116, 101, 114, 118, 97, 108], .int 2), (.str [67, 111, 110, 116, 101, 110, 116, 32, 84, 121, 112, 101], .int 3), (.str [82, 101, 115, 112, 111, 110, 115, 101, 32, 84, 111, 112, 105, 99], .int 8), (.str [67, 111, 114, 114, 101, 108, 97, 116, 105, 111, 110, 32, 68, 97, 116, 97], .int 9), (.str [83, 117, 98, 115, 99, 114, 105, 112, 116, 105, 111, 110, 32, 73, 100, 101, 110, 116, 105, 102, 105, 101, 114], .int 11), (.str [83, 101, 115, 115, 105, 111, 110, 32, 69, 120, 112, 105, 114, 121, 32, 73, 110, 116, 101, 114, 118, 97, 108], .int 17), (.str [65, 115, 115, 105, 103, 110, 101, 100, 32, 67, 108, 105, 101, 110, 116, 32, 73, 100, 101, 110, 116, 105, 102, 105, 101, 114], .int 18), (.str [83, 101, 114, 118, 101, 114, 32, 75, 101, 101, 112, 32, 65, 108, 105, 118, 101], .int 19), (.str [65, 117, 116, 104, 101, 110, 116, 105, 99, 97, 116, 105, 111, 110, 32, 77, 101, 116, 104, 111, 100], .int 21), (.str [65, 117, 116, 104, 101, 110, 116, 105, 99, 97, 116, 105, 111, 110, 32, 68, 97, 116, 97], .int 22), (.str [82, 101, 113, 117, 101, 115, 116, 32, 80, 114, 111, 98, 108, 101, 109, 32, 73, 110, 102, 111, 114, 109, 97, 116, 105, 111, 110], .int 23), (.str [87, 105, 108, 108, 32, 68, 101, 108, 97, 121, 32, 73, 110, 116, 101, 114, 118, 97, 108], .int 24), (.str [82, 101, 113, 117, 101, 115, 116, 32, 82, 101, 115, 112, 111, 110, 115, 101, 32, 73, 110, 102, 111, 114, 109, 97, 116, 105, 111, 110], .int 25), (.str [82, 101, 115, 112, 111, 110, 115, 101, 32, 73, 110, 102, 111, 114, 109, 97, 116, 105, 111, 110], .int 26), (.str [83, 101, 114, 118, 101, 114, 32, 82, 101, 102, 101, 114, 101, 110, 99, 101], .int 28), (.str [82, 101, 97, 115, 111, 110, 32, 83, 116, 114, 105, 110, 103], .int 31), (.str [82, 101, 99, 101, 105, 118, 101, 32, 77, 97, 120, 105, 109, 117, 109], .int 33), (.str [84, 111, 112, 105, 99, 32, 65, 108, 105, 97, 115, 32, 77, 97, 120, 105, 109, 117, 109], .int 34), (.str [84, 111, 112, 105, 99, 32, 65, 108, 105, 97, 115], .int 35), (.str [77, 97, 120, 105, 109, 117, 109, 32, 81, 111, 83], .int 36), (.str [82, 101, 116, 97, 105, 110, 32, 65, 118, 97, 105, 108, 97, 98, 108, 101], .int 37), (.str [85, 115, 101, 114, 32, 80, 114, 111, 112, 101, 114, 116, 121], .int 38), (.str [77, 97, 120, 105, 109, 117, 109, 32, 80, 97, 99, 107, 101, 116, 32, 83, 105, 122, 101], .int 39), (.str [87, 105, 108, 100, 99, 97, 114, 100, 32, 83, 117, 98, 115, 99, 114, 105, 112, 116, 105, 111, 110, 32, 65, 118, 97, 105, 108, 97, 98, 108, 101], .int 40), (.str [83, 117, 98, 115, 99, 114, 105, 112, 116, 105, 111, 110, 32, 73, 100, 101, 110, 116, 105, 102, 105, 101, 114, 32, 65, 118, 97, 105, 108, 97, 98, 108, 101], .int 41), (.str [83, 104, 97, 114, 101, 100, 32, 83, 117, 98, 115, 99, 114, 105, 112, 116, 105, 111, 110, 32, 65, 118, 97, 105, 108, 97, 98, 108, 101], .int 42)]
def propsD : List (MV × MV) := [(.int 1, .tup [.int 0, .list [.int 3, .int 99]]), (.int 2, .tup [.int 2, .list [.int 3, .int 99]]), (.int 3, .tup [.int 5, .list [.int 3, .int 99]]), (.int 8, .tup [.int 5, .list [.int 3, .int 99]]), (.int 9, .tup [.int 4, .list [.int 3, .int 99]]), (.int 11, .tup [.int 3, .list [.int 3, .int 8]]), (.int 17, .tup [.int 2, .list [.int 1, .int 2, .int 14]]), (.int 18, .tup [.int 5, .list [.int 2]]), (.int 19, .tup [.int 1, .list [.int 2]]), (.int 21, .tup [.int 5, .list [.int 1, .int 2, .int 15]]), (.int 22, .tup [.int 4, .list [.int 1, .int 2, .int 15]]), (.int 23, .tup [.int 0, .list [.int 1]]), (.int 24, .tup [.int 2, .list [.int 99]]), (.int 25, .tup [.int 0, .list [.int 1]]), (.int 26, .tup [.int 5, .list [.int 2]]), (.int 28, .tup [.int 5, .list [.int 2, .int 14]]), (.int 31, .tup [.int 5, .list [.int 2, .int 4, .int 5, .int 6, .int 7, .int 9, .int 11, .int 14, .int 15]]), (.int 33, .tup [.int 1, .list [.int 1, .int 2]]), (.int 34, .tup [.int 1, .list [.int 1, .int 2]]), (.int 35, .tup [.int 1, .list [.int 3]]), (.int 36, .tup [.int 0, .list [.int 2]]), (.int 37, .tup [.int 0, .list [.int 2]]), (.int 38, .tup [.int 6, .list [.int 1, .int 2, .int 3, .int 4, .int 5, .int 6, .int 7, .int 8, .int 9, .int 10, .int 11, .int 14, .int 15, .int 99]]), (.int 39, .tup [.int 2, .list [.int 1, .int 2]]), (.int 40, .tup [.int 0, .list [.int 2]]), (.int 41, .tup [.int 0, .list [.int 2]]), (.int 42, .tup [.int 0, .list [.int 2]])]
def typesL : List MV := [.str [66, 121, 116, 101], .str [84, 119, 111, 32, 66, 121, 116, 101, 32, 73, 110, 116, 101, 103, 101, 114], .str [70, 111, 117, 114, 32, 66, 121, 116, 101, 32, 73, 110, 116, 101, 103, 101, 114], .str [86, 97, 114, 105, 97, 98, 108, 101, 32, 66, 121, 116, 101, 32, 73, 110, 116, 101, 103, 101, 114], .str [66, 105, 110, 97, 114, 121, 32, 68, 97, 116, 97], .str [85, 84, 70, 45, 56, 32, 69, 110, 99, 111, 100, 101, 100, 32, 83, 116, 114, 105, 110, 103], .str [85, 84, 70, 45, 56, 32, 83, 116, 114, 105, 110, 103, 32, 80, 97, 105, 114]]
def lawNames : List MV := [.str [80, 97, 121, 108, 111, 97, 100, 32, 70, 111, 114, 109, 97, 116, 32, 73, 110, 100, 105, 99, 97, 116, 111, 114], .str [77, 101, 115, 115, 97, 103, 101, 32, 69, 120, 112, 105, 114, 121, 32, 73, 110, 116, 101, 114, 118, 97, 108], .str [67, 111, 110, 116, 101, 110, 116, 32, 84, 121, 112, 101], .str [82, 101, 115, 112, 111, 110, 115, 101, 32, 84, 111, 112, 105, 99], .str [67, 111, 114, 114, 101, 108, 97, 116, 105, 111, 110, 32, 68, 97, 116, 97], .str [83, 117, 98, 115, 99, 114, 105, 112, 116, 105, 111, 110, 32, 73, 100, 101, 110, 116, 105, 102, 105, 101, 114], .str [83, 101, 115, 115, 105, 111, 110, 32, 69, 120, 112, 105, 114, 121, 32, 73, 110, 116, 101, 114, 118, 97, 108], .str [65, 115, 115, 105, 103, 110, 101, 100, 32, 67, 108, 105, 101, 110, 116, 32, 73, 100, 101, 110, 116, 105, 102, 105, 101, 114], .str [83, 101, 114, 118, 101, 114, 32, 75, 101, 101, 112, 32, 65, 108, 105, 118, 101], .str [65, 117, 116, 104, 101, 110, 116, 105, 99, 97, 116, 105, 111, 110, 32, 77, 101, 116, 104, 111, 100], .str [65, 117, 116, 104, 101, 110, 116, 105, 99, 97, 116, 105, 111, 110, 32, 68, 97, 116, 97], .str [82, 101, 113, 117, 101, 115, 116, 32, 80, 114, 111, 98, 108, 101, 109, 32, 73, 110, 102, 111, 114, 109, 97, 116, 105, 111, 110], .str [87, 105, 108, 108, 32, 68, 101, 108, 97, 121, 32, 73, 110, 116, 101, 114, 118, 97, 108], .str [82, 101, 113, 117, 101, 115, 116, 32, 82, 101, 115, 112, 111, 110, 115, 101, 32, 73, 110, 102, 111, 114, 109, 97, 116, 105, 111, 110], .str [82, 101, 115, 112, 111, 110, 115, 101, 32, 73, 110, 102, 111, 114, 109, 97, 116, 105, 111, 110], .str [83, 101, 114, 118, 101, 114, 32, 82, 101, 102, 101, 114, 101, 110, 99, 101], .str [82, 101, 97, 115, 111, 110, 32, 83, 116, 114, 105, 110, 103], .str [82, 101, 99, 101, 105, 118, 101, 32, 77, 97, 120, 105, 109, 117, 109], .str [84, 111, 112, 105, 99, 32, 65, 108, 105, 97, 115, 32, 77, 97, 120, 105, 109, 117, 109], .str [84, 111, 112, 105, 99, 32, 65, 108, 105, 97, 115], .str [77, 97, 120, 105, 109, 117, 109, 32, 81, 111, 83], .str [82, 101, 116, 97, 105, 110, 32, 65, 118, 97, 105, 108, 97, 98, 108, 101], .str [85, 115, 101, 114, 32, 80, 114, 111, 112, 101, 114, 116, 121], .str [77, 97, 120, 105, 109, 117, 109, 32, 80, 97, 99, 107, 101, 116, 32, 83, 105, 122, 101], .str [87, 105, 108, 100, 99, 97, 114, 100, 32, 83, 117, 98, 115, 99, 114, 105, 112, 116, 105, 111, 110, 32, 65, 118, 97, 105, 108, 97, 98, 108, 101], .str [83, 117, 98, 115, 99, 114, 105, 112, 116, 105, 111, 110, 32, 73, 100, 101, 110, 116, 105, 102, 105, 101, 114, 32, 65, 118, 97, 105, 108, 97, 98, 108, 101], .str [83, 104, 97, 114, 101, 100, 32, 83, 117, 98, 115, 99, 114, 105, 112, 116, 105, 111, 110, 32, 65, 118, 97, 105, 108, 97, 98, 108, 101]]
def whereL : List (List Nat) := [[3, 99], [3, 99], [3, 99], [3, 99], [3, 99], [3, 8], [1, 2, 14], [2], [2], [1, 2, 15], [1, 2, 15], [1], [99], [1], [2], [2, 14], [2, 4, 5, 6, 7, 9, 11, 14, 15], [1, 2], [1, 2], [3], [2], [2], [1, 2, 3, 4, 5, 6, 7, 8, 9, 10, 11, 14, 15, 99], [1, 2], [2], [2], [2]]
def lawWhere : List MV := [.list [.int 3, .int 99], .list [.int 3, .int 99], .list [.int 3, .int 99], .list [.int 3, .int 99], .list [.int 3, .int 99], .list [.int 3, .int 8], .list [.int 1, .int 2, .int 14], .list [.int 2], .list [.int 2], .list [.int 1, .int 2, .int 15], .list [.int 1, .int 2, .int 15], .list [.int 1], .list [.int 99], .list [.int 1], .list [.int 2], .list [.int 2, .int 14], .list [.int 2, .int 4, .int 5, .int 6, .int 7, .int 9, .int 11, .int 14, .int 15], .list [.int 1, .int 2], .list [.int 1, .int 2], .list [.int 3], .list [.int 2], .list [.int 2], .list [.int 1, .int 2, .int 3, .int 4, .int 5, .int 6, .int 7, .int 8, .int 9, .int 10, .int 11, .int 14, .int 15, .int 99], .list [.int 1, .int 2], .list [.int 2], .list [.int 2], .list [.int 2]]
def fnTab : List (Addr × Fn) := [(28, fnAt 1), (48, fnAt 4), (55, fnAt 5), (87, fnAt 10), (94, fnAt 11), (101, fnAt 12), (108, fnAt 13), (115, fnAt 14), (122, fnAt 15), (129, fnAt 16), (136, fnAt 17), (150, mtAt 18 0), (160, mtAt 18 1), (243, mtAt 19 3), (250, mtAt 19 4), (257, mtAt 19 5), (262, mtAt 19 6), (269, mtAt 19 7), (276, mtAt 19 8), (283, mtAt 19 9), (290, mtAt 19 10), (297, mtAt 19 11), (304, mtAt 19 12), (319, fnAt 22), (326, fnAt 23), (361, fnAt 25), (368, fnAt 26), (375, fnAt 27), (382, fnAt 28)]
def globL : List (Str × MV) := [("_pe_name", .ref 28), ("write_int", .ref 48), ("read_int", .ref 55), ("writeInt16", .ref 87), ("readInt16", .ref 94), ("writeInt32", .ref 101), ("readInt32", .ref 108), ("writeUTF", .ref 115), ("readUTF", .ref 122), ("writeBytes", .ref 129), ("readBytes", .ref 136), ("VariableByteIntegers", .ref 166), ("Properties", .ref 307), ("MQTTException", .ref 65), ("_law_names", .list lawNames), ("_law_idents", .ref 319), ("_law_kinds", .ref 326), ("_law_where", .list lawWhere), ("_law_texts", .ref 361), ("_law_counts", .ref 368), ("_law_text", .ref 375), ("_law_value", .ref 382), ("len", .prim 0), ("type", .prim 1), ("isinstance", .prim 2), ("ord", .prim 3), ("hasattr", .prim 4), ("getattr", .prim 5), ("range", .prim 6), ("bytes", .prim 7), ("list", .prim 8), ("str", .prim 9)]
def methL : List (Str × Addr) := [("__init__", 243), ("allowsMultiple", 250), ("getIdentFromName", 257), ("set_property", 262), ("isEmpty", 269), ("writeProperty", 276), ("pack", 283), ("readProperty", 290), ("getNameFromIdent", 297), ("unpack", 304)]
def attrsL : List Str := "packetType" :: namesL.map fun x => ⟨(strike 32 x).toArray⟩
def TT : Tab where
  glob := globL
  fn := fnTab
  C := 307
  init := 243
  meth := methL
  cattr := [("types", .list typesL), ("names", .ref 179), ("properties", .ref 181)]
  attrs := attrsL
  exc := [65]
  smeth := [(166, [("encode_number", 150), ("decode_number", 160)])]
  dict := [(179, namesD)]
  dictI := [(181, propsD)]
def lawOut (n : Nat) (xs : List MV) : Option (Fl × Loc × Sto) := exs (fun l s t => (run TT n).ex (fnAt 29).scope l s t) (fnAt 29).body [("script", .list xs)] []
def lawRun (n : Nat) (xs : List Int) : Option Bool := match lawOut n (xs.map .int) with
  | some (.ret (.bool b), _, _) => some b
  | _ => none
end Mine
namespace Mine
open PySem

theorem upd_size (h : Heap) (a : Addr) (f : Obj → Obj) : (h.update a f).objs.size = h.objs.size := (Heap.SameBut.update h a f).1
/-- the store of objects never shrinks -/
theorem grows {M : Model} {Γ : Ctx} {p : Pos} {t : Sem Fin} {fs : List Frame} {s s' : Shared} {e : End} (r : Runs M Γ p t fs s e s') : s.heap.objs.size ≤ s'.heap.objs.size := by
  induction r
  all_goals (try simp only [Shared.setGen] at *)
  all_goals first
    | exact Nat.le_refl _
    | assumption
    | (rename_i ih; rw [upd_size] at ih; exact ih)
    | (rename_i ih; rw [Heap.size_push] at ih; exact Nat.le_of_succ_le ih)
    | (rename_i i1 i2; exact Nat.le_trans i1 i2)
theorem grows_back {M : Model} {Γ : Ctx} {p : Pos} {s s' : Shared} {r : Result} (h : Returns M Γ p s r s') : s.heap.objs.size ≤ s'.heap.objs.size := grows h
theorem grows_wakes {M : Model} {Γ : Ctx} {p : Pos} {g : Nat} {r : Resume} {s s' : Shared} {res : GenResult} (h : Wakes M Γ p g r s res s') : s.heap.objs.size ≤ s'.heap.objs.size := by
  unfold Wakes at h
  split at h
  · exact h.elim
  · split at h
    · obtain ⟨e1, s1, hr, _, _, rfl⟩ := h; exact (grows hr : (s.setGen g .running).heap.objs.size ≤ s1.heap.objs.size)
    · rw [h.2]; exact Nat.le_refl _
    · rw [h.2]; exact Nat.le_refl _
  · obtain ⟨e1, s1, hr, _, _, rfl⟩ := h; exact (grows hr : (s.setGen g .running).heap.objs.size ≤ s1.heap.objs.size)
  · rw [h.2]; exact Nat.le_refl _
  · rw [h.2]; exact Nat.le_refl _

theorem wp_grows {α : Type} (M : Model) (Γ : Ctx) (n : Nat) (t : Sem α) : ∀ (Q : α → Pos → Shared → Prop) (E : Value → Pos → Shared → Prop) (p : Pos) (s : Shared), n ≤ s.heap.objs.size → Sem.wp M Γ t Q E p s →
    Sem.wp M Γ t (fun a p' s' => n ≤ s'.heap.objs.size ∧ Q a p' s') (fun e p' s' => n ≤ s'.heap.objs.size ∧ E e p' s') p s := by
  induction t with
  | pure a => intro Q E p s hn h; exact ⟨hn, h⟩
  | raise e => intro Q E p s hn h; exact ⟨hn, h⟩
  | rule _ k ih => intro Q E p s hn h; exact ih () Q E p s hn h
  | «at» p' k ih => intro Q E p s hn h; exact ih () Q E p' s hn h
  | load a _ k ih => intro Q E p s hn h; obtain ⟨o, ho, h⟩ := h; exact ⟨o, ho, ih o Q E p s hn h⟩
  | update a _ f k ih => intro Q E p s hn h; exact ⟨h.1, ih () Q E p _ (by rw [show ({ s with heap := s.heap.update a f } : Shared).heap.objs.size = s.heap.objs.size from upd_size _ _ _]; exact hn) h.2⟩
  | loadIfAlive a k ih => intro Q E p s hn h; exact ih _ Q E p s hn h
  | point _ k ih => intro Q E p s hn h; exact ih () Q E p s hn h
  | alloc o k ih => intro Q E p s hn h; exact ih _ Q E p _ (by rw [show ({ s with heap := s.heap.push o } : Shared).heap.objs.size = s.heap.objs.size + 1 from Heap.size_push _ _]; exact Nat.le_succ_of_le hn) h
  | fresh k ih => intro Q E p s hn h; exact ih _ Q E p _ hn h
  | ask k ih => intro Q E p s hn h; exact ih _ Q E p s hn h
  | choose src m k ih => intro Q E p s hn h; exact ⟨h.1, ih _ Q E p _ hn h.2⟩
  | os q _ k ih => intro Q E p s hn h; exact ih _ Q E p _ hn h
  | call c hd _ _ k ih => intro Q E p s hn h; obtain ⟨r, s', hr, h⟩ := h; exact ⟨r, s', hr, ih r Q E p s' (Nat.le_trans hn (grows_back hr)) h⟩
  | handled own k ih => intro Q E p s hn h; exact ih _ Q E p s hn h
  | genState g k ih => intro Q E p s hn h; obtain ⟨st, hs, h⟩ := h; exact ⟨st, hs, ih _ Q E p s hn h⟩
  | newGen c k ih => intro Q E p s hn h; exact ih _ Q E p _ hn h
  | resume g r _ k ih => intro Q E p s hn h; obtain ⟨res, s', hw, h⟩ := h; exact ⟨res, s', hw, ih res Q E p s' (Nat.le_trans hn (grows_wakes hw)) h⟩
  | stack k ih => intro Q E p s hn h; exact ih _ Q E p s hn h
  | thread k ih => intro Q E p s hn h; exact ih _ Q E p s hn h
  | unsupported _ => intro Q E p s _ h; exact h
  | finish _ => intro Q E p s _ h; exact h
  | register _ _ => intro Q E p s _ h; exact h
  | yield _ _ _ _ => intro Q E p s _ h; exact h
  | fork _ _ => intro Q E p s _ h; exact h
  | await _ _ _ _ _ => intro Q E p s _ h; exact h

/-- after any step: as many objects, as many marks -/
theorem wpAny_more {α : Type} {M : Model} {A : Around} {s : Shared} {t : Sem α} {Q : α → Shared → Prop} {E : Value → Shared → Prop}
    (h : wpAny M A t (fun a s' => s.heap.objs.size ≤ s'.heap.objs.size → s.toks ≤ s'.toks → Q a s') (fun e s' => s.heap.objs.size ≤ s'.heap.objs.size → s.toks ≤ s'.toks → E e s') s) : wpAny M A t Q E s := by
  have h2 : wpAny M A t (fun a s' => s.toks ≤ s'.toks ∧ s.heap.objs.size ≤ s'.heap.objs.size ∧ (s.heap.objs.size ≤ s'.heap.objs.size → s.toks ≤ s'.toks → Q a s')) (fun e s' => s.toks ≤ s'.toks ∧ s.heap.objs.size ≤ s'.heap.objs.size ∧ (s.heap.objs.size ≤ s'.heap.objs.size → s.toks ≤ s'.toks → E e s')) s :=
    wpAny_toks fun Γ p hΓ => wp_grows M Γ s.heap.objs.size t _ _ p s (Nat.le_refl _) (h Γ p hΓ)
  exact wpAny_mono h2 (fun _ _ x => x.2.2 x.2.1 x.1) fun _ _ x => x.2.2 x.2.1 x.1
theorem codeAny_more {M : Model} {A : Around} {s : Shared} {c : Code} {R : Result → Shared → Prop}
    (h : codeAny M A c (fun r s' => s.heap.objs.size ≤ s'.heap.objs.size → s.toks ≤ s'.toks → R r s') s) : codeAny M A c R s :=
  fun Γ p hc hΓ => by obtain ⟨r, s', hr, hR⟩ := h Γ p hc hΓ; exact ⟨r, s', hr, hR (grows_back hr) hr.toks_le⟩
end Mine
namespace Mine
open PySem PySem.W PySem.Calls PyProof.Rows

theorem leq_iff : ∀ {a b : List Nat}, leq a b = true ↔ a = b
  | [], [] => by simp [leq]
  | [], _ :: _ => by simp [leq]
  | _ :: _, [] => by simp [leq]
  | a :: r, b :: q => by
    unfold leq
    cases h : Nat.beq a b with
    | true =>
      have e : a = b := Nat.eq_of_beq_eq_true h
      subst e
      simp [leq_iff (a := r) (b := q)]
    | false =>
      have e : a ≠ b := Nat.ne_of_beq_eq_false h
      simp [e]
theorem seq_iff {a b : Str} : seq a b = true ↔ a = b := by
  unfold seq
  rw [leq_iff]
  constructor
  · intro h
    cases a; cases b
    simp only [Str.mk.injEq]
    exact Array.ext' h
  · rintro rfl; rfl
theorem seq_self (a : Str) : seq a a = true := seq_iff.mpr rfl
theorem seq_ne {a b : Str} (h : seq a b = false) : a ≠ b := fun e => by rw [seq_iff.mpr e] at h; cases h
theorem lk_eq {α : Type} (x : Str) : ∀ l : List (Str × α), lk x l = l.lookup x
  | [] => rfl
  | (y, v) :: r => by
    unfold lk
    rw [List.lookup_cons, lk_eq x r]
    cases h : seq x y with
    | true =>
      have e := seq_iff.mp h
      subst e
      simp
    | false =>
      have e : (x == y) = false := beq_eq_false_iff_ne.mpr (seq_ne h)
      rw [e]
theorem lkN_mem {α : Type} {a : Nat} {v : α} : ∀ {l : List (Nat × α)}, lkN a l = some v → (a, v) ∈ l
  | p :: r, h => by
    unfold lkN at h
    cases q : Nat.beq a p.1 with
    | true => rw [q] at h; cases h; rw [Nat.eq_of_beq_eq_true q]; exact .head _
    | false => rw [q] at h; exact .tail _ (lkN_mem h)
theorem lk_mem {α : Type} {a : Str} {v : α} : ∀ {l : List (Str × α)}, lk a l = some v → (a, v) ∈ l
  | p :: r, h => by
    unfold lk at h
    cases q : seq a p.1 with
    | true => rw [q] at h; cases h; rw [seq_iff.mp q]; exact .head _
    | false => rw [q] at h; exact .tail _ (lk_mem h)
theorem lk_put {α : Type} (x y : Str) (v : α) : ∀ l : List (Str × α), lk y (put x v l) = if y = x then some v else lk y l
  | [] => by
    unfold put
    unfold lk
    cases h : seq y x with
    | true => simp [seq_iff.mp h]
    | false => simp [seq_ne h, lk]
  | p :: r => by
    unfold put
    cases q : seq x p.1 with
    | true =>
      have e := seq_iff.mp q
      show lk y ((x, v) :: r) = _
      unfold lk
      cases h : seq y x with
      | true => simp [seq_iff.mp h]
      | false =>
        rw [if_neg (seq_ne h)]
        dsimp only
        rw [← e, h]
    | false =>
      show lk y (p :: put x v r) = _
      unfold lk
      rw [lk_put x y v r]
      cases h : seq y p.1 with
      | true =>
        have e := seq_iff.mp h
        have ne : y ≠ x := fun z => seq_ne q (z ▸ e)
        simp only [ne, if_false]
      | false =>
        rfl
theorem getL_eq {α : Type} : ∀ (l : List α) (n : Nat), getL l n = l[n]?
  | [], n => by cases n <;> rfl
  | a :: r, 0 => rfl
  | a :: r, n + 1 => by rw [List.getElem?_cons_succ, ← getL_eq r n]; rfl

structure Wd where
  no : List Addr
  ob : List (Addr × Addr)
def Wd.ds (W : Wd) : List Addr := W.ob.map (·.2)

/-- n signs as bytes -/
def byA (b : List Nat) : Array UInt8 := (b.map Nat.toUInt8).toArray
def primV : Nat → Value
  | 0 => .builtin "len"
  | 1 => .type "type"
  | 2 => .builtin "isinstance"
  | 3 => .builtin "ord"
  | 4 => .builtin "hasattr"
  | 5 => .builtin "getattr"
  | 6 => .type "range"
  | 7 => .type "bytes"
  | 8 => .type "list"
  | 9 => .type "str"
  | _ => .none

abbrev listObj (vs : List Value) (n : Nat) : Obj := { cls := .type "list", data := .seq vs.toArray n }
abbrev tupObj (vs : List Value) (n : Nat) : Obj := { cls := .type "tuple", data := .seq vs.toArray n }
mutual
def Rd (W : Wd) (h : Heap) : MV → Value → Prop
  | .none, v => v = .none
  | .bool b, v => v = .bool b
  | .int i, v => ∃ t, v = .int i t
  | .str s, v => ∃ t, v = .str ⟨s.toArray⟩ t ∧ s.length ≤ 1000000
  | .bytes b, v => ∃ t, v = .bytes (byA b) t ∧ (∀ n ∈ b, n < 256) ∧ b.length ≤ 1000000
  | .tup xs, v => ∃ a vs n, v = .ref a ∧ a ∉ W.no ∧ h.get? a = some (tupObj vs n) ∧ RdL W h xs vs ∧ xs.length ≤ 1000000
  | .list xs, v => ∃ a vs n, v = .ref a ∧ a ∉ W.no ∧ h.get? a = some (listObj vs n) ∧ RdL W h xs vs ∧ xs.length ≤ 1000000
  | .own _, _ => False
  | .ref a, v => v = .ref a
  | .prim n, v => v = primV n
  | .obj k, v => ∃ p, W.ob[k]? = some p ∧ v = .ref p.1
  | .rng a b c, v => ∃ r t u x, v = .ref r ∧ r ∉ W.no ∧ h.get? r = some { cls := .type "range", data := .fields #[.int a t, .int b u, .int c x] }
  | .text, v => ∃ x t, v = .str x t
def RdL (W : Wd) (h : Heap) : List MV → List Value → Prop
  | [], vs => vs = []
  | x :: xs, vs => ∃ v r, vs = v :: r ∧ Rd W h x v ∧ RdL W h xs r
end

/-- what a step (of a frame that may turn the addresses `mu`) keeps -/
structure Step (mu : List Addr) (W : Wd) (h : Heap) (W' : Wd) (h' : Heap) : Prop where
  keep : ∀ a o, a ∉ W.ds → a ∉ mu → h.get? a = some o → h'.get? a = some o
  size : h.objs.size ≤ h'.objs.size
  no : ∀ a ∈ W.no, a < h.objs.size → a ∈ W'.no ∨ a ∈ mu
  new : ∀ a ∈ W'.no, a ∈ W.no ∨ h.objs.size ≤ a
  ob : ∀ (k : Nat) (p : Addr × Addr), W.ob[k]? = some p → W'.ob[k]? = some p
  obn : ∀ p ∈ W'.ob, p ∈ W.ob ∨ h.objs.size ≤ p.2

theorem Step.refl (mu : List Addr) (W : Wd) (h : Heap) : Step mu W h W h := ⟨fun _ _ _ _ e => e, Nat.le_refl _, fun _ e _ => .inl e, fun _ e => .inl e, fun _ _ e => e, fun _ e => .inl e⟩
theorem Step.comp {mu mu' : List Addr} {W W' W'' : Wd} {h h' h'' : Heap} (x : Step mu W h W' h') (y : Step mu' W' h' W'' h'') (i : ∀ a ∈ mu', a ∈ mu ∨ h.objs.size ≤ a) : Step mu W h W'' h'' := by
  refine ⟨fun a o n1 n2 e => y.keep a o (fun hm => ?_) (fun hm => ?_) (x.keep a o n1 n2 e), Nat.le_trans x.size y.size, fun a e q => ?_, fun a e => ?_, fun k p e => y.ob k p (x.ob k p e), fun p e => ?_⟩
  · obtain ⟨p, hp, rfl⟩ := List.mem_map.mp hm
    rcases x.obn p hp with q | q
    · exact n1 (List.mem_map_of_mem q)
    · exact absurd (Heap.lt_size e) (Nat.not_lt.mpr q)
  · rcases i a hm with q | q
    · exact n2 q
    · exact absurd (Heap.lt_size e) (Nat.not_lt.mpr q)
  · rcases x.no a e q with r | r
    · rcases y.no a r (Nat.lt_of_lt_of_le q x.size) with u | u
      · exact .inl u
      · rcases i a u with z | z
        · exact .inr z
        · exact absurd q (Nat.not_lt.mpr z)
    · exact .inr r
  · rcases y.new a e with q | q
    · exact x.new a q
    · exact .inr (Nat.le_trans x.size q)
  · rcases y.obn p e with q | q
    · exact x.obn p q
    · exact .inr (Nat.le_trans x.size q)
theorem Step.trans {mu : List Addr} {W W' W'' : Wd} {h h' h'' : Heap} (x : Step mu W h W' h') (y : Step mu W' h' W'' h'') : Step mu W h W'' h'' := x.comp y fun _ e => .inl e
theorem Step.weaken {mu mu' : List Addr} {W W' : Wd} {h h' : Heap} (x : Step mu W h W' h') (i : ∀ a ∈ mu, a ∈ mu' ∨ h.objs.size ≤ a) : Step mu' W h W' h' := (Step.refl mu' W h).comp x i
theorem Step.push {mu : List Addr} {W : Wd} {h : Heap} (o : Obj) : Step mu W h W (h.push o) :=
  ⟨fun _ _ _ _ e => Heap.get?_push_of_some _ e, by rw [Heap.size_push]; exact Nat.le_succ _, fun _ e _ => .inl e, fun _ e => .inl e, fun _ _ e => e, fun _ e => .inl e⟩
theorem Step.keeps {mu : List Addr} {W : Wd} {h h' : Heap} (k : ∀ b o, h.get? b = some o → h'.get? b = some o) (hs : h.objs.size ≤ h'.objs.size) : Step mu W h W h' :=
  ⟨fun _ _ _ _ e => k _ _ e, hs, fun _ e _ => .inl e, fun _ e => .inl e, fun _ _ e => e, fun _ e => .inl e⟩

/-- what is read is read still -/
def Sees (W : Wd) (h : Heap) (W' : Wd) (h' : Heap) : Prop :=
  (∀ a o, a ∉ W.no → h.get? a = some o → a ∉ W'.no ∧ h'.get? a = some o) ∧ (∀ (k : Nat) (p : Addr × Addr), W.ob[k]? = some p → W'.ob[k]? = some p)
theorem Step.sees {mu : List Addr} {W W' : Wd} {h h' : Heap} (x : Step mu W h W' h') (hd : ∀ a ∈ W.ds, a ∈ W.no) (hm : ∀ a ∈ mu, a ∈ W.no ∨ h.objs.size ≤ a) : Sees W h W' h' := by
  refine ⟨fun a o n e => ⟨fun m => ?_, x.keep a o (fun m => n (hd a m)) (fun m => ?_) e⟩, x.ob⟩
  · rcases x.new a m with q | q
    · exact n q
    · exact absurd (Heap.lt_size e) (Nat.not_lt.mpr q)
  · rcases hm a m with q | q
    · exact n q
    · exact absurd (Heap.lt_size e) (Nat.not_lt.mpr q)
mutual
theorem Rd.sees {W W' : Wd} {h h' : Heap} (x : Sees W h W' h') : ∀ {m : MV} {v : Value}, Rd W h m v → Rd W' h' m v
  | .none, _, e => by simpa only [Rd] using e
  | .bool b, _, e => by simpa only [Rd] using e
  | .int i, _, e => by simpa only [Rd] using e
  | .str s, _, e => by simpa only [Rd] using e
  | .bytes b, _, e => by simpa only [Rd] using e
  | .tup xs, _, e => by
    simp only [Rd] at e ⊢
    obtain ⟨a, vs, n, e1, e2, e3, e4, e5⟩ := e
    exact ⟨a, vs, n, e1, (x.1 a _ e2 e3).1, (x.1 a _ e2 e3).2, RdL.sees x e4, e5⟩
  | .list xs, _, e => by
    simp only [Rd] at e ⊢
    obtain ⟨a, vs, n, e1, e2, e3, e4, e5⟩ := e
    exact ⟨a, vs, n, e1, (x.1 a _ e2 e3).1, (x.1 a _ e2 e3).2, RdL.sees x e4, e5⟩
  | .own xs, _, e => by simp only [Rd] at e
  | .ref a, _, e => by simpa only [Rd] using e
  | .prim n, _, e => by simpa only [Rd] using e
  | .obj k, _, e => by
    simp only [Rd] at e ⊢
    obtain ⟨p, e1, e2⟩ := e
    exact ⟨p, x.2 k p e1, e2⟩
  | .rng a b c, _, e => by
    simp only [Rd] at e ⊢
    obtain ⟨r, t, u, z, e1, e2, e3⟩ := e
    exact ⟨r, t, u, z, e1, (x.1 r _ e2 e3).1, (x.1 r _ e2 e3).2⟩
  | .text, _, e => by simpa only [Rd] using e
theorem RdL.sees {W W' : Wd} {h h' : Heap} (x : Sees W h W' h') : ∀ {ms : List MV} {vs : List Value}, RdL W h ms vs → RdL W' h' ms vs
  | [], _, e => by simpa only [RdL] using e
  | m :: ms, _, e => by
    simp only [RdL] at e ⊢
    obtain ⟨v, r, e1, e2, e3⟩ := e
    exact ⟨v, r, e1, Rd.sees x e2, RdL.sees x e3⟩
end
theorem RdL.length {W : Wd} {h : Heap} : ∀ {ms : List MV} {vs : List Value}, RdL W h ms vs → vs.length = ms.length
  | [], _, e => by simp only [RdL] at e; rw [e]; rfl
  | m :: ms, _, e => by
    simp only [RdL] at e
    obtain ⟨v, r, rfl, _, e3⟩ := e
    rw [List.length_cons, List.length_cons, RdL.length e3]
theorem RdL.get {W : Wd} {h : Heap} : ∀ {ms : List MV} {vs : List Value} {n : Nat} {m : MV}, RdL W h ms vs → ms[n]? = some m → ∃ v, vs[n]? = some v ∧ Rd W h m v
  | m :: ms, vs, n, x, e, q => by
    simp only [RdL] at e
    obtain ⟨v, r, e1, e2, e3⟩ := e
    subst e1
    cases n with
    | zero => cases q; exact ⟨v, rfl, e2⟩
    | succ n => exact RdL.get e3 (n := n) q
theorem RdL.append {W : Wd} {h : Heap} : ∀ {ms ns : List MV} {vs us : List Value}, RdL W h ms vs → RdL W h ns us → RdL W h (ms ++ ns) (vs ++ us)
  | [], _, _, _, e, q => by simp only [RdL] at e; rw [e]; exact q
  | m :: ms, _, _, _, e, q => by
    simp only [RdL] at e
    obtain ⟨v, r, rfl, e2, e3⟩ := e
    simp only [List.cons_append, RdL]
    exact ⟨v, _, rfl, e2, RdL.append e3 q⟩

structure Bs where
  prog : Program
  w : World
  T : Tab
  K : Frag
  h₀ : Heap
  gens : Array GenState
  os : OsState
  mg : Str → Option Value
  mb : Str → Option Value

def RdO (W : Wd) (h : Heap) : Option MV → Option Value → Prop
  | none, v => v = none
  | some m, v => ∃ x, v = some x ∧ Rd W h m x

/-- the keys of an object's own table: known names, each once -/
def Keyed (ats : List Str) : List DictEntry → Prop
  | [] => True
  | e :: r => (∃ k t, e.key = .str k t ∧ memS k ats = true ∧ ∀ e' ∈ r, ∀ t', e'.key ≠ .str k t') ∧ Keyed ats r

structure HeapOk (B : Bs) (W : Wd) (S : Sto) (h : Heap) : Prop where
  keep : ∀ b o, B.h₀.get? b = some o → h.get? b = some o
  size : B.h₀.objs.size ≤ h.objs.size
  no : ∀ a ∈ W.no, B.h₀.objs.size ≤ a ∧ a < h.objs.size
  ds : ∀ a ∈ W.ds, a ∈ W.no
  nd : W.ds.Nodup
  len : W.ob.length = S.length
  inst : ∀ (k : Nat) (p : Addr × Addr), W.ob[k]? = some p → ∃ A : Att, S[k]? = some A ∧ h.get? p.1 = some (instObj B.T.C p.2) ∧ p.1 ∉ W.no ∧ B.h₀.objs.size ≤ p.1 ∧
    ∃ es n, h.get? p.2 = some ({ cls := .type "dict", data := .dict es n } : Obj) ∧ StrKeys es ∧ Keyed B.T.attrs es.toList ∧ ∀ x, RdO W h (A x) (nsFind es x)

structure Inv (B : Bs) (W : Wd) (S : Sto) (s : Shared) : Prop where
  heap : HeapOk B W S s.heap
  gens : s.gens = B.gens
  os : s.os = B.os

end Mine
namespace Mine
open PySem PySem.W PySem.Calls PyProof.Rows

abbrev Mo (B : Bs) : Model := model B.prog B.w
def Fa : Value → Shared → Prop := fun _ _ => False
def QV (B : Bs) (W : Wd) (s : Shared) (m : MV) (S' : Sto) : Value → Shared → Prop := fun v s' =>
  ∃ W', Step [] W s.heap W' s'.heap ∧ Inv B W' S' s' ∧ Rd W' s'.heap m v

section
variable {B : Bs} {A : Around} {W W' : Wd} {S S' : Sto} {s s' : Shared} {m a b : MV} {v va vb : Value}

theorem Inv.tok (I : Inv B W S s) (k : Nat) : Inv B W S { s with toks := k } := ⟨I.heap, I.gens, I.os⟩
theorem QV.here (I : Inv B W S s) (r : Rd W s.heap m v) (k : Nat) : QV B W s m S v { s with toks := k } := ⟨W, .refl _ _ _, I.tok k, r⟩
theorem QV.here' (I : Inv B W S s) (r : Rd W s.heap m v) : QV B W s m S v s := ⟨W, .refl _ _ _, I, r⟩
theorem QV.trans {s₁ : Shared} (x : Step [] W s.heap W' s₁.heap) (h : QV B W' s₁ m S' v s') : QV B W s m S' v s' := by
  obtain ⟨W2, st, I, r⟩ := h
  exact ⟨W2, x.trans st, I, r⟩
theorem Inv.sees {mu : List Addr} (I : Inv B W S s) (x : Step mu W s.heap W' s'.heap) (hm : ∀ a ∈ mu, a ∈ W.no ∨ s.heap.objs.size ≤ a) : Sees W s.heap W' s'.heap := x.sees I.heap.ds hm
theorem Inv.sees0 (I : Inv B W S s) (x : Step [] W s.heap W' s'.heap) : Sees W s.heap W' s'.heap := x.sees I.heap.ds (fun _ h => nomatch h)

/-- a step that keeps all that stands keeps the world -/
theorem HeapOk.grown {h h' : Heap} (H : HeapOk B W S h) (k : ∀ b o, h.get? b = some o → h'.get? b = some o) (hs : h.objs.size ≤ h'.objs.size) : HeapOk B W S h' := by
  have st : Step [] W h W h' := Step.keeps k hs
  have sees := st.sees H.ds (fun _ h => nomatch h)
  refine ⟨fun b o e => k b o (H.keep b o e), Nat.le_trans H.size hs, fun a e => ⟨(H.no a e).1, Nat.lt_of_lt_of_le (H.no a e).2 hs⟩, H.ds, H.nd, H.len, fun i p e => ?_⟩
  obtain ⟨A, e1, e2, e3, e4, es, n, e5, e6, e7, e8⟩ := H.inst i p e
  refine ⟨A, e1, k _ _ e2, e3, e4, es, n, k _ _ e5, e6, e7, fun x => ?_⟩
  have := e8 x
  unfold RdO at this ⊢
  cases q : A x with
  | none => rw [q] at this; exact this
  | some m =>
    rw [q] at this
    obtain ⟨y, y1, y2⟩ := this
    exact ⟨y, y1, y2.sees sees⟩
theorem Inv.grown {h' : Heap} {k : Nat} (I : Inv B W S s) (kp : ∀ b o, s.heap.get? b = some o → h'.get? b = some o) (hs : s.heap.objs.size ≤ h'.objs.size) : Inv B W S { s with heap := h', toks := k } :=
  ⟨I.heap.grown kp hs, I.gens, I.os⟩
theorem HeapOk.fresh {h : Heap} (H : HeapOk B W S h) : h.objs.size ∉ W.no := fun m => Nat.lt_irrefl _ (H.no _ m).2

theorem QV.push {o : Obj} {k : Nat} (I : Inv B W S s) (hf : o.isFreed = false) (r : s.heap.objs.size ∉ W.no → (s.heap.push o).get? s.heap.objs.size = some o → Sees W s.heap W (s.heap.push o) → Rd W (s.heap.push o) m v) :
    QV B W s m S v { s with heap := s.heap.push o, toks := k } := by
  have kp : ∀ b o', s.heap.get? b = some o' → (s.heap.push o).get? b = some o' := fun b o' e => Heap.get?_push_of_some _ e
  have hs : s.heap.objs.size ≤ (s.heap.push o).objs.size := by rw [Heap.size_push]; exact Nat.le_succ _
  have st : Step [] W s.heap W (s.heap.push o) := Step.keeps kp hs
  exact ⟨W, st, I.grown kp hs, r I.heap.fresh (Heap.get?_push_size _ hf) (st.sees I.heap.ds (fun _ h => nomatch h))⟩

theorem QV.kept {h' : Heap} {k : Nat} (I : Inv B W S s) (kp : ∀ b o, s.heap.get? b = some o → h'.get? b = some o) (hs : s.heap.objs.size ≤ h'.objs.size) (r : Sees W s.heap W h' → Rd W h' m v) :
    QV B W s m S v { s with heap := h', toks := k } := by
  have st : Step [] W s.heap W h' := Step.keeps kp hs
  exact ⟨W, st, I.grown kp hs, r (st.sees I.heap.ds (fun _ h => nomatch h))⟩

-- a frame's fact for the library's rules: any namespace, over the empty heap
theorem fr0 {h : Heap} {L : Addr} {f : Str → Option Value} (n : h.Ns L f) : Fr ({} : Heap) L h f := ⟨n, fun b o e => by simp [Heap.get?] at e, Nat.zero_le _⟩

theorem byA_size (b : List Nat) : (byA b).size = b.length := by simp [byA]
theorem byA_append (b c : List Nat) : byA b ++ byA c = byA (b ++ c) := by simp [byA]
theorem isList {h : Heap} {l : Addr} {vs : List Value} {n : Nat} (e : h.get? l = some (listObj vs n)) : h.IsList l vs.toArray := ⟨_, e, rfl, n, rfl⟩
theorem isTup {h : Heap} {l : Addr} {vs : List Value} {n : Nat} (e : h.get? l = some (tupObj vs n)) : IsTup h l vs.toArray := ⟨_, e, rfl, n, rfl⟩

theorem ints_are {h : Heap} : ∀ {xs : List MV} {ns : List Int} {vs : List Value}, ints? xs = some ns → RdL W h xs vs → IntsAre vs ns
  | [], _, _, e, r => by
    cases e; simp only [RdL] at r; subst r; exact .nil
  | .int x :: r, ns, vs, e, q => by
    simp only [RdL, Rd] at q
    obtain ⟨v, u, rfl, ⟨t, rfl⟩, q2⟩ := q
    obtain ⟨ns', e1, rfl⟩ := Option.map_eq_some_iff.mp e
    exact .cons _ _ (ints_are e1 q2)
theorem strs_are {h : Heap} : ∀ {xs : List MV} {ns : List (List Nat)} {vs : List Value}, strs? xs = some ns → RdL W h xs vs → StrsAre vs (ns.map fun x => ⟨x.toArray⟩)
  | [], _, _, e, r => by
    cases e; simp only [RdL] at r; subst r; exact .nil
  | .str x :: r, ns, vs, e, q => by
    simp only [RdL, Rd] at q
    obtain ⟨v, u, rfl, ⟨t, rfl, _⟩, q2⟩ := q
    obtain ⟨ns', e1, rfl⟩ := Option.map_eq_some_iff.mp e
    exact .cons _ _ (strs_are e1 q2)
theorem anyInt_eq (x : Int) : ∀ l : List Int, anyInt x l = l.any (· == x)
  | [] => rfl
  | y :: r => by
    unfold anyInt
    rw [List.any_cons, anyInt_eq x r]
    cases h : ibeq y x with
    | true => rw [(Z.eqB_iff y x).mp h]; simp
    | false =>
      have : (y == x) = false := by
        rw [beq_eq_false_iff_ne]; intro e; have := (Z.eqB_iff y x).mpr e; rw [show ibeq y x = Z.eqB y x from rfl, this] at h; cases h
      rw [this]; rfl
theorem str_eq {x y : List Nat} : ((⟨x.toArray⟩ : Str) = ⟨y.toArray⟩) ↔ x = y := by simp
theorem anyStr_eq (x : List Nat) : ∀ l : List (List Nat), anyStr x l = (l.map fun x => (⟨x.toArray⟩ : Str)).any (· == ⟨x.toArray⟩)
  | [] => rfl
  | y :: r => by
    unfold anyStr
    rw [List.map_cons, List.any_cons, anyStr_eq x r]
    cases h : leq y x with
    | true => rw [leq_iff.mp h]; simp
    | false =>
      have : ((⟨y.toArray⟩ : Str) == ⟨x.toArray⟩) = false := by
        rw [beq_eq_false_iff_ne]; intro e; rw [leq_iff.mpr (str_eq.mp e)] at h; cases h
      rw [this]; rfl

theorem byA_toList_inj {x y : List Nat} (hx : ∀ n ∈ x, n < 256) (hy : ∀ n ∈ y, n < 256) : (byA x = byA y) ↔ x = y := by
  constructor
  · intro h
    have : x.map Nat.toUInt8 = y.map Nat.toUInt8 := by simpa [byA] using h
    have h2 := congrArg (List.map UInt8.toNat) this
    rw [List.map_map, List.map_map] at h2
    have id' : ∀ l : List Nat, (∀ n ∈ l, n < 256) → l.map (UInt8.toNat ∘ Nat.toUInt8) = l := fun l hl => by
      conv => rhs; rw [← List.map_id l]
      refine List.map_congr_left fun n hn => ?_
      simp only [Function.comp, Nat.toUInt8, id]
      rw [UInt8.toNat_ofNat', Nat.mod_eq_of_lt (hl n hn)]
    rw [id' x hx, id' y hy] at h2
    exact h2
  · rintro rfl; rfl

theorem eq_leaf {c : Bool} (I : Inv B W S s) (ra : Rd W s.heap a va) (rb : Rd W s.heap b vb) (e : mEq a b = some c) {Q : Value → Shared → Prop} {E : Value → Shared → Prop} (h : Q (.bool c) s) :
    wpAny (Mo B) A (compareOp .Eq va vb) Q E s := by
  unfold mEq at e
  split at e
  · rename_i x y
    simp only [Rd] at ra rb
    obtain ⟨t, rfl⟩ := ra
    obtain ⟨u, rfl⟩ := rb
    refine PyProof.Rows.eq_int ?_
    have : (x == y) = c := by
      cases e
      rw [Bool.eq_iff_iff, beq_iff_eq, Z.eqB_iff]
    rw [this]; exact h
  · rename_i x y
    simp only [Rd] at ra rb
    obtain ⟨t, rfl, _⟩ := ra
    obtain ⟨u, rfl, _⟩ := rb
    refine PyProof.Rows.eq_str ?_
    have : ((⟨x.toArray⟩ : Str) == ⟨y.toArray⟩) = c := by
      cases e
      rw [Bool.eq_iff_iff, beq_iff_eq, leq_iff, str_eq]
    rw [this]; exact h
  · rename_i x y
    simp only [Rd] at ra rb
    obtain ⟨t, rfl, h1, _⟩ := ra
    obtain ⟨u, rfl, h2, _⟩ := rb
    refine PySem.W.eq_bytes ?_
    have : ((byA x).toList == (byA y).toList) = c := by
      cases e
      rw [Bool.eq_iff_iff, beq_iff_eq, leq_iff, ← byA_toList_inj h1 h2]
      constructor
      · intro h; exact Array.ext' h
      · intro h; rw [h]
    rw [this]; exact h
  · simp only [Rd] at ra rb
    subst ra rb
    refine PyProof.Rows.eq_bool ?_
    cases e
    exact h
  · cases e
end
end Mine
namespace Mine
open PySem PySem.W PySem.Calls PyProof.Rows

section
variable {B : Bs} {A : Around} {W W' : Wd} {S S' : Sto} {s s' : Shared} {m a b : MV} {v va vb : Value} {E : Value → Shared → Prop}

theorem ibits_small {x : Int} (h1 : -1152921504606846976 ≤ x) (h2 : x ≤ 1152921504606846976) : Builtin.Int.intBits x ≤ 64 := intBits_le_64 (by omega) (by omega)
theorem mul_ok {x y : Int} (h1 : -1152921504606846976 ≤ x) (h2 : x ≤ 1152921504606846976) : IntMulOk x y := IntMulOk.of_left (ibits_small h1 h2)

theorem bytes_iadd {b c : Array UInt8} {t u : Tok} {Q : Value → Shared → Prop} (hsz : b.size + c.size ≤ 16777216) (h : ∀ t' k, Q (.bytes (b ++ c) t') { s with toks := k }) : wpAny (Mo B) A (inplaceOp .Add (.bytes b t) (.bytes c u)) Q E s := by
  refine iconcat_gives (typeIs_bytes s b t) (typeIs_bytes s c u) (by rw [typeLookup_type, builtinLookup_eq_fast]; kernel_rfl) KBy.noFill_bytes_add KBy.seq_bytes_add FB.slot_bytes_add FB.entry_bytes_add (FB.args_bytes_add_2 _ _) (KBy.gives_bytes_add (KBy.tooLong_not hsz)) ?_
  by_cases hb : b.isEmpty = true
  · rw [if_pos hb]
    have e : b = #[] := Array.isEmpty_iff.1 hb
    have h' := h u s.toks
    rw [e, Array.empty_append] at h'
    exact h'
  · rw [if_neg hb]
    by_cases hc : c.isEmpty = true
    · rw [if_pos hc]
      have e : c = #[] := Array.isEmpty_iff.1 hc
      have h' := h t s.toks
      rw [e, Array.append_empty] at h'
      exact h'
    · rw [if_neg hc]
      exact ⟨by rw [Array.size_append, sizeLine_eq]; exact hsz, h s.toks (s.toks + 1)⟩

theorem rd_int {h : Heap} {i : Int} {t : Tok} : Rd W h (.int i) (.int i t) := by simp only [Rd]; exact ⟨t, rfl⟩
theorem rd_bool {h : Heap} {c : Bool} : Rd W h (.bool c) (.bool c) := by simp only [Rd]
theorem rd_bytes {h : Heap} {x : List Nat} {t : Tok} (h1 : ∀ n ∈ x, n < 256) (h2 : x.length ≤ 1000000) : Rd W h (.bytes x) (.bytes (byA x) t) := by simp only [Rd]; exact ⟨t, rfl, h1, h2⟩
theorem rd_str {h : Heap} {x : List Nat} {t : Tok} (h2 : x.length ≤ 1000000) : Rd W h (.str x) (.str ⟨x.toArray⟩ t) := by simp only [Rd]; exact ⟨t, rfl, h2⟩

theorem bitAnd_nat (x y : Nat) : Builtin.bitAnd (x : Int) (y : Int) = ((x &&& y : Nat) : Int) := rfl
theorem bitOr_nat (x y : Nat) : Builtin.bitOr (x : Int) (y : Int) = ((x ||| y : Nat) : Int) := by
  have e : ∀ n : Nat, Builtin.bitNot (n : Int) = Int.negSucc n := fun n => by unfold Builtin.bitNot; omega
  have e2 : ∀ n : Nat, Builtin.bitNot (Int.negSucc n) = (n : Int) := fun n => by unfold Builtin.bitNot; omega
  have h : ∀ n : Nat, decide ((0 : Int) ≤ Int.negSucc n) = false := fun n => decide_eq_false (by omega)
  unfold Builtin.bitOr Builtin.bitAnd
  rw [e, e, h, h]
  show Builtin.bitNot (Builtin.bitNot (((Builtin.bitNot (Int.negSucc x)).toNat ||| (Builtin.bitNot (Int.negSucc y)).toNat : Nat) : Int)) = _
  rw [e2, e2, Int.toNat_natCast, Int.toNat_natCast, e, e2]

theorem flat_rep (n : Nat) (x : List Nat) : ((List.replicate n (x.map Nat.toUInt8)).flatten).toArray = byA (List.replicate n x).flatten := by
  simp [byA, List.map_flatten]

theorem binop_leaf {op : Operator} (I : Inv B W S s) (ra : Rd W s.heap a va) (rb : Rd W s.heap b vb) (e : binop op a b = some m) :
    wpAny (Mo B) A (binaryOp op va vb) (QV B W s m S) E s := by
  unfold binop at e
  split at e
  · rename_i x y
    simp only [Rd] at ra rb
    obtain ⟨t, rfl⟩ := ra; obtain ⟨u, rfl⟩ := rb
    cases e
    exact PyProof.Rows.add_int (.here I rd_int _)
  · simp only [Rd] at ra rb
    obtain ⟨t, rfl⟩ := ra; obtain ⟨u, rfl⟩ := rb
    rw [subI_eq] at e
    cases e
    exact PyProof.Rows.sub_int (.here I rd_int _)
  · simp only [Rd] at ra rb
    obtain ⟨t, rfl⟩ := ra; obtain ⟨u, rfl⟩ := rb
    split at e
    · rename_i hh
      cases e
      simp only [Bool.and_eq_true] at hh
      obtain ⟨⟨⟨h1, h2⟩, _⟩, _⟩ := hh
      exact PyProof.Rows.mul_int (.here I rd_int _) (mul_ok ((Z.leB_iff _ _).mp h1) ((Z.leB_iff _ _).mp h2))
    · cases e
  · simp only [Rd] at ra rb
    obtain ⟨t, rfl⟩ := ra; obtain ⟨u, rfl⟩ := rb
    cases e
    exact PyProof.Rows.mod_int (by rename_i n; intro h; cases h) (.here I rd_int _)
  · simp only [Rd] at ra rb
    obtain ⟨t, rfl⟩ := ra; obtain ⟨u, rfl⟩ := rb
    split at e
    · rename_i hh
      cases e
      have := Nat.le_of_ble_eq_true hh
      refine PyProof.Rows.floordiv_int (by intro h; cases h) (.here I rd_int _) (Or.inl (PyProof.noPylong_small ?_))
      show Int.natAbs (Int.ofNat (_ + 1)) < _
      exact Nat.lt_of_le_of_lt (Nat.succ_le_succ this) (by decide)
    · cases e
  · rename_i x n
    simp only [Rd] at ra rb
    obtain ⟨t, rfl⟩ := ra; obtain ⟨u, rfl⟩ := rb
    split at e
    · rename_i hh
      cases e
      simp only [Bool.and_eq_true] at hh
      have h1 := Nat.le_of_ble_eq_true hh.1
      have h2 := Nat.le_of_ble_eq_true hh.2
      refine PyProof.Rows.pow_int_small (by exact Int.natCast_nonneg n) (by show ((n : Nat) : Int) ≤ _; omega) (by exact Nat.lt_of_le_of_lt h2 (by decide)) ?_
      have : ((Int.ofNat x) ^ (Int.ofNat n).toNat : Int) = Int.ofNat (x ^ n) := by
        show ((x : Nat) : Int) ^ n = ((x ^ n : Nat) : Int)
        rw [Int.natCast_pow]
      rw [this]
      exact .here I rd_int _
    · cases e
  · rename_i x y
    simp only [Rd] at ra rb
    obtain ⟨t, rfl⟩ := ra; obtain ⟨u, rfl⟩ := rb
    cases e
    refine PyProof.Rows.and_int ?_
    rw [show Builtin.bitAnd (Int.ofNat x) (Int.ofNat y) = ((x &&& y : Nat) : Int) from bitAnd_nat x y]
    exact .here I rd_int _
  · rename_i x y
    simp only [Rd] at ra rb
    obtain ⟨t, rfl⟩ := ra; obtain ⟨u, rfl⟩ := rb
    cases e
    refine PyProof.Rows.or_int ?_
    rw [show Builtin.bitOr (Int.ofNat x) (Int.ofNat y) = ((x ||| y : Nat) : Int) from bitOr_nat x y]
    exact .here I rd_int _
  · rename_i x y
    simp only [Rd] at ra rb
    obtain ⟨t, rfl, h1, h2⟩ := ra; obtain ⟨u, rfl, h3, h4⟩ := rb
    split at e
    · rename_i hh
      cases e
      have := Nat.le_of_ble_eq_true hh
      refine KBy.add_bytes (by rw [byA_size, byA_size]; omega) fun t' k => ?_
      rw [byA_append]
      refine .here I (rd_bytes (fun n hn => ?_) (by rw [List.length_append]; exact this)) _
      exact (List.mem_append.mp hn).elim (h1 n) (h3 n)
    · cases e
  · rename_i c x n
    simp only [Rd] at ra rb
    obtain ⟨t, rfl, h1, h2⟩ := ra; obtain ⟨u, rfl⟩ := rb
    split at e
    · rename_i hh
      cases e
      simp only [Bool.and_eq_true] at hh
      obtain ⟨h5, h6⟩ := hh
      have h5 := Nat.le_of_ble_eq_true h5
      have h6 := Nat.le_of_ble_eq_true h6
      refine bytes_mul_any (b := (c :: x).map Nat.toUInt8) (by intro e; cases e) (by show _ ≤ ((n : Nat) : Int); omega) (by show ((n : Nat) : Int) ≤ _; omega) (by rw [List.length_map, List.length_cons]; omega) fun t' k => ?_
      show QV B W s _ S (.bytes ((List.replicate n ((c :: x).map Nat.toUInt8)).flatten).toArray t') _
      rw [flat_rep]
      refine .here I (rd_bytes (fun k hk => ?_) ?_) _
      · obtain ⟨l, hl, hkl⟩ := List.mem_flatten.mp hk
        rw [(List.mem_replicate.mp hl).2] at hkl
        exact h1 k hkl
      · rw [List.length_flatten, List.map_replicate, List.sum_replicate_nat, List.length_cons]
        calc n * (x.length + 1) ≤ 1000 * 10 := Nat.mul_le_mul h6 h5
          _ ≤ 1000000 := by decide
    · cases e
  · rename_i x y
    simp only [Rd] at ra rb
    obtain ⟨a1, vs, n, rfl, h1, h2, h3, h4⟩ := ra; obtain ⟨a2, us, n2, rfl, g1, g2, g3, g4⟩ := rb
    split at e
    · rename_i hh
      cases e
      have hz := Nat.le_of_ble_eq_true hh
      refine PySem.P.add_list h2 g2 ?_ (by rw [List.size_toArray, List.size_toArray, RdL.length h3, RdL.length g3, sizeLine_eq]; omega)
      refine .push I rfl fun nf get sees => ?_
      simp only [Rd]
      refine ⟨_, vs ++ us, 0, rfl, nf, ?_, ?_, ?_⟩
      · rw [get, List.append_toArray]
      · exact RdL.append (RdL.sees sees h3) (RdL.sees sees g3)
      · rw [List.length_append]; exact hz
    · cases e
  · cases e

theorem iop_leaf {op : Operator} (I : Inv B W S s) (ra : Rd W s.heap a va) (rb : Rd W s.heap b vb) (e : iop op a b = some m) :
    wpAny (Mo B) A (inplaceOp op va vb) (QV B W s m S) E s := by
  unfold iop at e
  split at e
  · simp only [Rd] at ra rb
    obtain ⟨t, rfl⟩ := ra; obtain ⟨u, rfl⟩ := rb
    cases e
    exact PyProof.Rows.iadd_int (.here I rd_int _)
  · simp only [Rd] at ra rb
    obtain ⟨t, rfl⟩ := ra; obtain ⟨u, rfl⟩ := rb
    rw [subI_eq] at e
    cases e
    exact PyProof.Rows.isub_int (.here I rd_int _)
  · rename_i x y
    simp only [Rd] at ra rb
    obtain ⟨t, rfl⟩ := ra; obtain ⟨u, rfl⟩ := rb
    simp only [binop] at e
    split at e
    · rename_i hh
      cases e
      simp only [Bool.and_eq_true] at hh
      obtain ⟨⟨⟨h1, h2⟩, _⟩, _⟩ := hh
      exact PyProof.Rows.imul_int (.here I rd_int _) (mul_ok ((Z.leB_iff _ _).mp h1) ((Z.leB_iff _ _).mp h2))
    · cases e
  · rename_i x y
    simp only [Rd] at ra rb
    obtain ⟨t, rfl⟩ := ra; obtain ⟨u, rfl⟩ := rb
    cases y with
    | negSucc n => simp only [binop] at e; cases e
    | ofNat n =>
      cases n with
      | zero => simp only [binop] at e; cases e
      | succ n =>
        simp only [binop] at e
        split at e
        · rename_i hh
          cases e
          have := Nat.le_of_ble_eq_true hh
          refine AutoIntOps.ifloordiv_1 (fun h => ?_) (fun h => ?_) (QV.here I rd_int _)
          · have := (beq_iff_eq.mp h); cases this
          · rw [PyProof.noPylong_small (by exact Nat.lt_of_le_of_lt (Nat.succ_le_succ this) (by decide))] at h; cases h
        · cases e
  · rename_i x y
    simp only [Rd] at ra rb
    obtain ⟨t, rfl⟩ := ra; obtain ⟨u, rfl⟩ := rb
    cases x with
    | negSucc n => simp only [binop] at e; cases e
    | ofNat x =>
      cases y with
      | negSucc n => simp only [binop] at e; cases e
      | ofNat y =>
        simp only [binop] at e
        cases e
        refine PyProof.Rows.ior_int ?_
        rw [show Builtin.bitOr (Int.ofNat x) (Int.ofNat y) = ((x ||| y : Nat) : Int) from bitOr_nat x y]
        exact .here I rd_int _
  · rename_i x y
    simp only [Rd] at ra rb
    obtain ⟨t, rfl, h1, h2⟩ := ra; obtain ⟨u, rfl, h3, h4⟩ := rb
    simp only [binop] at e
    split at e
    · rename_i hh
      cases e
      have := Nat.le_of_ble_eq_true hh
      refine bytes_iadd (by rw [byA_size, byA_size]; omega) fun t' k => ?_
      rw [byA_append]
      refine .here I (rd_bytes (fun n hn => ?_) (by rw [List.length_append]; exact this)) _
      exact (List.mem_append.mp hn).elim (h1 n) (h3 n)
    · cases e
  · cases e

theorem nodup_idx {l : List Nat} (h : l.Nodup) {i j : Nat} (hi : i < l.length) (hj : j < l.length) (e : l[i] = l[j]) : i = j :=
  (List.getElem?_inj hi h).mp (by rw [List.getElem?_eq_getElem hi, List.getElem?_eq_getElem hj, e])

theorem cmp_leaf {op : CmpOp} {c : Bool} (I : Inv B W S s) (ra : Rd W s.heap a va) (rb : Rd W s.heap b vb) (e : cmp op a b = some c) {Q : Value → Shared → Prop} (h : Q (.bool c) s) :
    wpAny (Mo B) A (compareOp op va vb) Q E s := by
  unfold cmp at e
  split at e
  · exact eq_leaf I ra rb e h
  · rename_i x y
    simp only [Rd] at ra rb
    obtain ⟨t, rfl⟩ := ra; obtain ⟨u, rfl⟩ := rb
    cases e
    refine PyProof.Rows.ne_int ?_
    have : (x != y) = !ibeq x y := by
      rw [Bool.eq_iff_iff, bne_iff_ne, Bool.not_eq_true', ← Bool.not_eq_true]
      exact not_congr (Z.eqB_iff x y).symm
    rw [this]; exact h
  · rename_i x y
    simp only [Rd] at ra rb
    obtain ⟨t, rfl⟩ := ra; obtain ⟨u, rfl⟩ := rb
    cases e
    refine PyProof.Rows.lt_int ?_
    have : decide (x < y) = ilt x y := by rw [Bool.eq_iff_iff, decide_eq_true_iff]; exact (Z.ltB_iff x y).symm
    rw [this]; exact h
  · rename_i x y
    simp only [Rd] at ra rb
    obtain ⟨t, rfl⟩ := ra; obtain ⟨u, rfl⟩ := rb
    cases e
    refine PyProof.Rows.le_int ?_
    have : decide (x ≤ y) = ile x y := by rw [Bool.eq_iff_iff, decide_eq_true_iff]; exact (Z.leB_iff x y).symm
    rw [this]; exact h
  · rename_i x y
    simp only [Rd] at ra rb
    obtain ⟨t, rfl⟩ := ra; obtain ⟨u, rfl⟩ := rb
    cases e
    refine PyProof.Rows.gt_int ?_
    have : decide (y < x) = ilt y x := by rw [Bool.eq_iff_iff, decide_eq_true_iff]; exact (Z.ltB_iff y x).symm
    rw [this]; exact h
  · rename_i x y
    simp only [Rd] at ra rb
    obtain ⟨t, rfl⟩ := ra; obtain ⟨u, rfl⟩ := rb
    cases e
    refine PyProof.Rows.ge_int ?_
    have : decide (y ≤ x) = ile y x := by rw [Bool.eq_iff_iff, decide_eq_true_iff]; exact (Z.leB_iff y x).symm
    rw [this]; exact h
  · rename_i x ys
    simp only [Rd] at rb
    obtain ⟨a1, vs, n, rfl, h1, h2, h3, h4⟩ := rb
    unfold mIn at e
    split at e
    · rename_i k _
      simp only [Rd] at ra
      obtain ⟨t, rfl⟩ := ra
      obtain ⟨ns, e1, rfl⟩ := Option.map_eq_some_iff.mp e
      refine PyProof.Rows.in_list_ints (isList h2) (ints_are e1 h3) ?_
      rw [← anyInt_eq]; exact h
    · rename_i k _
      simp only [Rd] at ra
      obtain ⟨t, rfl, _⟩ := ra
      obtain ⟨ns, e1, rfl⟩ := Option.map_eq_some_iff.mp e
      refine PyProof.Rows.in_list_strs (isList h2) (strs_are e1 h3) ?_
      rw [← anyStr_eq]; exact h
    · cases e
  · rename_i x ys
    simp only [Rd] at rb
    obtain ⟨a1, vs, n, rfl, h1, h2, h3, h4⟩ := rb
    obtain ⟨c', e', hc'⟩ := Option.map_eq_some_iff.mp e
    clear e
    subst hc'
    unfold mIn at e'
    split at e'
    · rename_i k _
      simp only [Rd] at ra
      obtain ⟨t, rfl⟩ := ra
      obtain ⟨ns, e1, e2⟩ := Option.map_eq_some_iff.mp e'
      subst e2
      refine PyProof.Rows.notin_list_ints (isList h2) (ints_are e1 h3) ?_
      rw [← anyInt_eq]; exact h
    · rename_i k _
      simp only [Rd] at ra
      obtain ⟨t, rfl, _⟩ := ra
      obtain ⟨ns, e1, e2⟩ := Option.map_eq_some_iff.mp e'
      subst e2
      refine PyProof.Rows.notin_list_strs (isList h2) (strs_are e1 h3) ?_
      rw [← anyStr_eq]; exact h
    · cases e'
  · rename_i i j
    simp only [Rd] at ra rb
    obtain ⟨p, e1, rfl⟩ := ra; obtain ⟨q, e2, rfl⟩ := rb
    cases e
    cases hq : Nat.beq i j with
    | true =>
      rw [hq] at h
      have := Nat.eq_of_beq_eq_true hq
      subst this
      rw [e1] at e2; cases e2
      exact wpAny_is_ref_self h
    | false =>
      rw [hq] at h
      have hne := Nat.ne_of_beq_eq_false hq
      obtain ⟨A1, _, g1, _, _, es1, n1, d1, _⟩ := I.heap.inst i p e1
      obtain ⟨A2, _, g2, _, _, es2, n2, d2, _⟩ := I.heap.inst j q e2
      refine wpAny_is_ref_other (fun z => ?_) g1 g2 (by intro z; cases z) h
      rw [z, g2] at g1
      have hd : q.2 = p.2 := by injection g1 with g1; injection g1 with _ g1; injection g1
      have hi : i < W.ds.length := by rw [Wd.ds, List.length_map]; exact (List.getElem?_eq_some_iff.mp e1).1
      have hj : j < W.ds.length := by rw [Wd.ds, List.length_map]; exact (List.getElem?_eq_some_iff.mp e2).1
      refine hne (nodup_idx I.heap.nd hi hj ?_)
      have x1 : W.ds[i]? = some p.2 := by rw [Wd.ds, List.getElem?_map, e1]; rfl
      have x2 : W.ds[j]? = some q.2 := by rw [Wd.ds, List.getElem?_map, e2]; rfl
      rw [List.getElem?_eq_getElem hi] at x1
      rw [List.getElem?_eq_getElem hj] at x2
      rw [Option.some.inj x1, Option.some.inj x2, hd]
  · simp only [Rd, primV] at ra rb
    subst ra rb
    cases e
    exact wpAny_isNot_self rfl h
  · cases e

theorem truthy_leaf {c : Bool} (I : Inv B W S s) (ra : Rd W s.heap a va) (e : truthy a = some c) {Q : Bool → Shared → Prop} (h : ∀ k, Q c { s with toks := k }) :
    wpAny (Mo B) A (PySem.truthy va) Q E s := by
  unfold truthy at e
  split at e
  · simp only [Rd] at ra; subst ra; cases e
    exact wpAny_truthy_bool (h s.toks)
  · rename_i i
    simp only [Rd] at ra; obtain ⟨t, rfl⟩ := ra
    refine PyProof.Rows.truthy_int ?_
    have : (i != 0) = c := by
      cases e
      split
      · rfl
      · rename_i hn
        rw [bne_iff_ne]; rintro rfl; exact hn rfl
    rw [this]; exact h s.toks
  · rename_i xs
    simp only [Rd] at ra; obtain ⟨a1, vs, n, rfl, h1, h2, h3, h4⟩ := ra
    have hl := RdL.length h3
    refine wpAny_truthy_list (isList h2) (by rw [List.size_toArray, hl]; omega) ?_
    have : (!vs.toArray.isEmpty) = c := by
      cases e
      cases xs with
      | nil => simp only [RdL] at h3; subst h3; rfl
      | cons x r => simp only [RdL] at h3; obtain ⟨v, r', rfl, _⟩ := h3; rfl
    rw [this]; exact h _
  · cases e
end
end Mine
namespace Mine
open PySem PySem.W PySem.Calls PyProof.Rows

def W0 : Wd := ⟨[], []⟩
structure BOk (B : Bs) : Prop where
  nolimit : B.h₀.NoLimit
  KIn : B.K.In B.h₀
  dictS : ∀ a d k m, lkN a B.T.dict = some d → dictGet (.str k) d = some m → ∃ f v, B.h₀.MapOf (PySem.strKind B.prog B.w) a f ∧ f ⟨k.toArray⟩ = some v ∧ Rd W0 B.h₀ m v
  dictI : ∀ a d k m, lkN a B.T.dictI = some d → dictGet (.int k) d = some m → ∃ f v, B.h₀.MapOf (PySem.intKind B.prog B.w) a f ∧ f k = some v ∧ Rd W0 B.h₀ m v
  dictK : ∀ a d, lkN a B.T.dict = some d → ∃ kvs : List (Str × Value), B.h₀.DictOf (PySem.strKind B.prog B.w) a kvs ∧ (a == sysModules) = false ∧ d.map (·.1) = kvs.map (fun p => MV.str p.1.cps.toList) ∧ kvs.length ≤ 1000 ∧ ∀ p ∈ kvs, p.1.length ≤ 1000
  setter : findIn B.K (.ref B.T.C) "__setattr__" = some (some (.builtin "object.__setattr__"))
  over : plainOver B.K B.T.C = true
  takes : ∀ nm, memS nm B.T.attrs = true → takerIn B.K B.T.C nm = some none
  kitL : kitOne B.K (.type "bytes") (.type "list") = some false
  kitB : kitOne B.K (.type "bytes") (.type "bytes") = some true
  nsg : B.h₀.Ns mainGlobals B.mg
  nsb : B.h₀.Ns builtinsNs B.mb
  glob : ∀ x m, lk x B.T.glob = some m → ∃ v, (B.mg x = some v ∨ (B.mg x = none ∧ B.mb x = some v)) ∧ Rd W0 B.h₀ m v
  makes : makesIn B.K B.T.C = true
  initF : findIn B.K (.ref B.T.C) "__init__" = some (some (.ref B.T.init))
  initFn : isFn B.K (.ref B.T.init) = true
  keepC : keepIn B.K (.ref B.T.C) = true
  smeths : ∀ a t nm f, lkN a B.T.smeth = some t → lk nm t = some f → ∃ mc p rest, typeIn B.K (.ref a) = some mc ∧ readsIn B.K a mc = true ∧ findCls B.K (.ref a) mc nm = some (.get (.builtin "staticmethod.__get__") (.ref p) .none (.ref a)) ∧ recIn B.K p "staticmethod" = some (.ref f :: rest) ∧ specialIn B.K (.ref a) "__getattribute__" = some (some (.builtin "type.__getattribute__"))
  exc : ∀ c, memN c B.T.exc = true → ∃ x bm newId initId Bn, OwnCls x c bm newId B.mg B.h₀ ∧ ExcBaseFacts Bn newId initId bm ∧ bm.contains (.type "BaseException") = true ∧ keepIn B.K (.ref c) = true
  few : B.T.attrs.length ≤ 100
  has : hasDictIn B.K B.T.C = true
  plain : plainGet B.K B.T.C "" = true
  nomod : mroIn B.K B.T.C (.type "module") = some false
  short : ∀ cd, clsIn B.K B.T.C = some cd → cd.name.cps.foldl (fun k c => k + (Str.utf8Of c).length) 0 ≤ 50 ∧ cd.name.toString.length ≤ 50
  attrs : ∀ nm, memS nm B.T.attrs = true → findIn B.K (.ref B.T.C) nm = some none ∧ copiedNames.contains nm = false ∧ nm.length ≤ 1000
  meths : ∀ nm f, lk nm B.T.meth = some f → findIn B.K (.ref B.T.C) nm = some (some (.ref f)) ∧ isFn B.K (.ref f) = true
  cattrs : ∀ nm m, lk nm B.T.cattr = some m → ∃ a, findIn B.K (.ref B.T.C) nm = some (some a) ∧ specialIn B.K a "__get__" = some none ∧ handedIn a = true ∧ copiedNames.contains nm = false ∧ Rd W0 B.h₀ m a

section
variable {B : Bs} {A : Around} {W W' : Wd} {S S' : Sto} {s s' : Shared} {m a b : MV} {v va vb : Value} {E : Value → Shared → Prop}

theorem HeapOk.sees0 {h : Heap} (H : HeapOk B W S h) : Sees W0 B.h₀ W h := by
  refine ⟨fun a o _ e => ⟨fun hm => ?_, H.keep a o e⟩, fun k p e => by simp [W0] at e⟩
  exact absurd (Heap.lt_size e) (Nat.not_lt.mpr (H.no a hm).1)
theorem HeapOk.static {h : Heap} (H : HeapOk B W S h) {m : MV} {v : Value} (r : Rd W0 B.h₀ m v) : Rd W h m v := r.sees H.sees0
theorem mapOf_keeps {prog : Program} {w : World} {K : Type} [DecidableEq K] {knd : KeyKind prog w K} {h h' : Heap} {a : Addr} {f : K → Option Value} (x : h.MapOf knd a f) (k : ∀ b o, h.get? b = some o → h'.get? b = some o) : h'.MapOf knd a f :=
  let ⟨o, es, ep, e, r⟩ := x; ⟨o, es, ep, k _ _ e, r⟩

theorem toUInt8_toNat {n : Nat} (h : n < 256) : n.toUInt8.toNat = n := by
  rw [Nat.toUInt8, UInt8.toNat_ofNat', Nat.mod_eq_of_lt h]
theorem byA_eq (b : List Nat) : byA b = (b.map Nat.toUInt8).toArray := rfl

theorem item_leaf {value sl : Expr} (O : BOk B) (I : Inv B W S s) (ra : Rd W s.heap a va) (rb : Rd W s.heap b vb) (e : item B.T a b = some m)
    (hs : ∀ o i, subscripted sl false o i = operate [o, i] (getItem o i)) :
    wpAny (Mo B) A (subscriptTail value sl va vb) (QV B W s m S) E s := by
  unfold item at e
  split at e
  · rename_i xs n
    simp only [Rd] at ra rb
    obtain ⟨a1, vs, k, rfl, h1, h2, h3, h4⟩ := ra; obtain ⟨u, rfl⟩ := rb
    rw [getL_eq] at e
    obtain ⟨y, e1, e2⟩ := RdL.get h3 e
    have hn : n < xs.length := (List.getElem?_eq_some_iff.mp e).1
    exact tail_any (isList h2).typeIs slot_list_getitem.lookup (wpAny_getItem_list (isList h2) (by exact Int.natCast_nonneg n) (by show ((n : Nat) : Int) < _; omega) (by simpa using e1) (QV.here' I e2)) (hs _ _)
  · rename_i xs n
    simp only [Rd] at ra rb
    obtain ⟨a1, vs, k, rfl, h1, h2, h3, h4⟩ := ra; obtain ⟨u, rfl⟩ := rb
    rw [getL_eq] at e
    obtain ⟨y, e1, e2⟩ := RdL.get h3 e
    have hl := RdL.length h3
    have hn : n < vs.length := (List.getElem?_eq_some_iff.mp e1).1
    have hj : seqIndex? (Int.ofNat n) vs.toArray.size = some n := by
      have x1 : ¬ (Int.ofNat n < 0) := by show ¬ ((n : Nat) : Int) < 0; omega
      have x2 : (0 : Int) ≤ Int.ofNat n := Int.natCast_nonneg n
      have x3 : Int.ofNat n < (vs.length : Int) := by show ((n : Nat) : Int) < _; omega
      unfold seqIndex?
      simp only [x1, x2, x3, if_false, List.size_toArray, decide_true, Bool.and_self, if_true]
      rfl
    exact tail_any (isTup h2).typeIs F.slot_tuple_getitem.lookup (PyProof.Rows.getItem_tuple (isTup h2) (by show _ ≤ ((n : Nat) : Int); omega) (by show ((n : Nat) : Int) < _; omega) hj (by simpa using e1) (QV.here' I e2)) (hs _ _)
  · rename_i xs n
    simp only [Rd] at ra rb
    obtain ⟨t, rfl, h1, h2⟩ := ra; obtain ⟨u, rfl⟩ := rb
    obtain ⟨c, e1, rfl⟩ := Option.map_eq_some_iff.mp e
    rw [getL_eq] at e1
    have hn := (List.getElem?_eq_some_iff.mp e1)
    obtain ⟨hn, hc⟩ := hn
    have hc' : c < 256 := h1 c (by rw [← hc]; exact List.getElem_mem hn)
    refine tail_of_ItemOn ⟨"bytes", _, FB.slot_bytes_getitem.lookup, typeIs_bytes _ _ _, ?_⟩ (hs _ _) (by intro _; cases value <;> rfl)
    rw [byA_eq]
    refine PySem.W.getItem_bytes (by rw [List.length_map]; omega) (by exact Int.natCast_nonneg n) (by rw [List.length_map]; show ((n : Nat) : Int) < _; omega) ?_
    have : (((xs.map Nat.toUInt8).getD (Int.ofNat n).toNat 0).toNat : Int) = Int.ofNat c := by
      show (((xs.map Nat.toUInt8).getD n 0).toNat : Int) = ((c : Nat) : Int)
      rw [List.getD_eq_getElem?_getD, List.getElem?_map, e1]
      show (((c.toUInt8)).toNat : Int) = _
      rw [toUInt8_toNat hc']
    rw [this]
    exact .here I rd_int _
  · rename_i a1 k
    simp only [Rd] at ra rb
    subst ra; obtain ⟨u, rfl⟩ := rb
    obtain ⟨d, e1, e2⟩ := Option.bind_eq_some_iff.mp e
    obtain ⟨f, v, hm, hf, r⟩ := O.dictI a1 d k m e1 e2
    have hm' := mapOf_keeps hm I.heap.keep
    exact tail_any hm'.typeIs slot_dict_getitem.lookup (wpAny_getItem_of (intKind_is B.prog B.w k u) hm' hf (.here I (I.heap.static r) _)) (hs _ _)
  · rename_i a1 k
    simp only [Rd] at ra rb
    subst ra; obtain ⟨u, rfl, _⟩ := rb
    obtain ⟨d, e1, e2⟩ := Option.bind_eq_some_iff.mp e
    obtain ⟨f, v, hm, hf, r⟩ := O.dictS a1 d k m e1 e2
    have hm' := mapOf_keeps hm I.heap.keep
    exact tail_any hm'.typeIs slot_dict_getitem.lookup (wpAny_getItem_of (PySem.strKind_is B.prog B.w ⟨k.toArray⟩ u) hm' hf (.here I (I.heap.static r) _)) (hs _ _)
  · cases e
end
end Mine
namespace Mine
open PySem PySem.W PySem.Calls PyProof.Rows

def Pt (o : Option Nat) (v : Value) : Prop := match o with | none => v = .none | some n => ∃ t, v = .int (.ofNat n) t
theorem Pt.part {o : Option Nat} {v : Value} (p : Pt o v) : IsPart v (o.map Int.ofNat) := by
  cases o with
  | none => simp only [Pt] at p; subst p; exact .none
  | some n => simp only [Pt] at p; obtain ⟨t, rfl⟩ := p; exact .int _ _

theorem cut_eq {α : Type} (xs : List α) (lo hi : Option Nat) :
    (xs.drop ((lo.map Int.ofNat).elim 0 (clipAt xs.length))).take ((hi.map Int.ofNat).elim xs.length (clipAt xs.length) - (lo.map Int.ofNat).elim 0 (clipAt xs.length)) = cut lo hi xs := by
  have e : ∀ n : Nat, clipAt xs.length (Int.ofNat n) = min n xs.length := fun n => clipAt_nat _ _
  unfold cut
  cases lo with
  | none =>
    cases hi with
    | none => simp
    | some h =>
      simp only [Option.map, Option.elim, e, List.drop_zero, Nat.sub_zero]
      rcases Nat.le_total h xs.length with q | q
      · rw [Nat.min_eq_left q]
      · rw [Nat.min_eq_right q, List.take_of_length_le (Nat.le_refl _), List.take_of_length_le q]
  | some l =>
    cases hi with
    | none =>
      simp only [Option.map, Option.elim, e]
      rcases Nat.le_total l xs.length with q | q
      · rw [Nat.min_eq_left q, List.take_of_length_le (by simp)]
      · rw [Nat.min_eq_right q, List.drop_of_length_le (Nat.le_refl _), List.drop_of_length_le q]; simp
    | some h =>
      simp only [Option.map, Option.elim, e]
      rw [List.drop_take]
      rcases Nat.le_total l xs.length with q | q
      · rw [Nat.min_eq_left q]
        rcases Nat.le_total h xs.length with q2 | q2
        · rw [Nat.min_eq_left q2]
        · rw [Nat.min_eq_right q2, List.take_of_length_le (by simp), List.take_of_length_le (by rw [List.length_drop]; omega)]
      · rw [Nat.min_eq_right q, List.drop_of_length_le (Nat.le_refl _), List.drop_of_length_le q]; simp

section
variable {B : Bs} {A : Around} {W W' : Wd} {S S' : Sto} {s s' : Shared} {m a b : MV} {v va vb : Value} {E : Value → Shared → Prop}

theorem RdL.drop {h : Heap} : ∀ {xs : List MV} {vs : List Value} (n : Nat), RdL W h xs vs → RdL W h (xs.drop n) (vs.drop n)
  | xs, vs, 0, r => r
  | [], vs, n + 1, r => by simp only [RdL] at r; subst r; simp [RdL]
  | x :: xs, vs, n + 1, r => by
    simp only [RdL] at r
    obtain ⟨v, r', rfl, _, h2⟩ := r
    exact RdL.drop n h2
theorem RdL.take {h : Heap} : ∀ {xs : List MV} {vs : List Value} (n : Nat), RdL W h xs vs → RdL W h (xs.take n) (vs.take n)
  | xs, vs, 0, r => by simp [RdL]
  | [], vs, n + 1, r => by simp only [RdL] at r; subst r; simp [RdL]
  | x :: xs, vs, n + 1, r => by
    simp only [RdL] at r
    obtain ⟨v, r', rfl, h1, h2⟩ := r
    simp only [List.take_succ_cons, RdL]
    exact ⟨v, _, rfl, h1, RdL.take n h2⟩
theorem RdL.cut {h : Heap} {xs : List MV} {vs : List Value} (lo hi : Option Nat) (r : RdL W h xs vs) : RdL W h (cut lo hi xs) (cut lo hi vs) := by
  unfold Mine.cut
  cases hi with
  | none => cases lo with
    | none => exact r
    | some l => exact r.drop l
  | some h => cases lo with
    | none => exact r.take h
    | some l => exact (r.take h).drop l
theorem cut_len {α : Type} (lo hi : Option Nat) (xs : List α) : (cut lo hi xs).length ≤ xs.length := by
  unfold cut
  cases hi <;> cases lo <;> simp <;> omega
theorem cut_mem {α : Type} {lo hi : Option Nat} {xs : List α} {x : α} (h : x ∈ cut lo hi xs) : x ∈ xs := by
  unfold cut at h
  cases hi <;> cases lo
  · exact h
  · exact List.mem_of_mem_drop h
  · exact List.mem_of_mem_take h
  · exact List.mem_of_mem_take (List.mem_of_mem_drop h)
theorem cut_map {α β : Type} (f : α → β) (lo hi : Option Nat) (xs : List α) : cut lo hi (xs.map f) = (cut lo hi xs).map f := by
  unfold cut
  cases hi <;> cases lo <;> simp [List.map_drop, List.map_take]

theorem slice_leaf {value sl : Expr} {sa : Addr} {vl vu : Value} {lo hi : Option Nat} {ops : List Value} (I : Inv B W S s) (ra : Rd W s.heap a va) (hsl : s.heap.IsSliceOf sa vl vu .none)
    (pl : Pt lo vl) (pu : Pt hi vu) (e : slice a lo hi = some m) (hs : ∀ o i, subscripted sl false o i = operate [i, o] (getItem o i)) :
    wpAny (Mo B) A (subscriptTail value sl va (.ref sa)) (QV B W s m S) E s := by
  unfold slice at e
  split at e
  · cases e
    simp only [Rd] at ra
    obtain ⟨a1, vs, k, rfl, h1, h2, h3, h4⟩ := ra
    have hl := RdL.length h3
    refine tail_any (isList h2).typeIs slot_list_getitem.lookup (wpAny_getItem_list_slice (isList h2) hsl pl.part pu.part .none (by simp) ?_ (by rw [List.size_toArray, hl, sizeLine_eq]; omega)) (hs _ _)
    rw [slicePick_plain]
    have e1 : vs.toArray.toList = vs := rfl
    have e2 : vs.toArray.size = vs.length := rfl
    rw [e1, e2, cut_eq]
    refine .push I rfl fun nf get sees => ?_
    simp only [Rd]
    exact ⟨_, _, 0, rfl, nf, get, RdL.cut _ _ (RdL.sees sees h3), Nat.le_trans (cut_len _ _ _) h4⟩
  · rename_i x
    cases e
    simp only [Rd] at ra
    obtain ⟨t, rfl, h1, h2⟩ := ra
    have e1 : (byA x).toList = x.map Nat.toUInt8 := rfl
    have e2 : (byA x).size = (x.map Nat.toUInt8).length := by rw [byA_size, List.length_map]
    have e3 : KBy.picked (byA x) (lo.map Int.ofNat) (hi.map Int.ofNat) = byA (cut lo hi x) := by
      rw [KBc.picked_eq, e1, e2, cut_eq, cut_map]; rfl
    have h4 := Nat.le_trans (cut_len lo hi x) h2
    refine tail_any (typeIs_bytes _ _ _) FB.slot_bytes_getitem.lookup (getItem_meets (typeIs_bytes _ _ _) (by decide) FB.slot_bytes_getitem FB.entry_bytes_getitem (FB.args_bytes_getitem_2 _ _) (KBc.meets_slice2 (byA x) t sa pl.part pu.part) ⟨hsl, ?_, fun t' k => ?_⟩) (hs _ _)
    · rw [e3, byA_size, sizeLine_eq]; omega
    · rw [e3]
      exact .here I (rd_bytes (fun n hn => h1 n (cut_mem hn)) h4) _
  · rename_i x k
    cases e
    simp only [Rd] at ra
    obtain ⟨t, rfl, h2⟩ := ra
    simp only [Pt] at pl pu
    subst pl; obtain ⟨u, rfl⟩ := pu
    obtain ⟨o, ho, hc, hd⟩ := hsl
    refine tail_any (typeIs_str _ _ _) F.slot_str_getitem.lookup (wpAny_getItem_str_slice (l := none) (u := some (Int.ofNat k, u)) (st := none) ⟨_, ho, hc, hd⟩ rfl
      (post_val_or_str ⟨Nat.le_trans (Txt.slice_le _ _ _) (by rw [sizeLine_eq]; show x.toArray.size ≤ _; simp; omega), fun t' k' => ?_⟩)) (hs _ _)
    have key : Txt.slice (⟨x.toArray⟩ : Str) none (some (Int.ofNat k)) = ⟨(x.take k).toArray⟩ := by
      have := slice_to_min_closes (x := (⟨x.toArray⟩ : Str)) (n := Int.ofNat k) (Int.natCast_nonneg k) rfl
      rw [beq_iff_eq] at this
      rw [this]
      congr 2
      have hlen : (⟨x.toArray⟩ : Str).length = x.length := by show x.toArray.size = _; simp
      rw [hlen]
      show (x.drop 0).take _ = _
      rw [List.drop_zero]
      split
      · rename_i h; rw [List.take_of_length_le (by omega), List.take_of_length_le (by have : (x.length : Int) < (k : Int) := h; omega)]
      · congr 1
    refine QV.here I ?_ _
    show Rd W s.heap _ (.str (Txt.slice (⟨x.toArray⟩ : Str) none (some (Int.ofNat k))) t')
    rw [key]
    exact rd_str (Nat.le_trans (List.length_take_le' ..) h2)
  · cases e
end
end Mine
namespace Mine
set_option maxRecDepth 100000
open PySem PySem.W PySem.Calls PyProof.Rows Builtin

theorem enc0 (t u : Tok) : «str.encode» ⟨[.str ⟨#[]⟩ t, .str ⟨#[117, 116, 102, 45, 56]⟩ u], []⟩ = (mkBytes #[] >>= fun v => ret v) := by kernel_rfl
theorem enc1 (t u : Tok) : «str.encode» ⟨[.str ⟨#[97]⟩ t, .str ⟨#[117, 116, 102, 45, 56]⟩ u], []⟩ = (mkBytes #[97] >>= fun v => ret v) := by kernel_rfl
theorem enc2 (t u : Tok) : «str.encode» ⟨[.str ⟨#[233, 8364]⟩ t, .str ⟨#[117, 116, 102, 45, 56]⟩ u], []⟩ = (mkBytes (byA (encode [233, 8364])) >>= fun v => ret v) := by kernel_rfl
theorem enc3 (t u : Tok) : «str.encode» ⟨[.str ⟨#[66376, 32, 120]⟩ t, .str ⟨#[117, 116, 102, 45, 56]⟩ u], []⟩ = (mkBytes (byA (encode [66376, 32, 120])) >>= fun v => ret v) := by kernel_rfl

theorem dec_eq (c : UInt8) (cs : List UInt8) (t u : Tok) : «bytes.decode» ⟨[.bytes (c :: cs).toArray t, .str ⟨#[117, 116, 102, 45, 56]⟩ u], []⟩ = (mkStr (PySem.Str.ofString "utf-8") >>= fun _ => mkStr (PySem.Str.ofString "utf-8") >>= fun e => mkStr (PySem.Str.ofString "bytes.decode") >>= fun d =>
    call (.builtin "_codecs.decode.text") [.bytes (c :: cs).toArray t, e, .none, d] >>= fun v => ret v) := by kernel_rfl
theorem dec_0 (t u : Tok) : «bytes.decode» ⟨[.bytes #[] t, .str ⟨#[117, 116, 102, 45, 56]⟩ u], []⟩ = (rule "bytes.decode.empty" >>= fun _ => retStr PySem.Str.empty) := by kernel_rfl
theorem run1 : ∀ id, _codecs.runDecoder id _codecs.utf8Decoder none true (97 :: [] : List UInt8).toArray 0 [] = pure ((⟨#[97]⟩ : Str).cps, 1) := by intro id; kernel_rfl
theorem run2 : ∀ id, _codecs.runDecoder id _codecs.utf8Decoder none true (195 :: [169, 226, 130, 172] : List UInt8).toArray 0 [] = pure ((⟨#[233, 8364]⟩ : Str).cps, 5) := by intro id; kernel_rfl
theorem run3 : ∀ id, _codecs.runDecoder id _codecs.utf8Decoder none true (240 :: [144, 141, 136, 32, 120] : List UInt8).toArray 0 [] = pure ((⟨#[66376, 32, 120]⟩ : Str).cps, 6) := by intro id; kernel_rfl

section
variable {prog : Program} {w : World} {A : Around} {E : Value → Shared → Prop} {s : Shared} {t u : Tok} {Q : Value → Shared → Prop}
theorem enc_call {x : Str} {b : Array UInt8} (e : ∀ t u, «str.encode» ⟨[.str x t, .str ⟨#[117, 116, 102, 45, 56]⟩ u], []⟩ = (mkBytes b >>= fun v => ret v)) (hb : b.size ≤ 1000) (h : ∀ t' k, Q (.bytes b t') { s with toks := k }) :
    wpAny (model prog w) A (call (.builtin "str.encode") [.str x t, .str ⟨#[117, 116, 102, 45, 56]⟩ u]) Q E s := by
  refine wpAny_call_entry F.slot_str_encode (typeIs_str s x t) F.entry_str_encode ?_ (F.args_str_encode_2 _ _)
  rw [e]
  exact wpAny_bind (wpAny_mkBytes (wpAny_pure ⟨_, rfl, h _ _⟩) (by rw [sizeLine_eq]; omega))
theorem dec_args (a b : Value) : argsOk "bytes.decode" ⟨[a, b], []⟩ := by
  unfold argsOk; rw [signature?_of (id := "bytes.decode") (n := ['e', 'd', 'o', 'c', 'e', 'd']) (o := ['s', 'e', 't', 'y', 'b']) (by kernel_rfl) FB.owner_bytes]; kernel_rfl
theorem dec_call {c : UInt8} {cs : List UInt8} {x : Str} {n : Nat} (hd : ∀ id, _codecs.runDecoder id _codecs.utf8Decoder none true (c :: cs).toArray 0 [] = pure (x.cps, n)) (hsz : x.length ≤ 1000) (h : ∀ t' k, Q (.str x t') { s with toks := k }) :
    wpAny (model prog w) A (call (.builtin "bytes.decode") [.bytes (c :: cs).toArray t, .str ⟨#[117, 116, 102, 45, 56]⟩ u]) Q E s := by
  refine wpAny_call_entry FB.slot_bytes_decode (typeIs_bytes s _ t) FB.entry_bytes_decode ?_ (dec_args _ _)
  rw [dec_eq]
  refine wpAny_bind (wpAny_mkStr ?_ (by decide))
  refine wpAny_bind (wpAny_mkStr ?_ (by decide))
  refine wpAny_bind (wpAny_mkStr ?_ (by decide))
  exact wpAny_bind (call_function_meets KBd.kind_text KBd.plain_text KBd.entry_text (KBd.args_text _ _ _ _) (KBd.meets_text hd) ⟨by rw [sizeLine_eq]; omega, wpAny_pure ⟨_, rfl, h _ _⟩⟩)
theorem dec_call0 (h : ∀ t' k, Q (.str ⟨#[]⟩ t') { s with toks := k }) :
    wpAny (model prog w) A (call (.builtin "bytes.decode") [.bytes #[] t, .str ⟨#[117, 116, 102, 45, 56]⟩ u]) Q E s := by
  refine wpAny_call_entry FB.slot_bytes_decode (typeIs_bytes s _ t) FB.entry_bytes_decode ?_ (dec_args _ _)
  rw [dec_0]
  exact wpAny_bind (wpAny_rule (wpAny_bind (wpAny_mkStr (wpAny_pure ⟨_, rfl, h _ _⟩) (by decide))))
end

theorem decodeIn_mem {b : List Nat} {x : List Nat} : ∀ {l : List (List Nat)}, decodeIn b l = some x → x ∈ l ∧ encode x = b
  | t :: r, h => by
    unfold decodeIn at h
    split at h
    · rename_i q; cases h; exact ⟨.head _, leq_iff.mp q⟩
    · exact ⟨.tail _ (decodeIn_mem h).1, (decodeIn_mem h).2⟩
theorem texts_enc_inj : ∀ x ∈ texts, ∀ y ∈ texts, encode x = encode y → x = y := by decide +kernel

theorem toBig_len : ∀ (k x : Nat), (toBig k x).length = k
  | 0, _ => rfl
  | k + 1, x => by unfold toBig; rw [List.length_append, toBig_len k]; rfl
theorem toBig_lt : ∀ (k x : Nat), ∀ n ∈ toBig k x, n < 256
  | 0, _, n, h => nomatch h
  | k + 1, x, n, h => by
    unfold toBig at h
    rcases List.mem_append.mp h with h | h
    · exact toBig_lt k _ n h
    · rw [List.mem_singleton.mp h]; exact Nat.mod_lt _ (by decide)
theorem little_toBig : ∀ (k x : Nat), (KTBy.little k (x : Int)).reverse = (toBig k x).map fun n : Nat => (n : Int)
  | 0, _ => rfl
  | k + 1, x => by
    show ((x : Int) % 256 :: KTBy.little k ((x : Int) / 256)).reverse = _
    rw [List.reverse_cons, show (x : Int) / 256 = ((x / 256 : Nat) : Int) by omega, little_toBig k]
    show _ = (toBig k (x / 256) ++ [x % 256]).map _
    rw [List.map_append]
    rfl
theorem bInts_byA {b : Array UInt8} {l : List Nat} (hl : ∀ n ∈ l, n < 256) (h : KBw.bInts b = l.map fun n : Nat => (n : Int)) : b = byA l := by
  have e : b.toList.map (fun c => c.toNat) = l := by
    have := congrArg (List.map Int.toNat) h
    unfold KBw.bInts at this
    rw [List.map_map, List.map_map] at this
    simpa [Function.comp_def] using this
  have : b.toList = l.map Nat.toUInt8 := by
    rw [← e, List.map_map]
    conv => lhs; rw [← List.map_id b.toList]
    refine List.map_congr_left fun c _ => ?_
    simp [Nat.toUInt8]
  apply Array.ext'
  rw [this]; rfl

theorem idxOf_get {x : List Nat} : ∀ {l : List (List Nat)} {n k : Nat}, idxOf x l n = some k → n ≤ k ∧ (l[k - n]? = some x) ∧ ∀ i, i < k - n → ∃ y, l[i]? = some y ∧ y ≠ x
  | y :: r, n, k, h => by
    unfold idxOf at h
    split at h
    · rename_i q; cases h
      rw [leq_iff.mp q]
      exact ⟨Nat.le_refl _, by simp, fun i hi => by omega⟩
    · rename_i q
      obtain ⟨h1, h2, h3⟩ := idxOf_get h
      refine ⟨by omega, ?_, fun i hi => ?_⟩
      · have : k - n = (k - (n + 1)) + 1 := by omega
        rw [this, List.getElem?_cons_succ]; exact h2
      · cases i with
        | zero => exact ⟨y, rfl, fun e => by rw [leq_iff.mpr e] at q; cases q⟩
        | succ i => exact h3 i (by omega)
theorem strs_len : ∀ {xs : List MV} {l : List (List Nat)}, strs? xs = some l → xs = l.map .str
  | [], _, e => by cases e; rfl
  | .str x :: r, _, e => by
    obtain ⟨ns', e1, rfl⟩ := Option.map_eq_some_iff.mp e
    rw [strs_len e1]; rfl

section
variable {B : Bs} {m o : MV} {S : Sto} {nm : Str} {args : List MV}
theorem noDictL {h : Heap} {a : Addr} {vs : List Value} {n : Nat} (e : h.get? a = some (listObj vs n)) : ∀ b, Value.ref a = .ref b → ∃ o, h.get? b = some o ∧ o.dict = none := fun b q => by cases q; exact ⟨_, e, rfl⟩
theorem utf8_eq {e : List Nat} (h : leq e [117, 116, 102, 45, 56] = true) : (⟨e.toArray⟩ : Str) = ⟨#[117, 116, 102, 45, 56]⟩ := by rw [leq_iff.mp h]

def GetsM (B : Bs) (nm : Str) (id : String) (o : MV) : Prop := ∀ (A : Around) (E : Value → Shared → Prop) (W : Wd) (s : Shared) (vo : Value), Rd W s.heap o vo → ∀ (pl : Sem Bool) (Q : Value × List Value → Shared → Prop), Q (.builtin id, [vo]) s → wpAny (Mo B) A (getMethod vo nm pl) Q E s
def CallsM (B : Bs) (id : String) (o : MV) (args : List MV) (m : MV) : Prop := ∀ (A : Around) (E : Value → Shared → Prop) (W : Wd) (S : Sto) (s : Shared) (vo : Value) (vs : List Value), Inv B W S s → Rd W s.heap o vo → RdL W s.heap args vs → wpAny (Mo B) A (call (.builtin id) (vo :: vs)) (QV B W s m S) E s

theorem bmeth_leaf (e : bmeth nm o args = some m) : ∃ id, GetsM B nm id o ∧ CallsM B id o args m := by
  unfold bmeth at e
  split at e
  · -- encode
    rename_i x cod
    split at e
    · rename_i hh
      simp only [Bool.and_eq_true] at hh
      have hn := seq_iff.mp hh.1
      split at e
      · rename_i hy
        cases e
        have hx : x ∈ texts := by
          rw [anyStr_eq, List.any_eq_true] at hy
          obtain ⟨z, hz, e⟩ := hy
          obtain ⟨y, hy, rfl⟩ := List.mem_map.mp hz
          rw [beq_iff_eq] at e
          rw [← str_eq.mp e]; exact hy
        refine ⟨"str.encode", fun A E W s vo rv pl Q h => ?_, fun A E W S s vo vs I rv rs => ?_⟩
        · simp only [Rd] at rv
          obtain ⟨t, rfl, _⟩ := rv
          rw [hn]
          exact getMethod_builtin (typeIs_str _ _ _) F.plainAttrs_str F.slot_str_encode F.type_str_encode (fun a q => nomatch q) h
        · simp only [Rd, RdL] at rv rs
          obtain ⟨t, rfl, _⟩ := rv
          obtain ⟨v, r, rfl, ⟨u, rfl, _⟩, rfl⟩ := rs
          rw [utf8_eq hh.2]
          simp only [texts, List.mem_cons, List.not_mem_nil, or_false] at hx
          rcases hx with rfl | rfl | rfl | rfl
          · exact enc_call enc0 (by decide) fun t' k => .here I (rd_bytes (x := []) (by decide) (by decide)) k
          · exact enc_call enc1 (by decide) fun t' k => .here I (rd_bytes (x := [97]) (by decide) (by decide)) k
          · exact enc_call enc2 (by decide) fun t' k => .here I (rd_bytes (x := encode [233, 8364]) (by decide) (by decide)) k
          · exact enc_call enc3 (by decide) fun t' k => .here I (rd_bytes (x := encode [66376, 32, 120]) (by decide) (by decide)) k
      · cases e
    · cases e
  · -- decode
    rename_i b cod
    split at e
    · rename_i hh
      simp only [Bool.and_eq_true] at hh
      have hn := seq_iff.mp hh.1
      obtain ⟨x, hx, rfl⟩ := Option.map_eq_some_iff.mp e
      obtain ⟨hx1, hx2⟩ := decodeIn_mem hx
      refine ⟨"bytes.decode", fun A E W s vo rv pl Q h => ?_, fun A E W S s vo vs I rv rs => ?_⟩
      · simp only [Rd] at rv
        obtain ⟨t, rfl, _⟩ := rv
        rw [hn]
        with_reducible exact KBd.method h
      · simp only [Rd, RdL] at rv rs
        obtain ⟨t, rfl, _⟩ := rv
        obtain ⟨v, r, rfl, ⟨u, rfl, _⟩, rfl⟩ := rs
        rw [utf8_eq hh.2, ← hx2]
        simp only [texts, List.mem_cons, List.not_mem_nil, or_false] at hx1
        rcases hx1 with rfl | rfl | rfl | rfl
        · rw [show byA (encode []) = #[] from rfl]
          exact dec_call0 fun t' k => .here I (rd_str (x := []) (by decide)) k
        · rw [show byA (encode [97]) = (97 :: [] : List UInt8).toArray from by decide +kernel]
          exact dec_call run1 (by decide) fun t' k => .here I (rd_str (x := [97]) (by decide)) k
        · rw [show byA (encode [233, 8364]) = (195 :: [169, 226, 130, 172] : List UInt8).toArray from by decide +kernel]
          exact dec_call run2 (by decide) fun t' k => .here I (rd_str (x := [233, 8364]) (by decide)) k
        · rw [show byA (encode [66376, 32, 120]) = (240 :: [144, 141, 136, 32, 120] : List UInt8).toArray from by decide +kernel]
          exact dec_call run3 (by decide) fun t' k => .here I (rd_str (x := [66376, 32, 120]) (by decide)) k
    · cases e
  · -- to_bytes
    rename_i x k cod
    split at e
    · rename_i hh
      simp only [Bool.and_eq_true] at hh
      obtain ⟨⟨⟨h1, h2⟩, h3⟩, h4⟩ := hh
      have hn := seq_iff.mp h1
      have h3 := Nat.le_of_ble_eq_true h3
      have h4 : x < 256 ^ k := by simpa [Nat.blt_eq] using h4
      cases e
      refine ⟨"int.to_bytes", fun A E W s vo rv pl Q h => ?_, fun A E W S s vo vs I rv rs => ?_⟩
      · simp only [Rd] at rv
        obtain ⟨t, rfl⟩ := rv
        rw [hn]
        exact KTBy.method h
      · simp only [Rd, RdL] at rv rs
        obtain ⟨t, rfl⟩ := rv
        obtain ⟨v, r, rfl, ⟨u, rfl⟩, v2, r2, rfl, ⟨u2, rfl, _⟩, rfl⟩ := rs
        have he : (⟨cod.toArray⟩ : Str) = PySem.Str.ofString "big" := by rw [leq_iff.mp h2]; rfl
        rw [he]
        refine KTBy.to_big h3 rfl (Int.natCast_nonneg x) (by show ((x : Nat) : Int) < (256 : Int) ^ k; exact_mod_cast h4) fun b t' k' hb _ => ?_
        have hb' : KBw.bInts b = (toBig k x).map fun n : Nat => (n : Int) := hb.trans (little_toBig k x)
        rw [bInts_byA (toBig_lt k x) hb']
        exact .here I (rd_bytes (toBig_lt k x) (by rw [toBig_len]; omega)) _
    · cases e
  · -- index
    rename_i xs x
    split at e
    · rename_i hh
      have hn := seq_iff.mp hh
      obtain ⟨l, e1, e2⟩ := Option.bind_eq_some_iff.mp e
      obtain ⟨j, e3, rfl⟩ := Option.map_eq_some_iff.mp e2
      obtain ⟨_, g1, g2⟩ := idxOf_get e3
      simp only [Nat.sub_zero] at g1 g2
      refine ⟨"list.index", fun A E W s vo rv pl Q h => ?_, fun A E W S s vo vs I rv rs => ?_⟩
      · simp only [Rd] at rv
        obtain ⟨a, vs, n, rfl, _, q, _⟩ := rv
        rw [hn]
        exact getMethod_builtin (isList q).typeIs F.plainAttrs_list F.slot_list_index F.type_list_index (noDictL q) h
      · simp only [Rd, RdL] at rv rs
        obtain ⟨a, ws, n, rfl, _, q, q2, q3⟩ := rv
        obtain ⟨v, r, rfl, ⟨u, rfl, _⟩, rfl⟩ := rs
        have hA := strs_are e1 q2
        have hl : ws.length = l.length := by rw [RdL.length q2, strs_len e1, List.length_map]
        have hj : j < l.length := (List.getElem?_eq_some_iff.mp g1).1
        have at' : ∀ (i : Nat) (y : List Nat), l[i]? = some y → ∃ t, ws[i]? = some (Value.str ⟨y.toArray⟩ t) := fun i y hy => by
          have hx : xs[i]? = some (MV.str y) := by rw [strs_len e1, List.getElem?_map, hy]; rfl
          obtain ⟨z, z1, z2⟩ := RdL.get q2 hx
          simp only [Rd] at z2
          obtain ⟨t, rfl, _⟩ := z2
          exact ⟨t, z1⟩
        have hsize : ws.toArray.size = ws.length := List.size_toArray ..
        have hxs : xs.length = l.length := by rw [strs_len e1, List.length_map]
        refine call_meets F.slot_list_index (isList q).typeIs F.entry_list_index (F.args_list_index_2 _ _)
          (MeetsSeq.list_index a ws.toArray n (.str ⟨x.toArray⟩ u) (isStrOf ⟨x.toArray⟩) (fun y hy => eq_isStrOf _ _ hA y (by simpa using hy)) j (by omega) (by omega) ?_ ?_) ⟨q, ?_⟩
        · obtain ⟨t, ht⟩ := at' j x g1
          have : ws.toArray[j]'(by omega) = Value.str ⟨x.toArray⟩ t := by
            have := (List.getElem?_eq_some_iff.mp ht).2
            simpa using this
          rw [this]
          simp [isStrOf]
        · intro i hi hij
          obtain ⟨y, hy, hne⟩ := g2 i hij
          obtain ⟨t, ht⟩ := at' i y hy
          have : ws.toArray[i] = Value.str ⟨y.toArray⟩ t := by
            have := (List.getElem?_eq_some_iff.mp ht).2
            simpa using this
          rw [this]
          simp [isStrOf, hne]
        · exact .here I rd_int _
    · cases e
  · cases e
end
end Mine
namespace Mine
set_option maxRecDepth 100000
open PySem PySem.W PySem.Calls PyProof.Rows Builtin Builtin.ObjectAttr

section
variable {prog : Program} {w : World} {A : Around} {E : Value → Shared → Prop} {s : Shared} {K : Frag} {x C : Addr} {ox : Obj} {od : Obj} {name : Str} {Q : Value → Shared → Prop} {t : Tok} {cd : ClassData}
theorem kind_hasattr : builtinKind "hasattr" = none := by decide +kernel
theorem plain_hasattr : plainId "hasattr" = true := by decide +kernel
theorem entry_hasattr : entryFor table "hasattr" = some Builtin.«hasattr» := entryFor_of_tree (by kernel_rfl)
theorem args_hasattr (a b : Value) : argsOk "hasattr" ⟨[a, b], []⟩ := by unfold argsOk; kernel_rfl

theorem looks_inst (X : K.In s.heap) (I : InstAt s.heap x ox C (some od)) {b : Value} {r : Bool} (e : mroIn K C b = some r) {M : Model} : Looks M s.heap (isInstance (.ref x) b) r :=
  I.type.andThen (looks_mroIn X e)

theorem miss_open (X : K.In s.heap) (I : InstAt s.heap x ox C (some od)) (hg : plainGet K C name = true) (hf : findObj K C (some od) name = some .missing) (hcd : clsIn K C = some cd)
    (hsh : cd.name.cps.foldl (fun k c => k + (Str.utf8Of c).length) 0 ≤ 50 ∧ cd.name.toString.length ≤ 50) (hnm : name.length ≤ 1000) (hh : A.handled = none)
    (h : ∀ h' tk e, Heap.NewAttrErr s.heap h' e (.ref x) name → E (.ref e) { s with heap := h', toks := tk }) :
    wpAny (model prog w) A (getAttrBy (.ref x) (.str name t) false) Q E s := by
  have L0 := I.type (M := model prog w)
  have L1 := looks_findIn (M := model prog w) X (plainGet_of hg).1
  have L2 := looks_find (M := model prog w) X I hf
  have L3 := looks_findIn (M := model prog w) X (plainGet_of hg).2
  have L4 := looks_clsIn (M := model prog w) X hcd
  obtain ⟨hp, g, d, tk, os⟩ := s
  unfold getAttrBy
  refine wpAny_holding (wpAny_bind (L0.at (wpAny_bind (L1.at ?_))))
  show wpAny _ _ (getAttrEveryday _ _ _) _ _ _
  have tail : wpAny (model prog w) A.in1 (Builtin.«proto.getattr_hooked» ⟨[.ref x, .str name t], []⟩) (fun fin s' => False) E ⟨hp, g, d, tk, os⟩ := by
    refine wpAny_bind (wpAny_pure (wpAny_bind (L0.at (wpAny_bind (L2.at ?_)))))
    refine wpAny_bind (L3.at ?_)
    show wpAny _ _ (noSuchAttribute _ _) _ _ _
    unfold noSuchAttribute typeNameOfCut
    have Ls : Looks (model prog w) hp (shownTypeOf (.ref x)) (.ref C) := L0.andThen .now
    refine wpAny_bind (wpAny_bind (Ls.at ?_))
    unfold typeNameCut
    refine wpAny_bind (L4.at ?_)
    refine wpAny_ite ?_
    rw [if_pos (Nat.le_trans hsh.1 (by decide))]
    refine wpAny_pure ?_
    refine wpAny_raiseAttrError hh h ?_
    refine attrMsg_fits ?_ (by rw [sizeLine_eq]; omega)
    have e : ∀ y : String, y.length ≤ 50 → (s!"'{y}' object has no attribute '").length ≤ 90 := fun y hy => by
      show ("'" ++ y ++ "' object has no attribute '").length ≤ 90
      rw [String.length_append, String.length_append]
      have e1 : "'".length = 1 := by decide
      have e2 : "' object has no attribute '".length = 27 := by decide
      omega
    exact e _ hsh.2
  refine wpAny_bind (wpAny_onRaise (wpAny_runValue (codeAny_builtin F.plainObj_entry_getattr_hooked (wpAny_mono tail (fun fin s' z => z.elim) fun e s' z => ?_))))
  exact wpAny_pure z

theorem hasattr_of (X : K.In s.heap) (I : InstAt s.heap x ox C (some od)) (hm : mroIn K C (.type "module") = some false)
    (h : wpAny (model prog w) A.in1 (getAttrBy? (.ref x) (.str name t)) (fun r s' => Q (.bool r.isSome) s') E s) :
    wpAny (model prog w) A (call (.builtin "hasattr") [.ref x, .str name t]) Q E s := by
  have L0 := I.type (M := model prog w)
  have L1 := looks_inst X I hm (M := model prog w)
  refine Calls.call_function_entry kind_hasattr plain_hasattr entry_hasattr (args_hasattr _ _) ?_
  obtain ⟨hp, g, d, tk, os⟩ := s
  unfold Builtin.«hasattr»
  refine wpAny_bind (wpAny_of_eq (a := [.ref x, .str name t]) (by first | rfl | kernel_rfl) ?_)
  dsimp only
  refine wpAny_bind (wpAny_of_eq (a := ()) (by first | rfl | kernel_rfl) ?_)
  refine wpAny_ite ?_
  rw [if_neg (by intro z; cases z)]
  refine wpAny_bind (L0.at ?_)
  dsimp only
  refine wpAny_bind ?_
  show wpAny _ _ ((do let b ← isInstance (.ref x) (.type "module"); if !b then return 0 else _ : Sem Nat)) _ _ _
  refine wpAny_bind (L1.at ?_)
  refine wpAny_pure ?_
  refine wpAny_bind (wpAny_mono h (fun a s' hq => ?_) fun _ _ e => e)
  refine wpAny_ite ?_
  rw [if_neg (by intro z; simp at z)]
  exact wpAny_pure ⟨_, rfl, hq⟩

theorem value_open {v : Value} (X : K.In s.heap) (I : InstAt s.heap x ox C (some od)) (hg : plainGet K C name = true) (hf : findObj K C (some od) name = some (.value v)) (hv : handedIn v = true)
    (h : Q v s) : wpAny (model prog w) A (getAttrBy (.ref x) (.str name t) false) Q E s := by
  have L0 := I.type (M := model prog w)
  have L1 := looks_findIn (M := model prog w) X (plainGet_of hg).1
  have L2 := looks_find (M := model prog w) X I hf
  obtain ⟨hp, g, d, tk, os⟩ := s
  unfold getAttrBy
  refine wpAny_holding (wpAny_bind (L0.at (wpAny_bind (L1.at ?_))))
  show wpAny _ _ (getAttrEveryday _ _ _) _ _ _
  refine wpAny_bind (wpAny_onRaise (wpAny_runValue (codeAny_builtin F.plainObj_entry_getattr_hooked ?_)))
  refine wpAny_bind (wpAny_pure (wpAny_bind (L0.at (wpAny_bind (L2.at ?_)))))
  refine wpAny_pure ?_
  show wpAny _ _ (handedOut v) _ _ _
  rw [handedOut_of hv]; exact wpAny_pure h

theorem hasattr_yes {v : Value} (X : K.In s.heap) (I : InstAt s.heap x ox C (some od)) (hm : mroIn K C (.type "module") = some false) (hg : plainGet K C name = true)
    (hf : findObj K C (some od) name = some (.value v)) (hv : handedIn v = true) (h : Q (.bool true) s) :
    wpAny (model prog w) A (call (.builtin "hasattr") [.ref x, .str name t]) Q E s := by
  refine hasattr_of X I hm ?_
  unfold getAttrBy?
  exact wpAny_bind (wpAny_attempt (value_open X I hg hf hv (wpAny_pure h)))
theorem hasattr_no (X : K.In s.heap) (I : InstAt s.heap x ox C (some od)) (hm : mroIn K C (.type "module") = some false) (hg : plainGet K C name = true)
    (hf : findObj K C (some od) name = some .missing) (hcd : clsIn K C = some cd)
    (hsh : cd.name.cps.foldl (fun k c => k + (Str.utf8Of c).length) 0 ≤ 50 ∧ cd.name.toString.length ≤ 50) (hnm : name.length ≤ 1000) (hh : A.handled = none)
    (h : ∀ h' tk, (∀ b o, s.heap.get? b = some o → h'.get? b = some o) → Q (.bool false) { s with heap := h', toks := tk }) :
    wpAny (model prog w) A (call (.builtin "hasattr") [.ref x, .str name t]) Q E s := by
  refine hasattr_of X I hm ?_
  unfold getAttrBy?
  refine wpAny_bind (wpAny_attempt (miss_open X I hg hf hcd hsh hnm hh fun h' tk e ne => ?_))
  obtain ⟨t', u', he⟩ := ne.there
  have T : wpAny (model prog w) A.in1 (isInstance (.ref e) (.type "AttributeError")) (fun b s' => b = true ∧ s' = { s with heap := h', toks := tk }) E { s with heap := h', toks := tk } := by
    unfold isInstance
    refine wpAny_bind (wpAny_typeOf (T := "AttributeError") ⟨_, he, rfl⟩ ?_)
    rw [sub_AttributeError]
    exact wpAny_pure ⟨rfl, rfl⟩
  dsimp only
  refine wpAny_bind (wpAny_mono T (fun b s' z => ?_) fun _ _ z => z)
  obtain ⟨rfl, rfl⟩ := z
  exact wpAny_pure (h _ _ ne.keeps)
end

section
variable {B : Bs} {A : Around} {W W' : Wd} {S S' : Sto} {s s' : Shared} {m a b : MV} {v va vb : Value} {E : Value → Shared → Prop}

theorem Rd.handed {h : Heap} : ∀ {m : MV} {v : Value}, Rd W h m v → handedIn v = true
  | .none, _, r => by simp only [Rd] at r; subst r; rfl
  | .bool b, _, r => by simp only [Rd] at r; subst r; rfl
  | .int i, _, r => by simp only [Rd] at r; obtain ⟨t, rfl⟩ := r; rfl
  | .str s, _, r => by simp only [Rd] at r; obtain ⟨t, rfl, _⟩ := r; rfl
  | .bytes b, _, r => by simp only [Rd] at r; obtain ⟨t, rfl, _⟩ := r; rfl
  | .tup xs, _, r => by simp only [Rd] at r; obtain ⟨a, vs, n, rfl, _⟩ := r; rfl
  | .list xs, _, r => by simp only [Rd] at r; obtain ⟨a, vs, n, rfl, _⟩ := r; rfl
  | .own xs, _, r => by simp only [Rd] at r
  | .ref a, _, r => by simp only [Rd] at r; subst r; rfl
  | .prim n, _, r => by
    simp only [Rd] at r; subst r
    unfold primV
    split <;> first | rfl | decide +kernel
  | .obj k, _, r => by simp only [Rd] at r; obtain ⟨p, _, rfl⟩ := r; rfl
  | .rng a b c, _, r => by simp only [Rd] at r; obtain ⟨r, t, u, x, rfl, _⟩ := r; rfl
  | .text, _, r => by simp only [Rd] at r; obtain ⟨x, t, rfl⟩ := r; rfl

theorem lookIn_ns {es : Array DictEntry} {n : Nat} (k : StrKeys es) (nm : Str) : lookIn nm ({ cls := .type "dict", data := .dict es n } : Obj) = some (nsFind es nm) := by
  unfold lookIn nsFind findBy
  dsimp only
  rw [← Array.find?_toList]
  cases h : es.toList.find? (fun e => e.key.isStr nm) with
  | some e => rfl
  | none =>
    have : es.toList.any (·.refKey) = false := by
      rw [List.any_eq_false]
      intro e he
      obtain ⟨n', t, hk⟩ := k e (by simpa using he)
      simp [DictEntry.refKey, hk]
    rw [if_neg (by rw [this]; decide)]; rfl

theorem Inv.inst (I : Inv B W S s) {k : Nat} {a : Att} {p : Addr × Addr} (hp : W.ob[k]? = some p) (ha : S[k]? = some a) :
    ∃ od es n, InstAt s.heap p.1 (instObj B.T.C p.2) B.T.C (some od) ∧ od = ({ cls := .type "dict", data := .dict es n } : Obj) ∧ StrKeys es ∧ Keyed B.T.attrs es.toList ∧ s.heap.get? p.2 = some od ∧ ∀ x, lookIn x od = some (nsFind es x) ∧ RdO W s.heap (a x) (nsFind es x) := by
  obtain ⟨A', e1, e2, e3, e4, es, n, e5, e6, e7, e8⟩ := I.heap.inst k p hp
  rw [e1] at ha; cases ha
  exact ⟨_, es, n, ⟨e2, rfl, rfl, e5⟩, rfl, e6, e7, e5, fun x => ⟨lookIn_ns e6 x, e8 x⟩⟩

theorem plainGet_any {K : Frag} {C : Addr} {x y : Str} (h : plainGet K C x = true) : plainGet K C y = true := h

/-- what an attribute look-up finds -/
theorem find_own (O : BOk B) {od : Obj} {nm : Str} {v : Value} (hk : memS nm B.T.attrs = true) (hl : lookIn nm od = some (some v)) : findObj B.K B.T.C (some od) nm = some (.value v) :=
  findObj_own O.has (O.attrs nm hk).1 rfl hl
theorem find_miss (O : BOk B) {od : Obj} {nm : Str} (hk : memS nm B.T.attrs = true) (hl : lookIn nm od = some none) : findObj B.K B.T.C (some od) nm = some .missing := by
  obtain ⟨h1, h2, _⟩ := O.attrs nm hk
  obtain ⟨cd, hc, hd⟩ := any_some O.has
  unfold findObj
  have ho : PySem.W.ownOf cd (some od) nm = some none := by unfold PySem.W.ownOf; rw [if_pos hd]; exact hl
  rw [hc, Option.bind_some, h1, Option.bind_some]
  simp only [Option.bind_some, ho, h2, Bool.false_and, Bool.false_eq_true, if_false]
theorem find_cls (O : BOk B) {od : Obj} {nm : Str} {m : MV} (hk : lk nm B.T.cattr = some m) (hl : lookIn nm od = some none) : ∃ a, findObj B.K B.T.C (some od) nm = some (.value a) ∧ handedIn a = true ∧ Rd W0 B.h₀ m a := by
  obtain ⟨a, h1, h2, h3, h4, h5⟩ := O.cattrs nm m hk
  exact ⟨a, findObj_cls O.has h1 h2 h3 h4 hl, h3, h5⟩

theorem attr_leaf {nm : Str} {ex : Bool} (O : BOk B) (I : Inv B W S s) (ra : Rd W s.heap a va) (e : attrOf B.T nm a S = some m) :
    wpAny (Mo B) A (getAttr va nm ex) (QV B W s m S) E s := by
  unfold attrOf at e
  split at e
  · rename_i k
    simp only [Rd] at ra
    obtain ⟨p, hp, rfl⟩ := ra
    obtain ⟨at', e1, e2⟩ := Option.bind_eq_some_iff.mp e
    rw [getL_eq] at e1
    obtain ⟨od, es, n, IA, rfl, k1, k2, k3, k4⟩ := I.inst hp e1
    have X := O.KIn.keeps I.heap.keep
    obtain ⟨l1, l2⟩ := k4 nm
    split at e2
    · rename_i hk
      rw [e2] at l2
      obtain ⟨v, hv, rv⟩ := l2
      rw [hv] at l1
      exact get_value X IA (plainGet_of O.plain).1 (find_own O hk l1) rv.handed (.here I rv _)
    · obtain ⟨v', g1, g2⟩ := Option.bind_eq_some_iff.mp e2
      cases hq : at' nm with
      | some y => rw [hq] at g2; cases g2
      | none =>
        rw [hq] at g2; cases g2
        rw [hq] at l2
        rw [show nsFind es nm = none from l2] at l1
        obtain ⟨a', f1, f2, f3⟩ := find_cls O g1 l1
        exact get_value X IA (plainGet_of O.plain).1 f1 f2 (.here I (I.heap.static f3) _)
  · cases e

theorem keyed_none {ats : List Str} {nm : Str} (hk : memS nm ats = false) : ∀ {es : List DictEntry}, Keyed ats es → es.find? (fun e => e.key.isStr nm) = none
  | [], _ => rfl
  | e :: r, h => by
    obtain ⟨⟨k, t, h1, h2, h3⟩, h4⟩ := h
    rw [List.find?_cons]
    have : e.key.isStr nm = false := by
      rw [h1, ← Bool.not_eq_true]
      intro z
      have : k = nm := by simpa [Value.isStr] using z
      rw [this, hk] at h2; cases h2
    rw [this]
    exact keyed_none hk h4
theorem meth_leaf {nm : Str} {k : Nat} {f : Addr} {pl : Sem Bool} {Q : Value × List Value → Shared → Prop} (O : BOk B) (I : Inv B W S s) (ra : Rd W s.heap (.obj k) va) (e2 : memS nm B.T.attrs = false) (e3 : lk nm B.T.meth = some f)
    (h : Q (.ref f, [va]) s) : wpAny (Mo B) A (getMethod va nm pl) Q E s := by
  simp only [Rd] at ra
  obtain ⟨p, hp, rfl⟩ := ra
  have hkS : k < S.length := by rw [← I.heap.len]; exact (List.getElem?_eq_some_iff.mp hp).1
  obtain ⟨od, es, n, IA, rfl, k1, k2, k3, k4⟩ := I.inst hp (List.getElem?_eq_getElem hkS)
  have X := O.KIn.keeps I.heap.keep
  obtain ⟨l1, l2⟩ := k4 nm
  have hnone : nsFind es nm = none := by
    unfold nsFind findBy
    rw [← Array.find?_toList, keyed_none e2 k2]; rfl
  rw [hnone] at l1
  obtain ⟨f1, f2⟩ := O.meths nm f e3
  exact method_fn X IA (plainGet_of O.plain).1 (plainGet_of O.plain).2 f1 (beq_iff_eq.mp f2) (by show (lookIn nm _).map _ = _; rw [l1]; rfl) h
end
end Mine
namespace Mine
set_option maxRecDepth 100000
open PySem PySem.W PySem.Calls PyProof.Rows Builtin Builtin.ObjectAttr

theorem memS_iff {x : Str} : ∀ {l : List Str}, memS x l = true ↔ x ∈ l
  | [] => by simp [memS]
  | y :: r => by
    unfold memS
    cases h : seq x y with
    | true => simp [seq_iff.mp h]
    | false => simp [memS_iff (l := r), seq_ne h]

theorem nodup_sub_len : ∀ {ks ats : List Str}, ks.Nodup → (∀ k ∈ ks, k ∈ ats) → ks.length ≤ ats.length
  | [], _, _, _ => Nat.zero_le _
  | k :: r, ats, hn, hs => by
    rw [List.nodup_cons] at hn
    have h1 := hs k (.head _)
    have ih := nodup_sub_len (ks := r) (ats := ats.erase k) hn.2 (fun x hx => (List.mem_erase_of_ne (fun e => hn.1 (by rw [← e]; exact hx))).mpr (hs x (.tail _ hx)))
    rw [List.length_erase_of_mem h1] at ih
    have : 0 < ats.length := List.length_pos_of_mem h1
    simp only [List.length_cons]; omega

theorem Keyed.keys {ats : List Str} : ∀ {es : List DictEntry}, Keyed ats es → ∃ ks : List Str, ks.length = es.length ∧ ks.Nodup ∧ (∀ k ∈ ks, k ∈ ats) ∧ ∀ k ∈ ks, ∃ e ∈ es, ∃ t, e.key = .str k t
  | [], _ => ⟨[], rfl, .nil, (fun _ h => nomatch h), (fun _ h => nomatch h)⟩
  | e :: r, h => by
    obtain ⟨⟨k, t, h1, h2, h3⟩, h4⟩ := h
    obtain ⟨ks, g1, g2, g3, g4⟩ := h4.keys
    refine ⟨k :: ks, by simp [g1], ?_, ?_, ?_⟩
    · rw [List.nodup_cons]
      refine ⟨fun hk => ?_, g2⟩
      obtain ⟨e', he, t', q⟩ := g4 k hk
      exact h3 e' he t' q
    · intro x hx
      rcases List.mem_cons.mp hx with rfl | hx
      · exact memS_iff.mp h2
      · exact g3 x hx
    · intro x hx
      rcases List.mem_cons.mp hx with rfl | hx
      · exact ⟨e, .head _, t, h1⟩
      · obtain ⟨e', he, q⟩ := g4 x hx
        exact ⟨e', .tail _ he, q⟩
theorem Keyed.len {ats : List Str} {es : List DictEntry} (h : Keyed ats es) : es.length ≤ ats.length := by
  obtain ⟨ks, g1, g2, g3, _⟩ := h.keys
  rw [← g1]; exact nodup_sub_len g2 g3
theorem Keyed.strs {ats : List Str} : ∀ {es : List DictEntry}, Keyed ats es → ∀ e ∈ es, ∃ n t, e.key = .str n t
  | e :: r, h, x, hx => by
    rcases List.mem_cons.mp hx with rfl | hx
    · obtain ⟨k, t, h1, _⟩ := h.1; exact ⟨k, t, h1⟩
    · exact h.2.strs x hx

theorem isStr_iff {k nm : Str} {t : Tok} : (Value.str k t).isStr nm = true ↔ k = nm := by
  simp [Value.isStr]

theorem putL_mem {nm : Str} {hs : Int} {key v : Value} : ∀ {es : List DictEntry} {e : DictEntry}, e ∈ putL nm hs key v es → e.key = key ∨ ∃ e' ∈ es, e.key = e'.key
  | [], e, h => by
    simp only [putL, List.mem_singleton] at h; subst h; exact .inl rfl
  | x :: r, e, h => by
    unfold putL at h
    split at h
    · rcases List.mem_cons.mp h with rfl | h
      · exact .inr ⟨x, .head _, rfl⟩
      · exact .inr ⟨e, .tail _ h, rfl⟩
    · rcases List.mem_cons.mp h with rfl | h
      · exact .inr ⟨e, .head _, rfl⟩
      · rcases putL_mem h with q | ⟨e', h1, h2⟩
        · exact .inl q
        · exact .inr ⟨e', .tail _ h1, h2⟩

theorem Keyed.put {ats : List Str} {nm : Str} {hs : Int} {v : Value} {t : Tok} (hm : memS nm ats = true) : ∀ {es : List DictEntry}, Keyed ats es → Keyed ats (putL nm hs (.str nm t) v es)
  | [], _ => ⟨⟨nm, t, rfl, hm, fun _ h => nomatch h⟩, trivial⟩
  | e :: r, h => by
    obtain ⟨⟨k, u, h1, h2, h3⟩, h4⟩ := h
    unfold putL
    split
    · exact ⟨⟨k, u, h1, h2, h3⟩, h4⟩
    · rename_i q
      rw [h1, isStr_iff] at q
      refine ⟨⟨k, u, h1, h2, fun e' he t' z => ?_⟩, h4.put hm⟩
      rcases putL_mem he with y | ⟨e'', y1, y2⟩
      · rw [y] at z; cases z; exact q rfl
      · rw [y2] at z; exact h3 e'' y1 t' z
theorem find_put {nm x : Str} {hs : Int} {v : Value} {t : Tok} : ∀ {es : List DictEntry}, (∀ e ∈ es, ∃ n t, e.key = .str n t) →
    ((putL nm hs (.str nm t) v es).find? (fun e => e.key.isStr x)).map (·.val) = if x = nm then some v else (es.find? (fun e => e.key.isStr x)).map (·.val)
  | [], _ => by
    unfold putL
    rw [List.find?_cons]
    by_cases h : x = nm
    · subst h; simp [isStr_iff.mpr]
    · have : (Value.str nm t).isStr x = false := by rw [← Bool.not_eq_true, isStr_iff]; exact fun e => h e.symm
      simp [this, h]
  | e :: r, hk => by
    obtain ⟨k, u, h1⟩ := hk e (.head _)
    unfold putL
    split
    · rename_i q
      rw [h1, isStr_iff] at q
      subst q
      rw [List.find?_cons, List.find?_cons, h1]
      by_cases h : x = k
      · subst h; simp [isStr_iff.mpr]
      · have : (Value.str k u).isStr x = false := by rw [← Bool.not_eq_true, isStr_iff]; exact fun e => h e.symm
        simp [this, h]
    · rename_i q
      rw [h1, isStr_iff] at q
      rw [List.find?_cons, List.find?_cons, h1]
      cases hx : (Value.str k u).isStr x with
      | true =>
        have := isStr_iff.mp hx
        subst this
        rw [if_neg q]
      | false =>
        dsimp only
        exact find_put fun e he => hk e (.tail _ he)

section
variable {prog : Program} {w : World} {A : Around} {E : Value → Shared → Prop} {s : Shared} {K : Frag} {x C dx : Addr} {es : List DictEntry} {n : Nat} {name : Str} {v : Value} {Q : Unit → Shared → Prop}
theorem set_ex (X : K.In s.heap) (I : InstAt s.heap x (instObj C dx) C (some (dictOf es n))) (D : s.heap.get? dx = some (dictOf es n))
    (hs : findIn K (.ref C) "__setattr__" = some (some (.builtin "object.__setattr__"))) (hp : plainOver K C = true) (ht : takerIn K C name = some none) (hh : hasDictIn K C = true) (hl : (lookIn name (dictOf es n)).isSome = true)
    (hz : es.length ≤ 100)
    (h : ∀ h' hsh u n', h'.get? dx = some (dictOf (putL name hsh (.str name u) v es) n') → Heap.SameBut dx s.heap h' → Q () { s with heap := h', toks := s.toks + 2 }) :
    wpAny (model prog w) A (setAttr (.ref x) name v) Q E s := by
  refine set_plain X I hs ?_
  refine osa_open (s := { s with toks := s.toks + 1 }) X I hp ht fun b => ?_
  obtain ⟨cd, hc, hd'⟩ := any_some hh
  have hx := I.at_
  have el : (putL name (PyData.keyHash w.params name) (.str name (s.toks + 1)) v es).length ≤ 101 := by
    have : ∀ es : List DictEntry, (putL name (PyData.keyHash w.params name) (.str name (s.toks + 1)) v es).length ≤ es.length + 1 := fun es => by
      induction es with
      | nil => exact Nat.le_refl _
      | cons e r ih => unfold putL; split <;> simp only [List.length_cons] <;> omega
    have := this es; omega
  have D' : (s.heap.update dx (Obj.putName name (PyData.keyHash w.params name) (.str name (s.toks + 1)) v)).get? dx = some (dictOf (putL name (PyData.keyHash w.params name) (.str name (s.toks + 1)) v es) (putN name es n)) := by
    rw [Heap.get?_update_self _ D (by rw [putName_dict]; rfl), putName_dict]
  refine wpAny_bind (wpAny_pure (wpAny_bind (wpAny_bind (wpAny_loadPart hx (wpAny_bind ((looks_clsIn (M := model prog w) X hc) _ _ _ _ (fun _ _ e => e) ?_))))))
  rw [hd']
  refine wpAny_pure (a := some dx) (wpAny_bind (wpAny_pure (wpAny_bind ?_)))
  unfold nsSet
  refine wpAny_bind (wpAny_bind (wpAny_askSetting (wpAny_pure (wpAny_bind (wpAny_mkText (wpAny_bind (wpAny_loadPart D ?_)))))))
  unfold lookIn at hl
  dsimp only at hl ⊢
  have c : (!es.toArray.any (·.key.isStr name) && es.toArray.any (·.refKey)) = false := by
    rw [← Array.any_toList, ← Array.any_toList]
    split at hl
    · rename_i en he
      rw [List.any_eq_true.mpr ⟨en, List.mem_of_find?_eq_some he, List.find?_some he⟩]; rfl
    · split at hl
      · cases hl
      · rename_i z; rw [Bool.not_eq_true] at z; rw [z, Bool.and_false]
  rw [aRefKeyMayBeTheName_at, c]
  refine wpAny_updatePart D ?_
  refine wpAny_bind (wpAny_lookBehind D' (pastItsLine_dict (by rw [List.size_toArray, sizeLine_eq]; omega)) ?_)
  exact wpAny_pure (h _ _ _ _ D' (Heap.SameBut.update ..))
end

section
variable {B : Bs} {A : Around} {W W' : Wd} {S S' : Sto} {s s' : Shared} {m a b : MV} {v va vb : Value} {E : Value → Shared → Prop}
theorem nsFind_list (es : Array DictEntry) (x : Str) : nsFind es x = (es.toList.find? (fun e => e.key.isStr x)).map (·.val) := by
  unfold nsFind findBy
  rw [← Array.find?_toList]
def upd (a : Att) (nm : Str) (m : MV) : Att := fun y => match seq y nm with | true => some m | false => a y

theorem setattr_leaf {nm : Str} {k : Nat} {at' : Att} (O : BOk B) (I : Inv B W S s) (ro : Rd W s.heap (.obj k) va) (rv : Rd W s.heap m v) (hk : memS nm B.T.attrs = true) (ha : getL S k = some at') :
    wpAny (Mo B) A (setAttr va nm v) (fun _ s' => Step [] W s.heap W s'.heap ∧ Inv B W (S.set k (upd at' nm m)) s') E s := by
  simp only [Rd] at ro
  obtain ⟨p, hp, rfl⟩ := ro
  rw [getL_eq] at ha
  obtain ⟨od, es, n, IA, rfl, k1, k2, k3, k4⟩ := I.inst hp ha
  have X := O.KIn.keeps I.heap.keep
  have hes : ({ cls := .type "dict", data := .dict es n } : Obj) = dictOf es.toList n := rfl
  rw [hes] at IA k3
  refine set_ex X IA k3 O.setter O.over (O.takes nm hk) O.has (by have := (k4 nm).1; rw [hes] at this; rw [this]; rfl) (Nat.le_trans k2.len O.few) fun h' hsh u n' hd hsb => ?_
  have hdx : p.2 ∈ W.ds := List.mem_map_of_mem (List.mem_of_getElem? hp)
  have st : Step [] W s.heap W h' := by
    refine ⟨fun a o n1 n2 e => ?_, Nat.le_of_eq hsb.1.symm, fun _ e _ => .inl e, fun _ e => .inl e, fun _ _ e => e, fun _ e => .inl e⟩
    exact hsb.extBut a o (fun e => n1 (e ▸ hdx)) e
  have sees := st.sees I.heap.ds (fun _ h => nomatch h)
  refine ⟨st, ⟨?_, I.gens, I.os⟩⟩
  have H := I.heap
  refine ⟨fun b o e => ?_, by rw [hsb.1]; exact H.size, fun a e => by rw [hsb.1]; exact H.no a e, H.ds, H.nd, by rw [List.length_set]; exact H.len, fun i q e => ?_⟩
  · refine hsb.extBut b o (fun z => ?_) (H.keep b o e)
    have := (H.no _ (H.ds _ hdx)).1
    exact absurd (Heap.lt_size e) (by rw [z]; exact Nat.not_lt.mpr this)
  · obtain ⟨A', e1, e2, e3, e4, es', n'', e5, e6, e7, e8⟩ := H.inst i q e
    have hi2 : h'.get? q.1 = some (instObj B.T.C q.2) := hsb.extBut _ _ (fun z => e3 (by rw [z]; exact H.ds _ hdx)) e2
    by_cases hik : i = k
    · subst hik
      rw [hp] at e; cases e
      have hlt : i < S.length := (List.getElem?_eq_some_iff.mp ha).1
      refine ⟨upd at' nm m, by rw [List.getElem?_set_self hlt], hi2, e3, e4, (putL nm hsh (.str nm u) v es.toList).toArray, n', hd, ?_, k2.put hk, fun x => ?_⟩
      · intro z hz
        exact (k2.put hk).strs z (by simpa using hz)
      · rw [nsFind_list]
        show RdO W h' (upd at' nm m x) ((List.find? _ (putL nm hsh (.str nm u) v es.toList)).map _)
        rw [find_put k2.strs, ← nsFind_list]
        unfold upd
        cases hx : seq x nm with
        | true => rw [if_pos (seq_iff.mp hx)]; exact ⟨v, rfl, rv.sees sees⟩
        | false =>
          rw [if_neg (seq_ne hx)]
          have := (k4 x).2
          unfold RdO at this ⊢
          cases hq : at' x with
          | none => rw [hq] at this; exact this
          | some y => rw [hq] at this; obtain ⟨z, z1, z2⟩ := this; exact ⟨z, z1, z2.sees sees⟩
    · have hne : q.2 ≠ p.2 := fun z => by
        have hi' : i < W.ds.length := by rw [Wd.ds, List.length_map]; exact (List.getElem?_eq_some_iff.mp e).1
        have hk' : k < W.ds.length := by rw [Wd.ds, List.length_map]; exact (List.getElem?_eq_some_iff.mp hp).1
        refine hik (nodup_idx H.nd hi' hk' ?_)
        have x1 : W.ds[i]? = some q.2 := by rw [Wd.ds, List.getElem?_map, e]; rfl
        have x2 : W.ds[k]? = some p.2 := by rw [Wd.ds, List.getElem?_map, hp]; rfl
        rw [List.getElem?_eq_getElem hi'] at x1
        rw [List.getElem?_eq_getElem hk'] at x2
        rw [Option.some.inj x1, Option.some.inj x2, z]
      refine ⟨A', by rw [List.getElem?_set_ne (fun z => hik z.symm)]; exact e1, hi2, e3, e4, es', n'', hsb.extBut _ _ hne e5, e6, e7, fun x => ?_⟩
      have := e8 x
      unfold RdO at this ⊢
      cases hq : A' x with
      | none => rw [hq] at this; exact this
      | some y => rw [hq] at this; obtain ⟨z, z1, z2⟩ := this; exact ⟨z, z1, z2.sees sees⟩
end
end Mine
namespace Mine
set_option maxRecDepth 100000
open PySem PySem.W PySem.Calls PyProof.Rows Builtin Builtin.ObjectAttr

section
variable {B : Bs} {A : Around} {W W' : Wd} {S S' : Sto} {s s' : Shared} {m a b : MV} {v va vb : Value} {E : Value → Shared → Prop} {args : List MV} {vs : List Value}

theorem allByte_are {h : Heap} : ∀ {xs : List MV} {l : List Nat} {vs : List Value}, allByte xs = some l → RdL W h xs vs → IntsAre vs (l.map fun n : Nat => (n : Int)) ∧ ∀ n ∈ l, n < 256
  | [], _, _, e, r => by
    cases e; simp only [RdL] at r; subst r; exact ⟨.nil, fun _ h => nomatch h⟩
  | .int (.ofNat x) :: r, l, vs, e, q => by
    simp only [RdL, Rd] at q
    obtain ⟨v, u, rfl, ⟨t, rfl⟩, q2⟩ := q
    unfold allByte at e
    split at e
    · rename_i hb
      obtain ⟨l', e1, rfl⟩ := Option.map_eq_some_iff.mp e
      obtain ⟨h1, h2⟩ := allByte_are e1 q2
      refine ⟨.cons _ _ h1, fun n hn => ?_⟩
      rcases List.mem_cons.mp hn with rfl | hn
      · simpa [Nat.blt_eq] using hb
      · exact h2 n hn
    · cases e

theorem byteArr_nat : ∀ (l : List Nat), byteArr (l.map fun n : Nat => (n : Int)) = byA l := fun l => by
  unfold byteArr byA
  simp [Function.comp_def]

theorem isi_ref {T : String} {o : Obj} {a : Addr} {h : Heap} (ho : h.get? a = some o) (hc : o.cls = .type T) : True := trivial

theorem bfun_leaf {n : Nat} (O : BOk B) (hh : A.handled = none) (I : Inv B W S s) (ra : RdL W s.heap args vs) (e : bfun B.T n S args = some m) :
    wpAny (Mo B) A (call (primV n) vs) (QV B W s m S) E s := by
  unfold bfun at e
  split at e
  · -- len list
    simp only [RdL, Rd] at ra
    obtain ⟨v, r, rfl, ⟨a, ws, n, rfl, q1, q2, q3, q4⟩, rfl⟩ := ra
    cases e
    have hl := RdL.length q3
    refine call_len_list (isList q2) (by rw [List.size_toArray]; omega) ?_
    rw [List.size_toArray, hl]
    exact .here I rd_int _
  · -- len bytes
    simp only [RdL, Rd] at ra
    obtain ⟨v, r, rfl, ⟨t, rfl, q1, q2⟩, rfl⟩ := ra
    cases e
    refine PySem.W.len_bytes (by rw [byA_size]; omega) ?_
    rw [byA_size]
    exact .here I rd_int _
  · -- type
    simp only [RdL, Rd] at ra
    obtain ⟨v, r, rfl, ⟨t, rfl, q1⟩, rfl⟩ := ra
    cases e
    exact call_type_of (typeIs_str _ _ _) (by decide) (.here' I (by simp only [Rd]; rfl))
  · -- isinstance
    rename_i v0 k
    obtain ⟨j, e1, e2⟩ := Option.bind_eq_some_iff.mp e
    simp only [RdL] at ra
    obtain ⟨v, r, rfl, r1, v2, r2, rfl, r3, rfl⟩ := ra
    simp only [Rd] at r3
    subst r3
    split at e2
    · rename_i hk
      have k7 : k = 7 ∨ k = 8 := by
        rw [Bool.or_eq_true] at hk
        exact hk.imp Nat.eq_of_beq_eq_true Nat.eq_of_beq_eq_true
      cases e2
      have X := O.KIn.keeps I.heap.keep
      cases v0 <;> first | cases e1 | skip
      · simp only [Rd] at r1; obtain ⟨t, rfl⟩ := r1
        rcases k7 with rfl | rfl
        · exact IsiPair.int_bytes (.here I rd_bool _)
        · exact IsiPair.int_list (.here I rd_bool _)
      · simp only [Rd] at r1; obtain ⟨t, rfl, _⟩ := r1
        rcases k7 with rfl | rfl
        · exact IsiPair.str_bytes (.here I rd_bool _)
        · exact IsiPair.str_list (.here I rd_bool _)
      · simp only [Rd] at r1; obtain ⟨t, rfl, _⟩ := r1
        rcases k7 with rfl | rfl
        · exact kia_one kitx_bytes X trivial O.kitB (by intro z; cases z) fun tk => .here I rd_bool _
        · exact kia_one kitx_bytes X trivial O.kitL (by intro z; cases z) fun tk => .here I rd_bool _
      · simp only [Rd] at r1; obtain ⟨a, ws, n, rfl, _, q, _⟩ := r1
        rcases k7 with rfl | rfl
        · exact IsiPair.tuple_bytes q rfl (.here I rd_bool _)
        · exact IsiPair.tuple_list q rfl (.here I rd_bool _)
      · simp only [Rd] at r1; obtain ⟨a, ws, n, rfl, _, q, _⟩ := r1
        rcases k7 with rfl | rfl
        · exact IsiPair.list_bytes q rfl (.here I rd_bool _)
        · exact IsiPair.list_list q rfl (.here' I rd_bool)
    · cases e2
  · -- ord
    simp only [RdL, Rd] at ra
    obtain ⟨v, r, rfl, ⟨t, rfl, q1⟩, rfl⟩ := ra
    cases e
    exact PySem.P.ord_of_char (.here I rd_int _)
  · -- hasattr
    rename_i k x
    simp only [RdL] at ra
    obtain ⟨v, r, rfl, r1, v2, r2, rfl, r3, rfl⟩ := ra
    obtain ⟨at', e1, e2⟩ := Option.bind_eq_some_iff.mp e
    simp only [Rd] at r1 r3
    obtain ⟨p, hp, rfl⟩ := r1
    obtain ⟨t, rfl, q1⟩ := r3
    split at e2
    · rename_i hk
      cases e2
      rw [getL_eq] at e1
      obtain ⟨od, es, n, IA, rfl, k1, k2, k3, k4⟩ := I.inst hp e1
      have X := O.KIn.keeps I.heap.keep
      obtain ⟨l1, l2⟩ := k4 ⟨x.toArray⟩
      cases hq : at' ⟨x.toArray⟩ with
      | some y =>
        rw [hq] at l2
        obtain ⟨z, hz, rz⟩ := l2
        rw [hz] at l1
        exact hasattr_yes X IA O.nomod O.plain (find_own O hk l1) rz.handed (.here' I rd_bool)
      | none =>
        rw [hq] at l2
        rw [show nsFind es ⟨x.toArray⟩ = none from l2] at l1
        obtain ⟨cd, hcd, _⟩ := any_some O.has
        refine wpAny_more (hasattr_no X IA O.nomod O.plain (find_miss O hk l1) hcd (O.short cd hcd) (O.attrs _ hk).2.2 hh fun h' tk kp hs _ => ?_)
        exact .kept I kp hs fun _ => rd_bool
    · cases e2
  · -- getattr
    rename_i k x
    simp only [RdL] at ra
    obtain ⟨v, r, rfl, r1, v2, r2, rfl, r3, rfl⟩ := ra
    obtain ⟨at', e1, e2⟩ := Option.bind_eq_some_iff.mp e
    simp only [Rd] at r1 r3
    obtain ⟨p, hp, rfl⟩ := r1
    obtain ⟨t, rfl, q1⟩ := r3
    split at e2
    · rename_i hk
      rw [getL_eq] at e1
      obtain ⟨od, es, n, IA, rfl, k1, k2, k3, k4⟩ := I.inst hp e1
      have X := O.KIn.keeps I.heap.keep
      obtain ⟨l1, l2⟩ := k4 ⟨x.toArray⟩
      rw [e2] at l2
      obtain ⟨z, hz, rz⟩ := l2
      rw [hz] at l1
      exact kbm_getattr2 (kbm_value X IA (plainGet_of O.plain).1 (find_own O hk l1) rz.handed (.here' I rz))
    · cases e2
  · -- range
    rename_i a b c
    simp only [RdL, Rd] at ra
    obtain ⟨v, r, rfl, ⟨t, rfl⟩, v2, r2, rfl, ⟨t2, rfl⟩, v3, r3, rfl, ⟨t3, rfl⟩, rfl⟩ := ra
    split at e
    · rename_i hb
      cases e
      simp only [Bool.and_eq_true] at hb
      obtain ⟨⟨⟨⟨b1, b2⟩, b3⟩, b4⟩, b5⟩ := hb
      have b5 : c < 1000000 := by simpa [Nat.blt_eq] using b5
      refine call_range_3 (by intro h; cases h) ?_ (Or.inl (PyProof.noPylong_small (by show c + 1 < _; exact Nat.lt_of_le_of_lt b5 (by decide))))
      refine QV.push (k := s.toks) I rfl fun nf get sees => ?_
      simp only [Rd]
      exact ⟨_, _, _, _, rfl, nf, get⟩
    · cases e
  · -- bytes
    rename_i xs
    simp only [RdL, Rd] at ra
    obtain ⟨v, r, rfl, ⟨a, ws, n, rfl, q1, q2, q3, q4⟩, rfl⟩ := ra
    obtain ⟨l, e1, rfl⟩ := Option.map_eq_some_iff.mp e
    obtain ⟨g1, g2⟩ := allByte_are e1 q3
    have hl := RdL.length q3
    have hlen : l.length = xs.length := by rw [← hl, g1.length, List.length_map]
    refine wpAny_more (call_bytes_ints (isList q2) g1 (fun n hn => ?_) (by rw [hl, sizeLine_eq]; omega) hh fun h' t k kp hs _ => ?_)
    · obtain ⟨n', h1, rfl⟩ := List.mem_map.mp hn
      have := g2 n' h1
      omega
    · rw [byteArr_nat]
      exact .kept I kp hs fun _ => rd_bytes g2 (by omega)
  · -- list(dict)
    simp only [RdL, Rd] at ra
    obtain ⟨v, r, rfl, rfl, rfl⟩ := ra
    obtain ⟨d, e1, rfl⟩ := Option.map_eq_some_iff.mp e
    obtain ⟨kvs, d1, d2, d3, d4, d5⟩ := O.dictK _ d e1
    have D : s.heap.DictOf (PySem.strKind B.prog B.w) _ kvs := let ⟨o, es, ep, e, r⟩ := d1; ⟨o, es, ep, I.heap.keep _ _ e, r⟩
    obtain ⟨ep, hat⟩ := D.dictAt
    refine wpAny_more (kdl_call (kdl_dict (knd := PySem.strKind B.prog B.w) (kvs := kvs) (ep := ep) d2) hh hat (by rw [sizeLine_eq]; omega) fun h' tk acc c kp hg hi hs _ => ?_)
    refine .kept I kp hs fun sees => ?_
    simp only [Rd]
    have h3 : ∀ (ks : List (Str × Value)) (l : List Value), l.length = ks.length → (∀ (j : Nat) (v : Value), l[j]? = some v → ∃ k x, ks[j]? = some (k, x) ∧ ∃ t, v = .str k t) → (∀ p ∈ ks, p.1.length ≤ 1000) → RdL W h' (ks.map (fun p => MV.str p.1.cps.toList)) l := by
      intro ks
      induction ks with
      | nil => intro l hl _ _; rw [List.length_eq_zero_iff.mp hl]; simp [RdL]
      | cons p r ih =>
        intro l hl hg hp
        cases l with
        | nil => cases hl
        | cons v q =>
          obtain ⟨k, x, g1, t, rfl⟩ := hg 0 v rfl
          cases g1
          simp only [List.map_cons, RdL, Rd]
          refine ⟨_, q, rfl, ⟨t, rfl, ?_⟩, ih q (by simpa using hl) (fun j v hv => hg (j + 1) v hv) (fun p hp' => hp p (.tail _ hp'))⟩
          have h0 : k.length ≤ 1000 := hp (k, x) (.head _)
          have e : k.cps.toList.length = k.length := by simp [PySem.Str.length]
          show k.cps.toList.length ≤ 1000000
          rw [e]; omega
    refine ⟨_, acc.toList, c, rfl, I.heap.fresh, by simpa using hg, ?_, ?_⟩
    · rw [d3]
      refine h3 kvs _ (by simpa using hi.1) (fun j v hv => ?_) d5
      obtain ⟨k, x, g1, g2⟩ := hi.2 j v (by simpa using hv)
      exact ⟨k, x, g1, Value.isStrOf_shape g2⟩
    · have hd := congrArg List.length d3
      rw [List.length_map, List.length_map] at hd
      have : (d.map (·.1)).length = kvs.length := by rw [List.length_map, hd]
      omega
  · cases e
end
end Mine
namespace Mine
set_option maxRecDepth 100000
open PySem PySem.W PySem.Calls PyProof.Rows

def RdF (W : Wd) (h : Heap) (mu : List Addr) (m : MV) (y : Value) : Prop := match m with
  | .own xs => ∃ r vs n, y = .ref r ∧ r ∈ mu ∧ h.get? r = some (listObj vs n) ∧ RdL W h xs vs ∧ xs.length ≤ 1000000
  | m => Rd W h m y

def KindOk (env : Env) (x : Str) (k : NameKind) : Prop := match k with
  | .globalImplicit => env.kindOf x = some .globalImplicit
  | .globalExplicit => True
  | .local => env.kindOf x = some .local
  | _ => env.kindOf x = some .cell
structure FrOk (W : Wd) (sc : Scope) (l : Loc) (mu : List Addr) (env : Env) (h : Heap) : Prop where
  kind : env.scope.kind = .function
  gl : env.globals = mainGlobals
  bl : env.builtins = builtinsNs
  names : ∀ x k, lk x sc.names = some k → KindOk env x k
  m : ∃ m, h.Ns env.locals m ∧ ∀ x v, lk x l = some v → env.kindOf x = some .local → ∃ y, m x = some y ∧ RdF W h mu v y
  cell : ∀ x, env.kindOf x = some .cell → ∃ c v₀, env.cells.lookup x = some c ∧ h.IsCell c v₀ ∧ c ∈ mu ∧ ∀ v, lk x l = some v → ∃ y, v₀ = some y ∧ RdF W h mu v y
  L : env.locals ∈ mu
  inj : ∀ x y c, env.kindOf x = some .cell → env.kindOf y = some .cell → env.cells.lookup x = some c → env.cells.lookup y = some c → x = y
  own : ∀ x xs, lk x l = some (.own xs) → x = rowsName ∧ env.kindOf x = some .local
  mu : ∀ a ∈ mu, a ∈ W.no ∧ a ∉ W.ds

section
variable {B : Bs} {A : Around} {W W' : Wd} {S S' : Sto} {s s' : Shared} {m a b : MV} {v va vb : Value} {E : Value → Shared → Prop} {sc : Scope} {l : Loc} {mu : List Addr} {env : Env} {h h' : Heap}

theorem RdF.of_rd (r : Rd W h m v) : RdF W h mu m v := by
  cases m <;> first | exact r | (simp only [Rd] at r)
theorem RdF.rd (n : ∀ xs, m ≠ .own xs) (r : RdF W h mu m v) : Rd W h m v := by
  cases m <;> first | exact r | exact absurd rfl (n _)
theorem RdF.move {mu' : List Addr} (sees : Sees W h W' h') (i : ∀ a ∈ mu, a ∈ mu') (k : ∀ a ∈ mu, ∀ vs n, h.get? a = some (listObj vs n) → h'.get? a = some (listObj vs n)) (r : RdF W h mu m v) : RdF W' h' mu' m v := by
  cases m <;> try exact Rd.sees sees r
  obtain ⟨r, vs, n, rfl, q1, q2, q3, q4⟩ := r
  exact ⟨r, vs, n, rfl, i r q1, k r q1 _ _ q2, RdL.sees sees q3, q4⟩

theorem ds_stay (st : Step mu W h W' h') {a : Addr} {o : Obj} (e : h.get? a = some o) (n : a ∉ W.ds) : a ∉ W'.ds := fun hm => by
  obtain ⟨p, hp, rfl⟩ := List.mem_map.mp hm
  rcases st.obn p hp with q | q
  · exact n (List.mem_map_of_mem q)
  · exact absurd (Heap.lt_size e) (Nat.not_lt.mpr q)
theorem no_stay (H : HeapOk B W S h) (st : Step [] W h W' h') {a : Addr} (n : a ∈ W.no) : a ∈ W'.no := by
  rcases st.no a n (H.no a n).2 with q | q
  · exact q
  · exact nomatch q
theorem ds_stay' (H : HeapOk B W S h) (st : Step mu W h W' h') {a : Addr} (m : a ∈ W.no) (n : a ∉ W.ds) : a ∉ W'.ds := fun hm => by
  obtain ⟨p, hp, rfl⟩ := List.mem_map.mp hm
  rcases st.obn p hp with q | q
  · exact n (List.mem_map_of_mem q)
  · exact absurd (H.no _ m).2 (Nat.not_lt.mpr q)

theorem FrOk.move (F : FrOk W sc l mu env h) (sees : Sees W h W' h') (kp : ∀ a ∈ mu, ∀ o, h.get? a = some o → h'.get? a = some o) (hmu : ∀ a ∈ mu, a ∈ W'.no ∧ a ∉ W'.ds) : FrOk W' sc l mu env h' := by
  have mv : ∀ {m v}, RdF W h mu m v → RdF W' h' mu m v := fun r => r.move sees (fun _ e => e) (fun a e vs n q => kp a e _ q)
  obtain ⟨m, hn, hm⟩ := F.m
  refine ⟨F.kind, F.gl, F.bl, F.names, ⟨m, hn.at' fun o e => kp _ F.L o e, fun x v e k => ?_⟩, fun x k => ?_, F.L, F.inj, F.own, hmu⟩
  · obtain ⟨y, y1, y2⟩ := hm x v e k
    exact ⟨y, y1, mv y2⟩
  · obtain ⟨c, v0, c1, ⟨o, ho, hd⟩, c3, c5⟩ := F.cell x k
    refine ⟨c, v0, c1, ⟨o, kp c c3 o ho, hd⟩, c3, fun v e => ?_⟩
    obtain ⟨y, y1, y2⟩ := c5 v e
    exact ⟨y, y1, mv y2⟩
theorem FrOk.step0 (F : FrOk W sc l mu env h) (H : HeapOk B W S h) (st : Step [] W h W' h') : FrOk W' sc l mu env h' :=
  F.move (st.sees H.ds (fun _ h => nomatch h)) (fun a e o q => st.keep a o (F.mu a e).2 (fun h => nomatch h) q) (fun a e => ⟨no_stay H st (F.mu a e).1, ds_stay' H st (F.mu a e).1 (F.mu a e).2⟩)

theorem name_leaf {x : Str} {p : Pos} (O : BOk B) (F : FrOk W sc l mu env s.heap) (I : Inv B W S s) (e : nameMV B.T sc l x = some m) :
    wpAny (Mo B) A (eval (.Name x p) env) (fun v s' => s' = s ∧ Rd W s.heap m v) E s := by
  unfold nameMV at e
  split at e
  · cases e
  · rename_i hdbg
    have hd : (x == ("__debug__" : Str)) = false := beq_eq_false_iff_ne.mpr (seq_ne hdbg)
    refine wpAny_Name ?_ hd
    split at e
    · rename_i hk
      have q : env.kindOf x = some .globalImplicit := F.names x _ hk
      obtain ⟨v, h1, h2⟩ := O.glob x m e
      refine ks_loadName_global F.kind q ?_
      have rv := I.heap.static h2
      have nsg : s.heap.Ns env.globals B.mg := by rw [F.gl]; exact O.nsg.at' fun o e => I.heap.keep _ _ e
      have nsb : s.heap.Ns env.builtins B.mb := by rw [F.bl]; exact O.nsb.at' fun o e => I.heap.keep _ _ e
      rcases h1 with h1 | ⟨h1, h2⟩
      · exact loadGlobal_global nsg h1 ⟨rfl, rv⟩
      · exact loadGlobal_builtin nsg h1 nsb h2 ⟨rfl, rv⟩
    · cases e
    · rename_i k hne1 hne2 hk
      obtain ⟨v, e1, e2⟩ := Option.bind_eq_some_iff.mp e
      have hno : ∀ xs, v ≠ .own xs := fun xs z => by subst z; cases e2
      have e3 : v = m := by cases v <;> first | exact Option.some.inj e2 | exact absurd rfl (hno _)
      subst e3
      have q := F.names x _ hk
      have q' : env.kindOf x = some .local ∨ env.kindOf x = some .cell := by
        cases k <;> first | exact .inl q | exact .inr q | exact absurd rfl hne1 | exact absurd rfl hne2
      rcases q' with q | q
      · obtain ⟨mm, hn, hm⟩ := F.m
        obtain ⟨y, y1, y2⟩ := hm x v e1 q
        exact wpAny_loadName_local F.kind q hn y1 ⟨rfl, y2.rd hno⟩
      · obtain ⟨c, v0, c1, c2, c3, c5⟩ := F.cell x q
        obtain ⟨y, rfl, y2⟩ := c5 v e1
        exact wpAny_loadName_cell F.kind q c1 c2 ⟨rfl, y2.rd hno⟩
    · cases e
end
end Mine
namespace Mine
set_option maxRecDepth 100000
open PySem PySem.W PySem.Calls PyProof.Rows

structure AOk (n : Nat) (A : Around) (W : Wd) (h : Heap) : Prop where
  handled : A.handled = none
  guards : A.guards = some []
  depth : A.depth + 2 * n ≤ 900
  units : A.units + 10 * n + 100 ≤ 9000
  fr : ∃ fs, A.frames = some fs ∧ ∀ e ∈ fs, e.scope.kind ≠ .module ∧ ∃ L o, e.frame = some L ∧ L ∈ W.no ∧ L ∉ W.ds ∧ h.get? L = some o ∧ ∃ es ep, o.data = .dict es ep

structure Ok (B : Bs) (n : Nat) (A : Around) (W : Wd) (sc : Scope) (l : Loc) (mu : List Addr) (env : Env) (S : Sto) (sh : Shared) : Prop where
  a : AOk n A W sh.heap
  f : FrOk W sc l mu env sh.heap
  i : Inv B W S sh
  t : 1 ≤ sh.toks

section
variable {B : Bs} {A : Around} {W W' : Wd} {S S' : Sto} {s s' : Shared} {m a b : MV} {v va vb : Value} {E : Value → Shared → Prop} {sc : Scope} {l : Loc} {mu : List Addr} {env : Env} {h h' : Heap} {n n' : Nat}

theorem AOk.less (x : AOk n A W h) (i : n' ≤ n) : AOk n' A W h := ⟨x.handled, x.guards, by have := x.depth; omega, by have := x.units; omega, x.fr⟩
theorem Ok.less (x : Ok B n A W sc l mu env S s) (i : n' ≤ n) : Ok B n' A W sc l mu env S s := ⟨x.a.less i, x.f, x.i, x.t⟩
theorem AOk.step0 (x : AOk n A W h) (H : HeapOk B W S h) (st : Step [] W h W' h') : AOk n A W' h' := by
  obtain ⟨fs, h1, h2⟩ := x.fr
  refine ⟨x.handled, x.guards, x.depth, x.units, fs, h1, fun e he => ?_⟩
  obtain ⟨k, L, o, g1, g2, g3, g4, g5⟩ := h2 e he
  exact ⟨k, L, o, g1, no_stay H st g2, ds_stay' H st g2 g3, st.keep L o g3 (fun h => nomatch h) g4, g5⟩
theorem Ok.step0 (x : Ok B n A W sc l mu env S s) (st : Step [] W s.heap W' s'.heap) (i : Inv B W' S' s') (t : s.toks ≤ s'.toks) : Ok B n A W' sc l mu env S' s' :=
  ⟨x.a.step0 x.i.heap st, x.f.step0 x.i.heap st, i, Nat.le_trans x.t t⟩

/-- a step that hands a value on -/
theorem Ok.fin {t : Sem Value} {Q : Value → Shared → Prop} (x : Ok B n A W sc l mu env S s) (h : wpAny (Mo B) A t (QV B W s m S') E s)
    (k : ∀ v s' W', Step [] W s.heap W' s'.heap → Ok B n A W' sc l mu env S' s' → Rd W' s'.heap m v → Q v s') : wpAny (Mo B) A t Q E s := by
  refine wpAny_more (wpAny_mono h (fun v s' q hs ht => ?_) fun e s' q _ _ => q)
  obtain ⟨W', st, I, r⟩ := q
  exact k v s' W' st (x.step0 st I ht) r

def EvOk (B : Bs) (r : Rec) (n : Nat) : Prop := ∀ {sc : Scope} {l : Loc} {S : Sto} {e : Expr} {m : MV} {S' : Sto}, r.ev sc l S e = some (m, S') →
  ∀ {A : Around} {W : Wd} {mu : List Addr} {env : Env} {s : Shared} {Q E : Value → Shared → Prop}, Ok B n A W sc l mu env S s →
  (∀ v s' W', Step [] W s.heap W' s'.heap → Ok B n A W' sc l mu env S' s' → Rd W' s'.heap m v → Q v s') → wpAny (Mo B) A (eval e env) Q E s
def TrOk (B : Bs) (r : Rec) (n : Nat) : Prop := ∀ {sc : Scope} {l : Loc} {S : Sto} {e : Expr} {c : Bool} {S' : Sto}, r.tr sc l S e = some (c, S') →
  ∀ {A : Around} {W : Wd} {mu : List Addr} {env : Env} {s : Shared} {Q : Bool → Shared → Prop} {E : Value → Shared → Prop}, Ok B n A W sc l mu env S s →
  (∀ s' W', Step [] W s.heap W' s'.heap → Ok B n A W' sc l mu env S' s' → Q c s') → wpAny (Mo B) A (isTrue e env (eval e env)) Q E s

theorem starEach_cons {e : Expr} {r : List Expr} (hs : isStar e = false) : starEach (e :: r) env = (false, eval e env) :: starEach r env := by
  cases e <;> first | rfl | cases hs
theorem starEach_plain {p : Pos} {f : Sto → Expr → Option (MV × Sto)} : ∀ {es : List Expr} {S S' : Sto} {ms : List MV}, evs f es S = some (ms, S') → (backTo p (starEach es env)).any (·.1) = false
  | [], _, _, _, _ => rfl
  | e :: r, S, S', ms, h => by
    unfold evs at h
    split at h
    · cases h
    · rename_i hs
      obtain ⟨p1, h1, h2⟩ := Option.bind_eq_some_iff.mp h
      obtain ⟨q1, h3, h4⟩ := Option.bind_eq_some_iff.mp h2
      rw [starEach_cons hs]
      cases h4
      have := starEach_plain (p := p) (es := r) h3
      simpa [backTo] using this

theorem evs_ok {r : Rec} (H : EvOk B r n) {p : Pos} : ∀ {es : List Expr} {S S' : Sto} {ms : List MV} {W : Wd} {s : Shared} {Q : List Value → Shared → Prop}, evs (r.ev sc l) es S = some (ms, S') → Ok B n A W sc l mu env S s →
    (∀ vs s' W', Step [] W s.heap W' s'.heap → Ok B n A W' sc l mu env S' s' → RdL W' s'.heap ms vs → Q vs s') → wpAny (Mo B) A (spliced (backTo p (starEach es env))) Q E s
  | [], S, S', ms, W, s, Q, h, x, k => by
    cases h
    exact wpAny_items_nil (k [] s W (.refl _ _ _) x (by simp only [RdL]))
  | e :: es, S, S', ms, W, s, Q, h, x, k => by
    unfold evs at h
    split at h
    · cases h
    · rename_i hs
      obtain ⟨p1, h1, h2⟩ := Option.bind_eq_some_iff.mp h
      obtain ⟨q1, h3, h4⟩ := Option.bind_eq_some_iff.mp h2
      cases h4
      refine wpAny_items_cons (H h1 x fun v s1 W1 st1 x1 r1 => ?_) (starEach_cons hs)
      refine evs_ok H h3 x1 fun vs s2 W2 st2 x2 r2 => ?_
      refine k _ _ W2 (st1.trans st2) x2 ?_
      simp only [RdL]
      exact ⟨v, vs, rfl, r1.sees (x1.i.sees0 st2), r2⟩
end
end Mine
namespace Mine
set_option maxRecDepth 100000
open PySem PySem.W PySem.Calls PyProof.Rows

section
variable {B : Bs} {A : Around} {W W' : Wd} {S S' : Sto} {s s' : Shared} {m a b : MV} {v va vb : Value} {E : Value → Shared → Prop} {sc : Scope} {l : Loc} {mu : List Addr} {env : Env} {h h' : Heap} {n n' : Nat} {r : Rec} {Q : Value → Shared → Prop}

theorem Ok.stay (x : Ok B n A W sc l mu env S s) {k : Nat} (hk : s.toks ≤ k) : Ok B n A W sc l mu env S { s with toks := k } := ⟨x.a, x.f, x.i.tok k, Nat.le_trans x.t hk⟩

theorem const_ok {c : Const} {k : Nat} {p : Pos} (I : Inv B W S s) (e : constMV c = some m) : wpAny (Mo B) A (eval (.Constant c k p) env) (QV B W s m S) E s := by
  unfold constMV at e
  split at e
  · cases e; exact wpAny_Constant_none (.here' I (by simp only [Rd]))
  · cases e; exact wpAny_Constant_bool (.here' I rd_bool)
  · cases e; exact wpAny_Constant_int (.here I rd_int _)
  · rename_i x
    split at e
    · rename_i hh
      cases e
      refine wpAny_Constant_str (.here I ?_ _)
      have := Nat.le_of_ble_eq_true hh
      exact rd_str (x := x.cps.toList) (by simpa [PySem.Str.length] using this)
    · cases e
  · rename_i x
    split at e
    · rename_i hh
      cases e
      have := Nat.le_of_ble_eq_true hh
      refine PySem.W.Constant_bytes (.here I ?_ _)
      have e2 : x.toArray = byA (x.map (·.toNat)) := by
        unfold byA
        rw [List.map_map]
        congr 1
        conv => lhs; rw [← List.map_id x]
        refine List.map_congr_left fun c _ => ?_
        simp [Nat.toUInt8]
      rw [e2]
      refine rd_bytes (fun n hn => ?_) (by rw [List.length_map]; exact this)
      obtain ⟨c, _, rfl⟩ := List.mem_map.mp hn
      exact c.toNat_lt
    · cases e
  · cases e

theorem boolGo_ok (H : EvOk B r n) {op : BoolOp} {p : Pos} : ∀ {es : List Expr} {S S' : Sto} {m : MV} {W : Wd} {s : Shared} {Q : Value → Shared → Prop}, boolGo op (r.ev sc l) es S = some (m, S') → Ok B n A W sc l mu env S s →
    (∀ v s' W', Step [] W s.heap W' s'.heap → Ok B n A W' sc l mu env S' s' → Rd W' s'.heap m v → Q v s') → wpAny (Mo B) A (boolOp p op (evalEach es env)) Q E s
  | [], S, S', m, W, s, Q, h, x, k => by cases h
  | [e], S, S', m, W, s, Q, h, x, k => by
    show wpAny (Mo B) A (eval e env) Q E s
    exact H h x k
  | e :: e2 :: es, S, S', m, W, s, Q, h, x, k => by
    show wpAny (Mo B) A (do
      let v ← eval e env
      standAt p
      let t ← holding [v] (PySem.truthy v)
      match op, t with
      | .And, false | .Or, true => pure v
      | _, _ => boolOp p op (evalEach (e2 :: es) env)) Q E s
    unfold boolGo at h
    obtain ⟨p1, h1, h2⟩ := Option.bind_eq_some_iff.mp h
    obtain ⟨b, h3, h4⟩ := Option.bind_eq_some_iff.mp h2
    refine wpAny_bind (H h1 x fun v s1 W1 st1 x1 r1 => wpAny_bind (wpAny_standAt (wpAny_bind (wpAny_holding (wpAny_more (truthy_leaf x1.i r1 h3 fun tk hs ht => ?_))))))
    have x1' := x1.stay ht
    cases op <;> cases b
    · cases h4; exact wpAny_pure (k _ _ W1 st1 x1' r1)
    · exact boolGo_ok H h4 x1' fun v s' W' st2 x2 r2 => k v s' W' (st1.trans st2) x2 r2
    · exact boolGo_ok H h4 x1' fun v s' W' st2 x2 r2 => k v s' W' (st1.trans st2) x2 r2
    · cases h4; exact wpAny_pure (k _ _ W1 st1 x1' r1)

theorem marks1 {op : CmpOp} {e : Expr} {t : Sem Value} (h : isSetD e = false) : markedEach [op] [e] [t] = [t] := by
  cases e <;> first | rfl | cases h
theorem cmpGo_ok (H : EvOk B r n) {p : Pos} : ∀ {ops : List CmpOp} {es : List Expr} {a : MV} {va : Value} {S S' : Sto} {c : Bool} {W : Wd} {s : Shared} {Q : Value → Shared → Prop}, cmpGo (r.ev sc l) a ops es S = some (c, S') → Rd W s.heap a va → Ok B n A W sc l mu env S s →
    (∀ s' W', Step [] W s.heap W' s'.heap → Ok B n A W' sc l mu env S' s' → Q (.bool c) s') → wpAny (Mo B) A (compareChain p va ops (markedEach ops es (evalEach es env))) Q E s
  | [], [], a, va, S, S', c, W, s, Q, h, ra, x, k => by cases h
  | [], _ :: _, a, va, S, S', c, W, s, Q, h, ra, x, k => by cases h
  | _ :: _, [], a, va, S, S', c, W, s, Q, h, ra, x, k => by simp [cmpGo] at h
  | [op], [e], a, va, S, S', c, W, s, Q, h, ra, x, k => by
    unfold cmpGo at h
    split at h
    · cases h
    · rename_i hs
      obtain ⟨p1, h1, h2⟩ := Option.bind_eq_some_iff.mp h
      obtain ⟨b, h3, h4⟩ := Option.map_eq_some_iff.mp h2
      cases h4
      show wpAny (Mo B) A (compareChain p va [op] (markedEach [op] [e] [eval e env])) Q E s
      rw [marks1 hs]
      refine chain_last (H h1 x fun v s1 W1 st1 x1 r1 => ?_)
      exact cmp_leaf x1.i (ra.sees (x.i.sees0 st1)) r1 h3 (k _ _ st1 x1)
  | [op], e :: e2 :: es, a, va, S, S', c, W, s, Q, h, ra, x, k => by simp [cmpGo] at h
  | op :: op2 :: ops, [e], a, va, S, S', c, W, s, Q, h, ra, x, k => by simp [cmpGo] at h
  | op :: op2 :: ops, e :: e2 :: es, a, va, S, S', c, W, s, Q, h, ra, x, k => by
    unfold cmpGo at h
    obtain ⟨p1, h1, h2⟩ := Option.bind_eq_some_iff.mp h
    obtain ⟨b, h3, h4⟩ := Option.bind_eq_some_iff.mp h2
    show wpAny (Mo B) A (compareChain p va (op :: op2 :: ops) (eval e env :: markedEach (op2 :: ops) (e2 :: es) (evalEach (e2 :: es) env))) Q E s
    have hm : ∃ t ts, markedEach (op2 :: ops) (e2 :: es) (evalEach (e2 :: es) env) = t :: ts := by
      cases ops <;> cases es <;> exact ⟨_, _, rfl⟩
    obtain ⟨t, ts, hm⟩ := hm
    rw [hm]
    refine chain_link (H h1 x fun v s1 W1 st1 x1 r1 => ?_)
    refine cmp_leaf x1.i (ra.sees (x.i.sees0 st1)) r1 h3 (wpAny_truthy_bool ?_)
    cases b with
    | true =>
      rw [if_pos rfl, ← hm]
      exact cmpGo_ok H h4 r1 x1 fun s' W' st2 x2 => k s' W' (st1.trans st2) x2
    | false =>
      cases h4
      exact k _ _ st1 x1
theorem cmpGo_tr (H : EvOk B r n) {p : Pos} : ∀ {ops : List CmpOp} {es : List Expr} {a : MV} {va : Value} {S S' : Sto} {c : Bool} {W : Wd} {s : Shared} {Q : Bool → Shared → Prop}, cmpGo (r.ev sc l) a ops es S = some (c, S') → Rd W s.heap a va → Ok B n A W sc l mu env S s →
    (∀ s' W', Step [] W s.heap W' s'.heap → Ok B n A W' sc l mu env S' s' → Q c s') → wpAny (Mo B) A (testChain p va ops (markedEach ops es (evalEach es env))) Q E s
  | [], [], a, va, S, S', c, W, s, Q, h, ra, x, k => by cases h
  | [], _ :: _, a, va, S, S', c, W, s, Q, h, ra, x, k => by cases h
  | _ :: _, [], a, va, S, S', c, W, s, Q, h, ra, x, k => by simp [cmpGo] at h
  | [op], [e], a, va, S, S', c, W, s, Q, h, ra, x, k => by
    unfold cmpGo at h
    split at h
    · cases h
    · rename_i hs
      obtain ⟨p1, h1, h2⟩ := Option.bind_eq_some_iff.mp h
      obtain ⟨b, h3, h4⟩ := Option.map_eq_some_iff.mp h2
      cases h4
      show wpAny (Mo B) A (testChain p va [op] (markedEach [op] [e] [eval e env])) Q E s
      rw [marks1 hs]
      refine test_last (H h1 x fun v s1 W1 st1 x1 r1 => ?_)
      exact cmp_leaf x1.i (ra.sees (x.i.sees0 st1)) r1 h3 (wpAny_truthy_bool (k _ _ st1 x1))
  | [op], e :: e2 :: es, a, va, S, S', c, W, s, Q, h, ra, x, k => by simp [cmpGo] at h
  | op :: op2 :: ops, [e], a, va, S, S', c, W, s, Q, h, ra, x, k => by simp [cmpGo] at h
  | op :: op2 :: ops, e :: e2 :: es, a, va, S, S', c, W, s, Q, h, ra, x, k => by
    unfold cmpGo at h
    obtain ⟨p1, h1, h2⟩ := Option.bind_eq_some_iff.mp h
    obtain ⟨b, h3, h4⟩ := Option.bind_eq_some_iff.mp h2
    show wpAny (Mo B) A (testChain p va (op :: op2 :: ops) (eval e env :: markedEach (op2 :: ops) (e2 :: es) (evalEach (e2 :: es) env))) Q E s
    have hm : ∃ t ts, markedEach (op2 :: ops) (e2 :: es) (evalEach (e2 :: es) env) = t :: ts := by
      cases ops <;> cases es <;> exact ⟨_, _, rfl⟩
    obtain ⟨t, ts, hm⟩ := hm
    rw [hm]
    refine test_link (H h1 x fun v s1 W1 st1 x1 r1 => ?_)
    refine cmp_leaf x1.i (ra.sees (x.i.sees0 st1)) r1 h3 (wpAny_truthy_bool ?_)
    cases b with
    | true =>
      rw [if_pos rfl, ← hm]
      exact cmpGo_tr H h4 r1 x1 fun s' W' st2 x2 => k s' W' (st1.trans st2) x2
    | false =>
      cases h4
      exact k _ _ st1 x1

theorem trueGo_ok (H : TrOk B r n) {op : BoolOp} : ∀ {es : List Expr} {S S' : Sto} {c : Bool} {W : Wd} {s : Shared} {Q : Bool → Shared → Prop}, trueGo op (r.tr sc l) es S = some (c, S') → Ok B n A W sc l mu env S s →
    (∀ s' W', Step [] W s.heap W' s'.heap → Ok B n A W' sc l mu env S' s' → Q c s') → wpAny (Mo B) A (allTrue op es env) Q E s
  | [], S, S', c, W, s, Q, h, x, k => by
    unfold trueGo at h
    cases h
    cases op
    · exact wpAny_allTrue_And_nil (k _ _ (.refl _ _ _) x)
    · exact wpAny_allTrue_Or_nil (k _ _ (.refl _ _ _) x)
  | e :: es, S, S', c, W, s, Q, h, x, k => by
    unfold trueGo at h
    obtain ⟨⟨b, S1⟩, h1, h2⟩ := Option.bind_eq_some_iff.mp h
    cases op
    · refine wpAny_allTrue_And_cons (H h1 x fun s1 W1 st1 x1 => ?_)
      cases b
      · cases h2; exact k _ _ st1 x1
      · exact trueGo_ok H h2 x1 fun s' W' st2 x2 => k s' W' (st1.trans st2) x2
    · refine wpAny_allTrue_Or_cons (H h1 x fun s1 W1 st1 x1 => ?_)
      cases b
      · exact trueGo_ok H h2 x1 fun s' W' st2 x2 => k s' W' (st1.trans st2) x2
      · cases h2; exact k _ _ st1 x1

theorem tr_ok (H : EvOk B r n) (H2 : TrOk B r n) {e : Expr} {c : Bool} (h : trS B.T r sc l S e = some (c, S')) (x : Ok B n A W sc l mu env S s) {Q : Bool → Shared → Prop}
    (k : ∀ s' W', Step [] W s.heap W' s'.heap → Ok B n A W' sc l mu env S' s' → Q c s') : wpAny (Mo B) A (isTrue e env (eval e env)) Q E s := by
  unfold trS at h
  split at h
  · obtain ⟨p1, h1, h2⟩ := Option.map_eq_some_iff.mp h
    cases h2
    exact wpAny_isTrue_Not (H2 h1 x fun s1 W1 st1 x1 => k _ _ st1 x1)
  · exact wpAny_isTrue_BoolOp (trueGo_ok H2 h x k)
  · cases h
  · obtain ⟨p1, h1, h2⟩ := Option.bind_eq_some_iff.mp h
    rw [arm_isTrue_Compare]
    exact wpAny_bind (H h1 x fun v s1 W1 st1 x1 r1 => cmpGo_tr H h2 r1 x1 fun s' W' st2 x2 => k s' W' (st1.trans st2) x2)
  · rename_i n1 n2 n3 n4
    obtain ⟨p1, h1, h2⟩ := Option.bind_eq_some_iff.mp h
    obtain ⟨b, h3, h4⟩ := Option.map_eq_some_iff.mp h2
    cases h4
    refine wpAny_isTrue_value (H h1 x fun v s1 W1 st1 x1 r1 => wpAny_more (truthy_leaf x1.i r1 h3 fun tk hs ht => k _ _ st1 (x1.stay ht))) ?_
    cases e <;> first | rfl | exact absurd rfl (n3 _ _ _ _) | exact absurd rfl (n2 _ _ _) | exact absurd rfl (n4 _ _ _ _) | skip
    rename_i op _ _
    cases op <;> first | rfl | exact absurd rfl (n1 _ _)
end
end Mine
namespace Mine
set_option maxRecDepth 100000
open PySem PySem.W PySem.Calls PyProof.Rows

/-- an exception of class `c` on its way out of a call -/
def XP (B : Bs) (A : Around) (W : Wd) (s : Shared) (c : Addr) (S' : Sto) (e : Value) (s' : Shared) : Prop :=
  ∃ (ea : Addr) (hm : Heap) (W' : Wd) (a0 : Value) (fs : List Env) (ls : List Addr) (base : Heap), e = .ref ea ∧ A.frames = some fs ∧ Heap.FlyingW base fs ea (.ref c) a0 s'.heap ∧ (∀ a o, a ∉ ls → hm.get? a = some o → base.get? a = some o) ∧
    (∀ a ∈ ls, a ∈ W'.no ∧ a ∉ W'.ds ∧ ((∃ f ∈ fs, f.frame = some a) ∨ s.heap.objs.size ≤ a)) ∧ Step [] W s.heap W' hm ∧ HeapOk B W' S' hm ∧ s'.gens = B.gens ∧ s'.os = B.os ∧
    hm.UpToSlots s'.heap ∧ hm.objs.size ≤ s'.heap.objs.size ∧ 1 ≤ s'.toks

def CaOk (B : Bs) (r : Rec) (n : Nat) : Prop := ∀ {f : Addr} {args : List MV} {S : Sto} {out : Out} {S' : Sto}, r.ca f args S = some (out, S') → keepIn B.K (.ref f) = true ∧
  ∀ {A : Around} {W : Wd} {s : Shared} {vs : List Value} {R : Result → Shared → Prop}, AOk n A W s.heap → Inv B W S s → 1 ≤ s.toks → RdL W s.heap args vs →
  (∀ m v s' W', out = .val m → Step [] W s.heap W' s'.heap → Inv B W' S' s' → Rd W' s'.heap m v → s.toks ≤ s'.toks → R (.ok (.ret v)) s') →
  (∀ c e s', out = .exc c → XP B A W s c S' e s' → R (.error e) s') →
  codeAny (Mo B) A (.call (.ref f) ⟨vs, []⟩) R s

section
variable {B : Bs} {A : Around} {W W' : Wd} {S S' : Sto} {s s' : Shared} {m a b : MV} {v va vb : Value} {E : Value → Shared → Prop} {sc : Scope} {l : Loc} {mu : List Addr} {env : Env} {h h' : Heap} {n n' : Nat} {r : Rec} {Q : Value → Shared → Prop}

theorem keeps_bi {M : Model} {f : Value} (hf : ∀ a, f ≠ .ref a) (h : Heap) (_ : True) : ∃ k, (k = Keeper.frame ∨ k = Keeper.machine ∨ k = Keeper.boundFrame) ∧ Looks M h (keeperOf f) k :=
  ⟨.machine, .inr (.inl rfl), by cases f <;> first | exact .now | exact absurd rfl (hf _)⟩

theorem callWith_ok {f : Value} {first : List Value} {P : Heap → Prop} {p : Pos} (hk : ∀ h, P h → ∃ k, (k = Keeper.frame ∨ k = Keeper.machine ∨ k = Keeper.boundFrame) ∧ Looks (Mo B) h (keeperOf f) k)
    (H : EvOk B r n) {args : List Expr} {ms : List MV} (h : evs (r.ev sc l) args S = some (ms, S')) (x : Ok B n A W sc l mu env S s)
    (k : ∀ vs s' W', Step [] W s.heap W' s'.heap → Ok B n A W' sc l mu env S' s' → RdL W' s'.heap ms vs → P s'.heap ∧ wpAny (Mo B) A (call f (first ++ vs)) Q E s') :
    wpAny (Mo B) A (callWith p f first (backTo p (starEach args env)) []) Q E s := by
  refine callWith_of (by simpa using starEach_plain (p := p) (env := env) h) hk ?_
  cases args with
  | nil =>
    cases h
    exact evalArgs_nil3 (k [] s W (.refl _ _ _) x (by simp only [RdL]))
  | cons e es =>
    have hs : isStar e = false := by
      unfold evs at h
      split at h
      · cases h
      · assumption
    have hb : backTo p (starEach (e :: es) env) = (false, eval e env) :: backTo p (starEach es env) := by rw [starEach_cons hs]; rfl
    have := evs_ok H (p := p) h x (Q := fun vs s' => P s'.heap ∧ wpAny (Mo B) A (call f (first ++ vs)) Q E s') (E := E) k
    rw [hb] at this ⊢
    exact evalArgs_plain this

theorem methodCall_eq {o : Expr} {nm : Str} {ap pos : Pos} {args : List Expr} {ms : List MV} {f : Sto → Expr → Option (MV × Sto)} (hev : evs f args S = some (ms, S')) (ho : isCallE o = false) (hl : Nat.beq ap.endLine pos.line = true) (hn : Nat.blt args.length 29 = true) :
    eval (.Call (.Attribute o nm ap) args [] pos) env = (do
      let ov ← eval o env
      standAt ap.atName
      let (f, first) ← holding [ov] (getMethod ov nm (do return (← importBound o env).getD true))
      callWith pos f first (backTo pos (starEach args env)) []) := by
  have h1 : attributeBase o nm env (eval o env) = eval o env := by cases o <;> first | rfl | cases ho
  show (do
    let ov ← attributeBase o nm env (eval o env)
    standAt ap.atName
    methodCall o nm ap pos env ov (args.length + ([] : List Keyword).length) (backTo pos (starEach args env)) (backToKw pos (keywordEach [] env))) = _
  rw [h1]
  have few : methodCallForm (args.length + ([] : List Keyword).length) (backTo pos (starEach args env)) (backToKw pos (keywordEach [] env)) = true := by
    unfold methodCallForm
    have h2 := starEach_plain (p := pos) (env := env) hev
    have h3 : args.length < 29 := by simpa [Nat.blt_eq] using hn
    simp only [List.any_eq_false] at h2
    simp only [Bool.and_eq_true, List.all_eq_true, decide_eq_true_eq]
    refine ⟨⟨fun x hx => by have := h2 x hx; simpa using this, fun x hx => nomatch hx⟩, ?_⟩
    show args.length + 0 + 0 < 30
    omega
  have hl' : (ap.endLine == pos.line) = true := by rw [beq_iff_eq]; exact Nat.eq_of_beq_eq_true hl
  unfold methodCall calleeOf methodCallPos
  rw [few]
  simp only [hl', if_true, Bool.not_true, Bool.false_or, pure_bind]
  rfl
end
end Mine
namespace Mine
set_option maxRecDepth 100000
open PySem PySem.W PySem.Calls PyProof.Rows

section
variable {B : Bs} {A : Around} {W W' : Wd} {S S' : Sto} {s s' : Shared} {m a b : MV} {v va vb : Value} {E : Value → Shared → Prop} {sc : Scope} {l : Loc} {mu : List Addr} {env : Env} {h h' : Heap} {n n' : Nat} {r : Rec} {Q : Value → Shared → Prop}

def Wd.add (W : Wd) (d x : Addr) : Wd := ⟨d :: W.no, W.ob ++ [(x, d)]⟩
theorem made (I : Inv B W S s) : Inv B (W.add s.heap.objs.size (s.heap.objs.size + 1)) (S ++ [noAtt]) { s with heap := (s.heap.push emptyDict).push (instObj B.T.C s.heap.objs.size) } ∧
    Step [] W s.heap (W.add s.heap.objs.size (s.heap.objs.size + 1)) ((s.heap.push emptyDict).push (instObj B.T.C s.heap.objs.size)) := by
  have H := I.heap
  have sz1 : (s.heap.push emptyDict).objs.size = s.heap.objs.size + 1 := Heap.size_push _ _
  have sz2 : ((s.heap.push emptyDict).push (instObj B.T.C s.heap.objs.size)).objs.size = s.heap.objs.size + 2 := by rw [Heap.size_push, sz1]
  have kp : ∀ b o, s.heap.get? b = some o → ((s.heap.push emptyDict).push (instObj B.T.C s.heap.objs.size)).get? b = some o := fun b o e => Heap.get?_push_of_some _ (Heap.get?_push_of_some _ e)
  have hd : ((s.heap.push emptyDict).push (instObj B.T.C s.heap.objs.size)).get? s.heap.objs.size = some emptyDict := Heap.get?_push_of_some _ (Heap.get?_push_size _ rfl)
  have hx : ((s.heap.push emptyDict).push (instObj B.T.C s.heap.objs.size)).get? (s.heap.objs.size + 1) = some (instObj B.T.C s.heap.objs.size) := by rw [← sz1]; exact Heap.get?_push_size _ rfl
  have st : Step [] W s.heap (W.add s.heap.objs.size (s.heap.objs.size + 1)) ((s.heap.push emptyDict).push (instObj B.T.C s.heap.objs.size)) := by
    refine ⟨fun a o _ _ e => kp a o e, by rw [sz2]; omega, fun a e _ => .inl (.tail _ e), fun a e => ?_, fun k p e => ?_, fun p e => ?_⟩
    · rcases List.mem_cons.mp e with rfl | e
      · exact .inr (Nat.le_refl _)
      · exact .inl e
    · show (W.ob ++ _)[k]? = some p
      rw [List.getElem?_append_left (List.getElem?_eq_some_iff.mp e).1]; exact e
    · rcases List.mem_append.mp e with e | e
      · exact .inl e
      · rw [List.mem_singleton.mp e]; exact .inr (Nat.le_refl _)
  have sees := st.sees H.ds (fun _ h => nomatch h)
  refine ⟨⟨⟨fun b o e => kp b o (H.keep b o e), by rw [sz2]; exact Nat.le_trans H.size (by omega), fun a e => ?_, fun a e => ?_, ?_, ?_, fun k p e => ?_⟩, I.gens, I.os⟩, st⟩
  · rw [sz2]
    rcases List.mem_cons.mp e with rfl | e
    · exact ⟨H.size, Nat.lt_succ_of_lt (Nat.lt_succ_self _)⟩
    · exact ⟨(H.no a e).1, Nat.lt_succ_of_lt (Nat.lt_succ_of_lt (H.no a e).2)⟩
  · obtain ⟨p, hp, rfl⟩ := List.mem_map.mp e
    rcases List.mem_append.mp hp with hp | hp
    · exact .tail _ (H.ds _ (List.mem_map_of_mem hp))
    · rw [List.mem_singleton.mp hp]; exact .head _
  · show ((W.ob ++ [(s.heap.objs.size + 1, s.heap.objs.size)]).map (fun p : Addr × Addr => p.2)).Nodup
    rw [List.map_append, List.nodup_append]
    refine ⟨H.nd, by simp, fun a ha _ hb => ?_⟩
    rw [List.mem_singleton.mp hb]
    rintro rfl
    exact Nat.lt_irrefl _ (H.no _ (H.ds _ ha)).2
  · show (W.ob ++ [(_, _)]).length = _
    rw [List.length_append, List.length_append, H.len]; rfl
  · rcases Nat.lt_or_ge k W.ob.length with hk | hk
    · have e' : W.ob[k]? = some p := by
        have : (W.ob ++ [(s.heap.objs.size + 1, s.heap.objs.size)])[k]? = some p := e
        rwa [List.getElem?_append_left hk] at this
      obtain ⟨A', e1, e2, e3, e4, es, n, e5, e6, e7, e8⟩ := H.inst k p e'
      refine ⟨A', ?_, kp _ _ e2, fun hm => ?_, e4, es, n, kp _ _ e5, e6, e7, fun x => ?_⟩
      · rw [List.getElem?_append_left (by rw [← H.len]; exact hk)]; exact e1
      · rcases List.mem_cons.mp hm with q | q
        · exact absurd (Heap.lt_size e2) (by rw [q]; exact Nat.lt_irrefl _)
        · exact e3 q
      · have := e8 x
        unfold RdO at this ⊢
        cases hq : A' x with
        | none => rw [hq] at this; exact this
        | some y => rw [hq] at this; obtain ⟨z, z1, z2⟩ := this; exact ⟨z, z1, z2.sees sees⟩
    · have e' : (W.ob ++ [(s.heap.objs.size + 1, s.heap.objs.size)])[k]? = some p := e
      rw [List.getElem?_append_right hk] at e'
      have hk0 : k - W.ob.length = 0 := by
        cases q : k - W.ob.length with
        | zero => rfl
        | succ j => rw [q] at e'; cases e'
      rw [hk0] at e'
      cases e'
      have hkl : k = S.length := by rw [← H.len]; omega
      subst hkl
      refine ⟨noAtt, by rw [List.getElem?_append_right (Nat.le_refl _)]; simp, hx, fun hm => ?_, by have := H.size; show _ ≤ s.heap.objs.size + 1; omega, #[], 0, hd, fun e he => by simp at he, trivial, fun x => rfl⟩
      rcases List.mem_cons.mp hm with q | q
      · exact absurd q (by show s.heap.objs.size + 1 ≠ s.heap.objs.size; omega)
      · exact absurd (H.no _ q).2 (Nat.not_lt.mpr (Nat.le_succ _))

theorem under_type (a b : List Value) (c : Addr) : A.under (.builtin "type.__call__" ⟨.ref c :: a, []⟩) = { A with depth := A.depth + 1, units := A.units + 1 } := by
  obtain ⟨h, d, f, g, u⟩ := A
  have hg : (Code.builtin "type.__call__" ⟨.ref c :: a, []⟩).isGuard = false := by
    show guardIds.contains "type.__call__" = false
    decide +kernel
  have hf : (Code.builtin "type.__call__" ⟨.ref c :: a, []⟩).frames = 0 := by rfl
  have hc : (Code.builtin "type.__call__" ⟨.ref c :: a, []⟩).isCaller = false := by rfl
  have hw : (Code.builtin "type.__call__" ⟨.ref c :: a, []⟩).weight = 1 := by
    unfold Code.weight
    rw [hf, hg, hc]; rfl
  have he : (Code.builtin "type.__call__" ⟨.ref c :: a, []⟩).envs = [] := by rfl
  have hu : (Code.builtin "type.__call__" ⟨.ref c :: a, []⟩).cUnits = 1 := by
    show 1 + 3 * (Code.builtin "type.__call__" ⟨.ref c :: a, []⟩).frames = 1
    rw [hf]
  unfold Around.under
  rw [hw, he, hu]
  simp [Code.guards, hg, pushEnvs, pushGuards]

theorem AOk.under (x : AOk (n + 1) A W h) (a : List Value) (c : Addr) : AOk n (A.under (.builtin "type.__call__" ⟨.ref c :: a, []⟩)) W h := by
  rw [under_type a [] c]
  exact ⟨x.handled, x.guards, by show A.depth + 1 + 2 * n ≤ 900; have := x.depth; omega, by show A.units + 1 + 10 * n + 100 ≤ 9000; have := x.units; omega, x.fr⟩

theorem make_ok {args : List MV} {vs : List Value} (O : BOk B) (H : CaOk B r n) (h : r.ca B.T.init (.obj S.length :: args) (S ++ [noAtt]) = some (.val .none, S')) (a : AOk (n + 1) A W s.heap) (I : Inv B W S s) (ht : 1 ≤ s.toks)
    (rv : RdL W s.heap args vs) (k : ∀ v s' W', Step [] W s.heap W' s'.heap → Inv B W' S' s' → Rd W' s'.heap (.obj S.length) v → s.toks ≤ s'.toks → Q v s') :
    wpAny (Mo B) A (call (.ref B.T.C) vs) Q E s := by
  have X := O.KIn.keeps I.heap.keep
  obtain ⟨I1, st1⟩ := made I
  refine wpAny_call ?_
  obtain ⟨hh, g, d, t, os⟩ := s
  refine make_core (makes_of X O.makes) (looks_findIn X O.initF) (fun self => bind_fn X self (beq_iff_eq.mp O.initFn)) (.inl rfl) ?_
  have sees := st1.sees I.heap.ds (fun _ h => nomatch h)
  refine (H h).2 ((a.step0 I.heap st1).under _ _) I1 ht (vs := .ref (hh.objs.size + 1) :: vs) ?_ (fun m v s' W' hm st I' r t' => ?_) (fun c e s' hm => by cases hm)
  · simp only [RdL]
    refine ⟨_, vs, rfl, ?_, rv.sees sees⟩
    simp only [Rd]
    refine ⟨(hh.objs.size + 1, hh.objs.size), ?_, rfl⟩
    show (W.ob ++ [(_, _)])[S.length]? = _
    rw [← I.heap.len, List.getElem?_append_right (Nat.le_refl _)]; simp
  · cases hm
    simp only [Rd] at r
    refine ⟨r, k _ _ W' (st1.trans st) I' ?_ t'⟩
    simp only [Rd]
    refine ⟨(hh.objs.size + 1, hh.objs.size), st.ob _ _ ?_, rfl⟩
    show (W.ob ++ [(_, _)])[S.length]? = _
    rw [← I.heap.len, List.getElem?_append_right (Nat.le_refl _)]; simp
end
end Mine
namespace Mine
set_option maxRecDepth 100000
open PySem PySem.W PySem.Calls PyProof.Rows

theorem strike_filter (c : Nat) : ∀ x : List Nat, strike c x = x.filter (· != c)
  | [] => rfl
  | a :: r => by
    unfold strike
    rw [List.filter_cons]
    cases h : Nat.beq a c with
    | true => rw [Nat.eq_of_beq_eq_true h]; simp [strike_filter c r]
    | false => have := Nat.ne_of_beq_eq_false h; simp [this, strike_filter c r]

section
variable {B : Bs} {A : Around} {W W' : Wd} {S S' : Sto} {s s' : Shared} {m a b : MV} {v va vb : Value} {E : Value → Shared → Prop} {sc : Scope} {l : Loc} {mu : List Addr} {env : Env} {h h' : Heap} {n n' : Nat} {r : Rec} {Q : Value → Shared → Prop}

theorem Ok.up (y : Ok B n' A W' sc l mu env S' s') (a : AOk n A W h) : Ok B n A W' sc l mu env S' s' := ⟨⟨a.handled, a.guards, a.depth, a.units, y.a.fr⟩, y.f, y.i, y.t⟩

theorem XP.before {s1 : Shared} {W1 : Wd} {c : Addr} {e : Value} (st : Step [] W s.heap W1 s1.heap) (x : XP B A W1 s1 c S' e s') : XP B A W s c S' e s' := by
  obtain ⟨ea, hm, W', a0, fs, ls, base, h1, h2, h3, h4, h5, h6, h7, h8, h9, h10, h11, h12⟩ := x
  refine ⟨ea, hm, W', a0, fs, ls, base, h1, h2, h3, h4, fun a ha => ?_, st.trans h6, h7, h8, h9, h10, h11, h12⟩
  obtain ⟨q1, q2, q3⟩ := h5 a ha
  exact ⟨q1, q2, q3.imp id (Nat.le_trans st.size)⟩

/-- the call of a function with its values in hand -/
theorem ca_ok (H : CaOk B r n) {f : Addr} {args : List MV} {out : Out} {vs : List Value} (h : r.ca f args S = some (out, S')) (x : Ok B n A W sc l mu env S s) (rv : RdL W s.heap args vs)
    (k : ∀ m v s' W', out = .val m → Step [] W s.heap W' s'.heap → Ok B n A W' sc l mu env S' s' → Rd W' s'.heap m v → Q v s')
    (kE : ∀ c e s', out = .exc c → XP B A W s c S' e s' → E e s') : wpAny (Mo B) A (call (.ref f) vs) Q E s :=
  wpAny_call ((H h).2 x.a x.i x.t rv (fun m v s' W' hm st I r t => k m v s' W' hm st (x.step0 st I t) r) kE)

theorem callS_ok (O : BOk B) (H : CaOk B r n) {f : MV} {args : List MV} {out : Out} {vf : Value} {vs : List Value} (h : callS B.T r f args S = some (out, S')) (x : Ok B (n + 1) A W sc l mu env S s) (rf : Rd W s.heap f vf) (rv : RdL W s.heap args vs)
    (k : ∀ m v s' W', out = .val m → Step [] W s.heap W' s'.heap → Ok B n A W' sc l mu env S' s' → Rd W' s'.heap m v → Q v s')
    (kE : ∀ c e s', out = .exc c → XP B A W s c S' e s' → E e s') : wpAny (Mo B) A (call vf vs) Q E s := by
  have x' := x.less (Nat.le_succ n)
  unfold callS at h
  split at h
  · rename_i a
    simp only [Rd] at rf
    subst rf
    split at h
    · rename_i q
      have q := Nat.eq_of_beq_eq_true q
      subst q
      split at h
      · rename_i s1 h1
        cases h
        exact make_ok O H h1 x.a x.i x.t rv fun v s' W' st I r t => k _ v s' W' rfl st (x'.step0 st I t) r
      · cases h
    · exact ca_ok H h x' rv k kE
  · rename_i j
    simp only [Rd] at rf
    subst rf
    obtain ⟨y, h1, h2⟩ := Option.map_eq_some_iff.mp h
    cases h2
    exact x'.fin (bfun_leaf O x.a.handled x.i rv h1) fun v s' W' st x1 r1 => k _ v s' W' rfl st x1 r1
  · cases h

/-- the keeper of what is called -/
theorem callS_keep (O : BOk B) (H : CaOk B r n) {f : MV} {args : List MV} {out : Out} {vf : Value} (h : callS B.T r f args S = some (out, S')) (rf : Rd W s.heap f vf) (hh : Heap) (X : B.K.In hh) :
    ∃ k, (k = Keeper.frame ∨ k = Keeper.machine ∨ k = Keeper.boundFrame) ∧ Looks (Mo B) hh (keeperOf vf) k := by
  unfold callS at h
  split at h
  · rename_i a
    simp only [Rd] at rf
    subst rf
    split at h
    · rename_i q
      have q := Nat.eq_of_beq_eq_true q
      subst q
      exact keeps_K O.keepC hh X
    · exact keeps_K (H h).1 hh X
  · rename_i j
    simp only [Rd] at rf
    subst rf
    exact keeps_bi (fun a q => by unfold primV at q; split at q <;> cases q) hh trivial
  · cases h
end
end Mine
namespace Mine
set_option maxRecDepth 100000
open PySem PySem.W PySem.Calls PyProof.Rows

section
variable {B : Bs} {A : Around} {W W' : Wd} {S S' : Sto} {s s' : Shared} {m a b : MV} {v va vb : Value} {E : Value → Shared → Prop} {sc : Scope} {l : Loc} {mu : List Addr} {env : Env} {h h' : Heap} {n n' : Nat} {r : Rec} {Q : Value → Shared → Prop}

theorem replace_leaf {x : List Nat} {c : Nat} {t : Tok} {y z : Str} {p1 p2 pos : Pos} {k1 k2 : Nat} (X : Ok B n A W sc l mu env S s) (hx : x.length ≤ 1000000) (hy : y.cps.toList = [c]) (hz : z.cps.toList = [])
    (k : ∀ v s', Step [] W s.heap W s'.heap → Ok B n A W sc l mu env S s' → Rd W s'.heap (.str (strike c x)) v → Q v s') :
    wpAny (Mo B) A (callWith pos (.builtin "str.replace") [.str ⟨x.toArray⟩ t] (backTo pos (starEach [.Constant (.str y) k1 p1, .Constant (.str z) k2 p2] env)) []) Q E s := by
  have ey : y = ⟨#[c]⟩ := by cases y; simp only [Str.mk.injEq]; exact Array.ext' hy
  have ez : z = ⟨#[]⟩ := by cases z; simp only [Str.mk.injEq]; exact Array.ext' hz
  subst ey ez
  refine callWith_builtin (by rfl) ?_
  refine evalArgs_plain ?_
  refine wpAny_items_cons (pos := pos) (wpAny_Constant_str ?_) rfl
  refine wpAny_items_cons (pos := pos) (wpAny_Constant_str ?_) rfl
  refine wpAny_items_nil ?_
  have ht := X.t
  refine wpAny_more (SC.replace (Nat.ne_of_gt ht) (by exact Nat.succ_ne_zero _) (by exact Nat.ne_of_lt (Nat.lt_succ_self _)) (by rfl) ?_ fun t' k' hs ht' => ?_)
  · show x.toArray.size + (x.toArray.size + 1) * 0 ≤ _
    simp; omega
  · refine k _ _ (.refl _ _ _) (X.stay (Nat.le_trans (Nat.le_add_right _ 2) ht')) ?_
    have e : Txt.replace ⟨x.toArray⟩ ⟨#[c]⟩ ⟨#[]⟩ = ⟨(strike c x).toArray⟩ := by
      have h1 := replace_strikes ⟨x.toArray⟩ c
      have h2 : (⟨x.toArray⟩ : Str).cps.toList = x := rfl
      rw [h2, ← strike_filter] at h1
      rw [← h1]
    show Rd W s.heap _ (.str (Txt.replace _ _ _) t')
    rw [e]
    refine rd_str ?_
    rw [strike_filter]
    exact Nat.le_trans (List.length_filter_le _ _) hx

theorem evCall_ok (O : BOk B) (H : EvOk B r n) (HC : CaOk B r n) {e : Expr} {out : Out} (h : evCall B.T r sc l S e = some (out, S')) (x : Ok B (n + 1) A W sc l mu env S s)
    (k : ∀ m v s' W', out = .val m → Step [] W s.heap W' s'.heap → Ok B n A W' sc l mu env S' s' → Rd W' s'.heap m v → Q v s')
    (kE : ∀ c e s', out = .exc c → XP B A W s c S' e s' → E e s') : wpAny (Mo B) A (eval e env) Q E s := by
  have x' := x.less (Nat.le_succ n)
  unfold evCall at h
  split at h
  · rename_i o nm ap args pos
    split at h
    · cases h
    · rename_i hg
      simp only [Bool.and_eq_true, Bool.not_eq_true'] at hg
      obtain ⟨⟨g1, g2⟩, g3⟩ := hg
      obtain ⟨p1, h1, h2⟩ := Option.bind_eq_some_iff.mp h
      split at h2
      · -- replace
        rename_i xx y ky py z kz pz hq
        split at h2
        · rename_i c hnm hy hz
          cases h2
          have hev : ∃ ms S1, evs (fun S e => (constMV (match e with | .Constant c _ _ => c | _ => .none)).map fun v => (v, S)) [] S = some (ms, S1) := ⟨_, _, rfl⟩
          have he : eval (.Call (.Attribute o nm ap) [.Constant (.str y) ky py, .Constant (.str z) kz pz] [] pos) env = (do
            let ov ← eval o env
            standAt ap.atName
            let (f, first) ← holding [ov] (getMethod ov nm (do return (← importBound o env).getD true))
            callWith pos f first (backTo pos (starEach [.Constant (.str y) ky py, .Constant (.str z) kz pz] env)) []) :=
            methodCall_eq (S := S) (S' := S) (ms := [.none, .none]) (f := fun S _ => some (.none, S)) rfl g1 g2 g3
          refine MethodCall_ ?_ he
          refine H h1 x' fun ov s1 W1 st1 x1 r1 => ?_
          rw [hq] at r1
          simp only [Rd] at r1
          obtain ⟨t, rfl, hl⟩ := r1
          rw [seq_iff.mp hnm]
          refine GM.replace ?_
          exact replace_leaf x1 hl hy hz fun v s' st2 x2 r2 => k _ v s' W1 rfl (st1.trans st2) x2 r2
        · cases h2
      · obtain ⟨q1, h3, h4⟩ := Option.bind_eq_some_iff.mp h2
        refine MethodCall_ ?_ (methodCall_eq h3 g1 g2 g3)
        refine H h1 x' fun ov s1 W1 st1 x1 r1 => ?_
        have st1' := st1
        unfold methS at h4
        split at h4
        · -- on an object
          rename_i kk hq
          rw [hq] at r1
          split at h4
          · rename_i hno
            obtain ⟨f, h7, h8⟩ := Option.bind_eq_some_iff.mp h4
            refine meth_leaf O x1.i r1 hno h7 ?_
            refine callWith_ok (P := B.K.In) (keeps_K (HC h8).1) H h3 x1 fun vs s2 W2 st2 x2 r2 => ⟨O.KIn.keeps x2.i.heap.keep, ?_⟩
            refine ca_ok HC h8 x2 (vs := ov :: vs) ?_ (fun m v s' W' hm st3 x3 r3 => k m v s' W' hm ((st1.trans st2).trans st3) x3 r3) (fun c e s' hc xp => kE c e s' hc (xp.before (st1.trans st2)))
            simp only [RdL]
            exact ⟨ov, vs, rfl, hq ▸ r1.sees (x1.i.sees0 st2), r2⟩
          · cases h4
        · -- on a class
          rename_i aa hq
          obtain ⟨t, h5, h6⟩ := Option.bind_eq_some_iff.mp h4
          obtain ⟨f, h7, h8⟩ := Option.bind_eq_some_iff.mp h6
          rw [hq] at r1
          simp only [Rd] at r1
          subst r1
          obtain ⟨mc, p, rest, m1, m2, m3, m4, m5⟩ := O.smeths aa t nm f h5 h7
          have X := O.KIn.keeps x1.i.heap.keep
          refine method_cls X m5 ?_
          refine cls_bind X m2 m3 (wpAny_call (sm_get (s := { s1 with toks := s1.toks + 1 }) X m4 (handed_on rfl ?_)))
          have x1b := x1.stay (Nat.le_succ s1.toks)
          refine callWith_ok (P := B.K.In) (keeps_K (HC h8).1) H h3 x1b fun vs s2 W2 st2 x2 r2 => ⟨O.KIn.keeps x2.i.heap.keep, ?_⟩
          exact ca_ok HC h8 x2 r2 (fun m v s' W' hm st3 x3 r3 => k m v s' W' hm ((st1.trans st2).trans st3) x3 r3) (fun c e s' hc xp => kE c e s' hc (xp.before (st1.trans st2)))
        · -- a value's own method
          obtain ⟨m', h5, h6⟩ := Option.map_eq_some_iff.mp h4
          cases h6
          obtain ⟨id, G, C⟩ := bmeth_leaf (B := B) h5
          refine G _ _ _ _ _ r1 _ _ ?_
          refine callWith_ok (P := fun _ => True) (keeps_bi (fun a q => by cases q)) H h3 x1 fun vs s2 W2 st2 x2 r2 => ⟨trivial, ?_⟩
          exact x2.fin (C _ _ _ _ _ _ _ x2.i (r1.sees (x1.i.sees0 st2)) r2) fun v s' W' st3 x3 r3 => k _ v s' W' rfl ((st1.trans st2).trans st3) x3 r3
  · rename_i f args pos hne
    obtain ⟨p1, h1, h2⟩ := Option.bind_eq_some_iff.mp h
    obtain ⟨q1, h3, h4⟩ := Option.bind_eq_some_iff.mp h2
    have he : eval (.Call f args [] pos) env = (do callWith pos (← eval f env) [] (backTo pos (starEach args env)) (backToKw pos (keywordEach [] env))) := by
      cases f <;> first | rfl | exact absurd rfl (hne _ _ _)
    refine PyProof.Rows.Call_ ?_ he
    refine H h1 x' fun vf s1 W1 st1 x1 r1 => ?_
    refine callWith_ok (P := B.K.In) (callS_keep O HC h4 r1) H h3 x1 fun vs s2 W2 st2 x2 r2 => ⟨O.KIn.keeps x2.i.heap.keep, ?_⟩
    exact callS_ok O HC h4 (x2.up x.a) (r1.sees (x1.i.sees0 st2)) r2 (fun m v s' W' hm st3 x3 r3 => k m v s' W' hm ((st1.trans st2).trans st3) x3 r3) (fun c e s' hc xp => kE c e s' hc (xp.before (st1.trans st2)))
  · cases h
end
end Mine
namespace Mine
set_option maxRecDepth 100000
open PySem PySem.W PySem.Calls PyProof.Rows

/-- an iterator that will hand out `ms` -/
def IterAt (B : Bs) (A : Around) (W : Wd) (mu : List Addr) (h : Heap) (I : Addr) (ms : List MV) : Prop :=
  ∃ fp n P St i, Walks B.prog B.w A I fp [I] n P St ∧ St i h ∧ i + ms.length = n ∧ (∀ (j : Nat) (m : MV) (v : Value), ms[j]? = some m → P (i + j) v → Rd W h m v) ∧
    (∀ b ∈ fp, b < h.objs.size ∧ b ∉ W.ds ∧ b ∉ mu) ∧ I ∈ W.no

section
variable {B : Bs} {A : Around} {W W' : Wd} {S S' : Sto} {s s' : Shared} {m a b : MV} {v va vb : Value} {E : Value → Shared → Prop} {sc : Scope} {l : Loc} {mu mu' : List Addr} {env : Env} {h h' : Heap} {n n' : Nat} {r : Rec} {Q : Value → Shared → Prop} {I : Addr} {ms : List MV}

theorem IterAt.inFp (x : IterAt B A W mu h I ms) : I < h.objs.size ∧ I ∉ W.ds ∧ I ∉ mu ∧ I ∈ W.no := by
  obtain ⟨fp, n, P, St, i, w, _, _, _, h5, h6⟩ := x
  obtain ⟨q1, q2, q3⟩ := h5 I (w.sub I (by simp))
  exact ⟨q1, q2, q3, h6⟩
theorem IterAt.step (x : IterAt B A W mu h I ms) (H : HeapOk B W S h) (hmu : ∀ a ∈ mu, a ∈ W.no) (st : Step mu W h W' h') (i : ∀ a ∈ mu', a ∈ mu ∨ h.objs.size ≤ a) : IterAt B A W' mu' h' I ms := by
  obtain ⟨_, _, _, hno⟩ := x.inFp
  have hI := x.inFp
  obtain ⟨fp, n, P, St, k, w, h2, h3, h4, h5, h6⟩ := x
  have sees := st.sees H.ds (fun a e => .inl (hmu a e))
  refine ⟨fp, n, P, St, k, w, w.frame _ _ _ h2 fun b hb o e => st.keep b o (h5 b hb).2.1 (h5 b hb).2.2 e, h3, fun j m v e p => (h4 j m v e p).sees sees, fun b hb => ?_, ?_⟩
  · obtain ⟨e, q2, q3⟩ := h5 b hb
    refine ⟨Nat.lt_of_lt_of_le e st.size, fun hm => ?_, fun hm => ?_⟩
    · obtain ⟨p, hp, rfl⟩ := List.mem_map.mp hm
      rcases st.obn p hp with q | q
      · exact q2 (List.mem_map_of_mem q)
      · exact absurd e (Nat.not_lt.mpr q)
    · rcases i b hm with z | z
      · exact q3 z
      · exact absurd e (Nat.not_lt.mpr z)
  · rcases st.no I h6 (H.no I h6).2 with z | z
    · exact z
    · exact absurd z hI.2.2.1

theorem HeapOk.kept {ks : List Addr} (H : HeapOk B W S h) (kp : ∀ a o, a ∉ ks → h.get? a = some o → h'.get? a = some o) (hk : ∀ a ∈ ks, a ∈ W.no ∧ a ∉ W.ds) (hs : h.objs.size ≤ h'.objs.size) : HeapOk B W S h' ∧ Step ks W h W h' := by
  have st : Step ks W h W h' := ⟨fun a o _ n e => kp a o n e, hs, fun _ e _ => .inl e, fun _ e => .inl e, fun _ _ e => e, fun _ e => .inl e⟩
  have sees := st.sees H.ds (fun a e => .inl (hk a e).1)
  refine ⟨⟨fun b o e => kp b o (fun hm => ?_) (H.keep b o e), Nat.le_trans H.size hs, fun a e => ⟨(H.no a e).1, Nat.lt_of_lt_of_le (H.no a e).2 hs⟩, H.ds, H.nd, H.len, fun i p e => ?_⟩, st⟩
  · exact absurd (Heap.lt_size e) (Nat.not_lt.mpr (H.no b (hk b hm).1).1)
  · obtain ⟨A, e1, e2, e3, e4, es, n, e5, e6, e7, e8⟩ := H.inst i p e
    refine ⟨A, e1, kp _ _ (fun hm => e3 (hk _ hm).1) e2, e3, e4, es, n, kp _ _ (fun hm => (hk _ hm).2 (List.mem_map_of_mem (List.mem_of_getElem? e))) e5, e6, e7, fun x => ?_⟩
    have := e8 x
    unfold RdO at this ⊢
    cases q : A x with
    | none => rw [q] at this; exact this
    | some m =>
      rw [q] at this
      obtain ⟨y, y1, y2⟩ := this
      exact ⟨y, y1, y2.sees sees⟩

/-- the frames around are not touched by a turn of `ks` -/
def Apart (A : Around) (ks : List Addr) : Prop := ∀ fs, A.frames = some fs → ∀ e ∈ fs, ∀ L, e.frame = some L → L ∉ ks
theorem AOk.kept {ks : List Addr} (x : AOk n A W h) (kp : ∀ a o, a ∉ ks → h.get? a = some o → h'.get? a = some o) (ap : Apart A ks) : AOk n A W h' := by
  obtain ⟨fs, h1, h2⟩ := x.fr
  refine ⟨x.handled, x.guards, x.depth, x.units, fs, h1, fun e he => ?_⟩
  obtain ⟨k, L, o, g1, g2, g3, g4, g5⟩ := h2 e he
  exact ⟨k, L, o, g1, g2, g3, kp L o (ap fs h1 e he L g1) g4, g5⟩
theorem Ok.kept {ks : List Addr} {k : Nat} (x : Ok B n A W sc l mu env S s) (kp : ∀ a o, a ∉ ks → s.heap.get? a = some o → h'.get? a = some o) (hk : ∀ a ∈ ks, a ∈ W.no ∧ a ∉ W.ds ∧ a ∉ mu) (hs : s.heap.objs.size ≤ h'.objs.size)
    (ap : Apart A ks) (ht : 1 ≤ k) : Ok B n A W sc l mu env S { s with heap := h', toks := k } ∧ Step ks W s.heap W h' := by
  obtain ⟨H, st⟩ := x.i.heap.kept kp (fun a e => ⟨(hk a e).1, (hk a e).2.1⟩) hs
  have sees := st.sees x.i.heap.ds (fun a e => .inl (hk a e).1)
  exact ⟨⟨x.a.kept kp ap, x.f.move sees (fun a e o q => kp a o (fun z => (hk a z).2.2 e) q) x.f.mu, ⟨H, x.i.gens, x.i.os⟩, ht⟩, st⟩

/-- one more of the iterator -/
theorem next_ok {Q : Option Value → Shared → Prop} (it : IterAt B A W mu' s.heap I (m :: ms)) (x : Ok B n A W sc l mu env S s) (hI : I ∉ mu) (ap : Apart A [I])
    (k : ∀ v s', Step [I] W s.heap W s'.heap → Ok B n A W sc l mu env S s' → Rd W s'.heap m v → IterAt B A W mu' s'.heap I ms → Q (some v) s') : wpAny (Mo B) A (pyNext (.ref I)) Q E s := by
  obtain ⟨_, i2, i3, i4⟩ := it.inFp
  obtain ⟨fp, n, P, St, i, w, h2, h3, h4, h5, h6⟩ := it
  refine wpAny_more (w.item i s _ _ (by simp only [List.length_cons] at h3; omega) h2 fun v h' tk pv st' kp hs ht => ?_)
  have kp' : ∀ a o, a ∉ [I] → s.heap.get? a = some o → h'.get? a = some o := fun a o n e => kp a o n e
  obtain ⟨x', st⟩ := x.kept (k := tk) kp' (fun a e => by rw [List.mem_singleton.mp e]; exact ⟨i4, i2, hI⟩) hs ap (Nat.le_trans x.t ht)
  have sees := st.sees x.i.heap.ds (fun a e => .inl (by rw [List.mem_singleton.mp e]; exact i4))
  refine k v _ st x' ((h4 0 m v rfl pv).sees sees) ⟨fp, n, P, St, i + 1, w, st', by simp only [List.length_cons] at h3; omega, fun j m' v' e p => (h4 (j + 1) m' v' e (by rw [show i + (j + 1) = i + 1 + j by omega]; exact p)).sees sees, fun b hb => ?_, i4⟩
  obtain ⟨e, q2, q3⟩ := h5 b hb
  exact ⟨Nat.lt_of_lt_of_le e hs, q2, q3⟩
theorem done_ok {Q : Option Value → Shared → Prop} (it : IterAt B A W mu' s.heap I []) (x : Ok B n A W sc l mu env S s) (hI : I ∉ mu) (ap : Apart A [I])
    (k : ∀ s', Step [I] W s.heap W s'.heap → Ok B n A W sc l mu env S s' → Q none s') : wpAny (Mo B) A (pyNext (.ref I)) Q E s := by
  obtain ⟨_, i2, i3, i4⟩ := it.inFp
  obtain ⟨fp, n, P, St, i, w, h2, h3, h4, h5, h6⟩ := it
  simp only [List.length_nil, Nat.add_zero] at h3
  subst h3
  refine wpAny_more (w.done s _ _ h2 fun h' tk kp hs ht => ?_)
  obtain ⟨x', st⟩ := x.kept (k := tk) (ks := [I]) (fun a o n e => kp a o n e) (fun a e => by rw [List.mem_singleton.mp e]; exact ⟨i4, i2, hI⟩) hs ap (Nat.le_trans x.t ht)
  exact k _ st x'
end
end Mine
namespace Mine
set_option maxRecDepth 100000
open PySem PySem.W PySem.Calls PyProof.Rows

section
variable {B : Bs} {A : Around} {W W' : Wd} {S S' : Sto} {s s' : Shared} {m a b : MV} {v va vb : Value} {E : Value → Shared → Prop} {sc : Scope} {l : Loc} {mu mu' : List Addr} {env : Env} {h h' : Heap} {n n' : Nat} {r : Rec} {Q : Value → Shared → Prop} {I : Addr} {ms : List MV}

def Wd.hide (W : Wd) (a : Addr) : Wd := ⟨a :: W.no, W.ob⟩
/-- a new object, kept for oneself -/
theorem Ok.pushNo {o : Obj} (x : Ok B n A W sc l mu env S s) : Ok B n A (W.hide s.heap.objs.size) sc l mu env S { s with heap := s.heap.push o } ∧ Step [] W s.heap (W.hide s.heap.objs.size) (s.heap.push o) ∧ Apart A [s.heap.objs.size] := by
  have H := x.i.heap
  have sz : (s.heap.push o).objs.size = s.heap.objs.size + 1 := Heap.size_push _ _
  have kp : ∀ b o', s.heap.get? b = some o' → (s.heap.push o).get? b = some o' := fun b o' e => Heap.get?_push_of_some _ e
  have st : Step [] W s.heap (W.hide s.heap.objs.size) (s.heap.push o) := by
    refine ⟨fun a o _ _ e => kp a o e, by rw [sz]; exact Nat.le_succ _, fun a e _ => .inl (.tail _ e), fun a e => ?_, fun _ _ e => e, fun _ e => .inl e⟩
    rcases List.mem_cons.mp e with rfl | e
    · exact .inr (Nat.le_refl _)
    · exact .inl e
  have sees := st.sees H.ds (fun _ h => nomatch h)
  refine ⟨x.step0 st ⟨⟨fun b o e => kp b o (H.keep b o e), by rw [sz]; exact Nat.le_succ_of_le H.size, fun a e => ?_, fun a e => .tail _ (H.ds a e), H.nd, H.len, fun k p e => ?_⟩, x.i.gens, x.i.os⟩ (Nat.le_refl _), st, fun fs hf e he L hL hm => ?_⟩
  · rw [sz]
    rcases List.mem_cons.mp e with rfl | e
    · exact ⟨H.size, Nat.lt_succ_self _⟩
    · exact ⟨(H.no a e).1, Nat.lt_succ_of_lt (H.no a e).2⟩
  · obtain ⟨A', e1, e2, e3, e4, es, n, e5, e6, e7, e8⟩ := H.inst k p e
    refine ⟨A', e1, kp _ _ e2, fun hm => ?_, e4, es, n, kp _ _ e5, e6, e7, fun x => ?_⟩
    · rcases List.mem_cons.mp hm with q | q
      · exact absurd (Heap.lt_size e2) (by rw [q]; exact Nat.lt_irrefl _)
      · exact e3 q
    · have := e8 x
      unfold RdO at this ⊢
      cases hq : A' x with
      | none => rw [hq] at this; exact this
      | some y => rw [hq] at this; obtain ⟨z, z1, z2⟩ := this; exact ⟨z, z1, z2.sees sees⟩
  · obtain ⟨fs', h1, h2⟩ := x.a.fr
    rw [hf] at h1; cases h1
    obtain ⟨_, L', o', g1, _, _, g4, _⟩ := h2 e he
    rw [hL] at g1; cases g1
    rw [List.mem_singleton.mp hm] at g4
    exact Nat.lt_irrefl _ (Heap.lt_size g4)

def ItK (B : Bs) (n : Nat) (A : Around) (W : Wd) (sc : Scope) (l : Loc) (mu mu' : List Addr) (env : Env) (S : Sto) (s : Shared) (ms : List MV) (Q : Value → Shared → Prop) : Prop :=
  ∀ I s' W', Step [] W s.heap W' s'.heap → Ok B n A W' sc l mu env S s' → IterAt B A W' mu' s'.heap I ms → Apart A [I] → s.heap.objs.size ≤ I → Q (.ref I) s'

theorem fresh_notin (H : HeapOk B W S h) {l : List Addr} (i : ∀ a ∈ l, a ∈ W.no) : h.objs.size ∉ l := fun m => Nat.lt_irrefl _ (H.no _ (i _ m)).2

theorem iter_list {ax : Addr} {vs : List Value} {k : Nat} (x : Ok B n A W sc l mu env S s) (hl : s.heap.get? ax = some (listObj vs k)) (rs : RdL W s.heap ms vs) (h1 : ax ∉ W.ds) (h2 : ax ∉ mu') (h3 : ∀ a ∈ mu', a ∈ W.no)
    (K : ItK B n A W sc l mu mu' env S s ms Q) : wpAny (Mo B) A (pyIter (.ref ax)) Q E s := by
  refine wpAny_pyIter_list (isList hl) ?_
  obtain ⟨x', st, ap⟩ := x.pushNo (o := { cls := .type "list_iterator", data := .fields #[.ref ax, .int 0 0] })
  have hne : ax ≠ s.heap.objs.size := Nat.ne_of_lt (Heap.lt_size hl)
  have hlen := RdL.length rs
  refine K _ _ _ st x' ⟨[s.heap.objs.size, ax], vs.toArray.size, _, _, 0, Walks.list x.a.handled s.heap.objs.size ax hne vs.toArray, ⟨⟨_, Heap.get?_push_size _ rfl, rfl, rfl⟩, isList (Heap.get?_push_of_some _ hl)⟩, ?_, fun j m v e p => ?_, fun b hb => ?_, .head _⟩ ap (Nat.le_refl _)
  · rw [List.size_toArray, hlen]; omega
  · obtain ⟨y, y1, y2⟩ := RdL.get (RdL.sees (st.sees x.i.heap.ds (fun _ h => nomatch h)) rs) e
    have : vs[j]? = some v := by simpa using p
    rw [this] at y1; cases y1; exact y2
  · rw [Heap.size_push]
    rcases List.mem_cons.mp hb with rfl | hb
    · exact ⟨Nat.lt_succ_self _, fresh_notin x.i.heap x.i.heap.ds, fresh_notin x.i.heap h3⟩
    · rw [List.mem_singleton.mp hb]
      exact ⟨Nat.lt_succ_of_lt (Heap.lt_size hl), h1, h2⟩

theorem rngGo_get (a c : Int) : ∀ (n j : Nat) (m : MV), (rngGo a c n)[j]? = some m → j < n ∧ m = .int (a + j * c)
  | 0, j, m, h => by simp [rngGo] at h
  | n + 1, 0, m, h => by
    simp only [rngGo, List.getElem?_cons_zero, Option.some.injEq] at h
    subst h; exact ⟨Nat.succ_pos _, by simp⟩
  | n + 1, j + 1, m, h => by
    simp only [rngGo, List.getElem?_cons_succ] at h
    obtain ⟨h1, h2⟩ := rngGo_get (a + c) c n j m h
    refine ⟨Nat.succ_lt_succ h1, ?_⟩
    rw [h2]; congr 1
    push_cast; rw [Int.add_mul, Int.one_mul]; omega
theorem rngGo_len (a c : Int) : ∀ n : Nat, (rngGo a c n).length = n
  | 0 => rfl
  | n + 1 => by simp [rngGo, rngGo_len (a + c) c n]

theorem iter_ok {mv : MV} (O : BOk B) (x : Ok B n A W sc l mu env S s) (rv : Rd W s.heap mv v) (e : items B.T mv = some ms) (h3 : ∀ a ∈ mu', a ∈ W.no)
    (K : ItK B n A W sc l mu mu' env S s ms Q) : wpAny (Mo B) A (pyIter v) Q E s := by
  unfold items at e
  split at e
  · cases e
    simp only [Rd] at rv
    obtain ⟨ax, vs, k, rfl, q1, q2, q3, q4⟩ := rv
    exact iter_list x q2 q3 (fun z => q1 (x.i.heap.ds _ z)) (fun z => q1 (h3 _ z)) h3 K
  · cases e
    simp only [Rd] at rv
    obtain ⟨t, rfl, q1, q2⟩ := rv
    refine KBw.pyIter_bytes ?_
    obtain ⟨x', st, ap⟩ := x.pushNo (o := { cls := .type "bytes_iterator", data := .fields #[.bytes (byA _) t, .int 0 0] })
    refine K _ _ _ st x' ⟨[s.heap.objs.size], _, _, _, 0, KBw.walks x.a.handled s.heap.objs.size (byA _) t, ⟨_, Heap.get?_push_size _ rfl, rfl, rfl⟩, ?_, fun j m v e p => ?_, fun b hb => ?_, .head _⟩ ap (Nat.le_refl _)
    · rw [List.length_map, byA_size]; omega
    · obtain ⟨c, u, p1, rfl⟩ := p
      rw [List.getElem?_map] at e
      obtain ⟨k, e1, rfl⟩ := Option.map_eq_some_iff.mp e
      have hk := q1 k (List.mem_of_getElem? e1)
      have : c = k.toUInt8 := by
        have h := p1
        simp only [byA, Nat.zero_add, List.getElem?_toArray, List.getElem?_map, e1, Option.map_some, Option.some.injEq] at h
        exact h.symm
      subst this
      rw [toUInt8_toNat hk]
      exact rd_int
    · rw [Heap.size_push, List.mem_singleton.mp hb]
      exact ⟨Nat.lt_succ_self _, fresh_notin x.i.heap x.i.heap.ds, fresh_notin x.i.heap h3⟩
  · cases e
    simp only [Rd] at rv
    obtain ⟨t, rfl, q1⟩ := rv
    refine wpAny_pyIter_str fun o St w st0 => ?_
    obtain ⟨x', st, ap⟩ := x.pushNo (o := o)
    refine K _ _ _ st x' ⟨[s.heap.objs.size], _, _, _, 0, w A x.a.handled, st0, ?_, fun j m v e p => ?_, fun b hb => ?_, .head _⟩ ap (Nat.le_refl _)
    · rw [List.length_map]; simp
    · obtain ⟨c, u, p1, rfl⟩ := p
      rw [List.getElem?_map] at e
      obtain ⟨k, e1, rfl⟩ := Option.map_eq_some_iff.mp e
      simp only [Nat.zero_add, List.getElem?_toArray, e1, Option.some.injEq] at p1
      subst p1
      exact rd_str (x := [k]) (by simp)
    · rw [Heap.size_push, List.mem_singleton.mp hb]
      exact ⟨Nat.lt_succ_self _, fresh_notin x.i.heap x.i.heap.ds, fresh_notin x.i.heap h3⟩
  · rename_i d0
    simp only [Rd] at rv
    subst rv
    obtain ⟨d, e1, e2⟩ := Option.map_eq_some_iff.mp e
    subst e2
    obtain ⟨kvs, d1, d2, d3, d4, d5⟩ := O.dictK _ d e1
    have D : s.heap.DictOf (PySem.strKind B.prog B.w) d0 kvs := let ⟨o, es, ep, e, r⟩ := d1; ⟨o, es, ep, x.i.heap.keep _ _ e, r⟩
    have hlt : d0 < B.h₀.objs.size := let ⟨o, es, ep, e, r⟩ := d1; Heap.lt_size e
    have hno : ∀ a ∈ W.no, d0 ≠ a := fun a ha z => absurd (z ▸ (x.i.heap.no a ha).1) (Nat.not_le.mpr hlt)
    obtain ⟨ep, hat⟩ := D.dictAt
    have hne : d0 ≠ s.heap.objs.size := Nat.ne_of_lt (Nat.lt_of_lt_of_le hlt x.i.heap.size)
    refine wpAny_pyIter_dict d2 hat ?_
    obtain ⟨x', st, ap⟩ := x.pushNo (o := { cls := .type "dict_keyiterator", data := .fields #[.ref d0, .int 0 0, .int kvs.length 0, .int ep 0] })
    refine K _ _ _ st x' ⟨[s.heap.objs.size, d0], _, _, _, 0, Walks.dictKeys (knd := PySem.strKind B.prog B.w) x.a.handled s.heap.objs.size d0 hne kvs ep, ⟨⟨_, Heap.get?_push_size _ rfl, rfl, rfl⟩, hat.at' fun o e => Heap.get?_push_of_some _ e⟩, ?_, fun j m v e p => ?_, fun b hb => ?_, .head _⟩ ap (Nat.le_refl _)
    · rw [d3, List.length_map]; omega
    · obtain ⟨k, y, p1, p2⟩ := p
      rw [d3, List.getElem?_map] at e
      rw [Nat.zero_add] at p1
      rw [p1] at e
      cases e
      obtain ⟨t, rfl⟩ := Value.isStrOf_shape p2
      have h0 : k.length ≤ 1000 := d5 (k, y) (List.mem_of_getElem? p1)
      have e : k.cps.toList.length = k.length := by simp [PySem.Str.length]
      exact rd_str (x := k.cps.toList) (by rw [e]; omega)
    · rw [Heap.size_push]
      rcases List.mem_cons.mp hb with rfl | hb
      · exact ⟨Nat.lt_succ_self _, fresh_notin x.i.heap x.i.heap.ds, fresh_notin x.i.heap h3⟩
      · rw [List.mem_singleton.mp hb]
        exact ⟨Nat.lt_succ_of_lt (Nat.lt_of_lt_of_le hlt x.i.heap.size), fun z => hno _ (x.i.heap.ds _ z) rfl, fun z => hno _ (h3 _ z) rfl⟩
  · rename_i a b c
    split at e
    · rename_i hb
      cases e
      simp only [Rd] at rv
      obtain ⟨r, t, u, y, rfl, q1, q2⟩ := rv
      simp only [Bool.and_eq_true] at hb
      obtain ⟨⟨⟨⟨b1, b2⟩, b3⟩, b4⟩, b5⟩ := hb
      have b1 := (Z.ltB_iff _ _).mp b1
      have b2 := (Z.ltB_iff _ _).mp b2
      have b3 := (Z.ltB_iff _ _).mp b3
      have b4 := (Z.ltB_iff _ _).mp b4
      have b5 : c < 1000000 := by simpa [Nat.blt_eq] using b5
      have hc : (Int.ofNat (c + 1)) = ((c : Int) + 1) := rfl
      have hsz : Builtin.Range.rangeSize a b (Int.ofNat (c + 1)) = (rngLen a b (Int.ofNat (c + 1)) : Int) := by
        unfold Builtin.Range.rangeSize rngLen
        rw [if_pos (by rw [hc]; omega)]
        cases hab : ilt a b with
        | true =>
          have := (Z.ltB_iff _ _).mp hab
          rw [if_pos this]
          have hnn : 0 ≤ (b - a - 1) / Int.ofNat (c + 1) := Int.ediv_nonneg (by omega) (by rw [hc]; omega)
          rw [Int.fdiv_eq_ediv_of_nonneg _ (by rw [hc]; omega)]
          push_cast
          rw [Int.toNat_of_nonneg hnn]
        | false =>
          have : ¬ a < b := fun z => by rw [show ilt a b = Z.ltB a b from rfl, (Z.ltB_iff a b).mpr z] at hab; cases hab
          rw [if_neg this]; rfl
      have hle : (rngLen a b (Int.ofNat (c + 1)) : Int) ≤ 3000000000 := by
        rw [← hsz]
        unfold Builtin.Range.rangeSize
        rw [if_pos (by rw [hc]; omega)]
        split
        · have : (b - a - 1) / Int.ofNat (c + 1) ≤ b - a - 1 := Int.ediv_le_self _ (by omega)
          omega
        · decide
      have hsm : Builtin.Range.small a b (Int.ofNat (c + 1)) = true := by
        unfold Builtin.Range.small Builtin.Range.rangeFitsLong
        rw [hsz]
        generalize rngLen a b (Int.ofNat (c + 1)) = L at hle ⊢
        rw [hc]
        rw [if_pos (by omega)]
        simp only [Bool.and_eq_true, Bool.or_eq_true, decide_eq_true_eq]
        refine ⟨⟨⟨⟨?_, ?_⟩, ?_⟩, ?_⟩, .inr ?_⟩ <;> constructor <;> omega
      refine wpAny_pyIter_range q2 hsm ?_
      obtain ⟨x', st, ap⟩ := x.pushNo (o := { cls := .type "range_iterator", data := .fields #[rawInt a, rawInt (Builtin.Range.rangeSize a b (Int.ofNat (c + 1))), rawInt (Int.ofNat (c + 1))] })
      refine K _ _ _ st x' ⟨[s.heap.objs.size], _, _, _, 0, Walks.range x.a.handled s.heap.objs.size a (Int.ofNat (c + 1)) (rngLen a b (Int.ofNat (c + 1))), ?_, ?_, fun j m v e p => ?_, fun b hb => ?_, .head _⟩ ap (Nat.le_refl _)
      · have := Heap.get?_push_size s.heap (o := { cls := .type "range_iterator", data := .fields #[rawInt a, rawInt (Builtin.Range.rangeSize a b (Int.ofNat (c + 1))), rawInt (Int.ofNat (c + 1))] }) rfl
        show (s.heap.push _).get? _ = some { cls := .type "range_iterator", dict := none, data := .fields #[rawInt (a + ((0 : Nat) : Int) * Int.ofNat (c + 1)), rawInt ((rngLen a b (Int.ofNat (c + 1)) : Int) - ((0 : Nat) : Int)), rawInt (Int.ofNat (c + 1))], slots := #[] }
        rw [this, hsz]; simp
      · rw [rngGo_len]; omega
      · obtain ⟨t', rfl⟩ := p
        obtain ⟨_, rfl⟩ := rngGo_get _ _ _ _ _ e
        rw [Nat.zero_add]
        exact rd_int
      · rw [Heap.size_push, List.mem_singleton.mp hb]
        exact ⟨Nat.lt_succ_self _, fresh_notin x.i.heap x.i.heap.ds, fresh_notin x.i.heap h3⟩
    · cases e
  · cases e
end
end Mine
namespace Mine
set_option maxRecDepth 100000
open PySem PySem.W PySem.Calls PyProof.Rows

section
variable {B : Bs} {A : Around} {W W' : Wd} {S S' : Sto} {s s' : Shared} {m a b : MV} {v va vb : Value} {E : Value → Shared → Prop} {sc : Scope} {l l' : Loc} {mu mu' : List Addr} {env : Env} {h h' : Heap} {n n' : Nat} {r : Rec} {Q : Value → Shared → Prop} {I : Addr} {ms : List MV}

theorem FrOk.less (F : FrOk W sc l mu env h) (i : ∀ x v, lk x l' = some v → lk x l = some v) : FrOk W sc l' mu env h := by
  obtain ⟨m, hn, hm⟩ := F.m
  refine ⟨F.kind, F.gl, F.bl, F.names, ⟨m, hn, fun x v e k => hm x v (i x v e) k⟩, fun x k => ?_, F.L, F.inj, fun x xs e => F.own x xs (i x _ e), F.mu⟩
  obtain ⟨c, v0, c1, c2, c3, c5⟩ := F.cell x k
  exact ⟨c, v0, c1, c2, c3, fun v e => c5 v (i x v e)⟩
theorem Ok.forget (x : Ok B n A W sc l mu env S s) (i : ∀ x v, lk x l' = some v → lk x l = some v) : Ok B n A W sc l' mu env S s := ⟨x.a, x.f.less i, x.i, x.t⟩

theorem AOk.turn {a : Addr} (x : AOk n A W h) (sb : Heap.SameBut a h h') (no : ∀ o, h.get? a = some o → (∃ es ep, o.data = .dict es ep) → ∃ o', h'.get? a = some o' ∧ ∃ es ep, o'.data = .dict es ep) : AOk n A W h' := by
  obtain ⟨fs, h1, h2⟩ := x.fr
  refine ⟨x.handled, x.guards, x.depth, x.units, fs, h1, fun e he => ?_⟩
  obtain ⟨k, L, o, g1, g2, g3, g4, g5⟩ := h2 e he
  by_cases hL : L = a
  · subst hL
    obtain ⟨o', q1, q2⟩ := no o g4 g5
    exact ⟨k, L, o', g1, g2, g3, q1, q2⟩
  · exact ⟨k, L, o, g1, g2, g3, (sb.2 L hL).trans g4, g5⟩

theorem store_local {A2 : Around} {x : Str} {Q : Unit → Shared → Prop} (X : Ok B n A W sc l mu env S s) (hk : env.kindOf x = some .local) (rv : RdF W s.heap mu m v) (ho : ∀ xs, m = .own xs → x = rowsName ∧ env.kindOf x = some .local)
    (k : ∀ s', Step [env.locals] W s.heap W s'.heap → (∀ a o, a ∉ [env.locals] → s.heap.get? a = some o → s'.heap.get? a = some o) → (∀ a vs n, s.heap.get? a = some (listObj vs n) → s'.heap.get? a = some (listObj vs n)) → Ok B n A W sc (put x m l) mu env S s' → Q () s') :
    wpAny (Mo B) A2 (storeName env x v) Q E s := by
  have F := X.f
  obtain ⟨mm, hn, hm⟩ := F.m
  have own' : ∀ y xs, lk y (put x m l) = some (.own xs) → y = rowsName ∧ env.kindOf y = some .local := fun y xs e => by
    rw [lk_put] at e
    by_cases hy : y = x
    · rw [if_pos hy] at e
      rw [hy]; exact ho xs (Option.some.inj e)
    · rw [if_neg hy] at e
      exact F.own y xs e
  refine wpAny_more (wpAny_storeName_local hk hn (fun h' hn' hsb hs ht => ?_) (by rw [F.kind]; rfl))
  have kp : ∀ a o, a ∉ [env.locals] → s.heap.get? a = some o → h'.get? a = some o := fun a o n e => hsb.extBut a o (by simpa using n) e
  obtain ⟨H, st⟩ := X.i.heap.kept kp (fun a e => by rw [List.mem_singleton.mp e]; exact F.mu _ F.L) hs
  have sees := st.sees X.i.heap.ds (fun a e => .inl (by rw [List.mem_singleton.mp e]; exact (F.mu _ F.L).1))
  have lst : ∀ a vs n, s.heap.get? a = some (listObj vs n) → h'.get? a = some (listObj vs n) := fun a vs n e => by
    refine hsb.extBut a _ (fun z => ?_) e
    subst z
    obtain ⟨o, es, ep, ho, hd, _⟩ := hn
    rw [ho] at e; cases e; cases hd
  have mv : ∀ {m v}, RdF W s.heap mu m v → RdF W h' mu m v := fun r => r.move sees (fun _ e => e) (fun a _ vs n e => lst a vs n e)
  refine k _ st kp lst ⟨X.a.turn hsb ?_, ⟨F.kind, F.gl, F.bl, F.names, ⟨_, hn', fun y w e ky => ?_⟩, fun y ky => ?_, F.L, F.inj, own', F.mu⟩, ⟨H, X.i.gens, X.i.os⟩, Nat.le_trans X.t ht⟩
  · obtain ⟨o, es, ep, ho, hd, _⟩ := hn'
    exact fun _ _ _ => ⟨o, ho, es, ep, hd⟩
  · rw [lk_put] at e
    by_cases hy : y = x
    · rw [if_pos hy] at e; cases e
      exact ⟨v, if_pos hy, mv rv⟩
    · rw [if_neg hy] at e
      obtain ⟨z, z1, z2⟩ := hm y w e ky
      exact ⟨z, (if_neg hy).trans z1, mv z2⟩
  · obtain ⟨c, v0, c1, ⟨o, ho, hd⟩, c3, c5⟩ := F.cell y ky
    refine ⟨c, v0, c1, ⟨o, hsb.extBut c o (fun z => ?_) ho, hd⟩, c3, fun w e => ?_⟩
    · subst z
      obtain ⟨o', es, ep, ho', hd', _⟩ := hn
      rw [ho] at ho'; cases ho'; rw [hd] at hd'; cases hd'
    · rw [lk_put] at e
      by_cases hy : y = x
      · rw [hy, hk] at ky; cases ky
      · rw [if_neg hy] at e
        obtain ⟨z, z1, z2⟩ := c5 w e
        exact ⟨z, z1, mv z2⟩

/-- a name is bound anew -/
theorem store_ok {A2 : Around} {x : Str} {Q : Unit → Shared → Prop} (X : Ok B n A W sc l mu env S s) (hk : env.kindOf x = some .local ∨ env.kindOf x = some .cell) (rv : RdF W s.heap mu m v) (ho : ∀ xs, m = .own xs → x = rowsName ∧ env.kindOf x = some .local)
    (k : ∀ s' ks, (∀ a ∈ ks, a ∈ mu) → Step ks W s.heap W s'.heap → (∀ a o, a ∉ ks → s.heap.get? a = some o → s'.heap.get? a = some o) → (∀ a vs n, s.heap.get? a = some (listObj vs n) → s'.heap.get? a = some (listObj vs n)) → Ok B n A W sc (put x m l) mu env S s' → Q () s') :
    wpAny (Mo B) A2 (storeName env x v) Q E s := by
  have F := X.f
  obtain ⟨mm, hn, hm⟩ := F.m
  have own' : ∀ y xs, lk y (put x m l) = some (.own xs) → y = rowsName ∧ env.kindOf y = some .local := fun y xs e => by
    rw [lk_put] at e
    by_cases hy : y = x
    · rw [if_pos hy] at e
      rw [hy]; exact ho xs (Option.some.inj e)
    · rw [if_neg hy] at e
      exact F.own y xs e
  rcases hk with hk | hk
  · exact store_local X hk rv ho fun s' st kp lst x' => k s' [env.locals] (fun a e => by rw [List.mem_singleton.mp e]; exact F.L) st kp lst x'
  · obtain ⟨c, v0, c1, c2, c3, c5⟩ := F.cell x hk
    refine wpAny_more (wpAny_storeName_cell F.kind hk c1 c2 fun h' hc hsb hs ht => ?_)
    have kp : ∀ a o, a ∉ [c] → s.heap.get? a = some o → h'.get? a = some o := fun a o n e => hsb.extBut a o (by simpa using n) e
    obtain ⟨H, st⟩ := X.i.heap.kept kp (fun a e => by rw [List.mem_singleton.mp e]; exact F.mu _ c3) hs
    have sees := st.sees X.i.heap.ds (fun a e => .inl (by rw [List.mem_singleton.mp e]; exact (F.mu _ c3).1))
    have lst : ∀ a vs n, s.heap.get? a = some (listObj vs n) → h'.get? a = some (listObj vs n) := fun a vs n e => by
      refine hsb.extBut a _ (fun z => ?_) e
      subst z
      obtain ⟨o, ho, hd⟩ := c2
      rw [ho] at e; cases e; cases hd
    have mv : ∀ {m v}, RdF W s.heap mu m v → RdF W h' mu m v := fun r => r.move sees (fun _ e => e) (fun a _ vs n e => lst a vs n e)
    refine k _ [c] (fun a e => by rw [List.mem_singleton.mp e]; exact c3) st kp lst ⟨X.a.turn hsb ?_, ⟨F.kind, F.gl, F.bl, F.names, ⟨mm, hn.at' fun o e => ?_, fun y w e ky => ?_⟩, fun y ky => ?_, F.L, F.inj, own', F.mu⟩, ⟨H, X.i.gens, X.i.os⟩, Nat.le_trans X.t ht⟩
    · obtain ⟨o2, ho2, hd2⟩ := c2
      exact fun o e q => by
        obtain ⟨es, ep, q⟩ := q
        rw [ho2] at e; cases e; rw [hd2] at q; cases q
    · refine hsb.extBut _ o (fun z => ?_) e
      obtain ⟨o', es, ep, ho', hd', _⟩ := hn
      obtain ⟨o2, ho2, hd2⟩ := c2
      rw [z, ho2] at ho'; cases ho'; rw [hd2] at hd'; cases hd'
    · rw [lk_put] at e
      by_cases hy : y = x
      · rw [hy, hk] at ky; cases ky
      · rw [if_neg hy] at e
        obtain ⟨z, z1, z2⟩ := hm y w e ky
        exact ⟨z, z1, mv z2⟩
    · by_cases hy : y = x
      · subst hy
        refine ⟨c, some v, c1, hc, c3, fun w e => ?_⟩
        rw [lk_put, if_pos rfl] at e; cases e
        exact ⟨v, rfl, mv rv⟩
      · obtain ⟨c', v0', c1', ⟨o, ho, hd⟩, c3', c5'⟩ := F.cell y ky
        refine ⟨c', v0', c1', ⟨o, hsb.extBut c' o (fun z => hy (F.inj y x c ky hk (z ▸ c1') c1)) ho, hd⟩, c3', fun w e => ?_⟩
        rw [lk_put, if_neg hy] at e
        obtain ⟨z, z1, z2⟩ := c5' w e
        exact ⟨z, z1, mv z2⟩
end
end Mine
namespace Mine
set_option maxRecDepth 100000
open PySem PySem.W PySem.Calls PyProof.Rows

section
variable {B : Bs} {A : Around} {W W' : Wd} {S S' : Sto} {s s' : Shared} {m a b : MV} {v va vb : Value} {E : Value → Shared → Prop} {sc : Scope} {l l' : Loc} {mu mu' : List Addr} {env : Env} {h h' : Heap} {n n' : Nat} {r : Rec} {Q : Value → Shared → Prop} {I D : Addr} {ms : List MV}

theorem tests_nil {Q : Bool → Shared → Prop} {f : Expr → Bool → Sem (ForInStep Bool)} (h : Q true s) : wpAny (Mo B) A (forIn ([] : List Expr) true f) Q E s := wpAny_pure h
/-- the list under way -/
structure AccAt (W : Wd) (h : Heap) (mu : List Addr) (D : Addr) (ms : List MV) : Prop where
  pl : ∃ ys n, h.get? D = some (listObj ys n) ∧ RdL W h ms ys
  no : D ∈ W.no
  ds : D ∉ W.ds
  mu : D ∉ mu

theorem AccAt.step {ks : List Addr} (x : AccAt W h mu D ms) (H : HeapOk B W S h) (st : Step ks W h W' h') (hk : ∀ a ∈ ks, a ∈ W.no) (hD : D ∉ ks) : AccAt W' h' mu D ms := by
  obtain ⟨⟨ys, n, e, rs⟩, h2, h3, h4⟩ := x
  refine ⟨⟨ys, n, st.keep D _ h3 hD e, RdL.sees (st.sees H.ds (fun a q => .inl (hk a q))) rs⟩, ?_, ds_stay st e h3, h4⟩
  rcases st.no D h2 (H.no D h2).2 with q | q
  · exact q
  · exact absurd q hD

structure LoopAt (B : Bs) (n : Nat) (A : Around) (sc : Scope) (l0 : Loc) (mu : List Addr) (env : Env) (I D : Addr) (W0 : Wd) (h0 : Heap) (W : Wd) (S : Sto) (s : Shared) (ms acc : List MV) : Prop where
  ok : Ok B n A W sc l0 mu env S s
  it : IterAt B A W (D :: mu) s.heap I ms
  acc : AccAt W s.heap mu D acc
  st : Step [I, D, env.locals] W0 h0 W s.heap

theorem append_ok {y : Value} {acc : List MV} {Q : Value → Shared → Prop} (X : Ok B n A W sc l mu env S s) (ac : AccAt W s.heap mu D acc) (ry : Rd W s.heap m y) (hz : acc.length ≤ 1000000) (ap : Apart A [D])
    (k : ∀ v s', Step [D] W s.heap W s'.heap → Ok B n A W sc l mu env S s' → AccAt W s'.heap mu D (acc ++ [m]) → Q v s') : wpAny (Mo B) A (call (.builtin "list.append") [.ref D, y]) Q E s := by
  obtain ⟨⟨ys, nn, e, rs⟩, h2, h3, h4⟩ := ac
  have hlen := RdL.length rs
  refine wpAny_more (wpAny_list_append_plain (items := ys.toArray) (hsz := by rw [List.size_toArray, hlen, sizeLine_eq]; omega) ⟨_, e⟩ fun h5 hl5 hs5 hs ht => ?_)
  have kp : ∀ a o, a ∉ [D] → s.heap.get? a = some o → h5.get? a = some o := fun a o n e => hs5.extBut a o (by simpa using n) e
  obtain ⟨X', st⟩ := X.kept (k := s.toks) kp (fun a e => by rw [List.mem_singleton.mp e]; exact ⟨h2, h3, h4⟩) hs ap X.t
  have sees := st.sees X.i.heap.ds (fun a e => .inl (by rw [List.mem_singleton.mp e]; exact h2))
  obtain ⟨n5, e5⟩ := hl5
  refine k _ _ st X' ⟨⟨ys ++ [y], n5, ?_, RdL.append (RdL.sees sees rs) ?_⟩, h2, h3, h4⟩
  · rw [show ys.toArray.push y = (ys ++ [y]).toArray by simp] at e5
    exact e5
  · simp only [RdL]; exact ⟨y, [], rfl, ry.sees sees, rfl⟩

theorem compLoop_ok (H : EvOk B r n) (HT : TrOk B r n) {elt iter : Expr} {x : Str} {px pos : Pos} {ifs : List Expr} {csc scope : Scope} {l0 : Loc} {W0 : Wd} {h0 : Heap} {ms rs : List MV} {R : Result → Shared → Prop}
    {test : Option (Loc → Sto → Option (Bool × Sto))} (htest : (ifs = [] ∧ test = none) ∨ (∃ c, ifs = [c] ∧ test = some fun l' s' => r.tr csc l' s' c))
    (hx : env.kindOf x = some .local) (hl0 : lk x l0 = none) (apI : Apart A [I]) (apD : Apart A [D])
    (h : compGo test (fun l' s' => r.ev csc l' s' elt) x l0 ms S = some (rs, S')) (hz : ms.length ≤ 1000000)
    (L : LoopAt B n A csc l0 mu env I D W0 h0 W S s ms [])
    (k : ∀ s' W', Step [I, D, env.locals] W0 h0 W' s'.heap → Ok B n A W' csc l0 mu env S' s' → AccAt W' s'.heap mu D rs → R (.ok .next) s') :
    codeAny (Mo B) A (.compLoop (.ListComp elt [⟨.Name x px, iter, ifs, 0⟩] scope pos) 0 (.ref I) (.ref D) env) R s := by
  refine codeAny_compLoop_tests (fun j s1 => ∃ W1 S1 ms1 acc1 rs1, j = ms1.length ∧ LoopAt B n A csc l0 mu env I D W0 h0 W1 S1 s1 ms1 acc1 ∧ compGo test (fun l' s' => r.ev csc l' s' elt) x l0 ms1 S1 = some (rs1, S') ∧ acc1 ++ rs1 = rs ∧ acc1.length + ms1.length ≤ 1000000) ?_ ms.length
    ⟨W, S, ms, [], rs, rfl, L, h, rfl, by simpa using hz⟩
  rintro j s1 ⟨W1, S1, ms1, acc1, rs1, rfl, L1, h1, ha, hz1⟩
  have hmu : ∀ a ∈ D :: mu, a ∈ W1.no := fun a e => by
    rcases List.mem_cons.mp e with rfl | e
    · exact L1.acc.no
    · exact (L1.ok.f.mu a e).1
  have hIn := L1.it.inFp
  have hIm : I ∉ mu := fun e => hIn.2.2.1 (.tail _ e)
  have hID : I ≠ D := fun e => hIn.2.2.1 (by rw [e]; exact .head _)
  cases ms1 with
  | nil =>
    simp only [compGo, Option.some.injEq, Prod.mk.injEq] at h1
    obtain ⟨rfl, rfl⟩ := h1
    rw [List.append_nil] at ha
    subst ha
    refine done_ok L1.it L1.ok hIm apI fun s2 st2 x2 => ?_
    refine k s2 W1 (L1.st.comp st2 fun a e => .inl (by rw [List.mem_singleton.mp e]; exact .head _)) x2 ?_
    exact L1.acc.step L1.ok.i.heap st2 (fun a e => by rw [List.mem_singleton.mp e]; exact hIn.2.2.2) (by simpa using hID.symm)
  | cons m0 ms2 =>
    refine next_ok L1.it L1.ok hIm apI fun v s2 st2 x2 rv it2 => ?_
    have acc2 : AccAt W1 s2.heap mu D acc1 := L1.acc.step L1.ok.i.heap st2 (fun a e => by rw [List.mem_singleton.mp e]; exact hIn.2.2.2) (by simpa using hID.symm)
    have st02 : Step [I, D, env.locals] W0 h0 W1 s2.heap := L1.st.comp st2 fun a e => .inl (by rw [List.mem_singleton.mp e]; exact .head _)
    refine wpAny_assign_Name (store_local x2 hx (RdF.of_rd rv) (fun xs e => by subst e; simp only [Rd] at rv) fun s3 st3 kp3 lst3 x3 => ?_)
    have hks : ∀ a ∈ [env.locals], a ∈ mu := fun a e => by rw [List.mem_singleton.mp e]; exact x2.f.L
    have it3 : IterAt B A W1 (D :: mu) s3.heap I ms2 := it2.step x2.i.heap hmu (st3.weaken fun a e => .inl (.tail _ (hks a e))) (fun a e => .inl e)
    have acc3 : AccAt W1 s3.heap mu D acc1 := acc2.step x2.i.heap st3 (fun a e => (x2.f.mu a (hks a e)).1) (fun e => acc2.mu (hks _ e))
    have st03 : Step [I, D, env.locals] W0 h0 W1 s3.heap := st02.comp st3 fun a e => .inl (.tail _ (.tail _ e))
    have x3' : Ok B n A W1 csc ((x, m0) :: l0) mu env S1 s3 := x3.forget fun y w e => by
      rw [lk_put]
      unfold lk at e
      cases hq : seq y x with
      | true => rw [hq] at e; rw [if_pos (seq_iff.mp hq)]; exact e
      | false => rw [hq] at e; rw [if_neg (seq_ne hq)]; exact e
    have back : ∀ {W s S}, Ok B n A W csc ((x, m0) :: l0) mu env S s → Ok B n A W csc l0 mu env S s := fun q => q.forget fun y w e => by
      unfold lk
      cases hq : seq y x with
      | true => rw [seq_iff.mp hq, hl0] at e; cases e
      | false => exact e
    -- the rest of a turn, once the test has spoken
    have rest : ∀ (c : Bool) (W4 : Wd) (S4 : Sto) (s4 : Shared) (E : Value → Shared → Prop), Step [] W1 s3.heap W4 s4.heap → Ok B n A W4 csc ((x, m0) :: l0) mu env S4 s4 →
        (match c with
          | true => (r.ev csc ((x, m0) :: l0) S4 elt).bind fun p => (compGo test (fun l' s' => r.ev csc l' s' elt) x l0 ms2 p.2).bind fun q => some (p.1 :: q.1, q.2)
          | false => compGo test (fun l' s' => r.ev csc l' s' elt) x l0 ms2 S4) = some (rs1, S') →
        (if c = true then wpAny (Mo B) A (eval elt env) (fun y s5 => wpAny (Mo B) A (call (.builtin "list.append") [.ref D, y]) (fun _ s6 => ∃ j, j < (m0 :: ms2).length ∧ ∃ W1 S1 ms1 acc1 rs1, j = ms1.length ∧ LoopAt B n A csc l0 mu env I D W0 h0 W1 S1 s6 ms1 acc1 ∧ compGo test (fun l' s' => r.ev csc l' s' elt) x l0 ms1 S1 = some (rs1, S') ∧ acc1 ++ rs1 = rs ∧ acc1.length + ms1.length ≤ 1000000) E s5) E s4
         else ∃ j, j < (m0 :: ms2).length ∧ ∃ W1 S1 ms1 acc1 rs1, j = ms1.length ∧ LoopAt B n A csc l0 mu env I D W0 h0 W1 S1 s4 ms1 acc1 ∧ compGo test (fun l' s' => r.ev csc l' s' elt) x l0 ms1 S1 = some (rs1, S') ∧ acc1 ++ rs1 = rs ∧ acc1.length + ms1.length ≤ 1000000) := by
      intro c W4 S4 s4 E st4 x4 hg
      have it4 : IterAt B A W4 (D :: mu) s4.heap I ms2 := it3.step x3.i.heap hmu (st4.weaken fun a e => nomatch e) (fun a e => .inl e)
      have acc4 : AccAt W4 s4.heap mu D acc1 := acc3.step x3.i.heap st4 (fun a e => nomatch e) (fun e => nomatch e)
      have st04 : Step [I, D, env.locals] W0 h0 W4 s4.heap := st03.comp st4 fun a e => nomatch e
      have hmu4 : ∀ a ∈ D :: mu, a ∈ W4.no := fun a e => by
        rcases List.mem_cons.mp e with rfl | e
        · exact acc4.no
        · exact (x4.f.mu a e).1
      have hlen : (m0 :: ms2).length = ms2.length + 1 := rfl
      rw [hlen] at hz1
      cases c with
      | false =>
        rw [if_neg (by decide)]
        exact ⟨ms2.length, Nat.lt_succ_self _, W4, S4, ms2, acc1, rs1, rfl, ⟨back x4, it4, acc4, st04⟩, hg, ha, by omega⟩
      | true =>
        rw [if_pos rfl]
        obtain ⟨p1, g1, g2⟩ := Option.bind_eq_some_iff.mp hg
        obtain ⟨q1, g3, g4⟩ := Option.bind_eq_some_iff.mp g2
        cases g4
        refine H g1 x4 fun y s5 W5 st5 x5 r5 => ?_
        have it5 : IterAt B A W5 (D :: mu) s5.heap I ms2 := it4.step x4.i.heap hmu4 (st5.weaken fun a e => nomatch e) (fun a e => .inl e)
        have acc5 : AccAt W5 s5.heap mu D acc1 := acc4.step x4.i.heap st5 (fun a e => nomatch e) (fun e => nomatch e)
        have st05 : Step [I, D, env.locals] W0 h0 W5 s5.heap := st04.comp st5 fun a e => nomatch e
        have hmu5 : ∀ a ∈ D :: mu, a ∈ W5.no := fun a e => by
          rcases List.mem_cons.mp e with rfl | e
          · exact acc5.no
          · exact (x5.f.mu a e).1
        refine append_ok x5 acc5 r5 (by omega) apD fun v6 s6 st6 x6 acc6 => ?_
        refine ⟨ms2.length, Nat.lt_succ_self _, W5, p1.2, ms2, acc1 ++ [p1.1], q1.1, rfl, ⟨back x6, it5.step x5.i.heap hmu5 (st6.weaken fun a e => .inl (by rw [List.mem_singleton.mp e]; exact .head _)) (fun a e => .inl e), acc6, st05.comp st6 fun a e => .inl (by rw [List.mem_singleton.mp e]; exact .tail _ (.head _))⟩, g3, by rw [List.append_assoc]; exact ha, by rw [List.length_append]; simp; omega⟩
    rcases htest with ⟨rfl, rfl⟩ | ⟨c, rfl, rfl⟩
    · refine tests_nil ?_
      simp only [compGo, Option.bind_some] at h1
      exact rest true W1 S1 s3 _ (.refl _ _ _) x3' h1
    · refine wpAny_tests_one ?_
      simp only [compGo] at h1
      obtain ⟨⟨c', S4⟩, g1, g2⟩ := Option.bind_eq_some_iff.mp h1
      exact HT g1 x3' fun s4 W4 st4 x4 => rest c' W4 S4 s4 _ st4 x4 g2
end
end Mine
namespace Mine
set_option maxRecDepth 100000
open PySem PySem.W PySem.Calls PyProof.Rows

section
variable {B : Bs} {A : Around} {W W' : Wd} {S S' : Sto} {s s' : Shared} {m a b : MV} {v va vb : Value} {E : Value → Shared → Prop} {sc csc : Scope} {l l' l0 : Loc} {mu mu' ks : List Addr} {env : Env} {h h' : Heap} {n n' : Nat} {r : Rec} {Q : Value → Shared → Prop} {I D C : Addr} {ms rs : List MV}

theorem FrOk.step {ks : List Addr} (F : FrOk W sc l mu env h) (H : HeapOk B W S h) (st : Step ks W h W' h') (hk : ∀ a ∈ ks, a ∈ W.no ∨ h.objs.size ≤ a) (d : ∀ a ∈ mu, a ∉ ks) : FrOk W' sc l mu env h' :=
  F.move (st.sees H.ds hk) (fun a e o q => st.keep a o (F.mu a e).2 (d a e) q) (fun a e => ⟨(st.no a (F.mu a e).1 (H.no a (F.mu a e).1).2).resolve_right (d a e), ds_stay' H st (F.mu a e).1 (F.mu a e).2⟩)
theorem AOk.step {ks : List Addr} (x : AOk n A W h) (H : HeapOk B W S h) (st : Step ks W h W' h') (ap : Apart A ks) : AOk n A W' h' := by
  obtain ⟨fs, h1, h2⟩ := x.fr
  refine ⟨x.handled, x.guards, x.depth, x.units, fs, h1, fun e he => ?_⟩
  obtain ⟨k, L, o, g1, g2, g3, g4, g5⟩ := h2 e he
  exact ⟨k, L, o, g1, (st.no L g2 (H.no L g2).2).resolve_right (ap fs h1 e he L g1), ds_stay' H st g2 g3, st.keep L o g3 (ap fs h1 e he L g1) g4, g5⟩

/-- the frame of a comprehension -/
theorem comp_frame {x : Str} (F₀ : FrOk W sc l mu env h) (hl : compLoc csc.names sc x l = some l0) (hk : isFun csc.kind = true) :
    ∃ cl, closureFor csc env = pure cl ∧ (∀ y ∈ csc.names, y.2 ≠ .cell) ∧ csc.kind = .function ∧ (∀ y ∈ csc.names, y.2 = .local → csc.names.lookup y.1 = some .local) ∧
      (∀ C, (compEnvC csc cl C env).kindOf x = some .local) ∧ lk x l0 = none ∧ (∀ c ∈ cl.map (·.2), c ∈ mu ∧ ∃ v0, h.IsCell c v0) ∧
      ∀ {W' : Wd} {h' : Heap} {C : Addr}, FrOk W' sc l mu env h' → (h'.Ns C fun _ => none) → C ∈ W'.no ∧ C ∉ W'.ds → FrOk W' csc l0 (C :: cl.map (·.2)) (compEnvC csc cl C env) h' := by
  have hkf : csc.kind = .function := by revert hk; cases csc.kind <;> simp [isFun]
  obtain ⟨kind, names, g1, g2, more⟩ := csc
  dsimp only at hkf hl ⊢
  subst hkf
  unfold compLoc at hl
  split at hl
  · rename_i a y
    split at hl
    · rename_i hb
      simp only [Bool.and_eq_true, Bool.not_eq_true'] at hb
      obtain ⟨b1, b2⟩ := hb
      have b1 := seq_iff.mp b1
      have b2 := seq_ne b2
      subst b1
      cases hl
      refine ⟨[], rfl, by simp, rfl, ?_, fun C => ?_, rfl, (fun _ e => nomatch e), fun {W' h' C} F hn hC => ⟨rfl, F.gl, F.bl, fun z k e => ?_, ⟨_, hn, fun z w e => by cases e⟩, fun z e => ?_, .head _, fun z w c e => ?_, (fun z xs e => by cases e), fun q e => by rw [List.mem_singleton.mp e]; exact hC⟩⟩
      · intro z hz hzl
        simp only [List.mem_cons, List.not_mem_nil, or_false] at hz
        rcases hz with rfl | rfl
        · simp
        · show List.lookup y [(a, NameKind.local), (y, NameKind.local)] = _
          rw [List.lookup_cons]; cases (y == a) <;> simp
      · show List.lookup y [(a, NameKind.local), (y, NameKind.local)] = _
        rw [List.lookup_cons]; cases (y == a) <;> simp
      · rw [lk_eq] at e
        show KindOk _ z k
        have hkk : k = .local := by
          simp only [List.lookup_cons, List.lookup_nil] at e
          cases h1 : z == a <;> rw [h1] at e
          · cases h2 : z == y <;> rw [h2] at e
            · cases e
            · exact (Option.some.inj e).symm
          · exact (Option.some.inj e).symm
        subst hkk
        exact e
      · exfalso
        have e' : List.lookup z [(a, NameKind.local), (y, NameKind.local)] = some .cell := e
        simp only [List.lookup_cons, List.lookup_nil] at e'
        cases h1 : z == a <;> rw [h1] at e' <;> (try cases e')
        cases h2 : z == y <;> rw [h2] at e' <;> cases e'
      · exfalso
        have e' : List.lookup z [(a, NameKind.local), (y, NameKind.local)] = some .cell := e
        simp only [List.lookup_cons, List.lookup_nil] at e'
        cases h1 : z == a <;> rw [h1] at e' <;> (try cases e')
        cases h2 : z == y <;> rw [h2] at e' <;> cases e'
    · cases hl
  · rename_i a y f
    split at hl
    · rename_i hb
      simp only [Bool.and_eq_true, Bool.not_eq_true'] at hb
      obtain ⟨⟨⟨b1, b2⟩, b3⟩, b4⟩ := hb
      have b1 := seq_iff.mp b1
      have b2 := seq_ne b2
      have b3 := seq_ne b3
      have b4 := seq_ne b4
      subst b1
      split at hl
      · cases hl
      · rename_i v hnv hf hv
        cases hl
        have hkf : env.kindOf f = some .cell := F₀.names f _ hf
        obtain ⟨c, v00, c1, c20, c30, _⟩ := F₀.cell f hkf
        have hcl : closureFor { kind := .function, names := [(a, .local), (y, .local), (f, .free)], isGenerator := g1, isCoroutine := g2, more := more } env = pure [(f, c)] := by
          have h2 : cellOf env f = pure c := by unfold cellOf; rw [c1]
          unfold closureFor
          simp only [List.forIn_cons, List.forIn_nil, h2]
          rfl
        have hrel : ∀ C, (compEnvC { kind := .function, names := [(a, .local), (y, .local), (f, .free)], isGenerator := g1, isCoroutine := g2, more := more } [(f, c)] C env).scope.names = [(a, .local), (y, .local), (f, .cell)] := by
          intro C
          show List.map _ _ = _
          simp only [List.map_cons, List.map_nil]
          rw [F₀.kind, hkf]; rfl
        have hko : ∀ C z, (compEnvC { kind := .function, names := [(a, .local), (y, .local), (f, .free)], isGenerator := g1, isCoroutine := g2, more := more } [(f, c)] C env).kindOf z = List.lookup z [(a, .local), (y, .local), (f, .cell)] := fun C z => by
          unfold Env.kindOf; rw [hrel]
        have hcell : ∀ C z, (compEnvC { kind := .function, names := [(a, .local), (y, .local), (f, .free)], isGenerator := g1, isCoroutine := g2, more := more } [(f, c)] C env).kindOf z = some .cell → z = f := fun C z e => by
          rw [hko] at e
          simp only [List.lookup_cons, List.lookup_nil] at e
          cases h1 : z == a <;> rw [h1] at e <;> (try cases e)
          cases h2 : z == y <;> rw [h2] at e <;> (try cases e)
          cases h3 : z == f <;> rw [h3] at e
          · cases e
          · exact beq_iff_eq.mp h3
        refine ⟨[(f, c)], hcl, by simp, rfl, ?_, fun C => ?_, ?_, fun q e => ?_, fun {W' h' C} F hn hC => ⟨rfl, F.gl, F.bl, fun z k e => ?_, ⟨_, hn, fun z w e ek => ?_⟩, fun z e => ?_, .head _, fun z w d e1 e2 _ _ => (hcell C z e1).trans (hcell C w e2).symm, fun z xs e => ?_, fun q e => ?_⟩⟩
        · intro z hz hzl
          simp only [List.mem_cons, List.not_mem_nil, or_false] at hz
          rcases hz with rfl | rfl | rfl
          · simp
          · show List.lookup y [(a, NameKind.local), (y, NameKind.local), (f, NameKind.free)] = _
            rw [List.lookup_cons]; cases (y == a) <;> simp
          · cases hzl
        · rw [hko, List.lookup_cons]; cases (y == a) <;> simp
        · show lk y [(f, v)] = none
          unfold lk
          cases hq : seq y f with
          | true => exact absurd (seq_iff.mp hq).symm b3
          | false => rfl
        · rw [List.mem_singleton.mp e]; exact ⟨c30, v00, c20⟩
        · rw [lk_eq] at e
          have e : List.lookup z [(a, NameKind.local), (y, .local), (f, .free)] = some k := e
          have := hko C z
          unfold KindOk
          rw [this]
          simp only [List.lookup_cons, List.lookup_nil] at e ⊢
          cases h1 : z == a <;> rw [h1] at e <;> dsimp only at e ⊢
          · cases h2 : z == y <;> rw [h2] at e <;> dsimp only at e ⊢
            · cases h3 : z == f <;> rw [h3] at e <;> dsimp only at e ⊢
              · cases e
              · cases e; rfl
            · cases e; rfl
          · cases e; rfl
        · exfalso
          unfold lk at e
          cases hq : seq z f with
          | true =>
            have := seq_iff.mp hq
            subst this
            rw [hko] at ek
            simp only [List.lookup_cons, List.lookup_nil] at ek
            rw [beq_eq_false_iff_ne.mpr b4, beq_eq_false_iff_ne.mpr b3] at ek
            simp at ek
          | false => rw [hq] at e; cases e
        · have := hcell C z e
          subst this
          obtain ⟨c', v0, c1', c2, c3, c5⟩ := F.cell z hkf
          rw [c1] at c1'
          cases c1'
          obtain ⟨y0, rfl, y2⟩ := c5 v hv
          refine ⟨c, some y0, by simp [compEnvC], c2, .tail _ (.head _), fun w e => ?_⟩
          unfold lk at e
          rw [seq_self] at e
          cases e
          refine ⟨y0, rfl, ?_⟩
          cases v <;> first | exact y2 | exact absurd rfl (hnv _)
        · unfold lk at e
          cases hq : seq z f with
          | true => rw [hq] at e; cases e; exact absurd rfl (hnv _)
          | false => rw [hq] at e; cases e
        · rcases List.mem_cons.mp e with rfl | e
          · exact hC
          · rw [List.mem_singleton.mp e]; exact F.mu c c30
      · cases hl
    · cases hl
  · cases hl
end
end Mine
namespace Mine
set_option maxRecDepth 100000
open PySem PySem.W PySem.Calls PyProof.Rows

section
variable {B : Bs} {A : Around} {W W' : Wd} {S S' : Sto} {s s' : Shared} {m a b : MV} {v va vb : Value} {E : Value → Shared → Prop} {sc csc : Scope} {l l' l0 : Loc} {mu mu' ks : List Addr} {env : Env} {h h' : Heap} {n n' : Nat} {r : Rec} {Q : Value → Shared → Prop} {I D C : Addr} {ms rs : List MV}

/-- a loop's source: its value, and the iterator over it -/
theorem source_ok (O : BOk B) (H : EvOk B r n) {e : Expr} (h : source B.T l e (r.ev sc l) S = some (ms, S')) (X : Ok B n A W sc l mu env S s)
    (h1 : ∀ a ∈ mu', a ∈ mu) (h2 : ∀ a ∈ mu', ∀ vs k, s.heap.get? a ≠ some (listObj vs k)) (h4 : ∀ a ∈ mu', ∃ o, s.heap.get? a = some o)
    (K : ∀ I s' W', Step [] W s.heap W' s'.heap → Ok B n A W' sc l mu env S' s' → IterAt B A W' mu' s'.heap I ms → Apart A [I] → s.heap.objs.size ≤ I → I ∉ mu → Q (.ref I) s') :
    wpAny (Mo B) A (eval e env) (fun v s1 => wpAny (Mo B) A (pyIter v) Q E s1) E s := by
  have gen : ∀ {p : MV × Sto}, r.ev sc l S e = some p → (items B.T p.1).map (fun xs => (xs, p.2)) = some (ms, S') → wpAny (Mo B) A (eval e env) (fun v s1 => wpAny (Mo B) A (pyIter v) Q E s1) E s := by
    intro p g1 g2
    obtain ⟨xs, g3, g4⟩ := Option.map_eq_some_iff.mp g2
    cases g4
    refine H g1 X fun v s1 W1 st1 x1 r1 => ?_
    refine iter_ok O x1 r1 g3 (fun a ha => (x1.f.mu a (h1 a ha)).1) fun I s2 W2 st2 x2 it ap hle => ?_
    exact K I s2 W2 (st1.trans st2) x2 it ap (Nat.le_trans st1.size hle) (fun hm => absurd (x1.i.heap.no I (x1.f.mu I hm).1).2 (Nat.not_lt.mpr hle))
  unfold source at h
  split at h
  · rename_i y p
    split at h
    · rename_i xs hy
      cases h
      have F := X.f
      obtain ⟨mm, hn, hm⟩ := F.m
      -- the list of one's own
      have own : ∀ v, RdF W s.heap mu (.own ms) v → wpAny (Mo B) A (pyIter v) Q E s := by
        intro v rv
        obtain ⟨r0, vs, k, rfl, q1, q2, q3, q4⟩ := rv
        refine iter_list (mu' := mu') X q2 q3 (F.mu r0 q1).2 (fun z => h2 _ z _ _ q2) (fun a ha => (F.mu a (h1 a ha)).1) fun I s2 W2 st2 x2 it ap hle => ?_
        exact K I s2 W2 st2 x2 it ap hle (fun hm => absurd (X.i.heap.no I (F.mu I hm).1).2 (Nat.not_lt.mpr hle))
      obtain ⟨hrow, hloc⟩ := F.own y _ hy
      obtain ⟨y0, y1, y2⟩ := hm y _ hy hloc
      have hd : (y == ("__debug__" : Str)) = false := by rw [hrow]; decide
      exact wpAny_Name (wpAny_loadName_local F.kind hloc hn y1 (own _ y2)) hd
    · obtain ⟨p1, g1, g2⟩ := Option.bind_eq_some_iff.mp h
      exact gen g1 g2
  · obtain ⟨p1, g1, g2⟩ := Option.bind_eq_some_iff.mp h
    exact gen g1 g2
end
end Mine
namespace Mine
set_option maxRecDepth 100000
open PySem PySem.W PySem.Calls PyProof.Rows

section
variable {B : Bs} {A : Around} {W W' : Wd} {S S' : Sto} {s s' : Shared} {m a b : MV} {v va vb : Value} {E : Value → Shared → Prop} {sc csc : Scope} {l l' l0 : Loc} {mu mu' ks : List Addr} {env : Env} {h h' : Heap} {n n' : Nat} {r : Rec} {Q : Value → Shared → Prop} {I D C : Addr} {ms rs : List MV}

theorem Ok.move {ks : List Addr} (x : Ok B n A W sc l mu env S s) (st : Step ks W s.heap W' s'.heap) (hk : ∀ a ∈ ks, a ∈ W.no ∨ s.heap.objs.size ≤ a) (d : ∀ a ∈ mu, a ∉ ks) (ap : Apart A ks) (i : Inv B W' S' s') (t : 1 ≤ s'.toks) : Ok B n A W' sc l mu env S' s' :=
  ⟨x.a.step x.i.heap st ap, x.f.step x.i.heap st hk d, i, t⟩
theorem IterAt.move {ks : List Addr} (x : IterAt B A W mu h I ms) (H : HeapOk B W S h) (st : Step ks W h W' h') (hk : ∀ a ∈ ks, a ∈ W.no ∨ h.objs.size ≤ a) (d : ∀ a ∈ ks, h.objs.size ≤ a) (i : ∀ a ∈ mu', a ∈ mu ∨ h.objs.size ≤ a) : IterAt B A W' mu' h' I ms := by
  have hI := x.inFp
  obtain ⟨fp, n, P, St, k, w, h2, h3, h4, h5, h6⟩ := x
  have sees := st.sees H.ds hk
  have nk : ∀ b ∈ fp, b ∉ ks := fun b hb hm => absurd (h5 b hb).1 (Nat.not_lt.mpr (d b hm))
  refine ⟨fp, n, P, St, k, w, w.frame _ _ _ h2 fun b hb o e => st.keep b o (h5 b hb).2.1 (nk b hb) e, h3, fun j m v e p => (h4 j m v e p).sees sees, fun b hb => ?_, ?_⟩
  · obtain ⟨e, q2, q3⟩ := h5 b hb
    refine ⟨Nat.lt_of_lt_of_le e st.size, fun hm => ?_, fun hm => ?_⟩
    · obtain ⟨p, hp, rfl⟩ := List.mem_map.mp hm
      rcases st.obn p hp with q | q
      · exact q2 (List.mem_map_of_mem q)
      · exact absurd e (Nat.not_lt.mpr q)
    · rcases i b hm with z | z
      · exact q3 z
      · exact absurd e (Nat.not_lt.mpr z)
  · exact (st.no I h6 (H.no I h6).2).resolve_right (nk I (w.sub I (by simp)))
theorem Apart.join {ks ks' : List Addr} (x : Apart A ks) (y : Apart A ks') : Apart A (ks ++ ks') := fun fs hf e he L hL hm => by
  rcases List.mem_append.mp hm with q | q
  · exact x fs hf e he L hL q
  · exact y fs hf e he L hL q
theorem compGo_len {test : Option (Loc → Sto → Option (Bool × Sto))} {elt : Loc → Sto → Option (MV × Sto)} {x : Str} {l0 : Loc} : ∀ {ms rs : List MV} {S S' : Sto}, compGo test elt x l0 ms S = some (rs, S') → rs.length ≤ ms.length
  | [], rs, S, S', h => by
    simp only [compGo, Option.some.injEq, Prod.mk.injEq] at h
    obtain ⟨rfl, rfl⟩ := h
    exact Nat.le_refl _
  | m :: ms, rs, S, S', h => by
    unfold compGo at h
    obtain ⟨⟨c, S1⟩, h1, h2⟩ := Option.bind_eq_some_iff.mp h
    cases c with
    | true =>
      obtain ⟨p, h3, h4⟩ := Option.bind_eq_some_iff.mp h2
      obtain ⟨q, h5, h6⟩ := Option.bind_eq_some_iff.mp h4
      cases h6
      exact Nat.succ_le_succ (compGo_len h5)
    | false => exact Nat.le_succ_of_le (compGo_len h2)

theorem self_ok (it : IterAt B A W mu s.heap I ms) (h : Q (.ref I) s) : wpAny (Mo B) A (pyIter (.ref I)) Q E s := by
  obtain ⟨fp, n, P, St, i, w, h2, _⟩ := it
  exact w.self i s Q E h2 h
/-- what stands when a comprehension has run, before its frame goes -/
structure CompEnd (B : Bs) (n : Nat) (A : Around) (W : Wd) (sc : Scope) (l : Loc) (mu : List Addr) (env : Env) (s : Shared) (D C : Addr) (rs : List MV) (W' : Wd) (S' : Sto) (s' : Shared) : Prop where
  st : Step [] W s.heap W' s'.heap
  ok : Ok B n A W' sc l mu env S' s'
  acc : AccAt W' s'.heap mu D rs
  lenD : s.heap.objs.size ≤ D
  lenC : s.heap.objs.size ≤ C
  apD : Apart A [D]
  apC : Apart A [C]
  noC : C ∈ W'.no ∧ C ∉ W'.ds ∧ C ∉ mu
  neq : D ≠ C
  ns : ∃ m, s'.heap.Ns C m
  len : rs.length ≤ 1000000

theorem comp_block (O : BOk B) (H : EvOk B r n) (HT : TrOk B r n) {elt iter : Expr} {x : Str} {px pos cpos : Pos} {ifs : List Expr} {use : Option (Value → Sem Unit)}
    (h : compS B.T r sc l S elt x iter ifs csc = some (rs, S')) (hset : isSetD iter = false) (X : Ok B n A W sc l mu env S s)
    (k : ∀ D C s' W', CompEnd B n A W sc l mu env s D C rs W' S' s' → compPost (Mo B) A E use Q (.ref D) C (.ok .next) s') :
    wpAny (Mo B) A (comprehension (.ListComp elt [⟨.Name x px, iter, ifs, 0⟩] csc pos) csc env cpos (newList []) false (eval iter env) use) Q E s := by
  unfold compS at h
  split at h
  · cases h
  · rename_i hfun
    obtain ⟨l0, h1, h2⟩ := Option.bind_eq_some_iff.mp h
    obtain ⟨⟨ms, S1⟩, h3, h4⟩ := Option.bind_eq_some_iff.mp h2
    split at h4
    · cases h4
    · rename_i hlen
      have hlen := Nat.le_of_ble_eq_true hlen
      obtain ⟨cl, c1, c2, c3, c4, c5, c6, c7, c8⟩ := comp_frame X.f h1 hfun
      have hgo : ∃ test, ((ifs = [] ∧ test = none) ∨ (∃ c, ifs = [c] ∧ test = some fun l' s' => r.tr csc l' s' c)) ∧ compGo test (fun l' s' => r.ev csc l' s' elt) x l0 ms S1 = some (rs, S') := by
        split at h4
        · exact ⟨none, .inl ⟨rfl, rfl⟩, h4⟩
        · exact ⟨_, .inr ⟨_, rfl, rfl⟩, h4⟩
        · cases h4
      obtain ⟨test, htest, hgo⟩ := hgo
      refine wpAny_comprehension_free (g := ⟨.Name x px, iter, ifs, 0⟩) (gs := []) rfl (fun v => by cases iter <;> first | rfl | cases hset) c1 c3 c4 ?_
      refine source_ok O H (mu' := cl.map (·.2)) h3 X (fun a ha => (c7 a ha).1) (fun a ha vs k e => ?_) (fun a ha => ?_) fun I s2 W2 st2 x2 it2 apI hle hIm => ?_
      · obtain ⟨_, v0, o, ho, hd⟩ := c7 a ha
        rw [ho] at e; cases e; cases hd
      · obtain ⟨_, v0, o, ho, hd⟩ := c7 a ha
        exact ⟨o, ho⟩
      -- the list
      unfold newList
      refine wpAny_newObj_type ?_
      obtain ⟨x3, st3, apD⟩ := x2.pushNo (o := { cls := .type "list", dict := none, data := .seq ([] : List Value).toArray })
      generalize hs3 : ({ s2 with heap := s2.heap.push { cls := .type "list", dict := none, data := .seq ([] : List Value).toArray } } : Shared) = s3 at x3
      have hs3h : s3.heap = s2.heap.push { cls := .type "list", dict := none, data := .seq ([] : List Value).toArray } := by rw [← hs3]
      have hD3 : s3.heap.get? s2.heap.objs.size = some (listObj [] 0) := by rw [hs3h]; exact Heap.get?_push_size _ rfl
      have it3 : IterAt B A (W2.hide s2.heap.objs.size) (s2.heap.objs.size :: cl.map (·.2)) s3.heap I ms := by
        rw [hs3h]
        exact it2.move x2.i.heap st3 (fun a e => nomatch e) (fun a e => nomatch e) fun a e => by
          rcases List.mem_cons.mp e with rfl | e
          · exact .inr (Nat.le_refl _)
          · exact .inl e
      have hDm : s2.heap.objs.size ∉ mu := fun hm => Nat.lt_irrefl _ (x2.i.heap.no _ (x2.f.mu _ hm).1).2
      have hDd : s2.heap.objs.size ∉ W2.ds := fun hm => Nat.lt_irrefl _ (x2.i.heap.no _ (x2.i.heap.ds _ hm)).2
      rw [← hs3h] at st3
      show wpAny (Mo B) A (newFunctionEnv csc env.globals cl [] env.qual none .none (some env)) _ E s3
      -- the frame
      refine wpAny_newFunctionEnv c2 (fun y hy => nomatch hy) (fun h4' hns hsb => ?_) c3
      obtain ⟨x4, st4, apC⟩ := x3.pushNo (o := { cls := .type (if (some env).isSome then "dict" else "frame"), data := .dict #[] })
      have hle4 : (s3.heap.push { cls := .type (if (some env).isSome then "dict" else "frame"), data := .dict #[] }).objs.size ≤ h4'.objs.size := Nat.le_of_eq hsb.1.symm
      have hCm : s3.heap.objs.size ∉ mu := fun hm => Nat.lt_irrefl _ (x3.i.heap.no _ (x3.f.mu _ hm).1).2
      have hCd : s3.heap.objs.size ∉ W2.ds := fun hm => Nat.lt_irrefl _ (x3.i.heap.no _ (x3.i.heap.ds _ hm)).2
      obtain ⟨x5, st5⟩ := x4.kept (h' := h4') (k := s3.toks + ([] : List (Str × Value)).length) (ks := [s3.heap.objs.size]) (fun a o n e => hsb.extBut a o (by simpa using n) e)
        (fun a e => by rw [List.mem_singleton.mp e]; exact ⟨.head _, hCd, hCm⟩) hle4 apC x3.t
      have st45 : Step [] (W2.hide s2.heap.objs.size) s3.heap ((W2.hide s2.heap.objs.size).hide s3.heap.objs.size) h4' := st4.comp st5 fun a e => .inr (by rw [List.mem_singleton.mp e]; exact Nat.le_refl _)
      have hsz3 : s3.heap.objs.size = s2.heap.objs.size + 1 := by rw [hs3h]; exact Heap.size_push _ _
      have hDC : s2.heap.objs.size ≠ s3.heap.objs.size := by rw [hsz3]; exact Nat.ne_of_lt (Nat.lt_succ_self _)
      have hIn := it2.inFp
      have hle2 : s.heap.objs.size ≤ s2.heap.objs.size := st2.size
      have hle3 : s.heap.objs.size ≤ s3.heap.objs.size := Nat.le_trans hle2 (by rw [hsz3]; exact Nat.le_succ _)
      have it5 : IterAt B A ((W2.hide s2.heap.objs.size).hide s3.heap.objs.size) (s2.heap.objs.size :: s3.heap.objs.size :: cl.map (·.2)) h4' I ms :=
        it3.move x3.i.heap st45 (fun a e => nomatch e) (fun a e => nomatch e) fun a e => by
          rcases List.mem_cons.mp e with rfl | e
          · exact .inl (.head _)
          · rcases List.mem_cons.mp e with rfl | e
            · exact .inr (Nat.le_refl _)
            · exact .inl (.tail _ e)
      have hDcl : s2.heap.objs.size ∉ s3.heap.objs.size :: cl.map (·.2) := fun hm => by
        rcases List.mem_cons.mp hm with q | q
        · exact hDC q
        · exact hDm (c7 _ q).1
      have acc5 : AccAt ((W2.hide s2.heap.objs.size).hide s3.heap.objs.size) h4' (s3.heap.objs.size :: cl.map (·.2)) s2.heap.objs.size [] :=
        AccAt.step (W := W2.hide s2.heap.objs.size) (h := s3.heap) ⟨⟨[], 0, hD3, by simp only [RdL]⟩, .head _, hDd, hDcl⟩ x3.i.heap st45 (fun a e => nomatch e) (fun e => nomatch e)
      have F5 := c8 x5.f hns ⟨.head _, hCd⟩
      have L5 : LoopAt B n A csc l0 (s3.heap.objs.size :: cl.map (·.2)) (compEnvC csc cl s3.heap.objs.size env) I s2.heap.objs.size _ h4' _ S1 { s3 with heap := h4', toks := s3.toks + ([] : List (Str × Value)).length } ms [] :=
        ⟨⟨x5.a, F5, x5.i, x5.t⟩, it5, acc5, .refl _ _ _⟩
      have loop : codeAny (Mo B) A (.compLoop (.ListComp elt [⟨.Name x px, iter, ifs, 0⟩] csc pos) 0 (.ref I) (.ref s2.heap.objs.size) (compEnvC csc cl s3.heap.objs.size env))
          (compPost (Mo B) A E use Q (.ref s2.heap.objs.size) s3.heap.objs.size) { s3 with heap := h4', toks := s3.toks + ([] : List (Str × Value)).length } := by
        refine compLoop_ok H HT htest (c5 _) c6 apI apD hgo hlen L5 fun s' W' st' ok' acc' => ?_
        have hks : ∀ a ∈ [I, s2.heap.objs.size, s3.heap.objs.size], s.heap.objs.size ≤ a ∧ a ∈ ((W2.hide s2.heap.objs.size).hide s3.heap.objs.size).no ∧ a ∉ mu := fun a e => by
          rcases List.mem_cons.mp e with rfl | e
          · exact ⟨hle, .tail _ (.tail _ hIn.2.2.2), hIm⟩
          · rcases List.mem_cons.mp e with rfl | e
            · exact ⟨hle2, .tail _ (.head _), hDm⟩
            · rw [List.mem_singleton.mp e]
              exact ⟨hle3, .head _, hCm⟩
        have stA : Step [] W s.heap ((W2.hide s2.heap.objs.size).hide s3.heap.objs.size) h4' := (st2.trans st3).trans st45
        refine k _ _ s' W' ⟨stA.comp st' fun a e => .inr (hks a e).1, x5.move st' (fun a e => .inl (hks a e).2.1) (fun a e q => (hks a q).2.2 e) ((apI.join apD).join apC) ok'.i ok'.t, ⟨acc'.pl, acc'.no, acc'.ds, hDm⟩, hle2, hle3, apD, apC,
          ⟨(ok'.f.mu _ (.head _)).1, (ok'.f.mu _ (.head _)).2, hCm⟩, hDC, let ⟨m, q, _⟩ := ok'.f.m; ⟨m, q⟩, Nat.le_trans (compGo_len hgo) hlen⟩
      exact codeAny_compStart_list loop (self_ok it5 loop)
end
end Mine
namespace Mine
set_option maxRecDepth 100000
open PySem PySem.W PySem.Calls PyProof.Rows

section
variable {B : Bs} {A : Around} {W W' : Wd} {S S' : Sto} {s s' : Shared} {m a b : MV} {v va vb : Value} {E : Value → Shared → Prop} {sc csc : Scope} {l l' l0 : Loc} {mu mu' ks : List Addr} {env : Env} {h h' : Heap} {n n' : Nat} {r : Rec} {Q : Value → Shared → Prop} {I D C : Addr} {ms rs : List MV}

def Wd.bare (W : Wd) (D : Addr) : Wd := ⟨W.no.filter (fun a => !Nat.beq a D), W.ob⟩
theorem bare_mem {a : Addr} : a ∈ (W.bare D).no ↔ a ∈ W.no ∧ a ≠ D := by
  show a ∈ W.no.filter _ ↔ _
  rw [List.mem_filter]
  refine and_congr_right fun _ => ?_
  cases h : Nat.beq a D with
  | true => simp [Nat.eq_of_beq_eq_true h]
  | false => simp [Nat.ne_of_beq_eq_false h]
theorem bare_sees : Sees W h (W.bare D) h := ⟨fun a o n e => ⟨fun hm => n (bare_mem.mp hm).1, e⟩, fun _ _ e => e⟩
theorem HeapOk.bare (H : HeapOk B W S h) (hD : D ∉ W.ds) : HeapOk B (W.bare D) S h := by
  refine ⟨H.keep, H.size, fun a e => H.no a (bare_mem.mp e).1, fun a e => bare_mem.mpr ⟨H.ds a e, fun z => hD (z ▸ e)⟩, H.nd, H.len, fun k p e => ?_⟩
  obtain ⟨A, e1, e2, e3, e4, es, n, e5, e6, e7, e8⟩ := H.inst k p e
  refine ⟨A, e1, e2, fun hm => e3 (bare_mem.mp hm).1, e4, es, n, e5, e6, e7, fun x => ?_⟩
  have := e8 x
  unfold RdO at this ⊢
  cases q : A x with
  | none => rw [q] at this; exact this
  | some m => rw [q] at this; obtain ⟨y, y1, y2⟩ := this; exact ⟨y, y1, y2.sees bare_sees⟩
theorem Ok.bare (x : Ok B n A W sc l mu env S s) (hD : D ∉ W.ds) (hm : D ∉ mu) (ap : Apart A [D]) : Ok B n A (W.bare D) sc l mu env S s := by
  refine ⟨?_, x.f.move bare_sees (fun _ _ _ e => e) (fun a e => ⟨bare_mem.mpr ⟨(x.f.mu a e).1, fun z => hm (z ▸ e)⟩, (x.f.mu a e).2⟩), ⟨x.i.heap.bare hD, x.i.gens, x.i.os⟩, x.t⟩
  obtain ⟨fs, h1, h2⟩ := x.a.fr
  refine ⟨x.a.handled, x.a.guards, x.a.depth, x.a.units, fs, h1, fun e he => ?_⟩
  obtain ⟨k, L, o, g1, g2, g3, g4, g5⟩ := h2 e he
  exact ⟨k, L, o, g1, bare_mem.mpr ⟨g2, fun z => ap fs h1 e he L g1 (by rw [z]; exact .head _)⟩, g3, g4, g5⟩
theorem Step.bare {W0 : Wd} {h0 : Heap} (st : Step ks W0 h0 W h) (hD : h0.objs.size ≤ D) : Step ks W0 h0 (W.bare D) h :=
  ⟨st.keep, st.size, fun a e q => (st.no a e q).imp (fun z => bare_mem.mpr ⟨z, fun y => absurd q (by rw [y]; exact Nat.not_lt.mpr hD)⟩) id, fun a e => st.new a (bare_mem.mp e).1, st.ob, st.obn⟩

/-- the frame of the comprehension goes -/
theorem CompEnd.gone (x : CompEnd B n A W sc l mu env s D C rs W' S' s') (hsb : Heap.SameBut C s'.heap h') :
    Step [] W s.heap W' h' ∧ Ok B n A W' sc l mu env S' { s' with heap := h' } ∧ AccAt W' h' mu D rs ∧ Step [C] W' s'.heap W' h' ∧ s.heap.objs.size ≤ h'.objs.size := by
  have kp : ∀ a o, a ∉ [C] → s'.heap.get? a = some o → h'.get? a = some o := fun a o n e => hsb.extBut a o (by simpa using n) e
  obtain ⟨x', st⟩ := x.ok.kept (k := s'.toks) kp (fun a e => by rw [List.mem_singleton.mp e]; exact x.noC) (Nat.le_of_eq hsb.1.symm) x.apC x.ok.t
  have stA := x.st.comp st fun a e => .inr (by rw [List.mem_singleton.mp e]; exact x.lenC)
  refine ⟨stA, x', x.acc.step x.ok.i.heap st (fun a e => by rw [List.mem_singleton.mp e]; exact x.noC.1) (by simpa using x.neq), st, stA.size⟩

theorem compE_ok (O : BOk B) (H : EvOk B r n) (HT : TrOk B r n) {elt iter : Expr} {x : Str} {px pos : Pos} {ifs : List Expr}
    (h : compS B.T r sc l S elt x iter ifs csc = some (rs, S')) (hset : isSetD iter = false) (X : Ok B n A W sc l mu env S s)
    (k : ∀ v s' W', Step [] W s.heap W' s'.heap → Ok B n A W' sc l mu env S' s' → Rd W' s'.heap (.list rs) v → Q v s') :
    wpAny (Mo B) A (eval (.ListComp elt [⟨.Name x px, iter, ifs, 0⟩] csc pos) env) Q E s := by
  rw [eval_ListComp]
  refine comp_block O H HT h hset X fun D C s' W' ce => ?_
  obtain ⟨m, hm⟩ := ce.ns
  refine ⟨m, hm, fun h' hsb => ?_⟩
  obtain ⟨st1, x1, ac1, _, _⟩ := ce.gone hsb
  obtain ⟨⟨ys, nn, e, rs'⟩, d2, d3, d4⟩ := ac1
  refine k _ _ (W'.bare D) (st1.bare ce.lenD) (x1.bare d3 d4 ce.apD) ?_
  simp only [Rd]
  exact ⟨D, ys, nn, rfl, fun z => (bare_mem.mp z).2 rfl, e, RdL.sees bare_sees rs', ce.len⟩
end
end Mine
namespace Mine
set_option maxRecDepth 100000
open PySem PySem.W PySem.Calls PyProof.Rows

section
variable {B : Bs} {A : Around} {W W' : Wd} {S S' : Sto} {s s' : Shared} {m a b : MV} {v va vb : Value} {E : Value → Shared → Prop} {sc csc : Scope} {l l' l0 : Loc} {mu mu' ks : List Addr} {env : Env} {h h' : Heap} {n n' : Nat} {r : Rec} {Q : Value → Shared → Prop} {I D C : Addr} {ms rs : List MV}

theorem reads_strs {h : Heap} : ∀ {xs : List MV} {ss : List (List Nat)} {vs : List Value}, strs? xs = some ss → RdL W h xs vs → ReadsAll h vs (ss.map fun x => .str ⟨x.toArray⟩) []
  | [], _, _, e, r => by cases e; simp only [RdL] at r; subst r; exact .nil
  | .str x :: xs, ss, vs, e, r => by
    simp only [RdL, Rd] at r
    obtain ⟨v, q, rfl, ⟨t, rfl, _⟩, r2⟩ := r
    obtain ⟨ss', e1, rfl⟩ := Option.map_eq_some_iff.mp e
    exact .cons (as := []) (bs := []) (.str _ _) (reads_strs e1 r2)
theorem showable_strs : ∀ ss : List (List Nat), PyData.showableAll (ss.map fun x => .str ⟨x.toArray⟩) = true
  | [] => rfl
  | x :: r => by simp [PyData.showableAll, PyData.showable, showable_strs r]
theorem hasDict_strs : ∀ ss : List (List Nat), PyData.hasDictAll (ss.map fun x => .str ⟨x.toArray⟩) = false
  | [] => rfl
  | x :: r => by simp [PyData.hasDictAll, PyData.hasDict, hasDict_strs r]
theorem depth_strs : ∀ ss : List (List Nat), PyData.depthAll (ss.map fun x => .str ⟨x.toArray⟩) ≤ 1
  | [] => by simp [PyData.depthAll]
  | x :: r => by have := depth_strs r; simp [PyData.depthAll, PyData.depth]; omega

theorem smallCps_ok : ∀ {x : List Nat}, smallCps x = true → ∀ c ∈ x, c < 16 ^ 8
  | [], _, c, hc => nomatch hc
  | a :: r, h, c, hc => by
    unfold smallCps at h
    split at h
    · rename_i e
      rcases List.mem_cons.mp hc with rfl | hc
      · exact Nat.blt_eq.mp e
      · exact smallCps_ok h c hc
    · cases h
theorem textFrom_le : ∀ (ts : List Str) (k : Nat) (acc : Str), (textFrom k acc ts).length ≤ acc.length + piled ts
  | [], k, acc => Nat.le_add_right _ _
  | t :: r, k, acc => by
    have ih := textFrom_le r (k + 1) (acc ++ (if k > 0 then ", " else "" : String) ++ t)
    have e : (acc ++ (if k > 0 then ", " else "" : String) ++ t).length = acc.length + (if k > 0 then 2 else 0) + t.length := by
      rw [strLen_append, strLen_append]
      split <;> rfl
    rw [e] at ih
    show (textFrom (k + 1) _ r).length ≤ _
    have : piled (t :: r) = t.length + 2 + piled r := by simp [piled]
    have d1 : (if k > 0 then 2 else 0 : Nat) ≤ 2 := by split <;> omega
    omega
theorem textLen_ok : ∀ {ss : List (List Nat)} {n : Nat}, textLen ss = some n → piled (PyData.shownAll (ss.map fun x => .str ⟨x.toArray⟩)) + 2 ≤ n
  | [], n, h => by cases h; exact Nat.le_refl _
  | x :: r, n, h => by
    unfold textLen at h
    split at h
    · rename_i e
      obtain ⟨m, h1, rfl⟩ := Option.map_eq_some_iff.mp h
      have ih := textLen_ok h1
      have := PySem.StrLaws.reprText_len ⟨x.toArray⟩ (by simpa using smallCps_ok e)
      have e2 : (⟨x.toArray⟩ : Str).length = x.length := by show x.toArray.size = _; simp
      simp only [List.map_cons, PyData.shownAll, PyData.shown, piled, List.sum_cons] at ih ⊢
      omega
    · cases h
theorem shown_le {ss : List (List Nat)} {n : Nat} (h : textLen ss = some n) : (PyData.list (ss.map fun x => .str ⟨x.toArray⟩)).shown.length ≤ n := by
  have h1 := textLen_ok h
  have h2 := textFrom_le (PyData.shownAll (ss.map fun x => .str ⟨x.toArray⟩)) 0 "["
  simp only [PyData.shown, listText]
  rw [strLen_append]
  have e1 : ("[" : Str).length = 1 := rfl
  have e2 : ("]" : Str).length = 1 := rfl
  omega

theorem joinGo_ok (H : EvOk B r n) : ∀ {es : List Expr} {S : Sto} {acc : Str} {W : Wd} {s : Shared} {Q : Str → Shared → Prop}, joinGo (r.ev sc l) es S = some S' → Ok B n A W sc l mu env S s → acc.length + es.length * 1000000 ≤ 16000000 →
    (∀ acc' s' W', Step [] W s.heap W' s'.heap → Ok B n A W' sc l mu env S' s' → acc'.length ≤ 16000000 → Q acc' s') → Joins (Mo B) A E (evalEach es env) acc Q s
  | [], S, acc, W, s, Q, h, x, hz, k => by
    cases h
    exact k acc s W (.refl _ _ _) x (by simpa using hz)
  | e :: es, S, acc, W, s, Q, h, x, hz, k => by
    have hz' : acc.length + (es.length + 1) * 1000000 ≤ 16000000 := hz
    have small : ∀ y : Str, y.length ≤ 1000000 → (acc ++ y).length ≤ sizeLine ∧ (acc ++ y).length + es.length * 1000000 ≤ 16000000 := fun y hy => by
      rw [strLen_append, sizeLine_eq]; omega
    show wpAny (Mo B) A (eval e env) (fun v s₁ => ∃ y t, v = .str y t ∧ (acc ++ y).length ≤ sizeLine ∧ Joins (Mo B) A E (evalEach es env) (acc ++ y) Q s₁) E s
    unfold joinGo at h
    split at h
    · rename_i hcase; cases hcase
    · rename_i y kk pp r' hcase
      cases hcase
      split at h
      · rename_i hb
        have hb := Nat.le_of_ble_eq_true hb
        refine wpAny_Constant_str ⟨_, _, rfl, (small y hb).1, ?_⟩
        exact joinGo_ok H h (x.stay (Nat.le_succ _)) (small y hb).2 k
      · cases h
    · rename_i e' pp r' hcase
      cases hcase
      obtain ⟨p1, h1, h2⟩ := Option.bind_eq_some_iff.mp h
      split at h2
      · rename_i ht
        refine wpAny_FormattedValue_plain (H h1 x fun v s1 W1 st1 x1 r1 => ?_)
        unfold textOf at ht
        split at ht
        · rename_i z hz0
          rw [hz0] at r1
          simp only [Rd] at r1
          obtain ⟨t, rfl, hl⟩ := r1
          have hl' : (⟨z.toArray⟩ : Str).length ≤ 1000000 := by show z.toArray.size ≤ _; simpa using hl
          refine wpAny_formatField_str ⟨_, _, rfl, (small _ hl').1, ?_⟩ ⟨_, _, rfl, (small _ hl').1, ?_⟩ (by rw [sizeLine_eq]; omega)
          · exact joinGo_ok H h2 x1 (small _ hl').2 fun acc' s' W' st2 x2 h3 => k acc' s' W' (st1.trans st2) x2 h3
          · exact joinGo_ok H h2 (x1.stay (Nat.le_succ _)) (small _ hl').2 fun acc' s' W' st2 x2 h3 => k acc' s' W' (st1.trans st2) x2 h3
        · rename_i xs hz0
          rw [hz0] at r1
          split at ht
          · rename_i nn0 hss0
            obtain ⟨ss, hss, hss1⟩ := Option.bind_eq_some_iff.mp hss0
            have ht : (PyData.list (ss.map fun x => .str ⟨x.toArray⟩)).shown.length ≤ 1000000 := Nat.le_trans (shown_le hss1) (Nat.le_of_ble_eq_true ht)
            simp only [Rd] at r1
            obtain ⟨a, vs, nn, rfl, q1, q2, q3, q4⟩ := r1
            have rd : Reads s1.heap (.ref a) (.list (ss.map fun x => .str ⟨x.toArray⟩)) [a] := .list q2 rfl rfl (reads_strs hss q3)
            refine wpAny_more (formatField_of_reads rd (by simpa [PyData.showable] using showable_strs ss) (fun z => by rw [show (PyData.list (ss.map fun x => .str ⟨x.toArray⟩)).hasDict = _ from rfl] at z; simp [PyData.hasDict, hasDict_strs] at z) x1.a.guards ?_ (fun _ _ e => e) ?_ (by rw [sizeLine_eq]; omega))
            · have h1 := x1.a.units
              have h2 := depth_strs ss
              have h3 : (PyData.list (ss.map fun x => .str ⟨x.toArray⟩)).depth ≤ 2 := by simp [PyData.depth]; omega
              show A.units + _ < 9900
              omega
            · intro h' u tk kp hs htk
              refine ⟨_, _, rfl, (small _ ht).1, ?_⟩
              have st2 : Step [] W1 s1.heap W1 h' := Step.keeps kp hs
              exact joinGo_ok H h2 (x1.step0 (s' := { s1 with heap := h', toks := tk }) st2 (x1.i.grown kp hs) htk) (small _ ht).2 fun acc' s' W' st3 x2 h3 => k acc' s' W' ((st1.trans st2).trans st3) x2 h3
          · cases ht
        · cases ht
      · cases h2
    · cases h
end
end Mine
namespace Mine
set_option maxRecDepth 100000
open PySem PySem.W PySem.Calls PyProof.Rows

section
variable {B : Bs} {A : Around} {W W' : Wd} {S S' : Sto} {s s' : Shared} {m a b : MV} {v va vb : Value} {E : Value → Shared → Prop} {sc csc : Scope} {l l' l0 : Loc} {mu mu' ks : List Addr} {env : Env} {h h' : Heap} {n n' : Nat} {r : Rec} {Q : Value → Shared → Prop} {I D C : Addr} {ms rs : List MV}

theorem bound_ok (H : EvOk B r n) {o : Option Expr} {k0 : Option Nat} (h : bound o (r.ev sc l) S = some (k0, S')) (x : Ok B n A W sc l mu env S s)
    (k : ∀ v s' W', Step [] W s.heap W' s'.heap → Ok B n A W' sc l mu env S' s' → Pt k0 v → Q v s') : wpAny (Mo B) A (evalPart o env) Q E s := by
  unfold bound at h
  split at h
  · cases h
    exact wpAny_pure (k _ _ _ (.refl _ _ _) x rfl)
  · obtain ⟨p1, h1, h2⟩ := Option.bind_eq_some_iff.mp h
    split at h2
    · rename_i j hj
      cases h2
      refine H h1 x fun v s1 W1 st1 x1 r1 => k _ _ _ st1 x1 ?_
      rw [hj] at r1
      simp only [Rd] at r1
      exact r1
    · cases h2

theorem attr_eq {o : Expr} {nm : Str} {p : Pos} (ho : isCallE o = false) : eval (.Attribute o nm p) env = (do
    let ov ← eval o env
    standAt p.atName
    let r ← holding [ov] (getAttr ov nm true)
    letTemporaryGo o ov r
    pure r) := by
  have h1 : attributeBase o nm env (eval o env) = eval o env := by cases o <;> first | rfl | cases ho
  show (do
    let ov ← attributeBase o nm env (eval o env)
    standAt p.atName
    let r ← holding [ov] (getAttr ov nm true)
    letTemporaryGo o ov r
    pure r) = _
  rw [h1]

theorem evs_len {f : Sto → Expr → Option (MV × Sto)} : ∀ {es : List Expr} {S S' : Sto} {ms : List MV}, evs f es S = some (ms, S') → ms.length = es.length
  | [], _, _, _, h => by cases h; rfl
  | e :: es, S, S', ms, h => by
    unfold evs at h
    split at h
    · cases h
    · obtain ⟨p1, h1, h2⟩ := Option.bind_eq_some_iff.mp h
      obtain ⟨q1, h3, h4⟩ := Option.bind_eq_some_iff.mp h2
      cases h4
      simp [evs_len h3]
theorem push_ok {o : Obj} (x : Ok B n A W sc l mu env S s) (hf : o.isFreed = false) :
    Step [] W s.heap W (s.heap.push o) ∧ Ok B n A W sc l mu env S { s with heap := s.heap.push o } ∧ s.heap.objs.size ∉ W.no ∧ (s.heap.push o).get? s.heap.objs.size = some o ∧ Sees W s.heap W (s.heap.push o) := by
  have kp : ∀ b o', s.heap.get? b = some o' → (s.heap.push o).get? b = some o' := fun b o' e => Heap.get?_push_of_some _ e
  have hs : s.heap.objs.size ≤ (s.heap.push o).objs.size := by rw [Heap.size_push]; exact Nat.le_succ _
  have st : Step [] W s.heap W (s.heap.push o) := Step.keeps kp hs
  exact ⟨st, x.step0 st (x.i.grown (k := s.toks) kp hs) (Nat.le_refl _), x.i.heap.fresh, Heap.get?_push_size _ hf, st.sees x.i.heap.ds (fun _ h => nomatch h)⟩

theorem valOut_some {o : Option (Out × Sto)} (h : valOut o = some (m, S')) : o = some (.val m, S') := by
  unfold valOut at h
  split at h
  · cases h; rfl
  · cases h

theorem ev_ok (O : BOk B) (H : EvOk B r n) (HT : TrOk B r n) (HC : CaOk B r n) {e : Expr} (h : evS B.T r sc l S e = some (m, S')) (x : Ok B (n + 1) A W sc l mu env S s)
    (k : ∀ v s' W', Step [] W s.heap W' s'.heap → Ok B (n + 1) A W' sc l mu env S' s' → Rd W' s'.heap m v → Q v s') : wpAny (Mo B) A (eval e env) Q E s := by
  have x' := x.less (Nat.le_succ n)
  have up : ∀ {W' : Wd} {S' : Sto} {s' : Shared}, Ok B n A W' sc l mu env S' s' → Ok B (n + 1) A W' sc l mu env S' s' := fun y => y.up x.a
  unfold evS at h
  split at h
  · -- constant
    obtain ⟨v0, h1, h2⟩ := Option.map_eq_some_iff.mp h
    cases h2
    exact x.fin (const_ok x.i h1) k
  · -- name
    obtain ⟨v0, h1, h2⟩ := Option.map_eq_some_iff.mp h
    cases h2
    refine wpAny_mono (name_leaf O x.f x.i h1) (fun v s' q => ?_) fun _ _ q => q
    obtain ⟨rfl, q⟩ := q
    exact k _ _ _ (.refl _ _ _) x q
  · exact boolGo_ok H h x' fun v s' W' st x1 r1 => k v s' W' st (up x1) r1
  · -- binary
    obtain ⟨p1, h1, h2⟩ := Option.bind_eq_some_iff.mp h
    obtain ⟨q1, h3, h4⟩ := Option.bind_eq_some_iff.mp h2
    obtain ⟨v0, h5, h6⟩ := Option.map_eq_some_iff.mp h4
    cases h6
    refine wpAny_BinOp (H h1 x' fun va s1 W1 st1 x1 r1 => H h3 x1 fun vb s2 W2 st2 x2 r2 => ?_)
    exact x2.fin (binop_leaf x2.i (r1.sees (x1.i.sees0 st2)) r2 h5) fun v s' W' st3 x3 r3 => k v s' W' ((st1.trans st2).trans st3) (up x3) r3
  · -- not
    obtain ⟨p1, h1, h2⟩ := Option.bind_eq_some_iff.mp h
    obtain ⟨c, h3, h4⟩ := Option.map_eq_some_iff.mp h2
    cases h4
    refine wpAny_UnaryOp (H h1 x' fun v s1 W1 st1 x1 r1 => not_value (wpAny_more (truthy_leaf x1.i r1 h3 fun tk hs ht => k _ _ _ st1 (up (x1.stay ht)) rd_bool)))
  · -- minus
    cases h
    refine wpAny_UnaryOp (wpAny_Constant_int (PyProof.Rows.neg_int ?_))
    exact k _ _ _ (.refl _ _ _) (x.stay (Nat.le_add_right _ 2)) rd_int
  · -- if-expression
    obtain ⟨⟨c, S1⟩, h1, h2⟩ := Option.bind_eq_some_iff.mp h
    refine wpAny_IfExp (HT h1 x' fun s1 W1 st1 x1 => ?_)
    cases c with
    | true => rw [if_pos rfl]; exact H h2 x1 fun v s' W' st2 x2 r2 => k v s' W' (st1.trans st2) (up x2) r2
    | false => rw [if_neg (by decide)]; exact H h2 x1 fun v s' W' st2 x2 r2 => k v s' W' (st1.trans st2) (up x2) r2
  · -- list
    split at h
    · rename_i hlen
      have hlen := Nat.le_of_ble_eq_true hlen
      obtain ⟨p1, h1, h2⟩ := Option.map_eq_some_iff.mp h
      cases h2
      refine wpAny_List (evs_ok H h1 x' fun vs s1 W1 st1 x1 r1 => ?_)
      have hl := RdL.length r1
      have hl2 := evs_len h1
      refine ⟨by rw [hl, sizeLine_eq]; omega, ?_⟩
      obtain ⟨st2, x2, nf, get, sees⟩ := push_ok (o := { cls := .type "list", data := .seq vs.toArray }) x1 rfl
      refine k _ _ W1 (st1.trans st2) (up x2) ?_
      simp only [Rd]
      exact ⟨_, vs, 0, rfl, nf, get, RdL.sees sees r1, by omega⟩
    · cases h
  · -- tuple
    split at h
    · rename_i hlen
      have hlen := Nat.le_of_ble_eq_true hlen
      obtain ⟨p1, h1, h2⟩ := Option.map_eq_some_iff.mp h
      cases h2
      refine wpAny_Tuple (evs_ok H h1 x' fun vs s1 W1 st1 x1 r1 => ?_)
      have hl := RdL.length r1
      have hl2 := evs_len h1
      refine ⟨by rw [hl, sizeLine_eq]; omega, ?_⟩
      obtain ⟨st2, x2, nf, get, sees⟩ := push_ok (o := { cls := .type "tuple", data := .seq vs.toArray }) x1 rfl
      refine k _ _ W1 (st1.trans st2) (up x2) ?_
      simp only [Rd]
      exact ⟨_, vs, 0, rfl, nf, get, RdL.sees sees r1, by omega⟩
    · cases h
  · -- comprehension
    split at h
    · cases h
    · rename_i hset
      obtain ⟨p1, h1, h2⟩ := Option.map_eq_some_iff.mp h
      cases h2
      exact compE_ok O H HT h1 hset x' fun v s' W' st x1 r1 => k v s' W' st (up x1) r1
  · -- comparison
    obtain ⟨p1, h1, h2⟩ := Option.bind_eq_some_iff.mp h
    obtain ⟨q1, h3, h4⟩ := Option.map_eq_some_iff.mp h2
    cases h4
    rw [arm_eval_Compare]
    exact wpAny_bind (H h1 x' fun v s1 W1 st1 x1 r1 => cmpGo_ok H h3 r1 x1 fun s' W' st2 x2 => k _ s' W' (st1.trans st2) (up x2) rd_bool)
  · -- call
    have gen : ∀ {e : Expr}, valOut (evCall B.T r sc l S e) = some (m, S') → wpAny (Mo B) A (eval e env) Q E s := fun hv =>
      evCall_ok O H HC (valOut_some hv) x (fun m' v s' W' hm st x1 r1 => by cases hm; exact k v s' W' st (up x1) r1) (fun c e s' hc => by cases hc)
    split at h
    · rename_i fn p1 y p2
      split at h
      · rename_i xs hy
        split at h
        · rename_i hfn
          cases h
          obtain ⟨hrow, hloc⟩ := x.f.own y _ hy
          obtain ⟨mm, hn, hm⟩ := x.f.m
          obtain ⟨y0, y1, y2⟩ := hm y _ hy hloc
          obtain ⟨r0, vs, kk, rfl, q1, q2, q3, q4⟩ := y2
          have hd : (y == ("__debug__" : Str)) = false := by rw [hrow]; decide
          refine PyProof.Rows.Call_Name1 ?_
          refine wpAny_mono (name_leaf O x.f x.i hfn) (fun v s' q => ?_) fun _ _ q => q
          obtain ⟨rfl, q⟩ := q
          simp only [Rd] at q
          subst q
          refine callWith_builtin rfl (evalArgs_plain ?_)
          refine wpAny_items_cons (pos := p1) (rest := []) (e := .Name y p2) ?_ rfl
          refine wpAny_Name (wpAny_loadName_local x.f.kind hloc hn y1 (wpAny_items_nil ?_)) hd
          have hl := RdL.length q3
          refine call_len_list (isList q2) (by rw [List.size_toArray]; omega) ?_
          rw [List.size_toArray, hl]
          exact k _ _ W (.refl _ _ _) (x.stay (Nat.le_add_right _ 2)) rd_int
        · cases h
      · exact gen h
    · exact gen h
  · -- attribute
    split at h
    · cases h
    · rename_i ho
      obtain ⟨p1, h1, h2⟩ := Option.bind_eq_some_iff.mp h
      obtain ⟨v0, h3, h4⟩ := Option.map_eq_some_iff.mp h2
      cases h4
      rw [attr_eq ho]
      refine wpAny_bind (H h1 x' fun v s1 W1 st1 x1 r1 => wpAny_bind (wpAny_standAt (wpAny_bind (wpAny_holding ?_))))
      exact x1.fin (attr_leaf O x1.i r1 h3) fun v' s' W' st2 x2 r2 => wpAny_bind (wpAny_letTemporaryGo (wpAny_pure (k _ _ _ (st1.trans st2) (up x2) r2)))
  · -- slice
    obtain ⟨p1, h1, h2⟩ := Option.bind_eq_some_iff.mp h
    obtain ⟨a1, h3, h4⟩ := Option.bind_eq_some_iff.mp h2
    obtain ⟨b1, h5, h6⟩ := Option.bind_eq_some_iff.mp h4
    obtain ⟨v0, h7, h8⟩ := Option.map_eq_some_iff.mp h6
    cases h8
    refine PyProof.Rows.Subscript_ (H h1 x' fun va s1 W1 st1 x1 r1 => ?_)
    refine wpAny_Slice (bound_ok H h3 x1 fun vl s2 W2 st2 x2 r2 => bound_ok H h5 x2 fun vu s3 W3 st3 x3 r3 => wpAny_pure ?_)
    obtain ⟨st4, x4, nf, get, sees⟩ := push_ok (o := { cls := .type "slice", data := .fields #[vl, vu, .none] }) x3 rfl
    have ra := ((r1.sees (x1.i.sees0 st2)).sees (x2.i.sees0 st3)).sees sees
    exact x4.fin (slice_leaf (ops := []) x4.i ra ⟨_, get, rfl, rfl⟩ r2 r3 h7 (fun o i => rfl)) fun v s' W' st5 x5 r5 => k v s' W' ((((st1.trans st2).trans st3).trans st4).trans st5) (up x5) r5
  · -- item
    rename_i ob ie pp hh
    split at h
    · cases h
    · rename_i hi
      obtain ⟨p1, h1, h2⟩ := Option.bind_eq_some_iff.mp h
      obtain ⟨q1, h3, h4⟩ := Option.bind_eq_some_iff.mp h2
      obtain ⟨v0, h5, h6⟩ := Option.map_eq_some_iff.mp h4
      cases h6
      refine PyProof.Rows.Subscript_ (H h1 x' fun va s1 W1 st1 x1 r1 => H h3 x1 fun vb s2 W2 st2 x2 r2 => ?_)
      refine x2.fin (item_leaf O x2.i (r1.sees (x1.i.sees0 st2)) r2 h5 fun o i => ?_) fun v s' W' st3 x3 r3 => k v s' W' ((st1.trans st2).trans st3) (up x3) r3
      cases ie <;> first | rfl | cases hi
  · -- text
    split at h
    · rename_i hlen
      have hlen := Nat.le_of_ble_eq_true hlen
      obtain ⟨S1, h1, h2⟩ := Option.map_eq_some_iff.mp h
      cases h2
      refine wpAny_JoinedStr (joinGo_ok H h1 x' (by show 0 + _ ≤ _; simp only [List.length_cons]; omega) fun out s1 W1 st1 x1 hz => ⟨by rw [sizeLine_eq]; omega, ?_⟩)
      refine k _ _ W1 st1 (up (x1.stay (Nat.le_succ _))) ?_
      simp only [Rd]
      exact ⟨_, _, rfl⟩
    · cases h
  · cases h
end
end Mine
namespace Mine
set_option maxRecDepth 100000
open PySem PySem.W PySem.Calls PyProof.Rows

def Ends (fl : Fl) (f : Flow) (W : Wd) (h : Heap) : Prop := match fl, f with
  | .next, .next => True
  | .brk, .brk => True
  | .cont, .cont => True
  | .ret m, .ret v => Rd W h m v
  | _, _ => False

/-- an exception of class `c`, made by this very frame -/
def XM (B : Bs) (n : Nat) (A : Around) (W : Wd) (sc : Scope) (mu : List Addr) (env : Env) (s : Shared) (c : Addr) (S' : Sto) (e : Value) (s' : Shared) : Prop :=
  ∃ (ea : Addr) (hm : Heap) (W' : Wd) (l2 : Loc) (mu2 : List Addr) (vs : List Value), e = .ref ea ∧ memN c B.T.exc = true ∧ Heap.MadeExcOf hm s'.heap ea (.ref c) vs ∧ Step mu W s.heap W' hm ∧
    Ok B n A W' sc l2 mu2 env S' { s' with heap := hm } ∧ (∀ a ∈ mu2, a ∈ mu ∨ s.heap.objs.size ≤ a) ∧ hm.objs.size ≤ s'.heap.objs.size

/-- the frame at the top of the stack -/
structure Top (A : Around) (env : Env) (mu : List Addr) : Prop where
  st : ∃ outer, A.frames = some (env :: outer) ∧ (∀ e ∈ outer, ∀ L, e.frame = some L → L ∉ mu) ∧ ∀ x, env.kindOf x = some .cell → outer = []
  fr : env.frame = some env.locals

def ExOk (B : Bs) (r : Rec) (n : Nat) : Prop := ∀ {sc : Scope} {l : Loc} {S : Sto} {t : Stmt} {fl : Fl} {l' : Loc} {S' : Sto}, r.ex sc l S t = some (fl, l', S') →
  ∀ {A : Around} {W : Wd} {mu : List Addr} {env : Env} {s : Shared} {Q : Flow → Shared → Prop} {E : Value → Shared → Prop}, Ok B n A W sc l mu env S s → Top A env mu →
  (∀ f s' W' mu', Step mu W s.heap W' s'.heap → Ok B n A W' sc l' mu' env S' s' → (∀ a ∈ mu', a ∈ mu ∨ s.heap.objs.size ≤ a) → Ends fl f W' s'.heap → Q f s') →
  (∀ c e s', fl = .exc c → XM B n A W sc mu env s c S' e s' → E e s') → wpAny (Mo B) A (exec t env) Q E s

section
variable {B : Bs} {A : Around} {W W' W1 : Wd} {S S' : Sto} {s s' s1 : Shared} {m a b : MV} {v va vb : Value} {E : Value → Shared → Prop} {sc csc : Scope} {l l' l0 : Loc} {mu mu' mu1 ks : List Addr} {env : Env} {h h' : Heap} {n n' : Nat} {r : Rec} {Q : Flow → Shared → Prop} {I D C : Addr} {ms rs : List MV} {fl : Fl}

theorem Top.next (t : Top A env mu) (x : Ok B n A W sc l mu env S s) (i : ∀ a ∈ mu', a ∈ mu ∨ s.heap.objs.size ≤ a) : Top A env mu' := by
  obtain ⟨⟨outer, h1, h2, h4⟩, h3⟩ := t
  refine ⟨⟨outer, h1, fun e he L hL hm => ?_, h4⟩, h3⟩
  rcases i L hm with q | q
  · exact h2 e he L hL q
  · obtain ⟨fs, g1, g2⟩ := x.a.fr
    rw [h1] at g1; cases g1
    obtain ⟨_, L', o, e1, _, _, e4, _⟩ := g2 e (.tail _ he)
    rw [hL] at e1; cases e1
    exact absurd (Heap.lt_size e4) (Nat.not_lt.mpr q)

theorem XM.before {c : Addr} {e : Value} (st : Step mu W s.heap W1 s1.heap) (i : ∀ a ∈ mu1, a ∈ mu ∨ s.heap.objs.size ≤ a) (x : XM B n A W1 sc mu1 env s1 c S' e s') : XM B n A W sc mu env s c S' e s' := by
  obtain ⟨ea, hm, W', l2, mu2, vs, h1, h0, h2, h3, h4, h5, h6⟩ := x
  refine ⟨ea, hm, W', l2, mu2, vs, h1, h0, h2, st.comp h3 i, h4, fun a e => ?_, h6⟩
  rcases h5 a e with q | q
  · exact i a q
  · exact .inr (Nat.le_trans st.size q)
theorem inside (i : ∀ a ∈ mu1, a ∈ mu ∨ h.objs.size ≤ a) (hs : h.objs.size ≤ h'.objs.size) (j : ∀ a ∈ mu', a ∈ mu1 ∨ h'.objs.size ≤ a) : ∀ a ∈ mu', a ∈ mu ∨ h.objs.size ≤ a := fun a e => by
  rcases j a e with q | q
  · exact i a q
  · exact .inr (Nat.le_trans hs q)

theorem exs_ok (H : ExOk B r n) : ∀ {ts : List Stmt} {l : Loc} {S : Sto} {fl : Fl} {l' : Loc} {S' : Sto} {W : Wd} {mu : List Addr} {s : Shared} {Q : Flow → Shared → Prop}, exs (fun l s t => r.ex sc l s t) ts l S = some (fl, l', S') → Ok B n A W sc l mu env S s → Top A env mu →
    (∀ f s' W' mu', Step mu W s.heap W' s'.heap → Ok B n A W' sc l' mu' env S' s' → (∀ a ∈ mu', a ∈ mu ∨ s.heap.objs.size ≤ a) → Ends fl f W' s'.heap → Q f s') →
    (∀ c e s', fl = .exc c → XM B n A W sc mu env s c S' e s' → E e s') → wpAny (Mo B) A (execs ts env) Q E s
  | [], l, S, fl, l', S', W, mu, s, Q, h, x, t, k, kE => by
    cases h
    exact wpAny_execs_nil (k _ _ _ _ (.refl _ _ _) x (fun a e => .inl e) trivial)
  | st :: ts, l, S, fl, l', S', W, mu, s, Q, h, x, t, k, kE => by
    unfold exs at h
    obtain ⟨⟨fl1, l1, S1⟩, h1, h2⟩ := Option.bind_eq_some_iff.mp h
    refine wpAny_execs_cons (H h1 x t (fun f s1 W1 mu1 st1 x1 i1 e1 => ?_) fun c e s' hc xm => ?_)
    · cases fl1 with
      | next =>
        cases f <;> simp only [Ends] at e1
        refine exs_ok H h2 x1 (t.next x i1) (fun f s' W' mu' st2 x2 i2 e2 => k f s' W' mu' (st1.comp st2 i1) x2 (inside i1 st1.size i2) e2) fun c e s' hc xm => kE c e s' hc (xm.before st1 i1)
      | brk => cases h2; cases f <;> simp only [Ends] at e1; exact k _ _ _ _ st1 x1 i1 trivial
      | cont => cases h2; cases f <;> simp only [Ends] at e1; exact k _ _ _ _ st1 x1 i1 trivial
      | ret m => cases h2; cases f <;> simp only [Ends] at e1; exact k _ _ _ _ st1 x1 i1 e1
      | exc c => cases f <;> simp only [Ends] at e1
    · subst hc
      cases h2
      exact kE c e s' rfl xm

theorem canSto_kind (F : FrOk W sc l mu env h) {x : Str} (hk : canSto sc x = true) : env.kindOf x = some .local ∨ env.kindOf x = some .cell := by
  unfold canSto at hk
  split at hk
  · rename_i q; exact .inl (F.names x _ q)
  · rename_i q; exact .inr (F.names x _ q)
  · cases hk
theorem notOwn {x : Str} (r : Rd W h m v) : ∀ xs, m = .own xs → x = rowsName ∧ env.kindOf x = some .local := fun xs e => by subst e; simp only [Rd] at r

/-- a value is stored, and the statement is at its end -/
theorem sto_end {x : Str} (X : Ok B n A W sc l mu env S s) (hk : canSto sc x = true) (rv : Rd W s.heap m v)
    (k : ∀ f s' W' mu', Step mu W s.heap W' s'.heap → Ok B n A W' sc (put x m l) mu' env S s' → (∀ a ∈ mu', a ∈ mu ∨ s.heap.objs.size ≤ a) → Ends .next f W' s'.heap → Q f s') :
    wpAny (Mo B) A (storeName env x v) (fun _ => Q .next) E s :=
  store_ok X (canSto_kind X.f hk) (RdF.of_rd rv) (notOwn rv) fun s' ks hks st kp lst x' => k _ _ W mu (st.weaken fun a e => .inl (hks a e)) x' (fun a e => .inl e) trivial

theorem swaps_no {e : Expr} {t : Option Expr} {p : Nat} (h : isComp e = false) : swapsWith e t p env = pure false := by
  cases e <;> first | rfl | cases h

theorem tuple_sto : ∀ {xs : List Expr} {ms : List MV} {vs : List Value} {l l' : Loc} {W : Wd} {s : Shared} {Q : Unit → Shared → Prop}, asgn sc xs ms l = some l' → RdL W s.heap ms vs → Ok B n A W sc l mu env S s →
    (∀ s', Step mu W s.heap W s'.heap → Ok B n A W sc l' mu env S s' → Q () s') → wpAny (Mo B) A (assignInOrder ((assignEach xs env).map (·.2)) vs) Q E s
  | [], [], vs, l, l', W, s, Q, h, r, x, k => by
    cases h
    simp only [RdL] at r; subst r
    exact wpAny_pure (k _ (.refl _ _ _) x)
  | [], _ :: _, vs, l, l', W, s, Q, h, r, x, k => by simp [asgn] at h
  | e :: es, [], vs, l, l', W, s, Q, h, r, x, k => by cases e <;> simp [asgn] at h
  | e :: es, m :: ms, vs, l, l', W, s, Q, h, r, x, k => by
    unfold asgn at h
    split at h
    · rename_i hh; cases hh
    · rename_i y py r' v' q' h1 h2
      cases h1; cases h2
      split at h
      · rename_i hk
        simp only [RdL] at r
        obtain ⟨v, q, rfl, r1, r2⟩ := r
        show wpAny (Mo B) A (assignInOrder (assign (.Name y py) env :: (assignEach es env).map (·.2)) (v :: q)) Q E s
        unfold assignInOrder
        refine wpAny_bind (wpAny_holding (wpAny_assign_Name (store_ok x (canSto_kind x.f hk) (RdF.of_rd r1) (notOwn r1) fun s1 ks hks st kp lst x1 => ?_)))
        have sees := st.sees x.i.heap.ds (fun a e => .inl (x.f.mu a (hks a e)).1)
        have stm := st.weaken (mu' := mu) fun a e => .inl (hks a e)
        exact tuple_sto h (RdL.sees sees r2) x1 fun s' st2 x2 => k s' (stm.trans st2) x2
      · cases h
    · cases h
end
end Mine
namespace Mine
set_option maxRecDepth 100000
open PySem PySem.W PySem.Calls PyProof.Rows

section
variable {B : Bs} {A : Around} {W W' W1 : Wd} {S S' : Sto} {s s' s1 : Shared} {m a b : MV} {v va vb : Value} {E : Value → Shared → Prop} {sc csc : Scope} {l l' l0 : Loc} {mu mu' mu1 ks : List Addr} {env : Env} {h h' : Heap} {n n' : Nat} {r : Rec} {Q : Flow → Shared → Prop} {I D C : Addr} {ms rs xs : List MV} {fl : Fl}

theorem apart_list {r0 : Addr} {vs : List Value} {k : Nat} (x : AOk n A W h) (e : h.get? r0 = some (listObj vs k)) : Apart A [r0] := fun fs hf en he L hL hm => by
  obtain ⟨fs', h1, h2⟩ := x.fr
  rw [hf] at h1; cases h1
  obtain ⟨_, L', o, e1, _, _, e4, es, ep, e5⟩ := h2 en he
  rw [hL] at e1; cases e1
  rw [List.mem_singleton.mp hm, e] at e4
  cases e4; cases e5

/-- the frame's own list -/
theorem own_at {y : Str} (x : Ok B n A W sc l mu env S s) (hy : lk y l = some (.own xs)) :
    y = rowsName ∧ env.kindOf y = some .local ∧ ∃ mm r0 vs k, s.heap.Ns env.locals mm ∧ mm y = some (.ref r0) ∧ r0 ∈ mu ∧ s.heap.get? r0 = some (listObj vs k) ∧ RdL W s.heap xs vs ∧ xs.length ≤ 1000000 ∧ r0 ≠ env.locals := by
  obtain ⟨h1, h2⟩ := x.f.own y _ hy
  obtain ⟨mm, hn, hm⟩ := x.f.m
  obtain ⟨y0, y1, r0, vs, k, rfl, q1, q2, q3, q4⟩ := hm y _ hy h2
  refine ⟨h1, h2, mm, r0, vs, k, hn, y1, q1, q2, q3, q4, fun z => ?_⟩
  obtain ⟨o, es, ep, ho, hd, _⟩ := hn
  rw [← z, q2] at ho; cases ho; cases hd

theorem own_name {y : Str} {p : Pos} {Q : Value → Shared → Prop} (x : Ok B n A W sc l mu env S s) (hy : lk y l = some (.own xs)) (k : ∀ r0 vs k, r0 ∈ mu → s.heap.get? r0 = some (listObj vs k) → RdL W s.heap xs vs → Q (.ref r0) s) :
    wpAny (Mo B) A (eval (.Name y p) env) Q E s := by
  obtain ⟨h1, h2, mm, r0, vs, kk, hn, y1, q1, q2, q3, q4, q5⟩ := own_at x hy
  have hd : (y == ("__debug__" : Str)) = false := by rw [h1]; decide
  exact wpAny_Name (wpAny_loadName_local x.f.kind h2 hn y1 (k r0 vs kk q1 q2 q3)) hd

/-- one more in the frame's own list -/
theorem own_append {y : Str} {r0 : Addr} {Q : Value → Shared → Prop} (x : Ok B n A W sc l mu env S s) (hy : lk y l = some (.own xs)) (hr : ∀ mm, s.heap.Ns env.locals mm → mm y = some (.ref r0)) (rv : Rd W s.heap m v) (hz : xs.length ≤ 1000)
    (k : ∀ s', Step mu W s.heap W s'.heap → Ok B n A W sc (put y (.own (xs ++ [m])) l) mu env S s' → Q .none s') :
    wpAny (Mo B) A (call (.builtin "list.append") [.ref r0, v]) Q E s := by
  obtain ⟨h1, h2, mm, r1, vs, kk, hn, y1, q1, q2, q3, q4, q5⟩ := own_at x hy
  have := (hr mm hn).symm.trans y1
  cases this
  have hlen := RdL.length q3
  refine wpAny_more (wpAny_list_append_plain (items := vs.toArray) (hsz := by rw [List.size_toArray, hlen, sizeLine_eq]; omega) ⟨_, q2⟩ fun h5 hl5 hs5 hs ht => ?_)
  obtain ⟨n5, e5⟩ := hl5
  rw [show vs.toArray.push v = (vs ++ [v]).toArray by simp] at e5
  have kp : ∀ a o, a ∉ [r0] → s.heap.get? a = some o → h5.get? a = some o := fun a o n e => hs5.extBut a o (by simpa using n) e
  obtain ⟨H, st⟩ := x.i.heap.kept kp (fun a e => by rw [List.mem_singleton.mp e]; exact x.f.mu _ q1) hs
  have sees := st.sees x.i.heap.ds (fun a e => .inl (by rw [List.mem_singleton.mp e]; exact (x.f.mu _ q1).1))
  have F := x.f
  have new : RdF W h5 mu (.own (xs ++ [m])) (.ref r0) := by
    refine ⟨r0, vs ++ [v], n5, rfl, q1, e5, RdL.append (RdL.sees sees q3) ?_, by rw [List.length_append]; simp; omega⟩
    simp only [RdL]; exact ⟨v, [], rfl, rv.sees sees, rfl⟩
  have old : ∀ z w y0, z ≠ y → lk z l = some w → RdF W s.heap mu w y0 → RdF W h5 mu w y0 := fun z w y0 hzy e r => by
    have hno : ∀ ys, w ≠ .own ys := fun ys q => hzy (((F.own z ys (by rw [← q]; exact e)).1).trans h1.symm)
    exact RdF.of_rd ((r.rd hno).sees sees)
  refine k _ (st.weaken fun a e => .inl (by rw [List.mem_singleton.mp e]; exact q1)) ⟨x.a.kept kp (apart_list x.a q2), ⟨F.kind, F.gl, F.bl, F.names, ⟨mm, hn.at' fun o e => hs5.extBut _ o q5.symm e, fun z w e kz => ?_⟩, fun z kz => ?_, F.L, F.inj, fun z ys e => ?_, F.mu⟩, ⟨H, x.i.gens, x.i.os⟩, x.t⟩
  · rw [lk_put] at e
    by_cases hzy : z = y
    · rw [if_pos hzy] at e; cases e
      exact ⟨_, by rw [hzy]; exact y1, new⟩
    · rw [if_neg hzy] at e
      obtain ⟨F1, F2, F3⟩ := F.m
      obtain ⟨y0, y2, y3⟩ := F3 z w e kz
      obtain ⟨o1, es1, ep1, ho1, hd1, sk1, f1⟩ := F2
      obtain ⟨o2, es2, ep2, ho2, hd2, sk2, f2⟩ := hn
      rw [ho1] at ho2; cases ho2
      rw [hd1] at hd2; cases hd2
      exact ⟨y0, by rw [← f2, f1]; exact y2, old z w y0 hzy e y3⟩
  · obtain ⟨c, v0, c1, ⟨o, ho, hd⟩, c3, c5⟩ := F.cell z kz
    refine ⟨c, v0, c1, ⟨o, hs5.extBut c o (fun q => ?_) ho, hd⟩, c3, fun w e => ?_⟩
    · rw [q, q2] at ho; cases ho; cases hd
    · rw [lk_put] at e
      by_cases hzy : z = y
      · rw [hzy, h2] at kz; cases kz
      · rw [if_neg hzy] at e
        obtain ⟨y0, y2, y3⟩ := c5 w e
        exact ⟨y0, y2, old z w y0 hzy e y3⟩
  · rw [lk_put] at e
    by_cases hzy : z = y
    · rw [hzy]; exact ⟨h1, h2⟩
    · rw [if_neg hzy] at e; exact F.own z ys e

theorem FrOk.grow (F : FrOk W sc l mu env h) (i : ∀ a ∈ mu, a ∈ mu') (hm : ∀ a ∈ mu', a ∈ W.no ∧ a ∉ W.ds) : FrOk W sc l mu' env h := by
  have mv : ∀ {m v}, RdF W h mu m v → RdF W h mu' m v := fun {m v} r => by
    cases m <;> try exact r
    obtain ⟨r, vs, n, rfl, q1, q2, q3, q4⟩ := r
    exact ⟨r, vs, n, rfl, i r q1, q2, q3, q4⟩
  obtain ⟨m, hn, hm'⟩ := F.m
  refine ⟨F.kind, F.gl, F.bl, F.names, ⟨m, hn, fun x v e k => ?_⟩, fun x k => ?_, i _ F.L, F.inj, F.own, hm⟩
  · obtain ⟨y, y1, y2⟩ := hm' x v e k
    exact ⟨y, y1, mv y2⟩
  · obtain ⟨c, v0, c1, c2, c3, c5⟩ := F.cell x k
    refine ⟨c, v0, c1, c2, i _ c3, fun v e => ?_⟩
    obtain ⟨y, y1, y2⟩ := c5 v e
    exact ⟨y, y1, mv y2⟩
theorem Ok.take {D : Addr} (x : Ok B n A W sc l mu env S s) (h1 : D ∈ W.no) (h2 : D ∉ W.ds) : Ok B n A W sc l (D :: mu) env S s :=
  ⟨x.a, x.f.grow (fun a e => .tail _ e) (fun a e => by rcases List.mem_cons.mp e with rfl | e; exact ⟨h1, h2⟩; exact x.f.mu a e), x.i, x.t⟩

/-- the frame's own list becomes a list like any other -/
theorem freeze {y : Str} (x : Ok B n A W sc l mu env S s) (hy : lk y l = some (.own xs)) :
    ∃ W' mu' r0 vs k, Step mu W s.heap W' s.heap ∧ Ok B n A W' sc (put y (.list xs) l) mu' env S s ∧ (∀ a ∈ mu', a ∈ mu) ∧ (∀ mm, s.heap.Ns env.locals mm → mm y = some (.ref r0)) ∧ s.heap.get? r0 = some (listObj vs k) ∧ RdL W' s.heap xs vs ∧ r0 ∉ W'.ds ∧ r0 ∉ mu' := by
  obtain ⟨h1, h2, mm, r0, vs, kk, hn, y1, q1, q2, q3, q4, q5⟩ := own_at x hy
  have hd := (x.f.mu r0 q1).2
  have F := x.f
  have hmem : ∀ a, a ∈ mu.filter (fun a => !Nat.beq a r0) ↔ a ∈ mu ∧ a ≠ r0 := fun a => by
    rw [List.mem_filter]
    refine and_congr_right fun _ => ?_
    cases h : Nat.beq a r0 with
    | true => simp [Nat.eq_of_beq_eq_true h]
    | false => simp [Nat.ne_of_beq_eq_false h]
  have new : RdF (W.bare r0) s.heap (mu.filter (fun a => !Nat.beq a r0)) (.list xs) (.ref r0) := by
    simp only [RdF, Rd]
    exact ⟨r0, vs, kk, rfl, fun z => (bare_mem.mp z).2 rfl, q2, RdL.sees bare_sees q3, q4⟩
  have old : ∀ z w y0, z ≠ y → lk z l = some w → RdF W s.heap mu w y0 → RdF (W.bare r0) s.heap (mu.filter (fun a => !Nat.beq a r0)) w y0 := fun z w y0 hzy e r => by
    have hno : ∀ ys, w ≠ .own ys := fun ys q => hzy (((F.own z ys (by rw [← q]; exact e)).1).trans h1.symm)
    exact RdF.of_rd ((r.rd hno).sees bare_sees)
  have hc : ∀ c v0, s.heap.IsCell c v0 → c ≠ r0 := fun c v0 hc z => by
    obtain ⟨o, ho, hd'⟩ := hc
    rw [z, q2] at ho; cases ho; cases hd'
  refine ⟨W.bare r0, mu.filter (fun a => !Nat.beq a r0), r0, vs, kk, ⟨fun _ _ _ _ e => e, Nat.le_refl _, fun a e _ => ?_, fun a e => .inl (bare_mem.mp e).1, fun _ _ e => e, fun _ e => .inl e⟩, ⟨?_, ⟨F.kind, F.gl, F.bl, F.names, ⟨mm, hn, fun z w e kz => ?_⟩, fun z kz => ?_, (hmem _).mpr ⟨F.L, q5.symm⟩, F.inj, fun z ys e => ?_, fun a e => ⟨bare_mem.mpr ⟨(F.mu a ((hmem a).mp e).1).1, ((hmem a).mp e).2⟩, (F.mu a ((hmem a).mp e).1).2⟩⟩, ⟨x.i.heap.bare hd, x.i.gens, x.i.os⟩, x.t⟩, fun a e => ((hmem a).mp e).1, fun mm' hn' => ?_, q2, RdL.sees bare_sees q3, hd, fun z => ((hmem _).mp z).2 rfl⟩
  · by_cases ha : a = r0
    · exact .inr (by rw [ha]; exact q1)
    · exact .inl (bare_mem.mpr ⟨e, ha⟩)
  · have ap := apart_list x.a q2
    obtain ⟨fs, g1, g2⟩ := x.a.fr
    refine ⟨x.a.handled, x.a.guards, x.a.depth, x.a.units, fs, g1, fun e he => ?_⟩
    obtain ⟨k, L, o, e1, e2, e3, e4, e5⟩ := g2 e he
    exact ⟨k, L, o, e1, bare_mem.mpr ⟨e2, fun z => ap fs g1 e he L e1 (by rw [z]; exact .head _)⟩, e3, e4, e5⟩
  · rw [lk_put] at e
    by_cases hzy : z = y
    · rw [if_pos hzy] at e; cases e
      exact ⟨_, by rw [hzy]; exact y1, new⟩
    · rw [if_neg hzy] at e
      obtain ⟨F1, F2, F3⟩ := F.m
      obtain ⟨y0, y2, y3⟩ := F3 z w e kz
      obtain ⟨o1, es1, ep1, ho1, hd1, sk1, f1⟩ := F2
      obtain ⟨o2, es2, ep2, ho2, hd2, sk2, f2⟩ := hn
      rw [ho1] at ho2; cases ho2
      rw [hd1] at hd2; cases hd2
      exact ⟨y0, by rw [← f2, f1]; exact y2, old z w y0 hzy e y3⟩
  · obtain ⟨c, v0, c1, c2, c3, c5⟩ := F.cell z kz
    refine ⟨c, v0, c1, c2, (hmem c).mpr ⟨c3, hc c v0 c2⟩, fun w e => ?_⟩
    rw [lk_put] at e
    by_cases hzy : z = y
    · rw [hzy, h2] at kz; cases kz
    · rw [if_neg hzy] at e
      obtain ⟨y0, y2, y3⟩ := c5 w e
      exact ⟨y0, y2, old z w y0 hzy e y3⟩
  · rw [lk_put] at e
    by_cases hzy : z = y
    · rw [if_pos hzy] at e; cases e
    · rw [if_neg hzy] at e; exact F.own z ys e
  · obtain ⟨o1, es1, ep1, ho1, hd1, sk1, f1⟩ := hn'
    obtain ⟨o2, es2, ep2, ho2, hd2, sk2, f2⟩ := hn
    rw [ho1] at ho2; cases ho2
    rw [hd1] at hd2; cases hd2
    rw [← f1, f2]; exact y1

/-- `rows = [...]` -/
theorem rows_comp (O : BOk B) (H : EvOk B r n) (HT : TrOk B r n) {elt iter : Expr} {x y : Str} {px py pos spos : Pos} {ifs : List Expr}
    (h : compS B.T r sc l S elt x iter ifs csc = some (rs, S')) (hset : isSetD iter = false) (hline : Nat.beq py.line pos.line = true) (hnm : memS y (csc.names.map fun p => p.1) = false) (hy : y = rowsName) (hloc : isLocal sc y = true) (X : Ok B n A W sc l mu env S s)
    (k : ∀ f s' W' mu', Step mu W s.heap W' s'.heap → Ok B n A W' sc (put y (.own rs) l) mu' env S' s' → (∀ a ∈ mu', a ∈ mu ∨ s.heap.objs.size ≤ a) → Ends .next f W' s'.heap → Q f s') :
    wpAny (Mo B) A (exec (.Assign [.Name y py] (.ListComp elt [⟨.Name x px, iter, ifs, 0⟩] csc pos) spos) env) Q E s := by
  have hk : env.kindOf y = some .local := by
    unfold isLocal at hloc
    split at hloc
    · rename_i q; exact X.f.names y _ q
    · cases hloc
  have hsw : swapsWith (.ListComp elt [⟨.Name x px, iter, ifs, 0⟩] csc pos) (some (.Name y py)) spos.line env = pure true := by
    show (pure (env.blockKind == .function && env.kindOf y == some .local && py.line == pos.line && !(csc.names.any fun (n, k) => n == y && (k == .local || k == .cell))) : Sem Bool) = _
    have h1 : (env.blockKind == .function) = true := by unfold Env.blockKind; rw [X.f.kind]; rfl
    have h2 : (env.kindOf y == some .local) = true := by rw [hk]; rfl
    have h3 : (py.line == pos.line) = true := by rw [beq_iff_eq]; exact Nat.eq_of_beq_eq_true hline
    have h4 : (csc.names.any fun (n, k) => n == y && (k == .local || k == .cell)) = false := by
      rw [List.any_eq_false]
      intro p hp
      have : p.1 ≠ y := fun e => by
        have := memS_iff.mpr (List.mem_map_of_mem (f := fun p : Str × NameKind => p.1) hp)
        rw [e, hnm] at this; cases this
      have : (p.1 == y) = false := beq_eq_false_iff_ne.mpr this
      simp [this]
    rw [h1, h2, h3, h4]; rfl
  rw [exec_Assign_Name_used _ _ _ _ hsw]
  refine wpAny_bind (wpAny_standAt (wpAny_bind ?_))
  show wpAny _ A (do let _ ← comprehension (.ListComp elt [⟨.Name x px, iter, ifs, 0⟩] csc pos) csc env _ (newList []) false (eval iter env) (some (assign (.Name y py) env))) _ _ s
  refine wpAny_bind (wpAny_mono (comp_block (Q := fun _ s' => Q .next s') O H HT h hset X fun D C s' W' ce => ?_) (fun _ s' hq => wpAny_pure (wpAny_pure hq)) fun _ _ e => e)
  obtain ⟨⟨ys, nn, eD, rD⟩, d2, d3, d4⟩ := ce.acc
  have hCL : C ≠ env.locals := fun z => ce.noC.2.2 (z ▸ ce.ok.f.L)
  have XD := ce.ok.take d2 d3
  show wpAny (Mo B) A (assign (.Name y py) env (.ref D)) _ _ s'
  refine wpAny_assign_Name (store_local (m := .own rs) XD hk ⟨D, ys, nn, rfl, .head _, eD, rD, ce.len⟩ (fun _ _ => ⟨hy, hk⟩) fun s2 st2 kp2 lst2 x2 => ?_)
  obtain ⟨mC, hmC⟩ := ce.ns
  refine ⟨mC, hmC.at' fun o e => kp2 C o (by simpa using hCL) e, fun h' hsb => ?_⟩
  have kp3 : ∀ a o, a ∉ [C] → s2.heap.get? a = some o → h'.get? a = some o := fun a o n e => hsb.extBut a o (by simpa using n) e
  obtain ⟨x3, st3⟩ := x2.kept (k := s2.toks) kp3 (fun a e => by
    rw [List.mem_singleton.mp e]
    exact ⟨ce.noC.1, ce.noC.2.1, fun z => by rcases List.mem_cons.mp z with q | q; exact ce.neq q.symm; exact ce.noC.2.2 q⟩) (Nat.le_of_eq hsb.1.symm) ce.apC x2.t
  refine k _ _ W' (D :: mu) ?_ x3 (fun a e => by rcases List.mem_cons.mp e with rfl | e; exact .inr ce.lenD; exact .inl e) trivial
  have e1 : Step mu W s.heap W' s'.heap := ce.st.weaken fun a e => nomatch e
  have e2 : Step mu W s.heap W' s2.heap := e1.comp st2 fun a e => .inl (by rw [List.mem_singleton.mp e]; exact X.f.L)
  exact e2.comp st3 fun a e => .inr (by rw [List.mem_singleton.mp e]; exact ce.lenC)
end
end Mine
namespace Mine
set_option maxRecDepth 100000
open PySem PySem.W PySem.Calls PyProof.Rows

section
variable {B : Bs} {A : Around} {W W' W1 : Wd} {S S' : Sto} {s s' s1 : Shared} {m a b : MV} {v va vb : Value} {E : Value → Shared → Prop} {sc csc : Scope} {l l' l0 : Loc} {mu mu' mu1 ks : List Addr} {env : Env} {h h' : Heap} {n n' : Nat} {r : Rec} {Q : Flow → Shared → Prop} {I D C : Addr} {ms rs xs : List MV} {fl : Fl}

theorem mfilter_all {α : Type} {p : α → Bool} : ∀ {l : List α} {a : α}, a ∈ mfilter p l → p a = true
  | [], a, h => nomatch h
  | b :: l, a, h => by
    unfold mfilter at h
    split at h
    · rename_i hb
      rcases List.mem_cons.mp h with rfl | h
      · exact hb
      · exact mfilter_all h
    · exact mfilter_all h
theorem lk_restr {x : Str} {ks : List Str} : ∀ {l : Loc} {v : MV}, lk x (mfilter (fun p => memS p.1 ks) l) = some v → memS x ks = true ∧ lk x l = some v
  | [], v, h => by cases h
  | p :: l, v, h => by
    unfold mfilter at h
    split at h
    · rename_i hp
      unfold lk at h ⊢
      split at h
      · rename_i hx
        rw [seq_iff.mp hx]
        exact ⟨hp, h⟩
      · exact lk_restr h
    · rename_i hp
      obtain ⟨h1, h2⟩ := lk_restr h
      refine ⟨h1, ?_⟩
      unfold lk
      split
      · rename_i hx
        rw [← seq_iff.mp hx, h1] at hp; cases hp
      · exact h2
theorem Ok.restr (x : Ok B n A W sc l mu env S s) : Ok B n A W sc (restr l0 l) mu env S s := x.forget fun _ _ e => (lk_restr e).2

theorem for_ok (H : ExOk B r n) {x : Str} {px : Pos} {a : List Stmt} {R : Result → Shared → Prop} {W0 : Wd} {h0 : Heap} {mu0 : List Addr}
    (hsto : canSto sc x = true) (apI : Apart A [I]) (hI0 : h0.objs.size ≤ I)
    (h : forGo (fun l' s' => exs (fun l'' s'' t' => r.ex sc l'' s'' t') a l' s') x ms l S = some (fl, l', S'))
    (X : Ok B n A W sc l mu env S s) (T : Top A env mu) (it : IterAt B A W mu s.heap I ms) (st0 : Step mu0 W0 h0 W s.heap) (i0 : ∀ a ∈ mu, a ∈ mu0 ∨ h0.objs.size ≤ a)
    (k : ∀ f s' W' mu', Step mu0 W0 h0 W' s'.heap → Ok B n A W' sc l' mu' env S' s' → (∀ a ∈ mu', a ∈ mu0 ∨ h0.objs.size ≤ a) → Ends fl f W' s'.heap → R (.ok f) s')
    : (∀ c, fl ≠ .exc c) ∧ codeAny (Mo B) A (.forLoop (.Name x px) (.ref I) a [] env) R s := by
  have nx : ∀ c, fl ≠ .exc c := by
    intro c hc
    subst hc
    clear X T it st0 i0 k
    induction ms generalizing l S with
    | nil => simp [forGo] at h
    | cons m r ih =>
      unfold forGo at h
      obtain ⟨⟨fl1, l1, S1⟩, h1, h2⟩ := Option.bind_eq_some_iff.mp h
      cases fl1 with
      | next => exact ih h2
      | cont => exact ih h2
      | brk => cases h2
      | ret v => cases h2
      | exc c => cases h2
  refine ⟨nx, ?_⟩
  refine codeAny_forLoop (fun j s1 => ∃ ms1 l1 S1 W1 mu1, j = ms1.length ∧ forGo (fun l' s' => exs (fun l'' s'' t' => r.ex sc l'' s'' t') a l' s') x ms1 l1 S1 = some (fl, l', S') ∧ Ok B n A W1 sc l1 mu1 env S1 s1 ∧ Top A env mu1 ∧ IterAt B A W1 mu1 s1.heap I ms1 ∧ Step mu0 W0 h0 W1 s1.heap ∧ (∀ a ∈ mu1, a ∈ mu0 ∨ h0.objs.size ≤ a)) ?_ ms.length
    ⟨ms, l, S, W, mu, rfl, h, X, T, it, st0, i0⟩
  rintro j s1 ⟨ms1, l1, S1, W1, mu1, rfl, h1, X1, T1, it1, st1, i1⟩
  have hIn := it1.inFp
  cases ms1 with
  | nil =>
    simp only [forGo, Option.some.injEq, Prod.mk.injEq] at h1
    obtain ⟨rfl, rfl, rfl⟩ := h1
    refine done_ok it1 X1 hIn.2.2.1 apI fun s2 st2 x2 => ?_
    refine wpAny_execs_nil (k _ s2 W1 mu1 (st1.comp st2 fun a e => .inr (by rw [List.mem_singleton.mp e]; exact hI0)) x2 i1 trivial)
  | cons m0 ms2 =>
    refine next_ok it1 X1 hIn.2.2.1 apI fun v s2 st2 x2 rv it2 => ?_
    have st02 : Step mu0 W0 h0 W1 s2.heap := st1.comp st2 fun a e => .inr (by rw [List.mem_singleton.mp e]; exact hI0)
    refine wpAny_assign_Name (store_ok x2 (canSto_kind x2.f hsto) (RdF.of_rd rv) (notOwn rv) fun s3 ks hks st3 kp3 lst3 x3 => ?_)
    have hmu : ∀ a ∈ mu1, a ∈ W1.no := fun a e => (x2.f.mu a e).1
    have it3 : IterAt B A W1 mu1 s3.heap I ms2 := it2.step x2.i.heap hmu (st3.weaken fun a e => .inl (hks a e)) (fun a e => .inl e)
    have st03 : Step mu0 W0 h0 W1 s3.heap := st02.comp st3 fun a e => i1 a (hks a e)
    unfold forGo at h1
    obtain ⟨⟨fl1, l4, S4⟩, g1, g2⟩ := Option.bind_eq_some_iff.mp h1
    refine exs_ok H g1 x3 T1 (fun f s4 W4 mu4 st4 x4 i4 e4 => ?_) (fun c e s' hc xm => by subst hc; cases g2)
    have st04 : Step mu0 W0 h0 W4 s4.heap := st03.comp st4 i1
    have i04 := inside i1 st03.size i4
    have go : ∀ {fl}, forGo (fun l' s' => exs (fun l'' s'' t' => r.ex sc l'' s'' t') a l' s') x ms2 (restr l1 l4) S4 = some (fl, l', S') → fl = fl → ∃ j, j < (m0 :: ms2).length ∧ ∃ ms1 l1 S1 W1 mu1, j = ms1.length ∧ forGo (fun l' s' => exs (fun l'' s'' t' => r.ex sc l'' s'' t') a l' s') x ms1 l1 S1 = some (fl, l', S') ∧ Ok B n A W1 sc l1 mu1 env S1 s4 ∧ Top A env mu1 ∧ IterAt B A W1 mu1 s4.heap I ms1 ∧ Step mu0 W0 h0 W1 s4.heap ∧ (∀ a ∈ mu1, a ∈ mu0 ∨ h0.objs.size ≤ a) := fun hg _ =>
      ⟨ms2.length, Nat.lt_succ_self _, ms2, restr l1 l4, S4, W4, mu4, rfl, hg, x4.restr, T1.next x3 i4, it3.step x3.i.heap hmu st4 i4, st04, i04⟩
    cases fl1 with
    | next => cases f <;> simp only [Ends] at e4; exact go g2 rfl
    | cont => cases f <;> simp only [Ends] at e4; exact go g2 rfl
    | brk => cases f <;> simp only [Ends] at e4; cases g2; exact k _ s4 W4 mu4 st04 x4 i04 trivial
    | ret mm => cases f <;> simp only [Ends] at e4; cases g2; exact k _ s4 W4 mu4 st04 x4 i04 e4
    | exc c => cases g2

theorem source_gen (O : BOk B) (H : EvOk B r n) {e : Expr} {Q : Value → Shared → Prop} (h : source B.T l e (r.ev sc l) S = some (ms, S')) (ho : ownName l e = none) (X : Ok B n A W sc l mu env S s)
    (K : ∀ I s' W', Step [] W s.heap W' s'.heap → Ok B n A W' sc l mu env S' s' → IterAt B A W' mu s'.heap I ms → Apart A [I] → s.heap.objs.size ≤ I → Q (.ref I) s') :
    wpAny (Mo B) A (eval e env) (fun v s1 => wpAny (Mo B) A (pyIter v) Q E s1) E s := by
  have gen : ∀ {p : MV × Sto}, r.ev sc l S e = some p → (items B.T p.1).map (fun xs => (xs, p.2)) = some (ms, S') → wpAny (Mo B) A (eval e env) (fun v s1 => wpAny (Mo B) A (pyIter v) Q E s1) E s := by
    intro p g1 g2
    obtain ⟨xs, g3, g4⟩ := Option.map_eq_some_iff.mp g2
    cases g4
    refine H g1 X fun v s1 W1 st1 x1 r1 => ?_
    exact iter_ok O x1 r1 g3 (fun a ha => (x1.f.mu a ha).1) fun I s2 W2 st2 x2 it ap hle => K I s2 W2 (st1.trans st2) x2 it ap (Nat.le_trans st1.size hle)
  unfold source at h
  split at h
  · rename_i y p
    split at h
    · rename_i xs hy
      simp only [ownName, hy] at ho
      cases ho
    · obtain ⟨p1, g1, g2⟩ := Option.bind_eq_some_iff.mp h
      exact gen g1 g2
  · obtain ⟨p1, g1, g2⟩ := Option.bind_eq_some_iff.mp h
    exact gen g1 g2
end
end Mine
namespace Mine
set_option maxRecDepth 100000
open PySem PySem.W PySem.Calls PyProof.Rows

def WhOk (B : Bs) (r : Rec) (n : Nat) : Prop := ∀ {sc : Scope} {c : Expr} {a : List Stmt} {l : Loc} {S : Sto} {fl : Fl} {l' : Loc} {S' : Sto}, r.wh sc c a l S = some (fl, l', S') → (∀ c, fl ≠ .exc c) ∧
  ∀ {A : Around} {W : Wd} {mu : List Addr} {env : Env} {s : Shared} {R : Result → Shared → Prop}, Ok B n A W sc l mu env S s → Top A env mu →
  (∀ f s' W' mu', Step mu W s.heap W' s'.heap → Ok B n A W' sc l' mu' env S' s' → (∀ a ∈ mu', a ∈ mu ∨ s.heap.objs.size ≤ a) → Ends fl f W' s'.heap → R (.ok f) s') →
  codeAny (Mo B) A (.whileLoop c a [] env) R s

section
variable {B : Bs} {A : Around} {W W' W1 : Wd} {S S' : Sto} {s s' s1 : Shared} {m a b : MV} {v va vb : Value} {E : Value → Shared → Prop} {sc csc : Scope} {l l' l0 : Loc} {mu mu' mu1 ks : List Addr} {env : Env} {h h' : Heap} {n n' : Nat} {r : Rec} {Q : Flow → Shared → Prop} {I D C : Addr} {ms rs xs : List MV} {fl : Fl}

theorem raise_ok (O : BOk B) (H : EvOk B r n) {c : Str} {cp cpos pos : Pos} {e : Expr} {a0 : Addr} {p1 : MV × Sto} (h1 : nameMV B.T sc l c = some (.ref a0)) (h2 : memN a0 B.T.exc = true) (hst : isStar e = false) (h3 : r.ev sc l S e = some p1)
    (X : Ok B n A W sc l mu env S s) (kE : ∀ e s', XM B n A W sc mu env s a0 p1.2 e s' → E e s') :
    wpAny (Mo B) A (exec (.Raise (some (.Call (.Name c cp) [e] [] cpos)) none pos) env) Q E s := by
  obtain ⟨x, bm, newId, initId, Bn, OC, FB, hb, hkp⟩ := O.exc a0 h2
  obtain ⟨tl, N, nm, q, bs, hdct, sn, sub, ab, col, dd, k0, k1, k2, k3, k5, mN, hC, hN, hni, T⟩ := OC.obj
  have he : starEach [e] env = [(false, eval e env)] := by rw [starEach_cons hst]; rfl
  show wpAny _ _ (do standAt pos; raiseStmt env (some (do let v ← eval (.Call (.Name c cp) [e] [] cpos) env; standAt pos; pure v)) none) _ _ _
  refine wpAny_bind (wpAny_standAt (wpAny_raiseStmt_made_sub (C := a0) (nm := nm) (q := q) (N := N) (bs := bs) (bm := tl) (hdct := hdct) (sn := sn) (sub := sub) (ab := ab) (col := col) (dd := dd) (k0 := k0) (k1 := k1) (k2 := k2) (k3 := k3) (k5 := k5) (newId := newId) (T.hasType FB.hasBase) X.a.handled ?_))
  refine wpAny_bind (PyProof.Rows.Call_Name1 ?_ he)
  refine wpAny_mono (name_leaf O X.f X.i h1) (fun v s' q => ?_) fun _ _ q => q
  obtain ⟨rfl, q⟩ := q
  simp only [Rd] at q
  subst q
  refine callWith_of (P := B.K.In) rfl (keeps_K hkp) (evalArgs_plain ?_)
  refine Calls.spliced_cons (H h3 X fun v s1 W1 st1 x1 r1 => Calls.spliced_nil ?_)
  refine ⟨O.KIn.keeps x1.i.heap.keep, ?_⟩
  have hC1 := x1.i.heap.keep _ _ hC
  have hN1 : s1.heap.Ns N mN := hN.at' fun o e => x1.i.heap.keep _ _ e
  have T1 := T.keeps x1.i.heap.keep
  obtain ⟨hh, g, d, tk, os⟩ := s1
  refine wpAny_more (wpAny_call_exc_subT FB T1 hC1 hN1 hni (fun h' ea hm hs ht => wpAny_bind (wpAny_standAt (wpAny_pure ?_))) (by rw [sizeLine_eq]; simp))
  obtain ⟨t, ht1, ht2, ht3⟩ := hm.there
  refine ⟨ea, t, rfl, hm.keeps _ _ hC1, ht1, kE _ _ ⟨ea, hh, W1, l, mu, [v], rfl, h2, hm, st1.weaken (fun a e => nomatch e), x1, fun a e => .inl e, hs⟩⟩
end
end Mine
namespace Mine
set_option maxRecDepth 100000
open PySem PySem.W PySem.Calls PyProof.Rows

/-- a function object of the table, and what it is -/
structure FnOk (B : Bs) (f : Addr) (fn : Fn) : Prop where
  obj : ∃ o fd, B.h₀.get? f = some o ∧ o.data = .func fd ∧ fd.scope = fn.scope ∧ fd.body = .stmts fn.body ∧ fd.closure = [] ∧ fd.globals = mainGlobals ∧ fd.builtins = builtinsNs ∧ B.h₀.CodeRec fd.code fd.qualname ∧
    ∀ vs, vs.length = fn.params.length → bindArgs fd ⟨vs, []⟩ = pure (fn.params.zip vs)
  kind : fn.scope.kind = .function
  co : fn.scope.isCoroutine = false
  gen : fn.scope.isGenerator = false
  names : ∀ x ∈ fn.scope.names, x.2 = .local ∨ x.2 = .globalImplicit
  params : ∀ x ∈ fn.params, fn.scope.names.lookup x = some .local
  nodup : fn.params.Nodup
  keep : keepIn B.K (.ref f) = true
def FnsOk (B : Bs) : Prop := ∀ f fn, lkN f B.T.fn = some fn → FnOk B f fn

section
variable {B : Bs} {A : Around} {W W' W1 : Wd} {S S' : Sto} {s s' s1 : Shared} {m a b : MV} {v va vb : Value} {E : Value → Shared → Prop} {sc csc : Scope} {l l' l0 : Loc} {mu mu' mu1 ks : List Addr} {env : Env} {h h' : Heap} {n n' : Nat} {r : Rec} {Q : Flow → Shared → Prop} {I D C : Addr} {ms rs xs : List MV} {fl : Fl}

theorem zip_look {W : Wd} {h : Heap} : ∀ {ps : List Str} {args : List MV} {vs : List Value} {l : Loc}, zipArgs ps args = some l → RdL W h args vs → ps.Nodup → vs.length = ps.length ∧
    ∀ x v, lk x l = some v → ∃ y, (ps.zip vs).lookup x = some y ∧ Rd W h v y
  | [], [], vs, l, e, r, _ => by
    simp only [RdL] at r; subst r
    cases e
    exact ⟨rfl, fun x v q => by cases q⟩
  | [], _ :: _, vs, l, e, r, _ => by cases e
  | _ :: _, [], vs, l, e, r, _ => by cases e
  | p :: ps, m :: args, vs, l, e, r, nd => by
    simp only [RdL] at r
    obtain ⟨v, q, rfl, r1, r2⟩ := r
    obtain ⟨l', e1, rfl⟩ := Option.map_eq_some_iff.mp e
    rw [List.nodup_cons] at nd
    obtain ⟨h1, h2⟩ := zip_look e1 r2 nd.2
    refine ⟨by simp [h1], fun x w e2 => ?_⟩
    unfold lk at e2
    rw [List.zip_cons_cons, List.lookup_cons]
    cases hq : seq x p with
    | true =>
      rw [hq] at e2; cases e2
      rw [seq_iff.mp hq]
      exact ⟨v, by simp, r1⟩
    | false =>
      rw [hq] at e2
      rw [beq_eq_false_iff_ne.mpr (seq_ne hq)]
      exact h2 x w e2
theorem lookup_reverse {α β : Type} [BEq α] [LawfulBEq α] : ∀ {l : List (α × β)}, (l.map (·.1)).Nodup → ∀ x, l.reverse.lookup x = l.lookup x
  | [], _, x => rfl
  | (k, v) :: r, nd, x => by
    rw [List.map_cons, List.nodup_cons] at nd
    rw [List.reverse_cons, List.lookup_append, lookup_reverse nd.2, List.lookup_cons]
    cases h : x == k with
    | true =>
      have e := beq_iff_eq.mp h
      subst e
      have : r.lookup x = none := by
        rw [List.lookup_eq_none_iff]
        intro p hp
        have hp' := List.mem_map_of_mem (f := fun p : α × β => p.1) hp
        have : p.1 ≠ x := fun e => nd.1 (by rw [← e]; exact hp')
        simpa using fun e => this e.symm
      rw [this]; simp
    | false =>
      show (List.lookup x r).or (List.lookup x ([] : List (α × β))) = List.lookup x ((k, v) :: r)
      rw [List.lookup_cons, h]
      cases List.lookup x r <;> rfl

theorem keepsUp {h h' : Heap} (k : ∀ b o, h.get? b = some o → h'.get? b = some o) : h.UpToSlots h' := Heap.UpToSlots.of_keeps k

theorem funFrames_of {h base : Heap} : ∀ {l : List Env}, (∀ e ∈ l, e.scope.kind ≠ .module ∧ ∃ L o, e.frame = some L ∧ base.get? L = none ∧ h.get? L = some o ∧ ∀ vs, o.data ≠ .fields vs) → h.FunFrames base l
  | [], _ => trivial
  | e :: r, q => ⟨(q e (.head _)).1, (q e (.head _)).2, funFrames_of fun e' he' => q e' (.tail _ he')⟩

theorem ca_step (O : BOk B) (FO : FnsOk B) (H : ExOk B r n) {f : Addr} {args : List MV} {out : Out} (h : caS B.T r f args S = some (out, S')) : keepIn B.K (.ref f) = true ∧
    ∀ {A : Around} {W : Wd} {s : Shared} {vs : List Value} {R : Result → Shared → Prop}, AOk (n + 1) A W s.heap → Inv B W S s → 1 ≤ s.toks → RdL W s.heap args vs →
    (∀ m v s' W', out = .val m → Step [] W s.heap W' s'.heap → Inv B W' S' s' → Rd W' s'.heap m v → s.toks ≤ s'.toks → R (.ok (.ret v)) s') →
    (∀ c e s', out = .exc c → XP B A W s c S' e s' → R (.error e) s') →
    codeAny (Mo B) A (.call (.ref f) ⟨vs, []⟩) R s := by
  unfold caS at h
  obtain ⟨fn, h1, h2⟩ := Option.bind_eq_some_iff.mp h
  obtain ⟨l, h3, h4⟩ := Option.bind_eq_some_iff.mp h2
  obtain ⟨⟨fl, l', S1⟩, h5, h6⟩ := Option.bind_eq_some_iff.mp h4
  have FK := FO f fn h1
  refine ⟨FK.keep, ?_⟩
  intro A W s vs R a I ht rv k kE
  obtain ⟨o, fd, f1, f2, f3, f4, f5, f6, f7, f8, f9⟩ := FK.obj
  obtain ⟨z1, z2⟩ := zip_look h3 rv FK.nodup
  have hbinds : (fn.params.zip vs).map (·.1) = fn.params := by rw [List.map_fst_zip]; omega
  have hmem : ∀ x ∈ fn.params.zip vs, fd.scope.names.lookup x.1 = some .local := fun x hx => by
    rw [f3]; exact FK.params _ (by rw [← hbinds]; exact List.mem_map_of_mem (f := fun p : Str × Value => p.1) hx)
  refine codeAny_more (codeAny_call_def (by have := a.depth; show A.depth < 1000; omega) (I.heap.keep _ _ f1) f2 (by exact O.nolimit.keeps I.heap.keep) (by exact f8.keeps I.heap.keep) f4 (BindsTo.of_eq (f9 vs z1)) (fun x hx => ?_) hmem (fun h₀ hns kp => ?_) (by rw [f3]; exact FK.co) (by rw [f3]; exact FK.gen) (by rw [f3]; exact FK.kind))
  · rw [f3] at hx
    rcases FK.names x hx with q | q <;> rw [q] <;> decide
  have hlt : s.heap.objs.size < h₀.objs.size := hns.lt
  have hs0 : s.heap.objs.size ≤ h₀.objs.size := Nat.le_of_lt hlt
  have st0 : Step [] W s.heap (W.hide s.heap.objs.size) h₀ := by
    refine ⟨fun a o _ _ e => kp a o e, hs0, fun a e _ => .inl (.tail _ e), fun a e => ?_, fun _ _ e => e, fun _ e => .inl e⟩
    rcases List.mem_cons.mp e with rfl | e
    · exact .inr (Nat.le_refl _)
    · exact .inl e
  have sees := st0.sees I.heap.ds (fun _ h => nomatch h)
  have hLd : s.heap.objs.size ∉ W.ds := fresh_notin I.heap I.heap.ds
  have H0 : HeapOk B (W.hide s.heap.objs.size) S h₀ := by
    have G := (I.heap.grown kp hs0)
    refine ⟨G.keep, G.size, fun a e => ?_, fun a e => .tail _ (G.ds a e), G.nd, G.len, fun i p e => ?_⟩
    · rcases List.mem_cons.mp e with rfl | e
      · exact ⟨I.heap.size, hlt⟩
      · exact G.no a e
    · obtain ⟨A', e1, e2, e3, e4, es, nn, e5, e6, e7, e8⟩ := I.heap.inst i p e
      refine ⟨A', e1, kp _ _ e2, fun hm => ?_, e4, es, nn, kp _ _ e5, e6, e7, fun x => ?_⟩
      · rcases List.mem_cons.mp hm with q | q
        · exact absurd (Heap.lt_size e2) (by rw [q]; exact Nat.lt_irrefl _)
        · exact e3 q
      · have := e8 x
        unfold RdO at this ⊢
        cases hq : A' x with
        | none => rw [hq] at this; exact this
        | some y => rw [hq] at this; obtain ⟨z, z1, z2⟩ := this; exact ⟨z, z1, z2.sees sees⟩
  have a1 := a.step0 I.heap st0
  obtain ⟨fs, g1, g2⟩ := a1.fr
  have hko : ∀ x, (callEnv fd s.heap.objs.size f).kindOf x = fn.scope.names.lookup x := fun x => by rw [← f3]; rfl
  have hkinds : ∀ x k, fn.scope.names.lookup x = some k → k = .local ∨ k = .globalImplicit := fun x k e => by
    obtain ⟨p, hp, e1⟩ : ∃ p ∈ fn.scope.names, p.2 = k := by
      have : ∀ (nl : List (Str × NameKind)), nl.lookup x = some k → ∃ p ∈ nl, p.2 = k := fun nl => by
        induction nl with
        | nil => intro q; cases q
        | cons p q ih =>
          intro e
          rw [show (p :: q) = ((p.1, p.2) :: q) from rfl, List.lookup_cons] at e
          cases hq : x == p.1 with
          | true => rw [hq] at e; exact ⟨p, .head _, Option.some.inj e⟩
          | false => rw [hq] at e; obtain ⟨p', h1, h2⟩ := ih e; exact ⟨p', .tail _ h1, h2⟩
      exact this _ e
    rw [← e1]; exact FK.names p hp
  obtain ⟨oL, esL, epL, hoL, hdL, skL, ffL⟩ := id hns
  have X0 : Ok B n (A.deeper (callEnv fd s.heap.objs.size f)) (W.hide s.heap.objs.size) fn.scope l [s.heap.objs.size] (callEnv fd s.heap.objs.size f) S { s with heap := h₀, toks := s.toks + (fn.params.zip vs).length } := by
    refine ⟨⟨a.handled, a.guards, by show A.depth + 1 + 2 * n ≤ 900; have := a.depth; omega, by show A.units + 3 + 10 * n + 100 ≤ 9000; have := a.units; omega, callEnv fd s.heap.objs.size f :: fs, by show A.frames.map _ = _; rw [g1]; rfl, fun e he => ?_⟩, ⟨?_, f6, f7, fun x k e => ?_, ⟨_, hns, fun x v e _ => ?_⟩, fun x e => ?_, .head _, fun x y c e => ?_, fun x xs e => ?_, fun a e => ?_⟩, ⟨H0, I.gens, I.os⟩, Nat.le_trans ht (Nat.le_add_right _ _)⟩
    · rcases List.mem_cons.mp he with rfl | he
      · refine ⟨by show fd.scope.kind ≠ .module; rw [f3, FK.kind]; decide, s.heap.objs.size, oL, rfl, .head _, hLd, hoL, esL, epL, hdL⟩
      · exact g2 e he
    · show fd.scope.kind = .function; rw [f3]; exact FK.kind
    · rw [lk_eq] at e
      unfold KindOk
      rw [hko, e]
      rcases hkinds x k e with rfl | rfl <;> rfl
    · obtain ⟨y, y1, y2⟩ := z2 x v e
      refine ⟨y, ?_, RdF.of_rd (y2.sees sees)⟩
      rw [lookup_reverse (by rw [hbinds]; exact FK.nodup)]
      exact y1
    · rw [hko] at e
      rcases hkinds x _ e with q | q <;> cases q
    · rw [hko] at e
      rcases hkinds x _ e with q | q <;> cases q
    · obtain ⟨y, y1, y2⟩ := z2 x _ e
      simp only [Rd] at y2
    · rw [List.mem_singleton.mp e]; exact ⟨.head _, hLd⟩
  have T0 : Top (A.deeper (callEnv fd s.heap.objs.size f)) (callEnv fd s.heap.objs.size f) [s.heap.objs.size] := by
    refine ⟨⟨fs, by show A.frames.map _ = _; rw [g1]; rfl, fun e he L hL hm => ?_, fun x e => ?_⟩, rfl⟩
    rotate_left
    · rw [hko] at e
      rcases hkinds x _ e with q | q <;> cases q
    obtain ⟨fs', k1, k2⟩ := a.fr
    rw [g1] at k1; cases k1
    obtain ⟨_, L', o', q1, _, _, q4, _⟩ := k2 e he
    rw [hL] at q1; cases q1
    rw [List.mem_singleton.mp hm] at q4
    exact Nat.lt_irrefl _ (Heap.lt_size q4)
  refine exs_ok H h5 X0 T0 (fun fl' s' W' mu' st x' i e' => ?_) (fun c e s' hc xm => ?_)
  · intro _ htk
    have stA : Step [] W s.heap W' s'.heap := st0.comp st fun a e => .inr (by rw [List.mem_singleton.mp e]; exact Nat.le_refl _)
    cases fl with
    | next => cases fl' <;> simp only [Ends] at e'; cases h6; exact k .none _ s' W' rfl stA x'.i (by simp only [Rd]) htk
    | ret mm => cases fl' <;> simp only [Ends] at e'; cases h6; exact k mm _ s' W' rfl stA x'.i e' htk
    | brk => cases h6
    | cont => cases h6
    | exc c => cases fl' <;> simp only [Ends] at e'
  · subst hc
    cases h6
    obtain ⟨ea, hm, W', l2, mu2, vs2, rfl, hexc, hmade, stm, xm, im, hsz⟩ := xm
    have hfr : (A.deeper (callEnv fd s.heap.objs.size f)).frames = some (callEnv fd s.heap.objs.size f :: fs) := by show A.frames.map _ = _; rw [g1]; rfl
    obtain ⟨fs2, q1, q2⟩ := xm.a.fr
    rw [hfr] at q1; cases q1
    have hin : ∀ e ∈ callEnv fd s.heap.objs.size f :: fs, ∀ L, e.frame = some L → L ∈ (callEnv fd s.heap.objs.size f :: fs).filterMap (·.frame) := fun e he L hL => List.mem_filterMap.mpr ⟨e, he, hL⟩
    refine wpAny_more (wpAny_leaves_madeW (base := hideAll hm ((callEnv fd s.heap.objs.size f :: fs).filterMap (·.frame))) (h := hm) (outer := fs) (L := s.heap.objs.size) hfr rfl (fun b o q => of_hideAll _ q) (funFrames_of fun e he => ?_) hmade fun h' t fl tup hbt hsm hs2 ht2 => ?_)
    · obtain ⟨k1, L, o', p1, p2, p3, p4, es, ep, p5⟩ := q2 e he
      exact ⟨k1, L, o', p1, hideAll_none _ (hin e he L p1), p4, fun vs z => by rw [p5] at z; cases z⟩
    · intro _ _
      refine kE c _ _ rfl ⟨ea, hm, W', .ref t, fs, (callEnv fd s.heap.objs.size f :: fs).filterMap (·.frame), _, rfl, g1, fl, fun a o n e => hideAll_get _ e n, fun a ha => ?_, st0.comp stm fun a e => .inr (by rw [List.mem_singleton.mp e]; exact Nat.le_refl _), xm.i.heap, xm.i.gens, xm.i.os, (keepsUp hmade.keeps).trans hsm, Nat.le_trans hsz hs2, xm.t⟩
      obtain ⟨e, he, hL⟩ := List.mem_filterMap.mp ha
      obtain ⟨k1, L, o', p1, p2, p3, p4, p5⟩ := q2 e he
      rw [hL] at p1; cases p1
      refine ⟨p2, p3, ?_⟩
      rcases List.mem_cons.mp he with rfl | he
      · refine .inr ?_
        have : some s.heap.objs.size = some a := hL
        cases this
        exact Nat.le_refl _
      · exact .inl ⟨e, he, hL⟩
end
end Mine
namespace Mine
set_option maxRecDepth 100000
open PySem PySem.W PySem.Calls PyProof.Rows

section
variable {B : Bs} {A : Around} {W W' W1 : Wd} {S S' : Sto} {s s' s1 : Shared} {m a b : MV} {v va vb : Value} {E : Value → Shared → Prop} {sc csc : Scope} {l l' l0 : Loc} {mu mu' mu1 ks ls : List Addr} {env : Env} {h h' hm base : Heap} {n n' : Nat} {r : Rec} {Q : Flow → Shared → Prop} {I D C : Addr} {ms rs xs : List MV} {fl : Fl}

/-- the frame after an exception has come and been looked at -/
theorem land (x : Ok B n A W sc l mu env S { s1 with heap := hm }) (hb : ∀ a o, a ∉ ls → hm.get? a = some o → base.get? a = some o) (st : base.StaysIn h') (sm : hm.UpToSlots h') (hl : ∀ a ∈ ls, a ∈ W.no ∧ a ∉ W.ds) (hmu : ∀ a ∈ mu, a ∈ ls → a = env.locals)
    (hs : hm.objs.size ≤ h'.objs.size) : Ok B n A W sc l mu env S { s1 with heap := h' } ∧ Step ls W hm W h' := by
  have kp : ∀ a o, a ∉ ls → hm.get? a = some o → h'.get? a = some o := fun a o n e => st a o (hb a o n e)
  obtain ⟨H, stp⟩ := x.i.heap.kept kp hl hs
  have sees := stp.sees x.i.heap.ds (fun a e => .inl (hl a e).1)
  have F := x.f
  obtain ⟨mm, hn, hm'⟩ := F.m
  have notL : ∀ a, a ∈ mu → a ≠ env.locals → ∀ o, hm.get? a = some o → h'.get? a = some o := fun a ha hne o e => kp a o (fun z => hne (hmu a ha z)) e
  have mv : ∀ {w y}, RdF W hm mu w y → RdF W h' mu w y := fun r => r.move sees (fun _ e => e) (fun a ha vs k e => notL a ha (fun z => by
    obtain ⟨o, es, ep, ho, hd, _⟩ := hn
    rw [z] at e
    have ho : hm.get? env.locals = some o := ho
    rw [e] at ho; cases ho; cases hd) _ e)
  refine ⟨⟨?_, ⟨F.kind, F.gl, F.bl, F.names, ⟨mm, sm.ns hn, fun z w e kz => ?_⟩, fun z kz => ?_, F.L, F.inj, F.own, F.mu⟩, ⟨H, x.i.gens, x.i.os⟩, x.t⟩, stp⟩
  · obtain ⟨fs, g1, g2⟩ := x.a.fr
    refine ⟨x.a.handled, x.a.guards, x.a.depth, x.a.units, fs, g1, fun e he => ?_⟩
    obtain ⟨k, L, o, e1, e2, e3, e4, es, ep, e5⟩ := g2 e he
    obtain ⟨sl, e6⟩ := sm L o e4 (fun vs z => by rw [e5] at z; cases z)
    exact ⟨k, L, _, e1, e2, e3, e6, es, ep, e5⟩
  · obtain ⟨y, y1, y2⟩ := hm' z w e kz
    exact ⟨y, y1, mv y2⟩
  · obtain ⟨c, v0, c1, ⟨o, ho, hd⟩, c3, c5⟩ := F.cell z kz
    refine ⟨c, v0, c1, ⟨o, notL c c3 (fun q => ?_) o ho, hd⟩, c3, fun w e => ?_⟩
    · obtain ⟨o', es, ep, ho', hd', _⟩ := hn
      have ho' : hm.get? env.locals = some o' := ho'
      have ho : hm.get? c = some o := ho
      rw [← q, ho] at ho'; cases ho'; rw [hd] at hd'; cases hd'
    · obtain ⟨y, y1, y2⟩ := c5 w e
      exact ⟨y, y1, mv y2⟩

theorem evH_ok (O : BOk B) {A2 : Around} : ∀ {j : Nat} {e : Expr} {m : MV} {s : Shared} {Q : Value → Shared → Prop} {E : Value → Shared → Prop}, evH B.T sc l j e = some m → Ok B n A W sc l mu env S s →
    (∀ v k, s.toks ≤ k → Rd W s.heap m v → Q v { s with toks := k }) → wpAny (Mo B) A2 (eval e env) Q E s
  | 0, e, m, s, Q, E, h, x, k => by simp [evH] at h
  | j + 1, e, m, s, Q, E, h, x, k => by
    unfold evH at h
    split at h
    · rename_i hj; cases hj
    · refine wpAny_mono (name_leaf O x.f x.i h) (fun v s' q => ?_) fun _ _ q => q
      obtain ⟨rfl, q⟩ := q
      exact k v _ (Nat.le_refl _) q
    · rename_i hj; cases hj
      obtain ⟨w, h1, h2⟩ := Option.bind_eq_some_iff.mp h
      obtain ⟨b, h3, h4⟩ := Option.map_eq_some_iff.mp h2
      cases h4
      refine wpAny_UnaryOp (evH_ok O h1 x fun v k1 hk r => not_value (wpAny_more (truthy_leaf (x.i.tok k1) r h3 fun tk hs ht => k _ _ (Nat.le_trans hk ht) rd_bool)))
    · rename_i hj; cases hj
      obtain ⟨w, h1, h2⟩ := Option.bind_eq_some_iff.mp h
      obtain ⟨b, h3, h4⟩ := Option.bind_eq_some_iff.mp h2
      refine wpAny_And2 (evH_ok O h1 x fun v k1 hk r => wpAny_more (truthy_leaf (x.i.tok k1) r h3 fun tk hs ht => ?_))
      cases b with
      | true =>
        rw [if_pos rfl]
        exact evH_ok O h4 (x.stay (Nat.le_trans hk ht)) fun v' k' hk' r' => k v' k' (Nat.le_trans (Nat.le_trans hk ht) hk') r'
      | false =>
        rw [if_neg (by decide)]
        cases h4
        exact k _ _ (Nat.le_trans hk ht) r
    · cases h
end
end Mine
namespace Mine
set_option maxRecDepth 100000
open PySem PySem.W PySem.Calls PyProof.Rows

section
variable {B : Bs} {A : Around} {W W' W1 : Wd} {S S' : Sto} {s s' s1 : Shared} {m a b : MV} {v va vb : Value} {E : Value → Shared → Prop} {sc csc : Scope} {l l' l0 : Loc} {mu mu' mu1 ks ls : List Addr} {env : Env} {h h' hm base : Heap} {n n' : Nat} {r : Rec} {Q : Flow → Shared → Prop} {I D C : Addr} {ms rs xs : List MV} {fl : Fl}

theorem exH_ok (O : BOk B) {A2 : Around} {hb : List Stmt} (h : exH B.T sc l hb = some (fl, l')) (x : Ok B n A W sc l mu env S s)
    (k : ∀ f s' W' mu', Step mu W s.heap W' s'.heap → Ok B n A W' sc l' mu' env S s' → (∀ a ∈ mu', a ∈ mu ∨ s.heap.objs.size ≤ a) → Ends fl f W' s'.heap → Q f s') :
    (∃ b0 rest, hb = b0 :: rest) ∧ wpAny (Mo B) A2 (execs hb env) Q E s := by
  unfold exH at h
  split at h
  · cases h
    refine ⟨⟨_, _, rfl⟩, wpAny_execs_cons (wpAny_Continue ?_)⟩
    exact k _ _ _ _ (.refl _ _ _) x (fun a e => .inl e) trivial
  · rename_i y py e pp
    split at h
    · rename_i hsto
      obtain ⟨v0, h1, h2⟩ := Option.map_eq_some_iff.mp h
      cases h2
      refine ⟨⟨_, _, rfl⟩, wpAny_execs_cons (wpAny_Assign_Name (evH_ok O h1 x fun v k1 hk rv => ?_) ?_)⟩
      · refine store_ok (x.stay hk) (canSto_kind x.f hsto) (RdF.of_rd rv) (notOwn rv) fun s' ks hks st kp lst x' => ?_
        exact wpAny_execs_nil (k _ _ W mu (st.weaken fun a e => .inl (hks a e)) x' (fun a e => .inl e) trivial)
      · have : isComp e = false := by
          cases e <;> first | rfl | (simp [evH] at h1)
        exact swaps_no this
    · cases h
  · cases h

theorem handle_ok (O : BOk B) {c : Str} {cp hp : Pos} {hb : List Stmt} {a0 : Addr} {e : Value} {W0 : Wd} {s0 : Shared}
    (h1 : nameMV B.T sc l c = some (.ref a0)) (h2 : memN a0 B.T.exc = true) (h3 : exH B.T sc l hb = some (fl, l')) (X : Ok B n A W sc l mu env S s) (T : Top A env mu) (hcell : ∃ x, env.kindOf x = some .cell)
    (xp : XP B A W s a0 S' e s1)
    (k : ∀ f s' W' mu', Step mu W s.heap W' s'.heap → Ok B n A W' sc l' mu' env S' s' → (∀ a ∈ mu', a ∈ mu ∨ s.heap.objs.size ≤ a) → Ends fl f W' s'.heap → Q f s') :
    wpAny (Mo B) A (noteFrame e env) (fun _ s₂ => wpAny (Mo B) A (setFlight e none) (fun _ s₃ => wpAny (Mo B) A (handleBy e env [.ExceptHandler (some (.Name c cp)) none hb hp]) Q E s₃) E s₂) E s1 := by
  obtain ⟨ea, hm, W', t0, fs, ls, base, rfl, x2, x3, x4, x5, x6, x7, x8, x9, x10, x11, x12⟩ := xp
  obtain ⟨⟨outer, t1, t2, t3⟩, t4⟩ := T
  obtain ⟨xc, hxc⟩ := hcell
  have ho := t3 xc hxc
  subst ho
  rw [t1] at x2; cases x2
  have Xm : Ok B n A W' sc l mu env S' { s1 with heap := hm } := ⟨(X.a.step0 X.i.heap x6), X.f.step0 X.i.heap x6, ⟨x7, x8, x9⟩, x12⟩
  have hl : ∀ a ∈ ls, a ∈ W'.no ∧ a ∉ W'.ds := fun a e => ⟨(x5 a e).1, (x5 a e).2.1⟩
  have hls : ∀ a ∈ ls, a = env.locals ∨ s.heap.objs.size ≤ a := fun a e => by
    rcases (x5 a e).2.2 with ⟨f, hf, q⟩ | q
    · rw [List.mem_singleton.mp hf, t4] at q
      exact .inl (Option.some.inj q).symm
    · exact .inr q
  have hmu : ∀ a ∈ mu, a ∈ ls → a = env.locals := fun a e q => by
    rcases hls a q with z | z
    · exact z
    · exact absurd (X.i.heap.no a (X.f.mu a e).1).2 (Nat.not_lt.mpr z)
  have land' : ∀ {h' : Heap} {s2 : Shared}, s2.gens = s1.gens → s2.os = s1.os → 1 ≤ s2.toks → base.StaysIn h' → hm.UpToSlots h' → hm.objs.size ≤ h'.objs.size → Ok B n A W' sc l mu env S' { s2 with heap := h' } ∧ Step mu W s.heap W' h' := by
    intro h' s2 e1 e2 e3 st sm hs
    have Xm2 : Ok B n A W' sc l mu env S' { s2 with heap := hm } := ⟨Xm.a, Xm.f, ⟨x7, e1.trans x8, e2.trans x9⟩, e3⟩
    obtain ⟨y1, y2⟩ := land (s1 := s2) Xm2 x4 st sm hl hmu hs
    refine ⟨y1, (x6.weaken fun a e => nomatch e).comp y2 fun a e => ?_⟩
    rcases hls a e with z | z
    · exact .inl (by rw [z]; exact X.f.L)
    · exact .inr z
  obtain ⟨x, bm, newId, initId, Bn, OC, FB, hbE, hkp⟩ := O.exc a0 h2
  obtain ⟨tl, N, nm, q, bs, hdct, sn, sub, ab, col, dd, k0, k1, k2, k3, k5, mN, hC, hN, hni, TT⟩ := OC.obj
  obtain ⟨⟨b0, rest, rfl⟩, _⟩ := exH_ok (A2 := A) (E := E) (Q := fun _ _ => True) O h3 X fun _ _ _ _ _ _ _ _ => trivial
  refine wpAny_more (wpAny_looks_onW t1 t4 x3 fun h₄ hheld₄ hsm₄ hs4 _ => ?_)
  refine wpAny_more (wpAny_landsW hheld₄ fun h₅ hheld hsm₅' hs5 _ => ?_)
  have hsm5 : hm.UpToSlots h₅ := (x10.trans hsm₄).trans hsm₅'
  have hsz5 : hm.objs.size ≤ h₅.objs.size := Nat.le_trans x11 (Nat.le_trans hs4 hs5)
  obtain ⟨X5, _⟩ := land' (s2 := s1) (h' := h₅) rfl rfl x12 hheld.1 hsm5 hsz5
  obtain ⟨ob, hob, hobc⟩ := hheld.there
  refine wpAny_handleBy_cons (codeAny_handlers_test ?_) (by intro q; cases q)
  refine wpAny_mono (name_leaf O X5.f X5.i h1) (fun v s' q => ?_) fun _ _ q => q
  obtain ⟨rfl, q⟩ := q
  simp only [Rd] at q
  subst q
  refine wpAny_excMatches_sub_self (X5.i.heap.keep _ _ hC) hob hobc (TT.hasType hbE) (codeAny_handlers_suite ?_)
  refine wpAny_more (lands_againW hheld fun h₆ hfl₆ hsm₆ hs6 _ => ?_)
  obtain ⟨X6, st6⟩ := land' (s2 := s1) (h' := h₆) rfl rfl x12 hfl₆.1 (hsm5.trans hsm₆) (Nat.le_trans hsz5 hs6)
  exact (exH_ok O h3 X6 fun f s' W2 mu2 st x' i e' => k f s' W2 mu2 (st6.comp st fun a e => .inl e) x' (inside (fun a e => .inl e) st6.size i) e').2

theorem try_ok (O : BOk B) (H : EvOk B r n) (HC : CaOk B r n) (HX : ExOk B r n) {f : Expr} {args : List Expr} {kws : List Keyword} {pos p2 tp cp hp : Pos} {a : List Stmt} {c : Str} {hb : List Stmt}
    (hid : lk "ident" sc.names = some .cell)
    (h : (match evCall B.T r sc l S (.Call f args kws pos) with
      | some (.val .none, s') => (exs (fun l' s' t' => r.ex sc l' s' t') a l s').bind fun p => match p.1 with
        | .exc _ => none
        | _ => some p
      | some (.exc e, s') => match nameMV B.T sc l c with
        | some (.ref a) => match Nat.beq a e && memN a B.T.exc with
          | true => (exH B.T sc l hb).map fun q => (q.1, q.2, s')
          | false => none
        | _ => none
      | _ => none) = some (fl, l', S')) (X : Ok B (n + 1) A W sc l mu env S s) (T : Top A env mu)
    (k : ∀ f s' W' mu', Step mu W s.heap W' s'.heap → Ok B (n + 1) A W' sc l' mu' env S' s' → (∀ a ∈ mu', a ∈ mu ∨ s.heap.objs.size ≤ a) → Ends fl f W' s'.heap → Q f s') :
    wpAny (Mo B) A (exec (.Try (.Expr (.Call f args kws pos) p2 :: a) [.ExceptHandler (some (.Name c cp)) none hb hp] [] [] tp) env) Q E s := by
  have hcell : ∃ x, env.kindOf x = some .cell := ⟨_, X.f.names _ _ hid⟩
  have X' := X.less (Nat.le_succ n)
  show wpAny _ _ (do standAt tp; tryStmt false (execs (.Expr (.Call f args kws pos) p2 :: a) env) [.ExceptHandler (some (.Name c cp)) none hb hp] (execs [] env) [] env) _ _ _
  refine wpAny_bind (wpAny_standAt (wpAny_tryStmt_except (wpAny_execs_cons (wpAny_Expr ?_ (by unfold interactive; rw [X.f.kind]; rfl) rfl))))
  cases hcall : evCall B.T r sc l S (.Call f args kws pos) with
  | none => rw [hcall] at h; cases h
  | some o =>
    obtain ⟨out, S1⟩ := o
    rw [hcall] at h
    refine evCall_ok O H HC hcall X (fun m0 v s1 W1 hm st1 x1 r1 => ?_) (fun c0 e s1 hc xp => ?_)
    · subst hm
      cases m0 <;> try (cases h; done)
      simp only [Rd] at r1
      subst r1
      obtain ⟨⟨fl1, l1, S2⟩, h1, h2⟩ := Option.bind_eq_some_iff.mp h
      refine exs_ok HX h1 x1 (T.next X' fun a e => .inl e) (fun f' s2 W2 mu2 st2 x2 i2 e2 => ?_) (fun c e s' hc xm => by subst hc; cases h2)
      have st12 : Step mu W s.heap W2 s2.heap := (st1.weaken fun a e => nomatch e).comp st2 fun a e => .inl e
      have i12 := inside (mu := mu) (fun a e => .inl e) st1.size i2
      cases fl1 with
      | next => cases h2; cases f' <;> simp only [Ends] at e2; exact wpAny_execs_nil (k _ s2 W2 mu2 st12 (x2.up X.a) i12 trivial)
      | brk => cases h2; cases f' <;> simp only [Ends] at e2; exact k _ s2 W2 mu2 st12 (x2.up X.a) i12 trivial
      | cont => cases h2; cases f' <;> simp only [Ends] at e2; exact k _ s2 W2 mu2 st12 (x2.up X.a) i12 trivial
      | ret m => cases h2; cases f' <;> simp only [Ends] at e2; exact k _ s2 W2 mu2 st12 (x2.up X.a) i12 e2
      | exc c => cases h2
    · subst hc
      dsimp only at h
      cases hnm : nameMV B.T sc l c with
      | none => rw [hnm] at h; cases h
      | some mv =>
        rw [hnm] at h
        cases mv <;> try (cases h; done)
        rename_i a0
        dsimp only at h
        cases hb2 : (Nat.beq a0 c0 && memN a0 B.T.exc) with
        | true =>
          rw [hb2] at h
          rw [Bool.and_eq_true] at hb2
          have := Nat.eq_of_beq_eq_true hb2.1
          subst this
          obtain ⟨q, g1, g2⟩ := Option.map_eq_some_iff.mp h
          cases g2
          exact handle_ok (W0 := W) (s0 := s) O hnm hb2.2 g1 X' T hcell xp fun f' s' W' mu' st x' i e' => k f' s' W' mu' st (x'.up X.a) i e'
        | false => rw [hb2] at h; cases h
end
end Mine
namespace Mine
set_option maxRecDepth 100000
open PySem PySem.W PySem.Calls PyProof.Rows

section
variable {B : Bs} {A : Around} {W W' W1 : Wd} {S S' : Sto} {s s' s1 : Shared} {m a b : MV} {v va vb : Value} {E : Value → Shared → Prop} {sc csc : Scope} {l l' l0 : Loc} {mu mu' mu1 ks ls : List Addr} {env : Env} {h h' hm base : Heap} {n n' : Nat} {r : Rec} {Q : Flow → Shared → Prop} {I D C : Addr} {ms rs xs : List MV} {fl : Fl}

theorem app_ok (H : EvOk B r n) {y nm : Str} {yp ap pos sp : Pos} {e : Expr} {p1 : MV × Sto} (hy : lk y l = some (.own xs)) (g1 : seq nm "append" = true) (g2 : Nat.beq ap.endLine pos.line = true) (g3 : isStar e = false) (g4 : Nat.ble xs.length 1000 = true)
    (h : r.ev sc l S e = some p1) (X : Ok B n A W sc l mu env S s)
    (k : ∀ f s' W' mu', Step mu W s.heap W' s'.heap → Ok B n A W' sc (put y (.own (xs ++ [p1.1])) l) mu' env p1.2 s' → (∀ a ∈ mu', a ∈ mu ∨ s.heap.objs.size ≤ a) → Ends .next f W' s'.heap → Q f s') :
    wpAny (Mo B) A (exec (.Expr (.Call (.Attribute (.Name y yp) nm ap) [e] [] pos) sp) env) Q E s := by
  have hev : evs (r.ev sc l) [e] S = some ([p1.1], p1.2) := by simp [evs, g3, h]
  have := seq_iff.mp g1
  subst this
  refine wpAny_Expr (MethodCall_ ?_ (methodCall_eq hev rfl g2 rfl)) (by unfold interactive; rw [X.f.kind]; rfl) rfl
  obtain ⟨h1, h2, mm, r0, vs, kk, hn, y1, q1, q2, q3, q4, q5⟩ := own_at X hy
  have hd : (y == ("__debug__" : Str)) = false := by rw [h1]; decide
  refine wpAny_Name (wpAny_loadName_local X.f.kind h2 hn y1 ?_) hd
  refine getMethod_list_append q2 rfl rfl ?_
  refine callWith_ok (P := fun _ => True) (keeps_bi (fun a q => by cases q)) H hev X fun vs1 s1 W1 st1 x1 r1 => ⟨trivial, ?_⟩
  simp only [RdL] at r1
  obtain ⟨v, rest, rfl, rv, rfl⟩ := r1
  have hn1 : s1.heap.Ns env.locals mm := hn.at' fun o e => st1.keep _ o (X.f.mu _ X.f.L).2 (fun h => nomatch h) e
  refine own_append x1 hy (fun m2 hn2 => ?_) rv (Nat.le_of_ble_eq_true g4) fun s' st2 x2 => k _ s' W1 mu ((st1.weaken fun a e => nomatch e).comp st2 fun a e => .inl e) x2 (fun a e => .inl e) trivial
  obtain ⟨o1, es1, ep1, ho1, hd1, sk1, f1⟩ := hn1
  obtain ⟨o2, es2, ep2, ho2, hd2, sk2, f2⟩ := hn2
  rw [ho1] at ho2; cases ho2
  rw [hd1] at hd2; cases hd2
  rw [← f2, f1]; exact y1

theorem rows_nil (X : Ok B n A W sc l mu env S s) {y : Str} {yp lp sp : Pos} (hy : y = rowsName) (hloc : isLocal sc y = true)
    (k : ∀ f s' W' mu', Step mu W s.heap W' s'.heap → Ok B n A W' sc (put y (.own []) l) mu' env S s' → (∀ a ∈ mu', a ∈ mu ∨ s.heap.objs.size ≤ a) → Ends .next f W' s'.heap → Q f s') :
    wpAny (Mo B) A (exec (.Assign [.Name y yp] (.List [] lp) sp) env) Q E s := by
  have hk : env.kindOf y = some .local := by
    unfold isLocal at hloc
    split at hloc
    · rename_i q; exact X.f.names y _ q
    · cases hloc
  refine wpAny_Assign_Name (wpAny_List (wpAny_items_nil ⟨Nat.zero_le _, ?_⟩)) (swaps_no rfl)
  obtain ⟨x1, st1, ap⟩ := X.pushNo (o := { cls := .type "list", data := .seq ([] : List Value).toArray })
  have hnd : s.heap.objs.size ∉ (W.hide s.heap.objs.size).ds := fun hm => Nat.lt_irrefl _ (X.i.heap.no _ (X.i.heap.ds _ hm)).2
  have XD := x1.take (D := s.heap.objs.size) (.head _) hnd
  have hg : (s.heap.push { cls := .type "list", data := .seq ([] : List Value).toArray }).get? s.heap.objs.size = some (listObj [] 0) := Heap.get?_push_size _ rfl
  refine store_local (m := .own []) XD hk ⟨s.heap.objs.size, [], 0, rfl, .head _, hg, by simp only [RdL], Nat.zero_le _⟩ (fun _ _ => ⟨hy, hk⟩) fun s2 st2 kp2 lst2 x2 => ?_
  refine k _ s2 _ _ ((st1.weaken fun a e => nomatch e).comp st2 fun a e => .inl (by rw [List.mem_singleton.mp e]; exact X.f.L)) x2 (fun a e => ?_) trivial
  rcases List.mem_cons.mp e with rfl | e
  · exact .inr (Nat.le_refl _)
  · exact .inl e

/-- a call whose value is dropped -/
theorem call_ok (O : BOk B) (H : EvOk B r n) (HC : CaOk B r n) {e : Expr} {sp : Pos} (hsw : isComp e = false) (h : (match evCall B.T r sc l S e with
      | some (.val .none, s') => some (Fl.next, l, s')
      | _ => none) = some (fl, l', S')) (X : Ok B (n + 1) A W sc l mu env S s)
    (k : ∀ f s' W' mu', Step mu W s.heap W' s'.heap → Ok B (n + 1) A W' sc l' mu' env S' s' → (∀ a ∈ mu', a ∈ mu ∨ s.heap.objs.size ≤ a) → Ends fl f W' s'.heap → Q f s') :
    wpAny (Mo B) A (exec (.Expr e sp) env) Q E s := by
  split at h
  · rename_i S1 hcall
    cases h
    refine wpAny_Expr (evCall_ok O H HC hcall X (fun m v s' W' hm st x r => ?_) (fun c e s' hc xp => by cases hc)) (by unfold interactive; rw [X.f.kind]; rfl) (swaps_no hsw)
    cases hm
    simp only [Rd] at r
    subst r
    exact k _ s' W' mu (st.weaken fun a e => nomatch e) (x.up X.a) (fun a e => .inl e) trivial
  · cases h

theorem asgn_names : ∀ {xs : List Expr} {ms : List MV} {l l' : Loc}, asgn sc xs ms l = some l' → xs.length = ms.length ∧ List.findIdx? (fun x => x.1) (assignEach xs env) = none
  | [], [], l, l', h => ⟨rfl, rfl⟩
  | [], _ :: _, l, l', h => by simp [asgn] at h
  | e :: es, [], l, l', h => by cases e <;> simp [asgn] at h
  | e :: es, m :: ms, l, l', h => by
    unfold asgn at h
    split at h
    · rename_i hh; cases hh
    · rename_i y py r' v' q' h1 h2
      cases h1; cases h2
      split at h
      · obtain ⟨g1, g2⟩ := asgn_names h
        refine ⟨by simp [g1], ?_⟩
        show List.findIdx? (fun x => x.1) ((false, assign (.Name y py) env) :: assignEach es env) = none
        rw [List.findIdx?_cons]
        simp [g2]
      · cases h
    · cases h

theorem assignEach_len : ∀ {xs : List Expr}, (assignEach xs env).length = xs.length
  | [] => rfl
  | e :: es => by
    have := assignEach_len (xs := es)
    cases e <;> (unfold assignEach; simp [this])

theorem tup_ok (H : EvOk B r n) {es : List Expr} {e : Expr} {k1 : Nat} {tp sp : Pos} {p1 : MV × Sto} {vs : List MV} (h1 : r.ev sc l S e = some p1) (hq : p1.1 = .tup vs) (h2 : asgn sc es vs l = some l') (hT : isTupE e = false) (hcp : isComp e = false) (X : Ok B n A W sc l mu env S s)
    (k : ∀ f s' W' mu', Step mu W s.heap W' s'.heap → Ok B n A W' sc l' mu' env p1.2 s' → (∀ a ∈ mu', a ∈ mu ∨ s.heap.objs.size ≤ a) → Ends .next f W' s'.heap → Q f s') :
    wpAny (Mo B) A (exec (.Assign [.Tuple es k1 tp] e sp) env) Q E s := by
  obtain ⟨g1, g2⟩ := asgn_names (env := env) h2
  refine wpAny_Assign_stores (H h1 X fun v s1 W1 st1 x1 r1 => ?_) (by show swapsWith e (some (.Tuple es k1 tp)) sp.line env = pure false; exact swaps_no hcp) ?_
  · rw [hq] at r1
    simp only [Rd] at r1
    obtain ⟨t, ws, k0, rfl, hno, hg, rl, hle⟩ := r1
    show wpAny (Mo B) A (assign (.Tuple es k1 tp) env (.ref t)) _ E s1
    rw [assign_Tuple]
    refine wpAny_bind (wpAny_standAt ?_)
    unfold unpack
    have hlen : (assignEach es env).length = ws.toArray.size := by rw [assignEach_len, g1, List.size_toArray, RdL.length rl]
    rw [hlen, g2]
    refine wpAny_bind (wpAny_holding (wpAny_more (unpackItems_tuple x1.a.handled ⟨_, hg, rfl, _, rfl⟩ fun h' hx hs hts => ?_)))
    have kp : ∀ a o, a ∉ ([] : List Addr) → s1.heap.get? a = some o → h'.get? a = some o := fun a o _ e => hx a o (Nat.ne_of_lt (Heap.lt_size e)) e
    obtain ⟨x2, st2⟩ := x1.kept (k := s1.toks) kp (fun a e => nomatch e) hs (fun fs hf en he L hL hm => nomatch hm) x1.t
    refine tuple_sto h2 (rl.sees (x1.i.sees0 st2)) x2 fun s3 st3 x3 => ?_
    exact k _ s3 W1 mu (((st1.trans st2).weaken fun a e => nomatch e).trans st3) x3 (fun a e => .inl e) trivial
  · cases e <;> first | rfl | cases hT

/-- an attribute is stored -/
theorem att_ok (O : BOk B) (H : EvOk B r n) {e o : Expr} {nm : Str} {ap sp : Pos} {p1 p2 : MV × Sto} {kk : Nat} {a0 : Att} (h1 : r.ev sc l S e = some p1) (h2 : r.ev sc l p1.2 o = some p2) (hq : p2.1 = .obj kk) (hm : memS nm B.T.attrs = true) (hg : getL p2.2 kk = some a0) (hcp : isComp e = false) (X : Ok B n A W sc l mu env S s)
    (k : ∀ f s' W' mu', Step mu W s.heap W' s'.heap → Ok B n A W' sc l mu' env (p2.2.set kk fun y => match seq y nm with | true => some p1.1 | false => a0 y) s' → (∀ a ∈ mu', a ∈ mu ∨ s.heap.objs.size ≤ a) → Ends .next f W' s'.heap → Q f s') :
    wpAny (Mo B) A (exec (.Assign [.Attribute o nm ap] e sp) env) Q E s := by
  refine plainObj_wpAny_Assign_Attribute (H h1 X fun v s1 W1 st1 x1 r1 => H h2 x1 fun ov s2 W2 st2 x2 r2 => ?_) (swaps_no hcp)
  rw [hq] at r2
  refine wpAny_more (wpAny_mono (setattr_leaf O x2.i r2 (r1.sees (x1.i.sees0 st2)) hm hg) (fun _ s' q hs ht => ?_) fun _ _ q _ _ => q)
  exact k _ s' W2 mu (((st1.trans st2).trans q.1).weaken fun a e => nomatch e) (x2.step0 q.1 q.2 ht) (fun a e => .inl e) trivial

theorem load_leaf {x : Str} (O : BOk B) (F : FrOk W sc l mu env s.heap) (I : Inv B W S s) (e : nameMV B.T sc l x = some m) :
    wpAny (Mo B) A (loadName env x) (fun v s' => s' = s ∧ Rd W s.heap m v) E s := by
  unfold nameMV at e
  split at e
  · cases e
  · skip
    split at e
    · rename_i hk
      have q : env.kindOf x = some .globalImplicit := F.names x _ hk
      obtain ⟨v, h1, h2⟩ := O.glob x m e
      refine ks_loadName_global F.kind q ?_
      have rv := I.heap.static h2
      have nsg : s.heap.Ns env.globals B.mg := by rw [F.gl]; exact O.nsg.at' fun o e => I.heap.keep _ _ e
      have nsb : s.heap.Ns env.builtins B.mb := by rw [F.bl]; exact O.nsb.at' fun o e => I.heap.keep _ _ e
      rcases h1 with h1 | ⟨h1, h2⟩
      · exact loadGlobal_global nsg h1 ⟨rfl, rv⟩
      · exact loadGlobal_builtin nsg h1 nsb h2 ⟨rfl, rv⟩
    · cases e
    · rename_i k hne1 hne2 hk
      obtain ⟨v, e1, e2⟩ := Option.bind_eq_some_iff.mp e
      have hno : ∀ xs, v ≠ .own xs := fun xs z => by subst z; cases e2
      have e3 : v = m := by cases v <;> first | exact Option.some.inj e2 | exact absurd rfl (hno _)
      subst e3
      have q := F.names x _ hk
      have q' : env.kindOf x = some .local ∨ env.kindOf x = some .cell := by
        cases k <;> first | exact .inl q | exact .inr q | exact absurd rfl hne1 | exact absurd rfl hne2
      rcases q' with q | q
      · obtain ⟨mm, hn, hm⟩ := F.m
        obtain ⟨y, y1, y2⟩ := hm x v e1 q
        exact wpAny_loadName_local F.kind q hn y1 ⟨rfl, y2.rd hno⟩
      · obtain ⟨c, v0, c1, c2, c3, c5⟩ := F.cell x q
        obtain ⟨y, rfl, y2⟩ := c5 v e1
        exact wpAny_loadName_cell F.kind q c1 c2 ⟨rfl, y2.rd hno⟩
    · cases e

theorem foldedSet_no {e : Expr} {v : Value} (h : isSetD e = false) : foldedSetIterable e env v = pure v := by
  cases e <;> first | rfl | cases h

theorem XM.up {c : Addr} {e : Value} (X : AOk n' A W1 h) (x : XM B n A W sc mu env s c S' e s') : XM B n' A W sc mu env s c S' e s' := by
  obtain ⟨ea, hm, W', l2, mu2, vs, h1, h0, h2, h3, h4, h5, h6⟩ := x
  exact ⟨ea, hm, W', l2, mu2, vs, h1, h0, h2, h3, h4.up X, h5, h6⟩

theorem ex_step (O : BOk B) (H : EvOk B r n) (HT : TrOk B r n) (HC : CaOk B r n) (HX : ExOk B r n) (HW : WhOk B r n) {t : Stmt} (h : exS B.T r sc l S t = some (fl, l', S')) (X : Ok B (n + 1) A W sc l mu env S s) (T : Top A env mu)
    (k : ∀ f s' W' mu', Step mu W s.heap W' s'.heap → Ok B (n + 1) A W' sc l' mu' env S' s' → (∀ a ∈ mu', a ∈ mu ∨ s.heap.objs.size ≤ a) → Ends fl f W' s'.heap → Q f s')
    (kE : ∀ c e s', fl = .exc c → XM B (n + 1) A W sc mu env s c S' e s' → E e s') : wpAny (Mo B) A (exec t env) Q E s := by
  have X' := X.less (Nat.le_succ n)
  unfold exS at h
  split at h
  · cases h; exact wpAny_Pass (k _ s W mu (.refl _ _ _) X (fun a e => .inl e) trivial)
  · cases h; exact wpAny_Break (k _ s W mu (.refl _ _ _) X (fun a e => .inl e) trivial)
  · cases h; exact wpAny_Continue (k _ s W mu (.refl _ _ _) X (fun a e => .inl e) trivial)
  · cases h; exact wpAny_Return_none (k _ s W mu (.refl _ _ _) X (fun a e => .inl e) (by simp only [Ends, Rd]))
  · -- return
    obtain ⟨p1, h1, h2⟩ := Option.map_eq_some_iff.mp h
    cases h2
    exact wpAny_Return_some (H h1 X' fun v s1 W1 st1 x1 r1 => k _ s1 W1 mu (st1.weaken fun a e => nomatch e) (x1.up X.a) (fun a e => .inl e) r1)
  · -- a call alone
    split at h
    · split at h
      · rename_i xs hy
        split at h
        · rename_i hg
          simp only [Bool.and_eq_true, Bool.not_eq_true'] at hg
          obtain ⟨⟨⟨g1, g2⟩, g3⟩, g4⟩ := hg
          obtain ⟨p1, h1, h2⟩ := Option.map_eq_some_iff.mp h
          cases h2
          exact app_ok H hy g1 g2 g3 g4 h1 X' fun f s' W' mu' st x i e => k f s' W' mu' st (x.up X.a) i e
        · cases h
      · exact call_ok O H HC rfl h X k
    · exact call_ok O H HC rfl h X k
  · -- a name
    split at h
    · cases h
    · rename_i hsto
      split at h
      · rename_i hrows
        rw [Bool.and_eq_true] at hrows
        have hy := seq_iff.mp hrows.1
        split at h
        · cases h
          exact rows_nil X hy hrows.2 k
        · split at h
          · cases h
          · rename_i hg
            simp only [Bool.or_eq_false_iff, Bool.not_eq_false'] at hg
            obtain ⟨p1, h1, h2⟩ := Option.map_eq_some_iff.mp h
            cases h2
            exact rows_comp O H HT h1 hg.1.1 hg.1.2 hg.2 hy hrows.2 X' fun f s' W' mu' st x i e => k f s' W' mu' st (x.up X.a) i e
        · cases h
      · split at h
        · cases h
        · rename_i hcp
          obtain ⟨p1, h1, h2⟩ := Option.map_eq_some_iff.mp h
          cases h2
          refine wpAny_Assign_Name (H h1 X' fun v s1 W1 st1 x1 r1 => ?_) (swaps_no hcp)
          exact sto_end x1 hsto r1 fun f s' W' mu' st x i e => k f s' W' mu' ((st1.weaken fun a e => nomatch e).comp st fun a e => .inl e) (x.up X.a) (inside (fun a e => .inl e) st1.size i) e
  · -- names
    split at h
    · cases h
    · rename_i hg
      simp only [Bool.or_eq_false_iff] at hg
      obtain ⟨p1, h1, h2⟩ := Option.bind_eq_some_iff.mp h
      split at h2
      · rename_i vs hq
        obtain ⟨l2, h3, h4⟩ := Option.map_eq_some_iff.mp h2
        cases h4
        exact tup_ok H h1 hq h3 hg.1 hg.2 X' fun f s' W' mu' st x i e => k f s' W' mu' st (x.up X.a) i e
      · cases h2
  · -- an attribute
    split at h
    · cases h
    · rename_i hcp
      obtain ⟨p1, h1, h2⟩ := Option.bind_eq_some_iff.mp h
      obtain ⟨p2, h3, h4⟩ := Option.bind_eq_some_iff.mp h2
      split at h4
      · rename_i kk hq
        split at h4
        · rename_i a0 hm hg
          cases h4
          exact att_ok O H h1 h3 hq hm hg hcp X' fun f s' W' mu' st x i e => k f s' W' mu' st (x.up X.a) i e
        · cases h4
      · cases h4
  · -- in place
    split at h
    · cases h
    · rename_i hsto
      obtain ⟨a0, h1, h2⟩ := Option.bind_eq_some_iff.mp h
      obtain ⟨p1, h3, h4⟩ := Option.bind_eq_some_iff.mp h2
      obtain ⟨v0, h5, h6⟩ := Option.map_eq_some_iff.mp h4
      cases h6
      refine wpAny_AugAssign_Name (wpAny_mono (load_leaf O X'.f X'.i h1) (fun va s0 q => ?_) fun _ _ q => q)
      obtain ⟨rfl, ra⟩ := q
      refine H h3 X' fun vb s1 W1 st1 x1 r1 => ?_
      refine x1.fin (iop_leaf x1.i (ra.sees (X'.i.sees0 st1)) r1 h5) fun v s2 W2 st2 x2 r2 => ?_
      exact sto_end x2 hsto r2 fun f s' W' mu' st x i e => k f s' W' mu' (((st1.trans st2).weaken fun a e => nomatch e).comp st fun a e => .inl e) (x.up X.a) (inside (fun a e => .inl e) (Nat.le_trans st1.size st2.size) i) e
  · -- if
    obtain ⟨p1, h1, h2⟩ := Option.bind_eq_some_iff.mp h
    refine wpAny_If (HT h1 X' fun s1 W1 st1 x1 => ?_)
    have go : ∀ {ts : List Stmt}, exs (fun l' s' t' => r.ex sc l' s' t') ts l p1.2 = some (fl, l', S') → wpAny (Mo B) A (execs ts env) Q E s1 := fun hh =>
      exs_ok HX hh x1 T (fun f s' W' mu' st x i e => k f s' W' mu' ((st1.weaken fun a e => nomatch e).comp st fun a e => .inl e) (x.up X.a) (inside (fun a e => .inl e) st1.size i) e)
        fun c e s' hc xm => kE c e s' hc ((xm.up X.a).before (st1.weaken fun a e => nomatch e) fun a e => .inl e)
    cases hb : p1.1 with
    | true => rw [hb] at h2; exact go h2
    | false => rw [hb] at h2; exact go h2
  · -- while
    obtain ⟨_, hw⟩ := HW h
    exact wpAny_While (hw X' T fun f s' W' mu' st x i e => k f s' W' mu' st (x.up X.a) i e)
  · -- for
    split at h
    · cases h
    · rename_i q hg hq
      simp only [Bool.or_eq_false_iff, Bool.not_eq_false'] at hg
      unfold ownName at hq
      split at hq
      · rename_i y py
        split at hq
        · rename_i xs hy
          cases hq
          obtain ⟨W2, mu2, r0, vs, kk, st0, X2, hsub, hr, hgt, rl, hds, hnmu⟩ := freeze X' hy
          obtain ⟨g1, g2, mm, _, _, _, hn, _⟩ := own_at X' hy
          have hd : (y == ("__debug__" : Str)) = false := by rw [g1]; decide
          refine wpAny_For (wpAny_Name (wpAny_loadName_local X.f.kind g2 hn (hr mm hn) ?_) hd) (fun v => rfl)
          refine iter_list (mu' := mu2) X2 hgt rl hds hnmu (fun a ha => (X2.f.mu a ha).1) fun I s1 W1 st1 x1 it ap hle => ?_
          exact (for_ok HX hg.2 ap hle h x1 (T.next X' fun a e => .inl (hsub a e)) it (st0.comp st1 fun a e => nomatch e) (fun a e => .inl (hsub a e)) fun f s' W' mu' st x i e => k f s' W' mu' st (x.up X.a) i e).2
        · cases hq
      · cases hq
    · rename_i hg hq
      simp only [Bool.or_eq_false_iff, Bool.not_eq_false'] at hg
      obtain ⟨p1, h1, h2⟩ := Option.bind_eq_some_iff.mp h
      refine wpAny_For (source_gen O H h1 hq X' fun I s1 W1 st1 x1 it ap hle => ?_) (fun v => foldedSet_no hg.1)
      exact (for_ok HX hg.2 ap hle h2 x1 T it (st1.weaken fun a e => nomatch e) (fun a e => .inl e) fun f s' W' mu' st x i e => k f s' W' mu' st (x.up X.a) i e).2
  · -- raise
    split at h
    · rename_i a0 hnm
      split at h
      · rename_i hg
        simp only [Bool.and_eq_true, Bool.not_eq_true'] at hg
        obtain ⟨p1, h1, h2⟩ := Option.bind_eq_some_iff.mp h
        split at h2
        · cases h2
          exact raise_ok O H hnm hg.1 hg.2 h1 X' fun e s' xm => kE _ e s' rfl (xm.up X.a)
        · cases h2
          exact raise_ok O H hnm hg.1 hg.2 h1 X' fun e s' xm => kE _ e s' rfl (xm.up X.a)
        · cases h2
      · cases h
    · cases h
  · -- try
    split at h
    · rename_i hid
      exact try_ok O H HC HX hid h X T k
    · cases h
  · cases h
end
end Mine
namespace Mine
set_option maxRecDepth 100000
open PySem PySem.W PySem.Calls PyProof.Rows

section
variable {B : Bs} {n : Nat}

theorem wh_no {T : Tab} {sc : Scope} {c : Expr} {a : List Stmt} : ∀ {n : Nat} {l : Loc} {S : Sto} {fl : Fl} {l' : Loc} {S' : Sto}, (run T n).wh sc c a l S = some (fl, l', S') → ∀ c, fl ≠ .exc c
  | 0, l, S, fl, l', S', h => by cases h
  | n + 1, l, S, fl, l', S', h => by
    intro x hx
    subst hx
    change whS T (run T n) sc c a l S = _ at h
    unfold whS at h
    obtain ⟨p1, h1, h2⟩ := Option.bind_eq_some_iff.mp h
    split at h2
    · cases h2
    · obtain ⟨q1, h3, h4⟩ := Option.bind_eq_some_iff.mp h2
      split at h4
      · exact wh_no h4 x rfl
      · exact wh_no h4 x rfl
      · cases h4
      · cases h4
      · cases h4

theorem wh_all (HH : ∀ j, j < n → TrOk B (run B.T j) j ∧ ExOk B (run B.T j) j) : WhOk B (run B.T n) n := by
  intro sc c a l S fl l' S' h
  refine ⟨wh_no h, ?_⟩
  intro A W mu env s R X T k
  refine codeAny_whileLoop (fun j s1 => j ≤ n ∧ ∃ l1 S1 W1 mu1, (run B.T j).wh sc c a l1 S1 = some (fl, l', S') ∧ Ok B n A W1 sc l1 mu1 env S1 s1 ∧ Top A env mu1 ∧ Step mu W s.heap W1 s1.heap ∧ (∀ a ∈ mu1, a ∈ mu ∨ s.heap.objs.size ≤ a)) ?_ n
    ⟨Nat.le_refl _, l, S, W, mu, h, X, T, .refl _ _ _, fun a e => .inl e⟩
  rintro j s1 ⟨hj, l1, S1, W1, mu1, h1, X1, T1, st1, i1⟩
  cases j with
  | zero => cases h1
  | succ i =>
    obtain ⟨HT, HX⟩ := HH i hj
    change whS B.T (run B.T i) sc c a l1 S1 = _ at h1
    unfold whS at h1
    obtain ⟨p1, g1, g2⟩ := Option.bind_eq_some_iff.mp h1
    refine HT g1 (X1.less (Nat.le_of_succ_le hj)) fun s2 W2 st2 x2 => ?_
    have st02 : Step mu W s.heap W2 s2.heap := st1.comp st2 fun a e => nomatch e
    cases hb : p1.1 with
    | false =>
      rw [hb] at g2
      cases g2
      simp only [Bool.false_eq_true, if_false]
      exact wpAny_execs_nil (k _ s2 W2 mu1 st02 (x2.up X1.a) i1 trivial)
    | true =>
      rw [hb] at g2
      obtain ⟨q1, g3, g4⟩ := Option.bind_eq_some_iff.mp g2
      obtain ⟨fl1, l3, S3⟩ := q1
      simp only [if_true]
      refine exs_ok HX g3 x2 T1 (fun f s3 W3 mu3 st3 x3 i3 e3 => ?_) (fun c e s' hc xm => by subst hc; cases g4)
      have st03 : Step mu W s.heap W3 s3.heap := st02.comp st3 i1
      have i03 := inside i1 st02.size i3
      have X3 := x3.up X1.a
      cases fl1 with
      | next => cases f <;> simp only [Ends] at e3; exact ⟨i, Nat.lt_succ_self _, Nat.le_of_succ_le hj, restr l1 l3, S3, W3, mu3, g4, X3.restr, T1.next X1 (fun a e => (i3 a e).imp id (Nat.le_trans st2.size)), st03, i03⟩
      | cont => cases f <;> simp only [Ends] at e3; exact ⟨i, Nat.lt_succ_self _, Nat.le_of_succ_le hj, restr l1 l3, S3, W3, mu3, g4, X3.restr, T1.next X1 (fun a e => (i3 a e).imp id (Nat.le_trans st2.size)), st03, i03⟩
      | brk => cases f <;> simp only [Ends] at e3; cases g4; exact k _ s3 W3 mu3 st03 X3 i03 trivial
      | ret m => cases f <;> simp only [Ends] at e3; cases g4; exact k _ s3 W3 mu3 st03 X3 i03 e3
      | exc c => cases g4

theorem sound (O : BOk B) (FO : FnsOk B) (n : Nat) : EvOk B (run B.T n) n ∧ TrOk B (run B.T n) n ∧ CaOk B (run B.T n) n ∧ ExOk B (run B.T n) n := by
  induction n using Nat.strongRecOn with
  | ind n ih =>
  cases n with
  | zero => exact ⟨fun h => (by cases h), fun h => (by cases h), fun h => (by cases h), fun h => (by cases h)⟩
  | succ n =>
    have all : ∀ j, j < n → TrOk B (run B.T j) j ∧ ExOk B (run B.T j) j := fun j hj => by
      have := ih j (Nat.lt_succ_of_lt hj)
      exact ⟨this.2.1, this.2.2.2⟩
    obtain ⟨H, HT, HC, HX⟩ := ih n (Nat.lt_succ_self n)
    have HW : WhOk B (run B.T n) n := wh_all all
    refine ⟨fun h => ?_, fun h => ?_, fun h => ?_, fun h => ?_⟩
    · intro A W mu env s Q E x k
      exact ev_ok O H HT HC h x k
    · intro A W mu env s Q E x k
      exact tr_ok H HT h (x.less (Nat.le_succ n)) fun s' W' st x' => k s' W' st (x'.up x.a)
    · exact ca_step O FO HX h
    · intro A W mu env s Q E x t k kE
      exact ex_step O H HT HC HX HW h x t k kE
end
end Mine
namespace Mine
set_option maxRecDepth 100000
open PySem

/-! the plain law: tools -/
def noE : Expr := .Constant .none 0 ⟨0, 0, 0, 0⟩
def noS : Stmt := .Pass ⟨0, 0, 0, 0⟩
def stAt (ts : List Stmt) (i : Nat) : Stmt := (getL ts i).getD noS
def exAt (ts : List Expr) (i : Nat) : Expr := (getL ts i).getD noE
def isIf : Stmt → Bool | .If .. => true | _ => false
def ifT : Stmt → Expr | .If c _ _ _ => c | _ => noE
def ifA : Stmt → List Stmt | .If _ a _ _ => a | _ => []
def ifB : Stmt → List Stmt | .If _ _ b _ => b | _ => []
def asE : Stmt → Expr | .Assign _ e _ => e | .AugAssign _ _ e _ => e | .Return (some e) _ => e | .Expr e _ => e | _ => noE
def forI : Stmt → Expr | .For _ i _ _ _ => i | _ => noE
def forA : Stmt → List Stmt | .For _ _ a _ _ => a | .While _ a _ _ => a | .Try a _ _ _ _ => a | _ => []

section
variable {T : Tab} {r : Rec} {sc : Scope} {l l' l1 : Loc} {S S' S1 : Sto} {n : Nat} {R : Option (Fl × Loc × Sto)}

def rx (T : Tab) (n : Nat) (sc : Scope) : Loc → Sto → Stmt → Option (Fl × Loc × Sto) := fun l s t => (run T n).ex sc l s t

theorem exs_nx {f : Loc → Sto → Stmt → Option (Fl × Loc × Sto)} {t : Stmt} {q : List Stmt} (h : f l S t = some (.next, l1, S1)) (h2 : exs f q l1 S1 = R) : exs f (t :: q) l S = R := by
  unfold exs; rw [h]; exact h2
theorem exs_out {f : Loc → Sto → Stmt → Option (Fl × Loc × Sto)} {t : Stmt} {q : List Stmt} {fl : Fl} (h : f l S t = some (fl, l1, S1)) (hn : fl ≠ .next) : exs f (t :: q) l S = some (fl, l1, S1) := by
  unfold exs; rw [h]; cases fl <;> first | rfl | exact absurd rfl hn
theorem exs_app {f : Loc → Sto → Stmt → Option (Fl × Loc × Sto)} {p q : List Stmt} (h : exs f p l S = some (.next, l1, S1)) (h2 : exs f q l1 S1 = R) : exs f (p ++ q) l S = R := by
  induction p generalizing l S with
  | nil => cases h; exact h2
  | cons t p ih =>
    rw [List.cons_append]
    unfold exs at h ⊢
    obtain ⟨⟨fl, l2, S2⟩, g1, g2⟩ := Option.bind_eq_some_iff.mp h
    rw [g1]
    cases fl <;> first | exact ih g2 | (cases g2; done)

theorem ex_if {t : Stmt} {b : Bool} (hi : isIf t = true) (h : (run T n).tr sc l S (ifT t) = some (b, S1)) (h2 : exs (rx T n sc) (cond b (ifA t) (ifB t)) l S1 = R) : rx T (n + 1) sc l S t = R := by
  cases t <;> try (cases hi; done)
  show ((run T n).tr sc l S _).bind _ = R
  simp only [ifT] at h
  rw [h]
  cases b <;> exact h2
end

/-- the bag's attributes: the packet, and what `f` has -/
def mkA (pk : MV) (f : Att) : Att := fun y => match seq y "packetType" with
  | true => some pk
  | false => match memS y attrsL with
    | true => f y
    | false => none
def st0 : Option Att → Att → Sto
  | none, a => [a]
  | some b, a => [b, a]
def no0 : Option Att → Nat
  | none => 0
  | some _ => 1
def nmL (p : Nat) : List Nat := strike 32 ((getL namesL p).getD [])
def nmS (p : Nat) : Str := ⟨(nmL p).toArray⟩
def setBody : List Stmt := (mtAt 19 6).body
def setSc : Scope := (mtAt 19 6).scope
end Mine
namespace Mine
set_option maxRecDepth 100000
open PySem

def kindL : List Nat := [0, 4, 8, 8, 7, 6, 4, 8, 2, 8, 7, 0, 4, 0, 8, 8, 8, 3, 2, 3, 1, 1, 9, 5, 1, 1, 1]
def kd (p : Nat) : Nat := (getL kindL p).getD 0
def idn (p : Nat) : Nat := (getL identsL p).getD 0
def tyOf (k : Nat) : Nat := (getL [0, 0, 1, 1, 2, 2, 3, 4, 5, 6] k).getD 0
def txt (i : Nat) : List Nat := (getL texts i).getD []
def txtO (i : Nat) : List Nat := 0 :: (encode (txt i)).length :: encode (txt i)
/-- the values that are right, of a kind, and their octets -/
def domK (k : Nat) : List (MV × List Nat) := match k with
  | 0 => [(.int 0, [0]), (.int 1, [1])]
  | 1 => [(.int 0, [0]), (.int 1, [1])]
  | 2 => [(.int 0, [0, 0]), (.int 1, [0, 1]), (.int 258, [1, 2]), (.int 65535, [255, 255])]
  | 3 => [(.int 1, [0, 1]), (.int 258, [1, 2]), (.int 65535, [255, 255])]
  | 4 => [(.int 0, [0, 0, 0, 0]), (.int 1, [0, 0, 0, 1]), (.int 65536, [0, 1, 0, 0]), (.int 4294967295, [255, 255, 255, 255])]
  | 5 => [(.int 1, [0, 0, 0, 1]), (.int 300, [0, 0, 1, 44]), (.int 268435455, [15, 255, 255, 255])]
  | 6 => [(.int 1, [1]), (.int 127, [127]), (.int 128, [128, 1]), (.int 16384, [128, 128, 1]), (.int 268435455, [255, 255, 255, 127])]
  | 8 => [(.str (txt 0), txtO 0), (.str (txt 1), txtO 1), (.str (txt 2), txtO 2), (.str (txt 3), txtO 3)]
  | 9 => [(.tup [.str (txt 0), .str (txt 0)], txtO 0 ++ txtO 0), (.tup [.str (txt 1), .str (txt 0)], txtO 1 ++ txtO 0), (.tup [.str (txt 2), .str (txt 0)], txtO 2 ++ txtO 0), (.tup [.str (txt 3), .str (txt 0)], txtO 3 ++ txtO 0),
      (.tup [.str (txt 0), .str (txt 1)], txtO 0 ++ txtO 1), (.tup [.str (txt 1), .str (txt 1)], txtO 1 ++ txtO 1), (.tup [.str (txt 2), .str (txt 1)], txtO 2 ++ txtO 1), (.tup [.str (txt 3), .str (txt 1)], txtO 3 ++ txtO 1),
      (.tup [.str (txt 0), .str (txt 2)], txtO 0 ++ txtO 2), (.tup [.str (txt 1), .str (txt 2)], txtO 1 ++ txtO 2), (.tup [.str (txt 2), .str (txt 2)], txtO 2 ++ txtO 2), (.tup [.str (txt 3), .str (txt 2)], txtO 3 ++ txtO 2),
      (.tup [.str (txt 0), .str (txt 3)], txtO 0 ++ txtO 3), (.tup [.str (txt 1), .str (txt 3)], txtO 1 ++ txtO 3), (.tup [.str (txt 2), .str (txt 3)], txtO 2 ++ txtO 3), (.tup [.str (txt 3), .str (txt 3)], txtO 3 ++ txtO 3)]
  | _ => []
def dm (k i : Nat) : MV × List Nat := (getL (domK k) i).getD (.none, [])
def octV (j r : Nat) : MV × List Nat := (.bytes (List.replicate j r), 0 :: j :: List.replicate j r)
def Good (p : Nat) (v : MV) (o : List Nat) : Prop := match kd p with
  | 7 => ∃ j r, (j = 0 ∨ j = 1 ∨ j = 130) ∧ r < 256 ∧ v = .bytes (List.replicate j r) ∧ o = 0 :: j :: List.replicate j r
  | k => (v, o) ∈ domK k

end Mine
namespace Mine
set_option maxRecDepth 100000
open PySem

/-! step lemmas -/
section
variable {T : Tab} {r : Rec} {sc : Scope} {l l' l1 : Loc} {S S' S1 S2 : Sto} {n : Nat} {R : Option (Fl × Loc × Sto)} {t : Stmt} {e : Expr}

def isFor : Stmt → Bool | .For (.Name _ _) it _ [] _ => !isSetD it | _ => false
def forX : Stmt → Str | .For (.Name x _) _ _ _ _ => x | _ => ""
theorem ex_for {vs : List MV} (hi : isFor t = true) (hc : canSto sc (forX t) = true) (h2 : ownName l (forI t) = none) (h3 : source T l (forI t) ((run T n).ev sc l) S = some (vs, S1))
    (h4 : forGo (fun l' s' => exs (rx T n sc) (forA t) l' s') (forX t) vs l S1 = R) : rx T (n + 1) sc l S t = R := by
  unfold isFor at hi
  split at hi
  · rename_i x px it a p
    simp only [forX, forI, forA] at hc h2 h3 h4
    show (match isSetD it || !canSto sc x, ownName l it with
      | true, _ => none
      | false, some q => forGo (fun l' s' => exs (rx T n sc) a l' s') x q.2 (put q.1 (.list q.2) l) S
      | false, none => (source T l it ((run T n).ev sc l) S).bind fun q => forGo (fun l' s' => exs (rx T n sc) a l' s') x q.1 l q.2) = R
    have : isSetD it = false := by cases h : isSetD it <;> simp [h] at hi ⊢
    rw [this, hc, h2, h3]
    exact h4
  · cases hi
theorem ex_forOwn {y : Str} {vs : List MV} (hi : isFor t = true) (hc : canSto sc (forX t) = true) (h2 : ownName l (forI t) = some (y, vs))
    (h4 : forGo (fun l' s' => exs (rx T n sc) (forA t) l' s') (forX t) vs (put y (.list vs) l) S = R) : rx T (n + 1) sc l S t = R := by
  unfold isFor at hi
  split at hi
  · rename_i x px it a p
    simp only [forX, forI, forA] at hc h2 h4
    show (match isSetD it || !canSto sc x, ownName l it with
      | true, _ => none
      | false, some q => forGo (fun l' s' => exs (rx T n sc) a l' s') x q.2 (put q.1 (.list q.2) l) S
      | false, none => (source T l it ((run T n).ev sc l) S).bind fun q => forGo (fun l' s' => exs (rx T n sc) a l' s') x q.1 l q.2) = R
    have : isSetD it = false := by cases h : isSetD it <;> simp [h] at hi ⊢
    rw [this, hc, h2]
    exact h4
  · cases hi
theorem forGo_next {f : Loc → Sto → Option (Fl × Loc × Sto)} {x : Str} {v : MV} {vs : List MV} (h : f (put x v l) S = some (.next, l1, S1)) (h2 : forGo f x vs (restr l l1) S1 = R) : forGo f x (v :: vs) l S = R := by
  unfold forGo; rw [h]; exact h2
theorem forGo_cont {f : Loc → Sto → Option (Fl × Loc × Sto)} {x : Str} {v : MV} {vs : List MV} (h : f (put x v l) S = some (.cont, l1, S1)) (h2 : forGo f x vs (restr l l1) S1 = R) : forGo f x (v :: vs) l S = R := by
  unfold forGo; rw [h]; exact h2
theorem forGo_brk {f : Loc → Sto → Option (Fl × Loc × Sto)} {x : Str} {v : MV} {vs : List MV} (h : f (put x v l) S = some (.brk, l1, S1)) : forGo f x (v :: vs) l S = some (.next, l1, S1) := by
  unfold forGo; rw [h]; rfl
theorem forGo_ret {f : Loc → Sto → Option (Fl × Loc × Sto)} {x : Str} {v w : MV} {vs : List MV} (h : f (put x v l) S = some (.ret w, l1, S1)) : forGo f x (v :: vs) l S = some (.ret w, l1, S1) := by
  unfold forGo; rw [h]; rfl

def isMeth : Expr → Bool | .Call (.Attribute o _ ap) args [] pos => !isCallE o && Nat.beq ap.endLine pos.line && Nat.blt args.length 29 | _ => false
def mO : Expr → Expr | .Call (.Attribute o _ _) _ _ _ => o | _ => noE
def mN : Expr → Str | .Call (.Attribute _ nm _) _ _ _ => nm | _ => ""
def mA : Expr → List Expr | .Call _ args _ _ => args | _ => []
theorem evCall_meth {k : Nat} {vs : List MV} {f : Addr} (hi : isMeth e = true) (h1 : (run T n).ev sc l S (mO e) = some (.obj k, S)) (h2 : evs ((run T n).ev sc l) (mA e) S = some (vs, S1))
    (hm : memS (mN e) T.attrs = false) (hf : lk (mN e) T.meth = some f) : evCall T (run T n) sc l S e = (run T n).ca f (.obj k :: vs) S1 := by
  unfold isMeth at hi
  split at hi
  · rename_i o nm ap args pos
    simp only [mO, mN, mA] at h1 h2 hm hf
    unfold evCall
    simp only [hi, h1, Option.bind_some]
    rw [h2]
    show methS T (run T n) nm (.obj k) vs S1 = _
    unfold methS
    simp only [hm, hf, Option.bind_some]
  · cases hi
theorem evCall_smeth {a : Addr} {vs : List MV} {f : Addr} {tb : List (Str × Addr)} (hi : isMeth e = true) (h1 : (run T n).ev sc l S (mO e) = some (.ref a, S)) (h2 : evs ((run T n).ev sc l) (mA e) S = some (vs, S1))
    (hm : lkN a T.smeth = some tb) (hf : lk (mN e) tb = some f) : evCall T (run T n) sc l S e = (run T n).ca f vs S1 := by
  unfold isMeth at hi
  split at hi
  · rename_i o nm ap args pos
    simp only [mO, mN, mA] at h1 h2 hm hf
    unfold evCall
    simp only [hi, h1, Option.bind_some]
    rw [h2]
    show methS T (run T n) nm (.ref a) vs S1 = _
    unfold methS
    simp only [hm, hf, Option.bind_some]
  · cases hi
/-- a plain call of a function by its name -/
def isFnC : Expr → Bool | .Call (.Name _ _) _ [] _ => true | _ => false
def fnO : Expr → Expr | .Call f _ _ _ => f | _ => noE
theorem evCall_fn {a : Addr} {vs : List MV} (hi : isFnC e = true) (h1 : (run T n).ev sc l S (fnO e) = some (.ref a, S)) (h2 : evs ((run T n).ev sc l) (mA e) S = some (vs, S1)) (hC : Nat.beq a T.C = false) :
    evCall T (run T n) sc l S e = (run T n).ca a vs S1 := by
  unfold isFnC at hi
  split at hi
  · rename_i x px args pos
    simp only [fnO, mA] at h1 h2
    show ((run T n).ev sc l S _).bind _ = _
    rw [h1]
    show (evs ((run T n).ev sc l) args S).bind _ = _
    rw [h2]
    show callS T (run T n) (.ref a) vs S1 = _
    unfold callS
    simp only [hC]
  · cases hi
theorem ev_meth {v : MV} (hi : isMeth e = true) (h : evCall T (run T n) sc l S e = some (.val v, S1)) : (run T (n + 1)).ev sc l S e = some (v, S1) := by
  unfold isMeth at hi
  split at hi
  · show valOut (evCall T (run T n) sc l S _) = _
    rw [h]; rfl
  · cases hi
def noOwnArg (l : Loc) : List Expr → Bool
  | [.Name x _] => match lk x l with
    | some (.own _) => false
    | _ => true
  | _ => true
/-- not `len(x)` of an own list -/
theorem ev_fn {v : MV} (hi : isFnC e = true) (ha : noOwnArg l (mA e) = true) (h : evCall T (run T n) sc l S e = some (.val v, S1)) : (run T (n + 1)).ev sc l S e = some (v, S1) := by
  unfold isFnC at hi
  split at hi
  · rename_i x px args pos
    simp only [mA] at ha
    match args, ha, h with
    | [], _, h => show valOut (evCall T (run T n) sc l S (.Call (.Name x px) [] [] pos)) = _; rw [h]; rfl
    | a :: b :: r, _, h => cases a <;> (show valOut (evCall T (run T n) sc l S (.Call (.Name x px) (_ :: b :: r) [] pos)) = _; rw [h]; rfl)
    | [a], ha, h =>
      cases a with
      | Name y yp =>
        show (match lk y l with
          | some (.own xs) => match nameMV T sc l x with
            | some (.prim 0) => some (MV.int (.ofNat xs.length), S)
            | _ => none
          | _ => valOut (evCall T (run T n) sc l S (.Call (.Name x px) [.Name y yp] [] pos))) = some (v, S1)
        split
        · rename_i xs hx
          have ha : (match lk y l with | some (.own _) => false | _ => true) = true := ha
          rw [hx] at ha; cases ha
        · rw [h]; rfl
      | _ => show valOut (evCall T (run T n) sc l S (.Call (.Name x px) [_] [] pos)) = _; rw [h]; rfl
  · cases hi

def isAug : Stmt → Bool | .AugAssign (.Name _ _) .Add _ _ => true | _ => false
def augX : Stmt → Str | .AugAssign (.Name x _) _ _ _ => x | _ => ""
theorem ex_aug {b c : List Nat} (hi : isAug t = true) (hc : canSto sc (augX t) = true) (h1 : nameMV T sc l (augX t) = some (.bytes b)) (h2 : (run T n).ev sc l S (asE t) = some (.bytes c, S1)) (hl : b.length + c.length ≤ 1000000) :
    rx T (n + 1) sc l S t = some (.next, put (augX t) (.bytes (b ++ c)) l, S1) := by
  unfold isAug at hi
  split at hi
  · rename_i x px e p
    simp only [augX, asE] at hc h1 h2 ⊢
    show (match canSto sc x with
      | false => none
      | true => (nameMV T sc l x).bind fun a => ((run T n).ev sc l S e).bind fun p => (iop .Add a p.1).map fun v => ((.next, put x v l, p.2) : Fl × Loc × Sto)) = _
    rw [hc, h1]
    show (((run T n).ev sc l S e).bind _) = _
    rw [h2]
    show ((match Nat.ble (b.length + c.length) 1000000 with | true => some (MV.bytes (b ++ c)) | false => none).map _) = _
    rw [Nat.ble_eq_true_of_le hl]
    rfl
  · cases hi
def isRet : Stmt → Bool | .Return (some _) _ => true | _ => false
theorem ex_ret {v : MV} (hi : isRet t = true) (h : (run T n).ev sc l S (asE t) = some (v, S1)) : rx T (n + 1) sc l S t = some (.ret v, l, S1) := by
  unfold isRet at hi
  split at hi
  · rename_i e p
    simp only [asE] at h
    show ((run T n).ev sc l S e).map _ = _
    rw [h]; rfl
  · cases hi
def isBin : Expr → Bool | .BinOp .. => true | _ => false
def binA : Expr → Expr | .BinOp a _ _ _ => a | _ => noE
def binO : Expr → Operator | .BinOp _ o _ _ => o | _ => .Add
def binB : Expr → Expr | .BinOp _ _ b _ => b | _ => noE
theorem ev_bin {a b v : MV} (hi : isBin e = true) (h1 : (run T n).ev sc l S (binA e) = some (a, S1)) (h2 : (run T n).ev sc l S1 (binB e) = some (b, S2)) (h3 : binop (binO e) a b = some v) : (run T (n + 1)).ev sc l S e = some (v, S2) := by
  unfold isBin at hi
  split at hi
  · rename_i x o y p
    simp only [binA, binB, binO] at h1 h2 h3
    show ((run T n).ev sc l S x).bind _ = _
    rw [h1]
    show ((run T n).ev sc l S1 y).bind _ = _
    rw [h2]
    show (binop o a b).map _ = _
    rw [h3]; rfl
  · cases hi
theorem bin_cat {a b : List Nat} (h : a.length + b.length ≤ 1000000) : binop .Add (.bytes a) (.bytes b) = some (.bytes (a ++ b)) := by
  show (match Nat.ble (a.length + b.length) 1000000 with | true => some (MV.bytes (a ++ b)) | false => none) = _
  rw [Nat.ble_eq_true_of_le h]
def isWh : Stmt → Bool | .While _ _ [] _ => true | _ => false
def whC : Stmt → Expr | .While c _ _ _ => c | _ => noE
theorem ex_wh (hi : isWh t = true) (h : (run T n).wh sc (whC t) (forA t) l S = R) : rx T (n + 1) sc l S t = R := by
  unfold isWh at hi
  split at hi
  · exact h
  · cases hi
theorem wh_next {c : Expr} {a : List Stmt} (h : (run T n).tr sc l S c = some (true, S1)) (h2 : exs (rx T n sc) a l S1 = some (.next, l1, S2)) (h3 : (run T n).wh sc c a (restr l l1) S2 = R) : (run T (n + 1)).wh sc c a l S = R := by
  show ((run T n).tr sc l S c).bind _ = _
  rw [h]
  show (exs (rx T n sc) a l S1).bind _ = _
  rw [h2]
  exact h3
theorem wh_brk {c : Expr} {a : List Stmt} (h : (run T n).tr sc l S c = some (true, S1)) (h2 : exs (rx T n sc) a l S1 = some (.brk, l1, S2)) : (run T (n + 1)).wh sc c a l S = some (.next, l1, S2) := by
  show ((run T n).tr sc l S c).bind _ = _
  rw [h]
  show (exs (rx T n sc) a l S1).bind _ = _
  rw [h2]; rfl
theorem wh_end {c : Expr} {a : List Stmt} (h : (run T n).tr sc l S c = some (false, S1)) : (run T (n + 1)).wh sc c a l S = some (.next, l, S1) := by
  show ((run T n).tr sc l S c).bind _ = _
  rw [h]; rfl
def isTupA : Stmt → Bool | .Assign [.Tuple _ _ _] e _ => !(isTupE e || isComp e) | _ => false
def tupX : Stmt → List Expr | .Assign [.Tuple xs _ _] _ _ => xs | _ => []
theorem ex_tup {vs : List MV} (hi : isTupA t = true) (h : (run T n).ev sc l S (asE t) = some (.tup vs, S1)) (h2 : asgn sc (tupX t) vs l = some l1) : rx T (n + 1) sc l S t = some (.next, l1, S1) := by
  unfold isTupA at hi
  split at hi
  · rename_i xs c p e q
    simp only [asE, tupX] at h h2
    have hf : (isTupE e || isComp e) = false := by cases h : (isTupE e || isComp e) <;> simp [h] at hi ⊢
    show (match isTupE e || isComp e with
      | true => none
      | false => ((run T n).ev sc l S e).bind fun p => match p.1 with
        | .tup vs => (asgn sc xs vs l).map fun l' => (Fl.next, l', p.2)
        | _ => none) = _
    rw [hf, h]
    show (asgn sc xs vs l).map _ = _
    rw [h2]; rfl
  · cases hi
def isAsg : Stmt → Bool | .Assign [.Name _ _] e _ => !isComp e | _ => false
def asgX : Stmt → Str | .Assign [.Name x _] _ _ => x | _ => ""
theorem ex_asgn {v : MV} (hi : isAsg t = true) (hc : canSto sc (asgX t) = true) (hr : (seq (asgX t) rowsName && isLocal sc (asgX t)) = false) (h : (run T n).ev sc l S (asE t) = some (v, S1)) : rx T (n + 1) sc l S t = some (.next, put (asgX t) v l, S1) := by
  unfold isAsg at hi
  split at hi
  · rename_i x px e p
    simp only [asE, asgX] at h hc hr ⊢
    have hf : isComp e = false := by cases h : isComp e <;> simp [h] at hi ⊢
    show exS T (run T n) sc l S (.Assign [.Name x px] e p) = _
    unfold exS
    simp only [hc, hr, hf, h]
    rfl
  · cases hi
def isSub : Expr → Bool | .Subscript _ i _ => !isSlice i | _ => false
def subO : Expr → Expr | .Subscript o _ _ => o | _ => noE
def subX : Expr → Expr | .Subscript _ i _ => i | _ => noE
theorem ev_sub {a b v : MV} (hi : isSub e = true) (h1 : (run T n).ev sc l S (subO e) = some (a, S1)) (h2 : (run T n).ev sc l S1 (subX e) = some (b, S2)) (h3 : item T a b = some v) : (run T (n + 1)).ev sc l S e = some (v, S2) := by
  unfold isSub at hi
  split at hi
  · rename_i o i p
    simp only [subO, subX] at h1 h2
    have hf : isSlice i = false := by cases h : isSlice i <;> simp [h] at hi ⊢
    have : (run T (n + 1)).ev sc l S (.Subscript o i p) = ((run T n).ev sc l S o).bind fun p => ((run T n).ev sc l p.2 i).bind fun q => (item T p.1 q.1).map fun v => (v, q.2) := by
      cases i <;> first | rfl | cases hf
    rw [this, h1]
    show ((run T n).ev sc l S1 i).bind _ = _
    rw [h2]
    show (item T a b).map _ = _
    rw [h3]; rfl
  · cases hi
def isAugI : Stmt → Bool | .AugAssign (.Name _ _) _ _ _ => true | _ => false
def augO : Stmt → Operator | .AugAssign _ o _ _ => o | _ => .Add
theorem ex_augI {a b v : MV} (hi : isAugI t = true) (hc : canSto sc (augX t) = true) (h1 : nameMV T sc l (augX t) = some a) (h2 : (run T n).ev sc l S (asE t) = some (b, S1)) (h3 : iop (augO t) a b = some v) :
    rx T (n + 1) sc l S t = some (.next, put (augX t) v l, S1) := by
  unfold isAugI at hi
  split at hi
  · rename_i x px o e p
    simp only [augX, asE, augO] at hc h1 h2 h3 ⊢
    show (match canSto sc x with
      | false => none
      | true => (nameMV T sc l x).bind fun a => ((run T n).ev sc l S e).bind fun p => (iop o a p.1).map fun v => ((.next, put x v l, p.2) : Fl × Loc × Sto)) = _
    rw [hc, h1]
    show (((run T n).ev sc l S e).bind _) = _
    rw [h2]
    show (iop o a b).map _ = _
    rw [h3]; rfl
  · cases hi
end
theorem bytes_one (z : Int) (c : Nat) (hz : z = .ofNat c) (hc : c < 256) (S : Sto) : valOut (((allByte [.int z]).map MV.bytes).map fun v => (.val v, S)) = some (.bytes [c], S) := by
  subst hz
  show valOut ((((match Nat.blt c 256 with | true => some [c] | false => none) : Option (List Nat)).map MV.bytes).map fun v => (.val v, S)) = _
  rw [show Nat.blt c 256 = true from Nat.blt_eq.mpr hc]
  rfl
section
variable {l l' : Loc} {S S' : Sto} {n : Nat}
def outF : Fl → Option Out
  | .next => some (.val .none)
  | .ret v => some (.val v)
  | .exc c => some (.exc c)
  | _ => none
theorem ca_of {f : Addr} {fn : Fn} {args : List MV} {fl : Fl} {out : Out} (h1 : lkN f TT.fn = some fn) (h2 : zipArgs fn.params args = some l) (h3 : exs (rx TT n fn.scope) fn.body l S = some (fl, l', S')) (h4 : outF fl = some out) :
    (run TT (n + 1)).ca f args S = some (out, S') := by
  show (lkN f TT.fn).bind _ = _
  rw [h1]
  show (zipArgs fn.params args).bind _ = _
  rw [h2]
  show (exs (rx TT n fn.scope) fn.body l S).bind _ = _
  rw [h3]
  cases fl <;> first | (cases h4; rfl) | cases h4
end
end Mine
namespace Mine
set_option maxRecDepth 100000
open PySem

section
variable {T : Tab} {r : Rec} {sc csc : Scope} {l l' l0 l1 : Loc} {S S' S1 S2 S3 : Sto} {n : Nat} {R : Option (Fl × Loc × Sto)} {t : Stmt} {e : Expr} {rw zs : List MV}
def isIfE : Expr → Bool | .IfExp .. => true | _ => false
def ieT : Expr → Expr | .IfExp c _ _ _ => c | _ => noE
def ieA : Expr → Expr | .IfExp _ a _ _ => a | _ => noE
def ieB : Expr → Expr | .IfExp _ _ b _ => b | _ => noE
theorem ev_ife {b : Bool} {v : MV} (hi : isIfE e = true) (h : (run T n).tr sc l S (ieT e) = some (b, S1)) (h2 : (run T n).ev sc l S1 (match b with | true => ieA e | false => ieB e) = some (v, S2)) : (run T (n + 1)).ev sc l S e = some (v, S2) := by
  cases e <;> try (cases hi; done)
  simp only [ieT] at h
  show ((run T n).tr sc l S _).bind _ = _
  rw [h]
  cases b <;> exact h2
theorem tg_or {f : Sto → Expr → Option (Bool × Sto)} {A B : Expr} {a b : Bool} (h1 : f S A = some (a, S)) (h2 : f S B = some (b, S)) : trueGo .Or f [A, B] S = some (a || b, S) := by
  unfold trueGo; rw [h1]
  cases a
  · show trueGo .Or f [B] S = _
    unfold trueGo; rw [h2]; cases b <;> rfl
  · rfl
theorem tg_and2 {f : Sto → Expr → Option (Bool × Sto)} {A B : Expr} {a b : Bool} (h1 : f S A = some (a, S)) (h2 : f S B = some (b, S)) : trueGo .And f [A, B] S = some (a && b, S) := by
  unfold trueGo; rw [h1]
  cases a
  · rfl
  · show trueGo .And f [B] S = _
    unfold trueGo; rw [h2]; cases b <;> rfl
theorem tg_and3 {f : Sto → Expr → Option (Bool × Sto)} {A B C : Expr} {a b c : Bool} (h1 : f S A = some (a, S)) (h2 : f S B = some (b, S)) (h3 : f S C = some (c, S)) : trueGo .And f [A, B, C] S = some (a && (b && c), S) := by
  unfold trueGo; rw [h1]
  cases a
  · rfl
  · show trueGo .And f [B, C] S = some (b && c, S)
    exact tg_and2 h2 h3
def isBool : Expr → Bool | .BoolOp .. => true | _ => false
def boO : Expr → BoolOp | .BoolOp o _ _ => o | _ => .And
def boE : Expr → List Expr | .BoolOp _ es _ => es | _ => []
theorem tr_bool {b : Bool} (hi : isBool e = true) (h : trueGo (boO e) ((run T n).tr sc l) (boE e) S = some (b, S1)) : (run T (n + 1)).tr sc l S e = some (b, S1) := by
  cases e <;> try (cases hi; done)
  exact h
def isCmp1 : Expr → Bool | .Compare _ [_] [b] _ => !isSetD b | _ => false
def cmA : Expr → Expr | .Compare a _ _ _ => a | _ => noE
def cmO : Expr → CmpOp | .Compare _ [o] _ _ => o | _ => .Eq
def cmB : Expr → Expr | .Compare _ _ [b] _ => b | _ => noE
theorem cmpGo1 {f : Sto → Expr → Option (MV × Sto)} {x y : MV} {o : CmpOp} {b : Expr} {c : Bool} (hs : isSetD b = false) (h : f S b = some (y, S1)) (h2 : cmp o x y = some c) : cmpGo f x [o] [b] S = some (c, S1) := by
  unfold cmpGo; rw [hs, h]; show (cmp o x y).map _ = _; rw [h2]; rfl
theorem tr_cmp {x y : MV} {c : Bool} (hi : isCmp1 e = true) (h1 : (run T n).ev sc l S (cmA e) = some (x, S1)) (h2 : (run T n).ev sc l S1 (cmB e) = some (y, S2)) (h3 : cmp (cmO e) x y = some c) : (run T (n + 1)).tr sc l S e = some (c, S2) := by
  unfold isCmp1 at hi
  split at hi
  · rename_i a o b p
    simp only [cmA, cmB, cmO] at h1 h2 h3
    have hs : isSetD b = false := by cases h : isSetD b <;> simp [h] at hi ⊢
    show ((run T n).ev sc l S a).bind _ = _
    rw [h1]
    exact cmpGo1 hs h2 h3
  · cases hi
theorem ev_cmp {x y : MV} {c : Bool} (hi : isCmp1 e = true) (h1 : (run T n).ev sc l S (cmA e) = some (x, S1)) (h2 : (run T n).ev sc l S1 (cmB e) = some (y, S2)) (h3 : cmp (cmO e) x y = some c) : (run T (n + 1)).ev sc l S e = some (.bool c, S2) := by
  unfold isCmp1 at hi
  split at hi
  · rename_i a o b p
    simp only [cmA, cmB, cmO] at h1 h2 h3
    have hs : isSetD b = false := by cases h : isSetD b <;> simp [h] at hi ⊢
    show ((run T n).ev sc l S a).bind _ = _
    rw [h1]
    show (cmpGo _ x [o] [b] S1).map _ = _
    rw [cmpGo1 hs h2 h3]; rfl
  · cases hi
theorem evCall_prim {k : Nat} {vs : List MV} {v : MV} (hi : isFnC e = true) (h1 : (run T n).ev sc l S (fnO e) = some (.prim k, S)) (h2 : evs ((run T n).ev sc l) (mA e) S = some (vs, S1)) (h3 : bfun T k S1 vs = some v) :
    evCall T (run T n) sc l S e = some (.val v, S1) := by
  unfold isFnC at hi
  split at hi
  · rename_i x px args pos
    simp only [fnO, mA] at h1 h2
    show ((run T n).ev sc l S _).bind _ = _
    rw [h1]
    show (evs ((run T n).ev sc l) args S).bind _ = _
    rw [h2]
    show (bfun T k S1 vs).map _ = _
    rw [h3]; rfl
  · cases hi

/-! comprehensions over the own rows -/
def isLC : Expr → Bool | .ListComp _ [⟨.Name _ _, it, [_], 0⟩] _ _ => !isSetD it | _ => false
def lcE : Expr → Expr | .ListComp a _ _ _ => a | _ => noE
def lcX : Expr → Str | .ListComp _ [⟨.Name x _, _, _, _⟩] _ _ => x | _ => ""
def lcI : Expr → Expr | .ListComp _ [⟨_, it, _, _⟩] _ _ => it | _ => noE
def lcC : Expr → Expr | .ListComp _ [⟨_, _, [c], _⟩] _ _ => c | _ => noE
def lcS : Expr → Scope | .ListComp _ _ sc _ => sc | _ => ⟨.function, [], false, false, []⟩
theorem compS_one {elt iter c : Expr} {x : Str} (hk : isFun csc.kind = true) (hl : compLoc csc.names sc x l = some l0) (hs : source T l iter (r.ev sc l) S = some (rw, S)) (hn : rw.length ≤ 1000000)
    (hg : compGo (some fun l' s' => r.tr csc l' s' c) (fun l' s' => r.ev csc l' s' elt) x l0 rw S = some (zs, S)) : compS T r sc l S elt x iter [c] csc = some (zs, S) := by
  unfold compS
  rw [hk, hl]
  show (source T l iter (r.ev sc l) S).bind _ = _
  rw [hs]
  show (match Nat.ble rw.length 1000000 with | false => none | true => _) = _
  rw [Nat.ble_eq_true_of_le hn]
  exact hg
theorem compGo_filter {tt : Loc → Sto → Option (Bool × Sto)} {elt : Loc → Sto → Option (MV × Sto)} {x : Str} {c : MV → Bool} : ∀ {rw : List MV}, (∀ v ∈ rw, tt ((x, v) :: l) S = some (c v, S) ∧ elt ((x, v) :: l) S = some (v, S)) →
    compGo (some tt) elt x l rw S = some (rw.filter c, S)
  | [], _ => rfl
  | v :: q, h => by
    obtain ⟨h1, h2⟩ := h v (.head _)
    have ih := compGo_filter (tt := tt) (elt := elt) (x := x) (c := c) (rw := q) fun w hw => h w (.tail _ hw)
    unfold compGo
    show (tt ((x, v) :: l) S).bind _ = _
    rw [h1]
    cases hc : c v with
    | true =>
      show (elt ((x, v) :: l) S).bind _ = _
      rw [h2]
      show (compGo (some tt) elt x l q S).bind _ = _
      rw [ih, List.filter_cons, hc]; rfl
    | false =>
      show compGo (some tt) elt x l q S = _
      rw [ih, List.filter_cons, hc]; rfl
theorem ev_lc (hi : isLC e = true) (h : compS T (run T n) sc l S (lcE e) (lcX e) (lcI e) [lcC e] (lcS e) = some (zs, S1)) : (run T (n + 1)).ev sc l S e = some (.list zs, S1) := by
  unfold isLC at hi
  split at hi
  · rename_i a x xp it c csc p
    simp only [lcE, lcX, lcI, lcC, lcS] at h
    have hs : isSetD it = false := by cases h : isSetD it <;> simp [h] at hi ⊢
    show (match isSetD it with
      | true => none
      | false => (compS T (run T n) sc l S a x it [c] csc).map fun (p : List MV × Sto) => (MV.list p.1, p.2)) = _
    rw [hs, h]; rfl
  · cases hi
def isOwnLC : Stmt → Bool | .Assign [.Name x px] (.ListComp a [⟨.Name y yp, it, [c], 0⟩] csc cp) _ => seq x rowsName && !(isSetD it || !Nat.beq px.line cp.line || memS x (csc.names.map fun p => p.1)) | _ => false
theorem ex_ownLC (hi : isOwnLC t = true) (hc : canSto sc (asgX t) = true) (hr : isLocal sc (asgX t) = true) (h : compS T (run T n) sc l S (lcE (asE t)) (lcX (asE t)) (lcI (asE t)) [lcC (asE t)] (lcS (asE t)) = some (zs, S1)) :
    rx T (n + 1) sc l S t = some (.next, put (asgX t) (.own zs) l, S1) := by
  unfold isOwnLC at hi
  split at hi
  · rename_i x px a y yp it c csc cp p
    simp only [asE, asgX, lcE, lcX, lcI, lcC, lcS] at h hc hr ⊢
    simp only [Bool.and_eq_true, Bool.not_eq_true'] at hi
    show exS T (run T n) sc l S (.Assign [.Name x px] (.ListComp a [⟨.Name y yp, it, [c], 0⟩] csc cp) p) = _
    unfold exS
    simp only [hc, hr, hi.1, hi.2, h, Bool.and_self]
    rfl
  · cases hi
def isApp : Stmt → Bool | .Expr (.Call (.Attribute (.Name _ _) nm ap) [e] [] pos) _ => seq nm "append" && Nat.beq ap.endLine pos.line && !isStar e | _ => false
def appX : Stmt → Str | .Expr (.Call (.Attribute (.Name y _) _ _) _ _ _) _ => y | _ => ""
def appE : Stmt → Expr | .Expr (.Call _ [e] _ _) _ => e | _ => noE
theorem ex_app {v : MV} {xs : List MV} (hi : isApp t = true) (hl : lk (appX t) l = some (.own xs)) (hn : xs.length ≤ 1000) (h : (run T n).ev sc l S (appE t) = some (v, S1)) : rx T (n + 1) sc l S t = some (.next, put (appX t) (.own (xs ++ [v])) l, S1) := by
  unfold isApp at hi
  split at hi
  · rename_i y yp nm ap e pos p
    simp only [appX, appE] at hl h ⊢
    show exS T (run T n) sc l S (.Expr (.Call (.Attribute (.Name y yp) nm ap) [e] [] pos) p) = _
    unfold exS
    simp only [hl, hi, h, Nat.ble_eq_true_of_le hn, Bool.and_self]
    rfl
  · cases hi

/-! the law's try -/
def isTry : Stmt → Bool | .Try (.Expr (.Call _ _ _ _) _ :: _) [.ExceptHandler (some (.Name _ _)) none _ _] [] [] _ => true | _ => false
def tryC : Stmt → Expr | .Try (.Expr e _ :: _) _ _ _ _ => e | _ => noE
def tryA : Stmt → List Stmt | .Try (_ :: a) _ _ _ _ => a | _ => []
def tryN : Stmt → Str | .Try _ [.ExceptHandler (some (.Name c _)) _ _ _] _ _ _ => c | _ => ""
def tryH : Stmt → List Stmt | .Try _ [.ExceptHandler _ _ h _] _ _ _ => h | _ => []
theorem ex_tryOk {fl : Fl} (hi : isTry t = true) (hs : lk "ident" sc.names = some .cell) (h : evCall T (run T n) sc l S (tryC t) = some (.val .none, S1)) (h2 : exs (rx T n sc) (tryA t) l S1 = some (fl, l1, S2)) (hf : ∀ c, fl ≠ .exc c) :
    rx T (n + 1) sc l S t = some (fl, l1, S2) := by
  unfold isTry at hi
  split at hi
  · rename_i f args kws pos p a c cp hb hp q
    simp only [tryC, tryA] at h h2
    show exS T (run T n) sc l S (.Try (.Expr (.Call f args kws pos) p :: a) [.ExceptHandler (some (.Name c cp)) none hb hp] [] [] q) = _
    unfold exS
    simp only [hs, h]
    show (exs (rx T n sc) a l S1).bind _ = _
    rw [h2]
    cases fl <;> first | rfl | exact absurd rfl (hf _)
  · cases hi
theorem ex_tryExc {fl : Fl} {x : Addr} (hi : isTry t = true) (hs : lk "ident" sc.names = some .cell) (h : evCall T (run T n) sc l S (tryC t) = some (.exc x, S1)) (hn : nameMV T sc l (tryN t) = some (.ref x)) (hm : memN x T.exc = true) (h2 : exH T sc l (tryH t) = some (fl, l1)) :
    rx T (n + 1) sc l S t = some (fl, l1, S1) := by
  unfold isTry at hi
  split at hi
  · rename_i f args kws pos p a c cp hb hp q
    simp only [tryC, tryN, tryH] at h hn h2
    show exS T (run T n) sc l S (.Try (.Expr (.Call f args kws pos) p :: a) [.ExceptHandler (some (.Name c cp)) none hb hp] [] [] q) = _
    unfold exS
    simp only [hs, h, hn, hm, h2, Nat.beq_refl, Bool.and_self]
    rfl
  · cases hi
end
end Mine
namespace Mine
set_option maxRecDepth 100000
open PySem
def multi (p : Nat) : Bool := Nat.beq p 5 || Nat.beq p 22
def nmF (p : Nat) : List Nat := (getL namesL p).getD []
def whr (p : Nat) : List Int := ((getL whereL p).getD []).map fun n => .ofNat n
def GI (p : Nat) : Prop := ∀ (o : Option Att) (n : Nat) (pk : MV) (f : Att), (run TT (n + 20)).ca 257 [.obj (no0 o), .str (nmL p)] (st0 o (mkA pk f)) = some (.val (.int (.ofNat (idn p))), st0 o (mkA pk f))
theorem gi_0 : GI 0 := by intro o n pk f; cases o with | none => kernel_rfl | some b => kernel_rfl
theorem gi_1 : GI 1 := by intro o n pk f; cases o with | none => kernel_rfl | some b => kernel_rfl
theorem gi_2 : GI 2 := by intro o n pk f; cases o with | none => kernel_rfl | some b => kernel_rfl
theorem gi_3 : GI 3 := by intro o n pk f; cases o with | none => kernel_rfl | some b => kernel_rfl
theorem gi_4 : GI 4 := by intro o n pk f; cases o with | none => kernel_rfl | some b => kernel_rfl
theorem gi_5 : GI 5 := by intro o n pk f; cases o with | none => kernel_rfl | some b => kernel_rfl
theorem gi_6 : GI 6 := by intro o n pk f; cases o with | none => kernel_rfl | some b => kernel_rfl
theorem gi_7 : GI 7 := by intro o n pk f; cases o with | none => kernel_rfl | some b => kernel_rfl
theorem gi_8 : GI 8 := by intro o n pk f; cases o with | none => kernel_rfl | some b => kernel_rfl
theorem gi_9 : GI 9 := by intro o n pk f; cases o with | none => kernel_rfl | some b => kernel_rfl
theorem gi_10 : GI 10 := by intro o n pk f; cases o with | none => kernel_rfl | some b => kernel_rfl
theorem gi_11 : GI 11 := by intro o n pk f; cases o with | none => kernel_rfl | some b => kernel_rfl
theorem gi_12 : GI 12 := by intro o n pk f; cases o with | none => kernel_rfl | some b => kernel_rfl
theorem gi_13 : GI 13 := by intro o n pk f; cases o with | none => kernel_rfl | some b => kernel_rfl
theorem gi_14 : GI 14 := by intro o n pk f; cases o with | none => kernel_rfl | some b => kernel_rfl
theorem gi_15 : GI 15 := by intro o n pk f; cases o with | none => kernel_rfl | some b => kernel_rfl
theorem gi_16 : GI 16 := by intro o n pk f; cases o with | none => kernel_rfl | some b => kernel_rfl
theorem gi_17 : GI 17 := by intro o n pk f; cases o with | none => kernel_rfl | some b => kernel_rfl
theorem gi_18 : GI 18 := by intro o n pk f; cases o with | none => kernel_rfl | some b => kernel_rfl
theorem gi_19 : GI 19 := by intro o n pk f; cases o with | none => kernel_rfl | some b => kernel_rfl
theorem gi_20 : GI 20 := by intro o n pk f; cases o with | none => kernel_rfl | some b => kernel_rfl
theorem gi_21 : GI 21 := by intro o n pk f; cases o with | none => kernel_rfl | some b => kernel_rfl
theorem gi_22 : GI 22 := by intro o n pk f; cases o with | none => kernel_rfl | some b => kernel_rfl
theorem gi_23 : GI 23 := by intro o n pk f; cases o with | none => kernel_rfl | some b => kernel_rfl
theorem gi_24 : GI 24 := by intro o n pk f; cases o with | none => kernel_rfl | some b => kernel_rfl
theorem gi_25 : GI 25 := by intro o n pk f; cases o with | none => kernel_rfl | some b => kernel_rfl
theorem gi_26 : GI 26 := by intro o n pk f; cases o with | none => kernel_rfl | some b => kernel_rfl
theorem giAll : ∀ p, p < 27 → GI p
  | 0, _ => gi_0
  | 1, _ => gi_1
  | 2, _ => gi_2
  | 3, _ => gi_3
  | 4, _ => gi_4
  | 5, _ => gi_5
  | 6, _ => gi_6
  | 7, _ => gi_7
  | 8, _ => gi_8
  | 9, _ => gi_9
  | 10, _ => gi_10
  | 11, _ => gi_11
  | 12, _ => gi_12
  | 13, _ => gi_13
  | 14, _ => gi_14
  | 15, _ => gi_15
  | 16, _ => gi_16
  | 17, _ => gi_17
  | 18, _ => gi_18
  | 19, _ => gi_19
  | 20, _ => gi_20
  | 21, _ => gi_21
  | 22, _ => gi_22
  | 23, _ => gi_23
  | 24, _ => gi_24
  | 25, _ => gi_25
  | 26, _ => gi_26
  | n + 27, h => absurd h (by omega)
def amSc : Scope := (mtAt 19 4).scope
def amR : Stmt := stAt (mtAt 19 4).body 0
def lAM (o : Option Att) (nm : List Nat) : Loc := [("self", .obj (no0 o)), ("compressedName", .str nm)]
theorem am_cut : (mtAt 19 4).body = [amR] := by kernel_rfl
theorem am_multi : ∀ p, p < 27 → anyInt (.ofNat (idn p)) [11, 38] = multi p := by decide +kernel
theorem amAll {p : Nat} (hp : p < 27) (o : Option Att) (n : Nat) (pk : MV) (f : Att) : (run TT (n + 25)).ca 250 [.obj (no0 o), .str (nmL p)] (st0 o (mkA pk f)) = some (.val (.bool (multi p)), st0 o (mkA pk f)) := by
  refine ca_of (n := n + 24) (fn := mtAt 19 4) (l := lAM o (nmL p)) (fl := .ret (.bool (multi p))) (l' := lAM o (nmL p)) (by kernel_rfl) (by kernel_rfl) ?_ rfl
  show exs (rx TT (n + 24) amSc) (mtAt 19 4).body _ _ = _
  rw [am_cut]
  refine exs_out (ex_ret (n := n + 23) (by kernel_rfl) ?_) (by intro h; cases h)
  have hc : cmp (cmO (asE amR)) (.int (.ofNat (idn p))) (.list [.int 11, .int 38]) = some (multi p) := by
    rw [← am_multi p hp]; kernel_rfl
  refine ev_cmp (n := n + 22) (x := .int (.ofNat (idn p))) (y := .list [.int 11, .int 38]) (S1 := st0 o (mkA pk f)) (by kernel_rfl) ?_ (by kernel_rfl) hc
  refine ev_meth (n := n + 21) (by kernel_rfl) ?_
  rw [evCall_meth (T := TT) (k := no0 o) (f := 257) (vs := [.str (nmL p)]) (S1 := st0 o (mkA pk f)) (by kernel_rfl) (by kernel_rfl) (by kernel_rfl) (by kernel_rfl) (by kernel_rfl)]
  exact giAll p hp o (n + 1) pk f
theorem tr_meth {T : Tab} {sc : Scope} {l : Loc} {S S1 : Sto} {n : Nat} {e : Expr} {b : Bool} (hi : isMeth e = true) (h : evCall T (run T n) sc l S e = some (.val (.bool b), S1)) : (run T (n + 2)).tr sc l S e = some (b, S1) := by
  have he := ev_meth (n := n) hi h
  unfold isMeth at hi
  split at hi
  · show ((run T (n + 1)).ev sc l S _).bind _ = _
    rw [he]; rfl
  · cases hi
/-- the table's row of an identifier -/
def propV (p : Nat) : MV := .tup [.int (.ofNat (tyOf (kd p))), .list ((whr p).map MV.int)]
theorem propAll : ∀ p, p < 27 → item TT (.ref 181) (.int (.ofNat (idn p))) = some (propV p)
  | 0, _ => by kernel_rfl
  | 1, _ => by kernel_rfl
  | 2, _ => by kernel_rfl
  | 3, _ => by kernel_rfl
  | 4, _ => by kernel_rfl
  | 5, _ => by kernel_rfl
  | 6, _ => by kernel_rfl
  | 7, _ => by kernel_rfl
  | 8, _ => by kernel_rfl
  | 9, _ => by kernel_rfl
  | 10, _ => by kernel_rfl
  | 11, _ => by kernel_rfl
  | 12, _ => by kernel_rfl
  | 13, _ => by kernel_rfl
  | 14, _ => by kernel_rfl
  | 15, _ => by kernel_rfl
  | 16, _ => by kernel_rfl
  | 17, _ => by kernel_rfl
  | 18, _ => by kernel_rfl
  | 19, _ => by kernel_rfl
  | 20, _ => by kernel_rfl
  | 21, _ => by kernel_rfl
  | 22, _ => by kernel_rfl
  | 23, _ => by kernel_rfl
  | 24, _ => by kernel_rfl
  | 25, _ => by kernel_rfl
  | 26, _ => by kernel_rfl
  | n + 27, h => absurd h (by omega)
theorem ints_map : ∀ L : List Int, ints? (L.map MV.int) = some L
  | [] => rfl
  | x :: r => by show (ints? (r.map MV.int)).map _ = _; rw [ints_map r]; rfl
end Mine
namespace Mine
set_option maxRecDepth 100000
open PySem
def lS (o : Option Att) (nm : List Nat) (v : MV) : Loc := [("self", .obj (no0 o)), ("name", .str nm), ("value", v)]
def SA (p : Nat) : Prop := ∀ (o : Option Att) (n : Nat) (pk v : MV) (f : Att), exs (rx TT (n + 40) setSc) (setBody.take 2) (lS o (nmF p) v) (st0 o (mkA pk f)) = some (.next, lS o (nmL p) v, st0 o (mkA pk f))
def SA2 (p : Nat) : Prop := ∀ (o : Option Att) (n : Nat) (pk v : MV) (f : Att), exs (rx TT (n + 40) setSc) (setBody.take 2) (lS o (nmL p) v) (st0 o (mkA pk f)) = some (.next, lS o (nmL p) v, st0 o (mkA pk f))
def SC (p : Nat) : Prop := ∀ (o : Option Att) (n : Nat) (pk : Int) (v : MV) (f : Att), (run TT (n + 40)).tr setSc (lS o (nmL p) v) (st0 o (mkA (.int pk) f)) (ifT (stAt setBody 2)) = some (!anyInt pk (whr p), st0 o (mkA (.int pk) f))
def SR (p : Nat) : Prop := ∀ (o : Option Att) (n : Nat) (pk : Int) (v : MV) (f : Att), exs (rx TT (n + 40) setSc) (ifA (stAt setBody 2)) (lS o (nmL p) v) (st0 o (mkA (.int pk) f)) = some (.exc 65, lS o (nmL p) v, st0 o (mkA (.int pk) f))
def SD (p : Nat) (v : MV) : Prop := ∀ (o : Option Att) (n : Nat) (pk : MV) (f : Att), rx TT (n + 40) setSc (lS o (nmL p) v) (st0 o (mkA pk f)) (stAt setBody 3) = some (.next, lS o (nmL p) v, st0 o (mkA pk f))
def SE (p : Nat) : Prop := ∀ (o : Option Att) (n : Nat) (pk v : MV) (f : Att), rx TT (n + 40) setSc (lS o (nmL p) v) (st0 o (mkA pk f)) (stAt setBody 4) = some (.next, lS o (nmL p) v, st0 o (mkA pk f))
def updA (f : Att) (nm : Str) (m : MV) : Att := fun y => match seq y nm with | true => some m | false => f y
def stU (o : Option Att) (a : Att) (nm : Str) (m : MV) : Sto := st0 o (updA a nm m)
def SF (p : Nat) (v : MV) : Prop := ∀ (o : Option Att) (n : Nat) (pk : MV) (f : Att), exs (rx TT (n + 40) setSc) (setBody.drop 5) (lS o (nmL p) v) (st0 o (mkA pk f)) = some (.next, lS o (nmL p) v, st0 o (updA (mkA pk f) (nmS p) v))

/-! the name -/
theorem nm_strike : ∀ p, p < 27 → strike 32 (nmL p) = nmL p := by decide +kernel
theorem set_s0 (o : Option Att) (nm : List Nat) (v : MV) (S : Sto) (n : Nat) : rx TT (n + 40) setSc (lS o nm v) S (stAt setBody 0) = some (.next, lS o (strike 32 nm) v, S) := by kernel_rfl
theorem set_names (o : Option Att) (nm : List Nat) (v pk : MV) (f : Att) (n : Nat) : (run TT (n + 30)).ev setSc (lS o nm v) (st0 o (mkA pk f)) (cmB (ifT (stAt setBody 1))) = some (.list ((List.range 27).map fun q => .str (nmL q)), st0 o (mkA pk f)) := by
  cases o with | none => kernel_rfl | some b => kernel_rfl
theorem nm_in : ∀ p, p < 27 → anyStr (nmL p) ((List.range 27).map nmL) = true := by decide +kernel
theorem set_cmp1 (nm : List Nat) : cmp (cmO (ifT (stAt setBody 1))) (.str nm) (.list ((List.range 27).map fun q => .str (nmL q))) = some (!anyStr nm ((List.range 27).map nmL)) := by kernel_rfl
theorem set_cut2 : setBody.take 2 = [stAt setBody 0, stAt setBody 1] := by kernel_rfl
theorem set_if1 : isIf (stAt setBody 1) = true ∧ ifB (stAt setBody 1) = [] ∧ isCmp1 (ifT (stAt setBody 1)) = true := by refine ⟨?_, ?_, ?_⟩ <;> kernel_rfl
theorem set_sA {p : Nat} (hp : p < 27) {nm : List Nat} (hn : strike 32 nm = nmL p) (o : Option Att) (n : Nat) (pk v : MV) (f : Att) : exs (rx TT (n + 40) setSc) (setBody.take 2) (lS o nm v) (st0 o (mkA pk f)) = some (.next, lS o (nmL p) v, st0 o (mkA pk f)) := by
  have h0 := set_s0 o nm v (st0 o (mkA pk f)) n
  rw [hn] at h0
  have hc := set_cmp1 (nmL p)
  rw [nm_in p hp] at hc
  rw [set_cut2]
  refine exs_nx h0 (exs_nx (l1 := lS o (nmL p) v) (S1 := st0 o (mkA pk f)) (ex_if (n := n + 39) (b := false) set_if1.1 (tr_cmp (n := n + 38) set_if1.2.2 (x := .str (nmL p)) (S1 := st0 o (mkA pk f)) (by kernel_rfl) (set_names o (nmL p) v pk f (n + 8)) hc) ?_) rfl)
  show exs _ (ifB (stAt setBody 1)) _ _ = _
  rw [set_if1.2.1]; rfl
theorem saAll (p : Nat) (hp : p < 27) : SA p := fun o n pk v f => set_sA hp rfl o n pk v f
theorem sa2All (p : Nat) (hp : p < 27) : SA2 p := fun o n pk v f => set_sA hp (nm_strike p hp) o n pk v f

/-! the packet -/
def set2 : Expr := ifT (stAt setBody 2)
theorem scAll (p : Nat) (hp : p < 27) : SC p := by
  intro o n pk v f
  have hc : cmp (cmO set2) (.int pk) (.list ((whr p).map MV.int)) = some (!anyInt pk (whr p)) := by
    show ((ints? ((whr p).map MV.int)).map (anyInt pk)).map not = _
    rw [ints_map]; rfl
  refine tr_cmp (n := n + 39) (x := .int pk) (y := .list ((whr p).map MV.int)) (S1 := st0 o (mkA (.int pk) f)) (by kernel_rfl) ?_ ?_ hc
  · cases o with | none => kernel_rfl | some b => kernel_rfl
  · refine ev_sub (n := n + 38) (a := propV p) (b := .int 1) (S1 := st0 o (mkA (.int pk) f)) (by kernel_rfl) ?_ (by kernel_rfl) rfl
    refine ev_sub (n := n + 37) (a := .ref 181) (b := .int (.ofNat (idn p))) (S1 := st0 o (mkA (.int pk) f)) (by kernel_rfl) ?_ ?_ (propAll p hp)
    · cases o with | none => kernel_rfl | some b => kernel_rfl
    · refine ev_meth (n := n + 36) (by kernel_rfl) ?_
      rw [evCall_meth (T := TT) (k := no0 o) (f := 257) (vs := [.str (nmL p)]) (S1 := st0 o (mkA (.int pk) f)) (by kernel_rfl) (by kernel_rfl) (by kernel_rfl) (by kernel_rfl) (by kernel_rfl)]
      exact giAll p hp o (n + 16) (.int pk) f

/-! more than one -/
theorem set_if4 : isIf (stAt setBody 4) = true ∧ ifB (stAt setBody 4) = [] ∧ isMeth (ifT (stAt setBody 4)) = true := by refine ⟨?_, ?_, ?_⟩ <;> kernel_rfl
theorem seAll (p : Nat) (hp : p < 27) (hm : multi p = false) : SE p := by
  intro o n pk v f
  have ha := amAll hp o (n + 12) pk f
  rw [hm] at ha
  refine ex_if (n := n + 39) (b := false) (S1 := st0 o (mkA pk f)) set_if4.1 (tr_meth (n := n + 37) set_if4.2.2 ?_) ?_
  · rw [evCall_meth (T := TT) (k := no0 o) (f := 250) (vs := [.str (nmL p)]) (S1 := st0 o (mkA pk f)) set_if4.2.2 (by kernel_rfl) (by kernel_rfl) (by kernel_rfl) (by kernel_rfl)]
    exact ha
  · show exs _ (ifB (stAt setBody 4)) _ _ = _
    rw [set_if4.2.1]; rfl

/-! the value is laid -/
def notOwnB : MV → Bool
  | .own _ => false
  | _ => true
def isSetA : Stmt → Bool | .Assign [.Attribute _ _ _] e _ => !isComp e | _ => false
def saN : Stmt → Str | .Assign [.Attribute _ nm _] _ _ => nm | _ => ""
def saO : Stmt → Expr | .Assign [.Attribute o _ _] _ _ => o | _ => noE
theorem ex_setA {T : Tab} {sc : Scope} {l : Loc} {S : Sto} {n k : Nat} {t : Stmt} {v : MV} {A : Att} (hi : isSetA t = true) (h1 : (run T n).ev sc l S (asE t) = some (v, S)) (h2 : (run T n).ev sc l S (saO t) = some (.obj k, S)) (hm : memS (saN t) T.attrs = true) (hg : getL S k = some A) :
    rx T (n + 1) sc l S t = some (.next, l, S.set k (updA A (saN t) v)) := by
  unfold isSetA at hi
  split at hi
  · rename_i o nm ap e q
    simp only [asE, saN, saO] at h1 h2 hm ⊢
    have hf : isComp e = false := by cases h : isComp e <;> simp [h] at hi ⊢
    show exS T (run T n) sc l S (.Assign [.Attribute o nm ap] e q) = _
    unfold exS
    simp only [hf, h1, h2, hm, hg, Option.bind_some]
    rfl
  · cases hi
theorem st0_get (o : Option Att) (A : Att) : getL (st0 o A) (no0 o) = some A := by cases o <;> rfl
theorem st0_set (o : Option Att) (A X : Att) : (st0 o A).set (no0 o) X = st0 o X := by cases o <;> rfl
def posOf : Expr → Pos | .Name _ q => q | _ => ⟨0, 0, 0, 0⟩
def set5 (j : Nat) : Stmt := stAt setBody (5 + j)
def set5a (j : Nat) : Stmt := stAt (ifA (set5 j)) 0
def set5F (j : Nat) : Bool := isIf (set5 j) && isSetA (set5a j) && seq (saN (set5a j)) (nmS j) && memS (saN (set5a j)) attrsL
theorem set_drop5 : setBody.drop 5 = (List.range 27).map set5 := by kernel_rfl
theorem nm_leq : ∀ q, q < 27 → ∀ p, p < 27 → leq (nmL q) (nmL p) = Nat.beq q p := by decide +kernel
theorem s5t_0 (o : Option Att) (nm : List Nat) (v : MV) (S : Sto) (n : Nat) : (run TT (n + 30)).tr setSc (lS o nm v) S (ifT (set5 0)) = some (leq nm (nmL 0), S) := by kernel_rfl
theorem s5a_0 : set5F 0 = true ∧ ifA (set5 0) = [set5a 0] ∧ ifB (set5 0) = [] ∧ saN (set5a 0) = nmS 0 := by refine ⟨?_, ?_, ?_, ?_⟩ <;> kernel_rfl
theorem s5v_0 : asE (set5a 0) = .Name "value" (posOf (asE (set5a 0))) ∧ saO (set5a 0) = .Name "self" (posOf (saO (set5a 0))) := by constructor <;> kernel_rfl
theorem s5t_1 (o : Option Att) (nm : List Nat) (v : MV) (S : Sto) (n : Nat) : (run TT (n + 30)).tr setSc (lS o nm v) S (ifT (set5 1)) = some (leq nm (nmL 1), S) := by kernel_rfl
theorem s5a_1 : set5F 1 = true ∧ ifA (set5 1) = [set5a 1] ∧ ifB (set5 1) = [] ∧ saN (set5a 1) = nmS 1 := by refine ⟨?_, ?_, ?_, ?_⟩ <;> kernel_rfl
theorem s5v_1 : asE (set5a 1) = .Name "value" (posOf (asE (set5a 1))) ∧ saO (set5a 1) = .Name "self" (posOf (saO (set5a 1))) := by constructor <;> kernel_rfl
theorem s5t_2 (o : Option Att) (nm : List Nat) (v : MV) (S : Sto) (n : Nat) : (run TT (n + 30)).tr setSc (lS o nm v) S (ifT (set5 2)) = some (leq nm (nmL 2), S) := by kernel_rfl
theorem s5a_2 : set5F 2 = true ∧ ifA (set5 2) = [set5a 2] ∧ ifB (set5 2) = [] ∧ saN (set5a 2) = nmS 2 := by refine ⟨?_, ?_, ?_, ?_⟩ <;> kernel_rfl
theorem s5v_2 : asE (set5a 2) = .Name "value" (posOf (asE (set5a 2))) ∧ saO (set5a 2) = .Name "self" (posOf (saO (set5a 2))) := by constructor <;> kernel_rfl
theorem s5t_3 (o : Option Att) (nm : List Nat) (v : MV) (S : Sto) (n : Nat) : (run TT (n + 30)).tr setSc (lS o nm v) S (ifT (set5 3)) = some (leq nm (nmL 3), S) := by kernel_rfl
theorem s5a_3 : set5F 3 = true ∧ ifA (set5 3) = [set5a 3] ∧ ifB (set5 3) = [] ∧ saN (set5a 3) = nmS 3 := by refine ⟨?_, ?_, ?_, ?_⟩ <;> kernel_rfl
theorem s5v_3 : asE (set5a 3) = .Name "value" (posOf (asE (set5a 3))) ∧ saO (set5a 3) = .Name "self" (posOf (saO (set5a 3))) := by constructor <;> kernel_rfl
theorem s5t_4 (o : Option Att) (nm : List Nat) (v : MV) (S : Sto) (n : Nat) : (run TT (n + 30)).tr setSc (lS o nm v) S (ifT (set5 4)) = some (leq nm (nmL 4), S) := by kernel_rfl
theorem s5a_4 : set5F 4 = true ∧ ifA (set5 4) = [set5a 4] ∧ ifB (set5 4) = [] ∧ saN (set5a 4) = nmS 4 := by refine ⟨?_, ?_, ?_, ?_⟩ <;> kernel_rfl
theorem s5v_4 : asE (set5a 4) = .Name "value" (posOf (asE (set5a 4))) ∧ saO (set5a 4) = .Name "self" (posOf (saO (set5a 4))) := by constructor <;> kernel_rfl
theorem s5t_5 (o : Option Att) (nm : List Nat) (v : MV) (S : Sto) (n : Nat) : (run TT (n + 30)).tr setSc (lS o nm v) S (ifT (set5 5)) = some (leq nm (nmL 5), S) := by kernel_rfl
theorem s5a_5 : set5F 5 = true ∧ ifA (set5 5) = [set5a 5] ∧ ifB (set5 5) = [] ∧ saN (set5a 5) = nmS 5 := by refine ⟨?_, ?_, ?_, ?_⟩ <;> kernel_rfl
theorem s5v_5 : asE (set5a 5) = .Name "value" (posOf (asE (set5a 5))) ∧ saO (set5a 5) = .Name "self" (posOf (saO (set5a 5))) := by constructor <;> kernel_rfl
theorem s5t_6 (o : Option Att) (nm : List Nat) (v : MV) (S : Sto) (n : Nat) : (run TT (n + 30)).tr setSc (lS o nm v) S (ifT (set5 6)) = some (leq nm (nmL 6), S) := by kernel_rfl
theorem s5a_6 : set5F 6 = true ∧ ifA (set5 6) = [set5a 6] ∧ ifB (set5 6) = [] ∧ saN (set5a 6) = nmS 6 := by refine ⟨?_, ?_, ?_, ?_⟩ <;> kernel_rfl
theorem s5v_6 : asE (set5a 6) = .Name "value" (posOf (asE (set5a 6))) ∧ saO (set5a 6) = .Name "self" (posOf (saO (set5a 6))) := by constructor <;> kernel_rfl
theorem s5t_7 (o : Option Att) (nm : List Nat) (v : MV) (S : Sto) (n : Nat) : (run TT (n + 30)).tr setSc (lS o nm v) S (ifT (set5 7)) = some (leq nm (nmL 7), S) := by kernel_rfl
theorem s5a_7 : set5F 7 = true ∧ ifA (set5 7) = [set5a 7] ∧ ifB (set5 7) = [] ∧ saN (set5a 7) = nmS 7 := by refine ⟨?_, ?_, ?_, ?_⟩ <;> kernel_rfl
theorem s5v_7 : asE (set5a 7) = .Name "value" (posOf (asE (set5a 7))) ∧ saO (set5a 7) = .Name "self" (posOf (saO (set5a 7))) := by constructor <;> kernel_rfl
theorem s5t_8 (o : Option Att) (nm : List Nat) (v : MV) (S : Sto) (n : Nat) : (run TT (n + 30)).tr setSc (lS o nm v) S (ifT (set5 8)) = some (leq nm (nmL 8), S) := by kernel_rfl
theorem s5a_8 : set5F 8 = true ∧ ifA (set5 8) = [set5a 8] ∧ ifB (set5 8) = [] ∧ saN (set5a 8) = nmS 8 := by refine ⟨?_, ?_, ?_, ?_⟩ <;> kernel_rfl
theorem s5v_8 : asE (set5a 8) = .Name "value" (posOf (asE (set5a 8))) ∧ saO (set5a 8) = .Name "self" (posOf (saO (set5a 8))) := by constructor <;> kernel_rfl
theorem s5t_9 (o : Option Att) (nm : List Nat) (v : MV) (S : Sto) (n : Nat) : (run TT (n + 30)).tr setSc (lS o nm v) S (ifT (set5 9)) = some (leq nm (nmL 9), S) := by kernel_rfl
theorem s5a_9 : set5F 9 = true ∧ ifA (set5 9) = [set5a 9] ∧ ifB (set5 9) = [] ∧ saN (set5a 9) = nmS 9 := by refine ⟨?_, ?_, ?_, ?_⟩ <;> kernel_rfl
theorem s5v_9 : asE (set5a 9) = .Name "value" (posOf (asE (set5a 9))) ∧ saO (set5a 9) = .Name "self" (posOf (saO (set5a 9))) := by constructor <;> kernel_rfl
theorem s5t_10 (o : Option Att) (nm : List Nat) (v : MV) (S : Sto) (n : Nat) : (run TT (n + 30)).tr setSc (lS o nm v) S (ifT (set5 10)) = some (leq nm (nmL 10), S) := by kernel_rfl
theorem s5a_10 : set5F 10 = true ∧ ifA (set5 10) = [set5a 10] ∧ ifB (set5 10) = [] ∧ saN (set5a 10) = nmS 10 := by refine ⟨?_, ?_, ?_, ?_⟩ <;> kernel_rfl
theorem s5v_10 : asE (set5a 10) = .Name "value" (posOf (asE (set5a 10))) ∧ saO (set5a 10) = .Name "self" (posOf (saO (set5a 10))) := by constructor <;> kernel_rfl
theorem s5t_11 (o : Option Att) (nm : List Nat) (v : MV) (S : Sto) (n : Nat) : (run TT (n + 30)).tr setSc (lS o nm v) S (ifT (set5 11)) = some (leq nm (nmL 11), S) := by kernel_rfl
theorem s5a_11 : set5F 11 = true ∧ ifA (set5 11) = [set5a 11] ∧ ifB (set5 11) = [] ∧ saN (set5a 11) = nmS 11 := by refine ⟨?_, ?_, ?_, ?_⟩ <;> kernel_rfl
theorem s5v_11 : asE (set5a 11) = .Name "value" (posOf (asE (set5a 11))) ∧ saO (set5a 11) = .Name "self" (posOf (saO (set5a 11))) := by constructor <;> kernel_rfl
theorem s5t_12 (o : Option Att) (nm : List Nat) (v : MV) (S : Sto) (n : Nat) : (run TT (n + 30)).tr setSc (lS o nm v) S (ifT (set5 12)) = some (leq nm (nmL 12), S) := by kernel_rfl
theorem s5a_12 : set5F 12 = true ∧ ifA (set5 12) = [set5a 12] ∧ ifB (set5 12) = [] ∧ saN (set5a 12) = nmS 12 := by refine ⟨?_, ?_, ?_, ?_⟩ <;> kernel_rfl
theorem s5v_12 : asE (set5a 12) = .Name "value" (posOf (asE (set5a 12))) ∧ saO (set5a 12) = .Name "self" (posOf (saO (set5a 12))) := by constructor <;> kernel_rfl
theorem s5t_13 (o : Option Att) (nm : List Nat) (v : MV) (S : Sto) (n : Nat) : (run TT (n + 30)).tr setSc (lS o nm v) S (ifT (set5 13)) = some (leq nm (nmL 13), S) := by kernel_rfl
theorem s5a_13 : set5F 13 = true ∧ ifA (set5 13) = [set5a 13] ∧ ifB (set5 13) = [] ∧ saN (set5a 13) = nmS 13 := by refine ⟨?_, ?_, ?_, ?_⟩ <;> kernel_rfl
theorem s5v_13 : asE (set5a 13) = .Name "value" (posOf (asE (set5a 13))) ∧ saO (set5a 13) = .Name "self" (posOf (saO (set5a 13))) := by constructor <;> kernel_rfl
theorem s5t_14 (o : Option Att) (nm : List Nat) (v : MV) (S : Sto) (n : Nat) : (run TT (n + 30)).tr setSc (lS o nm v) S (ifT (set5 14)) = some (leq nm (nmL 14), S) := by kernel_rfl
theorem s5a_14 : set5F 14 = true ∧ ifA (set5 14) = [set5a 14] ∧ ifB (set5 14) = [] ∧ saN (set5a 14) = nmS 14 := by refine ⟨?_, ?_, ?_, ?_⟩ <;> kernel_rfl
theorem s5v_14 : asE (set5a 14) = .Name "value" (posOf (asE (set5a 14))) ∧ saO (set5a 14) = .Name "self" (posOf (saO (set5a 14))) := by constructor <;> kernel_rfl
theorem s5t_15 (o : Option Att) (nm : List Nat) (v : MV) (S : Sto) (n : Nat) : (run TT (n + 30)).tr setSc (lS o nm v) S (ifT (set5 15)) = some (leq nm (nmL 15), S) := by kernel_rfl
theorem s5a_15 : set5F 15 = true ∧ ifA (set5 15) = [set5a 15] ∧ ifB (set5 15) = [] ∧ saN (set5a 15) = nmS 15 := by refine ⟨?_, ?_, ?_, ?_⟩ <;> kernel_rfl
theorem s5v_15 : asE (set5a 15) = .Name "value" (posOf (asE (set5a 15))) ∧ saO (set5a 15) = .Name "self" (posOf (saO (set5a 15))) := by constructor <;> kernel_rfl
theorem s5t_16 (o : Option Att) (nm : List Nat) (v : MV) (S : Sto) (n : Nat) : (run TT (n + 30)).tr setSc (lS o nm v) S (ifT (set5 16)) = some (leq nm (nmL 16), S) := by kernel_rfl
theorem s5a_16 : set5F 16 = true ∧ ifA (set5 16) = [set5a 16] ∧ ifB (set5 16) = [] ∧ saN (set5a 16) = nmS 16 := by refine ⟨?_, ?_, ?_, ?_⟩ <;> kernel_rfl
theorem s5v_16 : asE (set5a 16) = .Name "value" (posOf (asE (set5a 16))) ∧ saO (set5a 16) = .Name "self" (posOf (saO (set5a 16))) := by constructor <;> kernel_rfl
theorem s5t_17 (o : Option Att) (nm : List Nat) (v : MV) (S : Sto) (n : Nat) : (run TT (n + 30)).tr setSc (lS o nm v) S (ifT (set5 17)) = some (leq nm (nmL 17), S) := by kernel_rfl
theorem s5a_17 : set5F 17 = true ∧ ifA (set5 17) = [set5a 17] ∧ ifB (set5 17) = [] ∧ saN (set5a 17) = nmS 17 := by refine ⟨?_, ?_, ?_, ?_⟩ <;> kernel_rfl
theorem s5v_17 : asE (set5a 17) = .Name "value" (posOf (asE (set5a 17))) ∧ saO (set5a 17) = .Name "self" (posOf (saO (set5a 17))) := by constructor <;> kernel_rfl
theorem s5t_18 (o : Option Att) (nm : List Nat) (v : MV) (S : Sto) (n : Nat) : (run TT (n + 30)).tr setSc (lS o nm v) S (ifT (set5 18)) = some (leq nm (nmL 18), S) := by kernel_rfl
theorem s5a_18 : set5F 18 = true ∧ ifA (set5 18) = [set5a 18] ∧ ifB (set5 18) = [] ∧ saN (set5a 18) = nmS 18 := by refine ⟨?_, ?_, ?_, ?_⟩ <;> kernel_rfl
theorem s5v_18 : asE (set5a 18) = .Name "value" (posOf (asE (set5a 18))) ∧ saO (set5a 18) = .Name "self" (posOf (saO (set5a 18))) := by constructor <;> kernel_rfl
theorem s5t_19 (o : Option Att) (nm : List Nat) (v : MV) (S : Sto) (n : Nat) : (run TT (n + 30)).tr setSc (lS o nm v) S (ifT (set5 19)) = some (leq nm (nmL 19), S) := by kernel_rfl
theorem s5a_19 : set5F 19 = true ∧ ifA (set5 19) = [set5a 19] ∧ ifB (set5 19) = [] ∧ saN (set5a 19) = nmS 19 := by refine ⟨?_, ?_, ?_, ?_⟩ <;> kernel_rfl
theorem s5v_19 : asE (set5a 19) = .Name "value" (posOf (asE (set5a 19))) ∧ saO (set5a 19) = .Name "self" (posOf (saO (set5a 19))) := by constructor <;> kernel_rfl
theorem s5t_20 (o : Option Att) (nm : List Nat) (v : MV) (S : Sto) (n : Nat) : (run TT (n + 30)).tr setSc (lS o nm v) S (ifT (set5 20)) = some (leq nm (nmL 20), S) := by kernel_rfl
theorem s5a_20 : set5F 20 = true ∧ ifA (set5 20) = [set5a 20] ∧ ifB (set5 20) = [] ∧ saN (set5a 20) = nmS 20 := by refine ⟨?_, ?_, ?_, ?_⟩ <;> kernel_rfl
theorem s5v_20 : asE (set5a 20) = .Name "value" (posOf (asE (set5a 20))) ∧ saO (set5a 20) = .Name "self" (posOf (saO (set5a 20))) := by constructor <;> kernel_rfl
theorem s5t_21 (o : Option Att) (nm : List Nat) (v : MV) (S : Sto) (n : Nat) : (run TT (n + 30)).tr setSc (lS o nm v) S (ifT (set5 21)) = some (leq nm (nmL 21), S) := by kernel_rfl
theorem s5a_21 : set5F 21 = true ∧ ifA (set5 21) = [set5a 21] ∧ ifB (set5 21) = [] ∧ saN (set5a 21) = nmS 21 := by refine ⟨?_, ?_, ?_, ?_⟩ <;> kernel_rfl
theorem s5v_21 : asE (set5a 21) = .Name "value" (posOf (asE (set5a 21))) ∧ saO (set5a 21) = .Name "self" (posOf (saO (set5a 21))) := by constructor <;> kernel_rfl
theorem s5t_22 (o : Option Att) (nm : List Nat) (v : MV) (S : Sto) (n : Nat) : (run TT (n + 30)).tr setSc (lS o nm v) S (ifT (set5 22)) = some (leq nm (nmL 22), S) := by kernel_rfl
theorem s5a_22 : set5F 22 = true ∧ ifA (set5 22) = [set5a 22] ∧ ifB (set5 22) = [] ∧ saN (set5a 22) = nmS 22 := by refine ⟨?_, ?_, ?_, ?_⟩ <;> kernel_rfl
theorem s5v_22 : asE (set5a 22) = .Name "value" (posOf (asE (set5a 22))) ∧ saO (set5a 22) = .Name "self" (posOf (saO (set5a 22))) := by constructor <;> kernel_rfl
theorem s5t_23 (o : Option Att) (nm : List Nat) (v : MV) (S : Sto) (n : Nat) : (run TT (n + 30)).tr setSc (lS o nm v) S (ifT (set5 23)) = some (leq nm (nmL 23), S) := by kernel_rfl
theorem s5a_23 : set5F 23 = true ∧ ifA (set5 23) = [set5a 23] ∧ ifB (set5 23) = [] ∧ saN (set5a 23) = nmS 23 := by refine ⟨?_, ?_, ?_, ?_⟩ <;> kernel_rfl
theorem s5v_23 : asE (set5a 23) = .Name "value" (posOf (asE (set5a 23))) ∧ saO (set5a 23) = .Name "self" (posOf (saO (set5a 23))) := by constructor <;> kernel_rfl
theorem s5t_24 (o : Option Att) (nm : List Nat) (v : MV) (S : Sto) (n : Nat) : (run TT (n + 30)).tr setSc (lS o nm v) S (ifT (set5 24)) = some (leq nm (nmL 24), S) := by kernel_rfl
theorem s5a_24 : set5F 24 = true ∧ ifA (set5 24) = [set5a 24] ∧ ifB (set5 24) = [] ∧ saN (set5a 24) = nmS 24 := by refine ⟨?_, ?_, ?_, ?_⟩ <;> kernel_rfl
theorem s5v_24 : asE (set5a 24) = .Name "value" (posOf (asE (set5a 24))) ∧ saO (set5a 24) = .Name "self" (posOf (saO (set5a 24))) := by constructor <;> kernel_rfl
theorem s5t_25 (o : Option Att) (nm : List Nat) (v : MV) (S : Sto) (n : Nat) : (run TT (n + 30)).tr setSc (lS o nm v) S (ifT (set5 25)) = some (leq nm (nmL 25), S) := by kernel_rfl
theorem s5a_25 : set5F 25 = true ∧ ifA (set5 25) = [set5a 25] ∧ ifB (set5 25) = [] ∧ saN (set5a 25) = nmS 25 := by refine ⟨?_, ?_, ?_, ?_⟩ <;> kernel_rfl
theorem s5v_25 : asE (set5a 25) = .Name "value" (posOf (asE (set5a 25))) ∧ saO (set5a 25) = .Name "self" (posOf (saO (set5a 25))) := by constructor <;> kernel_rfl
theorem s5t_26 (o : Option Att) (nm : List Nat) (v : MV) (S : Sto) (n : Nat) : (run TT (n + 30)).tr setSc (lS o nm v) S (ifT (set5 26)) = some (leq nm (nmL 26), S) := by kernel_rfl
theorem s5a_26 : set5F 26 = true ∧ ifA (set5 26) = [set5a 26] ∧ ifB (set5 26) = [] ∧ saN (set5a 26) = nmS 26 := by refine ⟨?_, ?_, ?_, ?_⟩ <;> kernel_rfl
theorem s5v_26 : asE (set5a 26) = .Name "value" (posOf (asE (set5a 26))) ∧ saO (set5a 26) = .Name "self" (posOf (saO (set5a 26))) := by constructor <;> kernel_rfl
theorem s5tAll : ∀ j, j < 27 → ∀ (o : Option Att) (nm : List Nat) (v : MV) (S : Sto) (n : Nat), (run TT (n + 30)).tr setSc (lS o nm v) S (ifT (set5 j)) = some (leq nm (nmL j), S)
  | 0, _ => s5t_0
  | 1, _ => s5t_1
  | 2, _ => s5t_2
  | 3, _ => s5t_3
  | 4, _ => s5t_4
  | 5, _ => s5t_5
  | 6, _ => s5t_6
  | 7, _ => s5t_7
  | 8, _ => s5t_8
  | 9, _ => s5t_9
  | 10, _ => s5t_10
  | 11, _ => s5t_11
  | 12, _ => s5t_12
  | 13, _ => s5t_13
  | 14, _ => s5t_14
  | 15, _ => s5t_15
  | 16, _ => s5t_16
  | 17, _ => s5t_17
  | 18, _ => s5t_18
  | 19, _ => s5t_19
  | 20, _ => s5t_20
  | 21, _ => s5t_21
  | 22, _ => s5t_22
  | 23, _ => s5t_23
  | 24, _ => s5t_24
  | 25, _ => s5t_25
  | 26, _ => s5t_26
  | n + 27, h => absurd h (by omega)
theorem s5aAll : ∀ j, j < 27 → set5F j = true ∧ ifA (set5 j) = [set5a j] ∧ ifB (set5 j) = [] ∧ saN (set5a j) = nmS j
  | 0, _ => s5a_0
  | 1, _ => s5a_1
  | 2, _ => s5a_2
  | 3, _ => s5a_3
  | 4, _ => s5a_4
  | 5, _ => s5a_5
  | 6, _ => s5a_6
  | 7, _ => s5a_7
  | 8, _ => s5a_8
  | 9, _ => s5a_9
  | 10, _ => s5a_10
  | 11, _ => s5a_11
  | 12, _ => s5a_12
  | 13, _ => s5a_13
  | 14, _ => s5a_14
  | 15, _ => s5a_15
  | 16, _ => s5a_16
  | 17, _ => s5a_17
  | 18, _ => s5a_18
  | 19, _ => s5a_19
  | 20, _ => s5a_20
  | 21, _ => s5a_21
  | 22, _ => s5a_22
  | 23, _ => s5a_23
  | 24, _ => s5a_24
  | 25, _ => s5a_25
  | 26, _ => s5a_26
  | n + 27, h => absurd h (by omega)
theorem s5vAll : ∀ j, j < 27 → asE (set5a j) = .Name "value" (posOf (asE (set5a j))) ∧ saO (set5a j) = .Name "self" (posOf (saO (set5a j)))
  | 0, _ => s5v_0
  | 1, _ => s5v_1
  | 2, _ => s5v_2
  | 3, _ => s5v_3
  | 4, _ => s5v_4
  | 5, _ => s5v_5
  | 6, _ => s5v_6
  | 7, _ => s5v_7
  | 8, _ => s5v_8
  | 9, _ => s5v_9
  | 10, _ => s5v_10
  | 11, _ => s5v_11
  | 12, _ => s5v_12
  | 13, _ => s5v_13
  | 14, _ => s5v_14
  | 15, _ => s5v_15
  | 16, _ => s5v_16
  | 17, _ => s5v_17
  | 18, _ => s5v_18
  | 19, _ => s5v_19
  | 20, _ => s5v_20
  | 21, _ => s5v_21
  | 22, _ => s5v_22
  | 23, _ => s5v_23
  | 24, _ => s5v_24
  | 25, _ => s5v_25
  | 26, _ => s5v_26
  | n + 27, h => absurd h (by omega)
theorem set_ev (o : Option Att) (nm : List Nat) (v : MV) (hv : notOwnB v = true) (S : Sto) (n : Nat) (q : Pos) : (run TT (n + 30)).ev setSc (lS o nm v) S (.Name "value" q) = some (v, S) := by
  cases v <;> first | (cases hv; done) | kernel_rfl
theorem set_es (o : Option Att) (nm : List Nat) (v : MV) (S : Sto) (n : Nat) (q : Pos) : (run TT (n + 30)).ev setSc (lS o nm v) S (.Name "self" q) = some (.obj (no0 o), S) := by kernel_rfl
theorem set_no {p : Nat} (hp : p < 27) (o : Option Att) (v : MV) (S : Sto) (n : Nat) : ∀ L : List Nat, (∀ j ∈ L, j < 27 ∧ j ≠ p) → exs (rx TT (n + 40) setSc) (L.map set5) (lS o (nmL p) v) S = some (.next, lS o (nmL p) v, S)
  | [], _ => rfl
  | j :: L, h => by
    obtain ⟨hj, hne⟩ := h j (.head _)
    obtain ⟨h1, _, h3, _⟩ := s5aAll j hj
    unfold set5F at h1
    simp only [Bool.and_eq_true] at h1
    have ht := s5tAll j hj o (nmL p) v S (n + 9)
    have hb : leq (nmL p) (nmL j) = false := by
      rw [nm_leq p hp j hj]
      cases e : Nat.beq p j with
      | false => rfl
      | true => exact absurd (Nat.eq_of_beq_eq_true e).symm hne
    rw [hb] at ht
    refine exs_nx (l1 := lS o (nmL p) v) (S1 := S) (ex_if (n := n + 39) h1.1.1.1 ht ?_) (set_no hp o v S n L fun q hq => h q (.tail _ hq))
    show exs _ (ifB (set5 j)) _ _ = _
    rw [h3]; rfl
theorem set_yes {p : Nat} (hp : p < 27) (o : Option Att) (v : MV) (hv : notOwnB v = true) (A : Att) (n : Nat) : rx TT (n + 40) setSc (lS o (nmL p) v) (st0 o A) (set5 p) = some (.next, lS o (nmL p) v, st0 o (updA A (nmS p) v)) := by
  obtain ⟨h1, h2, _, h4⟩ := s5aAll p hp
  obtain ⟨e1, e2⟩ := s5vAll p hp
  unfold set5F at h1
  simp only [Bool.and_eq_true] at h1
  have ht := s5tAll p hp o (nmL p) v (st0 o A) (n + 9)
  rw [nm_leq p hp p hp, Nat.beq_refl] at ht
  refine ex_if (n := n + 39) h1.1.1.1 ht ?_
  show exs _ (ifA (set5 p)) _ _ = _
  rw [h2]
  have hs := ex_setA (T := TT) (n := n + 38) (sc := setSc) (l := lS o (nmL p) v) (S := st0 o A) (k := no0 o) (t := set5a p) (v := v) (A := A) h1.1.1.2 (by rw [e1]; exact set_ev o (nmL p) v hv _ (n + 8) _) (by rw [e2]; exact set_es o (nmL p) v _ (n + 8) _) h1.2 (st0_get o A)
  rw [h4, st0_set] at hs
  exact exs_nx hs rfl
theorem sfAll (p : Nat) (hp : p < 27) {v : MV} (hv : notOwnB v = true) : SF p v := by
  intro o n pk f
  rw [set_drop5]
  obtain ⟨A, B, hAB⟩ := List.append_of_mem (show p ∈ List.range 27 by simpa using hp)
  have hnd : (List.range 27).Nodup := List.nodup_range
  have hlt : ∀ j ∈ List.range 27, j < 27 := fun j hj => by simpa using hj
  rw [hAB] at hnd hlt ⊢
  rw [List.nodup_append] at hnd
  obtain ⟨_, hB, hd⟩ := hnd
  rw [List.nodup_cons] at hB
  rw [List.map_append, List.map_cons]
  refine exs_app (set_no hp o v _ n A fun j hj => ⟨hlt j (List.mem_append_left _ hj), fun e => hd j hj p (.head _) e⟩) (exs_nx (set_yes hp o v hv _ n) (set_no hp o v _ n B fun j hj => ⟨hlt j (List.mem_append_right _ (.tail _ hj)), fun e => hB.1 (e ▸ hj)⟩))
theorem sr_0 : SR 0 := by intro o n pk v f; kernel_rfl
theorem sd_0_0 : SD 0 (dm 0 0).1 := by intro o n pk f; kernel_rfl
theorem sd_0_1 : SD 0 (dm 0 1).1 := by intro o n pk f; kernel_rfl
theorem se_0 : SE 0 := seAll 0 (by omega) rfl
theorem sf_0 (i : Int) : SF 0 (.int i) := sfAll 0 (by omega) rfl
theorem sa_0 : SA 0 := saAll 0 (by omega)
theorem sa2_0 : SA2 0 := sa2All 0 (by omega)
theorem sc_0 : SC 0 := scAll 0 (by omega)
theorem sr_1 : SR 1 := by intro o n pk v f; kernel_rfl
theorem sd_1 (i : Int) : SD 1 (.int i) := by intro o n pk f; kernel_rfl
theorem se_1 : SE 1 := seAll 1 (by omega) rfl
theorem sf_1 (i : Int) : SF 1 (.int i) := sfAll 1 (by omega) rfl
theorem sa_1 : SA 1 := saAll 1 (by omega)
theorem sa2_1 : SA2 1 := sa2All 1 (by omega)
theorem sc_1 : SC 1 := scAll 1 (by omega)
theorem sr_2 : SR 2 := by intro o n pk v f; kernel_rfl
theorem sd_2 (w : List Nat) : SD 2 (.str w) := by intro o n pk f; kernel_rfl
theorem se_2 : SE 2 := seAll 2 (by omega) rfl
theorem sf_2 (w : List Nat) : SF 2 (.str w) := sfAll 2 (by omega) rfl
theorem sa_2 : SA 2 := saAll 2 (by omega)
theorem sa2_2 : SA2 2 := sa2All 2 (by omega)
theorem sc_2 : SC 2 := scAll 2 (by omega)
theorem sr_3 : SR 3 := by intro o n pk v f; kernel_rfl
theorem sd_3 (w : List Nat) : SD 3 (.str w) := by intro o n pk f; kernel_rfl
theorem se_3 : SE 3 := seAll 3 (by omega) rfl
theorem sf_3 (w : List Nat) : SF 3 (.str w) := sfAll 3 (by omega) rfl
theorem sa_3 : SA 3 := saAll 3 (by omega)
theorem sa2_3 : SA2 3 := sa2All 3 (by omega)
theorem sc_3 : SC 3 := scAll 3 (by omega)
theorem sr_4 : SR 4 := by intro o n pk v f; kernel_rfl
theorem sd_4 (w : List Nat) : SD 4 (.bytes w) := by intro o n pk f; kernel_rfl
theorem se_4 : SE 4 := seAll 4 (by omega) rfl
theorem sf_4 (w : List Nat) : SF 4 (.bytes w) := sfAll 4 (by omega) rfl
theorem sa_4 : SA 4 := saAll 4 (by omega)
theorem sa2_4 : SA2 4 := sa2All 4 (by omega)
theorem sc_4 : SC 4 := scAll 4 (by omega)
theorem sr_5 : SR 5 := by intro o n pk v f; kernel_rfl
theorem sd_5_0 : SD 5 (dm 6 0).1 := by intro o n pk f; kernel_rfl
theorem sd_5_1 : SD 5 (dm 6 1).1 := by intro o n pk f; kernel_rfl
theorem sd_5_2 : SD 5 (dm 6 2).1 := by intro o n pk f; kernel_rfl
theorem sd_5_3 : SD 5 (dm 6 3).1 := by intro o n pk f; kernel_rfl
theorem sd_5_4 : SD 5 (dm 6 4).1 := by intro o n pk f; kernel_rfl
theorem sf_5 (w : List MV) : SF 5 (.list w) := sfAll 5 (by omega) rfl
theorem sa_5 : SA 5 := saAll 5 (by omega)
theorem sa2_5 : SA2 5 := sa2All 5 (by omega)
theorem sc_5 : SC 5 := scAll 5 (by omega)
theorem sr_6 : SR 6 := by intro o n pk v f; kernel_rfl
theorem sd_6 (i : Int) : SD 6 (.int i) := by intro o n pk f; kernel_rfl
theorem se_6 : SE 6 := seAll 6 (by omega) rfl
theorem sf_6 (i : Int) : SF 6 (.int i) := sfAll 6 (by omega) rfl
theorem sa_6 : SA 6 := saAll 6 (by omega)
theorem sa2_6 : SA2 6 := sa2All 6 (by omega)
theorem sc_6 : SC 6 := scAll 6 (by omega)
theorem sr_7 : SR 7 := by intro o n pk v f; kernel_rfl
theorem sd_7 (w : List Nat) : SD 7 (.str w) := by intro o n pk f; kernel_rfl
theorem se_7 : SE 7 := seAll 7 (by omega) rfl
theorem sf_7 (w : List Nat) : SF 7 (.str w) := sfAll 7 (by omega) rfl
theorem sa_7 : SA 7 := saAll 7 (by omega)
theorem sa2_7 : SA2 7 := sa2All 7 (by omega)
theorem sc_7 : SC 7 := scAll 7 (by omega)
theorem sr_8 : SR 8 := by intro o n pk v f; kernel_rfl
theorem sd_8 (i : Int) : SD 8 (.int i) := by intro o n pk f; kernel_rfl
theorem se_8 : SE 8 := seAll 8 (by omega) rfl
theorem sf_8 (i : Int) : SF 8 (.int i) := sfAll 8 (by omega) rfl
theorem sa_8 : SA 8 := saAll 8 (by omega)
theorem sa2_8 : SA2 8 := sa2All 8 (by omega)
theorem sc_8 : SC 8 := scAll 8 (by omega)
theorem sr_9 : SR 9 := by intro o n pk v f; kernel_rfl
theorem sd_9 (w : List Nat) : SD 9 (.str w) := by intro o n pk f; kernel_rfl
theorem se_9 : SE 9 := seAll 9 (by omega) rfl
theorem sf_9 (w : List Nat) : SF 9 (.str w) := sfAll 9 (by omega) rfl
theorem sa_9 : SA 9 := saAll 9 (by omega)
theorem sa2_9 : SA2 9 := sa2All 9 (by omega)
theorem sc_9 : SC 9 := scAll 9 (by omega)
theorem sr_10 : SR 10 := by intro o n pk v f; kernel_rfl
theorem sd_10 (w : List Nat) : SD 10 (.bytes w) := by intro o n pk f; kernel_rfl
theorem se_10 : SE 10 := seAll 10 (by omega) rfl
theorem sf_10 (w : List Nat) : SF 10 (.bytes w) := sfAll 10 (by omega) rfl
theorem sa_10 : SA 10 := saAll 10 (by omega)
theorem sa2_10 : SA2 10 := sa2All 10 (by omega)
theorem sc_10 : SC 10 := scAll 10 (by omega)
theorem sr_11 : SR 11 := by intro o n pk v f; kernel_rfl
theorem sd_11_0 : SD 11 (dm 0 0).1 := by intro o n pk f; kernel_rfl
theorem sd_11_1 : SD 11 (dm 0 1).1 := by intro o n pk f; kernel_rfl
theorem se_11 : SE 11 := seAll 11 (by omega) rfl
theorem sf_11 (i : Int) : SF 11 (.int i) := sfAll 11 (by omega) rfl
theorem sa_11 : SA 11 := saAll 11 (by omega)
theorem sa2_11 : SA2 11 := sa2All 11 (by omega)
theorem sc_11 : SC 11 := scAll 11 (by omega)
theorem sr_12 : SR 12 := by intro o n pk v f; kernel_rfl
theorem sd_12 (i : Int) : SD 12 (.int i) := by intro o n pk f; kernel_rfl
theorem se_12 : SE 12 := seAll 12 (by omega) rfl
theorem sf_12 (i : Int) : SF 12 (.int i) := sfAll 12 (by omega) rfl
theorem sa_12 : SA 12 := saAll 12 (by omega)
theorem sa2_12 : SA2 12 := sa2All 12 (by omega)
theorem sc_12 : SC 12 := scAll 12 (by omega)
theorem sr_13 : SR 13 := by intro o n pk v f; kernel_rfl
theorem sd_13_0 : SD 13 (dm 0 0).1 := by intro o n pk f; kernel_rfl
theorem sd_13_1 : SD 13 (dm 0 1).1 := by intro o n pk f; kernel_rfl
theorem se_13 : SE 13 := seAll 13 (by omega) rfl
theorem sf_13 (i : Int) : SF 13 (.int i) := sfAll 13 (by omega) rfl
theorem sa_13 : SA 13 := saAll 13 (by omega)
theorem sa2_13 : SA2 13 := sa2All 13 (by omega)
theorem sc_13 : SC 13 := scAll 13 (by omega)
theorem sr_14 : SR 14 := by intro o n pk v f; kernel_rfl
theorem sd_14 (w : List Nat) : SD 14 (.str w) := by intro o n pk f; kernel_rfl
theorem se_14 : SE 14 := seAll 14 (by omega) rfl
theorem sf_14 (w : List Nat) : SF 14 (.str w) := sfAll 14 (by omega) rfl
theorem sa_14 : SA 14 := saAll 14 (by omega)
theorem sa2_14 : SA2 14 := sa2All 14 (by omega)
theorem sc_14 : SC 14 := scAll 14 (by omega)
theorem sr_15 : SR 15 := by intro o n pk v f; kernel_rfl
theorem sd_15 (w : List Nat) : SD 15 (.str w) := by intro o n pk f; kernel_rfl
theorem se_15 : SE 15 := seAll 15 (by omega) rfl
theorem sf_15 (w : List Nat) : SF 15 (.str w) := sfAll 15 (by omega) rfl
theorem sa_15 : SA 15 := saAll 15 (by omega)
theorem sa2_15 : SA2 15 := sa2All 15 (by omega)
theorem sc_15 : SC 15 := scAll 15 (by omega)
theorem sr_16 : SR 16 := by intro o n pk v f; kernel_rfl
theorem sd_16 (w : List Nat) : SD 16 (.str w) := by intro o n pk f; kernel_rfl
theorem se_16 : SE 16 := seAll 16 (by omega) rfl
theorem sf_16 (w : List Nat) : SF 16 (.str w) := sfAll 16 (by omega) rfl
theorem sa_16 : SA 16 := saAll 16 (by omega)
theorem sa2_16 : SA2 16 := sa2All 16 (by omega)
theorem sc_16 : SC 16 := scAll 16 (by omega)
theorem sr_17 : SR 17 := by intro o n pk v f; kernel_rfl
theorem sd_17_0 : SD 17 (dm 3 0).1 := by intro o n pk f; kernel_rfl
theorem sd_17_1 : SD 17 (dm 3 1).1 := by intro o n pk f; kernel_rfl
theorem sd_17_2 : SD 17 (dm 3 2).1 := by intro o n pk f; kernel_rfl
theorem se_17 : SE 17 := seAll 17 (by omega) rfl
theorem sf_17 (i : Int) : SF 17 (.int i) := sfAll 17 (by omega) rfl
theorem sa_17 : SA 17 := saAll 17 (by omega)
theorem sa2_17 : SA2 17 := sa2All 17 (by omega)
theorem sc_17 : SC 17 := scAll 17 (by omega)
theorem sr_18 : SR 18 := by intro o n pk v f; kernel_rfl
theorem sd_18_0 : SD 18 (dm 2 0).1 := by intro o n pk f; kernel_rfl
theorem sd_18_1 : SD 18 (dm 2 1).1 := by intro o n pk f; kernel_rfl
theorem sd_18_2 : SD 18 (dm 2 2).1 := by intro o n pk f; kernel_rfl
theorem sd_18_3 : SD 18 (dm 2 3).1 := by intro o n pk f; kernel_rfl
theorem se_18 : SE 18 := seAll 18 (by omega) rfl
theorem sf_18 (i : Int) : SF 18 (.int i) := sfAll 18 (by omega) rfl
theorem sa_18 : SA 18 := saAll 18 (by omega)
theorem sa2_18 : SA2 18 := sa2All 18 (by omega)
theorem sc_18 : SC 18 := scAll 18 (by omega)
theorem sr_19 : SR 19 := by intro o n pk v f; kernel_rfl
theorem sd_19_0 : SD 19 (dm 3 0).1 := by intro o n pk f; kernel_rfl
theorem sd_19_1 : SD 19 (dm 3 1).1 := by intro o n pk f; kernel_rfl
theorem sd_19_2 : SD 19 (dm 3 2).1 := by intro o n pk f; kernel_rfl
theorem se_19 : SE 19 := seAll 19 (by omega) rfl
theorem sf_19 (i : Int) : SF 19 (.int i) := sfAll 19 (by omega) rfl
theorem sa_19 : SA 19 := saAll 19 (by omega)
theorem sa2_19 : SA2 19 := sa2All 19 (by omega)
theorem sc_19 : SC 19 := scAll 19 (by omega)
theorem sr_20 : SR 20 := by intro o n pk v f; kernel_rfl
theorem sd_20 (i : Int) : SD 20 (.int i) := by intro o n pk f; kernel_rfl
theorem se_20 : SE 20 := seAll 20 (by omega) rfl
theorem sf_20 (i : Int) : SF 20 (.int i) := sfAll 20 (by omega) rfl
theorem sa_20 : SA 20 := saAll 20 (by omega)
theorem sa2_20 : SA2 20 := sa2All 20 (by omega)
theorem sc_20 : SC 20 := scAll 20 (by omega)
theorem sr_21 : SR 21 := by intro o n pk v f; kernel_rfl
theorem sd_21 (i : Int) : SD 21 (.int i) := by intro o n pk f; kernel_rfl
theorem se_21 : SE 21 := seAll 21 (by omega) rfl
theorem sf_21 (i : Int) : SF 21 (.int i) := sfAll 21 (by omega) rfl
theorem sa_21 : SA 21 := saAll 21 (by omega)
theorem sa2_21 : SA2 21 := sa2All 21 (by omega)
theorem sc_21 : SC 21 := scAll 21 (by omega)
theorem sr_22 : SR 22 := by intro o n pk v f; kernel_rfl
theorem sd_22 (w : List MV) : SD 22 (.tup w) := by intro o n pk f; kernel_rfl
theorem sf_22 (w : List MV) : SF 22 (.list w) := sfAll 22 (by omega) rfl
theorem sa_22 : SA 22 := saAll 22 (by omega)
theorem sa2_22 : SA2 22 := sa2All 22 (by omega)
theorem sc_22 : SC 22 := scAll 22 (by omega)
theorem sr_23 : SR 23 := by intro o n pk v f; kernel_rfl
theorem sd_23_0 : SD 23 (dm 5 0).1 := by intro o n pk f; kernel_rfl
theorem sd_23_1 : SD 23 (dm 5 1).1 := by intro o n pk f; kernel_rfl
theorem sd_23_2 : SD 23 (dm 5 2).1 := by intro o n pk f; kernel_rfl
theorem se_23 : SE 23 := seAll 23 (by omega) rfl
theorem sf_23 (i : Int) : SF 23 (.int i) := sfAll 23 (by omega) rfl
theorem sa_23 : SA 23 := saAll 23 (by omega)
theorem sa2_23 : SA2 23 := sa2All 23 (by omega)
theorem sc_23 : SC 23 := scAll 23 (by omega)
theorem sr_24 : SR 24 := by intro o n pk v f; kernel_rfl
theorem sd_24 (i : Int) : SD 24 (.int i) := by intro o n pk f; kernel_rfl
theorem se_24 : SE 24 := seAll 24 (by omega) rfl
theorem sf_24 (i : Int) : SF 24 (.int i) := sfAll 24 (by omega) rfl
theorem sa_24 : SA 24 := saAll 24 (by omega)
theorem sa2_24 : SA2 24 := sa2All 24 (by omega)
theorem sc_24 : SC 24 := scAll 24 (by omega)
theorem sr_25 : SR 25 := by intro o n pk v f; kernel_rfl
theorem sd_25 (i : Int) : SD 25 (.int i) := by intro o n pk f; kernel_rfl
theorem se_25 : SE 25 := seAll 25 (by omega) rfl
theorem sf_25 (i : Int) : SF 25 (.int i) := sfAll 25 (by omega) rfl
theorem sa_25 : SA 25 := saAll 25 (by omega)
theorem sa2_25 : SA2 25 := sa2All 25 (by omega)
theorem sc_25 : SC 25 := scAll 25 (by omega)
theorem sr_26 : SR 26 := by intro o n pk v f; kernel_rfl
theorem sd_26 (i : Int) : SD 26 (.int i) := by intro o n pk f; kernel_rfl
theorem se_26 : SE 26 := seAll 26 (by omega) rfl
theorem sf_26 (i : Int) : SF 26 (.int i) := sfAll 26 (by omega) rfl
theorem sa_26 : SA 26 := saAll 26 (by omega)
theorem sa2_26 : SA2 26 := sa2All 26 (by omega)
theorem sc_26 : SC 26 := scAll 26 (by omega)
end Mine
namespace Mine
set_option maxRecDepth 100000
open PySem
def noF (f : Att) (nm : Str) : Att := fun y => match seq y nm with | true => none | false => f y
def SEX (p : Nat) (v : MV) (xs : Option (List MV)) : Prop := ∀ (o : Option Att) (n : Nat) (pk : MV) (f : Att),
  rx TT (n + 40) setSc (lS o (nmL p) v) (st0 o (mkA pk (match xs with | none => noF f (nmS p) | some xs => updA f (nmS p) (.list xs)))) (stAt setBody 4) =
    some (.next, lS o (nmL p) (.list (xs.getD [] ++ [v])), st0 o (mkA pk (match xs with | none => noF f (nmS p) | some xs => updA f (nmS p) (.list xs))))
theorem se5 (i : Int) (xs : Option (List MV)) (h : (xs.getD []).length ≤ 4) : SEX 5 (.int i) xs := by
  intro o n pk f
  match xs, h with
  | none, _ => cases o with | none => kernel_rfl | some b => kernel_rfl
  | some [], _ => cases o with | none => kernel_rfl | some b => kernel_rfl
  | some [a], _ => cases o with | none => kernel_rfl | some b => kernel_rfl
  | some [a, b], _ => cases o with | none => kernel_rfl | some b => kernel_rfl
  | some [a, b, c], _ => cases o with | none => kernel_rfl | some b => kernel_rfl
  | some [a, b, c, d], _ => cases o with | none => kernel_rfl | some b => kernel_rfl
  | some (a :: b :: c :: d :: e :: r), h => simp at h
theorem se22 (w : List MV) (xs : Option (List MV)) (h : (xs.getD []).length ≤ 4) : SEX 22 (.tup w) xs := by
  intro o n pk f
  match xs, h with
  | none, _ => cases o with | none => kernel_rfl | some b => kernel_rfl
  | some [], _ => cases o with | none => kernel_rfl | some b => kernel_rfl
  | some [a], _ => cases o with | none => kernel_rfl | some b => kernel_rfl
  | some [a, b], _ => cases o with | none => kernel_rfl | some b => kernel_rfl
  | some [a, b, c], _ => cases o with | none => kernel_rfl | some b => kernel_rfl
  | some [a, b, c, d], _ => cases o with | none => kernel_rfl | some b => kernel_rfl
  | some (a :: b :: c :: d :: e :: r), h => simp at h
end Mine
namespace Mine
set_option maxRecDepth 100000
open PySem

theorem set_cut : setBody = setBody.take 2 ++ (stAt setBody 2 :: stAt setBody 3 :: stAt setBody 4 :: setBody.drop 5) := by kernel_rfl
theorem set_fn : lkN 262 TT.fn = some (mtAt 19 6) := by kernel_rfl
theorem set_args (o : Option Att) (nm : List Nat) (v : MV) : zipArgs (mtAt 19 6).params [.obj (no0 o), .str nm, v] = some (lS o nm v) := by kernel_rfl
theorem set_if : isIf (stAt setBody 2) = true := by kernel_rfl

theorem mkA_upd {pk : MV} {f : Att} {nm : Str} {v : MV} (h1 : seq nm "packetType" = false) (h2 : memS nm attrsL = true) (hq : ∀ y, seq y nm = true → y = nm) : updA (mkA pk f) nm v = mkA pk (updA f nm v) := by
  funext y
  show (match seq y nm with | true => some v | false => mkA pk f y) = (match seq y "packetType" with | true => some pk | false => match memS y attrsL with | true => (match seq y nm with | true => some v | false => f y) | false => none)
  cases hy : seq y nm with
  | false => rfl
  | true =>
    have := hq y hy
    subst this
    rw [h1, h2]

theorem set_ok {p : Nat} {nm : List Nat} {v v' : MV} {o : Option Att} {pk : Int} {f f' : Att} {n : Nat} (hpk : anyInt pk (whr p) = true)
    (hA : exs (rx TT (n + 41) setSc) (setBody.take 2) (lS o nm v) (st0 o (mkA (.int pk) f)) = some (.next, lS o (nmL p) v, st0 o (mkA (.int pk) f)))
    (hC : SC p) (hD : SD p v)
    (hE : rx TT (n + 41) setSc (lS o (nmL p) v) (st0 o (mkA (.int pk) f)) (stAt setBody 4) = some (.next, lS o (nmL p) v', st0 o (mkA (.int pk) f)))
    (hF : SF p v') (h1 : seq (nmS p) "packetType" = false) (h2 : memS (nmS p) attrsL = true) (hq : ∀ y, seq y (nmS p) = true → y = nmS p) :
    (run TT (n + 42)).ca 262 [.obj (no0 o), .str nm, v] (st0 o (mkA (.int pk) f)) = some (.val .none, st0 o (mkA (.int pk) (updA f (nmS p) v'))) := by
  refine ca_of (fl := .next) set_fn (set_args o nm v) (l' := lS o (nmL p) v') ?_ rfl
  show exs (rx TT (n + 41) setSc) setBody _ _ = _
  rw [set_cut]
  refine exs_app hA (exs_nx (l1 := lS o (nmL p) v) (S1 := st0 o (mkA (.int pk) f)) ?_ (exs_nx (hD o (n + 1) _ f) (exs_nx hE ?_)))
  · refine ex_if (n := n + 40) (b := false) set_if ?_ rfl
    rw [hC o n pk v f, hpk]; rfl
  · rw [hF o (n + 1) _ f, mkA_upd h1 h2 hq]
end Mine
namespace Mine
set_option maxRecDepth 100000
set_option maxHeartbeats 400000
open PySem
theorem allA : ∀ p, p < 27 → SA p ∧ SA2 p ∧ SC p ∧ SR p
  | 0, _ => ⟨sa_0, sa2_0, sc_0, sr_0⟩
  | 1, _ => ⟨sa_1, sa2_1, sc_1, sr_1⟩
  | 2, _ => ⟨sa_2, sa2_2, sc_2, sr_2⟩
  | 3, _ => ⟨sa_3, sa2_3, sc_3, sr_3⟩
  | 4, _ => ⟨sa_4, sa2_4, sc_4, sr_4⟩
  | 5, _ => ⟨sa_5, sa2_5, sc_5, sr_5⟩
  | 6, _ => ⟨sa_6, sa2_6, sc_6, sr_6⟩
  | 7, _ => ⟨sa_7, sa2_7, sc_7, sr_7⟩
  | 8, _ => ⟨sa_8, sa2_8, sc_8, sr_8⟩
  | 9, _ => ⟨sa_9, sa2_9, sc_9, sr_9⟩
  | 10, _ => ⟨sa_10, sa2_10, sc_10, sr_10⟩
  | 11, _ => ⟨sa_11, sa2_11, sc_11, sr_11⟩
  | 12, _ => ⟨sa_12, sa2_12, sc_12, sr_12⟩
  | 13, _ => ⟨sa_13, sa2_13, sc_13, sr_13⟩
  | 14, _ => ⟨sa_14, sa2_14, sc_14, sr_14⟩
  | 15, _ => ⟨sa_15, sa2_15, sc_15, sr_15⟩
  | 16, _ => ⟨sa_16, sa2_16, sc_16, sr_16⟩
  | 17, _ => ⟨sa_17, sa2_17, sc_17, sr_17⟩
  | 18, _ => ⟨sa_18, sa2_18, sc_18, sr_18⟩
  | 19, _ => ⟨sa_19, sa2_19, sc_19, sr_19⟩
  | 20, _ => ⟨sa_20, sa2_20, sc_20, sr_20⟩
  | 21, _ => ⟨sa_21, sa2_21, sc_21, sr_21⟩
  | 22, _ => ⟨sa_22, sa2_22, sc_22, sr_22⟩
  | 23, _ => ⟨sa_23, sa2_23, sc_23, sr_23⟩
  | 24, _ => ⟨sa_24, sa2_24, sc_24, sr_24⟩
  | 25, _ => ⟨sa_25, sa2_25, sc_25, sr_25⟩
  | 26, _ => ⟨sa_26, sa2_26, sc_26, sr_26⟩
  | n + 27, h => absurd h (by omega)
theorem allN : ∀ p, p < 27 → seq (nmS p) "packetType" = false ∧ memS (nmS p) attrsL = true := by decide +kernel
theorem svl_0 : ∀ x ∈ domK 0, SD 0 x.1 ∧ SE 0 ∧ SF 0 x.1 := by
  simp only [domK, List.forall_mem_cons]
  exact ⟨⟨sd_0_0, se_0, sf_0 _⟩, ⟨sd_0_1, se_0, sf_0 _⟩, fun _ h => nomatch h⟩
theorem sv_0 {v : MV} {b : List Nat} (h : Good 0 v b) : SD 0 v ∧ SE 0 ∧ SF 0 v := svl_0 (v, b) h
theorem svl_1 : ∀ x ∈ domK 4, SD 1 x.1 ∧ SE 1 ∧ SF 1 x.1 := by
  simp only [domK, List.forall_mem_cons]
  exact ⟨⟨sd_1 _, se_1, sf_1 _⟩, ⟨sd_1 _, se_1, sf_1 _⟩, ⟨sd_1 _, se_1, sf_1 _⟩, ⟨sd_1 _, se_1, sf_1 _⟩, fun _ h => nomatch h⟩
theorem sv_1 {v : MV} {b : List Nat} (h : Good 1 v b) : SD 1 v ∧ SE 1 ∧ SF 1 v := svl_1 (v, b) h
theorem svl_2 : ∀ x ∈ domK 8, SD 2 x.1 ∧ SE 2 ∧ SF 2 x.1 := by
  simp only [domK, List.forall_mem_cons]
  exact ⟨⟨sd_2 _, se_2, sf_2 _⟩, ⟨sd_2 _, se_2, sf_2 _⟩, ⟨sd_2 _, se_2, sf_2 _⟩, ⟨sd_2 _, se_2, sf_2 _⟩, fun _ h => nomatch h⟩
theorem sv_2 {v : MV} {b : List Nat} (h : Good 2 v b) : SD 2 v ∧ SE 2 ∧ SF 2 v := svl_2 (v, b) h
theorem svl_3 : ∀ x ∈ domK 8, SD 3 x.1 ∧ SE 3 ∧ SF 3 x.1 := by
  simp only [domK, List.forall_mem_cons]
  exact ⟨⟨sd_3 _, se_3, sf_3 _⟩, ⟨sd_3 _, se_3, sf_3 _⟩, ⟨sd_3 _, se_3, sf_3 _⟩, ⟨sd_3 _, se_3, sf_3 _⟩, fun _ h => nomatch h⟩
theorem sv_3 {v : MV} {b : List Nat} (h : Good 3 v b) : SD 3 v ∧ SE 3 ∧ SF 3 v := svl_3 (v, b) h
theorem sv_4 {v : MV} {b : List Nat} (h : Good 4 v b) : SD 4 v ∧ SE 4 ∧ SF 4 v := by
  obtain ⟨j, r, _, _, rfl, _⟩ := h
  exact ⟨sd_4 _, se_4, sf_4 _⟩
theorem svl_6 : ∀ x ∈ domK 4, SD 6 x.1 ∧ SE 6 ∧ SF 6 x.1 := by
  simp only [domK, List.forall_mem_cons]
  exact ⟨⟨sd_6 _, se_6, sf_6 _⟩, ⟨sd_6 _, se_6, sf_6 _⟩, ⟨sd_6 _, se_6, sf_6 _⟩, ⟨sd_6 _, se_6, sf_6 _⟩, fun _ h => nomatch h⟩
theorem sv_6 {v : MV} {b : List Nat} (h : Good 6 v b) : SD 6 v ∧ SE 6 ∧ SF 6 v := svl_6 (v, b) h
theorem svl_7 : ∀ x ∈ domK 8, SD 7 x.1 ∧ SE 7 ∧ SF 7 x.1 := by
  simp only [domK, List.forall_mem_cons]
  exact ⟨⟨sd_7 _, se_7, sf_7 _⟩, ⟨sd_7 _, se_7, sf_7 _⟩, ⟨sd_7 _, se_7, sf_7 _⟩, ⟨sd_7 _, se_7, sf_7 _⟩, fun _ h => nomatch h⟩
theorem sv_7 {v : MV} {b : List Nat} (h : Good 7 v b) : SD 7 v ∧ SE 7 ∧ SF 7 v := svl_7 (v, b) h
theorem svl_8 : ∀ x ∈ domK 2, SD 8 x.1 ∧ SE 8 ∧ SF 8 x.1 := by
  simp only [domK, List.forall_mem_cons]
  exact ⟨⟨sd_8 _, se_8, sf_8 _⟩, ⟨sd_8 _, se_8, sf_8 _⟩, ⟨sd_8 _, se_8, sf_8 _⟩, ⟨sd_8 _, se_8, sf_8 _⟩, fun _ h => nomatch h⟩
theorem sv_8 {v : MV} {b : List Nat} (h : Good 8 v b) : SD 8 v ∧ SE 8 ∧ SF 8 v := svl_8 (v, b) h
theorem svl_9 : ∀ x ∈ domK 8, SD 9 x.1 ∧ SE 9 ∧ SF 9 x.1 := by
  simp only [domK, List.forall_mem_cons]
  exact ⟨⟨sd_9 _, se_9, sf_9 _⟩, ⟨sd_9 _, se_9, sf_9 _⟩, ⟨sd_9 _, se_9, sf_9 _⟩, ⟨sd_9 _, se_9, sf_9 _⟩, fun _ h => nomatch h⟩
theorem sv_9 {v : MV} {b : List Nat} (h : Good 9 v b) : SD 9 v ∧ SE 9 ∧ SF 9 v := svl_9 (v, b) h
theorem sv_10 {v : MV} {b : List Nat} (h : Good 10 v b) : SD 10 v ∧ SE 10 ∧ SF 10 v := by
  obtain ⟨j, r, _, _, rfl, _⟩ := h
  exact ⟨sd_10 _, se_10, sf_10 _⟩
theorem svl_11 : ∀ x ∈ domK 0, SD 11 x.1 ∧ SE 11 ∧ SF 11 x.1 := by
  simp only [domK, List.forall_mem_cons]
  exact ⟨⟨sd_11_0, se_11, sf_11 _⟩, ⟨sd_11_1, se_11, sf_11 _⟩, fun _ h => nomatch h⟩
theorem sv_11 {v : MV} {b : List Nat} (h : Good 11 v b) : SD 11 v ∧ SE 11 ∧ SF 11 v := svl_11 (v, b) h
theorem svl_12 : ∀ x ∈ domK 4, SD 12 x.1 ∧ SE 12 ∧ SF 12 x.1 := by
  simp only [domK, List.forall_mem_cons]
  exact ⟨⟨sd_12 _, se_12, sf_12 _⟩, ⟨sd_12 _, se_12, sf_12 _⟩, ⟨sd_12 _, se_12, sf_12 _⟩, ⟨sd_12 _, se_12, sf_12 _⟩, fun _ h => nomatch h⟩
theorem sv_12 {v : MV} {b : List Nat} (h : Good 12 v b) : SD 12 v ∧ SE 12 ∧ SF 12 v := svl_12 (v, b) h
theorem svl_13 : ∀ x ∈ domK 0, SD 13 x.1 ∧ SE 13 ∧ SF 13 x.1 := by
  simp only [domK, List.forall_mem_cons]
  exact ⟨⟨sd_13_0, se_13, sf_13 _⟩, ⟨sd_13_1, se_13, sf_13 _⟩, fun _ h => nomatch h⟩
theorem sv_13 {v : MV} {b : List Nat} (h : Good 13 v b) : SD 13 v ∧ SE 13 ∧ SF 13 v := svl_13 (v, b) h
theorem svl_14 : ∀ x ∈ domK 8, SD 14 x.1 ∧ SE 14 ∧ SF 14 x.1 := by
  simp only [domK, List.forall_mem_cons]
  exact ⟨⟨sd_14 _, se_14, sf_14 _⟩, ⟨sd_14 _, se_14, sf_14 _⟩, ⟨sd_14 _, se_14, sf_14 _⟩, ⟨sd_14 _, se_14, sf_14 _⟩, fun _ h => nomatch h⟩
theorem sv_14 {v : MV} {b : List Nat} (h : Good 14 v b) : SD 14 v ∧ SE 14 ∧ SF 14 v := svl_14 (v, b) h
theorem svl_15 : ∀ x ∈ domK 8, SD 15 x.1 ∧ SE 15 ∧ SF 15 x.1 := by
  simp only [domK, List.forall_mem_cons]
  exact ⟨⟨sd_15 _, se_15, sf_15 _⟩, ⟨sd_15 _, se_15, sf_15 _⟩, ⟨sd_15 _, se_15, sf_15 _⟩, ⟨sd_15 _, se_15, sf_15 _⟩, fun _ h => nomatch h⟩
theorem sv_15 {v : MV} {b : List Nat} (h : Good 15 v b) : SD 15 v ∧ SE 15 ∧ SF 15 v := svl_15 (v, b) h
theorem svl_16 : ∀ x ∈ domK 8, SD 16 x.1 ∧ SE 16 ∧ SF 16 x.1 := by
  simp only [domK, List.forall_mem_cons]
  exact ⟨⟨sd_16 _, se_16, sf_16 _⟩, ⟨sd_16 _, se_16, sf_16 _⟩, ⟨sd_16 _, se_16, sf_16 _⟩, ⟨sd_16 _, se_16, sf_16 _⟩, fun _ h => nomatch h⟩
theorem sv_16 {v : MV} {b : List Nat} (h : Good 16 v b) : SD 16 v ∧ SE 16 ∧ SF 16 v := svl_16 (v, b) h
theorem svl_17 : ∀ x ∈ domK 3, SD 17 x.1 ∧ SE 17 ∧ SF 17 x.1 := by
  simp only [domK, List.forall_mem_cons]
  exact ⟨⟨sd_17_0, se_17, sf_17 _⟩, ⟨sd_17_1, se_17, sf_17 _⟩, ⟨sd_17_2, se_17, sf_17 _⟩, fun _ h => nomatch h⟩
theorem sv_17 {v : MV} {b : List Nat} (h : Good 17 v b) : SD 17 v ∧ SE 17 ∧ SF 17 v := svl_17 (v, b) h
theorem svl_18 : ∀ x ∈ domK 2, SD 18 x.1 ∧ SE 18 ∧ SF 18 x.1 := by
  simp only [domK, List.forall_mem_cons]
  exact ⟨⟨sd_18_0, se_18, sf_18 _⟩, ⟨sd_18_1, se_18, sf_18 _⟩, ⟨sd_18_2, se_18, sf_18 _⟩, ⟨sd_18_3, se_18, sf_18 _⟩, fun _ h => nomatch h⟩
theorem sv_18 {v : MV} {b : List Nat} (h : Good 18 v b) : SD 18 v ∧ SE 18 ∧ SF 18 v := svl_18 (v, b) h
theorem svl_19 : ∀ x ∈ domK 3, SD 19 x.1 ∧ SE 19 ∧ SF 19 x.1 := by
  simp only [domK, List.forall_mem_cons]
  exact ⟨⟨sd_19_0, se_19, sf_19 _⟩, ⟨sd_19_1, se_19, sf_19 _⟩, ⟨sd_19_2, se_19, sf_19 _⟩, fun _ h => nomatch h⟩
theorem sv_19 {v : MV} {b : List Nat} (h : Good 19 v b) : SD 19 v ∧ SE 19 ∧ SF 19 v := svl_19 (v, b) h
theorem svl_20 : ∀ x ∈ domK 1, SD 20 x.1 ∧ SE 20 ∧ SF 20 x.1 := by
  simp only [domK, List.forall_mem_cons]
  exact ⟨⟨sd_20 _, se_20, sf_20 _⟩, ⟨sd_20 _, se_20, sf_20 _⟩, fun _ h => nomatch h⟩
theorem sv_20 {v : MV} {b : List Nat} (h : Good 20 v b) : SD 20 v ∧ SE 20 ∧ SF 20 v := svl_20 (v, b) h
theorem svl_21 : ∀ x ∈ domK 1, SD 21 x.1 ∧ SE 21 ∧ SF 21 x.1 := by
  simp only [domK, List.forall_mem_cons]
  exact ⟨⟨sd_21 _, se_21, sf_21 _⟩, ⟨sd_21 _, se_21, sf_21 _⟩, fun _ h => nomatch h⟩
theorem sv_21 {v : MV} {b : List Nat} (h : Good 21 v b) : SD 21 v ∧ SE 21 ∧ SF 21 v := svl_21 (v, b) h
theorem svl_23 : ∀ x ∈ domK 5, SD 23 x.1 ∧ SE 23 ∧ SF 23 x.1 := by
  simp only [domK, List.forall_mem_cons]
  exact ⟨⟨sd_23_0, se_23, sf_23 _⟩, ⟨sd_23_1, se_23, sf_23 _⟩, ⟨sd_23_2, se_23, sf_23 _⟩, fun _ h => nomatch h⟩
theorem sv_23 {v : MV} {b : List Nat} (h : Good 23 v b) : SD 23 v ∧ SE 23 ∧ SF 23 v := svl_23 (v, b) h
theorem svl_24 : ∀ x ∈ domK 1, SD 24 x.1 ∧ SE 24 ∧ SF 24 x.1 := by
  simp only [domK, List.forall_mem_cons]
  exact ⟨⟨sd_24 _, se_24, sf_24 _⟩, ⟨sd_24 _, se_24, sf_24 _⟩, fun _ h => nomatch h⟩
theorem sv_24 {v : MV} {b : List Nat} (h : Good 24 v b) : SD 24 v ∧ SE 24 ∧ SF 24 v := svl_24 (v, b) h
theorem svl_25 : ∀ x ∈ domK 1, SD 25 x.1 ∧ SE 25 ∧ SF 25 x.1 := by
  simp only [domK, List.forall_mem_cons]
  exact ⟨⟨sd_25 _, se_25, sf_25 _⟩, ⟨sd_25 _, se_25, sf_25 _⟩, fun _ h => nomatch h⟩
theorem sv_25 {v : MV} {b : List Nat} (h : Good 25 v b) : SD 25 v ∧ SE 25 ∧ SF 25 v := svl_25 (v, b) h
theorem svl_26 : ∀ x ∈ domK 1, SD 26 x.1 ∧ SE 26 ∧ SF 26 x.1 := by
  simp only [domK, List.forall_mem_cons]
  exact ⟨⟨sd_26 _, se_26, sf_26 _⟩, ⟨sd_26 _, se_26, sf_26 _⟩, fun _ h => nomatch h⟩
theorem sv_26 {v : MV} {b : List Nat} (h : Good 26 v b) : SD 26 v ∧ SE 26 ∧ SF 26 v := svl_26 (v, b) h
theorem svAll {v : MV} {b : List Nat} : ∀ p, p < 27 → p ≠ 5 → p ≠ 22 → Good p v b → SD p v ∧ SE p ∧ SF p v
  | 0, _, _, _, h => sv_0 h
  | 1, _, _, _, h => sv_1 h
  | 2, _, _, _, h => sv_2 h
  | 3, _, _, _, h => sv_3 h
  | 4, _, _, _, h => sv_4 h
  | 5, _, h5, h22, _ => absurd rfl h5
  | 6, _, _, _, h => sv_6 h
  | 7, _, _, _, h => sv_7 h
  | 8, _, _, _, h => sv_8 h
  | 9, _, _, _, h => sv_9 h
  | 10, _, _, _, h => sv_10 h
  | 11, _, _, _, h => sv_11 h
  | 12, _, _, _, h => sv_12 h
  | 13, _, _, _, h => sv_13 h
  | 14, _, _, _, h => sv_14 h
  | 15, _, _, _, h => sv_15 h
  | 16, _, _, _, h => sv_16 h
  | 17, _, _, _, h => sv_17 h
  | 18, _, _, _, h => sv_18 h
  | 19, _, _, _, h => sv_19 h
  | 20, _, _, _, h => sv_20 h
  | 21, _, _, _, h => sv_21 h
  | 22, _, h5, h22, _ => absurd rfl h22
  | 23, _, _, _, h => sv_23 h
  | 24, _, _, _, h => sv_24 h
  | 25, _, _, _, h => sv_25 h
  | 26, _, _, _, h => sv_26 h
  | n + 27, h, _, _, _ => absurd h (by omega)
end Mine
namespace Mine
set_option maxRecDepth 100000
open PySem

/-! what the bag holds, as a list of rows -/
abbrev It := Nat × MV × List Nat
def atP (p : Nat) (its : List It) : List It := its.filter fun x => Nat.beq x.1 p
def vals (p : Nat) (its : List It) : List MV := (atP p its).map fun x => x.2.1
def one : List MV → Option MV
  | [] => none
  | x :: _ => some x
def many : List MV → Option MV
  | [] => none
  | x :: r => some (.list (x :: r))
def attP (p : Nat) (its : List It) : Option MV := match multi p with
  | true => many (vals p its)
  | false => one (vals p its)
def attGo (its : List It) (y : Str) : List Nat → Option MV
  | [] => none
  | p :: r => match seq y (nmS p) with
    | true => attP p its
    | false => attGo its y r
def attOf (its : List It) : Att := fun y => attGo its y (List.range 27)
def ins (p : Nat) (v : MV) (b : List Nat) (its : List It) : List It := (match multi p with | true => its | false => its.filter fun x => !Nat.beq x.1 p) ++ [(p, v, b)]
def sorted (its : List It) : List It := (List.range 27).flatMap fun p => atP p its

theorem leq_of : ∀ {a b : List Nat}, leq a b = true → a = b
  | [], [], _ => rfl
  | [], _ :: _, h => by cases h
  | _ :: _, [], h => by cases h
  | a :: r, b :: q, h => by
    unfold leq at h
    split at h
    · rename_i e
      rw [Nat.eq_of_beq_eq_true e, leq_of h]
    · cases h
theorem leq_same : ∀ (a : List Nat), leq a a = true
  | [] => rfl
  | a :: r => by unfold leq; rw [Nat.beq_refl]; exact leq_same r
theorem seq_of {a b : Str} (h : seq a b = true) : a = b := by
  have := leq_of h
  cases a; cases b
  exact congrArg Str.mk (by simpa using this)
theorem nm_seq : ∀ q, q < 27 → ∀ p, p < 27 → seq (nmS q) (nmS p) = Nat.beq q p := by decide +kernel
theorem memS_of {x : Str} : ∀ {L : List Str}, memS x L = true → x ∈ L
  | [], h => by cases h
  | y :: r, h => by
    unfold memS at h
    split at h
    · rename_i e; rw [seq_of e]; exact .head _
    · exact .tail _ (memS_of h)
theorem attrs_nm : attrsL = ("packetType" : Str) :: (List.range 27).map nmS := by
  kernel_rfl
theorem attGo_nm {its : List It} {q : Nat} (hq : q < 27) : ∀ {L : List Nat}, (∀ p ∈ L, p < 27) → q ∈ L → attGo its (nmS q) L = attP q its
  | [], _, h => by cases h
  | p :: r, hL, h => by
    unfold attGo
    rw [nm_seq q hq p (hL p (.head _))]
    cases e : Nat.beq q p with
    | true => rw [Nat.eq_of_beq_eq_true e]
    | false =>
      refine attGo_nm hq (fun p hp => hL p (.tail _ hp)) ?_
      rcases List.mem_cons.mp h with h | h
      · subst h; rw [Nat.beq_refl] at e; cases e
      · exact h
theorem attOf_nm (its : List It) {q : Nat} (hq : q < 27) : attOf its (nmS q) = attP q its :=
  attGo_nm hq (fun p hp => by simpa using hp) (by simpa using hq)
theorem mkA_ext {pk : MV} {f g : Att} (h : ∀ q, q < 27 → f (nmS q) = g (nmS q)) : mkA pk f = mkA pk g := by
  funext y
  unfold mkA
  cases e : seq y "packetType" with
  | true => rfl
  | false =>
    cases e2 : memS y attrsL with
    | false => rfl
    | true =>
      have := memS_of e2
      rw [attrs_nm] at this
      rcases List.mem_cons.mp this with h1 | h1
      · subst h1; exact absurd e (by decide +kernel)
      · obtain ⟨q, h2, rfl⟩ := List.mem_map.mp h1
        exact h q (by simpa using h2)
theorem updA_nm {f : Att} {p q : Nat} {v : MV} (hp : p < 27) (hq : q < 27) : updA f (nmS p) v (nmS q) = match Nat.beq q p with | true => some v | false => f (nmS q) := by
  show (match seq (nmS q) (nmS p) with | true => some v | false => f (nmS q)) = _
  rw [nm_seq q hq p hp]
theorem noF_nm {f : Att} {p q : Nat} (hp : p < 27) (hq : q < 27) : noF f (nmS p) (nmS q) = match Nat.beq q p with | true => none | false => f (nmS q) := by
  show (match seq (nmS q) (nmS p) with | true => none | false => f (nmS q)) = _
  rw [nm_seq q hq p hp]

theorem atP_app (p : Nat) (a b : List It) : atP p (a ++ b) = atP p a ++ atP p b := by simp [atP]
theorem vals_app (p : Nat) (a b : List It) : vals p (a ++ b) = vals p a ++ vals p b := by simp [vals, atP_app]
theorem vals_self (p : Nat) (v : MV) (b : List Nat) : vals p [(p, v, b)] = [v] := by simp [vals, atP, List.filter]
theorem vals_other {p q : Nat} (v : MV) (b : List Nat) (h : Nat.beq q p = false) : vals q [(p, v, b)] = [] := by
  have : Nat.beq p q = false := by
    cases e : Nat.beq p q with
    | false => rfl
    | true => rw [Nat.eq_of_beq_eq_true e, Nat.beq_refl] at h; cases h
  simp [vals, atP, List.filter, this]
theorem atP_del_self (p : Nat) (its : List It) : atP p (its.filter fun x => !Nat.beq x.1 p) = [] := by
  unfold atP
  rw [List.filter_filter, List.filter_eq_nil_iff]
  intro x _; cases Nat.beq x.1 p <;> simp
theorem atP_del {p q : Nat} (h : Nat.beq q p = false) (its : List It) : atP q (its.filter fun x => !Nat.beq x.1 p) = atP q its := by
  unfold atP
  rw [List.filter_filter]
  congr 1
  funext x
  cases e : Nat.beq x.1 q with
  | false => rfl
  | true => rw [Nat.eq_of_beq_eq_true e, h]; rfl
theorem attP_ins {p q : Nat} {v : MV} {b : List Nat} {its : List It} :
    attP q (ins p v b its) = match Nat.beq q p with | true => some (match multi p with | true => .list (vals p its ++ [v]) | false => v) | false => attP q its := by
  unfold attP ins
  rw [vals_app]
  cases e : Nat.beq q p with
  | true =>
    have e1 := Nat.eq_of_beq_eq_true e
    subst e1
    rw [vals_self]
    cases hm : multi q with
    | true => simp only; cases vals q its <;> rfl
    | false => simp only; unfold vals; rw [atP_del_self]; rfl
  | false =>
    rw [vals_other v b e, List.append_nil]
    cases hm : multi p with
    | true => rfl
    | false => simp only; unfold vals; rw [atP_del e]
theorem mkA_ins {pk : MV} {p : Nat} {v : MV} {b : List Nat} {its : List It} (hp : p < 27) :
    mkA pk (updA (attOf its) (nmS p) (match multi p with | true => .list (vals p its ++ [v]) | false => v)) = mkA pk (attOf (ins p v b its)) :=
  mkA_ext fun q hq => by
    rw [updA_nm hp hq, attOf_nm _ hq, attOf_nm _ hq, attP_ins]
theorem mkA_none {pk : MV} {p : Nat} {its : List It} (hp : p < 27) (h : attP p its = none) : mkA pk (attOf its) = mkA pk (noF (attOf its) (nmS p)) :=
  mkA_ext fun q hq => by
    rw [noF_nm hp hq, attOf_nm _ hq]
    cases e : Nat.beq q p with
    | true => rw [Nat.eq_of_beq_eq_true e, h]
    | false => rfl
theorem mkA_some {pk : MV} {p : Nat} {v : MV} {its : List It} (hp : p < 27) (h : attP p its = some v) : mkA pk (attOf its) = mkA pk (updA (attOf its) (nmS p) v) :=
  mkA_ext fun q hq => by
    rw [updA_nm hp hq, attOf_nm _ hq]
    cases e : Nat.beq q p with
    | true => rw [Nat.eq_of_beq_eq_true e, h]
    | false => rfl
end Mine
namespace Mine
set_option maxRecDepth 100000
open PySem

def Nm (p : Nat) (nm : List Nat) : Prop := nm = nmF p ∨ nm = nmL p
theorem set_A {p : Nat} (hp : p < 27) {nm : List Nat} (hn : Nm p nm) (o : Option Att) (n : Nat) (pk v : MV) (f : Att) :
    exs (rx TT (n + 40) setSc) (setBody.take 2) (lS o nm v) (st0 o (mkA pk f)) = some (.next, lS o (nmL p) v, st0 o (mkA pk f)) := by
  obtain ⟨h1, h2, _⟩ := allA p hp
  rcases hn with rfl | rfl
  · exact h1 o n pk v f
  · exact h2 o n pk v f
theorem good5 {v : MV} {b : List Nat} (h : Good 5 v b) : SD 5 v ∧ ∃ i, v = .int i := by
  have h' : (v, b) ∈ domK 6 := h
  have all : ∀ x ∈ domK 6, SD 5 x.1 ∧ ∃ i, x.1 = .int i := by
    simp only [domK, List.forall_mem_cons]
    exact ⟨⟨sd_5_0, _, rfl⟩, ⟨sd_5_1, _, rfl⟩, ⟨sd_5_2, _, rfl⟩, ⟨sd_5_3, _, rfl⟩, ⟨sd_5_4, _, rfl⟩, fun _ h => nomatch h⟩
  exact all (v, b) h'
theorem good22 {v : MV} {b : List Nat} (h : Good 22 v b) : ∃ w, v = .tup w := by
  have h' : (v, b) ∈ domK 9 := h
  have all : ∀ x ∈ domK 9, ∃ w, x.1 = .tup w := by
    simp only [domK, List.forall_mem_cons]
    exact ⟨⟨_, rfl⟩, ⟨_, rfl⟩, ⟨_, rfl⟩, ⟨_, rfl⟩, ⟨_, rfl⟩, ⟨_, rfl⟩, ⟨_, rfl⟩, ⟨_, rfl⟩, ⟨_, rfl⟩, ⟨_, rfl⟩, ⟨_, rfl⟩, ⟨_, rfl⟩, ⟨_, rfl⟩, ⟨_, rfl⟩, ⟨_, rfl⟩, ⟨_, rfl⟩, fun _ h => nomatch h⟩
  exact all (v, b) h'
theorem vals_len (p : Nat) (its : List It) : (vals p its).length ≤ its.length := by
  unfold vals atP
  rw [List.length_map]
  exact List.length_filter_le _ _
theorem set_E {p : Nat} (hp : p < 27) (hm : multi p = true) {v : MV} (H : ∀ xs : Option (List MV), (xs.getD []).length ≤ 4 → SEX p v xs) {its : List It} (hl : its.length ≤ 4) (o : Option Att) (n : Nat) (pk : MV) :
    rx TT (n + 40) setSc (lS o (nmL p) v) (st0 o (mkA pk (attOf its))) (stAt setBody 4) = some (.next, lS o (nmL p) (.list (vals p its ++ [v])), st0 o (mkA pk (attOf its))) := by
  have h4 : (vals p its).length ≤ 4 := Nat.le_trans (vals_len p its) hl
  cases e : vals p its with
  | nil =>
    have : attP p its = none := by unfold attP; rw [hm, e]; rfl
    rw [mkA_none hp this]
    exact H none (Nat.zero_le _) o n pk (attOf its)
  | cons a r =>
    have : attP p its = some (.list (a :: r)) := by unfold attP; rw [hm, e]; rfl
    rw [mkA_some hp this]
    exact H (some (a :: r)) (by rw [← e]; exact h4) o n pk (attOf its)
theorem nm_eq {p : Nat} (y : Str) (h : seq y (nmS p) = true) : y = nmS p := seq_of h
theorem set_put {p : Nat} (hp : p < 27) {nm : List Nat} (hn : Nm p nm) {v : MV} {b : List Nat} (hg : Good p v b) {its : List It} (hl : its.length ≤ 4) {pk : Int} (hpk : anyInt pk (whr p) = true) {o : Option Att} {n : Nat} :
    (run TT (n + 42)).ca 262 [.obj (no0 o), .str nm, v] (st0 o (mkA (.int pk) (attOf its))) = some (.val .none, st0 o (mkA (.int pk) (attOf (ins p v b its)))) := by
  obtain ⟨n1, n2⟩ := allN p hp
  obtain ⟨_, _, hC, _⟩ := allA p hp
  have hA := set_A hp hn o (n + 1) (.int pk) v (attOf its)
  rw [← mkA_ins hp]
  by_cases h5 : p = 5
  · subst h5
    obtain ⟨hD, i, rfl⟩ := good5 hg
    exact set_ok (f' := attOf its) hpk hA hC hD (set_E (by omega) rfl (fun xs h => se5 i xs h) hl o (n + 1) _) (sf_5 _) n1 n2 nm_eq
  by_cases h22 : p = 22
  · subst h22
    obtain ⟨w, rfl⟩ := good22 hg
    exact set_ok (f' := attOf its) hpk hA hC (sd_22 w) (set_E (by omega) rfl (fun xs h => se22 w xs h) hl o (n + 1) _) (sf_22 _) n1 n2 nm_eq
  · obtain ⟨hD, hE, hF⟩ := svAll p hp h5 h22 hg
    have hm : multi p = false := by
      unfold multi
      cases e : Nat.beq p 5 with
      | true => exact absurd (Nat.eq_of_beq_eq_true e) h5
      | false =>
        cases e2 : Nat.beq p 22 with
        | true => exact absurd (Nat.eq_of_beq_eq_true e2) h22
        | false => rfl
    rw [hm]
    exact set_ok (f' := attOf its) hpk hA hC hD (hE o (n + 1) _ v _) hF n1 n2 nm_eq

/-! refusals -/
theorem set_no1 {p : Nat} (hp : p < 27) {nm : List Nat} (hn : Nm p nm) {v : MV} {pk : Int} {f : Att} (hpk : anyInt pk (whr p) = false) {o : Option Att} {n : Nat} :
    (run TT (n + 42)).ca 262 [.obj (no0 o), .str nm, v] (st0 o (mkA (.int pk) f)) = some (.exc 65, st0 o (mkA (.int pk) f)) := by
  obtain ⟨_, _, hC, hR⟩ := allA p hp
  refine ca_of (fl := .exc 65) set_fn (set_args o nm v) (l' := lS o (nmL p) v) ?_ rfl
  show exs (rx TT (n + 41) setSc) setBody _ _ = _
  rw [set_cut]
  refine exs_app (set_A hp hn o (n + 1) (.int pk) v f) (exs_out ?_ (by intro h; cases h))
  refine ex_if (n := n + 40) (b := true) set_if ?_ (hR o n pk v f)
  rw [hC o n pk v f, hpk]; rfl
def SDx (p : Nat) (v : MV) : Prop := ∀ (o : Option Att) (n : Nat) (pk : MV) (f : Att), rx TT (n + 40) setSc (lS o (nmL p) v) (st0 o (mkA pk f)) (stAt setBody 3) = some (.exc 65, lS o (nmL p) v, st0 o (mkA pk f))
theorem sx_0 : SDx 0 (.int 2) := by intro o n pk f; kernel_rfl
theorem sx_11 : SDx 11 (.int 2) := by intro o n pk f; kernel_rfl
theorem sx_13 : SDx 13 (.int 2) := by intro o n pk f; kernel_rfl
theorem sx_17 : SDx 17 (.int 0) := by intro o n pk f; kernel_rfl
theorem sx_19 : SDx 19 (.int 0) := by intro o n pk f; kernel_rfl
theorem sx_23 : SDx 23 (.int 0) := by intro o n pk f; kernel_rfl
theorem sx_5 : SDx 5 (.int 0) := by intro o n pk f; kernel_rfl
theorem sx_5b : SDx 5 (.int 268435456) := by intro o n pk f; kernel_rfl
theorem set_no2 {p : Nat} (hp : p < 27) {nm : List Nat} (hn : Nm p nm) {v : MV} {pk : Int} {f : Att} (hx : SDx p v) (hpk : anyInt pk (whr p) = true) {o : Option Att} {n : Nat} :
    (run TT (n + 42)).ca 262 [.obj (no0 o), .str nm, v] (st0 o (mkA (.int pk) f)) = some (.exc 65, st0 o (mkA (.int pk) f)) := by
  obtain ⟨_, _, hC, hR⟩ := allA p hp
  refine ca_of (fl := .exc 65) set_fn (set_args o nm v) (l' := lS o (nmL p) v) ?_ rfl
  show exs (rx TT (n + 41) setSc) setBody _ _ = _
  rw [set_cut]
  refine exs_app (set_A hp hn o (n + 1) (.int pk) v f) (exs_nx (l1 := lS o (nmL p) v) (S1 := st0 o (mkA (.int pk) f)) ?_ (exs_out (hx o (n + 1) _ f) (by intro h; cases h)))
  refine ex_if (n := n + 40) (b := false) set_if ?_ rfl
  rw [hC o n pk v f, hpk]; rfl
def badNm (i : Nat) : List Nat := (getL [[80, 114, 111, 112, 101, 114, 116, 121], [], [85, 115, 101, 114, 32, 32, 80, 114, 111, 112, 101, 114, 116]] i).getD []
theorem set_no3_0 {pk : MV} {f : Att} {n : Nat} : (run TT (n + 42)).ca 262 [.obj 0, .str (badNm 0), .int 1] [mkA pk f] = some (.exc 65, [mkA pk f]) := by kernel_rfl
theorem set_no3_1 {pk : MV} {f : Att} {n : Nat} : (run TT (n + 42)).ca 262 [.obj 0, .str (badNm 1), .int 1] [mkA pk f] = some (.exc 65, [mkA pk f]) := by kernel_rfl
theorem set_no3_2 {pk : MV} {f : Att} {n : Nat} : (run TT (n + 42)).ca 262 [.obj 0, .str (badNm 2), .int 1] [mkA pk f] = some (.exc 65, [mkA pk f]) := by kernel_rfl
end Mine
namespace Mine
set_option maxRecDepth 100000
open PySem

def hdr (L : Nat) : List Nat := match Nat.blt L 128 with
  | true => [L]
  | false => [L % 128 + 128, L / 128]
theorem fmod128 (x : Nat) : Int.fmod (.ofNat x) 128 = .ofNat (x % 128) := by
  rw [Int.fmod_eq_emod_of_nonneg _ (by omega)]; rfl
theorem fdiv128 (x : Nat) : Int.fdiv (.ofNat x) 128 = .ofNat (x / 128) := by
  rw [Int.fdiv_eq_ediv_of_nonneg _ (by omega)]; rfl
theorem or128 : ∀ d, d < 128 → d ||| 128 = d + 128 := by decide +kernel
theorem and127 : ∀ d, d < 128 → (d + 128) &&& 127 = d ∧ (d + 128) &&& 128 = 128 ∧ d &&& 127 = d ∧ d &&& 128 = 0 := by decide +kernel

/-! a number to octets -/
def encBody : List Stmt := (mtAt 18 0).body
def encSc : Scope := (mtAt 18 0).scope
def encW : List Stmt := forA (stAt encBody 2)
def lE0 (x : Nat) : Loc := [("x", .int (.ofNat x))]
def lEn (x : Nat) (b : List Nat) : Loc := [("x", .int (.ofNat x)), ("buffer", .bytes b)]
def lEd (x : Nat) (b : List Nat) (d : Nat) : Loc := [("x", .int (.ofNat x)), ("buffer", .bytes b), ("digit", .int (.ofNat d))]
section
variable {S : Sto} {x : Nat} {b : List Nat} {d : Nat}
theorem enc_0 (n : Nat) : rx TT (n + 10) encSc (lEn x b) S (stAt encW 0) = some (.next, lEd x b (x % 128), S) := by
  have H := ex_asgn (T := TT) (n := n + 9) (sc := encSc) (l := lEn x b) (t := stAt encW 0) (S := S) (S1 := S) (v := .int (Int.fmod (.ofNat x) 128)) (by kernel_rfl) (by kernel_rfl) (by kernel_rfl) (by kernel_rfl)
  rw [fmod128] at H
  have e : put (asgX (stAt encW 0)) (.int (.ofNat (x % 128))) (lEn x b) = lEd x b (x % 128) := by kernel_rfl
  rw [e] at H; exact H
theorem enc_1 (n : Nat) : rx TT (n + 10) encSc (lEd x b d) S (stAt encW 1) = some (.next, lEd (x / 128) b d, S) := by
  have H := ex_augI (T := TT) (n := n + 9) (sc := encSc) (l := lEd x b d) (t := stAt encW 1) (S := S) (S1 := S) (a := .int (.ofNat x)) (b := .int 128) (v := .int (Int.fdiv (.ofNat x) 128)) (by kernel_rfl) (by kernel_rfl) (by kernel_rfl) (by kernel_rfl) (by kernel_rfl)
  rw [fdiv128] at H
  have e : put (augX (stAt encW 1)) (.int (.ofNat (x / 128))) (lEd x b d) = lEd (x / 128) b d := by kernel_rfl
  rw [e] at H; exact H
theorem enc_2z (n : Nat) : rx TT (n + 10) encSc (lEd 0 b d) S (stAt encW 2) = some (.next, lEd 0 b d, S) := by kernel_rfl
theorem enc_2s (n : Nat) : rx TT (n + 10) encSc (lEd (x + 1) b d) S (stAt encW 2) = some (.next, lEd (x + 1) b (d ||| 128), S) := by kernel_rfl
theorem enc_3 (n : Nat) (hd : d < 256) (hb : b.length ≤ 1000) : rx TT (n + 10) encSc (lEd x b d) S (stAt encW 3) = some (.next, lEd x (b ++ [d]) d, S) := by
  have hv : (run TT (n + 9)).ev encSc (lEd x b d) S (asE (stAt encW 3)) = valOut (((allByte [.int (.ofNat d)]).map MV.bytes).map fun v => (.val v, S)) := by kernel_rfl
  have H := ex_aug (T := TT) (n := n + 9) (sc := encSc) (l := lEd x b d) (t := stAt encW 3) (S := S) (S1 := S) (b := b) (c := [d]) (by kernel_rfl) (by kernel_rfl) (by kernel_rfl) (hv.trans (bytes_one _ d rfl hd S)) (by simp only [List.length_cons, List.length_nil]; omega)
  have e : put (augX (stAt encW 3)) (.bytes (b ++ [d])) (lEd x b d) = lEd x (b ++ [d]) d := by kernel_rfl
  rw [e] at H; exact H
theorem enc_4z (n : Nat) : rx TT (n + 10) encSc (lEd 0 b d) S (stAt encW 4) = some (.brk, lEd 0 b d, S) := by kernel_rfl
theorem enc_4s (n : Nat) : rx TT (n + 10) encSc (lEd (x + 1) b d) S (stAt encW 4) = some (.next, lEd (x + 1) b d, S) := by kernel_rfl
theorem encW_cut : encW = [stAt encW 0, stAt encW 1, stAt encW 2, stAt encW 3, stAt encW 4] := by kernel_rfl
theorem enc_last (n : Nat) (hx : x < 128) (hb : b.length ≤ 1000) : exs (rx TT (n + 10) encSc) encW (lEn x b) S = some (.brk, lEd 0 (b ++ [x]) x, S) := by
  rw [encW_cut]
  have h0 := enc_0 (S := S) (x := x) (b := b) n
  have h1 := enc_1 (S := S) (x := x) (b := b) (d := x % 128) n
  rw [Nat.mod_eq_of_lt hx] at h0 h1
  rw [Nat.div_eq_of_lt hx] at h1
  exact exs_nx h0 (exs_nx h1 (exs_nx (enc_2z n) (exs_nx (enc_3 n (by omega) hb) (exs_out (enc_4z n) (by intro h; cases h)))))
theorem enc_more (n : Nat) (hx : 128 ≤ x) (hb : b.length ≤ 1000) : exs (rx TT (n + 10) encSc) encW (lEn x b) S = some (.next, lEd (x / 128) (b ++ [x % 128 + 128]) (x % 128 + 128), S) := by
  rw [encW_cut]
  have hd : x % 128 < 128 := Nat.mod_lt _ (by omega)
  obtain ⟨q, hq⟩ : ∃ q, x / 128 = q + 1 := ⟨x / 128 - 1, by have := Nat.div_le_div_right (c := 128) hx; omega⟩
  have h1 := enc_1 (S := S) (x := x) (b := b) (d := x % 128) n
  have h2 := enc_2s (S := S) (x := q) (b := b) (d := x % 128) n
  rw [hq] at h1
  rw [or128 _ hd] at h2
  rw [hq]
  exact exs_nx (enc_0 n) (exs_nx h1 (exs_nx h2 (exs_nx (enc_3 n (by omega) hb) (exs_nx (enc_4s n) rfl))))
theorem enc_cond (n : Nat) : (run TT (n + 10)).tr encSc (lEn x b) S (whC (stAt encBody 2)) = some (true, S) := by kernel_rfl
theorem enc_restr {x' : Nat} {b' : List Nat} : restr (lEn x b) (lEd x' b' d) = lEn x' b' := by kernel_rfl
theorem enc_wh1 (n : Nat) (hx : x < 128) (hb : b.length ≤ 1000) : (run TT (n + 11)).wh encSc (whC (stAt encBody 2)) (forA (stAt encBody 2)) (lEn x b) S = some (.next, lEd 0 (b ++ [x]) x, S) :=
  wh_brk (n := n + 10) (enc_cond n) (enc_last n hx hb)
theorem enc_wh2 (n : Nat) (hx : x < 16384) : ∃ d, (run TT (n + 12)).wh encSc (whC (stAt encBody 2)) (forA (stAt encBody 2)) (lEn x []) S = some (.next, lEd 0 (hdr x) d, S) := by
  unfold hdr
  cases e : Nat.blt x 128 with
  | true =>
    have h := Nat.blt_eq.mp e
    exact ⟨x, enc_wh1 (n + 1) h (Nat.zero_le _)⟩
  | false =>
    have h : 128 ≤ x := by
      rcases Nat.lt_or_ge x 128 with h | h
      · rw [Nat.blt_eq.mpr h] at e; cases e
      · exact h
    have hq : x / 128 < 128 := by omega
    refine ⟨x / 128, wh_next (n := n + 11) (enc_cond (n + 1)) (enc_more (n + 1) h (Nat.zero_le _)) ?_⟩
    rw [enc_restr]
    exact enc_wh1 n hq (Nat.le_succ_of_le (Nat.le_succ_of_le (by simp)))
end
theorem enc_if (L : Nat) (n : Nat) (S : Sto) : (run TT (n + 10)).tr encSc (lE0 L) S (ifT (stAt encBody 0)) = some (!ile (.ofNat L) 268435455, S) := by kernel_rfl
theorem enc_ret (x : Nat) (b : List Nat) (d : Nat) (n : Nat) (S : Sto) : rx TT (n + 10) encSc (lEd x b d) S (stAt encBody 3) = some (.ret (.bytes b), lEd x b d, S) := by kernel_rfl
theorem enc_asg (x : Nat) (n : Nat) (S : Sto) : rx TT (n + 10) encSc (lE0 x) S (stAt encBody 1) = some (.next, lEn x [], S) := by kernel_rfl
theorem enc_cut : encBody = [stAt encBody 0, stAt encBody 1, stAt encBody 2, stAt encBody 3] := by kernel_rfl
def EncP (L : Nat) : Prop := ∀ (n : Nat) (S : Sto), (run TT (n + 20)).ca 150 [.int (.ofNat L)] S = some (.val (.bytes (hdr L)), S)
theorem enc_all (L : Nat) (hL : L < 16384) : EncP L := by
  intro n S
  obtain ⟨d, hw⟩ := enc_wh2 (S := S) (x := L) (n + 6) hL
  refine ca_of (n := n + 19) (fn := mtAt 18 0) (l := lE0 L) (fl := .ret (.bytes (hdr L))) (l' := lEd 0 (hdr L) d) (by kernel_rfl) (by kernel_rfl) ?_ rfl
  show exs (rx TT (n + 19) encSc) encBody _ _ = _
  rw [enc_cut]
  have hi := enc_if L (n + 8) S
  have hle : ile (.ofNat L) 268435455 = true := (PySem.W.Z.leB_iff _ _).mpr (by simp only [Int.ofNat_eq_natCast]; omega)
  rw [hle] at hi
  have hB : ifB (stAt encBody 0) = [] := by kernel_rfl
  refine exs_nx (l1 := lE0 L) (S1 := S) (ex_if (n := n + 18) (by kernel_rfl) hi ?_) (exs_nx (enc_asg L (n + 9) S) (exs_nx (ex_wh (n := n + 18) (by kernel_rfl) hw) (exs_out (enc_ret 0 (hdr L) d (n + 9) S) (by intro h; cases h))))
  show exs _ (ifB (stAt encBody 0)) _ _ = _
  rw [hB]; rfl

/-! and back -/
def decBody : List Stmt := (mtAt 18 1).body
def decSc : Scope := (mtAt 18 1).scope
def decW : List Stmt := forA (stAt decBody 3)
def lDn (b : List Nat) (m v c : Nat) : Loc := [("buffer", .bytes b), ("multiplier", .int (.ofNat m)), ("value", .int (.ofNat v)), ("count", .int (.ofNat c))]
def lDd (b : List Nat) (m v c d : Nat) : Loc := [("buffer", .bytes b), ("multiplier", .int (.ofNat m)), ("value", .int (.ofNat v)), ("count", .int (.ofNat c)), ("digit", .int (.ofNat d))]
section
variable {S : Sto} {x : Nat} {r : List Nat} {v m c d : Nat}
theorem dec_a1 (n : Nat) : exs (rx TT (n + 10) decSc) (decW.take 5) (lDn (x :: r) 1 0 0) S = some (.next, lDd r 1 0 1 x, S) := by kernel_rfl
theorem dec_a2 (n : Nat) : exs (rx TT (n + 10) decSc) (decW.take 5) (lDn (x :: r) 128 v 1) S = some (.next, lDd r 128 v 2 x, S) := by kernel_rfl
theorem mul_nat {a b : Nat} (ha : a ≤ 1000) (hb : b ≤ 1000) : binop .Mult (.int (.ofNat a)) (.int (.ofNat b)) = some (.int (.ofNat (a * b))) := by
  have h1 : ∀ k : Nat, k ≤ 1000 → ile (-1152921504606846976) (.ofNat k) = true ∧ ile (.ofNat k) 1152921504606846976 = true := fun k hk =>
    ⟨(PySem.W.Z.leB_iff _ _).mpr (by simp only [Int.ofNat_eq_natCast]; omega), (PySem.W.Z.leB_iff _ _).mpr (by simp only [Int.ofNat_eq_natCast]; omega)⟩
  show (match ile (-1152921504606846976) (.ofNat a) && ile (.ofNat a) 1152921504606846976 && ile (-1152921504606846976) (.ofNat b) && ile (.ofNat b) 1152921504606846976 with
    | true => some (MV.int (Int.ofNat a * Int.ofNat b))
    | false => none) = _
  rw [(h1 a ha).1, (h1 a ha).2, (h1 b hb).1, (h1 b hb).2]
  rfl
theorem dec_5 (n : Nat) (hx : x &&& 127 ≤ 1000) (hm : m ≤ 1000) : rx TT (n + 10) decSc (lDd r m v c x) S (stAt decW 5) = some (.next, lDd r m (v + (x &&& 127) * m) c x, S) := by
  have H := ex_augI (T := TT) (n := n + 9) (sc := decSc) (l := lDd r m v c x) (t := stAt decW 5) (S := S) (S1 := S) (a := .int (.ofNat v)) (b := .int (.ofNat ((x &&& 127) * m))) (v := .int (.ofNat (v + (x &&& 127) * m))) (by kernel_rfl) (by kernel_rfl) (by kernel_rfl) ?_ (by kernel_rfl)
  · have e : put (augX (stAt decW 5)) (.int (.ofNat (v + (x &&& 127) * m))) (lDd r m v c x) = lDd r m (v + (x &&& 127) * m) c x := by kernel_rfl
    rw [e] at H; exact H
  · exact ev_bin (n := n + 8) (a := .int (.ofNat (x &&& 127))) (b := .int (.ofNat m)) (S1 := S) (by kernel_rfl) (by kernel_rfl) (by kernel_rfl) (mul_nat hx hm)
theorem dec_6 (n : Nat) : (run TT (n + 10)).tr decSc (lDd r m v c x) S (ifT (stAt decW 6)) = some (ibeq (.ofNat (x &&& 128)) 0, S) := by kernel_rfl
theorem dec_7 (n : Nat) : rx TT (n + 10) decSc (lDd r 1 v c x) S (stAt decW 7) = some (.next, lDd r 128 v c x, S) := by kernel_rfl
theorem decW_cut : decW = decW.take 5 ++ [stAt decW 5, stAt decW 6, stAt decW 7] := by kernel_rfl
theorem dec_brk : ifA (stAt decW 6) = [stAt (ifA (stAt decW 6)) 0] ∧ ifB (stAt decW 6) = [] := by constructor <;> kernel_rfl
theorem dec_end {l : Loc} (n : Nat) : exs (rx TT (n + 10) decSc) (ifA (stAt decW 6)) l S = some (.brk, l, S) := by kernel_rfl
theorem dec_last1 (n : Nat) (hx : x < 128) : exs (rx TT (n + 11) decSc) decW (lDn (x :: r) 1 0 0) S = some (.brk, lDd r 1 x 1 x, S) := by
  obtain ⟨_, _, h3, h4⟩ := and127 x hx
  rw [decW_cut]
  have h5 := dec_5 (S := S) (r := r) (x := x) (m := 1) (v := 0) (c := 1) (n + 1) (by omega) (by omega)
  rw [h3, Nat.mul_one, Nat.zero_add] at h5
  have h6 := dec_6 (S := S) (r := r) (x := x) (m := 1) (v := x) (c := 1) n
  rw [h4] at h6
  exact exs_app (dec_a1 (n + 1)) (exs_nx h5 (exs_out (ex_if (n := n + 10) (by kernel_rfl) h6 (dec_end n)) (by intro h; cases h)))
theorem dec_last2 (n : Nat) (hx : x < 128) : exs (rx TT (n + 11) decSc) decW (lDn (x :: r) 128 v 1) S = some (.brk, lDd r 128 (v + x * 128) 2 x, S) := by
  obtain ⟨_, _, h3, h4⟩ := and127 x hx
  rw [decW_cut]
  have h5 := dec_5 (S := S) (r := r) (x := x) (m := 128) (v := v) (c := 2) (n + 1) (by omega) (by omega)
  rw [h3] at h5
  have h6 := dec_6 (S := S) (r := r) (x := x) (m := 128) (v := v + x * 128) (c := 2) n
  rw [h4] at h6
  exact exs_app (dec_a2 (n + 1)) (exs_nx h5 (exs_out (ex_if (n := n + 10) (by kernel_rfl) h6 (dec_end n)) (by intro h; cases h)))
theorem dec_more (n : Nat) (hd : d < 128) : exs (rx TT (n + 11) decSc) decW (lDn ((d + 128) :: r) 1 0 0) S = some (.next, lDd r 128 d 1 (d + 128), S) := by
  obtain ⟨h1, h2, _, _⟩ := and127 d hd
  rw [decW_cut]
  have h5 := dec_5 (S := S) (r := r) (x := d + 128) (m := 1) (v := 0) (c := 1) (n + 1) (by omega) (by omega)
  rw [h1, Nat.mul_one, Nat.zero_add] at h5
  have h6 := dec_6 (S := S) (r := r) (x := d + 128) (m := 1) (v := d) (c := 1) n
  rw [h2] at h6
  refine exs_app (dec_a1 (n + 1)) (exs_nx h5 (exs_nx (l1 := lDd r 1 d 1 (d + 128)) (S1 := S) (ex_if (n := n + 10) (by kernel_rfl) h6 ?_) (exs_nx (dec_7 (n + 1)) rfl)))
  show exs _ (ifB (stAt decW 6)) _ _ = _
  rw [dec_brk.2]; rfl
theorem dec_cond {b : List Nat} (n : Nat) : (run TT (n + 10)).tr decSc (lDn b m v c) S (whC (stAt decBody 3)) = some (true, S) := by kernel_rfl
theorem dec_restr {b b' : List Nat} {m' v' c' : Nat} : restr (lDn b m v c) (lDd b' m' v' c' d) = lDn b' m' v' c' := by kernel_rfl
theorem dec_wh (n : Nat) (hx : x < 16384) : ∃ b m d, (run TT (n + 13)).wh decSc (whC (stAt decBody 3)) (forA (stAt decBody 3)) (lDn (hdr x ++ r) 1 0 0) S = some (.next, lDd b m x (hdr x).length d, S) := by
  unfold hdr
  cases e : Nat.blt x 128 with
  | true =>
    have h := Nat.blt_eq.mp e
    exact ⟨r, 1, x, wh_brk (n := n + 12) (dec_cond (n + 2)) (dec_last1 (n + 1) h)⟩
  | false =>
    have h : 128 ≤ x := by
      rcases Nat.lt_or_ge x 128 with h | h
      · rw [Nat.blt_eq.mpr h] at e; cases e
      · exact h
    have hq : x / 128 < 128 := by omega
    have hd : x % 128 < 128 := Nat.mod_lt _ (by omega)
    have h2 := dec_last2 (S := S) (r := r) (v := x % 128) n hq
    have ev : x % 128 + x / 128 * 128 = x := by omega
    rw [ev] at h2
    refine ⟨r, 128, x / 128, wh_next (n := n + 12) (dec_cond (n + 2)) (dec_more (r := x / 128 :: r) (n + 1) hd) ?_⟩
    rw [dec_restr]
    exact wh_brk (n := n + 11) (dec_cond (n + 1)) h2
end
def DecP (L : Nat) : Prop := ∀ (n : Nat) (S : Sto) (r : List Nat), (run TT (n + 20)).ca 160 [.bytes (hdr L ++ r)] S = some (.val (.tup [.int (.ofNat L), .int (.ofNat (hdr L).length)]), S)
theorem dec_ret (b : List Nat) (m v c d : Nat) (n : Nat) (S : Sto) : rx TT (n + 10) decSc (lDd b m v c d) S (stAt decBody 4) = some (.ret (.tup [.int (.ofNat v), .int (.ofNat c)]), lDd b m v c d, S) := by kernel_rfl
theorem dec_asg (b : List Nat) (n : Nat) (S : Sto) : exs (rx TT (n + 10) decSc) (decBody.take 3) [("buffer", .bytes b)] S = some (.next, lDn b 1 0 0, S) := by kernel_rfl
theorem dec_cut : decBody = decBody.take 3 ++ [stAt decBody 3, stAt decBody 4] := by kernel_rfl
theorem dec_all (L : Nat) (hL : L < 16384) : DecP L := by
  intro n S r
  obtain ⟨b, m, d, hw⟩ := dec_wh (S := S) (r := r) (x := L) (n + 5) hL
  refine ca_of (n := n + 19) (fn := mtAt 18 1) (l := [("buffer", .bytes (hdr L ++ r))]) (fl := .ret (.tup [.int (.ofNat L), .int (.ofNat (hdr L).length)])) (l' := lDd b m L (hdr L).length d) (by kernel_rfl) (by kernel_rfl) ?_ rfl
  show exs (rx TT (n + 19) decSc) decBody _ _ = _
  rw [dec_cut]
  exact exs_app (dec_asg _ (n + 9) S) (exs_nx (ex_wh (n := n + 18) (by kernel_rfl) hw) (exs_out (dec_ret b m L _ d (n + 9) S) (by intro h; cases h)))
end Mine
namespace Mine
set_option maxRecDepth 100000
open PySem
def wpBody : List Stmt := (mtAt 19 8).body
def wpSc : Scope := (mtAt 19 8).scope
def lW0 (o : Option Att) (d ty : Nat) (v : MV) : Loc := [("self", .obj (no0 o)), ("identifier", .int (.ofNat d)), ("attr_type", .int (.ofNat ty)), ("value", v)]
def lW (o : Option Att) (d ty : Nat) (v : MV) (b : List Nat) : Loc := [("self", .obj (no0 o)), ("identifier", .int (.ofNat d)), ("attr_type", .int (.ofNat ty)), ("value", v), ("buffer", .bytes b)]
def WQ (k : Nat) (v : MV) (c : List Nat) : Prop := ∀ (n : Nat) (pk : MV) (f : Att) (o : Option Att) (d : Nat), rx TT (n + 38) wpSc (lW o d (tyOf k) v [d]) (st0 o (mkA pk f)) (stAt wpBody 2) = some (.next, lW o d (tyOf k) v (d :: c), st0 o (mkA pk f))
def WP (p : Nat) (v : MV) (b : List Nat) : Prop := ∀ (n : Nat) (pk : MV) (f : Att) (o : Option Att), (run TT (n + 40)).ca 276 [.obj (no0 o), .int (.ofNat (idn p)), .int (.ofNat (tyOf (kd p))), v] (st0 o (mkA pk f)) = some (.val (.bytes (idn p :: b)), st0 o (mkA pk f))
theorem wq_0_0 : WQ 0 (dm 0 0).1 (dm 0 0).2 := by intro n pk f o d; cases o with | none => kernel_rfl | some b => kernel_rfl
theorem wq_0_1 : WQ 0 (dm 0 1).1 (dm 0 1).2 := by intro n pk f o d; cases o with | none => kernel_rfl | some b => kernel_rfl
theorem wq_0 : ∀ x ∈ domK 0, WQ 0 x.1 x.2 := by
  simp only [domK, List.forall_mem_cons]
  exact ⟨wq_0_0, wq_0_1, fun _ h => nomatch h⟩
theorem wq_1_0 : WQ 1 (dm 1 0).1 (dm 1 0).2 := by intro n pk f o d; cases o with | none => kernel_rfl | some b => kernel_rfl
theorem wq_1_1 : WQ 1 (dm 1 1).1 (dm 1 1).2 := by intro n pk f o d; cases o with | none => kernel_rfl | some b => kernel_rfl
theorem wq_1 : ∀ x ∈ domK 1, WQ 1 x.1 x.2 := by
  simp only [domK, List.forall_mem_cons]
  exact ⟨wq_1_0, wq_1_1, fun _ h => nomatch h⟩
theorem wq_2_0 : WQ 2 (dm 2 0).1 (dm 2 0).2 := by intro n pk f o d; cases o with | none => kernel_rfl | some b => kernel_rfl
theorem wq_2_1 : WQ 2 (dm 2 1).1 (dm 2 1).2 := by intro n pk f o d; cases o with | none => kernel_rfl | some b => kernel_rfl
theorem wq_2_2 : WQ 2 (dm 2 2).1 (dm 2 2).2 := by intro n pk f o d; cases o with | none => kernel_rfl | some b => kernel_rfl
theorem wq_2_3 : WQ 2 (dm 2 3).1 (dm 2 3).2 := by intro n pk f o d; cases o with | none => kernel_rfl | some b => kernel_rfl
theorem wq_2 : ∀ x ∈ domK 2, WQ 2 x.1 x.2 := by
  simp only [domK, List.forall_mem_cons]
  exact ⟨wq_2_0, wq_2_1, wq_2_2, wq_2_3, fun _ h => nomatch h⟩
theorem wq_3_0 : WQ 3 (dm 3 0).1 (dm 3 0).2 := by intro n pk f o d; cases o with | none => kernel_rfl | some b => kernel_rfl
theorem wq_3_1 : WQ 3 (dm 3 1).1 (dm 3 1).2 := by intro n pk f o d; cases o with | none => kernel_rfl | some b => kernel_rfl
theorem wq_3_2 : WQ 3 (dm 3 2).1 (dm 3 2).2 := by intro n pk f o d; cases o with | none => kernel_rfl | some b => kernel_rfl
theorem wq_3 : ∀ x ∈ domK 3, WQ 3 x.1 x.2 := by
  simp only [domK, List.forall_mem_cons]
  exact ⟨wq_3_0, wq_3_1, wq_3_2, fun _ h => nomatch h⟩
theorem wq_4_0 : WQ 4 (dm 4 0).1 (dm 4 0).2 := by intro n pk f o d; cases o with | none => kernel_rfl | some b => kernel_rfl
theorem wq_4_1 : WQ 4 (dm 4 1).1 (dm 4 1).2 := by intro n pk f o d; cases o with | none => kernel_rfl | some b => kernel_rfl
theorem wq_4_2 : WQ 4 (dm 4 2).1 (dm 4 2).2 := by intro n pk f o d; cases o with | none => kernel_rfl | some b => kernel_rfl
theorem wq_4_3 : WQ 4 (dm 4 3).1 (dm 4 3).2 := by intro n pk f o d; cases o with | none => kernel_rfl | some b => kernel_rfl
theorem wq_4 : ∀ x ∈ domK 4, WQ 4 x.1 x.2 := by
  simp only [domK, List.forall_mem_cons]
  exact ⟨wq_4_0, wq_4_1, wq_4_2, wq_4_3, fun _ h => nomatch h⟩
theorem wq_5_0 : WQ 5 (dm 5 0).1 (dm 5 0).2 := by intro n pk f o d; cases o with | none => kernel_rfl | some b => kernel_rfl
theorem wq_5_1 : WQ 5 (dm 5 1).1 (dm 5 1).2 := by intro n pk f o d; cases o with | none => kernel_rfl | some b => kernel_rfl
theorem wq_5_2 : WQ 5 (dm 5 2).1 (dm 5 2).2 := by intro n pk f o d; cases o with | none => kernel_rfl | some b => kernel_rfl
theorem wq_5 : ∀ x ∈ domK 5, WQ 5 x.1 x.2 := by
  simp only [domK, List.forall_mem_cons]
  exact ⟨wq_5_0, wq_5_1, wq_5_2, fun _ h => nomatch h⟩
theorem wq_6_0 : WQ 6 (dm 6 0).1 (dm 6 0).2 := by intro n pk f o d; cases o with | none => kernel_rfl | some b => kernel_rfl
theorem wq_6_1 : WQ 6 (dm 6 1).1 (dm 6 1).2 := by intro n pk f o d; cases o with | none => kernel_rfl | some b => kernel_rfl
theorem wq_6_2 : WQ 6 (dm 6 2).1 (dm 6 2).2 := by intro n pk f o d; cases o with | none => kernel_rfl | some b => kernel_rfl
theorem wq_6_3 : WQ 6 (dm 6 3).1 (dm 6 3).2 := by intro n pk f o d; cases o with | none => kernel_rfl | some b => kernel_rfl
theorem wq_6_4 : WQ 6 (dm 6 4).1 (dm 6 4).2 := by intro n pk f o d; cases o with | none => kernel_rfl | some b => kernel_rfl
theorem wq_6 : ∀ x ∈ domK 6, WQ 6 x.1 x.2 := by
  simp only [domK, List.forall_mem_cons]
  exact ⟨wq_6_0, wq_6_1, wq_6_2, wq_6_3, wq_6_4, fun _ h => nomatch h⟩
theorem wq_7_0 (r : Nat) : WQ 7 (octV 0 r).1 (octV 0 r).2 := by intro n pk f o d; cases o with | none => kernel_rfl | some b => kernel_rfl
theorem wq_7_1 (r : Nat) : WQ 7 (octV 1 r).1 (octV 1 r).2 := by intro n pk f o d; cases o with | none => kernel_rfl | some b => kernel_rfl
theorem wq_7_130 (r : Nat) : WQ 7 (octV 130 r).1 (octV 130 r).2 := by intro n pk f o d; cases o with | none => kernel_rfl | some b => kernel_rfl
theorem wq_8_0 : WQ 8 (dm 8 0).1 (dm 8 0).2 := by intro n pk f o d; cases o with | none => kernel_rfl | some b => kernel_rfl
theorem wq_8_1 : WQ 8 (dm 8 1).1 (dm 8 1).2 := by intro n pk f o d; cases o with | none => kernel_rfl | some b => kernel_rfl
theorem wq_8_2 : WQ 8 (dm 8 2).1 (dm 8 2).2 := by intro n pk f o d; cases o with | none => kernel_rfl | some b => kernel_rfl
theorem wq_8_3 : WQ 8 (dm 8 3).1 (dm 8 3).2 := by intro n pk f o d; cases o with | none => kernel_rfl | some b => kernel_rfl
theorem wq_8 : ∀ x ∈ domK 8, WQ 8 x.1 x.2 := by
  simp only [domK, List.forall_mem_cons]
  exact ⟨wq_8_0, wq_8_1, wq_8_2, wq_8_3, fun _ h => nomatch h⟩
theorem wq_9_0 : WQ 9 (dm 9 0).1 (dm 9 0).2 := by intro n pk f o d; cases o with | none => kernel_rfl | some b => kernel_rfl
theorem wq_9_1 : WQ 9 (dm 9 1).1 (dm 9 1).2 := by intro n pk f o d; cases o with | none => kernel_rfl | some b => kernel_rfl
theorem wq_9_2 : WQ 9 (dm 9 2).1 (dm 9 2).2 := by intro n pk f o d; cases o with | none => kernel_rfl | some b => kernel_rfl
theorem wq_9_3 : WQ 9 (dm 9 3).1 (dm 9 3).2 := by intro n pk f o d; cases o with | none => kernel_rfl | some b => kernel_rfl
theorem wq_9_4 : WQ 9 (dm 9 4).1 (dm 9 4).2 := by intro n pk f o d; cases o with | none => kernel_rfl | some b => kernel_rfl
theorem wq_9_5 : WQ 9 (dm 9 5).1 (dm 9 5).2 := by intro n pk f o d; cases o with | none => kernel_rfl | some b => kernel_rfl
theorem wq_9_6 : WQ 9 (dm 9 6).1 (dm 9 6).2 := by intro n pk f o d; cases o with | none => kernel_rfl | some b => kernel_rfl
theorem wq_9_7 : WQ 9 (dm 9 7).1 (dm 9 7).2 := by intro n pk f o d; cases o with | none => kernel_rfl | some b => kernel_rfl
theorem wq_9_8 : WQ 9 (dm 9 8).1 (dm 9 8).2 := by intro n pk f o d; cases o with | none => kernel_rfl | some b => kernel_rfl
theorem wq_9_9 : WQ 9 (dm 9 9).1 (dm 9 9).2 := by intro n pk f o d; cases o with | none => kernel_rfl | some b => kernel_rfl
theorem wq_9_10 : WQ 9 (dm 9 10).1 (dm 9 10).2 := by intro n pk f o d; cases o with | none => kernel_rfl | some b => kernel_rfl
theorem wq_9_11 : WQ 9 (dm 9 11).1 (dm 9 11).2 := by intro n pk f o d; cases o with | none => kernel_rfl | some b => kernel_rfl
theorem wq_9_12 : WQ 9 (dm 9 12).1 (dm 9 12).2 := by intro n pk f o d; cases o with | none => kernel_rfl | some b => kernel_rfl
theorem wq_9_13 : WQ 9 (dm 9 13).1 (dm 9 13).2 := by intro n pk f o d; cases o with | none => kernel_rfl | some b => kernel_rfl
theorem wq_9_14 : WQ 9 (dm 9 14).1 (dm 9 14).2 := by intro n pk f o d; cases o with | none => kernel_rfl | some b => kernel_rfl
theorem wq_9_15 : WQ 9 (dm 9 15).1 (dm 9 15).2 := by intro n pk f o d; cases o with | none => kernel_rfl | some b => kernel_rfl
theorem wq_9 : ∀ x ∈ domK 9, WQ 9 x.1 x.2 := by
  simp only [domK, List.forall_mem_cons]
  exact ⟨wq_9_0, wq_9_1, wq_9_2, wq_9_3, wq_9_4, wq_9_5, wq_9_6, wq_9_7, wq_9_8, wq_9_9, wq_9_10, wq_9_11, wq_9_12, wq_9_13, wq_9_14, wq_9_15, fun _ h => nomatch h⟩
theorem wqAll : ∀ k, k < 10 → k ≠ 7 → ∀ x ∈ domK k, WQ k x.1 x.2
  | 0, _, _ => wq_0
  | 1, _, _ => wq_1
  | 2, _, _ => wq_2
  | 3, _, _ => wq_3
  | 4, _, _ => wq_4
  | 5, _, _ => wq_5
  | 6, _, _ => wq_6
  | 7, _, h => absurd rfl h
  | 8, _, _ => wq_8
  | 9, _, _ => wq_9
  | n + 10, h, _ => absurd h (by omega)
theorem kd_lt : ∀ p, p < 27 → kd p < 10 := by decide +kernel
theorem wqGood {p : Nat} {v : MV} {c : List Nat} (hp : p < 27) (h : Good p v c) : WQ (kd p) v c := by
  have hk := kd_lt p hp
  unfold Good at h
  split at h
  · rename_i e
    rw [e]
    obtain ⟨j, r, hj, _, rfl, rfl⟩ := h
    rcases hj with rfl | rfl | rfl
    · exact wq_7_0 r
    · exact wq_7_1 r
    · exact wq_7_130 r
  · rename_i ne
    exact wqAll _ hk ne (v, c) h
theorem wp_cut : wpBody = [stAt wpBody 0, stAt wpBody 1, stAt wpBody 2, stAt wpBody 3] := by kernel_rfl
theorem wp_0 (o : Option Att) (d ty : Nat) (v : MV) (S : Sto) (n : Nat) : rx TT (n + 20) wpSc (lW0 o d ty v) S (stAt wpBody 0) = some (.next, lW o d ty v [], S) := by kernel_rfl
theorem wp_1 (o : Option Att) (d ty : Nat) (v : MV) (S : Sto) (n : Nat) (hd : d < 128) : rx TT (n + 22) wpSc (lW o d ty v []) S (stAt wpBody 1) = some (.next, lW o d ty v [d], S) := by
  have H := ex_aug (T := TT) (n := n + 21) (sc := wpSc) (l := lW o d ty v []) (t := stAt wpBody 1) (S := S) (S1 := S) (b := []) (c := [d]) (by kernel_rfl) (by kernel_rfl) (by kernel_rfl) ?_ (by simp)
  · have e : put (augX (stAt wpBody 1)) (.bytes ([] ++ [d])) (lW o d ty v []) = lW o d ty v [d] := by kernel_rfl
    rw [e] at H; exact H
  · refine ev_meth (n := n + 20) (by kernel_rfl) ?_
    rw [evCall_smeth (a := 166) (f := 150) (T := TT) (tb := [("encode_number", 150), ("decode_number", 160)]) (vs := [.int (.ofNat d)]) (S1 := S) (by kernel_rfl) (by kernel_rfl) (by kernel_rfl) (by kernel_rfl) (by kernel_rfl)]
    have h := enc_all d (by omega) n S
    have e : hdr d = [d] := by unfold hdr; rw [show Nat.blt d 128 = true from Nat.blt_eq.mpr hd]
    rw [e] at h; exact h
theorem wp_3 (o : Option Att) (d ty : Nat) (v : MV) (b : List Nat) (S : Sto) (n : Nat) : rx TT (n + 20) wpSc (lW o d ty v b) S (stAt wpBody 3) = some (.ret (.bytes b), lW o d ty v b, S) := by kernel_rfl
theorem idn_small : ∀ p, p < 27 → idn p < 128 := by decide +kernel
theorem wvAll {v : MV} {b : List Nat} (p : Nat) (hp : p < 27) (h : Good p v b) : WP p v b := by
  intro n pk f o
  refine ca_of (n := n + 39) (fn := mtAt 19 8) (l := lW0 o (idn p) (tyOf (kd p)) v) (fl := .ret (.bytes (idn p :: b))) (l' := lW o (idn p) (tyOf (kd p)) v (idn p :: b)) (by kernel_rfl) (by kernel_rfl) ?_ rfl
  show exs (rx TT (n + 39) wpSc) wpBody _ _ = _
  rw [wp_cut]
  exact exs_nx (wp_0 o _ _ v _ (n + 19)) (exs_nx (wp_1 o _ _ v _ (n + 17) (idn_small p hp)) (exs_nx (wqGood hp h (n + 1) pk f o (idn p)) (exs_out (wp_3 o _ _ v _ _ (n + 19)) (by intro h; cases h))))
end Mine
namespace Mine
set_option maxRecDepth 100000
open PySem
def packBody : List Stmt := (mtAt 19 9).body
def packSc : Scope := (mtAt 19 9).scope
def packT : List Stmt := forA (stAt packBody 1)
def packI : List Stmt := ifA (stAt packT 1)
def packW : Stmt := stAt (ifB (stAt packI 2)) 0
def packM : Stmt := stAt (ifA (stAt packI 2)) 0
def lP (o : Option Att) (b : List Nat) : Loc := [("self", .obj (no0 o)), ("buffer", .bytes b)]
def lP0 (o : Option Att) (b : List Nat) (p : Nat) : Loc := [("self", .obj (no0 o)), ("buffer", .bytes b), ("name", .str (nmF p))]
def lP1 (o : Option Att) (b : List Nat) (p : Nat) : Loc := [("self", .obj (no0 o)), ("buffer", .bytes b), ("name", .str (nmF p)), ("compressedName", .str (nmL p))]
def lP2 (o : Option Att) (b : List Nat) (p : Nat) : Loc := [("self", .obj (no0 o)), ("buffer", .bytes b), ("name", .str (nmF p)), ("compressedName", .str (nmL p)), ("identifier", .int (.ofNat (idn p))), ("attr_type", .int (.ofNat (tyOf (kd p))))]
def lP3 (o : Option Att) (b : List Nat) (p : Nat) (v : MV) : Loc := [("self", .obj (no0 o)), ("buffer", .bytes b), ("name", .str (nmF p)), ("compressedName", .str (nmL p)), ("identifier", .int (.ofNat (idn p))), ("attr_type", .int (.ofNat (tyOf (kd p)))), ("prop", v)]
def PA (p : Nat) : Prop := ∀ (o : Option Att) (n : Nat) (b : List Nat) (S : Sto), rx TT (n + 40) packSc (lP0 o b p) S (stAt packT 0) = some (.next, lP1 o b p, S)
def PN (p : Nat) : Prop := ∀ (o : Option Att) (n : Nat) (b : List Nat) (pk : MV) (f : Att), (run TT (n + 40)).tr packSc (lP1 o b p) (st0 o (mkA pk (noF f (nmS p)))) (ifT (stAt packT 1)) = some (false, st0 o (mkA pk (noF f (nmS p))))
def PY (p : Nat) : Prop := ∀ (o : Option Att) (n : Nat) (b : List Nat) (pk : MV) (f : Att) (v : MV), (run TT (n + 40)).tr packSc (lP1 o b p) (st0 o (mkA pk (updA f (nmS p) v))) (ifT (stAt packT 1)) = some (true, st0 o (mkA pk (updA f (nmS p) v)))
def PB (p : Nat) : Prop := ∀ (o : Option Att) (n : Nat) (b : List Nat) (pk : MV) (f : Att), exs (rx TT (n + 40) packSc) (packI.take 2) (lP1 o b p) (st0 o (mkA pk f)) = some (.next, lP2 o b p, st0 o (mkA pk f))
def PC (p : Nat) : Prop := ∀ (o : Option Att) (n : Nat) (b : List Nat) (pk : MV) (f : Att), (run TT (n + 40)).tr packSc (lP2 o b p) (st0 o (mkA pk f)) (ifT (stAt packI 2)) = some (multi p, st0 o (mkA pk f))
def PE (p : Nat) : Prop := ∀ (o : Option Att) (n : Nat) (b : List Nat) (pk : MV) (f : Att) (v : MV), evs ((run TT (n + 40)).ev packSc (lP2 o b p)) (mA (asE packW)) (st0 o (mkA pk (updA f (nmS p) v))) = some ([.int (.ofNat (idn p)), .int (.ofNat (tyOf (kd p))), v], st0 o (mkA pk (updA f (nmS p) v)))
theorem PA_0 : PA 0 := by intro o n b S; kernel_rfl
theorem PA_1 : PA 1 := by intro o n b S; kernel_rfl
theorem PA_2 : PA 2 := by intro o n b S; kernel_rfl
theorem PA_3 : PA 3 := by intro o n b S; kernel_rfl
theorem PA_4 : PA 4 := by intro o n b S; kernel_rfl
theorem PA_5 : PA 5 := by intro o n b S; kernel_rfl
theorem PA_6 : PA 6 := by intro o n b S; kernel_rfl
theorem PA_7 : PA 7 := by intro o n b S; kernel_rfl
theorem PA_8 : PA 8 := by intro o n b S; kernel_rfl
theorem PA_9 : PA 9 := by intro o n b S; kernel_rfl
theorem PA_10 : PA 10 := by intro o n b S; kernel_rfl
theorem PA_11 : PA 11 := by intro o n b S; kernel_rfl
theorem PA_12 : PA 12 := by intro o n b S; kernel_rfl
theorem PA_13 : PA 13 := by intro o n b S; kernel_rfl
theorem PA_14 : PA 14 := by intro o n b S; kernel_rfl
theorem PA_15 : PA 15 := by intro o n b S; kernel_rfl
theorem PA_16 : PA 16 := by intro o n b S; kernel_rfl
theorem PA_17 : PA 17 := by intro o n b S; kernel_rfl
theorem PA_18 : PA 18 := by intro o n b S; kernel_rfl
theorem PA_19 : PA 19 := by intro o n b S; kernel_rfl
theorem PA_20 : PA 20 := by intro o n b S; kernel_rfl
theorem PA_21 : PA 21 := by intro o n b S; kernel_rfl
theorem PA_22 : PA 22 := by intro o n b S; kernel_rfl
theorem PA_23 : PA 23 := by intro o n b S; kernel_rfl
theorem PA_24 : PA 24 := by intro o n b S; kernel_rfl
theorem PA_25 : PA 25 := by intro o n b S; kernel_rfl
theorem PA_26 : PA 26 := by intro o n b S; kernel_rfl
theorem PA_all : ∀ p, p < 27 → PA p
  | 0, _ => PA_0
  | 1, _ => PA_1
  | 2, _ => PA_2
  | 3, _ => PA_3
  | 4, _ => PA_4
  | 5, _ => PA_5
  | 6, _ => PA_6
  | 7, _ => PA_7
  | 8, _ => PA_8
  | 9, _ => PA_9
  | 10, _ => PA_10
  | 11, _ => PA_11
  | 12, _ => PA_12
  | 13, _ => PA_13
  | 14, _ => PA_14
  | 15, _ => PA_15
  | 16, _ => PA_16
  | 17, _ => PA_17
  | 18, _ => PA_18
  | 19, _ => PA_19
  | 20, _ => PA_20
  | 21, _ => PA_21
  | 22, _ => PA_22
  | 23, _ => PA_23
  | 24, _ => PA_24
  | 25, _ => PA_25
  | 26, _ => PA_26
  | n + 27, h => absurd h (by omega)
theorem PN_0 : PN 0 := by intro o n b pk f; cases o with | none => kernel_rfl | some b0 => kernel_rfl
theorem PN_1 : PN 1 := by intro o n b pk f; cases o with | none => kernel_rfl | some b0 => kernel_rfl
theorem PN_2 : PN 2 := by intro o n b pk f; cases o with | none => kernel_rfl | some b0 => kernel_rfl
theorem PN_3 : PN 3 := by intro o n b pk f; cases o with | none => kernel_rfl | some b0 => kernel_rfl
theorem PN_4 : PN 4 := by intro o n b pk f; cases o with | none => kernel_rfl | some b0 => kernel_rfl
theorem PN_5 : PN 5 := by intro o n b pk f; cases o with | none => kernel_rfl | some b0 => kernel_rfl
theorem PN_6 : PN 6 := by intro o n b pk f; cases o with | none => kernel_rfl | some b0 => kernel_rfl
theorem PN_7 : PN 7 := by intro o n b pk f; cases o with | none => kernel_rfl | some b0 => kernel_rfl
theorem PN_8 : PN 8 := by intro o n b pk f; cases o with | none => kernel_rfl | some b0 => kernel_rfl
theorem PN_9 : PN 9 := by intro o n b pk f; cases o with | none => kernel_rfl | some b0 => kernel_rfl
theorem PN_10 : PN 10 := by intro o n b pk f; cases o with | none => kernel_rfl | some b0 => kernel_rfl
theorem PN_11 : PN 11 := by intro o n b pk f; cases o with | none => kernel_rfl | some b0 => kernel_rfl
theorem PN_12 : PN 12 := by intro o n b pk f; cases o with | none => kernel_rfl | some b0 => kernel_rfl
theorem PN_13 : PN 13 := by intro o n b pk f; cases o with | none => kernel_rfl | some b0 => kernel_rfl
theorem PN_14 : PN 14 := by intro o n b pk f; cases o with | none => kernel_rfl | some b0 => kernel_rfl
theorem PN_15 : PN 15 := by intro o n b pk f; cases o with | none => kernel_rfl | some b0 => kernel_rfl
theorem PN_16 : PN 16 := by intro o n b pk f; cases o with | none => kernel_rfl | some b0 => kernel_rfl
theorem PN_17 : PN 17 := by intro o n b pk f; cases o with | none => kernel_rfl | some b0 => kernel_rfl
theorem PN_18 : PN 18 := by intro o n b pk f; cases o with | none => kernel_rfl | some b0 => kernel_rfl
theorem PN_19 : PN 19 := by intro o n b pk f; cases o with | none => kernel_rfl | some b0 => kernel_rfl
theorem PN_20 : PN 20 := by intro o n b pk f; cases o with | none => kernel_rfl | some b0 => kernel_rfl
theorem PN_21 : PN 21 := by intro o n b pk f; cases o with | none => kernel_rfl | some b0 => kernel_rfl
theorem PN_22 : PN 22 := by intro o n b pk f; cases o with | none => kernel_rfl | some b0 => kernel_rfl
theorem PN_23 : PN 23 := by intro o n b pk f; cases o with | none => kernel_rfl | some b0 => kernel_rfl
theorem PN_24 : PN 24 := by intro o n b pk f; cases o with | none => kernel_rfl | some b0 => kernel_rfl
theorem PN_25 : PN 25 := by intro o n b pk f; cases o with | none => kernel_rfl | some b0 => kernel_rfl
theorem PN_26 : PN 26 := by intro o n b pk f; cases o with | none => kernel_rfl | some b0 => kernel_rfl
theorem PN_all : ∀ p, p < 27 → PN p
  | 0, _ => PN_0
  | 1, _ => PN_1
  | 2, _ => PN_2
  | 3, _ => PN_3
  | 4, _ => PN_4
  | 5, _ => PN_5
  | 6, _ => PN_6
  | 7, _ => PN_7
  | 8, _ => PN_8
  | 9, _ => PN_9
  | 10, _ => PN_10
  | 11, _ => PN_11
  | 12, _ => PN_12
  | 13, _ => PN_13
  | 14, _ => PN_14
  | 15, _ => PN_15
  | 16, _ => PN_16
  | 17, _ => PN_17
  | 18, _ => PN_18
  | 19, _ => PN_19
  | 20, _ => PN_20
  | 21, _ => PN_21
  | 22, _ => PN_22
  | 23, _ => PN_23
  | 24, _ => PN_24
  | 25, _ => PN_25
  | 26, _ => PN_26
  | n + 27, h => absurd h (by omega)
theorem PY_0 : PY 0 := by intro o n b pk f v; cases o with | none => kernel_rfl | some b0 => kernel_rfl
theorem PY_1 : PY 1 := by intro o n b pk f v; cases o with | none => kernel_rfl | some b0 => kernel_rfl
theorem PY_2 : PY 2 := by intro o n b pk f v; cases o with | none => kernel_rfl | some b0 => kernel_rfl
theorem PY_3 : PY 3 := by intro o n b pk f v; cases o with | none => kernel_rfl | some b0 => kernel_rfl
theorem PY_4 : PY 4 := by intro o n b pk f v; cases o with | none => kernel_rfl | some b0 => kernel_rfl
theorem PY_5 : PY 5 := by intro o n b pk f v; cases o with | none => kernel_rfl | some b0 => kernel_rfl
theorem PY_6 : PY 6 := by intro o n b pk f v; cases o with | none => kernel_rfl | some b0 => kernel_rfl
theorem PY_7 : PY 7 := by intro o n b pk f v; cases o with | none => kernel_rfl | some b0 => kernel_rfl
theorem PY_8 : PY 8 := by intro o n b pk f v; cases o with | none => kernel_rfl | some b0 => kernel_rfl
theorem PY_9 : PY 9 := by intro o n b pk f v; cases o with | none => kernel_rfl | some b0 => kernel_rfl
theorem PY_10 : PY 10 := by intro o n b pk f v; cases o with | none => kernel_rfl | some b0 => kernel_rfl
theorem PY_11 : PY 11 := by intro o n b pk f v; cases o with | none => kernel_rfl | some b0 => kernel_rfl
theorem PY_12 : PY 12 := by intro o n b pk f v; cases o with | none => kernel_rfl | some b0 => kernel_rfl
theorem PY_13 : PY 13 := by intro o n b pk f v; cases o with | none => kernel_rfl | some b0 => kernel_rfl
theorem PY_14 : PY 14 := by intro o n b pk f v; cases o with | none => kernel_rfl | some b0 => kernel_rfl
theorem PY_15 : PY 15 := by intro o n b pk f v; cases o with | none => kernel_rfl | some b0 => kernel_rfl
theorem PY_16 : PY 16 := by intro o n b pk f v; cases o with | none => kernel_rfl | some b0 => kernel_rfl
theorem PY_17 : PY 17 := by intro o n b pk f v; cases o with | none => kernel_rfl | some b0 => kernel_rfl
theorem PY_18 : PY 18 := by intro o n b pk f v; cases o with | none => kernel_rfl | some b0 => kernel_rfl
theorem PY_19 : PY 19 := by intro o n b pk f v; cases o with | none => kernel_rfl | some b0 => kernel_rfl
theorem PY_20 : PY 20 := by intro o n b pk f v; cases o with | none => kernel_rfl | some b0 => kernel_rfl
theorem PY_21 : PY 21 := by intro o n b pk f v; cases o with | none => kernel_rfl | some b0 => kernel_rfl
theorem PY_22 : PY 22 := by intro o n b pk f v; cases o with | none => kernel_rfl | some b0 => kernel_rfl
theorem PY_23 : PY 23 := by intro o n b pk f v; cases o with | none => kernel_rfl | some b0 => kernel_rfl
theorem PY_24 : PY 24 := by intro o n b pk f v; cases o with | none => kernel_rfl | some b0 => kernel_rfl
theorem PY_25 : PY 25 := by intro o n b pk f v; cases o with | none => kernel_rfl | some b0 => kernel_rfl
theorem PY_26 : PY 26 := by intro o n b pk f v; cases o with | none => kernel_rfl | some b0 => kernel_rfl
theorem PY_all : ∀ p, p < 27 → PY p
  | 0, _ => PY_0
  | 1, _ => PY_1
  | 2, _ => PY_2
  | 3, _ => PY_3
  | 4, _ => PY_4
  | 5, _ => PY_5
  | 6, _ => PY_6
  | 7, _ => PY_7
  | 8, _ => PY_8
  | 9, _ => PY_9
  | 10, _ => PY_10
  | 11, _ => PY_11
  | 12, _ => PY_12
  | 13, _ => PY_13
  | 14, _ => PY_14
  | 15, _ => PY_15
  | 16, _ => PY_16
  | 17, _ => PY_17
  | 18, _ => PY_18
  | 19, _ => PY_19
  | 20, _ => PY_20
  | 21, _ => PY_21
  | 22, _ => PY_22
  | 23, _ => PY_23
  | 24, _ => PY_24
  | 25, _ => PY_25
  | 26, _ => PY_26
  | n + 27, h => absurd h (by omega)
theorem PE_0 : PE 0 := by intro o n b pk f v; cases o with | none => kernel_rfl | some b0 => kernel_rfl
theorem PE_1 : PE 1 := by intro o n b pk f v; cases o with | none => kernel_rfl | some b0 => kernel_rfl
theorem PE_2 : PE 2 := by intro o n b pk f v; cases o with | none => kernel_rfl | some b0 => kernel_rfl
theorem PE_3 : PE 3 := by intro o n b pk f v; cases o with | none => kernel_rfl | some b0 => kernel_rfl
theorem PE_4 : PE 4 := by intro o n b pk f v; cases o with | none => kernel_rfl | some b0 => kernel_rfl
theorem PE_5 : PE 5 := by intro o n b pk f v; cases o with | none => kernel_rfl | some b0 => kernel_rfl
theorem PE_6 : PE 6 := by intro o n b pk f v; cases o with | none => kernel_rfl | some b0 => kernel_rfl
theorem PE_7 : PE 7 := by intro o n b pk f v; cases o with | none => kernel_rfl | some b0 => kernel_rfl
theorem PE_8 : PE 8 := by intro o n b pk f v; cases o with | none => kernel_rfl | some b0 => kernel_rfl
theorem PE_9 : PE 9 := by intro o n b pk f v; cases o with | none => kernel_rfl | some b0 => kernel_rfl
theorem PE_10 : PE 10 := by intro o n b pk f v; cases o with | none => kernel_rfl | some b0 => kernel_rfl
theorem PE_11 : PE 11 := by intro o n b pk f v; cases o with | none => kernel_rfl | some b0 => kernel_rfl
theorem PE_12 : PE 12 := by intro o n b pk f v; cases o with | none => kernel_rfl | some b0 => kernel_rfl
theorem PE_13 : PE 13 := by intro o n b pk f v; cases o with | none => kernel_rfl | some b0 => kernel_rfl
theorem PE_14 : PE 14 := by intro o n b pk f v; cases o with | none => kernel_rfl | some b0 => kernel_rfl
theorem PE_15 : PE 15 := by intro o n b pk f v; cases o with | none => kernel_rfl | some b0 => kernel_rfl
theorem PE_16 : PE 16 := by intro o n b pk f v; cases o with | none => kernel_rfl | some b0 => kernel_rfl
theorem PE_17 : PE 17 := by intro o n b pk f v; cases o with | none => kernel_rfl | some b0 => kernel_rfl
theorem PE_18 : PE 18 := by intro o n b pk f v; cases o with | none => kernel_rfl | some b0 => kernel_rfl
theorem PE_19 : PE 19 := by intro o n b pk f v; cases o with | none => kernel_rfl | some b0 => kernel_rfl
theorem PE_20 : PE 20 := by intro o n b pk f v; cases o with | none => kernel_rfl | some b0 => kernel_rfl
theorem PE_21 : PE 21 := by intro o n b pk f v; cases o with | none => kernel_rfl | some b0 => kernel_rfl
theorem PE_22 : PE 22 := by intro o n b pk f v; cases o with | none => kernel_rfl | some b0 => kernel_rfl
theorem PE_23 : PE 23 := by intro o n b pk f v; cases o with | none => kernel_rfl | some b0 => kernel_rfl
theorem PE_24 : PE 24 := by intro o n b pk f v; cases o with | none => kernel_rfl | some b0 => kernel_rfl
theorem PE_25 : PE 25 := by intro o n b pk f v; cases o with | none => kernel_rfl | some b0 => kernel_rfl
theorem PE_26 : PE 26 := by intro o n b pk f v; cases o with | none => kernel_rfl | some b0 => kernel_rfl
theorem PE_all : ∀ p, p < 27 → PE p
  | 0, _ => PE_0
  | 1, _ => PE_1
  | 2, _ => PE_2
  | 3, _ => PE_3
  | 4, _ => PE_4
  | 5, _ => PE_5
  | 6, _ => PE_6
  | 7, _ => PE_7
  | 8, _ => PE_8
  | 9, _ => PE_9
  | 10, _ => PE_10
  | 11, _ => PE_11
  | 12, _ => PE_12
  | 13, _ => PE_13
  | 14, _ => PE_14
  | 15, _ => PE_15
  | 16, _ => PE_16
  | 17, _ => PE_17
  | 18, _ => PE_18
  | 19, _ => PE_19
  | 20, _ => PE_20
  | 21, _ => PE_21
  | 22, _ => PE_22
  | 23, _ => PE_23
  | 24, _ => PE_24
  | 25, _ => PE_25
  | 26, _ => PE_26
  | n + 27, h => absurd h (by omega)
def lPi (o : Option Att) (b : List Nat) (p : Nat) : Loc := [("self", .obj (no0 o)), ("buffer", .bytes b), ("name", .str (nmF p)), ("compressedName", .str (nmL p)), ("identifier", .int (.ofNat (idn p)))]
theorem packI2 : packI.take 2 = [stAt packI 0, stAt packI 1] := by kernel_rfl
theorem PB_all (p : Nat) (hp : p < 27) : PB p := by
  intro o n b pk f
  rw [packI2]
  have h0 := ex_asgn (T := TT) (n := n + 39) (sc := packSc) (l := lP1 o b p) (t := stAt packI 0) (S := st0 o (mkA pk f)) (S1 := st0 o (mkA pk f)) (v := .int (.ofNat (idn p))) (by kernel_rfl) (by kernel_rfl) (by kernel_rfl) ?_
  · have e0 : put (asgX (stAt packI 0)) (.int (.ofNat (idn p))) (lP1 o b p) = lPi o b p := by kernel_rfl
    rw [e0] at h0
    have h1 := ex_asgn (T := TT) (n := n + 39) (sc := packSc) (l := lPi o b p) (t := stAt packI 1) (S := st0 o (mkA pk f)) (S1 := st0 o (mkA pk f)) (v := .int (.ofNat (tyOf (kd p)))) (by kernel_rfl) (by kernel_rfl) (by kernel_rfl) ?_
    · have e1 : put (asgX (stAt packI 1)) (.int (.ofNat (tyOf (kd p)))) (lPi o b p) = lP2 o b p := by kernel_rfl
      rw [e1] at h1
      exact exs_nx h0 (exs_nx h1 rfl)
    · refine ev_sub (n := n + 38) (a := propV p) (b := .int 0) (S1 := st0 o (mkA pk f)) (by kernel_rfl) ?_ (by kernel_rfl) rfl
      refine ev_sub (n := n + 37) (a := .ref 181) (b := .int (.ofNat (idn p))) (S1 := st0 o (mkA pk f)) (by kernel_rfl) ?_ (by kernel_rfl) (propAll p hp)
      cases o with | none => kernel_rfl | some b0 => kernel_rfl
  · refine ev_meth (n := n + 38) (by kernel_rfl) ?_
    rw [evCall_meth (T := TT) (k := no0 o) (f := 257) (vs := [.str (nmL p)]) (S1 := st0 o (mkA pk f)) (by kernel_rfl) (by kernel_rfl) (by kernel_rfl) (by kernel_rfl) (by kernel_rfl)]
    exact giAll p hp o (n + 18) pk f
theorem PC_all (p : Nat) (hp : p < 27) : PC p := by
  intro o n b pk f
  refine tr_meth (n := n + 38) (by kernel_rfl) ?_
  rw [evCall_meth (T := TT) (k := no0 o) (f := 250) (vs := [.str (nmL p)]) (S1 := st0 o (mkA pk f)) (by kernel_rfl) (by kernel_rfl) (by kernel_rfl) (by kernel_rfl) (by kernel_rfl)]
  exact amAll hp o (n + 13) pk f
end Mine
namespace Mine
set_option maxRecDepth 100000
open PySem
theorem domK_len : ∀ k, k < 10 → ∀ x ∈ domK k, x.2.length ≤ 132 := by decide +kernel
theorem Good.len {p : Nat} {v : MV} {b : List Nat} (hp : p < 27) (h : Good p v b) : b.length ≤ 132 := by
  have hk := kd_lt p hp
  unfold Good at h
  split at h
  · obtain ⟨j, r, hj, _, _, rfl⟩ := h
    simp only [List.length_cons, List.length_replicate]
    omega
  · exact domK_len _ hk _ h

structure RowsOk (its : List It) : Prop where
  place : ∀ x ∈ its, x.1 < 27
  good : ∀ x ∈ its, Good x.1 x.2.1 x.2.2
  uniq : ∀ p, multi p = false → (atP p its).length ≤ 1
  len : its.length ≤ 5
def octP (p : Nat) (its : List It) : List Nat := (atP p its).flatMap fun x => idn p :: x.2.2
def inner (its : List It) : List Nat := (List.range 27).flatMap fun p => octP p its

theorem packT_cut : packT = [stAt packT 0, stAt packT 1] := by kernel_rfl
theorem packI_cut : packI = packI.take 2 ++ [stAt packI 2] := by kernel_rfl
theorem packE_cut : ifB (stAt packI 2) = [packW] := by kernel_rfl
theorem packMs_cut : ifA (stAt packI 2) = [packM] := by kernel_rfl
def packV : Stmt := stAt (forA packM) 0
theorem packV_cut : forA packM = [packV] := by kernel_rfl
theorem packIf1 : isIf (stAt packT 1) = true := by kernel_rfl
theorem packIf2 : isIf (stAt packI 2) = true := by kernel_rfl
theorem packIf1B : ifB (stAt packT 1) = [] := by kernel_rfl
theorem packIf1A : ifA (stAt packT 1) = packI := by kernel_rfl
def PS (p : Nat) : Prop := ∀ (o : Option Att) (n : Nat) (b : List Nat) (pk : MV) (f : Att) (ws : List MV), source TT (lP2 o b p) (forI packM) ((run TT (n + 40)).ev packSc (lP2 o b p)) (st0 o (mkA pk (updA f (nmS p) (.list ws)))) = some (ws, st0 o (mkA pk (updA f (nmS p) (.list ws))))
def PV (p : Nat) (v : MV) : Prop := ∀ (o : Option Att) (n : Nat) (b : List Nat) (S : Sto), evs ((run TT (n + 40)).ev packSc (lP3 o b p v)) (mA (asE packV)) S = some ([.int (.ofNat (idn p)), .int (.ofNat (tyOf (kd p))), v], S)
theorem ps_5 : PS 5 := by intro o n b pk f ws; cases o with | none => kernel_rfl | some b0 => kernel_rfl
theorem ps_22 : PS 22 := by intro o n b pk f ws; cases o with | none => kernel_rfl | some b0 => kernel_rfl
theorem pv_5 (i : Int) : PV 5 (.int i) := by intro o n b S; cases o with | none => kernel_rfl | some b0 => kernel_rfl
theorem pv_22 (w : List MV) : PV 22 (.tup w) := by intro o n b S; cases o with | none => kernel_rfl | some b0 => kernel_rfl
theorem multi_cases {p : Nat} (h : multi p = true) : p = 5 ∨ p = 22 := by
  unfold multi at h
  rcases (Bool.or_eq_true _ _).mp h with h | h
  · exact .inl (Nat.eq_of_beq_eq_true h)
  · exact .inr (Nat.eq_of_beq_eq_true h)
theorem psAll {p : Nat} (h : multi p = true) : PS p := by
  rcases multi_cases h with rfl | rfl
  · exact ps_5
  · exact ps_22
theorem pvAll {p : Nat} (h : multi p = true) {v : MV} {b : List Nat} (hg : Good p v b) : PV p v := by
  rcases multi_cases h with rfl | rfl
  · obtain ⟨_, i, rfl⟩ := good5 hg; exact pv_5 i
  · obtain ⟨w, rfl⟩ := good22 hg; exact pv_22 w
theorem packW_self (o : Option Att) (n : Nat) (b : List Nat) (p : Nat) (S : Sto) : (run TT (n + 40)).ev packSc (lP2 o b p) S (mO (asE packW)) = some (.obj (no0 o), S) := by kernel_rfl
theorem packV_self (o : Option Att) (n : Nat) (b : List Nat) (p : Nat) (v : MV) (S : Sto) : (run TT (n + 40)).ev packSc (lP3 o b p v) S (mO (asE packV)) = some (.obj (no0 o), S) := by kernel_rfl
theorem packW_meth : isMeth (asE packW) = true := by kernel_rfl
theorem packV_meth : isMeth (asE packV) = true := by kernel_rfl
theorem packW_aug : isAug packW = true ∧ canSto packSc (augX packW) = true := by constructor <;> kernel_rfl
theorem packV_aug : isAug packV = true ∧ canSto packSc (augX packV) = true := by constructor <;> kernel_rfl

theorem write_turn {p : Nat} {v : MV} {c : List Nat} (hw : WP p v c) (o : Option Att) (n : Nat) (b : List Nat) (pk : MV) (f : Att) {l : Loc} {t : Stmt}
    (ha : isAug t = true) (hc : canSto packSc (augX t) = true) (hm : isMeth (asE t) = true) (hn : memS (mN (asE t)) attrsL = false) (hf : lk (mN (asE t)) methL = some 276)
    (hb : nameMV TT packSc l (augX t) = some (.bytes b))
    (h1 : (run TT (n + 40)).ev packSc l (st0 o (mkA pk f)) (mO (asE t)) = some (.obj (no0 o), st0 o (mkA pk f)))
    (h2 : evs ((run TT (n + 40)).ev packSc l) (mA (asE t)) (st0 o (mkA pk f)) = some ([.int (.ofNat (idn p)), .int (.ofNat (tyOf (kd p))), v], st0 o (mkA pk f)))
    (hl : b.length + (idn p :: c).length ≤ 1000000) :
    rx TT (n + 42) packSc l (st0 o (mkA pk f)) t = some (.next, put (augX t) (.bytes (b ++ idn p :: c)) l, st0 o (mkA pk f)) := by
  refine ex_aug ha hc hb ?_ hl
  refine ev_meth hm ?_
  rw [evCall_meth (T := TT) hm h1 h2 hn hf]
  exact hw n pk f o

theorem octP_nil {p : Nat} {its : List It} (h : atP p its = []) : octP p its = [] := by unfold octP; rw [h]; rfl

theorem packW_m : memS (mN (asE packW)) attrsL = false ∧ lk (mN (asE packW)) methL = some 276 := by constructor <;> kernel_rfl
theorem packV_m : memS (mN (asE packV)) attrsL = false ∧ lk (mN (asE packV)) methL = some 276 := by constructor <;> kernel_rfl

theorem many_loop {p : Nat} (hp : p < 27) (hm : multi p = true) (o : Option Att) (n : Nat) (pk : MV) (f : Att) : ∀ (L : List It) (b : List Nat), (∀ x ∈ L, Good p x.2.1 x.2.2) → b.length + (L.flatMap fun x => idn p :: x.2.2).length ≤ 1000000 →
    forGo (fun l' s' => exs (rx TT (n + 42) packSc) (forA packM) l' s') (forX packM) (L.map fun x => x.2.1) (lP2 o b p) (st0 o (mkA pk f)) = some (.next, lP2 o (b ++ L.flatMap fun x => idn p :: x.2.2) p, st0 o (mkA pk f))
  | [], b, _, _ => by simp [forGo]
  | x :: L, b, hg, hl => by
    rw [List.flatMap_cons, List.length_append] at hl
    refine forGo_next (l1 := put (augX packV) (.bytes (b ++ idn p :: x.2.2)) (lP3 o b p x.2.1)) (S1 := st0 o (mkA pk f)) ?_ ?_
    · rw [packV_cut]
      refine exs_nx ?_ rfl
      exact write_turn (wvAll p hp (hg x (.head _))) o n b pk f packV_aug.1 packV_aug.2 packV_meth packV_m.1 packV_m.2 (by kernel_rfl) (packV_self o n b p _ _) (pvAll hm (hg x (.head _)) o n b _) (by omega)
    · have e : restr (lP2 o b p) (put (augX packV) (.bytes (b ++ idn p :: x.2.2)) (lP3 o b p x.2.1)) = lP2 o (b ++ idn p :: x.2.2) p := by kernel_rfl
      rw [e, many_loop hp hm o n pk f L (b ++ idn p :: x.2.2) (fun y hy => hg y (.tail _ hy)) (by rw [List.length_append]; omega)]
      rw [List.flatMap_cons, List.append_assoc]

theorem pack_turn {p : Nat} (hp : p < 27) {its : List It} (H : RowsOk its) (o : Option Att) (n : Nat) (b : List Nat) (pk : MV) (hl : b.length + (octP p its).length ≤ 1000000) :
    ∃ l', exs (rx TT (n + 50) packSc) packT (lP0 o b p) (st0 o (mkA pk (attOf its))) = some (.next, l', st0 o (mkA pk (attOf its))) ∧ restr (lP o b) l' = lP o (b ++ octP p its) := by
  have hgood : ∀ x ∈ atP p its, Good p x.2.1 x.2.2 := fun x hx => by
    obtain ⟨h1, h2⟩ := List.mem_filter.mp hx
    have := H.good x h1
    rw [Nat.eq_of_beq_eq_true h2] at this
    exact this
  rw [packT_cut]
  cases e : atP p its with
  | nil =>
    have e0 : attP p its = none := by
      unfold attP vals; rw [e]; cases multi p <;> rfl
    rw [octP_nil e, List.append_nil, mkA_none hp e0]
    refine ⟨lP1 o b p, ?_, by kernel_rfl⟩
    refine exs_nx (PA_all p hp o (n + 10) b _) (exs_nx ?_ rfl)
    refine ex_if (n := n + 49) packIf1 (PN_all p hp o (n + 9) b pk (attOf its)) ?_
    rw [packIf1B]; rfl
  | cons x r =>
    cases hm : multi p with
    | false =>
      have hu := H.uniq p hm
      rw [e, List.length_cons] at hu
      have hr : r = [] := by cases r with | nil => rfl | cons _ _ => simp at hu
      subst hr
      have e0 : attP p its = some x.2.1 := by unfold attP vals; rw [e, hm]; rfl
      have eo : octP p its = idn p :: x.2.2 := by unfold octP; rw [e]; simp
      rw [eo] at hl ⊢
      rw [mkA_some hp e0]
      refine ⟨put (augX packW) (.bytes (b ++ idn p :: x.2.2)) (lP2 o b p), ?_, by kernel_rfl⟩
      refine exs_nx (PA_all p hp o (n + 10) b _) (exs_nx ?_ rfl)
      refine ex_if (n := n + 49) packIf1 (PY_all p hp o (n + 9) b pk (attOf its) _) ?_
      show exs _ (ifA (stAt packT 1)) _ _ = _
      rw [packIf1A, packI_cut]
      refine exs_app (PB_all p hp o (n + 9) b pk _) (exs_nx ?_ rfl)
      have hc := PC_all p hp o (n + 8) b pk (updA (attOf its) (nmS p) x.2.1)
      rw [hm] at hc
      refine ex_if (n := n + 48) packIf2 hc ?_
      · show exs _ (ifB (stAt packI 2)) _ _ = _
        rw [packE_cut]
        refine exs_nx ?_ rfl
        exact write_turn (wvAll p hp (hgood x (by rw [e]; exact .head _))) o (n + 6) b pk _ packW_aug.1 packW_aug.2 packW_meth packW_m.1 packW_m.2 (by kernel_rfl) (packW_self o (n + 6) b p _) (PE_all p hp o (n + 6) b pk _ _) hl
    | true =>
      have e0 : attP p its = some (.list (vals p its)) := by unfold attP vals; rw [e, hm]; rfl
      rw [mkA_some hp e0]
      refine ⟨lP2 o (b ++ octP p its) p, ?_, by kernel_rfl⟩
      refine exs_nx (PA_all p hp o (n + 10) b _) (exs_nx ?_ rfl)
      refine ex_if (n := n + 49) packIf1 (PY_all p hp o (n + 9) b pk (attOf its) _) ?_
      show exs _ (ifA (stAt packT 1)) _ _ = _
      rw [packIf1A, packI_cut]
      refine exs_app (PB_all p hp o (n + 9) b pk _) (exs_nx ?_ rfl)
      have hc := PC_all p hp o (n + 8) b pk (updA (attOf its) (nmS p) (.list (vals p its)))
      rw [hm] at hc
      refine ex_if (n := n + 48) packIf2 hc ?_
      · show exs _ (ifA (stAt packI 2)) _ _ = _
        rw [packMs_cut]
        refine exs_nx ?_ rfl
        refine ex_for (by kernel_rfl) (by kernel_rfl) (by kernel_rfl) (psAll hm o (n + 7) b pk (attOf its) (vals p its)) ?_
        exact many_loop hp hm o (n + 5) pk _ (atP p its) b hgood hl
end Mine
namespace Mine
set_option maxRecDepth 100000
open PySem

/-! lengths -/
theorem filter_parts (p : Nat) : ∀ its : List It, (atP p its).length + (its.filter fun x => !Nat.beq x.1 p).length = its.length
  | [] => rfl
  | x :: r => by
    have ih := filter_parts p r
    unfold atP at ih ⊢
    rw [List.filter_cons, List.filter_cons]
    cases e : Nat.beq x.1 p
    · simp only [Bool.not_false, if_true, Bool.false_eq_true, if_false, List.length_cons]; omega
    · simp only [Bool.not_true, if_true, Bool.false_eq_true, if_false, List.length_cons]; omega
theorem beq_ne {a b : Nat} (h : a ≠ b) : Nat.beq a b = false := by
  cases e : Nat.beq a b with
  | false => rfl
  | true => exact absurd (Nat.eq_of_beq_eq_true e) h
theorem flat_at_len : ∀ (L : List Nat) (its : List It), L.Nodup → (L.flatMap fun p => atP p its).length ≤ its.length
  | [], its, _ => Nat.zero_le _
  | p :: L, its, hn => by
    rw [List.nodup_cons] at hn
    have ih := flat_at_len L (its.filter fun x => !Nat.beq x.1 p) hn.2
    have e : (L.flatMap fun q => atP q (its.filter fun x => !Nat.beq x.1 p)) = L.flatMap fun q => atP q its := by
      have : ∀ M : List Nat, (∀ q ∈ M, q ≠ p) → (M.flatMap fun q => atP q (its.filter fun x => !Nat.beq x.1 p)) = M.flatMap fun q => atP q its := by
        intro M hM
        induction M with
        | nil => rfl
        | cons q M ihM =>
          rw [List.flatMap_cons, List.flatMap_cons, atP_del (beq_ne (hM q (.head _))), ihM fun q hq => hM q (.tail _ hq)]
      exact this L fun q hq he => hn.1 (he ▸ hq)
    rw [e] at ih
    have := filter_parts p its
    rw [List.flatMap_cons, List.length_append]
    omega
theorem flat_len {its : List It} {k : Nat} (g : It → List Nat) : ∀ {L : List It}, (∀ x ∈ L, (g x).length ≤ k) → (L.flatMap g).length ≤ k * L.length
  | [], _ => Nat.zero_le _
  | x :: L, h => by
    have ih := flat_len (its := its) g (L := L) fun y hy => h y (.tail _ hy)
    have h1 := h x (.head _)
    rw [List.flatMap_cons, List.length_append, List.length_cons, Nat.mul_add, Nat.mul_one]
    omega
def oct1 (x : It) : List Nat := idn x.1 :: x.2.2
theorem octP_eq (p : Nat) (its : List It) : octP p its = (atP p its).flatMap oct1 := by
  unfold octP
  have : ∀ L : List It, (∀ x ∈ L, x.1 = p) → (L.flatMap fun x => idn p :: x.2.2) = L.flatMap oct1 := by
    intro L hL
    induction L with
    | nil => rfl
    | cons x L ih =>
      rw [List.flatMap_cons, List.flatMap_cons, ih fun y hy => hL y (.tail _ hy)]
      unfold oct1
      rw [hL x (.head _)]
  exact this _ fun x hx => Nat.eq_of_beq_eq_true (List.mem_filter.mp hx).2
theorem inner_eq (its : List It) : inner its = (sorted its).flatMap oct1 := by
  unfold inner sorted
  rw [List.flatMap_assoc]
  congr 1
  funext p
  exact octP_eq p its
theorem sorted_mem {its : List It} {x : It} (h : x ∈ sorted its) : x ∈ its := by
  obtain ⟨p, _, h2⟩ := List.mem_flatMap.mp h
  exact (List.mem_filter.mp h2).1
theorem sorted_len (its : List It) : (sorted its).length ≤ its.length := flat_at_len _ _ (List.nodup_range)
theorem RowsOk.inner_len {its : List It} (H : RowsOk its) : (inner its).length < 666 := by
  rw [inner_eq]
  have h1 : ((sorted its).flatMap oct1).length ≤ 133 * (sorted its).length := flat_len (its := its) oct1 fun x hx => by
    have hx' := sorted_mem hx
    have := (H.good x hx').len (H.place x hx')
    show (_ :: _ : List Nat).length ≤ _
    rw [List.length_cons]; omega
  have h2 := sorted_len its
  have h3 := H.len
  omega

/-! pack, whole -/
theorem pack_loop {its : List It} (H : RowsOk its) (o : Option Att) (n : Nat) (pk : MV) : ∀ (L : List Nat) (b : List Nat), (∀ p ∈ L, p < 27) → b.length + (L.flatMap fun p => octP p its).length ≤ 1000000 →
    forGo (fun l' s' => exs (rx TT (n + 50) packSc) (forA (stAt packBody 1)) l' s') (forX (stAt packBody 1)) (L.map fun p => .str (nmF p)) (lP o b) (st0 o (mkA pk (attOf its))) =
      some (.next, lP o (b ++ L.flatMap fun p => octP p its), st0 o (mkA pk (attOf its)))
  | [], b, _, _ => by simp [forGo]
  | p :: L, b, hL, hl => by
    rw [List.flatMap_cons, List.length_append] at hl
    obtain ⟨l', h1, h2⟩ := pack_turn (hL p (.head _)) H o n b pk (by omega)
    refine forGo_next (l1 := l') (S1 := st0 o (mkA pk (attOf its))) ?_ ?_
    · exact h1
    · rw [h2, pack_loop H o n pk L _ (fun q hq => hL q (.tail _ hq)) (by rw [List.length_append]; omega), List.flatMap_cons, List.append_assoc]
def packed (its : List It) : List Nat := hdr (inner its).length ++ inner its
theorem pack_cut : packBody = [stAt packBody 0, stAt packBody 1, stAt packBody 2] := by kernel_rfl
theorem pack_src (o : Option Att) (n : Nat) (pk : MV) (f : Att) : source TT (lP o []) (forI (stAt packBody 1)) ((run TT (n + 40)).ev packSc (lP o [])) (st0 o (mkA pk f)) = some ((List.range 27).map fun p => .str (nmF p), st0 o (mkA pk f)) := by
  cases o with | none => kernel_rfl | some b0 => kernel_rfl
theorem pack_len (o : Option Att) (n : Nat) (b : List Nat) (S : Sto) : evs ((run TT (n + 40)).ev packSc (lP o b)) (mA (binA (asE (stAt packBody 2)))) S = some ([.int (.ofNat b.length)], S) := by kernel_rfl
theorem pack_ok {its : List It} (H : RowsOk its) (o : Option Att) (n : Nat) (pk : MV) :
    (run TT (n + 60)).ca 283 [.obj (no0 o)] (st0 o (mkA pk (attOf its))) = some (.val (.bytes (packed its)), st0 o (mkA pk (attOf its))) := by
  have hL := H.inner_len
  refine ca_of (n := n + 59) (fn := mtAt 19 9) (l := [("self", .obj (no0 o))]) (fl := .ret (.bytes (packed its))) (l' := lP o (inner its)) (by kernel_rfl) (by kernel_rfl) ?_ rfl
  show exs (rx TT (n + 59) packSc) packBody _ _ = _
  rw [pack_cut]
  refine exs_nx (l1 := lP o []) (S1 := st0 o (mkA pk (attOf its))) (by kernel_rfl) (exs_nx (l1 := lP o (inner its)) (S1 := st0 o (mkA pk (attOf its))) ?_ (exs_out ?_ (by intro h; cases h)))
  · refine ex_for (by kernel_rfl) (by kernel_rfl) (by kernel_rfl) (pack_src o (n + 18) pk _) ?_
    have := pack_loop H o (n + 8) pk (List.range 27) [] (fun p hp => by simpa using hp) (by
      show 0 + (inner its).length ≤ _
      omega)
    exact this
  · refine ex_ret (n := n + 58) (by kernel_rfl) ?_
    refine ev_bin (n := n + 57) (a := .bytes (hdr (inner its).length)) (b := .bytes (inner its)) (S1 := st0 o (mkA pk (attOf its))) (by kernel_rfl) ?_ (by kernel_rfl) (bin_cat ?_)
    · refine ev_meth (n := n + 56) (by kernel_rfl) ?_
      rw [evCall_smeth (a := 166) (f := 150) (T := TT) (tb := [("encode_number", 150), ("decode_number", 160)]) (by kernel_rfl) (by kernel_rfl) (pack_len o (n + 16) (inner its) _) (by kernel_rfl) (by kernel_rfl)]
      exact enc_all _ (by omega) (n + 36) _
    · have : (hdr (inner its).length).length ≤ 2 := by unfold hdr; split <;> simp
      omega
end Mine
namespace Mine
set_option maxRecDepth 100000
open PySem
def emBody : List Stmt := (mtAt 19 7).body
def emSc : Scope := (mtAt 19 7).scope
def emT : List Stmt := forA (stAt emBody 1)
def lE : Loc := [("self", .obj 0), ("rc", .bool true)]
def lE1 (p : Nat) : Loc := [("self", .obj 0), ("rc", .bool true), ("name", .str (nmF p)), ("compressedName", .str (nmL p))]
def lE2 (p : Nat) : Loc := [("self", .obj 0), ("rc", .bool false), ("name", .str (nmF p)), ("compressedName", .str (nmL p))]
def EN (p : Nat) : Prop := ∀ (n : Nat) (pk : MV) (f : Att), exs (rx TT (n + 40) emSc) emT (put "name" (.str (nmF p)) lE) [mkA pk (noF f (nmS p))] = some (.next, lE1 p, [mkA pk (noF f (nmS p))])
def EY (p : Nat) : Prop := ∀ (n : Nat) (pk : MV) (f : Att) (v : MV), exs (rx TT (n + 40) emSc) emT (put "name" (.str (nmF p)) lE) [mkA pk (updA f (nmS p) v)] = some (.brk, lE2 p, [mkA pk (updA f (nmS p) v)])
theorem EN_0 : EN 0 := by intro n pk f; kernel_rfl
theorem EN_1 : EN 1 := by intro n pk f; kernel_rfl
theorem EN_2 : EN 2 := by intro n pk f; kernel_rfl
theorem EN_3 : EN 3 := by intro n pk f; kernel_rfl
theorem EN_4 : EN 4 := by intro n pk f; kernel_rfl
theorem EN_5 : EN 5 := by intro n pk f; kernel_rfl
theorem EN_6 : EN 6 := by intro n pk f; kernel_rfl
theorem EN_7 : EN 7 := by intro n pk f; kernel_rfl
theorem EN_8 : EN 8 := by intro n pk f; kernel_rfl
theorem EN_9 : EN 9 := by intro n pk f; kernel_rfl
theorem EN_10 : EN 10 := by intro n pk f; kernel_rfl
theorem EN_11 : EN 11 := by intro n pk f; kernel_rfl
theorem EN_12 : EN 12 := by intro n pk f; kernel_rfl
theorem EN_13 : EN 13 := by intro n pk f; kernel_rfl
theorem EN_14 : EN 14 := by intro n pk f; kernel_rfl
theorem EN_15 : EN 15 := by intro n pk f; kernel_rfl
theorem EN_16 : EN 16 := by intro n pk f; kernel_rfl
theorem EN_17 : EN 17 := by intro n pk f; kernel_rfl
theorem EN_18 : EN 18 := by intro n pk f; kernel_rfl
theorem EN_19 : EN 19 := by intro n pk f; kernel_rfl
theorem EN_20 : EN 20 := by intro n pk f; kernel_rfl
theorem EN_21 : EN 21 := by intro n pk f; kernel_rfl
theorem EN_22 : EN 22 := by intro n pk f; kernel_rfl
theorem EN_23 : EN 23 := by intro n pk f; kernel_rfl
theorem EN_24 : EN 24 := by intro n pk f; kernel_rfl
theorem EN_25 : EN 25 := by intro n pk f; kernel_rfl
theorem EN_26 : EN 26 := by intro n pk f; kernel_rfl
theorem EN_all : ∀ p, p < 27 → EN p
  | 0, _ => EN_0
  | 1, _ => EN_1
  | 2, _ => EN_2
  | 3, _ => EN_3
  | 4, _ => EN_4
  | 5, _ => EN_5
  | 6, _ => EN_6
  | 7, _ => EN_7
  | 8, _ => EN_8
  | 9, _ => EN_9
  | 10, _ => EN_10
  | 11, _ => EN_11
  | 12, _ => EN_12
  | 13, _ => EN_13
  | 14, _ => EN_14
  | 15, _ => EN_15
  | 16, _ => EN_16
  | 17, _ => EN_17
  | 18, _ => EN_18
  | 19, _ => EN_19
  | 20, _ => EN_20
  | 21, _ => EN_21
  | 22, _ => EN_22
  | 23, _ => EN_23
  | 24, _ => EN_24
  | 25, _ => EN_25
  | 26, _ => EN_26
  | n + 27, h => absurd h (by omega)
theorem EY_0 : EY 0 := by intro n pk f v; kernel_rfl
theorem EY_1 : EY 1 := by intro n pk f v; kernel_rfl
theorem EY_2 : EY 2 := by intro n pk f v; kernel_rfl
theorem EY_3 : EY 3 := by intro n pk f v; kernel_rfl
theorem EY_4 : EY 4 := by intro n pk f v; kernel_rfl
theorem EY_5 : EY 5 := by intro n pk f v; kernel_rfl
theorem EY_6 : EY 6 := by intro n pk f v; kernel_rfl
theorem EY_7 : EY 7 := by intro n pk f v; kernel_rfl
theorem EY_8 : EY 8 := by intro n pk f v; kernel_rfl
theorem EY_9 : EY 9 := by intro n pk f v; kernel_rfl
theorem EY_10 : EY 10 := by intro n pk f v; kernel_rfl
theorem EY_11 : EY 11 := by intro n pk f v; kernel_rfl
theorem EY_12 : EY 12 := by intro n pk f v; kernel_rfl
theorem EY_13 : EY 13 := by intro n pk f v; kernel_rfl
theorem EY_14 : EY 14 := by intro n pk f v; kernel_rfl
theorem EY_15 : EY 15 := by intro n pk f v; kernel_rfl
theorem EY_16 : EY 16 := by intro n pk f v; kernel_rfl
theorem EY_17 : EY 17 := by intro n pk f v; kernel_rfl
theorem EY_18 : EY 18 := by intro n pk f v; kernel_rfl
theorem EY_19 : EY 19 := by intro n pk f v; kernel_rfl
theorem EY_20 : EY 20 := by intro n pk f v; kernel_rfl
theorem EY_21 : EY 21 := by intro n pk f v; kernel_rfl
theorem EY_22 : EY 22 := by intro n pk f v; kernel_rfl
theorem EY_23 : EY 23 := by intro n pk f v; kernel_rfl
theorem EY_24 : EY 24 := by intro n pk f v; kernel_rfl
theorem EY_25 : EY 25 := by intro n pk f v; kernel_rfl
theorem EY_26 : EY 26 := by intro n pk f v; kernel_rfl
theorem EY_all : ∀ p, p < 27 → EY p
  | 0, _ => EY_0
  | 1, _ => EY_1
  | 2, _ => EY_2
  | 3, _ => EY_3
  | 4, _ => EY_4
  | 5, _ => EY_5
  | 6, _ => EY_6
  | 7, _ => EY_7
  | 8, _ => EY_8
  | 9, _ => EY_9
  | 10, _ => EY_10
  | 11, _ => EY_11
  | 12, _ => EY_12
  | 13, _ => EY_13
  | 14, _ => EY_14
  | 15, _ => EY_15
  | 16, _ => EY_16
  | 17, _ => EY_17
  | 18, _ => EY_18
  | 19, _ => EY_19
  | 20, _ => EY_20
  | 21, _ => EY_21
  | 22, _ => EY_22
  | 23, _ => EY_23
  | 24, _ => EY_24
  | 25, _ => EY_25
  | 26, _ => EY_26
  | n + 27, h => absurd h (by omega)

theorem attP_some {p : Nat} {its : List It} (h : atP p its ≠ []) : ∃ v, attP p its = some v := by
  unfold attP vals
  cases e : atP p its with
  | nil => exact absurd e h
  | cons x r => cases multi p <;> exact ⟨_, rfl⟩
theorem attP_nil {p : Nat} {its : List It} (h : atP p its = []) : attP p its = none := by
  unfold attP vals; rw [h]; cases multi p <;> rfl
theorem em_loop {its : List It} (n : Nat) (pk : MV) : ∀ (L : List Nat), (∀ p ∈ L, p < 27) →
    ∃ l', forGo (fun l' s' => exs (rx TT (n + 40) emSc) (forA (stAt emBody 1)) l' s') (forX (stAt emBody 1)) (L.map fun p => .str (nmF p)) lE [mkA pk (attOf its)] = some (.next, l', [mkA pk (attOf its)]) ∧
      (((∀ p ∈ L, atP p its = []) ∧ l' = lE) ∨ ((∃ p ∈ L, atP p its ≠ []) ∧ ∃ q, l' = lE2 q))
  | [], _ => ⟨lE, rfl, .inl ⟨(fun _ h => nomatch h), rfl⟩⟩
  | p :: L, hL => by
    have hp := hL p (.head _)
    by_cases e : atP p its = []
    · obtain ⟨l', h1, h2⟩ := em_loop n pk L fun q hq => hL q (.tail _ hq)
      refine ⟨l', forGo_next (l1 := lE1 p) (S1 := [mkA pk (attOf its)]) ?_ ?_, ?_⟩
      · rw [mkA_none hp (attP_nil e)]
        exact EN_all p hp n pk _
      · have : restr lE (lE1 p) = lE := by kernel_rfl
        rw [this]; exact h1
      · rcases h2 with ⟨h2, h3⟩ | ⟨⟨q, h2, h3⟩, h4⟩
        · exact .inl ⟨fun q hq => by rcases List.mem_cons.mp hq with rfl | hq; exact e; exact h2 q hq, h3⟩
        · exact .inr ⟨⟨q, .tail _ h2, h3⟩, h4⟩
    · obtain ⟨v, hv⟩ := attP_some e
      refine ⟨lE2 p, forGo_brk ?_, .inr ⟨⟨p, .head _, e⟩, p, rfl⟩⟩
      rw [mkA_some hp hv]
      exact EY_all p hp n pk _ v
theorem em_cut : emBody = [stAt emBody 0, stAt emBody 1, stAt emBody 2] := by kernel_rfl
theorem em_src (n : Nat) (pk : MV) (f : Att) : source TT lE (forI (stAt emBody 1)) ((run TT (n + 40)).ev emSc lE) [mkA pk f] = some ((List.range 27).map fun p => .str (nmF p), [mkA pk f]) := by kernel_rfl
def nilB : List It → Bool
  | [] => true
  | _ => false
theorem em_ok {its : List It} (H : ∀ x ∈ its, x.1 < 27) (n : Nat) (pk : MV) :
    (run TT (n + 60)).ca 269 [.obj 0] [mkA pk (attOf its)] = some (.val (.bool (nilB its)), [mkA pk (attOf its)]) := by
  obtain ⟨l', h1, h2⟩ := em_loop (its := its) (n + 18) pk (List.range 27) (fun p hp => by simpa using hp)
  refine ca_of (n := n + 59) (fn := mtAt 19 7) (l := [("self", .obj 0)]) (fl := .ret (.bool (nilB its))) (l' := l') (by kernel_rfl) (by kernel_rfl) ?_ rfl
  show exs (rx TT (n + 59) emSc) emBody _ _ = _
  rw [em_cut]
  refine exs_nx (l1 := lE) (S1 := [mkA pk (attOf its)]) (by kernel_rfl) (exs_nx (l1 := l') (S1 := [mkA pk (attOf its)]) ?_ (exs_out ?_ (by intro h; cases h)))
  · exact ex_for (by kernel_rfl) (by kernel_rfl) (by kernel_rfl) (em_src (n + 18) pk _) h1
  · refine ex_ret (n := n + 58) (by kernel_rfl) ?_
    rcases h2 with ⟨h2, rfl⟩ | ⟨⟨p, _, h2⟩, q, rfl⟩
    · have : its = [] := by
        cases its with
        | nil => rfl
        | cons x r =>
          have hx := H x (.head _)
          have := h2 x.1 (by simpa using hx)
          unfold atP at this
          rw [List.filter_cons, Nat.beq_refl] at this
          cases this
      subst this
      kernel_rfl
    · cases its with
      | nil => exact absurd rfl h2
      | cons x r => kernel_rfl
end Mine
namespace Mine
set_option maxRecDepth 100000
open PySem
def upBody : List Stmt := (mtAt 19 12).body
def upSc : Scope := (mtAt 19 12).scope
def upC : Expr := match stAt upBody 3 with | .While c _ _ _ => c | _ => noE
def upW : List Stmt := forA (stAt upBody 3)
def lU (b : List Nat) (m L V : Nat) : Loc := [("self", .obj 1), ("buffer", .bytes b), ("propslen", .int (.ofNat L)), ("VBIlen", .int (.ofNat V)), ("propslenleft", .int (.ofNat m))]
def lUh (d ty : Nat) (b : List Nat) (m L V : Nat) : Loc := [("self", .obj 1), ("buffer", .bytes b), ("propslen", .int (.ofNat L)), ("VBIlen", .int (.ofNat V)), ("propslenleft", .int (.ofNat m)),
  ("identifier", .int (.ofNat d)), ("VBIlen2", .int 1), ("attr_type", .int (.ofNat ty))]
def lUv (d ty : Nat) (v : MV) (k : Nat) (b : List Nat) (m L V : Nat) : Loc := [("self", .obj 1), ("buffer", .bytes b), ("propslen", .int (.ofNat L)), ("VBIlen", .int (.ofNat V)), ("propslenleft", .int (.ofNat m)),
  ("identifier", .int (.ofNat d)), ("VBIlen2", .int 1), ("attr_type", .int (.ofNat ty)), ("value", v), ("valuelen", .int (.ofNat k))]
def lU1 (p : Nat) (v : MV) (k : Nat) (b : List Nat) (m L V : Nat) : Loc := [("self", .obj 1), ("buffer", .bytes b), ("propslen", .int (.ofNat L)), ("VBIlen", .int (.ofNat V)), ("propslenleft", .int (.ofNat m)),
  ("identifier", .int (.ofNat (idn p))), ("VBIlen2", .int 1), ("attr_type", .int (.ofNat (tyOf (kd p)))), ("value", v), ("valuelen", .int (.ofNat k)), ("propname", .str (nmF p)), ("compressedName", .str (nmL p))]
def UB (p : Nat) : Prop := ∀ (n : Nat) (b0 : Att) (pk : MV) (f : Att) (rest : List Nat) (m L V : Nat),
  exs (rx TT (n + 50) upSc) (upW.take 4) (lU (idn p :: rest) (m + 1) L V) [b0, mkA pk f] = some (.next, lUh (idn p) (tyOf (kd p)) rest m L V, [b0, mkA pk f])
def UC (k : Nat) (v : MV) (c : List Nat) : Prop := ∀ (n : Nat) (b0 : Att) (pk : MV) (f : Att) (rest : List Nat) (d m L V : Nat),
  exs (rx TT (n + 50) upSc) ((upW.drop 4).take 3) (lUh d (tyOf k) (c ++ rest) (m + c.length) L V) [b0, mkA pk f] = some (.next, lUv d (tyOf k) v c.length rest m L V, [b0, mkA pk f])
def UD (p : Nat) : Prop := ∀ (n : Nat) (S : Sto) (b0 : Att) (pk : MV) (f : Att) (v : MV) (k : Nat) (rest : List Nat) (m L V : Nat),
  exs (rx TT (n + 50) upSc) ((upW.drop 7).take 2) (lUv (idn p) (tyOf (kd p)) v k rest m L V) [b0, mkA pk f] = some (.next, lU1 p v k rest m L V, [b0, mkA pk f])
def UA (p : Nat) (v : MV) (c : List Nat) : Prop := ∀ (n : Nat) (b0 : Att) (pk : MV) (f : Att) (rest : List Nat) (m L V : Nat),
  exs (rx TT (n + 50) upSc) (upW.take 9) (lU ((idn p :: c) ++ rest) (m + (c.length + 1)) L V) [b0, mkA pk f] = some (.next, lU1 p v c.length rest m L V, [b0, mkA pk f])
def UI (p : Nat) : Prop := ∀ (n : Nat) (b0 : Att) (pk : MV) (f : Att) (v : MV) (k : Nat) (rest : List Nat) (m L V : Nat),
  rx TT (n + 50) upSc (lU1 p v k rest m L V) [b0, mkA pk (match multi p with | true => f | false => noF f (nmS p))] (stAt upW 9) = some (.next, lU1 p v k rest m L V, [b0, mkA pk (match multi p with | true => f | false => noF f (nmS p))])
theorem uc_0_0 : UC 0 (dm 0 0).1 (dm 0 0).2 := by intro n b0 pk f rest d m L V; kernel_rfl
theorem uc_0_1 : UC 0 (dm 0 1).1 (dm 0 1).2 := by intro n b0 pk f rest d m L V; kernel_rfl
theorem uc_0 : ∀ x ∈ domK 0, UC 0 x.1 x.2 := by
  simp only [domK, List.forall_mem_cons]
  exact ⟨uc_0_0, uc_0_1, fun _ h => nomatch h⟩
theorem uc_1_0 : UC 1 (dm 1 0).1 (dm 1 0).2 := by intro n b0 pk f rest d m L V; kernel_rfl
theorem uc_1_1 : UC 1 (dm 1 1).1 (dm 1 1).2 := by intro n b0 pk f rest d m L V; kernel_rfl
theorem uc_1 : ∀ x ∈ domK 1, UC 1 x.1 x.2 := by
  simp only [domK, List.forall_mem_cons]
  exact ⟨uc_1_0, uc_1_1, fun _ h => nomatch h⟩
theorem uc_2_0 : UC 2 (dm 2 0).1 (dm 2 0).2 := by intro n b0 pk f rest d m L V; kernel_rfl
theorem uc_2_1 : UC 2 (dm 2 1).1 (dm 2 1).2 := by intro n b0 pk f rest d m L V; kernel_rfl
theorem uc_2_2 : UC 2 (dm 2 2).1 (dm 2 2).2 := by intro n b0 pk f rest d m L V; kernel_rfl
theorem uc_2_3 : UC 2 (dm 2 3).1 (dm 2 3).2 := by intro n b0 pk f rest d m L V; kernel_rfl
theorem uc_2 : ∀ x ∈ domK 2, UC 2 x.1 x.2 := by
  simp only [domK, List.forall_mem_cons]
  exact ⟨uc_2_0, uc_2_1, uc_2_2, uc_2_3, fun _ h => nomatch h⟩
theorem uc_3_0 : UC 3 (dm 3 0).1 (dm 3 0).2 := by intro n b0 pk f rest d m L V; kernel_rfl
theorem uc_3_1 : UC 3 (dm 3 1).1 (dm 3 1).2 := by intro n b0 pk f rest d m L V; kernel_rfl
theorem uc_3_2 : UC 3 (dm 3 2).1 (dm 3 2).2 := by intro n b0 pk f rest d m L V; kernel_rfl
theorem uc_3 : ∀ x ∈ domK 3, UC 3 x.1 x.2 := by
  simp only [domK, List.forall_mem_cons]
  exact ⟨uc_3_0, uc_3_1, uc_3_2, fun _ h => nomatch h⟩
theorem uc_4_0 : UC 4 (dm 4 0).1 (dm 4 0).2 := by intro n b0 pk f rest d m L V; kernel_rfl
theorem uc_4_1 : UC 4 (dm 4 1).1 (dm 4 1).2 := by intro n b0 pk f rest d m L V; kernel_rfl
theorem uc_4_2 : UC 4 (dm 4 2).1 (dm 4 2).2 := by intro n b0 pk f rest d m L V; kernel_rfl
theorem uc_4_3 : UC 4 (dm 4 3).1 (dm 4 3).2 := by intro n b0 pk f rest d m L V; kernel_rfl
theorem uc_4 : ∀ x ∈ domK 4, UC 4 x.1 x.2 := by
  simp only [domK, List.forall_mem_cons]
  exact ⟨uc_4_0, uc_4_1, uc_4_2, uc_4_3, fun _ h => nomatch h⟩
theorem uc_5_0 : UC 5 (dm 5 0).1 (dm 5 0).2 := by intro n b0 pk f rest d m L V; kernel_rfl
theorem uc_5_1 : UC 5 (dm 5 1).1 (dm 5 1).2 := by intro n b0 pk f rest d m L V; kernel_rfl
theorem uc_5_2 : UC 5 (dm 5 2).1 (dm 5 2).2 := by intro n b0 pk f rest d m L V; kernel_rfl
theorem uc_5 : ∀ x ∈ domK 5, UC 5 x.1 x.2 := by
  simp only [domK, List.forall_mem_cons]
  exact ⟨uc_5_0, uc_5_1, uc_5_2, fun _ h => nomatch h⟩
theorem uc_6_0 : UC 6 (dm 6 0).1 (dm 6 0).2 := by intro n b0 pk f rest d m L V; kernel_rfl
theorem uc_6_1 : UC 6 (dm 6 1).1 (dm 6 1).2 := by intro n b0 pk f rest d m L V; kernel_rfl
theorem uc_6_2 : UC 6 (dm 6 2).1 (dm 6 2).2 := by intro n b0 pk f rest d m L V; kernel_rfl
theorem uc_6_3 : UC 6 (dm 6 3).1 (dm 6 3).2 := by intro n b0 pk f rest d m L V; kernel_rfl
theorem uc_6_4 : UC 6 (dm 6 4).1 (dm 6 4).2 := by intro n b0 pk f rest d m L V; kernel_rfl
theorem uc_6 : ∀ x ∈ domK 6, UC 6 x.1 x.2 := by
  simp only [domK, List.forall_mem_cons]
  exact ⟨uc_6_0, uc_6_1, uc_6_2, uc_6_3, uc_6_4, fun _ h => nomatch h⟩
theorem uc_7_0 (r : Nat) : UC 7 (octV 0 r).1 (octV 0 r).2 := by intro n b0 pk f rest d m L V; kernel_rfl
theorem uc_7_1 (r : Nat) : UC 7 (octV 1 r).1 (octV 1 r).2 := by intro n b0 pk f rest d m L V; kernel_rfl
theorem uc_7_130 (r : Nat) : UC 7 (octV 130 r).1 (octV 130 r).2 := by intro n b0 pk f rest d m L V; kernel_rfl
theorem uc_8_0 : UC 8 (dm 8 0).1 (dm 8 0).2 := by intro n b0 pk f rest d m L V; kernel_rfl
theorem uc_8_1 : UC 8 (dm 8 1).1 (dm 8 1).2 := by intro n b0 pk f rest d m L V; kernel_rfl
theorem uc_8_2 : UC 8 (dm 8 2).1 (dm 8 2).2 := by intro n b0 pk f rest d m L V; kernel_rfl
theorem uc_8_3 : UC 8 (dm 8 3).1 (dm 8 3).2 := by intro n b0 pk f rest d m L V; kernel_rfl
theorem uc_8 : ∀ x ∈ domK 8, UC 8 x.1 x.2 := by
  simp only [domK, List.forall_mem_cons]
  exact ⟨uc_8_0, uc_8_1, uc_8_2, uc_8_3, fun _ h => nomatch h⟩
theorem uc_9_0 : UC 9 (dm 9 0).1 (dm 9 0).2 := by intro n b0 pk f rest d m L V; kernel_rfl
theorem uc_9_1 : UC 9 (dm 9 1).1 (dm 9 1).2 := by intro n b0 pk f rest d m L V; kernel_rfl
theorem uc_9_2 : UC 9 (dm 9 2).1 (dm 9 2).2 := by intro n b0 pk f rest d m L V; kernel_rfl
theorem uc_9_3 : UC 9 (dm 9 3).1 (dm 9 3).2 := by intro n b0 pk f rest d m L V; kernel_rfl
theorem uc_9_4 : UC 9 (dm 9 4).1 (dm 9 4).2 := by intro n b0 pk f rest d m L V; kernel_rfl
theorem uc_9_5 : UC 9 (dm 9 5).1 (dm 9 5).2 := by intro n b0 pk f rest d m L V; kernel_rfl
theorem uc_9_6 : UC 9 (dm 9 6).1 (dm 9 6).2 := by intro n b0 pk f rest d m L V; kernel_rfl
theorem uc_9_7 : UC 9 (dm 9 7).1 (dm 9 7).2 := by intro n b0 pk f rest d m L V; kernel_rfl
theorem uc_9_8 : UC 9 (dm 9 8).1 (dm 9 8).2 := by intro n b0 pk f rest d m L V; kernel_rfl
theorem uc_9_9 : UC 9 (dm 9 9).1 (dm 9 9).2 := by intro n b0 pk f rest d m L V; kernel_rfl
theorem uc_9_10 : UC 9 (dm 9 10).1 (dm 9 10).2 := by intro n b0 pk f rest d m L V; kernel_rfl
theorem uc_9_11 : UC 9 (dm 9 11).1 (dm 9 11).2 := by intro n b0 pk f rest d m L V; kernel_rfl
theorem uc_9_12 : UC 9 (dm 9 12).1 (dm 9 12).2 := by intro n b0 pk f rest d m L V; kernel_rfl
theorem uc_9_13 : UC 9 (dm 9 13).1 (dm 9 13).2 := by intro n b0 pk f rest d m L V; kernel_rfl
theorem uc_9_14 : UC 9 (dm 9 14).1 (dm 9 14).2 := by intro n b0 pk f rest d m L V; kernel_rfl
theorem uc_9_15 : UC 9 (dm 9 15).1 (dm 9 15).2 := by intro n b0 pk f rest d m L V; kernel_rfl
theorem uc_9 : ∀ x ∈ domK 9, UC 9 x.1 x.2 := by
  simp only [domK, List.forall_mem_cons]
  exact ⟨uc_9_0, uc_9_1, uc_9_2, uc_9_3, uc_9_4, uc_9_5, uc_9_6, uc_9_7, uc_9_8, uc_9_9, uc_9_10, uc_9_11, uc_9_12, uc_9_13, uc_9_14, uc_9_15, fun _ h => nomatch h⟩
theorem ucAll : ∀ k, k < 10 → k ≠ 7 → ∀ x ∈ domK k, UC k x.1 x.2
  | 0, _, _ => uc_0
  | 1, _, _ => uc_1
  | 2, _, _ => uc_2
  | 3, _, _ => uc_3
  | 4, _, _ => uc_4
  | 5, _, _ => uc_5
  | 6, _, _ => uc_6
  | 7, _, h => absurd rfl h
  | 8, _, _ => uc_8
  | 9, _, _ => uc_9
  | n + 10, h, _ => absurd h (by omega)
theorem ucGood {p : Nat} {v : MV} {c : List Nat} (hp : p < 27) (h : Good p v c) : UC (kd p) v c := by
  have hk := kd_lt p hp
  unfold Good at h
  split at h
  · rename_i e
    rw [e]
    obtain ⟨j, r, hj, _, rfl, rfl⟩ := h
    rcases hj with rfl | rfl | rfl
    · exact uc_7_0 r
    · exact uc_7_1 r
    · exact uc_7_130 r
  · rename_i ne
    exact ucAll _ hk ne (v, c) h
theorem UI_0 : UI 0 := by intro n b0 pk f v k rest m L V; kernel_rfl
theorem UI_1 : UI 1 := by intro n b0 pk f v k rest m L V; kernel_rfl
theorem UI_2 : UI 2 := by intro n b0 pk f v k rest m L V; kernel_rfl
theorem UI_3 : UI 3 := by intro n b0 pk f v k rest m L V; kernel_rfl
theorem UI_4 : UI 4 := by intro n b0 pk f v k rest m L V; kernel_rfl
theorem UI_5 : UI 5 := by intro n b0 pk f v k rest m L V; kernel_rfl
theorem UI_6 : UI 6 := by intro n b0 pk f v k rest m L V; kernel_rfl
theorem UI_7 : UI 7 := by intro n b0 pk f v k rest m L V; kernel_rfl
theorem UI_8 : UI 8 := by intro n b0 pk f v k rest m L V; kernel_rfl
theorem UI_9 : UI 9 := by intro n b0 pk f v k rest m L V; kernel_rfl
theorem UI_10 : UI 10 := by intro n b0 pk f v k rest m L V; kernel_rfl
theorem UI_11 : UI 11 := by intro n b0 pk f v k rest m L V; kernel_rfl
theorem UI_12 : UI 12 := by intro n b0 pk f v k rest m L V; kernel_rfl
theorem UI_13 : UI 13 := by intro n b0 pk f v k rest m L V; kernel_rfl
theorem UI_14 : UI 14 := by intro n b0 pk f v k rest m L V; kernel_rfl
theorem UI_15 : UI 15 := by intro n b0 pk f v k rest m L V; kernel_rfl
theorem UI_16 : UI 16 := by intro n b0 pk f v k rest m L V; kernel_rfl
theorem UI_17 : UI 17 := by intro n b0 pk f v k rest m L V; kernel_rfl
theorem UI_18 : UI 18 := by intro n b0 pk f v k rest m L V; kernel_rfl
theorem UI_19 : UI 19 := by intro n b0 pk f v k rest m L V; kernel_rfl
theorem UI_20 : UI 20 := by intro n b0 pk f v k rest m L V; kernel_rfl
theorem UI_21 : UI 21 := by intro n b0 pk f v k rest m L V; kernel_rfl
theorem UI_22 : UI 22 := by intro n b0 pk f v k rest m L V; kernel_rfl
theorem UI_23 : UI 23 := by intro n b0 pk f v k rest m L V; kernel_rfl
theorem UI_24 : UI 24 := by intro n b0 pk f v k rest m L V; kernel_rfl
theorem UI_25 : UI 25 := by intro n b0 pk f v k rest m L V; kernel_rfl
theorem UI_26 : UI 26 := by intro n b0 pk f v k rest m L V; kernel_rfl
theorem UI_all : ∀ p, p < 27 → UI p
  | 0, _ => UI_0
  | 1, _ => UI_1
  | 2, _ => UI_2
  | 3, _ => UI_3
  | 4, _ => UI_4
  | 5, _ => UI_5
  | 6, _ => UI_6
  | 7, _ => UI_7
  | 8, _ => UI_8
  | 9, _ => UI_9
  | 10, _ => UI_10
  | 11, _ => UI_11
  | 12, _ => UI_12
  | 13, _ => UI_13
  | 14, _ => UI_14
  | 15, _ => UI_15
  | 16, _ => UI_16
  | 17, _ => UI_17
  | 18, _ => UI_18
  | 19, _ => UI_19
  | 20, _ => UI_20
  | 21, _ => UI_21
  | 22, _ => UI_22
  | 23, _ => UI_23
  | 24, _ => UI_24
  | 25, _ => UI_25
  | 26, _ => UI_26
  | n + 27, h => absurd h (by omega)
/-! the name of an identifier -/
def gnBody : List Stmt := (mtAt 19 11).body
def gnSc : Scope := (mtAt 19 11).scope
def lG (d : Nat) (r : MV) : Loc := [("self", .obj 1), ("identifier", .int (.ofNat d)), ("rc", r)]
def lGn (d : Nat) (r : MV) (q : Nat) : Loc := [("self", .obj 1), ("identifier", .int (.ofNat d)), ("rc", r), ("name", .str (nmF q))]
def gnIf : Stmt := stAt (forA (stAt gnBody 1)) 0
theorem name_item : ∀ p, p < 27 → item TT (.ref 179) (.str (nmF p)) = some (.int (.ofNat (idn p)))
  | 0, _ => by kernel_rfl
  | 1, _ => by kernel_rfl
  | 2, _ => by kernel_rfl
  | 3, _ => by kernel_rfl
  | 4, _ => by kernel_rfl
  | 5, _ => by kernel_rfl
  | 6, _ => by kernel_rfl
  | 7, _ => by kernel_rfl
  | 8, _ => by kernel_rfl
  | 9, _ => by kernel_rfl
  | 10, _ => by kernel_rfl
  | 11, _ => by kernel_rfl
  | 12, _ => by kernel_rfl
  | 13, _ => by kernel_rfl
  | 14, _ => by kernel_rfl
  | 15, _ => by kernel_rfl
  | 16, _ => by kernel_rfl
  | 17, _ => by kernel_rfl
  | 18, _ => by kernel_rfl
  | 19, _ => by kernel_rfl
  | 20, _ => by kernel_rfl
  | 21, _ => by kernel_rfl
  | 22, _ => by kernel_rfl
  | 23, _ => by kernel_rfl
  | 24, _ => by kernel_rfl
  | 25, _ => by kernel_rfl
  | 26, _ => by kernel_rfl
  | n + 27, h => absurd h (by omega)
theorem id_beq : ∀ q, q < 27 → ∀ p, p < 27 → ibeq (.ofNat (idn q)) (.ofNat (idn p)) = Nat.beq q p := by decide +kernel
theorem gn_cut : gnBody = [stAt gnBody 0, stAt gnBody 1, stAt gnBody 2] := by kernel_rfl
theorem gn_cutT : forA (stAt gnBody 1) = [gnIf] := by kernel_rfl
theorem gn_if : isIf gnIf = true ∧ ifB gnIf = [] ∧ isCmp1 (ifT gnIf) = true := by refine ⟨?_, ?_, ?_⟩ <;> kernel_rfl
theorem gn_yes (d : Nat) (r : MV) (q : Nat) (S : Sto) (n : Nat) : exs (rx TT (n + 20) gnSc) (ifA gnIf) (lGn d r q) S = some (.next, lGn d (.str (nmF q)) q, S) := by kernel_rfl
theorem gn_turn {p q : Nat} (hp : p < 27) (hq : q < 27) (r : MV) (b0 : Att) (pk : MV) (f : Att) (n : Nat) :
    exs (rx TT (n + 30) gnSc) (forA (stAt gnBody 1)) (lGn (idn p) r q) [b0, mkA pk f] = some (.next, lGn (idn p) (match Nat.beq q p with | true => .str (nmF q) | false => r) q, [b0, mkA pk f]) := by
  rw [gn_cutT]
  refine exs_nx ?_ rfl
  have hc : cmp (cmO (ifT gnIf)) (.int (.ofNat (idn q))) (.int (.ofNat (idn p))) = some (Nat.beq q p) := by
    rw [← id_beq q hq p hp]; kernel_rfl
  refine ex_if (n := n + 29) (S1 := [b0, mkA pk f]) gn_if.1 (tr_cmp (n := n + 28) gn_if.2.2 (S1 := [b0, mkA pk f]) (S2 := [b0, mkA pk f]) (ev_sub (n := n + 27) (a := .ref 179) (b := .str (nmF q)) (S1 := [b0, mkA pk f]) (by kernel_rfl) (by kernel_rfl) (by kernel_rfl) (name_item q hq)) (by kernel_rfl) hc) ?_
  cases e : Nat.beq q p with
  | true => exact gn_yes (idn p) r q _ (n + 9)
  | false =>
    show exs _ (ifB gnIf) _ _ = _
    rw [gn_if.2.1]; rfl
theorem gn_loop {p : Nat} (hp : p < 27) (b0 : Att) (pk : MV) (f : Att) (n : Nat) : ∀ (L : List Nat) (r : MV), (∀ q ∈ L, q < 27) → (p ∈ L ∨ r = .str (nmF p)) →
    forGo (fun l' s' => exs (rx TT (n + 30) gnSc) (forA (stAt gnBody 1)) l' s') (forX (stAt gnBody 1)) (L.map fun q => .str (nmF q)) (lG (idn p) r) [b0, mkA pk f] = some (.next, lG (idn p) (.str (nmF p)), [b0, mkA pk f])
  | [], r, _, h => by
    rcases h with h | rfl
    · cases h
    · rfl
  | q :: L, r, hL, h => by
    have hq := hL q (.head _)
    refine forGo_next (l1 := lGn (idn p) (match Nat.beq q p with | true => .str (nmF q) | false => r) q) (S1 := [b0, mkA pk f]) (gn_turn hp hq r b0 pk f n) ?_
    have e : restr (lG (idn p) r) (lGn (idn p) (match Nat.beq q p with | true => .str (nmF q) | false => r) q) = lG (idn p) (match Nat.beq q p with | true => .str (nmF q) | false => r) := by kernel_rfl
    rw [e]
    refine gn_loop hp b0 pk f n L _ (fun z hz => hL z (.tail _ hz)) ?_
    cases e2 : Nat.beq q p with
    | true => rw [Nat.eq_of_beq_eq_true e2]; exact .inr rfl
    | false =>
      rcases h with h | h
      · rcases List.mem_cons.mp h with h | h
        · rw [h, Nat.beq_refl] at e2; cases e2
        · exact .inl h
      · exact .inr h
theorem gn_src (d : Nat) (b0 : Att) (pk : MV) (f : Att) (n : Nat) : source TT (lG d .none) (forI (stAt gnBody 1)) ((run TT (n + 20)).ev gnSc (lG d .none)) [b0, mkA pk f] = some ((List.range 27).map fun q => .str (nmF q), [b0, mkA pk f]) := by kernel_rfl
theorem gnAll {p : Nat} (hp : p < 27) (b0 : Att) (pk : MV) (f : Att) (n : Nat) : (run TT (n + 35)).ca 297 [.obj 1, .int (.ofNat (idn p))] [b0, mkA pk f] = some (.val (.str (nmF p)), [b0, mkA pk f]) := by
  refine ca_of (n := n + 34) (fn := mtAt 19 11) (l := [("self", .obj 1), ("identifier", .int (.ofNat (idn p)))]) (fl := .ret (.str (nmF p))) (l' := lG (idn p) (.str (nmF p))) (by kernel_rfl) (by kernel_rfl) ?_ rfl
  show exs (rx TT (n + 34) gnSc) gnBody _ _ = _
  rw [gn_cut]
  refine exs_nx (l1 := lG (idn p) .none) (S1 := [b0, mkA pk f]) (by kernel_rfl) (exs_nx (l1 := lG (idn p) (.str (nmF p))) (S1 := [b0, mkA pk f]) ?_ (exs_out (by kernel_rfl) (by intro h; cases h)))
  exact ex_for (n := n + 33) (by kernel_rfl) (by kernel_rfl) (by kernel_rfl) (gn_src (idn p) b0 pk f (n + 13)) (gn_loop hp b0 pk f (n + 3) (List.range 27) .none (fun q hq => by simpa using hq) (.inl (by simpa using hp)))
theorem upW7 : (upW.drop 7).take 2 = [stAt upW 7, stAt upW 8] := by kernel_rfl
def lUp (p : Nat) (v : MV) (k : Nat) (b : List Nat) (m L V : Nat) : Loc := [("self", .obj 1), ("buffer", .bytes b), ("propslen", .int (.ofNat L)), ("VBIlen", .int (.ofNat V)), ("propslenleft", .int (.ofNat m)),
  ("identifier", .int (.ofNat (idn p))), ("VBIlen2", .int 1), ("attr_type", .int (.ofNat (tyOf (kd p)))), ("value", v), ("valuelen", .int (.ofNat k)), ("propname", .str (nmF p))]
theorem UD_all (p : Nat) (hp : p < 27) : UD p := by
  intro n S b0 pk f v k rest m L V
  rw [upW7]
  have H := ex_asgn (T := TT) (n := n + 49) (sc := upSc) (l := lUv (idn p) (tyOf (kd p)) v k rest m L V) (t := stAt upW 7) (S := [b0, mkA pk f]) (S1 := [b0, mkA pk f]) (v := .str (nmF p)) (by kernel_rfl) (by kernel_rfl) (by kernel_rfl) ?_
  · have e : put (asgX (stAt upW 7)) (.str (nmF p)) (lUv (idn p) (tyOf (kd p)) v k rest m L V) = lUp p v k rest m L V := by kernel_rfl
    rw [e] at H
    exact exs_nx H (exs_nx (l1 := lU1 p v k rest m L V) (S1 := [b0, mkA pk f]) (by kernel_rfl) rfl)
  · refine ev_meth (n := n + 48) (by kernel_rfl) ?_
    rw [evCall_meth (T := TT) (k := 1) (f := 297) (vs := [.int (.ofNat (idn p))]) (S1 := [b0, mkA pk f]) (by kernel_rfl) (by kernel_rfl) (by kernel_rfl) (by kernel_rfl) (by kernel_rfl)]
    exact gnAll hp b0 pk f (n + 13)
def lUd (d : Nat) (b : List Nat) (m L V : Nat) : Loc := [("self", .obj 1), ("buffer", .bytes b), ("propslen", .int (.ofNat L)), ("VBIlen", .int (.ofNat V)), ("propslenleft", .int (.ofNat m)), ("identifier", .int (.ofNat d)), ("VBIlen2", .int 1)]
theorem ub_1 (d : Nat) (rest : List Nat) (m L V : Nat) (S : Sto) (n : Nat) : exs (rx TT (n + 40) upSc) ((upW.drop 1).take 2) (lUd d (d :: rest) (m + 1) L V) S = some (.next, lUd d rest m L V, S) := by kernel_rfl
theorem upW4 : upW.take 4 = stAt upW 0 :: ((upW.drop 1).take 2 ++ [stAt upW 3]) := by kernel_rfl
theorem UB_all (p : Nat) (hp : p < 27) : UB p := by
  intro n b0 pk f rest m L V
  rw [upW4]
  have hd := dec_all (idn p) (Nat.lt_trans (idn_small p hp) (by omega)) (n + 28) [b0, mkA pk f] rest
  have e : hdr (idn p) = [idn p] := by unfold hdr; rw [show Nat.blt (idn p) 128 = true from Nat.blt_eq.mpr (idn_small p hp)]
  rw [e] at hd
  refine exs_nx (l1 := lUd (idn p) (idn p :: rest) (m + 1) L V) (S1 := [b0, mkA pk f]) ?_ (exs_app (ub_1 (idn p) rest m L V _ (n + 10)) (exs_nx (l1 := lUh (idn p) (tyOf (kd p)) rest m L V) (S1 := [b0, mkA pk f]) ?_ rfl))
  · refine ex_tup (n := n + 49) (vs := [.int (.ofNat (idn p)), .int (.ofNat 1)]) (by kernel_rfl) ?_ (by kernel_rfl)
    refine ev_meth (n := n + 48) (by kernel_rfl) ?_
    rw [evCall_smeth (a := 166) (f := 160) (T := TT) (tb := [("encode_number", 150), ("decode_number", 160)]) (vs := [.bytes (idn p :: rest)]) (S1 := [b0, mkA pk f]) (by kernel_rfl) (by kernel_rfl) (by kernel_rfl) (by kernel_rfl) (by kernel_rfl)]
    exact hd
  · have H := ex_asgn (T := TT) (n := n + 49) (sc := upSc) (l := lUd (idn p) rest m L V) (t := stAt upW 3) (S := [b0, mkA pk f]) (S1 := [b0, mkA pk f]) (v := .int (.ofNat (tyOf (kd p)))) (by kernel_rfl) (by kernel_rfl) (by kernel_rfl) ?_
    · have e : put (asgX (stAt upW 3)) (.int (.ofNat (tyOf (kd p)))) (lUd (idn p) rest m L V) = lUh (idn p) (tyOf (kd p)) rest m L V := by kernel_rfl
      rw [e] at H; exact H
    · refine ev_sub (n := n + 48) (a := propV p) (b := .int 0) (S1 := [b0, mkA pk f]) (by kernel_rfl) ?_ (by kernel_rfl) rfl
      exact ev_sub (n := n + 47) (a := .ref 181) (b := .int (.ofNat (idn p))) (S1 := [b0, mkA pk f]) (by kernel_rfl) (by kernel_rfl) (by kernel_rfl) (propAll p hp)
theorem uiAll : ∀ p, p < 27 → UI p := UI_all
theorem upW9 : upW.take 9 = upW.take 4 ++ ((upW.drop 4).take 3 ++ (upW.drop 7).take 2) := by kernel_rfl
theorem uaAll {v : MV} {b : List Nat} (p : Nat) (hp : p < 27) (h : Good p v b) : UA p v b := by
  intro n b0 pk f rest m L V
  rw [upW9]
  have h1 := UB_all p hp n b0 pk f (b ++ rest) (m + b.length) L V
  exact exs_app h1 (exs_app (ucGood hp h n b0 pk f rest (idn p) m L V) (UD_all p hp n [] b0 pk f v b.length rest m L V))
end Mine
namespace Mine
set_option maxRecDepth 100000
open PySem

def headOk : MV → Bool
  | .int _ => true
  | .str _ => true
  | .bytes _ => true
  | .tup _ => true
  | _ => false
theorem domK_head : ∀ k, k < 10 → ∀ x ∈ domK k, headOk x.1 = true := by decide +kernel
theorem Good.head {p : Nat} {v : MV} {b : List Nat} (hp : p < 27) (h : Good p v b) : headOk v = true := by
  have hk := kd_lt p hp
  unfold Good at h
  split at h
  · obtain ⟨j, r, hj, _, rfl, _⟩ := h; rfl
  · exact domK_head _ hk _ h
theorem no_own {v : MV} (h : headOk v = true) : ((some v).bind fun v => match v with | .own _ => none | v => some v) = some v := by
  cases v <;> first | rfl | cases h

section
variable {T : Tab} {r : Rec} {sc : Scope} {l l' l1 : Loc} {S S' S1 S2 : Sto} {n : Nat} {R : Option (Fl × Loc × Sto)} {t : Stmt} {e : Expr}
/-- a call that stands for itself, of other than one argument -/
def isDo : Stmt → Bool | .Expr (.Call _ [_, _] [] _) _ => true | _ => false
theorem ex_do (hi : isDo t = true) (h : evCall T (run T n) sc l S (asE t) = some (.val .none, S1)) : rx T (n + 1) sc l S t = some (.next, l, S1) := by
  unfold isDo at hi
  split at hi
  · rename_i f a b p q
    simp only [asE] at h
    have : rx T (n + 1) sc l S (.Expr (.Call f [a, b] [] p) q) = (match evCall T (run T n) sc l S (.Call f [a, b] [] p) with
      | some (.val .none, s') => some (.next, l, s')
      | _ => none) := by cases f <;> first | rfl | (rename_i o _ _; cases o <;> rfl)
    rw [this, h]
  · cases hi
end

theorem up_cutW : upW = upW.take 9 ++ [stAt upW 9, stAt upW 10] := by kernel_rfl
theorem up_arg {p : Nat} {v : MV} (hv : headOk v = true) (n : Nat) (S : Sto) (k : Nat) (rest : List Nat) (m L V : Nat) : evs ((run TT (n + 40)).ev upSc (lU1 p v k rest m L V)) (mA (asE (stAt upW 10))) S = some ([.str (nmF p), v], S) := by
  cases v <;> first | (cases hv; done) | kernel_rfl
theorem up_self {p : Nat} {v : MV} (n : Nat) (S : Sto) (k : Nat) (rest : List Nat) (m L V : Nat) : (run TT (n + 40)).ev upSc (lU1 p v k rest m L V) S (mO (asE (stAt upW 10))) = some (.obj 1, S) := by kernel_rfl
theorem multi_ins {p : Nat} {v : MV} {c : List Nat} {its : List It} (h : multi p = false → atP p its = []) : ins p v c its = its ++ [(p, v, c)] := by
  unfold ins
  cases hm : multi p with
  | true => rfl
  | false =>
    have h := h hm
    have : (its.filter fun x => !Nat.beq x.1 p) = its := by
      rw [List.filter_eq_self]
      intro x hx
      cases e : Nat.beq x.1 p with
      | false => rfl
      | true =>
        have : x ∈ atP p its := List.mem_filter.mpr ⟨hx, e⟩
        rw [h] at this; cases this
    rw [this]
theorem up_turn {p : Nat} (hp : p < 27) {v : MV} {c : List Nat} (hg : Good p v c) {its : List It} (hl : its.length ≤ 4) (hu : multi p = false → atP p its = []) {pk : Int} (hpk : anyInt pk (whr p) = true) (n : Nat) (b0 : Att) (rest : List Nat) (m L V : Nat) :
    exs (rx TT (n + 60) upSc) upW (lU ((idn p :: c) ++ rest) (m + (c.length + 1)) L V) [b0, mkA (.int pk) (attOf its)] = some (.next, lU1 p v c.length rest m L V, [b0, mkA (.int pk) (attOf (its ++ [(p, v, c)]))]) := by
  rw [up_cutW]
  refine exs_app (uaAll p hp hg (n + 10) b0 _ _ rest m L V) (exs_nx (l1 := lU1 p v c.length rest m L V) (S1 := [b0, mkA (.int pk) (attOf its)]) ?_ (exs_nx ?_ rfl))
  · have h := uiAll p hp (n + 10) b0 (.int pk) (attOf its) v c.length rest m L V
    cases hm : multi p with
    | true => rw [hm] at h; exact h
    | false =>
      rw [hm] at h
      rw [mkA_none hp (attP_nil (hu hm))]; exact h
  · refine ex_do (n := n + 59) (by kernel_rfl) ?_
    rw [evCall_meth (T := TT) (k := 1) (f := 262) (by kernel_rfl) (up_self (n + 19) _ _ _ _ _ _) (up_arg (hg.head hp) (n + 19) _ _ _ _ _ _) (by kernel_rfl) (by kernel_rfl)]
    rw [← multi_ins hu]
    exact set_put hp (.inl rfl) hg hl hpk (o := some b0) (n := n + 17)
theorem up_go (n : Nat) (m : Nat) (rest : List Nat) (L V : Nat) (S : Sto) : (run TT (n + 40)).tr upSc (lU rest (m + 1) L V) S (whC (stAt upBody 3)) = some (true, S) := by kernel_rfl
theorem up_stop (n : Nat) (rest : List Nat) (L V : Nat) (S : Sto) : (run TT (n + 40)).tr upSc (lU rest 0 L V) S (whC (stAt upBody 3)) = some (false, S) := by kernel_rfl
theorem up_restr (p : Nat) (v : MV) (k k' : Nat) (b rest : List Nat) (m L V : Nat) : restr (lU b k' L V) (lU1 p v k rest m L V) = lU rest m L V := by kernel_rfl

theorem up_loop {pk : Int} (b0 : Att) (rest : List Nat) (Lp V : Nat) (n : Nat) : ∀ (L its : List It), (∀ x ∈ L, x.1 < 27 ∧ Good x.1 x.2.1 x.2.2 ∧ anyInt pk (whr x.1) = true) → its.length + L.length ≤ 5 → (∀ p, p < 27 → multi p = false → (atP p (its ++ L)).length ≤ 1) →
    (run TT (n + 61 + L.length)).wh upSc (whC (stAt upBody 3)) (forA (stAt upBody 3)) (lU (L.flatMap oct1 ++ rest) (L.flatMap oct1).length Lp V) [b0, mkA (.int pk) (attOf its)] = some (.next, lU rest 0 Lp V, [b0, mkA (.int pk) (attOf (its ++ L))])
  | [], its, _, _, _ => by
    rw [List.append_nil]
    exact wh_end (n := n + 60) (up_stop (n + 20) _ _ _ _)
  | x :: L, its, h, hl, hu => by
    obtain ⟨hp, hg, hpk⟩ := h x (.head _)
    rw [List.length_cons] at hl
    have hn : multi x.1 = false → atP x.1 its = [] := fun hm => by
      have := hu x.1 hp hm
      have hx : (x :: L) = [x] ++ L := rfl
      rw [hx, atP_app, atP_app] at this
      have hx1 : atP x.1 [x] = [x] := by unfold atP; rw [List.filter_cons, Nat.beq_refl]; rfl
      rw [hx1] at this
      simp only [List.length_append, List.length_cons, List.length_nil] at this
      exact List.eq_nil_of_length_eq_zero (by omega)
    have ih := up_loop (pk := pk) b0 rest Lp V n L (its ++ [x]) (fun y hy => h y (.tail _ hy)) (by rw [List.length_append, List.length_cons, List.length_nil]; omega) (fun p hp hm => by rw [List.append_assoc]; exact hu p hp hm)
    rw [List.append_assoc] at ih
    have e1 : ((x :: L).flatMap oct1 ++ rest) = (idn x.1 :: x.2.2) ++ (L.flatMap oct1 ++ rest) := by
      rw [List.flatMap_cons, List.append_assoc]; rfl
    have e2 : ((x :: L).flatMap oct1).length = (L.flatMap oct1).length + (x.2.2.length + 1) := by
      rw [List.flatMap_cons, List.length_append]; unfold oct1; rw [List.length_cons]; omega
    rw [e1, e2]
    have e3 : n + 61 + (x :: L).length = (n + 61 + L.length) + 1 := by rw [List.length_cons]; omega
    rw [e3]
    refine wh_next (n := n + 61 + L.length) (S1 := [b0, mkA (.int pk) (attOf its)]) (l1 := lU1 x.1 x.2.1 x.2.2.length (L.flatMap oct1 ++ rest) (L.flatMap oct1).length Lp V) (S2 := [b0, mkA (.int pk) (attOf (its ++ [x]))]) ?_ ?_ ?_
    · have e4 : n + 61 + L.length = (n + 21 + L.length) + 40 := by omega
      rw [e4]
      exact up_go _ _ _ _ _ _
    · have e4 : n + 61 + L.length = (n + 1 + L.length) + 60 := by omega
      rw [e4]
      exact up_turn hp hg (by omega) hn hpk _ b0 _ _ Lp V
    · rw [up_restr]; exact ih
end Mine
namespace Mine
set_option maxRecDepth 100000
open PySem

theorem atP_atP_self (p : Nat) (its : List It) : atP p (atP p its) = atP p its := by
  unfold atP; rw [List.filter_filter]; simp
theorem atP_atP_ne {p q : Nat} (h : q ≠ p) (its : List It) : atP p (atP q its) = [] := by
  unfold atP
  rw [List.filter_filter, List.filter_eq_nil_iff]
  intro x _
  cases e : Nat.beq x.1 p with
  | false => simp
  | true =>
    cases e2 : Nat.beq x.1 q with
    | false => simp
    | true => exact absurd ((Nat.eq_of_beq_eq_true e2).symm.trans (Nat.eq_of_beq_eq_true e)) h
theorem atP_flat_no (p : Nat) (its : List It) : ∀ L : List Nat, p ∉ L → atP p (L.flatMap fun q => atP q its) = []
  | [], _ => rfl
  | q :: L, h => by
    rw [List.flatMap_cons, atP_app, atP_atP_ne (fun e => h (by rw [e]; exact .head _)), atP_flat_no p its L fun e => h (.tail _ e)]
    rfl
theorem atP_flat (p : Nat) (its : List It) : ∀ L : List Nat, L.Nodup → p ∈ L → atP p (L.flatMap fun q => atP q its) = atP p its
  | [], _, h => by cases h
  | q :: L, hn, h => by
    rw [List.nodup_cons] at hn
    rw [List.flatMap_cons, atP_app]
    by_cases e : q = p
    · subst e
      rw [atP_atP_self, atP_flat_no q its L hn.1, List.append_nil]
    · rw [atP_atP_ne e, List.nil_append]
      refine atP_flat p its L hn.2 ?_
      rcases List.mem_cons.mp h with h | h
      · exact absurd h.symm e
      · exact h
theorem atP_sorted {p : Nat} (hp : p < 27) (its : List It) : atP p (sorted its) = atP p its := atP_flat p its _ List.nodup_range (by simpa using hp)
theorem mkA_sorted {pk : MV} (its : List It) : mkA pk (attOf (sorted its)) = mkA pk (attOf its) :=
  mkA_ext fun q hq => by
    rw [attOf_nm _ hq, attOf_nm _ hq]
    unfold attP vals
    rw [atP_sorted hq]

theorem up_cut : upBody = [stAt upBody 0, stAt upBody 1, stAt upBody 2, stAt upBody 3, stAt upBody 4] := by kernel_rfl
def lV (b : List Nat) (L V : Nat) : Loc := [("self", .obj 1), ("buffer", .bytes b), ("propslen", .int (.ofNat L)), ("VBIlen", .int (.ofNat V))]
theorem up_sl1 (n : Nat) (S : Sto) (x : Nat) (X : List Nat) (L : Nat) : rx TT (n + 40) upSc (lV ([x] ++ X) L 1) S (stAt upBody 1) = some (.next, lV X L 1, S) := by kernel_rfl
theorem up_sl2 (n : Nat) (S : Sto) (x y : Nat) (X : List Nat) (L : Nat) : rx TT (n + 40) upSc (lV ([x, y] ++ X) L 2) S (stAt upBody 1) = some (.next, lV X L 2, S) := by kernel_rfl
theorem up_sl (n : Nat) (S : Sto) (X : List Nat) (L : Nat) : rx TT (n + 40) upSc (lV (hdr L ++ X) L (hdr L).length) S (stAt upBody 1) = some (.next, lV X L (hdr L).length, S) := by
  unfold hdr
  cases Nat.blt L 128
  · exact up_sl2 n S _ _ X L
  · exact up_sl1 n S _ X L
theorem unpack_ok {its : List It} (H : RowsOk its) {pk : Int} (hpk : ∀ x ∈ its, anyInt pk (whr x.1) = true) (n : Nat) (b0 : Att) (rest : List Nat) :
    (run TT (n + 100)).ca 304 [.obj 1, .bytes (packed its ++ rest)] [b0, mkA (.int pk) (attOf [])] = some (.val (.tup [.obj 1, .int (.ofNat (packed its).length)]), [b0, mkA (.int pk) (attOf its)]) := by
  have hL := H.inner_len
  have hlen : (sorted its).length ≤ 5 := Nat.le_trans (sorted_len its) H.len
  refine ca_of (n := n + 99) (fn := mtAt 19 12) (l := [("self", .obj 1), ("buffer", .bytes (packed its ++ rest))]) (fl := .ret (.tup [.obj 1, .int (.ofNat (packed its).length)]))
    (l' := lU rest 0 (inner its).length (hdr (inner its).length).length) (by kernel_rfl) (by kernel_rfl) ?_ rfl
  show exs (rx TT (n + 99) upSc) upBody _ _ = _
  rw [up_cut]
  refine exs_nx (l1 := lV (packed its ++ rest) (inner its).length (hdr (inner its).length).length) (S1 := [b0, mkA (.int pk) (attOf [])]) ?_
    (exs_nx (l1 := lV (inner its ++ rest) (inner its).length (hdr (inner its).length).length) (S1 := [b0, mkA (.int pk) (attOf [])]) ?_
    (exs_nx (l1 := lU (inner its ++ rest) (inner its).length (inner its).length (hdr (inner its).length).length) (S1 := [b0, mkA (.int pk) (attOf [])]) ?_
    (exs_nx (l1 := lU rest 0 (inner its).length (hdr (inner its).length).length) (S1 := [b0, mkA (.int pk) (attOf its)]) ?_
    (exs_out ?_ (by intro h; cases h)))))
  · refine ex_tup (n := n + 98) (vs := [.int (.ofNat (inner its).length), .int (.ofNat (hdr (inner its).length).length)]) (by kernel_rfl) ?_ (by kernel_rfl)
    refine ev_meth (n := n + 97) (by kernel_rfl) ?_
    rw [evCall_smeth (a := 166) (f := 160) (T := TT) (tb := [("encode_number", 150), ("decode_number", 160)]) (vs := [.bytes (packed its ++ rest)]) (S1 := [b0, mkA (.int pk) (attOf [])]) (by kernel_rfl) (by kernel_rfl) (by kernel_rfl) (by kernel_rfl) (by kernel_rfl)]
    have := dec_all (inner its).length (by omega) (n + 77) [b0, mkA (.int pk) (attOf [])] (inner its ++ rest)
    rw [← List.append_assoc] at this
    exact this
  · have := up_sl (n + 59) [b0, mkA (.int pk) (attOf [])] (inner its ++ rest) (inner its).length
    rw [← List.append_assoc] at this
    exact this
  · kernel_rfl
  · refine ex_wh (n := n + 98) (by kernel_rfl) ?_
    have h := up_loop (pk := pk) b0 rest (inner its).length (hdr (inner its).length).length (n + 37 - (sorted its).length) (sorted its) [] (fun x hx => ?_) (by simpa using hlen) (fun p hp hm => ?_)
    · rw [List.nil_append, mkA_sorted, ← inner_eq] at h
      have e : n + 37 - (sorted its).length + 61 + (sorted its).length = n + 98 := by omega
      rw [e] at h
      exact h
    · have hx' := sorted_mem hx
      exact ⟨H.place x hx', H.good x hx', hpk x hx'⟩
    · rw [List.nil_append, atP_sorted hp]
      exact H.uniq p hm
  · have e : (packed its).length = (inner its).length + (hdr (inner its).length).length := by unfold packed; rw [List.length_append]; omega
    rw [e]
    kernel_rfl
end Mine
namespace Mine
set_option maxRecDepth 100000
open PySem

section
variable {T : Tab} {r : Rec} {sc : Scope} {l l' l1 : Loc} {S S' S1 S2 S3 : Sto} {n : Nat} {R : Option (Fl × Loc × Sto)} {t : Stmt} {e : Expr}
def isTup3 : Expr → Bool | .Tuple [a, b, c] _ _ => !isStar a && !isStar b && !isStar c | _ => false
def tupE (e : Expr) (i : Nat) : Expr := match e with | .Tuple es _ _ => exAt es i | _ => noE
theorem evs_cons {f : Sto → Expr → Option (MV × Sto)} {a : Expr} {q : List Expr} {v : MV} {vs : List MV} (hs : isStar a = false) (h : f S a = some (v, S1)) (h2 : evs f q S1 = some (vs, S2)) : evs f (a :: q) S = some (v :: vs, S2) := by
  unfold evs; rw [hs, h]; show (evs f q S1).bind _ = _; rw [h2]; rfl
theorem ev_tup3 {x y z : MV} (hi : isTup3 e = true) (h1 : (run T n).ev sc l S (tupE e 0) = some (x, S1)) (h2 : (run T n).ev sc l S1 (tupE e 1) = some (y, S2)) (h3 : (run T n).ev sc l S2 (tupE e 2) = some (z, S3)) :
    (run T (n + 1)).ev sc l S e = some (.tup [x, y, z], S3) := by
  unfold isTup3 at hi
  split at hi
  · rename_i a b c p q
    have h1 : (run T n).ev sc l S a = some (x, S1) := h1
    have h2 : (run T n).ev sc l S1 b = some (y, S2) := h2
    have h3 : (run T n).ev sc l S2 c = some (z, S3) := h3
    simp only [Bool.and_eq_true, Bool.not_eq_true'] at hi
    show (evs ((run T n).ev sc l) [a, b, c] S).map _ = _
    rw [evs_cons hi.1.1 h1 (evs_cons hi.1.2 h2 (evs_cons (q := []) hi.2 h3 rfl))]
    rfl
  · cases hi
end

theorem fmod_cases (i : Int) (m : Nat) : ∃ c, c < m + 1 ∧ Int.fmod i (.ofNat (m + 1)) = .ofNat c := by
  have h1 : (0 : Int) < Int.ofNat (m + 1) := by simp only [Int.ofNat_eq_natCast]; omega
  have h2 := Int.fmod_nonneg_of_pos i h1
  have h3 := Int.fmod_lt_of_pos i h1
  refine ⟨(Int.fmod i (.ofNat (m + 1))).toNat, ?_, ?_⟩
  · simp only [Int.ofNat_eq_natCast] at h2 h3 ⊢; omega
  · simp only [Int.ofNat_eq_natCast] at h2 h3 ⊢; omega

def lvBody : List Stmt := (fnAt 28).body
def lvSc : Scope := (fnAt 28).scope
def kNm (k : Nat) : List Nat := (getL [[102, 108, 97, 103], [98, 121, 116, 101], [116, 119, 111], [116, 119, 111, 43], [102, 111, 117, 114], [102, 111, 117, 114, 43], [99, 111, 117, 110, 116], [111, 99, 116, 101, 116, 115], [116, 101, 120, 116], [112, 97, 105, 114]] k).getD []
def lvL (k : Nat) (i : Int) : Loc := [("kind", .str (kNm k)), ("n", .int i)]
def addL (l e : Loc) : Loc := l ++ e
/-- what the law's table gives for a kind and a number -/
def LV (k : Nat) (i : Int) (v : MV) (o : List Nat) (rt : Bool) : Prop := ∀ (n : Nat) (S : Sto), (run TT (n + 60)).ca 382 [.str (kNm k), .int i] S = some (.val (.tup [v, .bytes o, .bool rt]), S)
def GoodK (k : Nat) (v : MV) (o : List Nat) : Prop := match k with
  | 7 => ∃ j r, (j = 0 ∨ j = 1 ∨ j = 130) ∧ r < 256 ∧ v = .bytes (List.replicate j r) ∧ o = 0 :: j :: List.replicate j r
  | k => (v, o) ∈ domK k
theorem good_of {p : Nat} {v : MV} {o : List Nat} (h : GoodK (kd p) v o) : Good p v o := h
def BadK (k : Nat) (v : MV) : Prop := match k with
  | 0 => v = .int 2
  | 3 => v = .int 0
  | 5 => v = .int 0
  | 6 => v = .int 0 ∨ v = .int 268435456
  | _ => False
def LVs (k : Nat) (i : Int) : Prop := ∃ v o, headOk v = true ∧ ((LV k i v o true ∧ GoodK k v o) ∨ (LV k i v o false ∧ BadK k v))

/-- the statements before the one for the kind -/
theorem lv_of {k : Nat} {i : Int} {v : MV} {o : List Nat} {rt : Bool} (j : Nat) (hc : lvBody = lvBody.take j ++ lvBody.drop j)
    (hp : ∀ (n : Nat) (S : Sto), exs (rx TT (n + 50) lvSc) (lvBody.take j) (lvL k i) S = some (.next, lvL k i, S))
    (h : ∀ (n : Nat) (S : Sto), ∃ l', exs (rx TT (n + 50) lvSc) (lvBody.drop j) (lvL k i) S = some (.ret (.tup [v, .bytes o, .bool rt]), l', S)) : LV k i v o rt := by
  intro n S
  obtain ⟨l', h⟩ := h (n + 9) S
  refine ca_of (n := n + 59) (fn := fnAt 28) (l := lvL k i) (fl := .ret _) (l' := l') (by kernel_rfl) (by kernel_rfl) ?_ rfl
  show exs (rx TT (n + 59) lvSc) lvBody _ _ = _
  rw [hc]
  exact exs_app (hp (n + 9) S) h
/-- and the test of it -/
theorem lv_if {k : Nat} {i : Int} {v : MV} {o : List Nat} {rt : Bool} (j : Nat) (hc : lvBody = lvBody.take j ++ lvBody.drop j) (hd : lvBody.drop j = stAt lvBody j :: lvBody.drop (j + 1))
    (hp : ∀ (n : Nat) (S : Sto), exs (rx TT (n + 50) lvSc) (lvBody.take j) (lvL k i) S = some (.next, lvL k i, S))
    (hi : isIf (stAt lvBody j) = true) (ht : ∀ (n : Nat) (S : Sto), (run TT (n + 40)).tr lvSc (lvL k i) S (ifT (stAt lvBody j)) = some (true, S))
    (h : ∀ (n : Nat) (S : Sto), ∃ l', exs (rx TT (n + 40) lvSc) (ifA (stAt lvBody j)) (lvL k i) S = some (.ret (.tup [v, .bytes o, .bool rt]), l', S)) : LV k i v o rt :=
  lv_of j hc hp fun n S => by
    obtain ⟨l', h⟩ := h (n + 9) S
    refine ⟨l', ?_⟩
    rw [hd]
    exact exs_out (ex_if (n := n + 49) hi (ht (n + 9) S) h) (by intro h; cases h)

/-! flag, byte -/
def lvR0 : Expr := asE (stAt (ifA (stAt lvBody 0)) 0)
def lvR1 : Expr := asE (stAt (ifA (stAt lvBody 1)) 0)
theorem lv0_a (i : Int) (n : Nat) (S : Sto) : (run TT (n + 30)).ev lvSc (lvL 0 i) S (tupE lvR0 0) = some (.int (Int.fmod i 3), S) := by kernel_rfl
theorem lv0_b (i : Int) (n : Nat) (S : Sto) : (run TT (n + 30)).ev lvSc (lvL 0 i) S (tupE lvR0 1) = valOut (((allByte [.int (Int.fmod i 3)]).map MV.bytes).map fun v => (.val v, S)) := by kernel_rfl
theorem lv0_c (i : Int) (n : Nat) (S : Sto) : (run TT (n + 30)).ev lvSc (lvL 0 i) S (tupE lvR0 2) = some (.bool (ilt (Int.fmod i 3) 2), S) := by kernel_rfl
theorem lv0 (i : Int) (c : Nat) (hc : c < 256) (hz : Int.fmod i 3 = .ofNat c) : LV 0 i (.int (.ofNat c)) [c] (ilt (.ofNat c) 2) :=
  lv_if 0 (by kernel_rfl) (by kernel_rfl) (fun n S => by kernel_rfl) (by kernel_rfl) (fun n S => by kernel_rfl) fun n S => ⟨lvL 0 i, by
    have : ifA (stAt lvBody 0) = [stAt (ifA (stAt lvBody 0)) 0] := by kernel_rfl
    rw [this]
    refine exs_out (ex_ret (n := n + 39) (by kernel_rfl) (ev_tup3 (n := n + 38) (S1 := S) (S2 := S) (by kernel_rfl) ?_ ?_ ?_)) (by intro h; cases h)
    · rw [← hz]; exact lv0_a i (n + 8) S
    · exact (lv0_b i (n + 8) S).trans (bytes_one _ c hz hc S)
    · rw [← hz]; exact lv0_c i (n + 8) S⟩
theorem lvs0 (i : Int) : LVs 0 i := by
  obtain ⟨c, hc, hz⟩ := fmod_cases i 2
  match c, hc, hz with
  | 0, _, hz => exact ⟨.int 0, [0], rfl, .inl ⟨lv0 i 0 (by omega) hz, .head _⟩⟩
  | 1, _, hz => exact ⟨.int 1, [1], rfl, .inl ⟨lv0 i 1 (by omega) hz, .tail _ (.head _)⟩⟩
  | 2, _, hz => exact ⟨.int 2, [2], rfl, .inr ⟨lv0 i 2 (by omega) hz, rfl⟩⟩
theorem lv1_a (i : Int) (n : Nat) (S : Sto) : (run TT (n + 30)).ev lvSc (lvL 1 i) S (tupE lvR1 0) = some (.int (Int.fmod i 2), S) := by kernel_rfl
theorem lv1_b (i : Int) (n : Nat) (S : Sto) : (run TT (n + 30)).ev lvSc (lvL 1 i) S (tupE lvR1 1) = valOut (((allByte [.int (Int.fmod i 2)]).map MV.bytes).map fun v => (.val v, S)) := by kernel_rfl
theorem lv1_c (i : Int) (n : Nat) (S : Sto) : (run TT (n + 30)).ev lvSc (lvL 1 i) S (tupE lvR1 2) = some (.bool true, S) := by kernel_rfl
theorem lv1 (i : Int) (c : Nat) (hc : c < 256) (hz : Int.fmod i 2 = .ofNat c) : LV 1 i (.int (.ofNat c)) [c] true :=
  lv_if 1 (by kernel_rfl) (by kernel_rfl) (fun n S => by kernel_rfl) (by kernel_rfl) (fun n S => by kernel_rfl) fun n S => ⟨lvL 1 i, by
    have : ifA (stAt lvBody 1) = [stAt (ifA (stAt lvBody 1)) 0] := by kernel_rfl
    rw [this]
    refine exs_out (ex_ret (n := n + 39) (by kernel_rfl) (ev_tup3 (n := n + 38) (S1 := S) (S2 := S) (by kernel_rfl) ?_ ?_ ?_)) (by intro h; cases h)
    · rw [← hz]; exact lv1_a i (n + 8) S
    · exact (lv1_b i (n + 8) S).trans (bytes_one _ c hz hc S)
    · exact lv1_c i (n + 8) S⟩
theorem lvs1 (i : Int) : LVs 1 i := by
  obtain ⟨c, hc, hz⟩ := fmod_cases i 1
  match c, hc, hz with
  | 0, _, hz => exact ⟨.int 0, [0], rfl, .inl ⟨lv1 i 0 (by omega) hz, .head _⟩⟩
  | 1, _, hz => exact ⟨.int 1, [1], rfl, .inl ⟨lv1 i 1 (by omega) hz, .tail _ (.head _)⟩⟩

/-! kind 2 -/
def lvA2 : List Stmt := ifA (stAt lvBody 2)
theorem lv2_v (i : Int) (n : Nat) (S : Sto) (c : Nat) (v : MV) (hz : Int.fmod i 4 = .ofNat c) (hv : getL [MV.int 0, .int 1, .int 258, .int 65535] c = some v) :
    rx TT (n + 32) lvSc (lvL 2 i) S (stAt lvA2 0) = some (.next, addL (lvL 2 i) [("value", v)], S) := by
  have h := ex_asgn (T := TT) (n := n + 31) (sc := lvSc) (l := lvL 2 i) (t := stAt lvA2 0) (S := S) (S1 := S) (v := v) (by kernel_rfl) (by kernel_rfl) (by kernel_rfl) ?_
  · have e : put (asgX (stAt lvA2 0)) v (lvL 2 i) = addL (lvL 2 i) [("value", v)] := by kernel_rfl
    rw [e] at h; exact h
  · refine ev_sub (n := n + 30) (a := .tup [MV.int 0, .int 1, .int 258, .int 65535]) (b := .int (Int.fmod i 4)) (S1 := S) (by kernel_rfl) (by kernel_rfl) (by kernel_rfl) ?_
    rw [hz]; exact hv
theorem lv2_0 (i : Int) (hz : Int.fmod i 4 = .ofNat 0) : LV 2 i (.int 0) [0, 0] true :=
  lv_if 2 (by kernel_rfl) (by kernel_rfl) (fun n S => by kernel_rfl) (by kernel_rfl) (fun n S => by kernel_rfl) fun n S => ⟨addL (lvL 2 i) [("value", .int 0)], by
    have : ifA (stAt lvBody 2) = [stAt lvA2 0, stAt lvA2 1] := by kernel_rfl
    rw [this]
    exact exs_nx (lv2_v i (n + 8) S 0 (.int 0) hz rfl) (exs_out (fl := .ret _) (by kernel_rfl) (by intro h; cases h))⟩
theorem lv2_1 (i : Int) (hz : Int.fmod i 4 = .ofNat 1) : LV 2 i (.int 1) [0, 1] true :=
  lv_if 2 (by kernel_rfl) (by kernel_rfl) (fun n S => by kernel_rfl) (by kernel_rfl) (fun n S => by kernel_rfl) fun n S => ⟨addL (lvL 2 i) [("value", .int 1)], by
    have : ifA (stAt lvBody 2) = [stAt lvA2 0, stAt lvA2 1] := by kernel_rfl
    rw [this]
    exact exs_nx (lv2_v i (n + 8) S 1 (.int 1) hz rfl) (exs_out (fl := .ret _) (by kernel_rfl) (by intro h; cases h))⟩
theorem lv2_2 (i : Int) (hz : Int.fmod i 4 = .ofNat 2) : LV 2 i (.int 258) [1, 2] true :=
  lv_if 2 (by kernel_rfl) (by kernel_rfl) (fun n S => by kernel_rfl) (by kernel_rfl) (fun n S => by kernel_rfl) fun n S => ⟨addL (lvL 2 i) [("value", .int 258)], by
    have : ifA (stAt lvBody 2) = [stAt lvA2 0, stAt lvA2 1] := by kernel_rfl
    rw [this]
    exact exs_nx (lv2_v i (n + 8) S 2 (.int 258) hz rfl) (exs_out (fl := .ret _) (by kernel_rfl) (by intro h; cases h))⟩
theorem lv2_3 (i : Int) (hz : Int.fmod i 4 = .ofNat 3) : LV 2 i (.int 65535) [255, 255] true :=
  lv_if 2 (by kernel_rfl) (by kernel_rfl) (fun n S => by kernel_rfl) (by kernel_rfl) (fun n S => by kernel_rfl) fun n S => ⟨addL (lvL 2 i) [("value", .int 65535)], by
    have : ifA (stAt lvBody 2) = [stAt lvA2 0, stAt lvA2 1] := by kernel_rfl
    rw [this]
    exact exs_nx (lv2_v i (n + 8) S 3 (.int 65535) hz rfl) (exs_out (fl := .ret _) (by kernel_rfl) (by intro h; cases h))⟩
theorem lvs2 (i : Int) : LVs 2 i := by
  obtain ⟨c, hc, hz⟩ := fmod_cases i 3
  match c, hc, hz with
  | 0, _, hz => exact ⟨.int 0, [0, 0], rfl, .inl ⟨lv2_0 i hz, .head _⟩⟩
  | 1, _, hz => exact ⟨.int 1, [0, 1], rfl, .inl ⟨lv2_1 i hz, .tail _ (.head _)⟩⟩
  | 2, _, hz => exact ⟨.int 258, [1, 2], rfl, .inl ⟨lv2_2 i hz, .tail _ (.tail _ (.head _))⟩⟩
  | 3, _, hz => exact ⟨.int 65535, [255, 255], rfl, .inl ⟨lv2_3 i hz, .tail _ (.tail _ (.tail _ (.head _)))⟩⟩

/-! kind 3 -/
def lvA3 : List Stmt := ifA (stAt lvBody 2)
theorem lv3_v (i : Int) (n : Nat) (S : Sto) (c : Nat) (v : MV) (hz : Int.fmod i 4 = .ofNat c) (hv : getL [MV.int 0, .int 1, .int 258, .int 65535] c = some v) :
    rx TT (n + 32) lvSc (lvL 3 i) S (stAt lvA3 0) = some (.next, addL (lvL 3 i) [("value", v)], S) := by
  have h := ex_asgn (T := TT) (n := n + 31) (sc := lvSc) (l := lvL 3 i) (t := stAt lvA3 0) (S := S) (S1 := S) (v := v) (by kernel_rfl) (by kernel_rfl) (by kernel_rfl) ?_
  · have e : put (asgX (stAt lvA3 0)) v (lvL 3 i) = addL (lvL 3 i) [("value", v)] := by kernel_rfl
    rw [e] at h; exact h
  · refine ev_sub (n := n + 30) (a := .tup [MV.int 0, .int 1, .int 258, .int 65535]) (b := .int (Int.fmod i 4)) (S1 := S) (by kernel_rfl) (by kernel_rfl) (by kernel_rfl) ?_
    rw [hz]; exact hv
theorem lv3_0 (i : Int) (hz : Int.fmod i 4 = .ofNat 0) : LV 3 i (.int 0) [0, 0] false :=
  lv_if 2 (by kernel_rfl) (by kernel_rfl) (fun n S => by kernel_rfl) (by kernel_rfl) (fun n S => by kernel_rfl) fun n S => ⟨addL (lvL 3 i) [("value", .int 0)], by
    have : ifA (stAt lvBody 2) = [stAt lvA3 0, stAt lvA3 1] := by kernel_rfl
    rw [this]
    exact exs_nx (lv3_v i (n + 8) S 0 (.int 0) hz rfl) (exs_out (fl := .ret _) (by kernel_rfl) (by intro h; cases h))⟩
theorem lv3_1 (i : Int) (hz : Int.fmod i 4 = .ofNat 1) : LV 3 i (.int 1) [0, 1] true :=
  lv_if 2 (by kernel_rfl) (by kernel_rfl) (fun n S => by kernel_rfl) (by kernel_rfl) (fun n S => by kernel_rfl) fun n S => ⟨addL (lvL 3 i) [("value", .int 1)], by
    have : ifA (stAt lvBody 2) = [stAt lvA3 0, stAt lvA3 1] := by kernel_rfl
    rw [this]
    exact exs_nx (lv3_v i (n + 8) S 1 (.int 1) hz rfl) (exs_out (fl := .ret _) (by kernel_rfl) (by intro h; cases h))⟩
theorem lv3_2 (i : Int) (hz : Int.fmod i 4 = .ofNat 2) : LV 3 i (.int 258) [1, 2] true :=
  lv_if 2 (by kernel_rfl) (by kernel_rfl) (fun n S => by kernel_rfl) (by kernel_rfl) (fun n S => by kernel_rfl) fun n S => ⟨addL (lvL 3 i) [("value", .int 258)], by
    have : ifA (stAt lvBody 2) = [stAt lvA3 0, stAt lvA3 1] := by kernel_rfl
    rw [this]
    exact exs_nx (lv3_v i (n + 8) S 2 (.int 258) hz rfl) (exs_out (fl := .ret _) (by kernel_rfl) (by intro h; cases h))⟩
theorem lv3_3 (i : Int) (hz : Int.fmod i 4 = .ofNat 3) : LV 3 i (.int 65535) [255, 255] true :=
  lv_if 2 (by kernel_rfl) (by kernel_rfl) (fun n S => by kernel_rfl) (by kernel_rfl) (fun n S => by kernel_rfl) fun n S => ⟨addL (lvL 3 i) [("value", .int 65535)], by
    have : ifA (stAt lvBody 2) = [stAt lvA3 0, stAt lvA3 1] := by kernel_rfl
    rw [this]
    exact exs_nx (lv3_v i (n + 8) S 3 (.int 65535) hz rfl) (exs_out (fl := .ret _) (by kernel_rfl) (by intro h; cases h))⟩
theorem lvs3 (i : Int) : LVs 3 i := by
  obtain ⟨c, hc, hz⟩ := fmod_cases i 3
  match c, hc, hz with
  | 0, _, hz => exact ⟨.int 0, [0, 0], rfl, .inr ⟨lv3_0 i hz, rfl⟩⟩
  | 1, _, hz => exact ⟨.int 1, [0, 1], rfl, .inl ⟨lv3_1 i hz, .head _⟩⟩
  | 2, _, hz => exact ⟨.int 258, [1, 2], rfl, .inl ⟨lv3_2 i hz, .tail _ (.head _)⟩⟩
  | 3, _, hz => exact ⟨.int 65535, [255, 255], rfl, .inl ⟨lv3_3 i hz, .tail _ (.tail _ (.head _))⟩⟩

/-! kind 4 -/
def lvA4 : List Stmt := ifA (stAt lvBody 3)
theorem lv4_v (i : Int) (n : Nat) (S : Sto) (c : Nat) (v : MV) (hz : Int.fmod i 4 = .ofNat c) (hv : getL [MV.int 0, .int 1, .int 65536, .int 4294967295] c = some v) :
    rx TT (n + 32) lvSc (lvL 4 i) S (stAt lvA4 0) = some (.next, addL (lvL 4 i) [("value", v)], S) := by
  have h := ex_asgn (T := TT) (n := n + 31) (sc := lvSc) (l := lvL 4 i) (t := stAt lvA4 0) (S := S) (S1 := S) (v := v) (by kernel_rfl) (by kernel_rfl) (by kernel_rfl) ?_
  · have e : put (asgX (stAt lvA4 0)) v (lvL 4 i) = addL (lvL 4 i) [("value", v)] := by kernel_rfl
    rw [e] at h; exact h
  · refine ev_sub (n := n + 30) (a := .tup [MV.int 0, .int 1, .int 65536, .int 4294967295]) (b := .int (Int.fmod i 4)) (S1 := S) (by kernel_rfl) (by kernel_rfl) (by kernel_rfl) ?_
    rw [hz]; exact hv
def lvR4 : Expr := asE (stAt lvA4 1)
theorem lv4_0 (i : Int) (hz : Int.fmod i 4 = .ofNat 0) : LV 4 i (.int 0) [0, 0, 0, 0] true :=
  lv_if 3 (by kernel_rfl) (by kernel_rfl) (fun n S => by kernel_rfl) (by kernel_rfl) (fun n S => by kernel_rfl) fun n S => ⟨addL (lvL 4 i) [("value", .int 0)], by
    have : ifA (stAt lvBody 3) = [stAt lvA4 0, stAt lvA4 1] := by kernel_rfl
    rw [this]
    refine exs_nx (lv4_v i (n + 8) S 0 (.int 0) hz rfl) (exs_out (ex_ret (n := n + 39) (by kernel_rfl) (ev_tup3 (n := n + 38) (S1 := S) (S2 := S) (by kernel_rfl) (by kernel_rfl) ?_ (by kernel_rfl))) (by intro h; cases h))
    refine ev_sub (n := n + 37) (a := .tup [MV.bytes [0, 0, 0, 0], .bytes [0, 0, 0, 1], .bytes [0, 1, 0, 0], .bytes [255, 255, 255, 255]]) (b := .int (Int.fmod i 4)) (S1 := S) (by kernel_rfl) (by kernel_rfl) (by kernel_rfl) ?_
    rw [hz]; rfl⟩
theorem lv4_1 (i : Int) (hz : Int.fmod i 4 = .ofNat 1) : LV 4 i (.int 1) [0, 0, 0, 1] true :=
  lv_if 3 (by kernel_rfl) (by kernel_rfl) (fun n S => by kernel_rfl) (by kernel_rfl) (fun n S => by kernel_rfl) fun n S => ⟨addL (lvL 4 i) [("value", .int 1)], by
    have : ifA (stAt lvBody 3) = [stAt lvA4 0, stAt lvA4 1] := by kernel_rfl
    rw [this]
    refine exs_nx (lv4_v i (n + 8) S 1 (.int 1) hz rfl) (exs_out (ex_ret (n := n + 39) (by kernel_rfl) (ev_tup3 (n := n + 38) (S1 := S) (S2 := S) (by kernel_rfl) (by kernel_rfl) ?_ (by kernel_rfl))) (by intro h; cases h))
    refine ev_sub (n := n + 37) (a := .tup [MV.bytes [0, 0, 0, 0], .bytes [0, 0, 0, 1], .bytes [0, 1, 0, 0], .bytes [255, 255, 255, 255]]) (b := .int (Int.fmod i 4)) (S1 := S) (by kernel_rfl) (by kernel_rfl) (by kernel_rfl) ?_
    rw [hz]; rfl⟩
theorem lv4_2 (i : Int) (hz : Int.fmod i 4 = .ofNat 2) : LV 4 i (.int 65536) [0, 1, 0, 0] true :=
  lv_if 3 (by kernel_rfl) (by kernel_rfl) (fun n S => by kernel_rfl) (by kernel_rfl) (fun n S => by kernel_rfl) fun n S => ⟨addL (lvL 4 i) [("value", .int 65536)], by
    have : ifA (stAt lvBody 3) = [stAt lvA4 0, stAt lvA4 1] := by kernel_rfl
    rw [this]
    refine exs_nx (lv4_v i (n + 8) S 2 (.int 65536) hz rfl) (exs_out (ex_ret (n := n + 39) (by kernel_rfl) (ev_tup3 (n := n + 38) (S1 := S) (S2 := S) (by kernel_rfl) (by kernel_rfl) ?_ (by kernel_rfl))) (by intro h; cases h))
    refine ev_sub (n := n + 37) (a := .tup [MV.bytes [0, 0, 0, 0], .bytes [0, 0, 0, 1], .bytes [0, 1, 0, 0], .bytes [255, 255, 255, 255]]) (b := .int (Int.fmod i 4)) (S1 := S) (by kernel_rfl) (by kernel_rfl) (by kernel_rfl) ?_
    rw [hz]; rfl⟩
theorem lv4_3 (i : Int) (hz : Int.fmod i 4 = .ofNat 3) : LV 4 i (.int 4294967295) [255, 255, 255, 255] true :=
  lv_if 3 (by kernel_rfl) (by kernel_rfl) (fun n S => by kernel_rfl) (by kernel_rfl) (fun n S => by kernel_rfl) fun n S => ⟨addL (lvL 4 i) [("value", .int 4294967295)], by
    have : ifA (stAt lvBody 3) = [stAt lvA4 0, stAt lvA4 1] := by kernel_rfl
    rw [this]
    refine exs_nx (lv4_v i (n + 8) S 3 (.int 4294967295) hz rfl) (exs_out (ex_ret (n := n + 39) (by kernel_rfl) (ev_tup3 (n := n + 38) (S1 := S) (S2 := S) (by kernel_rfl) (by kernel_rfl) ?_ (by kernel_rfl))) (by intro h; cases h))
    refine ev_sub (n := n + 37) (a := .tup [MV.bytes [0, 0, 0, 0], .bytes [0, 0, 0, 1], .bytes [0, 1, 0, 0], .bytes [255, 255, 255, 255]]) (b := .int (Int.fmod i 4)) (S1 := S) (by kernel_rfl) (by kernel_rfl) (by kernel_rfl) ?_
    rw [hz]; rfl⟩
theorem lvs4 (i : Int) : LVs 4 i := by
  obtain ⟨c, hc, hz⟩ := fmod_cases i 3
  match c, hc, hz with
  | 0, _, hz => exact ⟨.int 0, [0, 0, 0, 0], rfl, .inl ⟨lv4_0 i hz, .head _⟩⟩
  | 1, _, hz => exact ⟨.int 1, [0, 0, 0, 1], rfl, .inl ⟨lv4_1 i hz, .tail _ (.head _)⟩⟩
  | 2, _, hz => exact ⟨.int 65536, [0, 1, 0, 0], rfl, .inl ⟨lv4_2 i hz, .tail _ (.tail _ (.head _))⟩⟩
  | 3, _, hz => exact ⟨.int 4294967295, [255, 255, 255, 255], rfl, .inl ⟨lv4_3 i hz, .tail _ (.tail _ (.tail _ (.head _)))⟩⟩

/-! kind 5 -/
def lvA5 : List Stmt := ifA (stAt lvBody 4)
theorem lv5_v (i : Int) (n : Nat) (S : Sto) (c : Nat) (v : MV) (hz : Int.fmod i 4 = .ofNat c) (hv : getL [MV.int 0, .int 1, .int 300, .int 268435455] c = some v) :
    rx TT (n + 32) lvSc (lvL 5 i) S (stAt lvA5 0) = some (.next, addL (lvL 5 i) [("value", v)], S) := by
  have h := ex_asgn (T := TT) (n := n + 31) (sc := lvSc) (l := lvL 5 i) (t := stAt lvA5 0) (S := S) (S1 := S) (v := v) (by kernel_rfl) (by kernel_rfl) (by kernel_rfl) ?_
  · have e : put (asgX (stAt lvA5 0)) v (lvL 5 i) = addL (lvL 5 i) [("value", v)] := by kernel_rfl
    rw [e] at h; exact h
  · refine ev_sub (n := n + 30) (a := .tup [MV.int 0, .int 1, .int 300, .int 268435455]) (b := .int (Int.fmod i 4)) (S1 := S) (by kernel_rfl) (by kernel_rfl) (by kernel_rfl) ?_
    rw [hz]; exact hv
def lvR5 : Expr := asE (stAt lvA5 1)
theorem lv5_0 (i : Int) (hz : Int.fmod i 4 = .ofNat 0) : LV 5 i (.int 0) [] false :=
  lv_if 4 (by kernel_rfl) (by kernel_rfl) (fun n S => by kernel_rfl) (by kernel_rfl) (fun n S => by kernel_rfl) fun n S => ⟨addL (lvL 5 i) [("value", .int 0)], by
    have : ifA (stAt lvBody 4) = [stAt lvA5 0, stAt lvA5 1] := by kernel_rfl
    rw [this]
    refine exs_nx (lv5_v i (n + 8) S 0 (.int 0) hz rfl) (exs_out (ex_ret (n := n + 39) (by kernel_rfl) (ev_tup3 (n := n + 38) (S1 := S) (S2 := S) (by kernel_rfl) (by kernel_rfl) ?_ (by kernel_rfl))) (by intro h; cases h))
    refine ev_sub (n := n + 37) (a := .tup [MV.bytes [], .bytes [0, 0, 0, 1], .bytes [0, 0, 1, 44], .bytes [15, 255, 255, 255]]) (b := .int (Int.fmod i 4)) (S1 := S) (by kernel_rfl) (by kernel_rfl) (by kernel_rfl) ?_
    rw [hz]; rfl⟩
theorem lv5_1 (i : Int) (hz : Int.fmod i 4 = .ofNat 1) : LV 5 i (.int 1) [0, 0, 0, 1] true :=
  lv_if 4 (by kernel_rfl) (by kernel_rfl) (fun n S => by kernel_rfl) (by kernel_rfl) (fun n S => by kernel_rfl) fun n S => ⟨addL (lvL 5 i) [("value", .int 1)], by
    have : ifA (stAt lvBody 4) = [stAt lvA5 0, stAt lvA5 1] := by kernel_rfl
    rw [this]
    refine exs_nx (lv5_v i (n + 8) S 1 (.int 1) hz rfl) (exs_out (ex_ret (n := n + 39) (by kernel_rfl) (ev_tup3 (n := n + 38) (S1 := S) (S2 := S) (by kernel_rfl) (by kernel_rfl) ?_ (by kernel_rfl))) (by intro h; cases h))
    refine ev_sub (n := n + 37) (a := .tup [MV.bytes [], .bytes [0, 0, 0, 1], .bytes [0, 0, 1, 44], .bytes [15, 255, 255, 255]]) (b := .int (Int.fmod i 4)) (S1 := S) (by kernel_rfl) (by kernel_rfl) (by kernel_rfl) ?_
    rw [hz]; rfl⟩
theorem lv5_2 (i : Int) (hz : Int.fmod i 4 = .ofNat 2) : LV 5 i (.int 300) [0, 0, 1, 44] true :=
  lv_if 4 (by kernel_rfl) (by kernel_rfl) (fun n S => by kernel_rfl) (by kernel_rfl) (fun n S => by kernel_rfl) fun n S => ⟨addL (lvL 5 i) [("value", .int 300)], by
    have : ifA (stAt lvBody 4) = [stAt lvA5 0, stAt lvA5 1] := by kernel_rfl
    rw [this]
    refine exs_nx (lv5_v i (n + 8) S 2 (.int 300) hz rfl) (exs_out (ex_ret (n := n + 39) (by kernel_rfl) (ev_tup3 (n := n + 38) (S1 := S) (S2 := S) (by kernel_rfl) (by kernel_rfl) ?_ (by kernel_rfl))) (by intro h; cases h))
    refine ev_sub (n := n + 37) (a := .tup [MV.bytes [], .bytes [0, 0, 0, 1], .bytes [0, 0, 1, 44], .bytes [15, 255, 255, 255]]) (b := .int (Int.fmod i 4)) (S1 := S) (by kernel_rfl) (by kernel_rfl) (by kernel_rfl) ?_
    rw [hz]; rfl⟩
theorem lv5_3 (i : Int) (hz : Int.fmod i 4 = .ofNat 3) : LV 5 i (.int 268435455) [15, 255, 255, 255] true :=
  lv_if 4 (by kernel_rfl) (by kernel_rfl) (fun n S => by kernel_rfl) (by kernel_rfl) (fun n S => by kernel_rfl) fun n S => ⟨addL (lvL 5 i) [("value", .int 268435455)], by
    have : ifA (stAt lvBody 4) = [stAt lvA5 0, stAt lvA5 1] := by kernel_rfl
    rw [this]
    refine exs_nx (lv5_v i (n + 8) S 3 (.int 268435455) hz rfl) (exs_out (ex_ret (n := n + 39) (by kernel_rfl) (ev_tup3 (n := n + 38) (S1 := S) (S2 := S) (by kernel_rfl) (by kernel_rfl) ?_ (by kernel_rfl))) (by intro h; cases h))
    refine ev_sub (n := n + 37) (a := .tup [MV.bytes [], .bytes [0, 0, 0, 1], .bytes [0, 0, 1, 44], .bytes [15, 255, 255, 255]]) (b := .int (Int.fmod i 4)) (S1 := S) (by kernel_rfl) (by kernel_rfl) (by kernel_rfl) ?_
    rw [hz]; rfl⟩
theorem lvs5 (i : Int) : LVs 5 i := by
  obtain ⟨c, hc, hz⟩ := fmod_cases i 3
  match c, hc, hz with
  | 0, _, hz => exact ⟨.int 0, [], rfl, .inr ⟨lv5_0 i hz, rfl⟩⟩
  | 1, _, hz => exact ⟨.int 1, [0, 0, 0, 1], rfl, .inl ⟨lv5_1 i hz, .head _⟩⟩
  | 2, _, hz => exact ⟨.int 300, [0, 0, 1, 44], rfl, .inl ⟨lv5_2 i hz, .tail _ (.head _)⟩⟩
  | 3, _, hz => exact ⟨.int 268435455, [15, 255, 255, 255], rfl, .inl ⟨lv5_3 i hz, .tail _ (.tail _ (.head _))⟩⟩
end Mine
namespace Mine
set_option maxRecDepth 100000
open PySem
/-! count -/
def lvA6 : List Stmt := ifA (stAt lvBody 5)
def countsL : List (MV × List Nat) := [(.int 0, []), (.int 1, [1]), (.int 127, [127]), (.int 128, [128, 1]), (.int 16384, [128, 128, 1]), (.int 268435455, [255, 255, 255, 127]), (.int 268435456, [])]
def cnt (c : Nat) : MV × List Nat := (getL countsL c).getD (.none, [])
theorem lv6_v (i : Int) (n : Nat) (S : Sto) (c : Nat) (v : MV) (o : List Nat) (hz : Int.fmod i 7 = .ofNat c) (hv : getL (countsL.map fun x => MV.tup [x.1, .bytes x.2]) c = some (.tup [v, .bytes o])) :
    rx TT (n + 32) lvSc (lvL 6 i) S (stAt lvA6 0) = some (.next, addL (lvL 6 i) [("value", v), ("octets", .bytes o)], S) := by
  refine ex_tup (n := n + 31) (vs := [v, .bytes o]) (by kernel_rfl) ?_ (by kernel_rfl)
  refine ev_sub (n := n + 30) (a := .list (countsL.map fun x => MV.tup [x.1, .bytes x.2])) (b := .int (Int.fmod i 7)) (S1 := S) (by kernel_rfl) (by kernel_rfl) (by kernel_rfl) ?_
  rw [hz]; exact hv
theorem lv6_0 (i : Int) (hz : Int.fmod i 7 = .ofNat 0) : LV 6 i (cnt 0).1 (cnt 0).2 false :=
  lv_if 5 (by kernel_rfl) (by kernel_rfl) (fun n S => by kernel_rfl) (by kernel_rfl) (fun n S => by kernel_rfl) fun n S => ⟨addL (lvL 6 i) [("value", (cnt 0).1), ("octets", .bytes (cnt 0).2)], by
    have : ifA (stAt lvBody 5) = [stAt lvA6 0, stAt lvA6 1] := by kernel_rfl
    rw [this]
    exact exs_nx (lv6_v i (n + 8) S 0 _ _ hz rfl) (exs_out (fl := .ret _) (by kernel_rfl) (by intro h; cases h))⟩
theorem lv6_1 (i : Int) (hz : Int.fmod i 7 = .ofNat 1) : LV 6 i (cnt 1).1 (cnt 1).2 true :=
  lv_if 5 (by kernel_rfl) (by kernel_rfl) (fun n S => by kernel_rfl) (by kernel_rfl) (fun n S => by kernel_rfl) fun n S => ⟨addL (lvL 6 i) [("value", (cnt 1).1), ("octets", .bytes (cnt 1).2)], by
    have : ifA (stAt lvBody 5) = [stAt lvA6 0, stAt lvA6 1] := by kernel_rfl
    rw [this]
    exact exs_nx (lv6_v i (n + 8) S 1 _ _ hz rfl) (exs_out (fl := .ret _) (by kernel_rfl) (by intro h; cases h))⟩
theorem lv6_2 (i : Int) (hz : Int.fmod i 7 = .ofNat 2) : LV 6 i (cnt 2).1 (cnt 2).2 true :=
  lv_if 5 (by kernel_rfl) (by kernel_rfl) (fun n S => by kernel_rfl) (by kernel_rfl) (fun n S => by kernel_rfl) fun n S => ⟨addL (lvL 6 i) [("value", (cnt 2).1), ("octets", .bytes (cnt 2).2)], by
    have : ifA (stAt lvBody 5) = [stAt lvA6 0, stAt lvA6 1] := by kernel_rfl
    rw [this]
    exact exs_nx (lv6_v i (n + 8) S 2 _ _ hz rfl) (exs_out (fl := .ret _) (by kernel_rfl) (by intro h; cases h))⟩
theorem lv6_3 (i : Int) (hz : Int.fmod i 7 = .ofNat 3) : LV 6 i (cnt 3).1 (cnt 3).2 true :=
  lv_if 5 (by kernel_rfl) (by kernel_rfl) (fun n S => by kernel_rfl) (by kernel_rfl) (fun n S => by kernel_rfl) fun n S => ⟨addL (lvL 6 i) [("value", (cnt 3).1), ("octets", .bytes (cnt 3).2)], by
    have : ifA (stAt lvBody 5) = [stAt lvA6 0, stAt lvA6 1] := by kernel_rfl
    rw [this]
    exact exs_nx (lv6_v i (n + 8) S 3 _ _ hz rfl) (exs_out (fl := .ret _) (by kernel_rfl) (by intro h; cases h))⟩
theorem lv6_4 (i : Int) (hz : Int.fmod i 7 = .ofNat 4) : LV 6 i (cnt 4).1 (cnt 4).2 true :=
  lv_if 5 (by kernel_rfl) (by kernel_rfl) (fun n S => by kernel_rfl) (by kernel_rfl) (fun n S => by kernel_rfl) fun n S => ⟨addL (lvL 6 i) [("value", (cnt 4).1), ("octets", .bytes (cnt 4).2)], by
    have : ifA (stAt lvBody 5) = [stAt lvA6 0, stAt lvA6 1] := by kernel_rfl
    rw [this]
    exact exs_nx (lv6_v i (n + 8) S 4 _ _ hz rfl) (exs_out (fl := .ret _) (by kernel_rfl) (by intro h; cases h))⟩
theorem lv6_5 (i : Int) (hz : Int.fmod i 7 = .ofNat 5) : LV 6 i (cnt 5).1 (cnt 5).2 true :=
  lv_if 5 (by kernel_rfl) (by kernel_rfl) (fun n S => by kernel_rfl) (by kernel_rfl) (fun n S => by kernel_rfl) fun n S => ⟨addL (lvL 6 i) [("value", (cnt 5).1), ("octets", .bytes (cnt 5).2)], by
    have : ifA (stAt lvBody 5) = [stAt lvA6 0, stAt lvA6 1] := by kernel_rfl
    rw [this]
    exact exs_nx (lv6_v i (n + 8) S 5 _ _ hz rfl) (exs_out (fl := .ret _) (by kernel_rfl) (by intro h; cases h))⟩
theorem lv6_6 (i : Int) (hz : Int.fmod i 7 = .ofNat 6) : LV 6 i (cnt 6).1 (cnt 6).2 false :=
  lv_if 5 (by kernel_rfl) (by kernel_rfl) (fun n S => by kernel_rfl) (by kernel_rfl) (fun n S => by kernel_rfl) fun n S => ⟨addL (lvL 6 i) [("value", (cnt 6).1), ("octets", .bytes (cnt 6).2)], by
    have : ifA (stAt lvBody 5) = [stAt lvA6 0, stAt lvA6 1] := by kernel_rfl
    rw [this]
    exact exs_nx (lv6_v i (n + 8) S 6 _ _ hz rfl) (exs_out (fl := .ret _) (by kernel_rfl) (by intro h; cases h))⟩
theorem lvs6 (i : Int) : LVs 6 i := by
  obtain ⟨c, hc, hz⟩ := fmod_cases i 6
  match c, hc, hz with
  | 0, _, hz => exact ⟨_, _, rfl, .inr ⟨lv6_0 i hz, .inl rfl⟩⟩
  | 1, _, hz => exact ⟨_, _, rfl, .inl ⟨lv6_1 i hz, .head _⟩⟩
  | 2, _, hz => exact ⟨_, _, rfl, .inl ⟨lv6_2 i hz, .tail _ (.head _)⟩⟩
  | 3, _, hz => exact ⟨_, _, rfl, .inl ⟨lv6_3 i hz, .tail _ (.tail _ (.head _))⟩⟩
  | 4, _, hz => exact ⟨_, _, rfl, .inl ⟨lv6_4 i hz, .tail _ (.tail _ (.tail _ (.head _)))⟩⟩
  | 5, _, hz => exact ⟨_, _, rfl, .inl ⟨lv6_5 i hz, .tail _ (.tail _ (.tail _ (.tail _ (.head _))))⟩⟩
  | 6, _, hz => exact ⟨_, _, rfl, .inr ⟨lv6_6 i hz, .inr rfl⟩⟩

/-! octets -/
def lvA7 : List Stmt := ifA (stAt lvBody 6)
theorem lv7_v (i : Int) (n : Nat) (S : Sto) (r c j : Nat) (hr : r < 256) (hz : Int.fmod i 256 = .ofNat r) (hz2 : Int.fmod (Int.fdiv i 256) 3 = .ofNat c) (hv : getL [MV.int 0, .int 1, .int 130] c = some (.int (.ofNat j)))
    (hj : binop .Mult (.bytes [r]) (.int (.ofNat j)) = some (.bytes (List.replicate j r))) :
    rx TT (n + 33) lvSc (lvL 7 i) S (stAt lvA7 0) = some (.next, addL (lvL 7 i) [("octets", .bytes (List.replicate j r))], S) := by
  have h := ex_asgn (T := TT) (n := n + 32) (sc := lvSc) (l := lvL 7 i) (t := stAt lvA7 0) (S := S) (S1 := S) (v := .bytes (List.replicate j r)) (by kernel_rfl) (by kernel_rfl) (by kernel_rfl) ?_
  · have e : put (asgX (stAt lvA7 0)) (MV.bytes (List.replicate j r)) (lvL 7 i) = addL (lvL 7 i) [("octets", .bytes (List.replicate j r))] := by kernel_rfl
    rw [e] at h; exact h
  · refine ev_bin (n := n + 31) (a := .bytes [r]) (b := .int (.ofNat j)) (S1 := S) (by kernel_rfl) ?_ ?_ hj
    · have : (run TT (n + 31)).ev lvSc (lvL 7 i) S (binA (asE (stAt lvA7 0))) = valOut (((allByte [.int (Int.fmod i 256)]).map MV.bytes).map fun v => (.val v, S)) := by kernel_rfl
      rw [this]; exact bytes_one _ r hz hr S
    · refine ev_sub (n := n + 30) (a := .tup [MV.int 0, .int 1, .int 130]) (b := .int (Int.fmod (Int.fdiv i 256) 3)) (S1 := S) (by kernel_rfl) (by kernel_rfl) (by kernel_rfl) ?_
      rw [hz2]; exact hv
theorem lv7_0 (i : Int) (r : Nat) (hr : r < 256) (hz : Int.fmod i 256 = .ofNat r) (hz2 : Int.fmod (Int.fdiv i 256) 3 = .ofNat 0) : LV 7 i (octV 0 r).1 (octV 0 r).2 true :=
  lv_if 6 (by kernel_rfl) (by kernel_rfl) (fun n S => by kernel_rfl) (by kernel_rfl) (fun n S => by kernel_rfl) fun n S => ⟨addL (lvL 7 i) [("octets", (octV 0 r).1)], by
    have : ifA (stAt lvBody 6) = [stAt lvA7 0, stAt lvA7 1] := by kernel_rfl
    rw [this]
    exact exs_nx (lv7_v i (n + 7) S r 0 0 hr hz hz2 rfl (by kernel_rfl)) (exs_out (fl := .ret _) (by kernel_rfl) (by intro h; cases h))⟩
theorem lv7_1 (i : Int) (r : Nat) (hr : r < 256) (hz : Int.fmod i 256 = .ofNat r) (hz2 : Int.fmod (Int.fdiv i 256) 3 = .ofNat 1) : LV 7 i (octV 1 r).1 (octV 1 r).2 true :=
  lv_if 6 (by kernel_rfl) (by kernel_rfl) (fun n S => by kernel_rfl) (by kernel_rfl) (fun n S => by kernel_rfl) fun n S => ⟨addL (lvL 7 i) [("octets", (octV 1 r).1)], by
    have : ifA (stAt lvBody 6) = [stAt lvA7 0, stAt lvA7 1] := by kernel_rfl
    rw [this]
    exact exs_nx (lv7_v i (n + 7) S r 1 1 hr hz hz2 rfl (by kernel_rfl)) (exs_out (fl := .ret _) (by kernel_rfl) (by intro h; cases h))⟩
theorem lv7_2 (i : Int) (r : Nat) (hr : r < 256) (hz : Int.fmod i 256 = .ofNat r) (hz2 : Int.fmod (Int.fdiv i 256) 3 = .ofNat 2) : LV 7 i (octV 130 r).1 (octV 130 r).2 true :=
  lv_if 6 (by kernel_rfl) (by kernel_rfl) (fun n S => by kernel_rfl) (by kernel_rfl) (fun n S => by kernel_rfl) fun n S => ⟨addL (lvL 7 i) [("octets", (octV 130 r).1)], by
    have : ifA (stAt lvBody 6) = [stAt lvA7 0, stAt lvA7 1] := by kernel_rfl
    rw [this]
    exact exs_nx (lv7_v i (n + 7) S r 2 130 hr hz hz2 rfl (by kernel_rfl)) (exs_out (fl := .ret _) (by kernel_rfl) (by intro h; cases h))⟩
theorem lvs7 (i : Int) : LVs 7 i := by
  obtain ⟨r, hr, hz⟩ := fmod_cases i 255
  obtain ⟨c, hc, hz2⟩ := fmod_cases (Int.fdiv i 256) 2
  match c, hc, hz2 with
  | 0, _, hz2 => exact ⟨_, _, rfl, .inl ⟨lv7_0 i r hr hz hz2, 0, r, .inl rfl, hr, rfl, rfl⟩⟩
  | 1, _, hz2 => exact ⟨_, _, rfl, .inl ⟨lv7_1 i r hr hz hz2, 1, r, .inr (.inl rfl), hr, rfl, rfl⟩⟩
  | 2, _, hz2 => exact ⟨_, _, rfl, .inl ⟨lv7_2 i r hr hz hz2, 130, r, .inr (.inr rfl), hr, rfl, rfl⟩⟩

/-! text, pair -/
theorem lv_first (k : Nat) (i : Int) (n : Nat) (S : Sto) (c : Nat) (hz : Int.fmod i 4 = .ofNat c) (hv : getL (texts.map MV.str) c = some (.str (txt c))) :
    rx TT (n + 32) lvSc (lvL k i) S (stAt lvBody 7) = some (.next, addL (lvL k i) [("first", .str (txt c))], S) := by
  have h := ex_asgn (T := TT) (n := n + 31) (sc := lvSc) (l := lvL k i) (t := stAt lvBody 7) (S := S) (S1 := S) (v := .str (txt c)) (by kernel_rfl) (by kernel_rfl) (by kernel_rfl) ?_
  · have e : put (asgX (stAt lvBody 7)) (MV.str (txt c)) (lvL k i) = addL (lvL k i) [("first", .str (txt c))] := by kernel_rfl
    rw [e] at h; exact h
  · refine ev_sub (n := n + 30) (a := .list (texts.map MV.str)) (b := .int (Int.fmod i 4)) (S1 := S) (by kernel_rfl) (by kernel_rfl) (by kernel_rfl) ?_
    rw [hz]; exact hv
theorem lv_second (i : Int) (n : Nat) (S : Sto) (c d : Nat) (hz : Int.fmod (Int.fdiv i 4) 4 = .ofNat d) (hv : getL (texts.map MV.str) d = some (.str (txt d))) :
    rx TT (n + 32) lvSc (addL (lvL 9 i) [("first", .str (txt c))]) S (stAt lvBody 9) = some (.next, addL (lvL 9 i) [("first", .str (txt c)), ("second", .str (txt d))], S) := by
  have h := ex_asgn (T := TT) (n := n + 31) (sc := lvSc) (l := addL (lvL 9 i) [("first", .str (txt c))]) (t := stAt lvBody 9) (S := S) (S1 := S) (v := .str (txt d)) (by kernel_rfl) (by kernel_rfl) (by kernel_rfl) ?_
  · have e : put (asgX (stAt lvBody 9)) (MV.str (txt d)) (addL (lvL 9 i) [("first", .str (txt c))]) = addL (lvL 9 i) [("first", .str (txt c)), ("second", .str (txt d))] := by kernel_rfl
    rw [e] at h; exact h
  · refine ev_sub (n := n + 30) (a := .list (texts.map MV.str)) (b := .int (Int.fmod (Int.fdiv i 4) 4)) (S1 := S) (by kernel_rfl) (by kernel_rfl) (by kernel_rfl) ?_
    rw [hz]; exact hv
theorem lv_cut7 : lvBody.drop 7 = [stAt lvBody 7, stAt lvBody 8, stAt lvBody 9, stAt lvBody 10] := by kernel_rfl
theorem lv8_0 (i : Int) (hz : Int.fmod i 4 = .ofNat 0) : LV 8 i (.str (txt 0)) (txtO 0) true :=
  lv_of 7 (by kernel_rfl) (fun n S => by kernel_rfl) fun n S => ⟨addL (lvL 8 i) [("first", .str (txt 0))], by
    rw [lv_cut7]
    exact exs_nx (lv_first 8 i (n + 18) S 0 hz rfl) (exs_out (fl := .ret _) (by kernel_rfl) (by intro h; cases h))⟩
theorem lv8_1 (i : Int) (hz : Int.fmod i 4 = .ofNat 1) : LV 8 i (.str (txt 1)) (txtO 1) true :=
  lv_of 7 (by kernel_rfl) (fun n S => by kernel_rfl) fun n S => ⟨addL (lvL 8 i) [("first", .str (txt 1))], by
    rw [lv_cut7]
    exact exs_nx (lv_first 8 i (n + 18) S 1 hz rfl) (exs_out (fl := .ret _) (by kernel_rfl) (by intro h; cases h))⟩
theorem lv8_2 (i : Int) (hz : Int.fmod i 4 = .ofNat 2) : LV 8 i (.str (txt 2)) (txtO 2) true :=
  lv_of 7 (by kernel_rfl) (fun n S => by kernel_rfl) fun n S => ⟨addL (lvL 8 i) [("first", .str (txt 2))], by
    rw [lv_cut7]
    exact exs_nx (lv_first 8 i (n + 18) S 2 hz rfl) (exs_out (fl := .ret _) (by kernel_rfl) (by intro h; cases h))⟩
theorem lv8_3 (i : Int) (hz : Int.fmod i 4 = .ofNat 3) : LV 8 i (.str (txt 3)) (txtO 3) true :=
  lv_of 7 (by kernel_rfl) (fun n S => by kernel_rfl) fun n S => ⟨addL (lvL 8 i) [("first", .str (txt 3))], by
    rw [lv_cut7]
    exact exs_nx (lv_first 8 i (n + 18) S 3 hz rfl) (exs_out (fl := .ret _) (by kernel_rfl) (by intro h; cases h))⟩
theorem lvs8 (i : Int) : LVs 8 i := by
  obtain ⟨c, hc, hz⟩ := fmod_cases i 3
  match c, hc, hz with
  | 0, _, hz => exact ⟨_, _, rfl, .inl ⟨lv8_0 i hz, .head _⟩⟩
  | 1, _, hz => exact ⟨_, _, rfl, .inl ⟨lv8_1 i hz, .tail _ (.head _)⟩⟩
  | 2, _, hz => exact ⟨_, _, rfl, .inl ⟨lv8_2 i hz, .tail _ (.tail _ (.head _))⟩⟩
  | 3, _, hz => exact ⟨_, _, rfl, .inl ⟨lv8_3 i hz, .tail _ (.tail _ (.tail _ (.head _)))⟩⟩
theorem lv9_n (c : Nat) (i : Int) (n : Nat) (S : Sto) : rx TT (n + 40) lvSc (addL (lvL 9 i) [("first", .str (txt c))]) S (stAt lvBody 8) = some (.next, addL (lvL 9 i) [("first", .str (txt c))], S) := by kernel_rfl
theorem lv9_0_0 (i : Int) (hz : Int.fmod i 4 = .ofNat 0) (hz2 : Int.fmod (Int.fdiv i 4) 4 = .ofNat 0) : LV 9 i (.tup [.str (txt 0), .str (txt 0)]) (txtO 0 ++ txtO 0) true :=
  lv_of 7 (by kernel_rfl) (fun n S => by kernel_rfl) fun n S => ⟨addL (lvL 9 i) [("first", .str (txt 0)), ("second", .str (txt 0))], by
    rw [lv_cut7]
    exact exs_nx (lv_first 9 i (n + 18) S 0 hz rfl) (exs_nx (lv9_n 0 i (n + 10) S) (exs_nx (lv_second i (n + 18) S 0 0 hz2 rfl) (exs_out (fl := .ret _) (by kernel_rfl) (by intro h; cases h))))⟩
theorem lv9_1_0 (i : Int) (hz : Int.fmod i 4 = .ofNat 1) (hz2 : Int.fmod (Int.fdiv i 4) 4 = .ofNat 0) : LV 9 i (.tup [.str (txt 1), .str (txt 0)]) (txtO 1 ++ txtO 0) true :=
  lv_of 7 (by kernel_rfl) (fun n S => by kernel_rfl) fun n S => ⟨addL (lvL 9 i) [("first", .str (txt 1)), ("second", .str (txt 0))], by
    rw [lv_cut7]
    exact exs_nx (lv_first 9 i (n + 18) S 1 hz rfl) (exs_nx (lv9_n 1 i (n + 10) S) (exs_nx (lv_second i (n + 18) S 1 0 hz2 rfl) (exs_out (fl := .ret _) (by kernel_rfl) (by intro h; cases h))))⟩
theorem lv9_2_0 (i : Int) (hz : Int.fmod i 4 = .ofNat 2) (hz2 : Int.fmod (Int.fdiv i 4) 4 = .ofNat 0) : LV 9 i (.tup [.str (txt 2), .str (txt 0)]) (txtO 2 ++ txtO 0) true :=
  lv_of 7 (by kernel_rfl) (fun n S => by kernel_rfl) fun n S => ⟨addL (lvL 9 i) [("first", .str (txt 2)), ("second", .str (txt 0))], by
    rw [lv_cut7]
    exact exs_nx (lv_first 9 i (n + 18) S 2 hz rfl) (exs_nx (lv9_n 2 i (n + 10) S) (exs_nx (lv_second i (n + 18) S 2 0 hz2 rfl) (exs_out (fl := .ret _) (by kernel_rfl) (by intro h; cases h))))⟩
theorem lv9_3_0 (i : Int) (hz : Int.fmod i 4 = .ofNat 3) (hz2 : Int.fmod (Int.fdiv i 4) 4 = .ofNat 0) : LV 9 i (.tup [.str (txt 3), .str (txt 0)]) (txtO 3 ++ txtO 0) true :=
  lv_of 7 (by kernel_rfl) (fun n S => by kernel_rfl) fun n S => ⟨addL (lvL 9 i) [("first", .str (txt 3)), ("second", .str (txt 0))], by
    rw [lv_cut7]
    exact exs_nx (lv_first 9 i (n + 18) S 3 hz rfl) (exs_nx (lv9_n 3 i (n + 10) S) (exs_nx (lv_second i (n + 18) S 3 0 hz2 rfl) (exs_out (fl := .ret _) (by kernel_rfl) (by intro h; cases h))))⟩
theorem lv9_0_1 (i : Int) (hz : Int.fmod i 4 = .ofNat 0) (hz2 : Int.fmod (Int.fdiv i 4) 4 = .ofNat 1) : LV 9 i (.tup [.str (txt 0), .str (txt 1)]) (txtO 0 ++ txtO 1) true :=
  lv_of 7 (by kernel_rfl) (fun n S => by kernel_rfl) fun n S => ⟨addL (lvL 9 i) [("first", .str (txt 0)), ("second", .str (txt 1))], by
    rw [lv_cut7]
    exact exs_nx (lv_first 9 i (n + 18) S 0 hz rfl) (exs_nx (lv9_n 0 i (n + 10) S) (exs_nx (lv_second i (n + 18) S 0 1 hz2 rfl) (exs_out (fl := .ret _) (by kernel_rfl) (by intro h; cases h))))⟩
theorem lv9_1_1 (i : Int) (hz : Int.fmod i 4 = .ofNat 1) (hz2 : Int.fmod (Int.fdiv i 4) 4 = .ofNat 1) : LV 9 i (.tup [.str (txt 1), .str (txt 1)]) (txtO 1 ++ txtO 1) true :=
  lv_of 7 (by kernel_rfl) (fun n S => by kernel_rfl) fun n S => ⟨addL (lvL 9 i) [("first", .str (txt 1)), ("second", .str (txt 1))], by
    rw [lv_cut7]
    exact exs_nx (lv_first 9 i (n + 18) S 1 hz rfl) (exs_nx (lv9_n 1 i (n + 10) S) (exs_nx (lv_second i (n + 18) S 1 1 hz2 rfl) (exs_out (fl := .ret _) (by kernel_rfl) (by intro h; cases h))))⟩
theorem lv9_2_1 (i : Int) (hz : Int.fmod i 4 = .ofNat 2) (hz2 : Int.fmod (Int.fdiv i 4) 4 = .ofNat 1) : LV 9 i (.tup [.str (txt 2), .str (txt 1)]) (txtO 2 ++ txtO 1) true :=
  lv_of 7 (by kernel_rfl) (fun n S => by kernel_rfl) fun n S => ⟨addL (lvL 9 i) [("first", .str (txt 2)), ("second", .str (txt 1))], by
    rw [lv_cut7]
    exact exs_nx (lv_first 9 i (n + 18) S 2 hz rfl) (exs_nx (lv9_n 2 i (n + 10) S) (exs_nx (lv_second i (n + 18) S 2 1 hz2 rfl) (exs_out (fl := .ret _) (by kernel_rfl) (by intro h; cases h))))⟩
theorem lv9_3_1 (i : Int) (hz : Int.fmod i 4 = .ofNat 3) (hz2 : Int.fmod (Int.fdiv i 4) 4 = .ofNat 1) : LV 9 i (.tup [.str (txt 3), .str (txt 1)]) (txtO 3 ++ txtO 1) true :=
  lv_of 7 (by kernel_rfl) (fun n S => by kernel_rfl) fun n S => ⟨addL (lvL 9 i) [("first", .str (txt 3)), ("second", .str (txt 1))], by
    rw [lv_cut7]
    exact exs_nx (lv_first 9 i (n + 18) S 3 hz rfl) (exs_nx (lv9_n 3 i (n + 10) S) (exs_nx (lv_second i (n + 18) S 3 1 hz2 rfl) (exs_out (fl := .ret _) (by kernel_rfl) (by intro h; cases h))))⟩
theorem lv9_0_2 (i : Int) (hz : Int.fmod i 4 = .ofNat 0) (hz2 : Int.fmod (Int.fdiv i 4) 4 = .ofNat 2) : LV 9 i (.tup [.str (txt 0), .str (txt 2)]) (txtO 0 ++ txtO 2) true :=
  lv_of 7 (by kernel_rfl) (fun n S => by kernel_rfl) fun n S => ⟨addL (lvL 9 i) [("first", .str (txt 0)), ("second", .str (txt 2))], by
    rw [lv_cut7]
    exact exs_nx (lv_first 9 i (n + 18) S 0 hz rfl) (exs_nx (lv9_n 0 i (n + 10) S) (exs_nx (lv_second i (n + 18) S 0 2 hz2 rfl) (exs_out (fl := .ret _) (by kernel_rfl) (by intro h; cases h))))⟩
theorem lv9_1_2 (i : Int) (hz : Int.fmod i 4 = .ofNat 1) (hz2 : Int.fmod (Int.fdiv i 4) 4 = .ofNat 2) : LV 9 i (.tup [.str (txt 1), .str (txt 2)]) (txtO 1 ++ txtO 2) true :=
  lv_of 7 (by kernel_rfl) (fun n S => by kernel_rfl) fun n S => ⟨addL (lvL 9 i) [("first", .str (txt 1)), ("second", .str (txt 2))], by
    rw [lv_cut7]
    exact exs_nx (lv_first 9 i (n + 18) S 1 hz rfl) (exs_nx (lv9_n 1 i (n + 10) S) (exs_nx (lv_second i (n + 18) S 1 2 hz2 rfl) (exs_out (fl := .ret _) (by kernel_rfl) (by intro h; cases h))))⟩
theorem lv9_2_2 (i : Int) (hz : Int.fmod i 4 = .ofNat 2) (hz2 : Int.fmod (Int.fdiv i 4) 4 = .ofNat 2) : LV 9 i (.tup [.str (txt 2), .str (txt 2)]) (txtO 2 ++ txtO 2) true :=
  lv_of 7 (by kernel_rfl) (fun n S => by kernel_rfl) fun n S => ⟨addL (lvL 9 i) [("first", .str (txt 2)), ("second", .str (txt 2))], by
    rw [lv_cut7]
    exact exs_nx (lv_first 9 i (n + 18) S 2 hz rfl) (exs_nx (lv9_n 2 i (n + 10) S) (exs_nx (lv_second i (n + 18) S 2 2 hz2 rfl) (exs_out (fl := .ret _) (by kernel_rfl) (by intro h; cases h))))⟩
theorem lv9_3_2 (i : Int) (hz : Int.fmod i 4 = .ofNat 3) (hz2 : Int.fmod (Int.fdiv i 4) 4 = .ofNat 2) : LV 9 i (.tup [.str (txt 3), .str (txt 2)]) (txtO 3 ++ txtO 2) true :=
  lv_of 7 (by kernel_rfl) (fun n S => by kernel_rfl) fun n S => ⟨addL (lvL 9 i) [("first", .str (txt 3)), ("second", .str (txt 2))], by
    rw [lv_cut7]
    exact exs_nx (lv_first 9 i (n + 18) S 3 hz rfl) (exs_nx (lv9_n 3 i (n + 10) S) (exs_nx (lv_second i (n + 18) S 3 2 hz2 rfl) (exs_out (fl := .ret _) (by kernel_rfl) (by intro h; cases h))))⟩
theorem lv9_0_3 (i : Int) (hz : Int.fmod i 4 = .ofNat 0) (hz2 : Int.fmod (Int.fdiv i 4) 4 = .ofNat 3) : LV 9 i (.tup [.str (txt 0), .str (txt 3)]) (txtO 0 ++ txtO 3) true :=
  lv_of 7 (by kernel_rfl) (fun n S => by kernel_rfl) fun n S => ⟨addL (lvL 9 i) [("first", .str (txt 0)), ("second", .str (txt 3))], by
    rw [lv_cut7]
    exact exs_nx (lv_first 9 i (n + 18) S 0 hz rfl) (exs_nx (lv9_n 0 i (n + 10) S) (exs_nx (lv_second i (n + 18) S 0 3 hz2 rfl) (exs_out (fl := .ret _) (by kernel_rfl) (by intro h; cases h))))⟩
theorem lv9_1_3 (i : Int) (hz : Int.fmod i 4 = .ofNat 1) (hz2 : Int.fmod (Int.fdiv i 4) 4 = .ofNat 3) : LV 9 i (.tup [.str (txt 1), .str (txt 3)]) (txtO 1 ++ txtO 3) true :=
  lv_of 7 (by kernel_rfl) (fun n S => by kernel_rfl) fun n S => ⟨addL (lvL 9 i) [("first", .str (txt 1)), ("second", .str (txt 3))], by
    rw [lv_cut7]
    exact exs_nx (lv_first 9 i (n + 18) S 1 hz rfl) (exs_nx (lv9_n 1 i (n + 10) S) (exs_nx (lv_second i (n + 18) S 1 3 hz2 rfl) (exs_out (fl := .ret _) (by kernel_rfl) (by intro h; cases h))))⟩
theorem lv9_2_3 (i : Int) (hz : Int.fmod i 4 = .ofNat 2) (hz2 : Int.fmod (Int.fdiv i 4) 4 = .ofNat 3) : LV 9 i (.tup [.str (txt 2), .str (txt 3)]) (txtO 2 ++ txtO 3) true :=
  lv_of 7 (by kernel_rfl) (fun n S => by kernel_rfl) fun n S => ⟨addL (lvL 9 i) [("first", .str (txt 2)), ("second", .str (txt 3))], by
    rw [lv_cut7]
    exact exs_nx (lv_first 9 i (n + 18) S 2 hz rfl) (exs_nx (lv9_n 2 i (n + 10) S) (exs_nx (lv_second i (n + 18) S 2 3 hz2 rfl) (exs_out (fl := .ret _) (by kernel_rfl) (by intro h; cases h))))⟩
theorem lv9_3_3 (i : Int) (hz : Int.fmod i 4 = .ofNat 3) (hz2 : Int.fmod (Int.fdiv i 4) 4 = .ofNat 3) : LV 9 i (.tup [.str (txt 3), .str (txt 3)]) (txtO 3 ++ txtO 3) true :=
  lv_of 7 (by kernel_rfl) (fun n S => by kernel_rfl) fun n S => ⟨addL (lvL 9 i) [("first", .str (txt 3)), ("second", .str (txt 3))], by
    rw [lv_cut7]
    exact exs_nx (lv_first 9 i (n + 18) S 3 hz rfl) (exs_nx (lv9_n 3 i (n + 10) S) (exs_nx (lv_second i (n + 18) S 3 3 hz2 rfl) (exs_out (fl := .ret _) (by kernel_rfl) (by intro h; cases h))))⟩
theorem lvs9 (i : Int) : LVs 9 i := by
  obtain ⟨c, hc, hz⟩ := fmod_cases i 3
  obtain ⟨d, hd, hz2⟩ := fmod_cases (Int.fdiv i 4) 3
  match c, hc, hz, d, hd, hz2 with
  | 0, _, hz, 0, _, hz2 => exact ⟨_, _, rfl, .inl ⟨lv9_0_0 i hz hz2, .head _⟩⟩
  | 1, _, hz, 0, _, hz2 => exact ⟨_, _, rfl, .inl ⟨lv9_1_0 i hz hz2, .tail _ (.head _)⟩⟩
  | 2, _, hz, 0, _, hz2 => exact ⟨_, _, rfl, .inl ⟨lv9_2_0 i hz hz2, .tail _ (.tail _ (.head _))⟩⟩
  | 3, _, hz, 0, _, hz2 => exact ⟨_, _, rfl, .inl ⟨lv9_3_0 i hz hz2, .tail _ (.tail _ (.tail _ (.head _)))⟩⟩
  | 0, _, hz, 1, _, hz2 => exact ⟨_, _, rfl, .inl ⟨lv9_0_1 i hz hz2, .tail _ (.tail _ (.tail _ (.tail _ (.head _))))⟩⟩
  | 1, _, hz, 1, _, hz2 => exact ⟨_, _, rfl, .inl ⟨lv9_1_1 i hz hz2, .tail _ (.tail _ (.tail _ (.tail _ (.tail _ (.head _)))))⟩⟩
  | 2, _, hz, 1, _, hz2 => exact ⟨_, _, rfl, .inl ⟨lv9_2_1 i hz hz2, .tail _ (.tail _ (.tail _ (.tail _ (.tail _ (.tail _ (.head _))))))⟩⟩
  | 3, _, hz, 1, _, hz2 => exact ⟨_, _, rfl, .inl ⟨lv9_3_1 i hz hz2, .tail _ (.tail _ (.tail _ (.tail _ (.tail _ (.tail _ (.tail _ (.head _)))))))⟩⟩
  | 0, _, hz, 2, _, hz2 => exact ⟨_, _, rfl, .inl ⟨lv9_0_2 i hz hz2, .tail _ (.tail _ (.tail _ (.tail _ (.tail _ (.tail _ (.tail _ (.tail _ (.head _))))))))⟩⟩
  | 1, _, hz, 2, _, hz2 => exact ⟨_, _, rfl, .inl ⟨lv9_1_2 i hz hz2, .tail _ (.tail _ (.tail _ (.tail _ (.tail _ (.tail _ (.tail _ (.tail _ (.tail _ (.head _)))))))))⟩⟩
  | 2, _, hz, 2, _, hz2 => exact ⟨_, _, rfl, .inl ⟨lv9_2_2 i hz hz2, .tail _ (.tail _ (.tail _ (.tail _ (.tail _ (.tail _ (.tail _ (.tail _ (.tail _ (.tail _ (.head _))))))))))⟩⟩
  | 3, _, hz, 2, _, hz2 => exact ⟨_, _, rfl, .inl ⟨lv9_3_2 i hz hz2, .tail _ (.tail _ (.tail _ (.tail _ (.tail _ (.tail _ (.tail _ (.tail _ (.tail _ (.tail _ (.tail _ (.head _)))))))))))⟩⟩
  | 0, _, hz, 3, _, hz2 => exact ⟨_, _, rfl, .inl ⟨lv9_0_3 i hz hz2, .tail _ (.tail _ (.tail _ (.tail _ (.tail _ (.tail _ (.tail _ (.tail _ (.tail _ (.tail _ (.tail _ (.tail _ (.head _))))))))))))⟩⟩
  | 1, _, hz, 3, _, hz2 => exact ⟨_, _, rfl, .inl ⟨lv9_1_3 i hz hz2, .tail _ (.tail _ (.tail _ (.tail _ (.tail _ (.tail _ (.tail _ (.tail _ (.tail _ (.tail _ (.tail _ (.tail _ (.tail _ (.head _)))))))))))))⟩⟩
  | 2, _, hz, 3, _, hz2 => exact ⟨_, _, rfl, .inl ⟨lv9_2_3 i hz hz2, .tail _ (.tail _ (.tail _ (.tail _ (.tail _ (.tail _ (.tail _ (.tail _ (.tail _ (.tail _ (.tail _ (.tail _ (.tail _ (.tail _ (.head _))))))))))))))⟩⟩
  | 3, _, hz, 3, _, hz2 => exact ⟨_, _, rfl, .inl ⟨lv9_3_3 i hz hz2, .tail _ (.tail _ (.tail _ (.tail _ (.tail _ (.tail _ (.tail _ (.tail _ (.tail _ (.tail _ (.tail _ (.tail _ (.tail _ (.tail _ (.tail _ (.head _)))))))))))))))⟩⟩
theorem lvsAll (i : Int) : ∀ k, k < 10 → LVs k i
  | 0, _ => lvs0 i
  | 1, _ => lvs1 i
  | 2, _ => lvs2 i
  | 3, _ => lvs3 i
  | 4, _ => lvs4 i
  | 5, _ => lvs5 i
  | 6, _ => lvs6 i
  | 7, _ => lvs7 i
  | 8, _ => lvs8 i
  | 9, _ => lvs9 i
  | n + 10, h => absurd h (by omega)
end Mine
namespace Mine
set_option maxRecDepth 100000
open PySem
def lawBody : List Stmt := (fnAt 29).body
def lawSc : Scope := (fnAt 29).scope
def lawT : List Stmt := forA (stAt lawBody 6)
def bL (xs : List MV) (h pk : Int) (rw : List MV) (g : Bool) (e : Loc) : Loc := ("script", .list xs) :: ("head", .int h) :: ("packet", .int pk) :: ("bag", .obj 0) :: ("rows", .own rw) :: ("good", .bool g) :: e
def eA (k : Nat) : Loc := [("at", .int (.ofNat k))]
def eP (k p : Nat) : Loc := [("at", .int (.ofNat k)), ("place", .int (.ofNat p))]
def eN (k p : Nat) (i : Int) : Loc := [("at", .int (.ofNat k)), ("place", .int (.ofNat p)), ("n", .int i)]
def eI (k p : Nat) (i : Int) : Loc := [("at", .int (.ofNat k)), ("place", .int (.ofNat p)), ("n", .int i), ("ident", .int (.ofNat (idn p)))]
def eV (k p : Nat) (i : Int) (v : MV) (o : List Nat) (rt : Bool) : Loc := [("at", .int (.ofNat k)), ("place", .int (.ofNat p)), ("n", .int i), ("ident", .int (.ofNat (idn p))), ("value", v), ("octets", .bytes o), ("right", .bool rt)]
def eF (k p : Nat) (i : Int) (v : MV) (o : List Nat) (rt ft : Bool) : Loc := [("at", .int (.ofNat k)), ("place", .int (.ofNat p)), ("n", .int i), ("ident", .int (.ofNat (idn p))), ("value", v), ("octets", .bytes o), ("right", .bool rt), ("fits", .bool ft)]
def eM (k p : Nat) (i : Int) (v : MV) (o : List Nat) (rt ft : Bool) (nm : List Nat) : Loc := [("at", .int (.ofNat k)), ("place", .int (.ofNat p)), ("n", .int i), ("ident", .int (.ofNat (idn p))), ("value", v), ("octets", .bytes o), ("right", .bool rt), ("fits", .bool ft), ("name", .str nm)]
def narg (p : Nat) (i : Int) : Int := match Nat.beq p 3 with | true => 1 + Int.fmod i 3 | false => i
def LA3 (p : Nat) : Prop := ∀ (xs : List MV) (h pk : Int) (rw : List MV) (k : Nat) (i : Int) (n : Nat) (S : Sto), rx TT (n + 40) lawSc (bL xs h pk rw true (eN k p i)) S (stAt lawT 3) = some (.next, bL xs h pk rw true (eI k p i), S)
def LA4 (p : Nat) : Prop := ∀ (xs : List MV) (h pk : Int) (rw : List MV) (k : Nat) (i : Int) (n : Nat) (S : Sto), evs ((run TT (n + 40)).ev lawSc (bL xs h pk rw true (eI k p i))) (mA (asE (stAt lawT 4))) S = some ([.str (kNm (kd p)), .int (narg p i)], S)
def LA5 (p : Nat) : Prop := ∀ (xs : List MV) (h pk : Int) (rw : List MV) (k : Nat) (i : Int) (v : MV) (o : List Nat) (rt : Bool) (n : Nat) (S : Sto), rx TT (n + 40) lawSc (bL xs h pk rw true (eV k p i v o rt)) S (stAt lawT 5) = some (.next, bL xs h pk rw true (eF k p i v o rt (anyInt pk (whr p))), S)
def LA7 (p : Nat) : Prop := ∀ (xs : List MV) (h pk : Int) (rw : List MV) (k : Nat) (i : Int) (v : MV) (o : List Nat) (rt ft : Bool) (n : Nat) (S : Sto), (run TT (n + 40)).ev lawSc (bL xs h pk rw true (eF k p i v o rt ft)) S (ieA (asE (stAt lawT 7))) = some (.str (nmF p), S) ∧
  (run TT (n + 40)).ev lawSc (bL xs h pk rw true (eF k p i v o rt ft)) S (ieB (asE (stAt lawT 7))) = some (.str (nmL p), S)
theorem id_get : ∀ p, p < 27 → getL (identsL.map fun n => MV.int (.ofNat n)) p = some (.int (.ofNat (idn p)))
  | 0, _ => rfl
  | 1, _ => rfl
  | 2, _ => rfl
  | 3, _ => rfl
  | 4, _ => rfl
  | 5, _ => rfl
  | 6, _ => rfl
  | 7, _ => rfl
  | 8, _ => rfl
  | 9, _ => rfl
  | 10, _ => rfl
  | 11, _ => rfl
  | 12, _ => rfl
  | 13, _ => rfl
  | 14, _ => rfl
  | 15, _ => rfl
  | 16, _ => rfl
  | 17, _ => rfl
  | 18, _ => rfl
  | 19, _ => rfl
  | 20, _ => rfl
  | 21, _ => rfl
  | 22, _ => rfl
  | 23, _ => rfl
  | 24, _ => rfl
  | 25, _ => rfl
  | 26, _ => rfl
  | n + 27, h => absurd h (by omega)
theorem kind_get : ∀ p, p < 27 → getL (kindL.map fun k => MV.str (kNm k)) p = some (.str (kNm (kd p)))
  | 0, _ => rfl
  | 1, _ => rfl
  | 2, _ => rfl
  | 3, _ => rfl
  | 4, _ => rfl
  | 5, _ => rfl
  | 6, _ => rfl
  | 7, _ => rfl
  | 8, _ => rfl
  | 9, _ => rfl
  | 10, _ => rfl
  | 11, _ => rfl
  | 12, _ => rfl
  | 13, _ => rfl
  | 14, _ => rfl
  | 15, _ => rfl
  | 16, _ => rfl
  | 17, _ => rfl
  | 18, _ => rfl
  | 19, _ => rfl
  | 20, _ => rfl
  | 21, _ => rfl
  | 22, _ => rfl
  | 23, _ => rfl
  | 24, _ => rfl
  | 25, _ => rfl
  | 26, _ => rfl
  | n + 27, h => absurd h (by omega)
theorem where_get : ∀ p, p < 27 → getL lawWhere p = some (.list ((whr p).map MV.int))
  | 0, _ => rfl
  | 1, _ => rfl
  | 2, _ => rfl
  | 3, _ => rfl
  | 4, _ => rfl
  | 5, _ => rfl
  | 6, _ => rfl
  | 7, _ => rfl
  | 8, _ => rfl
  | 9, _ => rfl
  | 10, _ => rfl
  | 11, _ => rfl
  | 12, _ => rfl
  | 13, _ => rfl
  | 14, _ => rfl
  | 15, _ => rfl
  | 16, _ => rfl
  | 17, _ => rfl
  | 18, _ => rfl
  | 19, _ => rfl
  | 20, _ => rfl
  | 21, _ => rfl
  | 22, _ => rfl
  | 23, _ => rfl
  | 24, _ => rfl
  | 25, _ => rfl
  | 26, _ => rfl
  | n + 27, h => absurd h (by omega)
theorem name_get : ∀ p, p < 27 → getL lawNames p = some (.str (nmF p))
  | 0, _ => rfl
  | 1, _ => rfl
  | 2, _ => rfl
  | 3, _ => rfl
  | 4, _ => rfl
  | 5, _ => rfl
  | 6, _ => rfl
  | 7, _ => rfl
  | 8, _ => rfl
  | 9, _ => rfl
  | 10, _ => rfl
  | 11, _ => rfl
  | 12, _ => rfl
  | 13, _ => rfl
  | 14, _ => rfl
  | 15, _ => rfl
  | 16, _ => rfl
  | 17, _ => rfl
  | 18, _ => rfl
  | 19, _ => rfl
  | 20, _ => rfl
  | 21, _ => rfl
  | 22, _ => rfl
  | 23, _ => rfl
  | 24, _ => rfl
  | 25, _ => rfl
  | 26, _ => rfl
  | n + 27, h => absurd h (by omega)
theorem id8 : ∀ p, p < 27 → ibeq (.ofNat (idn p)) 8 = Nat.beq p 3 := by decide +kernel
def l4a : Expr := exAt (mA (asE (stAt lawT 4))) 0
def l4b : Expr := exAt (mA (asE (stAt lawT 4))) 1
theorem l4_cut : mA (asE (stAt lawT 4)) = [l4a, l4b] := by kernel_rfl
theorem LA3_all (p : Nat) (hp : p < 27) : LA3 p := by
  intro xs h pk rw k i n S
  have H := ex_asgn (T := TT) (n := n + 39) (sc := lawSc) (l := bL xs h pk rw true (eN k p i)) (t := stAt lawT 3) (S := S) (S1 := S) (v := .int (.ofNat (idn p))) (by kernel_rfl) (by kernel_rfl) (by kernel_rfl) ?_
  · have e : put (asgX (stAt lawT 3)) (.int (.ofNat (idn p))) (bL xs h pk rw true (eN k p i)) = bL xs h pk rw true (eI k p i) := by kernel_rfl
    rw [e] at H; exact H
  · exact ev_sub (n := n + 38) (a := .list (identsL.map fun n => MV.int (.ofNat n))) (b := .int (.ofNat p)) (S1 := S) (by kernel_rfl) (by kernel_rfl) (by kernel_rfl) (id_get p hp)
theorem LA4_all (p : Nat) (hp : p < 27) : LA4 p := by
  intro xs h pk rw k i n S
  rw [l4_cut]
  refine evs_cons (S1 := S) (by kernel_rfl) ?_ (evs_cons (S1 := S) (q := []) (by kernel_rfl) ?_ rfl)
  · exact ev_sub (n := n + 39) (a := .list (kindL.map fun k => MV.str (kNm k))) (b := .int (.ofNat p)) (S1 := S) (by kernel_rfl) (by kernel_rfl) (by kernel_rfl) (kind_get p hp)
  · have ht : (run TT (n + 39)).tr lawSc (bL xs h pk rw true (eI k p i)) S (ieT l4b) = some (ibeq (.ofNat (idn p)) 8, S) := by kernel_rfl
    rw [id8 p hp] at ht
    unfold narg
    cases e : Nat.beq p 3 with
    | true =>
      rw [e] at ht
      exact ev_ife (n := n + 39) (b := true) (S1 := S) (by kernel_rfl) ht (by kernel_rfl)
    | false =>
      rw [e] at ht
      exact ev_ife (n := n + 39) (b := false) (S1 := S) (by kernel_rfl) ht (by kernel_rfl)
theorem LA5_all (p : Nat) (hp : p < 27) : LA5 p := by
  intro xs h pk rw k i v o rt n S
  have H := ex_asgn (T := TT) (n := n + 39) (sc := lawSc) (l := bL xs h pk rw true (eV k p i v o rt)) (t := stAt lawT 5) (S := S) (S1 := S) (v := .bool (anyInt pk (whr p))) (by kernel_rfl) (by kernel_rfl) (by kernel_rfl) ?_
  · have e : put (asgX (stAt lawT 5)) (.bool (anyInt pk (whr p))) (bL xs h pk rw true (eV k p i v o rt)) = bL xs h pk rw true (eF k p i v o rt (anyInt pk (whr p))) := by kernel_rfl
    rw [e] at H; exact H
  · have hc : cmp (cmO (asE (stAt lawT 5))) (.int pk) (.list ((whr p).map MV.int)) = some (anyInt pk (whr p)) := by
      show (ints? ((whr p).map MV.int)).map (anyInt pk) = _
      rw [ints_map]; rfl
    refine ev_cmp (n := n + 38) (x := .int pk) (y := .list ((whr p).map MV.int)) (S1 := S) (by kernel_rfl) (by kernel_rfl) ?_ hc
    exact ev_sub (n := n + 37) (a := .list lawWhere) (b := .int (.ofNat p)) (S1 := S) (by kernel_rfl) (by kernel_rfl) (by kernel_rfl) (where_get p hp)
def LA7b (p : Nat) : Prop := ∀ (xs : List MV) (h pk : Int) (rw : List MV) (k : Nat) (i : Int) (v : MV) (o : List Nat) (rt ft : Bool) (n : Nat) (S : Sto), (run TT (n + 40)).ev lawSc (bL xs h pk rw true (eF k p i v o rt ft)) S (ieB (asE (stAt lawT 7))) = some (.str (nmL p), S)
theorem LA7b_0 : LA7b 0 := by intro xs h pk rw k i v o rt ft n S; kernel_rfl
theorem LA7b_1 : LA7b 1 := by intro xs h pk rw k i v o rt ft n S; kernel_rfl
theorem LA7b_2 : LA7b 2 := by intro xs h pk rw k i v o rt ft n S; kernel_rfl
theorem LA7b_3 : LA7b 3 := by intro xs h pk rw k i v o rt ft n S; kernel_rfl
theorem LA7b_4 : LA7b 4 := by intro xs h pk rw k i v o rt ft n S; kernel_rfl
theorem LA7b_5 : LA7b 5 := by intro xs h pk rw k i v o rt ft n S; kernel_rfl
theorem LA7b_6 : LA7b 6 := by intro xs h pk rw k i v o rt ft n S; kernel_rfl
theorem LA7b_7 : LA7b 7 := by intro xs h pk rw k i v o rt ft n S; kernel_rfl
theorem LA7b_8 : LA7b 8 := by intro xs h pk rw k i v o rt ft n S; kernel_rfl
theorem LA7b_9 : LA7b 9 := by intro xs h pk rw k i v o rt ft n S; kernel_rfl
theorem LA7b_10 : LA7b 10 := by intro xs h pk rw k i v o rt ft n S; kernel_rfl
theorem LA7b_11 : LA7b 11 := by intro xs h pk rw k i v o rt ft n S; kernel_rfl
theorem LA7b_12 : LA7b 12 := by intro xs h pk rw k i v o rt ft n S; kernel_rfl
theorem LA7b_13 : LA7b 13 := by intro xs h pk rw k i v o rt ft n S; kernel_rfl
theorem LA7b_14 : LA7b 14 := by intro xs h pk rw k i v o rt ft n S; kernel_rfl
theorem LA7b_15 : LA7b 15 := by intro xs h pk rw k i v o rt ft n S; kernel_rfl
theorem LA7b_16 : LA7b 16 := by intro xs h pk rw k i v o rt ft n S; kernel_rfl
theorem LA7b_17 : LA7b 17 := by intro xs h pk rw k i v o rt ft n S; kernel_rfl
theorem LA7b_18 : LA7b 18 := by intro xs h pk rw k i v o rt ft n S; kernel_rfl
theorem LA7b_19 : LA7b 19 := by intro xs h pk rw k i v o rt ft n S; kernel_rfl
theorem LA7b_20 : LA7b 20 := by intro xs h pk rw k i v o rt ft n S; kernel_rfl
theorem LA7b_21 : LA7b 21 := by intro xs h pk rw k i v o rt ft n S; kernel_rfl
theorem LA7b_22 : LA7b 22 := by intro xs h pk rw k i v o rt ft n S; kernel_rfl
theorem LA7b_23 : LA7b 23 := by intro xs h pk rw k i v o rt ft n S; kernel_rfl
theorem LA7b_24 : LA7b 24 := by intro xs h pk rw k i v o rt ft n S; kernel_rfl
theorem LA7b_25 : LA7b 25 := by intro xs h pk rw k i v o rt ft n S; kernel_rfl
theorem LA7b_26 : LA7b 26 := by intro xs h pk rw k i v o rt ft n S; kernel_rfl
theorem LA7b_all : ∀ p, p < 27 → LA7b p
  | 0, _ => LA7b_0
  | 1, _ => LA7b_1
  | 2, _ => LA7b_2
  | 3, _ => LA7b_3
  | 4, _ => LA7b_4
  | 5, _ => LA7b_5
  | 6, _ => LA7b_6
  | 7, _ => LA7b_7
  | 8, _ => LA7b_8
  | 9, _ => LA7b_9
  | 10, _ => LA7b_10
  | 11, _ => LA7b_11
  | 12, _ => LA7b_12
  | 13, _ => LA7b_13
  | 14, _ => LA7b_14
  | 15, _ => LA7b_15
  | 16, _ => LA7b_16
  | 17, _ => LA7b_17
  | 18, _ => LA7b_18
  | 19, _ => LA7b_19
  | 20, _ => LA7b_20
  | 21, _ => LA7b_21
  | 22, _ => LA7b_22
  | 23, _ => LA7b_23
  | 24, _ => LA7b_24
  | 25, _ => LA7b_25
  | 26, _ => LA7b_26
  | n + 27, h => absurd h (by omega)
theorem LA7_all (p : Nat) (hp : p < 27) : LA7 p := by
  intro xs h pk rw k i v o rt ft n S
  exact ⟨ev_sub (n := n + 39) (a := .list lawNames) (b := .int (.ofNat p)) (S1 := S) (by kernel_rfl) (by kernel_rfl) (by kernel_rfl) (name_get p hp), LA7b_all p hp xs h pk rw k i v o rt ft n S⟩
end Mine
namespace Mine
set_option maxRecDepth 100000
open PySem

section
variable {xs : List MV} {h pk : Int} {rw : List MV} {k : Nat} {S : Sto}
/-- place and n -/
theorem la_at {e : Loc} {a : Int} (hk : getL xs k = some (.int a)) (n : Nat) (E : Expr) (hs : isSub E = true) (h1 : (run TT (n + 30)).ev lawSc (bL xs h pk rw true e) S (subO E) = some (.list xs, S))
    (h2 : (run TT (n + 30)).ev lawSc (bL xs h pk rw true e) S (subX E) = some (.int (.ofNat k), S)) : (run TT (n + 31)).ev lawSc (bL xs h pk rw true e) S E = some (.int a, S) :=
  ev_sub hs h1 h2 hk
theorem LA0 {a : Int} {p : Nat} (hk : getL xs k = some (.int a)) (hp : Int.fmod a 28 = .ofNat p) (n : Nat) : rx TT (n + 40) lawSc (bL xs h pk rw true (eA k)) S (stAt lawT 0) = some (.next, bL xs h pk rw true (eP k p), S) := by
  have H := ex_asgn (T := TT) (n := n + 39) (sc := lawSc) (l := bL xs h pk rw true (eA k)) (t := stAt lawT 0) (S := S) (S1 := S) (v := .int (.ofNat p)) (by kernel_rfl) (by kernel_rfl) (by kernel_rfl) ?_
  · have e : put (asgX (stAt lawT 0)) (.int (.ofNat p)) (bL xs h pk rw true (eA k)) = bL xs h pk rw true (eP k p) := by kernel_rfl
    rw [e] at H; exact H
  · refine ev_bin (n := n + 38) (a := .int a) (b := .int 28) (S1 := S) (by kernel_rfl) (la_at hk (n + 7) _ (by kernel_rfl) (by kernel_rfl) (by kernel_rfl)) (by kernel_rfl) ?_
    rw [← hp]; kernel_rfl
theorem LA1 {i : Int} {p : Nat} (hk : getL xs (k + 1) = some (.int i)) (n : Nat) : rx TT (n + 40) lawSc (bL xs h pk rw true (eP k p)) S (stAt lawT 1) = some (.next, bL xs h pk rw true (eN k p i), S) := by
  have H := ex_asgn (T := TT) (n := n + 39) (sc := lawSc) (l := bL xs h pk rw true (eP k p)) (t := stAt lawT 1) (S := S) (S1 := S) (v := .int i) (by kernel_rfl) (by kernel_rfl) (by kernel_rfl) ?_
  · have e : put (asgX (stAt lawT 1)) (.int i) (bL xs h pk rw true (eP k p)) = bL xs h pk rw true (eN k p i) := by kernel_rfl
    rw [e] at H; exact H
  · exact ev_sub (n := n + 38) (a := .list xs) (b := .int (.ofNat (k + 1))) (S1 := S) (by kernel_rfl) (by kernel_rfl) (by kernel_rfl) hk
theorem LA2 {i : Int} {p : Nat} (n : Nat) : (run TT (n + 40)).tr lawSc (bL xs h pk rw true (eN k p i)) S (ifT (stAt lawT 2)) = some (ibeq (.ofNat p) 27, S) := by kernel_rfl
theorem place27 : ∀ p, p < 28 → ibeq (.ofNat p) 27 = Nat.beq p 27 := by decide +kernel
/-- the table's value -/
theorem LA4x {p : Nat} (hp : p < 27) {i : Int} {v : MV} {o : List Nat} {rt : Bool} (hv : LV (kd p) (narg p i) v o rt) (n : Nat) : rx TT (n + 70) lawSc (bL xs h pk rw true (eI k p i)) S (stAt lawT 4) = some (.next, bL xs h pk rw true (eV k p i v o rt), S) := by
  refine ex_tup (n := n + 69) (vs := [v, .bytes o, .bool rt]) (by kernel_rfl) ?_ (by kernel_rfl)
  refine ev_fn (n := n + 68) (by kernel_rfl) (by kernel_rfl) ?_
  rw [evCall_fn (T := TT) (a := 382) (by kernel_rfl) (by kernel_rfl) (LA4_all p hp xs h pk rw k i (n + 28) S) (by kernel_rfl)]
  exact hv (n + 8) S

/-! the rows that have subscription identifiers -/
def rowMV (x : It) : MV := .tup [.int (.ofNat (idn x.1)), .bytes x.2.2]
def rowsMV (its : List It) : List MV := its.map rowMV
def lcA : Expr := exAt (mA (cmA (exAt (boE (exAt (boE (ifT (stAt lawT 6))) 1)) 2))) 0
def rowIs (d : Int) : MV → Bool
  | .tup (.int x :: _) => ibeq x d
  | _ => false
theorem filter_len {f : MV → Bool} : (rw.filter f).length ≤ rw.length := List.length_filter_le _ _
theorem la6_list {p : Nat} {i : Int} {v : MV} {o : List Nat} {rt ft : Bool} {its : List It} (hl : its.length ≤ 5) (n : Nat) :
    (run TT (n + 40)).ev lawSc (bL xs h pk (rowsMV its) true (eF k p i v o rt ft)) S lcA = some (.list ((rowsMV its).filter (rowIs 11)), S) := by
  refine ev_lc (n := n + 39) (by kernel_rfl) ?_
  refine compS_one (l0 := []) (rw := rowsMV its) (by kernel_rfl) (by kernel_rfl) (by kernel_rfl) (by unfold rowsMV; rw [List.length_map]; omega) ?_
  refine compGo_filter (c := rowIs 11) fun w hw => ?_
  obtain ⟨y, _, rfl⟩ := List.mem_map.mp hw
  exact ⟨by kernel_rfl, by kernel_rfl⟩
theorem la6 {p : Nat} {i : Int} {v : MV} {o : List Nat} {rt ft : Bool} {its : List It} (hl : its.length ≤ 5) (n : Nat) :
    (run TT (n + 60)).tr lawSc (bL xs h pk (rowsMV its) true (eF k p i v o rt ft)) S (ifT (stAt lawT 6)) =
      some ((ibeq pk 99 && !ft) || (ibeq pk 8 && (ibeq (.ofNat (idn p)) 11 && ilt 0 (.ofNat ((rowsMV its).filter (rowIs 11)).length))), S) := by
  refine tr_bool (n := n + 59) (by kernel_rfl) (tg_or (A := exAt (boE (ifT (stAt lawT 6))) 0) (B := exAt (boE (ifT (stAt lawT 6))) 1) ?_ ?_)
  · exact tr_bool (n := n + 58) (by kernel_rfl) (tg_and2 (A := exAt (boE (exAt (boE (ifT (stAt lawT 6))) 0)) 0) (B := exAt (boE (exAt (boE (ifT (stAt lawT 6))) 0)) 1) (by kernel_rfl) (by kernel_rfl))
  · refine tr_bool (n := n + 58) (by kernel_rfl) (tg_and3 (A := exAt (boE (exAt (boE (ifT (stAt lawT 6))) 1)) 0) (B := exAt (boE (exAt (boE (ifT (stAt lawT 6))) 1)) 1) (C := exAt (boE (exAt (boE (ifT (stAt lawT 6))) 1)) 2) (by kernel_rfl) (by kernel_rfl) ?_)
    refine tr_cmp (n := n + 57) (x := .int (.ofNat ((rowsMV its).filter (rowIs 11)).length)) (y := .int 0) (S1 := S) (by kernel_rfl) ?_ (by kernel_rfl) (by kernel_rfl)
    refine ev_fn (n := n + 56) (by kernel_rfl) (by kernel_rfl) ?_
    refine evCall_prim (k := 0) (vs := [.list ((rowsMV its).filter (rowIs 11))]) (by kernel_rfl) (by kernel_rfl) ?_ (by kernel_rfl)
    exact evs_cons (by kernel_rfl) (la6_list hl (n + 16)) (by kernel_rfl)

/-! the name -/
theorem la7 {p : Nat} (hp : p < 27) {a i : Int} {v : MV} {o : List Nat} {rt ft : Bool} (hk : getL xs k = some (.int a)) : ∃ nm, Nm p nm ∧ ∀ n, rx TT (n + 60) lawSc (bL xs h pk rw true (eF k p i v o rt ft)) S (stAt lawT 7) = some (.next, bL xs h pk rw true (eM k p i v o rt ft nm), S) := by
  have key : ∀ (b : Bool) (nm : List Nat), ibeq (Int.fmod (Int.fdiv a 28) 2) 0 = b → nm = (match b with | true => nmF p | false => nmL p) → ∀ n, rx TT (n + 60) lawSc (bL xs h pk rw true (eF k p i v o rt ft)) S (stAt lawT 7) = some (.next, bL xs h pk rw true (eM k p i v o rt ft nm), S) := by
    intro b nm hb hnm n
    have H := ex_asgn (T := TT) (n := n + 59) (sc := lawSc) (l := bL xs h pk rw true (eF k p i v o rt ft)) (t := stAt lawT 7) (S := S) (S1 := S) (v := .str nm) (by kernel_rfl) (by kernel_rfl) (by kernel_rfl) ?_
    · have e : put (asgX (stAt lawT 7)) (.str nm) (bL xs h pk rw true (eF k p i v o rt ft)) = bL xs h pk rw true (eM k p i v o rt ft nm) := by kernel_rfl
      rw [e] at H; exact H
    · refine ev_ife (n := n + 58) (b := b) (S1 := S) (by kernel_rfl) ?_ ?_
      · rw [← hb]
        refine tr_cmp (n := n + 57) (x := .int (Int.fmod (Int.fdiv a 28) 2)) (y := .int 0) (S1 := S) (by kernel_rfl) ?_ (by kernel_rfl) (by kernel_rfl)
        refine ev_bin (n := n + 56) (a := .int (Int.fdiv a 28)) (b := .int 2) (S1 := S) (by kernel_rfl) ?_ (by kernel_rfl) (by kernel_rfl)
        refine ev_bin (n := n + 55) (a := .int a) (b := .int 28) (S1 := S) (by kernel_rfl) ?_ (by kernel_rfl) (by kernel_rfl)
        exact la_at hk (n + 24) _ (by kernel_rfl) (by kernel_rfl) (by kernel_rfl)
      · have := LA7_all p hp xs h pk rw k i v o rt ft (n + 18) S
        subst hnm
        cases b
        · exact this.2
        · exact this.1
  cases hb : ibeq (Int.fmod (Int.fdiv a 28) 2) 0 with
  | true => exact ⟨nmF p, .inl rfl, key true _ hb rfl⟩
  | false => exact ⟨nmL p, .inr rfl, key false _ hb rfl⟩

/-! the try -/
def tr8 : Stmt := stAt lawT 8
theorem la8_args {p : Nat} {i : Int} {v : MV} {o : List Nat} {rt ft : Bool} {nm : List Nat} (hv : headOk v = true) (n : Nat) : evs ((run TT (n + 40)).ev lawSc (bL xs h pk rw true (eM k p i v o rt ft nm))) (mA (tryC tr8)) S = some ([.str nm, v], S) := by
  cases v <;> first | (cases hv; done) | kernel_rfl
theorem la8_call {p : Nat} {i : Int} {v : MV} {o : List Nat} {rt ft : Bool} {nm : List Nat} (hv : headOk v = true) (n : Nat) : evCall TT (run TT (n + 40)) lawSc (bL xs h pk rw true (eM k p i v o rt ft nm)) S (tryC tr8) = (run TT (n + 40)).ca 262 [.obj 0, .str nm, v] S :=
  evCall_meth (T := TT) (k := 0) (by kernel_rfl) (by kernel_rfl) (la8_args hv n) (by kernel_rfl) (by kernel_rfl)
theorem la8_exc {p : Nat} {i : Int} {v : MV} {o : List Nat} {rt ft : Bool} {nm : List Nat} (hv : headOk v = true) (hb : (ft && rt) = false) (n : Nat) (hc : (run TT (n + 40)).ca 262 [.obj 0, .str nm, v] S = some (.exc 65, S)) :
    rx TT (n + 41) lawSc (bL xs h pk rw true (eM k p i v o rt ft nm)) S tr8 = some (.next, bL xs h pk rw true (eM k p i v o rt ft nm), S) := by
  refine ex_tryExc (n := n + 40) (by kernel_rfl) (by kernel_rfl) ((la8_call hv n).trans hc) (by kernel_rfl) (by kernel_rfl) ?_
  cases ft <;> cases rt <;> first | (cases hb; done) | kernel_rfl
theorem la8_keep {p : Nat} {i : Int} {v : MV} {o : List Nat} {rt ft : Bool} {nm : List Nat} {its : List It} (hl : its.length ≤ 5) (n : Nat) (t : Stmt) (ht : t = stAt (ifA (stAt (tryA tr8) 1)) 0) :
    rx TT (n + 50) lawSc (bL xs h pk (rowsMV its) true (eM k p i v o rt ft nm)) S t = some (.next, bL xs h pk ((rowsMV its).filter fun w => !rowIs (.ofNat (idn p)) w) true (eM k p i v o rt ft nm), S) := by
  subst ht
  have H := ex_ownLC (T := TT) (n := n + 49) (sc := lawSc) (l := bL xs h pk (rowsMV its) true (eM k p i v o rt ft nm)) (t := stAt (ifA (stAt (tryA tr8) 1)) 0) (S := S) (S1 := S) (zs := (rowsMV its).filter fun w => !rowIs (.ofNat (idn p)) w) (by kernel_rfl) (by kernel_rfl) (by kernel_rfl) ?_
  · have e : put (asgX (stAt (ifA (stAt (tryA tr8) 1)) 0)) (.own ((rowsMV its).filter fun w => !rowIs (.ofNat (idn p)) w)) (bL xs h pk (rowsMV its) true (eM k p i v o rt ft nm)) = bL xs h pk ((rowsMV its).filter fun w => !rowIs (.ofNat (idn p)) w) true (eM k p i v o rt ft nm) := by kernel_rfl
    rw [e] at H; exact H
  · refine compS_one (l0 := [("ident", .int (.ofNat (idn p)))]) (rw := rowsMV its) (by kernel_rfl) (by kernel_rfl) (by kernel_rfl) (by unfold rowsMV; rw [List.length_map]; omega) ?_
    refine compGo_filter (c := fun w => !rowIs (.ofNat (idn p)) w) fun w hw => ?_
    obtain ⟨y, _, rfl⟩ := List.mem_map.mp hw
    exact ⟨by kernel_rfl, by kernel_rfl⟩
theorem la8_test {p : Nat} {i : Int} {v : MV} {o : List Nat} {rt ft : Bool} {nm : List Nat} (n : Nat) : (run TT (n + 50)).tr lawSc (bL xs h pk rw true (eM k p i v o rt ft nm)) S (ifT (stAt (tryA tr8) 1)) = some (!ibeq (.ofNat (idn p)) 11 && !ibeq (.ofNat (idn p)) 38, S) :=
  tr_bool (n := n + 49) (by kernel_rfl) (tg_and2 (A := exAt (boE (ifT (stAt (tryA tr8) 1))) 0) (B := exAt (boE (ifT (stAt (tryA tr8) 1))) 1) (by kernel_rfl) (by kernel_rfl))
theorem multi_id : ∀ p, p < 27 → (!ibeq (.ofNat (idn p)) 11 && !ibeq (.ofNat (idn p)) 38) = !multi p := by decide +kernel
theorem row_id : ∀ q, q < 27 → ∀ p, p < 27 → ibeq (.ofNat (idn q)) (.ofNat (idn p)) = Nat.beq q p := by decide +kernel
theorem rows_del {p : Nat} (hp : p < 27) {its : List It} (H : ∀ x ∈ its, x.1 < 27) : ((rowsMV its).filter fun w => !rowIs (.ofNat (idn p)) w) = rowsMV (its.filter fun x => !Nat.beq x.1 p) := by
  unfold rowsMV
  rw [List.filter_map]
  congr 1
  refine List.filter_congr fun x hx => ?_
  show (!ibeq (.ofNat (idn x.1)) (.ofNat (idn p))) = _
  rw [row_id _ (H x hx) _ hp]
theorem tryA_cut : tryA tr8 = [stAt (tryA tr8) 0, stAt (tryA tr8) 1, stAt (tryA tr8) 2] := by kernel_rfl
theorem la8_ok {p : Nat} (hp : p < 27) {i : Int} {v : MV} {o : List Nat} {nm : List Nat} {its : List It} (hl : its.length ≤ 5) (H : ∀ x ∈ its, x.1 < 27) (hv : headOk v = true) (n : Nat) {S1 : Sto} (hc : (run TT (n + 60)).ca 262 [.obj 0, .str nm, v] S = some (.val .none, S1)) :
    rx TT (n + 61) lawSc (bL xs h pk (rowsMV its) true (eM k p i v o true true nm)) S tr8 = some (.next, bL xs h pk (rowsMV (ins p v o its)) true (eM k p i v o true true nm), S1) := by
  refine ex_tryOk (n := n + 60) (by kernel_rfl) (by kernel_rfl) ((la8_call hv (n + 20)).trans hc) ?_ (by intro c hc; cases hc)
  rw [tryA_cut]
  refine exs_nx (l1 := bL xs h pk (rowsMV its) true (eM k p i v o true true nm)) (S1 := S1) (by kernel_rfl) (exs_nx (l1 := bL xs h pk (rowsMV (match multi p with | true => its | false => its.filter fun x => !Nat.beq x.1 p)) true (eM k p i v o true true nm)) (S1 := S1) ?_ (exs_nx ?_ rfl))
  · have h0 := la8_test (xs := xs) (h := h) (pk := pk) (rw := rowsMV its) (k := k) (S := S1) (p := p) (i := i) (v := v) (o := o) (rt := true) (ft := true) (nm := nm) (n + 9)
    rw [multi_id p hp] at h0
    refine ex_if (n := n + 59) (by kernel_rfl) h0 ?_
    cases hm : multi p with
    | true =>
      have : ifB (stAt (tryA tr8) 1) = [] := by kernel_rfl
      show exs _ (ifB (stAt (tryA tr8) 1)) _ _ = _
      rw [this]; rfl
    | false =>
      have : ifA (stAt (tryA tr8) 1) = [stAt (ifA (stAt (tryA tr8) 1)) 0] := by kernel_rfl
      show exs _ (ifA (stAt (tryA tr8) 1)) _ _ = _
      rw [this]
      refine exs_nx ?_ rfl
      have := la8_keep (xs := xs) (h := h) (pk := pk) (k := k) (S := S1) (p := p) (i := i) (v := v) (o := o) (rt := true) (ft := true) (nm := nm) hl (n + 9) _ rfl
      rw [rows_del hp H] at this
      exact this
  · have hlen : (rowsMV (match multi p with | true => its | false => its.filter fun x => !Nat.beq x.1 p)).length ≤ 1000 := by
      unfold rowsMV
      rw [List.length_map]
      cases multi p
      · exact Nat.le_trans (List.length_filter_le _ _) (by omega)
      · show its.length ≤ _; omega
    have HA := ex_app (T := TT) (n := n + 59) (sc := lawSc) (l := bL xs h pk (rowsMV (match multi p with | true => its | false => its.filter fun x => !Nat.beq x.1 p)) true (eM k p i v o true true nm)) (t := stAt (tryA tr8) 2) (S := S1) (S1 := S1)
      (v := rowMV (p, v, o)) (xs := rowsMV (match multi p with | true => its | false => its.filter fun x => !Nat.beq x.1 p)) (by kernel_rfl) (by kernel_rfl) hlen (by kernel_rfl)
    have e : put (appX (stAt (tryA tr8) 2)) (.own (rowsMV (match multi p with | true => its | false => its.filter fun x => !Nat.beq x.1 p) ++ [rowMV (p, v, o)])) (bL xs h pk (rowsMV (match multi p with | true => its | false => its.filter fun x => !Nat.beq x.1 p)) true (eM k p i v o true true nm)) =
      bL xs h pk (rowsMV (match multi p with | true => its | false => its.filter fun x => !Nat.beq x.1 p) ++ [rowMV (p, v, o)]) true (eM k p i v o true true nm) := by kernel_rfl
    rw [e] at HA
    have e2 : rowsMV (ins p v o its) = rowsMV (match multi p with | true => its | false => its.filter fun x => !Nat.beq x.1 p) ++ [rowMV (p, v, o)] := by
      unfold ins rowsMV
      rw [List.map_append]; rfl
    rw [e2]
    exact HA
end
end Mine
namespace Mine
set_option maxRecDepth 100000
open PySem

structure LawOk (pk : Int) (its : List It) : Prop where
  place : ∀ x ∈ its, x.1 < 27
  good : ∀ x ∈ its, Good x.1 x.2.1 x.2.2
  uniq : ∀ p, multi p = false → (atP p its).length ≤ 1
  has : ∀ x ∈ its, anyInt pk (whr x.1) = true
theorem LawOk.nil (pk : Int) : LawOk pk [] := ⟨fun _ h => (nomatch h), fun _ h => (nomatch h), fun _ _ => Nat.zero_le _, fun _ h => (nomatch h)⟩
theorem LawOk.rows {pk : Int} {its : List It} (H : LawOk pk its) (h : its.length ≤ 5) : RowsOk its := ⟨H.place, H.good, H.uniq, h⟩
theorem ins_mem {p : Nat} {v : MV} {o : List Nat} {its : List It} {x : It} (h : x ∈ ins p v o its) : x ∈ its ∨ x = (p, v, o) := by
  unfold ins at h
  rcases List.mem_append.mp h with h | h
  · cases hm : multi p with
    | true => rw [hm] at h; exact .inl h
    | false => rw [hm] at h; exact .inl (List.mem_filter.mp h).1
  · exact .inr (List.mem_singleton.mp h)
theorem ins_len {p : Nat} {v : MV} {o : List Nat} {its : List It} : (ins p v o its).length ≤ its.length + 1 := by
  unfold ins
  rw [List.length_append]
  cases hm : multi p with
  | true => exact Nat.le_refl _
  | false => exact Nat.add_le_add_right (List.length_filter_le _ _) 1
theorem LawOk.ins {pk : Int} {its : List It} (H : LawOk pk its) {p : Nat} {v : MV} {o : List Nat} (hp : p < 27) (hg : Good p v o) (hw : anyInt pk (whr p) = true) : LawOk pk (ins p v o its) := by
  refine ⟨fun x hx => ?_, fun x hx => ?_, fun q hq => ?_, fun x hx => ?_⟩
  · rcases ins_mem hx with h | rfl
    · exact H.place x h
    · exact hp
  · rcases ins_mem hx with h | rfl
    · exact H.good x h
    · exact hg
  · unfold Mine.ins
    rw [atP_app]
    by_cases e : q = p
    · subst e
      rw [hq, atP_del_self, List.nil_append]
      exact List.length_filter_le _ _
    · have h1 : atP q [(p, v, o)] = [] := by
        unfold atP
        rw [List.filter_eq_nil_iff]
        intro x hx
        rw [List.mem_singleton.mp hx]
        show ¬ (Nat.beq p q = true)
        intro h
        exact e (Nat.eq_of_beq_eq_true h).symm
      rw [h1, List.append_nil]
      cases hm : multi p with
      | true => exact H.uniq q hq
      | false => show (atP q (its.filter fun x => !Nat.beq x.1 p)).length ≤ 1; rw [atP_del (beq_ne e)]; exact H.uniq q hq
  · rcases ins_mem hx with h | rfl
    · exact H.has x h
    · exact hw

theorem bad_case {p : Nat} {v : MV} : ∀ {k : Nat}, kd p = k → p < 27 → BadK k v → SDx p v := by
  intro k hk hp hb
  have key : ∀ q, q < 27 → (kd q = 0 → q = 0 ∨ q = 11 ∨ q = 13) ∧ (kd q = 3 → q = 17 ∨ q = 19) ∧ (kd q = 5 → q = 23) ∧ (kd q = 6 → q = 5) := by decide +kernel
  obtain ⟨k0, k3, k5, k6⟩ := key p hp
  unfold BadK at hb
  split at hb
  · subst hb
    rcases k0 hk with rfl | rfl | rfl
    · exact sx_0
    · exact sx_11
    · exact sx_13
  · subst hb
    rcases k3 hk with rfl | rfl
    · exact sx_17
    · exact sx_19
  · subst hb
    cases k5 hk
    exact sx_23
  · cases k6 hk
    rcases hb with rfl | rfl
    · exact sx_5
    · exact sx_5b
  · cases hb

section
variable {xs : List MV} {h pk : Int} {k : Nat}
theorem lawT_cut : lawT = [stAt lawT 0, stAt lawT 1, stAt lawT 2, stAt lawT 3, stAt lawT 4, stAt lawT 5, stAt lawT 6, stAt lawT 7, stAt lawT 8] := by kernel_rfl
def try2 : Stmt := stAt (ifA (stAt lawT 2)) 0
def badMV : List MV := [.str (badNm 0), .str (badNm 1), .str (badNm 2)]
theorem bad_args {rw : List MV} {i : Int} {c : Nat} {w : MV} (hz : Int.fmod i 3 = .ofNat c) (hw : getL badMV c = some w) (n : Nat) (S : Sto) :
    evs ((run TT (n + 40)).ev lawSc (bL xs h pk rw true (eN k 27 i))) (mA (tryC try2)) S = some ([w, .int 1], S) := by
  have hc : mA (tryC try2) = [exAt (mA (tryC try2)) 0, exAt (mA (tryC try2)) 1] := by kernel_rfl
  rw [hc]
  refine evs_cons (S1 := S) (by kernel_rfl) ?_ (evs_cons (S1 := S) (v := .int 1) (q := []) (by kernel_rfl) (by kernel_rfl) rfl)
  refine ev_sub (n := n + 39) (a := .tup badMV) (b := .int (Int.fmod i 3)) (S1 := S) (by kernel_rfl) (by kernel_rfl) (by kernel_rfl) ?_
  rw [hz]; exact hw
theorem bad_deed {rw : List MV} {i : Int} (n : Nat) (f : Att) : rx TT (n + 99) lawSc (bL xs h pk rw true (eN k 27 i)) [mkA (.int pk) f] try2 = some (.cont, bL xs h pk rw true (eN k 27 i), [mkA (.int pk) f]) := by
  have key : ∀ w : MV, (∀ n, evs ((run TT (n + 40)).ev lawSc (bL xs h pk rw true (eN k 27 i))) (mA (tryC try2)) [mkA (.int pk) f] = some ([w, .int 1], [mkA (.int pk) f])) →
      ((run TT (n + 56 + 42)).ca 262 [.obj 0, w, .int 1] [mkA (.int pk) f] = some (.exc 65, [mkA (.int pk) f])) →
      rx TT (n + 99) lawSc (bL xs h pk rw true (eN k 27 i)) [mkA (.int pk) f] try2 = some (.cont, bL xs h pk rw true (eN k 27 i), [mkA (.int pk) f]) := by
    intro w ha hc
    refine ex_tryExc (n := n + 98) (x := 65) (by kernel_rfl) (by kernel_rfl) ?_ (by kernel_rfl) (by kernel_rfl) (by kernel_rfl)
    rw [evCall_meth (T := TT) (k := 0) (f := 262) (by kernel_rfl) (by kernel_rfl) (ha (n + 58)) (by kernel_rfl) (by kernel_rfl)]
    exact hc
  obtain ⟨c, hc, hz⟩ := fmod_cases i 2
  match c, hc, hz with
  | 0, _, hz => exact key _ (fun n => bad_args hz rfl n _) set_no3_0
  | 1, _, hz => exact key _ (fun n => bad_args hz rfl n _) set_no3_1
  | 2, _, hz => exact key _ (fun n => bad_args hz rfl n _) set_no3_2

theorem law_turn {its : List It} (H : LawOk pk its) (hl : its.length ≤ 4) {a i : Int} (hk : getL xs k = some (.int a)) (hk1 : getL xs (k + 1) = some (.int i)) (n : Nat) :
    ∃ fl l' its', exs (rx TT (n + 110) lawSc) lawT (bL xs h pk (rowsMV its) true (eA k)) [mkA (.int pk) (attOf its)] = some (fl, l', [mkA (.int pk) (attOf its')]) ∧ (fl = .next ∨ fl = .cont) ∧
      restr (bL xs h pk (rowsMV its) true []) l' = bL xs h pk (rowsMV its') true [] ∧ LawOk pk its' ∧ its'.length ≤ its.length + 1 := by
  obtain ⟨p, hp28, hpm⟩ := fmod_cases a 27
  have h0 := LA0 (xs := xs) (h := h) (pk := pk) (rw := rowsMV its) (S := [mkA (.int pk) (attOf its)]) hk hpm (n + 70)
  have h1 := LA1 (xs := xs) (h := h) (pk := pk) (rw := rowsMV its) (S := [mkA (.int pk) (attOf its)]) (p := p) hk1 (n + 70)
  have h2 := LA2 (xs := xs) (h := h) (pk := pk) (rw := rowsMV its) (S := [mkA (.int pk) (attOf its)]) (p := p) (k := k) (i := i) (n + 69)
  rw [place27 p hp28] at h2
  by_cases e27 : p = 27
  · subst e27
    refine ⟨.cont, bL xs h pk (rowsMV its) true (eN k 27 i), its, ?_, .inr rfl, by kernel_rfl, H, Nat.le_succ _⟩
    rw [lawT_cut]
    refine exs_nx h0 (exs_nx h1 (exs_out (ex_if (n := n + 109) (by kernel_rfl) h2 ?_) (by intro h; cases h)))
    have : ifA (stAt lawT 2) = [try2] := by kernel_rfl
    show exs _ (ifA (stAt lawT 2)) _ _ = _
    rw [this]
    exact exs_out (bad_deed (n + 10) _) (by intro h; cases h)
  · have hp : p < 27 := by omega
    rw [beq_ne e27] at h2
    obtain ⟨v, o, hv, hlv⟩ := lvsAll (narg p i) (kd p) (kd_lt p hp)
    obtain ⟨rt, hLV, hgb⟩ : ∃ rt, LV (kd p) (narg p i) v o rt ∧ ((rt = true ∧ Good p v o) ∨ (rt = false ∧ SDx p v)) := by
      rcases hlv with ⟨h1, h2⟩ | ⟨h1, h2⟩
      · exact ⟨true, h1, .inl ⟨rfl, good_of h2⟩⟩
      · exact ⟨false, h1, .inr ⟨rfl, bad_case rfl hp h2⟩⟩
    have h3 := LA3_all p hp xs h pk (rowsMV its) k i (n + 70) [mkA (.int pk) (attOf its)]
    have h4 := LA4x (xs := xs) (h := h) (pk := pk) (rw := rowsMV its) (k := k) (S := [mkA (.int pk) (attOf its)]) hp hLV (n + 40)
    have h5 := LA5_all p hp xs h pk (rowsMV its) k i v o rt (n + 70) [mkA (.int pk) (attOf its)]
    have h6 := la6 (xs := xs) (h := h) (pk := pk) (k := k) (S := [mkA (.int pk) (attOf its)]) (p := p) (i := i) (v := v) (o := o) (rt := rt) (ft := anyInt pk (whr p)) (its := its) (by omega) (n + 49)
    have hB2 : ifB (stAt lawT 2) = [] := by kernel_rfl
    have hB6 : ifB (stAt lawT 6) = [] := by kernel_rfl
    have hh2 : rx TT (n + 110) lawSc (bL xs h pk (rowsMV its) true (eN k p i)) [mkA (.int pk) (attOf its)] (stAt lawT 2) = some (.next, bL xs h pk (rowsMV its) true (eN k p i), [mkA (.int pk) (attOf its)]) := by
      refine ex_if (n := n + 109) (by kernel_rfl) h2 ?_
      show exs _ (ifB (stAt lawT 2)) _ _ = _
      rw [hB2]; rfl
    rw [lawT_cut]
    revert h6
    generalize ((ibeq pk 99 && !anyInt pk (whr p)) || (ibeq pk 8 && (ibeq (.ofNat (idn p)) 11 && ilt 0 (.ofNat ((rowsMV its).filter (rowIs 11)).length)))) = c6
    intro h6
    cases c6 with
    | true =>
      refine ⟨.cont, bL xs h pk (rowsMV its) true (eF k p i v o rt (anyInt pk (whr p))), its, ?_, .inr rfl, by kernel_rfl, H, Nat.le_succ _⟩
      refine exs_nx h0 (exs_nx h1 (exs_nx hh2 (exs_nx h3 (exs_nx h4 (exs_nx h5 (exs_out (ex_if (n := n + 109) (by kernel_rfl) h6 ?_) (by intro h; cases h)))))))
      kernel_rfl
    | false =>
      have hh6 : rx TT (n + 110) lawSc (bL xs h pk (rowsMV its) true (eF k p i v o rt (anyInt pk (whr p)))) [mkA (.int pk) (attOf its)] (stAt lawT 6) = some (.next, bL xs h pk (rowsMV its) true (eF k p i v o rt (anyInt pk (whr p))), [mkA (.int pk) (attOf its)]) := by
        refine ex_if (n := n + 109) (by kernel_rfl) h6 ?_
        show exs _ (ifB (stAt lawT 6)) _ _ = _
        rw [hB6]; rfl
      obtain ⟨nm, hnm, h7⟩ := la7 (xs := xs) (h := h) (pk := pk) (rw := rowsMV its) (k := k) (S := [mkA (.int pk) (attOf its)]) hp (i := i) (v := v) (o := o) (rt := rt) (ft := anyInt pk (whr p)) hk
      have hrun : ∀ {fl : Fl} {l' : Loc} {S' : Sto}, rx TT (n + 110) lawSc (bL xs h pk (rowsMV its) true (eM k p i v o rt (anyInt pk (whr p)) nm)) [mkA (.int pk) (attOf its)] (stAt lawT 8) = some (.next, l', S') →
          exs (rx TT (n + 110) lawSc) [stAt lawT 0, stAt lawT 1, stAt lawT 2, stAt lawT 3, stAt lawT 4, stAt lawT 5, stAt lawT 6, stAt lawT 7, stAt lawT 8] (bL xs h pk (rowsMV its) true (eA k)) [mkA (.int pk) (attOf its)] = some (.next, l', S') := fun h8 =>
        exs_nx h0 (exs_nx h1 (exs_nx hh2 (exs_nx h3 (exs_nx h4 (exs_nx h5 (exs_nx hh6 (exs_nx (h7 (n + 50)) (exs_nx h8 rfl))))))))
      cases hft : anyInt pk (whr p) with
      | false =>
        rw [hft] at hrun
        refine ⟨.next, _, its, hrun (fl := .next) (la8_exc hv (by rfl) (n + 69) (set_no1 hp hnm hft (o := none) (n := n + 67))), .inl rfl, by kernel_rfl, H, Nat.le_succ _⟩
      | true =>
        rw [hft] at hrun
        rcases hgb with ⟨rfl, hg⟩ | ⟨rfl, hb⟩
        · exact ⟨.next, _, ins p v o its, hrun (fl := .next) (la8_ok hp (by omega) H.place hv (n + 49) (set_put hp hnm hg hl hft (o := none) (n := n + 67))), .inl rfl, by kernel_rfl, H.ins hp hg hft, ins_len⟩
        · refine ⟨.next, _, its, hrun (fl := .next) (la8_exc hv (by rfl) (n + 69) (set_no2 hp hnm hb hft (o := none) (n := n + 67))), .inl rfl, by kernel_rfl, H, Nat.le_succ _⟩
end
end Mine
namespace Mine
set_option maxRecDepth 100000
open PySem

section
variable {xs : List MV} {h pk : Int} {S : Sto}
theorem law_loop (n : Nat) : ∀ (ats : List Nat) (its : List It), (∀ k ∈ ats, ∃ a i, getL xs k = some (.int a) ∧ getL xs (k + 1) = some (.int i)) → its.length + ats.length ≤ 5 → LawOk pk its →
    ∃ its', forGo (fun l' s' => exs (rx TT (n + 110) lawSc) (forA (stAt lawBody 6)) l' s') (forX (stAt lawBody 6)) (ats.map fun k => .int (.ofNat k)) (bL xs h pk (rowsMV its) true []) [mkA (.int pk) (attOf its)] =
      some (.next, bL xs h pk (rowsMV its') true [], [mkA (.int pk) (attOf its')]) ∧ LawOk pk its' ∧ its'.length ≤ 5
  | [], its, _, hl, H => ⟨its, rfl, H, by simpa using hl⟩
  | k :: ats, its, hk, hl, H => by
    rw [List.length_cons] at hl
    obtain ⟨a, i, h1, h2⟩ := hk k (.head _)
    obtain ⟨fl, l', its1, g1, g2, g3, g4, g5⟩ := law_turn (h := h) H (by omega) h1 h2 n
    obtain ⟨its2, k1, k2, k3⟩ := law_loop n ats its1 (fun k hk' => hk k (.tail _ hk')) (by omega) g4
    refine ⟨its2, ?_, k2, k3⟩
    rcases g2 with rfl | rfl
    · refine forGo_next g1 ?_
      rw [g3]; exact k1
    · refine forGo_cont g1 ?_
      rw [g3]; exact k1

/-! what the law lays -/
def bM (xs : List MV) (h pk : Int) (rv : MV) (e : Loc) : Loc := ("script", .list xs) :: ("head", .int h) :: ("packet", .int pk) :: ("bag", .obj 0) :: ("rows", rv) :: ("good", .bool true) :: e
def law8 : Stmt := stAt lawBody 8
def law8b : Stmt := stAt (forA law8) 0
def law8c : Stmt := stAt (forA law8b) 0
def law8d : Stmt := stAt (ifA law8c) 0
theorem law8_cut : forA law8 = [law8b] := by kernel_rfl
theorem law8b_cut : forA law8b = [law8c] := by kernel_rfl
theorem law8c_cut : ifA law8c = [law8d] ∧ ifB law8c = [] := by constructor <;> kernel_rfl
def eR (b : List Nat) (p : Nat) (r : MV) : Loc := [("inner", .bytes b), ("ident", .int (.ofNat (idn p))), ("row", r)]
def eQ (b : List Nat) (p : Nat) : Loc := [("inner", .bytes b), ("ident", .int (.ofNat (idn p)))]
theorem idn_lt : ∀ p, p < 27 → idn p < 256 := by decide +kernel
theorem lay_row {p : Nat} (hp : p < 27) {rv : MV} (y : It) (hy : y.1 < 27) (b : List Nat) (hb : b.length + (y.2.2.length + 1) ≤ 1000000) (n : Nat) :
    exs (rx TT (n + 60) lawSc) (forA law8b) (bM xs h pk rv (eR b p (rowMV y))) S =
      some (.next, bM xs h pk rv (eR (b ++ match Nat.beq y.1 p with | true => idn p :: y.2.2 | false => []) p (rowMV y)), S) := by
  rw [law8b_cut]
  refine exs_nx ?_ rfl
  have ht : (run TT (n + 59)).tr lawSc (bM xs h pk rv (eR b p (rowMV y))) S (ifT law8c) = some (ibeq (.ofNat (idn y.1)) (.ofNat (idn p)), S) := by kernel_rfl
  rw [row_id _ hy _ hp] at ht
  refine ex_if (n := n + 59) (by kernel_rfl) ht ?_
  cases e : Nat.beq y.1 p with
  | false =>
    show exs _ (ifB law8c) _ _ = _
    rw [law8c_cut.2]
    simp only [List.append_nil]
    rfl
  | true =>
    show exs _ (ifA law8c) _ _ = _
    rw [law8c_cut.1]
    refine exs_nx ?_ rfl
    have H := ex_asgn (T := TT) (n := n + 58) (sc := lawSc) (l := bM xs h pk rv (eR b p (rowMV y))) (t := law8d) (S := S) (S1 := S) (v := .bytes (b ++ idn p :: y.2.2)) (by kernel_rfl) (by kernel_rfl) (by kernel_rfl) ?_
    · have e : put (asgX law8d) (.bytes (b ++ idn p :: y.2.2)) (bM xs h pk rv (eR b p (rowMV y))) = bM xs h pk rv (eR (b ++ idn p :: y.2.2) p (rowMV y)) := by kernel_rfl
      rw [e] at H; exact H
    · have e : b ++ idn p :: y.2.2 = (b ++ [idn p]) ++ y.2.2 := by rw [List.append_assoc]; rfl
      rw [e]
      refine ev_bin (n := n + 57) (a := .bytes (b ++ [idn p])) (b := .bytes y.2.2) (S1 := S) (by kernel_rfl) ?_ (by kernel_rfl) (bin_cat (by rw [List.length_append]; simp only [List.length_cons, List.length_nil]; omega))
      refine ev_bin (n := n + 56) (a := .bytes b) (b := .bytes [idn p]) (S1 := S) (by kernel_rfl) (by kernel_rfl) ?_ (bin_cat (by simp only [List.length_cons, List.length_nil]; omega))
      have : (run TT (n + 56)).ev lawSc (bM xs h pk rv (eR b p (rowMV y))) S (binB (binA (asE law8d))) = valOut (((allByte [.int (.ofNat (idn p))]).map MV.bytes).map fun v => (.val v, S)) := by kernel_rfl
      rw [this]
      exact bytes_one _ _ rfl (idn_lt p hp) S
theorem lay_rows {p : Nat} (hp : p < 27) {rv : MV} (n : Nat) : ∀ (L : List It) (b : List Nat), (∀ y ∈ L, y.1 < 27) → b.length + (L.map fun y => y.2.2.length + 1).sum ≤ 1000000 →
    forGo (fun l' s' => exs (rx TT (n + 60) lawSc) (forA law8b) l' s') (forX law8b) (rowsMV L) (bM xs h pk rv (eQ b p)) S = some (.next, bM xs h pk rv (eQ (b ++ octP p L) p), S)
  | [], b, _, _ => by
    have : octP p [] = [] := rfl
    rw [this, List.append_nil]; rfl
  | y :: L, b, hy, hb => by
    rw [List.map_cons, List.sum_cons] at hb
    refine forGo_next (l1 := bM xs h pk rv (eR (b ++ match Nat.beq y.1 p with | true => idn p :: y.2.2 | false => []) p (rowMV y))) (S1 := S) ?_ ?_
    · exact lay_row hp y (hy y (.head _)) b (by omega) n
    · have e : restr (bM xs h pk rv (eQ b p)) (bM xs h pk rv (eR (b ++ match Nat.beq y.1 p with | true => idn p :: y.2.2 | false => []) p (rowMV y))) = bM xs h pk rv (eQ (b ++ match Nat.beq y.1 p with | true => idn p :: y.2.2 | false => []) p) := by kernel_rfl
      rw [e]
      have hlen : (match Nat.beq y.1 p with | true => idn p :: y.2.2 | false => [] : List Nat).length ≤ y.2.2.length + 1 := by
        cases Nat.beq y.1 p
        · exact Nat.zero_le _
        · exact Nat.le_refl _
      have ih := lay_rows (rv := rv) hp n L (b ++ match Nat.beq y.1 p with | true => idn p :: y.2.2 | false => []) (fun z hz => hy z (.tail _ hz)) (by rw [List.length_append]; omega)
      refine ih.trans ?_
      have e2 : octP p (y :: L) = (match Nat.beq y.1 p with | true => idn p :: y.2.2 | false => []) ++ octP p L := by
        unfold octP atP
        rw [List.filter_cons]
        cases Nat.beq y.1 p with
        | true => rw [if_pos rfl, List.flatMap_cons]
        | false => rfl
      rw [e2, List.append_assoc]
theorem lay_all (n : Nat) {its : List It} (H : ∀ y ∈ its, y.1 < 27) (hs : (its.map fun y => y.2.2.length + 1).sum ≤ 900000) : ∀ (L : List Nat) (b : List Nat), (∀ p ∈ L, p < 27) → b.length + (L.flatMap fun p => octP p its).length ≤ 100000 →
    forGo (fun l' s' => exs (rx TT (n + 61) lawSc) (forA law8) l' s') (forX law8) (L.map fun p => .int (.ofNat (idn p))) (bM xs h pk (.list (rowsMV its)) [("inner", .bytes b)]) S = some (.next, bM xs h pk (.list (rowsMV its)) [("inner", .bytes (b ++ L.flatMap fun p => octP p its))], S)
  | [], b, _, _ => by simp [forGo]
  | p :: L, b, hL, hb => by
    rw [List.flatMap_cons, List.length_append] at hb
    refine forGo_next (l1 := bM xs h pk (.list (rowsMV its)) (eQ (b ++ octP p its) p)) (S1 := S) ?_ ?_
    · rw [law8_cut]
      refine exs_nx ?_ rfl
      refine ex_for (n := n + 60) (vs := rowsMV its) (S1 := S) (by kernel_rfl) (by kernel_rfl) (by kernel_rfl) (by kernel_rfl) ?_
      exact lay_rows (hL p (.head _)) n its b H (by omega)
    · have e : restr (bM xs h pk (.list (rowsMV its)) [("inner", .bytes b)]) (bM xs h pk (.list (rowsMV its)) (eQ (b ++ octP p its) p)) = bM xs h pk (.list (rowsMV its)) [("inner", .bytes (b ++ octP p its))] := by kernel_rfl
      rw [e, lay_all n H hs L _ (fun q hq => hL q (.tail _ hq)) (by rw [List.length_append]; omega), List.flatMap_cons, List.append_assoc]
/-- the first place finds the rows still owned -/
theorem lay_first (n : Nat) {its : List It} (H : ∀ y ∈ its, y.1 < 27) (hs : (its.map fun y => y.2.2.length + 1).sum ≤ 900000) (p : Nat) (L : List Nat) (b : List Nat) (hL : ∀ q ∈ p :: L, q < 27) (hb : b.length + ((p :: L).flatMap fun p => octP p its).length ≤ 100000) :
    forGo (fun l' s' => exs (rx TT (n + 61) lawSc) (forA law8) l' s') (forX law8) ((p :: L).map fun p => .int (.ofNat (idn p))) (bM xs h pk (.own (rowsMV its)) [("inner", .bytes b)]) S = some (.next, bM xs h pk (.list (rowsMV its)) [("inner", .bytes (b ++ (p :: L).flatMap fun p => octP p its))], S) := by
  rw [List.flatMap_cons, List.length_append] at hb
  refine forGo_next (l1 := bM xs h pk (.list (rowsMV its)) (eQ (b ++ octP p its) p)) (S1 := S) ?_ ?_
  · rw [law8_cut]
    refine exs_nx ?_ rfl
    refine ex_forOwn (n := n + 60) (y := "rows") (vs := rowsMV its) (by kernel_rfl) (by kernel_rfl) (by kernel_rfl) ?_
    exact lay_rows (hL p (.head _)) n its b H (by omega)
  · have e : restr (bM xs h pk (.own (rowsMV its)) [("inner", .bytes b)]) (bM xs h pk (.list (rowsMV its)) (eQ (b ++ octP p its) p)) = bM xs h pk (.list (rowsMV its)) [("inner", .bytes (b ++ octP p its))] := by kernel_rfl
    rw [e, lay_all n H hs L _ (fun q hq => hL q (.tail _ hq)) (by rw [List.length_append]; omega), List.flatMap_cons, List.append_assoc]
end
end Mine
namespace Mine
set_option maxRecDepth 100000
open PySem

section
variable {T : Tab} {sc : Scope} {l l' l1 : Loc} {S S' S1 S2 S3 : Sto} {n : Nat} {e : Expr}
theorem bg_and2 {f : Sto → Expr → Option (MV × Sto)} {A B : Expr} {b : Bool} (h1 : f S A = some (.bool true, S)) (h2 : f S B = some (.bool b, S)) : boolGo .And f [A, B] S = some (.bool b, S) := by
  unfold boolGo; rw [h1]
  show boolGo .And f [B] S = _
  unfold boolGo; rw [h2]
theorem bg_and3 {f : Sto → Expr → Option (MV × Sto)} {A B C : Expr} {b : Bool} (h1 : f S A = some (.bool true, S)) (h2 : f S B = some (.bool true, S)) (h3 : f S C = some (.bool b, S)) : boolGo .And f [A, B, C] S = some (.bool b, S) := by
  unfold boolGo; rw [h1]
  show boolGo .And f [B, C] S = _
  exact bg_and2 h2 h3
theorem ev_bool {v : MV} (hi : isBool e = true) (h : boolGo (boO e) ((run T n).ev sc l) (boE e) S = some (v, S1)) : (run T (n + 1)).ev sc l S e = some (v, S1) := by
  cases e <;> try (cases hi; done)
  exact h
end

section
variable {xs : List MV} {h pk : Int}
/-! packed -/
def law9 : Stmt := stAt lawBody 9
theorem bytes_two (z1 z2 : Int) (c1 c2 : Nat) (h1 : z1 = .ofNat c1) (h2 : z2 = .ofNat c2) (g1 : c1 < 256) (g2 : c2 < 256) (S : Sto) : valOut (((allByte [.int z1, .int z2]).map MV.bytes).map fun v => (.val v, S)) = some (.bytes [c1, c2], S) := by
  subst h1 h2
  show valOut ((((match Nat.blt c1 256 with | true => (match Nat.blt c2 256 with | true => some [c2] | false => none : Option (List Nat)).map (c1 :: ·) | false => none) : Option (List Nat)).map MV.bytes).map fun v => (.val v, S)) = _
  rw [show Nat.blt c1 256 = true from Nat.blt_eq.mpr g1, show Nat.blt c2 256 = true from Nat.blt_eq.mpr g2]
  rfl
theorem law9_head {S : Sto} {rv : MV} (b : List Nat) (hb : b.length < 666) (n : Nat) : (run TT (n + 60)).ev lawSc (bM xs h pk rv [("inner", .bytes b)]) S (binA (asE law9)) = some (.bytes (hdr b.length), S) := by
  have ht : (run TT (n + 59)).tr lawSc (bM xs h pk rv [("inner", .bytes b)]) S (ieT (binA (asE law9))) = some (ilt (.ofNat b.length) 128, S) := by kernel_rfl
  have e0 : ilt (.ofNat b.length) 128 = Nat.blt b.length 128 := by kernel_rfl
  rw [e0] at ht
  unfold hdr
  cases e : Nat.blt b.length 128 with
  | true =>
    rw [e] at ht
    refine ev_ife (n := n + 59) (b := true) (S1 := S) (by kernel_rfl) ht ?_
    have : (run TT (n + 59)).ev lawSc (bM xs h pk rv [("inner", .bytes b)]) S (ieA (binA (asE law9))) = valOut (((allByte [.int (.ofNat b.length)]).map MV.bytes).map fun v => (.val v, S)) := by kernel_rfl
    have e1 := Nat.blt_eq.mp e
    exact this.trans (bytes_one _ _ rfl (by omega) S)
  | false =>
    rw [e] at ht
    refine ev_ife (n := n + 59) (b := false) (S1 := S) (by kernel_rfl) ht ?_
    have : (run TT (n + 59)).ev lawSc (bM xs h pk rv [("inner", .bytes b)]) S (ieB (binA (asE law9))) = valOut (((allByte [.int (Int.fmod (.ofNat b.length) 128 + 128), .int (Int.fdiv (.ofNat b.length) 128)]).map MV.bytes).map fun v => (.val v, S)) := by kernel_rfl
    refine this.trans (bytes_two _ _ (b.length % 128 + 128) (b.length / 128) ?_ ?_ (by omega) (by omega) S)
    · have : Int.fmod (.ofNat b.length) 128 = Int.ofNat (b.length % 128) := by
        rw [Int.fmod_eq_emod_of_nonneg _ (by omega)]; rfl
      rw [this]; rfl
    · rw [Int.fdiv_eq_ediv_of_nonneg _ (by omega)]; rfl
theorem law9_ok {S : Sto} {its : List It} {rv : MV} (hb : (inner its).length < 666) (n : Nat) : rx TT (n + 62) lawSc (bM xs h pk rv [("inner", .bytes (inner its))]) S law9 = some (.next, bM xs h pk rv [("inner", .bytes (inner its)), ("packed", .bytes (packed its))], S) := by
  have H := ex_asgn (T := TT) (n := n + 61) (sc := lawSc) (l := bM xs h pk rv [("inner", .bytes (inner its))]) (t := law9) (S := S) (S1 := S) (v := .bytes (packed its)) (by kernel_rfl) (by kernel_rfl) (by kernel_rfl) ?_
  · have e : put (asgX law9) (.bytes (packed its)) (bM xs h pk rv [("inner", .bytes (inner its))]) = bM xs h pk rv [("inner", .bytes (inner its)), ("packed", .bytes (packed its))] := by kernel_rfl
    rw [e] at H; exact H
  · refine ev_bin (n := n + 60) (a := .bytes (hdr (inner its).length)) (b := .bytes (inner its)) (S1 := S) (by kernel_rfl) (law9_head _ hb n) (by kernel_rfl) (bin_cat ?_)
    have : (hdr (inner its).length).length ≤ 2 := by unfold hdr; split <;> simp
    omega

/-! the two objects -/
def eK (its : List It) : Loc := [("inner", .bytes (inner its)), ("packed", .bytes (packed its))]
def eO (its : List It) : Loc := [("inner", .bytes (inner its)), ("packed", .bytes (packed its)), ("other", .obj 1)]
def eZ (its : List It) : Loc := [("inner", .bytes (inner its)), ("packed", .bytes (packed its)), ("other", .obj 1), ("same", .obj 1), ("size", .int (.ofNat (packed its).length))]
def law10 : Stmt := stAt lawBody 10
theorem law10_ok {its : List It} (H : RowsOk its) (n : Nat) : rx TT (n + 80) lawSc (bM xs h pk (.list (rowsMV its)) (eK its)) [mkA (.int pk) (attOf its)] law10 = some (.next, bM xs h pk (.list (rowsMV its)) (eK its), [mkA (.int pk) (attOf its)]) := by
  have HH := ex_asgn (T := TT) (n := n + 79) (sc := lawSc) (l := bM xs h pk (.list (rowsMV its)) (eK its)) (t := law10) (S := [mkA (.int pk) (attOf its)]) (S1 := [mkA (.int pk) (attOf its)]) (v := .bool true) (by kernel_rfl) (by kernel_rfl) (by kernel_rfl) ?_
  · have e : put (asgX law10) (.bool true) (bM xs h pk (.list (rowsMV its)) (eK its)) = bM xs h pk (.list (rowsMV its)) (eK its) := by kernel_rfl
    rw [e] at HH; exact HH
  · refine ev_bool (n := n + 78) (by kernel_rfl) (bg_and3 (A := exAt (boE (asE law10)) 0) (B := exAt (boE (asE law10)) 1) (C := exAt (boE (asE law10)) 2) (by kernel_rfl) ?_ ?_)
    · have hc : cmp (cmO (exAt (boE (asE law10)) 1)) (.bytes (packed its)) (.bytes (packed its)) = some true := by
        show some (leq (packed its) (packed its)) = _
        rw [leq_same]
      refine ev_cmp (n := n + 77) (x := .bytes (packed its)) (y := .bytes (packed its)) (S1 := [mkA (.int pk) (attOf its)]) (by kernel_rfl) ?_ (by kernel_rfl) hc
      refine ev_meth (n := n + 76) (by kernel_rfl) ?_
      rw [evCall_meth (T := TT) (k := 0) (f := 283) (vs := []) (S1 := [mkA (.int pk) (attOf its)]) (by kernel_rfl) (by kernel_rfl) (by kernel_rfl) (by kernel_rfl) (by kernel_rfl)]
      exact pack_ok H none (n + 16) (.int pk)
    · have hc : cmp (cmO (exAt (boE (asE law10)) 2)) (.bool (nilB its)) (.bool (nilB its)) = some true := by
        cases nilB its <;> rfl
      refine ev_cmp (n := n + 77) (x := .bool (nilB its)) (y := .bool (nilB its)) (S1 := [mkA (.int pk) (attOf its)]) (by kernel_rfl) ?_ ?_ hc
      · refine ev_meth (n := n + 76) (by kernel_rfl) ?_
        rw [evCall_meth (T := TT) (k := 0) (f := 269) (vs := []) (S1 := [mkA (.int pk) (attOf its)]) (by kernel_rfl) (by kernel_rfl) (by kernel_rfl) (by kernel_rfl) (by kernel_rfl)]
        exact em_ok H.place (n + 16) (.int pk)
      · refine ev_cmp (n := n + 76) (x := .int (.ofNat (rowsMV its).length)) (y := .int 0) (S1 := [mkA (.int pk) (attOf its)]) (by kernel_rfl) (by kernel_rfl) (by kernel_rfl) ?_
        cases its with
        | nil => kernel_rfl
        | cons x r => kernel_rfl
def initA (pk : Int) : Att := fun y => match seq y "packetType" with
  | true => some (.int pk)
  | false => noAtt y
theorem initA_eq (pk : Int) : initA pk = mkA (.int pk) (attOf []) := by
  funext y
  unfold initA mkA
  cases e : seq y "packetType" with
  | true => rfl
  | false =>
    show none = _
    cases memS y attrsL with
    | false => rfl
    | true =>
      have : ∀ L, attGo [] y L = none := by
        intro L
        induction L with
        | nil => rfl
        | cons p L ih =>
          unfold attGo
          rw [ih]
          have : attP p [] = none := by unfold attP; cases multi p <;> rfl
          rw [this]
          cases seq y (nmS p) <;> rfl
      exact (this _).symm
theorem law11_ok {its : List It} (A : Att) (n : Nat) : rx TT (n + 60) lawSc (bM xs h pk (.list (rowsMV its)) (eK its)) [A] (stAt lawBody 11) = some (.next, bM xs h pk (.list (rowsMV its)) (eO its), [A, mkA (.int pk) (attOf [])]) := by
  rw [← initA_eq]
  kernel_rfl
theorem law12_ok {its : List It} {S : Sto} (n : Nat) : rx TT (n + 60) lawSc (bM xs h pk (.list (rowsMV its)) (eO its)) S (stAt lawBody 12) = some (.next, bM xs h pk (.list (rowsMV its)) (eO its), S) := by kernel_rfl
def law13 : Stmt := stAt lawBody 13
theorem packed_len {its : List It} (H : RowsOk its) : (packed its).length ≤ 700 := by
  have h1 := H.inner_len
  have : (hdr (inner its).length).length ≤ 2 := by unfold hdr; split <;> simp
  unfold packed
  rw [List.length_append]; omega
theorem law13_ok {its : List It} (H : RowsOk its) (hpk : ∀ x ∈ its, anyInt pk (whr x.1) = true) (A : Att) (n : Nat) : rx TT (n + 102) lawSc (bM xs h pk (.list (rowsMV its)) (eO its)) [A, mkA (.int pk) (attOf [])] law13 =
    some (.next, bM xs h pk (.list (rowsMV its)) (eZ its), [A, mkA (.int pk) (attOf its)]) := by
  refine ex_tup (n := n + 101) (vs := [.obj 1, .int (.ofNat (packed its).length)]) (by kernel_rfl) ?_ (by kernel_rfl)
  refine ev_meth (n := n + 100) (by kernel_rfl) ?_
  have ha : evs ((run TT (n + 100)).ev lawSc (bM xs h pk (.list (rowsMV its)) (eO its))) (mA (asE law13)) [A, mkA (.int pk) (attOf [])] = some ([.bytes (packed its ++ [38, 0])], [A, mkA (.int pk) (attOf [])]) := by
    have hc : mA (asE law13) = [exAt (mA (asE law13)) 0] := by kernel_rfl
    rw [hc]
    refine evs_cons (S1 := [A, mkA (.int pk) (attOf [])]) (by kernel_rfl) ?_ rfl
    refine ev_bin (n := n + 99) (a := .bytes (packed its)) (b := .bytes [38, 0]) (S1 := [A, mkA (.int pk) (attOf [])]) (by kernel_rfl) (by kernel_rfl) (by kernel_rfl) (bin_cat ?_)
    have := packed_len H
    simp only [List.length_cons, List.length_nil]; omega
  rw [evCall_meth (T := TT) (k := 1) (f := 304) (by kernel_rfl) (by kernel_rfl) ha (by kernel_rfl) (by kernel_rfl)]
  exact unpack_ok H hpk n A [38, 0]
def law14 : Stmt := stAt lawBody 14
theorem ibeq_same (a : Nat) : ibeq (.ofNat a) (.ofNat a) = true := by
  show Nat.beq a a = true
  exact Nat.beq_refl a
theorem law14_ok {its : List It} (H : RowsOk its) (A : Att) (n : Nat) : rx TT (n + 80) lawSc (bM xs h pk (.list (rowsMV its)) (eZ its)) [A, mkA (.int pk) (attOf its)] law14 =
    some (.ret (.bool true), bM xs h pk (.list (rowsMV its)) (eZ its), [A, mkA (.int pk) (attOf its)]) := by
  refine ex_ret (n := n + 79) (by kernel_rfl) ?_
  refine ev_bool (n := n + 78) (by kernel_rfl) (bg_and3 (A := exAt (boE (asE law14)) 0) (B := exAt (boE (asE law14)) 1) (C := exAt (boE (asE law14)) 2) ?_ (by kernel_rfl) ?_)
  · have hc : cmp (cmO (exAt (boE (asE law14)) 0)) (.int (.ofNat (packed its).length)) (.int (.ofNat (packed its).length)) = some true := by
      show some (ibeq _ _) = _
      rw [ibeq_same]
    exact ev_cmp (n := n + 77) (x := .int (.ofNat (packed its).length)) (y := .int (.ofNat (packed its).length)) (S1 := [A, mkA (.int pk) (attOf its)]) (by kernel_rfl) (by kernel_rfl) (by kernel_rfl) hc
  · have hc : cmp (cmO (exAt (boE (asE law14)) 2)) (.bytes (packed its)) (.bytes (packed its)) = some true := by
      show some (leq (packed its) (packed its)) = _
      rw [leq_same]
    refine ev_cmp (n := n + 77) (x := .bytes (packed its)) (y := .bytes (packed its)) (S1 := [A, mkA (.int pk) (attOf its)]) (by kernel_rfl) ?_ (by kernel_rfl) hc
    refine ev_meth (n := n + 76) (by kernel_rfl) ?_
    rw [evCall_meth (T := TT) (k := 1) (f := 283) (vs := []) (S1 := [A, mkA (.int pk) (attOf its)]) (by kernel_rfl) (by kernel_rfl) (by kernel_rfl) (by kernel_rfl) (by kernel_rfl)]
    exact pack_ok H (some A) (n + 16) (.int pk)
end
end Mine
namespace Mine
set_option maxRecDepth 100000
open PySem

def pkL : List Int := [1, 2, 3, 5, 8, 14, 99, 4, 15, 9, 11, 6, 12, 7, 10]
def lB1 (xs : List MV) : Loc := [("script", .list xs)]
def lB2 (xs : List MV) (h : Int) : Loc := [("script", .list xs), ("head", .int h)]
def lB3 (xs : List MV) (h pk : Int) : Loc := [("script", .list xs), ("head", .int h), ("packet", .int pk)]
def lB4 (xs : List MV) (h pk : Int) : Loc := [("script", .list xs), ("head", .int h), ("packet", .int pk), ("bag", .obj 0)]
def lB5 (xs : List MV) (h pk : Int) : Loc := [("script", .list xs), ("head", .int h), ("packet", .int pk), ("bag", .obj 0), ("rows", .own [])]
theorem law0_ok (xs : List MV) (n : Nat) : rx TT (n + 60) lawSc (lB1 xs) [] (stAt lawBody 0) = some (.next, lB1 (xs.take 11), []) := by kernel_rfl
theorem law1_ok (xs : List Int) (n : Nat) : ∃ h, rx TT (n + 60) lawSc (lB1 (xs.map .int)) [] (stAt lawBody 1) = some (.next, lB2 (xs.map .int) h, []) := by
  cases xs with
  | nil => exact ⟨0, by kernel_rfl⟩
  | cons a r => exact ⟨a, by kernel_rfl⟩
theorem law2_ok (xs : List MV) (h : Int) (n : Nat) : ∃ pk, rx TT (n + 60) lawSc (lB2 xs h) [] (stAt lawBody 2) = some (.next, lB3 xs h pk, []) := by
  obtain ⟨c, hc, hz⟩ := fmod_cases h 14
  have hz : Int.fmod h 15 = .ofNat c := hz
  have : ∃ pk, getL (pkL.map MV.int) c = some (.int pk) := by
    match c, hc with
    | 0, _ => exact ⟨_, rfl⟩
    | 1, _ => exact ⟨_, rfl⟩
    | 2, _ => exact ⟨_, rfl⟩
    | 3, _ => exact ⟨_, rfl⟩
    | 4, _ => exact ⟨_, rfl⟩
    | 5, _ => exact ⟨_, rfl⟩
    | 6, _ => exact ⟨_, rfl⟩
    | 7, _ => exact ⟨_, rfl⟩
    | 8, _ => exact ⟨_, rfl⟩
    | 9, _ => exact ⟨_, rfl⟩
    | 10, _ => exact ⟨_, rfl⟩
    | 11, _ => exact ⟨_, rfl⟩
    | 12, _ => exact ⟨_, rfl⟩
    | 13, _ => exact ⟨_, rfl⟩
    | 14, _ => exact ⟨_, rfl⟩
    | m + 15, h => exact absurd h (by omega)
  obtain ⟨pk, hpk⟩ := this
  refine ⟨pk, ?_⟩
  have H := ex_asgn (T := TT) (n := n + 59) (sc := lawSc) (l := lB2 xs h) (t := stAt lawBody 2) (S := []) (S1 := []) (v := .int pk) (by kernel_rfl) (by kernel_rfl) (by kernel_rfl) ?_
  · have e : put (asgX (stAt lawBody 2)) (.int pk) (lB2 xs h) = lB3 xs h pk := by kernel_rfl
    rw [e] at H; exact H
  · refine ev_sub (n := n + 58) (a := .tup (pkL.map MV.int)) (b := .int (Int.fmod h 15)) (S1 := []) (by kernel_rfl) (by kernel_rfl) (by kernel_rfl) ?_
    rw [hz]; exact hpk
theorem law3_ok (xs : List MV) (h pk : Int) (n : Nat) : rx TT (n + 60) lawSc (lB3 xs h pk) [] (stAt lawBody 3) = some (.next, lB4 xs h pk, [mkA (.int pk) (attOf [])]) := by
  rw [← initA_eq]
  kernel_rfl
theorem law4_ok (xs : List MV) (h pk : Int) (S : Sto) (n : Nat) : rx TT (n + 60) lawSc (lB4 xs h pk) S (stAt lawBody 4) = some (.next, lB5 xs h pk, S) := by kernel_rfl
def law5 : Stmt := stAt lawBody 5
theorem law5_ok (xs : List MV) (h pk : Int) (n : Nat) : rx TT (n + 80) lawSc (lB5 xs h pk) [mkA (.int pk) (attOf [])] law5 = some (.next, bL xs h pk (rowsMV []) true [], [mkA (.int pk) (attOf [])]) := by
  have HH := ex_asgn (T := TT) (n := n + 79) (sc := lawSc) (l := lB5 xs h pk) (t := law5) (S := [mkA (.int pk) (attOf [])]) (S1 := [mkA (.int pk) (attOf [])]) (v := .bool true) (by kernel_rfl) (by kernel_rfl) (by kernel_rfl) ?_
  · have e : put (asgX law5) (.bool true) (lB5 xs h pk) = bL xs h pk (rowsMV []) true [] := by kernel_rfl
    rw [e] at HH; exact HH
  · refine ev_bool (n := n + 78) (by kernel_rfl) (bg_and2 (A := exAt (boE (asE law5)) 0) (B := exAt (boE (asE law5)) 1) ?_ ?_)
    · refine ev_meth (n := n + 77) (by kernel_rfl) ?_
      rw [evCall_meth (T := TT) (k := 0) (f := 269) (vs := []) (S1 := [mkA (.int pk) (attOf [])]) (by kernel_rfl) (by kernel_rfl) (by kernel_rfl) (by kernel_rfl) (by kernel_rfl)]
      exact em_ok (its := []) (fun _ h => nomatch h) (n + 17) (.int pk)
    · have hc : cmp (cmO (exAt (boE (asE law5)) 1)) (.bytes (packed [])) (.bytes [0]) = some true := by kernel_rfl
      refine ev_cmp (n := n + 77) (x := .bytes (packed [])) (y := .bytes [0]) (S1 := [mkA (.int pk) (attOf [])]) (by kernel_rfl) ?_ (by kernel_rfl) hc
      refine ev_meth (n := n + 76) (by kernel_rfl) ?_
      rw [evCall_meth (T := TT) (k := 0) (f := 283) (vs := []) (S1 := [mkA (.int pk) (attOf [])]) (by kernel_rfl) (by kernel_rfl) (by kernel_rfl) (by kernel_rfl) (by kernel_rfl)]
      exact pack_ok ((LawOk.nil pk).rows (Nat.zero_le _)) none (n + 16) (.int pk)

/-! the places of the deeds -/
def atsOf (L : Nat) : List Nat := match L with
  | 0 => [] | 1 => [] | 2 => [] | 3 => [1] | 4 => [1] | 5 => [1, 3] | 6 => [1, 3] | 7 => [1, 3, 5] | 8 => [1, 3, 5] | 9 => [1, 3, 5, 7] | 10 => [1, 3, 5, 7] | _ => [1, 3, 5, 7, 9]
theorem atsOf_ok : ∀ L, L < 12 → (atsOf L).length ≤ 5 ∧ ∀ k ∈ atsOf L, k + 1 < L := by decide +kernel
def rngOf (L : Nat) : Option MV := bfun TT 6 [] [.int 1, .int (subI (.ofNat L) 1), .int 2]
theorem rng_items : ∀ L, L < 12 → ∃ v, rngOf L = some v ∧ items TT v = some ((atsOf L).map fun k => .int (.ofNat k))
  | 0, _ => ⟨_, rfl, by kernel_rfl⟩
  | 1, _ => ⟨_, rfl, by kernel_rfl⟩
  | 2, _ => ⟨_, rfl, by kernel_rfl⟩
  | 3, _ => ⟨_, rfl, by kernel_rfl⟩
  | 4, _ => ⟨_, rfl, by kernel_rfl⟩
  | 5, _ => ⟨_, rfl, by kernel_rfl⟩
  | 6, _ => ⟨_, rfl, by kernel_rfl⟩
  | 7, _ => ⟨_, rfl, by kernel_rfl⟩
  | 8, _ => ⟨_, rfl, by kernel_rfl⟩
  | 9, _ => ⟨_, rfl, by kernel_rfl⟩
  | 10, _ => ⟨_, rfl, by kernel_rfl⟩
  | 11, _ => ⟨_, rfl, by kernel_rfl⟩
  | n + 12, h => absurd h (by omega)
def law6 : Stmt := stAt lawBody 6
theorem law6_src (xs : List MV) (hl : xs.length < 12) (h pk : Int) (rw : List MV) (S : Sto) (n : Nat) : source TT (bL xs h pk rw true []) (forI law6) ((run TT (n + 60)).ev lawSc (bL xs h pk rw true [])) S = some ((atsOf xs.length).map fun k => .int (.ofNat k), S) := by
  obtain ⟨v, hv, hi⟩ := rng_items xs.length hl
  have he : (run TT (n + 60)).ev lawSc (bL xs h pk rw true []) S (forI law6) = some (v, S) := by
    refine ev_fn (n := n + 59) (by kernel_rfl) (by kernel_rfl) ?_
    refine evCall_prim (k := 6) (vs := [.int 1, .int (subI (.ofNat xs.length) 1), .int 2]) (by kernel_rfl) (by kernel_rfl) (by kernel_rfl) ?_
    exact hv
  have hs : source TT (bL xs h pk rw true []) (forI law6) ((run TT (n + 60)).ev lawSc (bL xs h pk rw true [])) S = ((run TT (n + 60)).ev lawSc (bL xs h pk rw true []) S (forI law6)).bind fun p => (items TT p.1).map fun xs => (xs, p.2) := by kernel_rfl
  rw [hs, he]
  show (items TT v).map _ = _
  rw [hi]; rfl
theorem getL_int : ∀ (xs : List Int) (k : Nat), k < xs.length → ∃ a, getL (xs.map MV.int) k = some (.int a)
  | [], k, h => absurd h (Nat.not_lt_zero _)
  | a :: r, 0, _ => ⟨a, rfl⟩
  | a :: r, k + 1, h => getL_int r k (by simpa using h)
theorem law_cut : lawBody = [stAt lawBody 0, stAt lawBody 1, stAt lawBody 2, stAt lawBody 3, stAt lawBody 4, law5, law6, stAt lawBody 7, law8, law9, law10, stAt lawBody 11, stAt lawBody 12, law13, law14] := by kernel_rfl
theorem sum_len {its : List It} (H : RowsOk its) : (its.map fun y => y.2.2.length + 1).sum ≤ 900000 := by
  have key : ∀ L : List It, (∀ x ∈ L, x.1 < 27 ∧ Good x.1 x.2.1 x.2.2) → (L.map fun y => y.2.2.length + 1).sum ≤ 133 * L.length := by
    intro L hL
    induction L with
    | nil => exact Nat.zero_le _
    | cons x L ih =>
      have h1 := ih fun y hy => hL y (.tail _ hy)
      have h2 := (hL x (.head _)).2.len (hL x (.head _)).1
      rw [List.map_cons, List.sum_cons, List.length_cons]; omega
  have := key its fun x hx => ⟨H.place x hx, H.good x hx⟩
  have := H.len
  omega
theorem idents_cut : ∃ p L, identsL.map (fun n => MV.int (.ofNat n)) = (p :: L).map (fun p => .int (.ofNat (idn p))) ∧ p :: L = List.range 27 := ⟨0, (List.range 27).tail, by kernel_rfl, by decide⟩
theorem law_plain (xs0 : List Int) : ∃ l S, lawOut 200 (xs0.map .int) = some (.ret (.bool true), l, S) := by
  have hx : (xs0.map MV.int).take 11 = (xs0.take 11).map .int := by rw [List.map_take]
  have hlen : ((xs0.take 11).map MV.int).length < 12 := by rw [List.length_map, List.length_take]; omega
  generalize xs0.take 11 = xs at hx hlen
  obtain ⟨h, h1⟩ := law1_ok xs 140
  obtain ⟨pk, h2⟩ := law2_ok (xs.map .int) h 140
  obtain ⟨a1, a2⟩ := atsOf_ok _ hlen
  obtain ⟨its, g1, g2, g3⟩ := law_loop (xs := xs.map .int) (h := h) (pk := pk) 89 (atsOf (xs.map MV.int).length) [] (fun k hk => by
    have hk := a2 k hk
    rw [List.length_map] at hk
    obtain ⟨a, ha⟩ := getL_int xs k (by omega)
    obtain ⟨i, hi⟩ := getL_int xs (k + 1) (by omega)
    exact ⟨a, i, ha, hi⟩) (by simpa using a1) (LawOk.nil pk)
  have H := g2.rows g3
  have hI := H.inner_len
  refine ⟨bM (xs.map .int) h pk (.list (rowsMV its)) (eZ its), [mkA (.int pk) (attOf its), mkA (.int pk) (attOf its)], ?_⟩
  show exs (rx TT 200 lawSc) lawBody (lB1 (xs0.map .int)) [] = _
  rw [law_cut]
  have h0 := law0_ok (xs0.map .int) 140
  rw [hx] at h0
  have h8 : rx TT 200 lawSc (bM (xs.map .int) h pk (.own (rowsMV its)) [("inner", .bytes [])]) [mkA (.int pk) (attOf its)] law8 = some (.next, bM (xs.map .int) h pk (.list (rowsMV its)) [("inner", .bytes (inner its))], [mkA (.int pk) (attOf its)]) := by
    obtain ⟨p, L, e1, e2⟩ := idents_cut
    refine ex_for (n := 199) (vs := identsL.map (fun n => MV.int (.ofNat n))) (S1 := [mkA (.int pk) (attOf its)]) (by kernel_rfl) (by kernel_rfl) (by kernel_rfl) (by kernel_rfl) ?_
    rw [e1]
    have := lay_first (xs := xs.map .int) (h := h) (pk := pk) (S := [mkA (.int pk) (attOf its)]) 138 H.place (sum_len H) p L [] (fun q hq => by rw [e2] at hq; simpa using hq) (by
      rw [e2]
      show 0 + (inner its).length ≤ _
      omega)
    rw [e2, List.nil_append] at this
    rw [e2]
    exact this
  refine exs_nx h0 (exs_nx h1 (exs_nx h2 (exs_nx (law3_ok _ h pk 140) (exs_nx (law4_ok _ h pk _ 140) (exs_nx (law5_ok _ h pk 120) (exs_nx (l1 := bL (xs.map .int) h pk (rowsMV its) true []) (S1 := [mkA (.int pk) (attOf its)]) ?_
    (exs_nx (l1 := bM (xs.map .int) h pk (.own (rowsMV its)) [("inner", .bytes [])]) (S1 := [mkA (.int pk) (attOf its)]) (by kernel_rfl) (exs_nx h8 (exs_nx (law9_ok hI 138) (exs_nx (law10_ok H 120) (exs_nx (law11_ok _ 140) (exs_nx (law12_ok 140) (exs_nx (law13_ok H g2.has _ 98) (exs_out (law14_ok H _ 120) (by intro h; cases h)))))))))))))))
  exact ex_for (n := 199) (by kernel_rfl) (by kernel_rfl) (by kernel_rfl) (law6_src _ hlen h pk _ _ 139) g1
end Mine
namespace Mine
set_option maxRecDepth 100000
open PySem PySem.W PySem.Calls PyProof.Rows
noncomputable abbrev KK (P : Params) : Frag := Mine.hd.heap_39 P
section
variable (P : Params)
theorem k_setter : findIn (KK P) (.ref 307) "__setattr__" = some (some (.builtin "object.__setattr__")) := by kernel_rfl
theorem k_over : plainOver (KK P) 307 = true := by kernel_rfl
theorem k_kitL : kitOne (KK P) (.type "bytes") (.type "list") = some false := by kernel_rfl
theorem k_kitB : kitOne (KK P) (.type "bytes") (.type "bytes") = some true := by kernel_rfl
theorem k_makes : makesIn (KK P) 307 = true := by kernel_rfl
theorem k_initF : findIn (KK P) (.ref 307) "__init__" = some (some (.ref 243)) := by kernel_rfl
theorem k_initFn : isFn (KK P) (.ref 243) = true := by kernel_rfl
theorem k_keepC : keepIn (KK P) (.ref 307) = true := by kernel_rfl
theorem k_has : hasDictIn (KK P) 307 = true := by kernel_rfl
theorem k_plain : plainGet (KK P) 307 "" = true := by kernel_rfl
theorem k_nomod : mroIn (KK P) 307 (.type "module") = some false := by kernel_rfl
theorem k_keep65 : keepIn (KK P) (.ref 65) = true := by kernel_rfl
theorem k_type166 : typeIn (KK P) (.ref 166) = some (.type "type") := by kernel_rfl
end
noncomputable def takesB (P : Params) (nm : Str) : Bool := takerIn (KK P) 307 nm == some none
noncomputable def attrsB (P : Params) (nm : Str) : Bool := findIn (KK P) (.ref 307) nm == some none && !copiedNames.contains nm && decide (nm.length ≤ 1000)
theorem k_takes (P : Params) : (attrsL.all (takesB P)) = true := by kernel_rfl
theorem k_attrs (P : Params) : (attrsL.all (attrsB P)) = true := by kernel_rfl
noncomputable def methB (P : Params) (x : Str × Addr) : Bool := findIn (KK P) (.ref 307) x.1 == some (some (.ref x.2)) && isFn (KK P) (.ref x.2)
theorem k_meths (P : Params) : (methL.all (methB P)) = true := by kernel_rfl
end Mine
namespace Mine
set_option maxRecDepth 100000
open PySem PySem.W PySem.Calls PyProof.Rows
/-! reading the objects of the top -/
def lstIn (K : Frag) (cn : String) (a : Addr) : Option (List Value) := match K.lookup a with
  | some o => match o.cls, o.dict, o.data, o.slots.size with
    | .type t, none, .seq vs _, 0 => match t == cn with
      | true => some vs.toList
      | false => none
    | _, _, _, _ => none
  | none => none
mutual
def rdB (K : Frag) : MV → Value → Bool
  | .none, .none => true
  | .bool b, .bool c => b == c
  | .int i, .int j _ => ibeq i j
  | .str s, .str x _ => leq x.cps.toList s && Nat.ble s.length 1000000
  | .list xs, .ref a => match lstIn K "list" a with
    | some vs => rdLB K xs vs && Nat.ble xs.length 1000000
    | none => false
  | .tup xs, .ref a => match lstIn K "tuple" a with
    | some vs => rdLB K xs vs && Nat.ble xs.length 1000000
    | none => false
  | .ref a, .ref b => Nat.beq a b
  | _, _ => false
def rdLB (K : Frag) : List MV → List Value → Bool
  | [], [] => true
  | x :: r, v :: q => rdB K x v && rdLB K r q
  | _, _ => false
end
theorem lstIn_ok {K : Frag} {h : Heap} (X : K.In h) {cn : String} {a : Addr} {vs : List Value} (e : lstIn K cn a = some vs) : ∃ n, h.get? a = some ({ cls := .type cn, data := .seq vs.toArray n } : Obj) := by
  unfold lstIn at e
  split at e
  · rename_i o ho
    split at e
    · rename_i t ws n h1 h2 h3 h4
      split at e
      · rename_i ht
        cases e
        refine ⟨n, ?_⟩
        rw [X a o ho]
        have h5 : o.slots = #[] := Array.eq_empty_of_size_eq_zero h4
        obtain ⟨c, d, dt, sl⟩ := o
        simp only at h1 h2 h3 h5
        subst h1 h2 h3 h5
        rw [beq_iff_eq.mp ht]
      · cases e
    · cases e
  · cases e
mutual
theorem rdB_ok {K : Frag} {h : Heap} (X : K.In h) : ∀ {m : MV} {v : Value}, rdB K m v = true → Rd W0 h m v
  | .none, v, e => by
    cases v <;> simp only [rdB, Bool.false_eq_true] at e
    simp only [Rd]
  | .bool b, v, e => by
    cases v <;> simp only [rdB, Bool.false_eq_true] at e
    simp only [Rd]
    rw [beq_iff_eq.mp e]
  | .int i, v, e => by
    cases v <;> simp only [rdB, Bool.false_eq_true] at e
    simp only [Rd]
    rw [(Z.eqB_iff _ _).mp e]
    exact ⟨_, rfl⟩
  | .str s, v, e => by
    cases v <;> simp only [rdB, Bool.false_eq_true] at e
    simp only [Rd]
    rename_i x t
    have e := Bool.and_eq_true_iff.mp e
    refine ⟨t, ?_, Nat.le_of_ble_eq_true e.2⟩
    rw [← leq_iff.mp e.1]
  | .bytes b, v, e => by cases v <;> simp only [rdB, Bool.false_eq_true] at e
  | .list xs, v, e => by
    cases v <;> simp only [rdB, Bool.false_eq_true] at e
    simp only [Rd]
    split at e
    · rename_i a vs hv
      have e := Bool.and_eq_true_iff.mp e
      obtain ⟨n, hn⟩ := lstIn_ok X hv
      exact ⟨_, vs, n, rfl, fun h => (nomatch h), hn, rdLB_ok X e.1, Nat.le_of_ble_eq_true e.2⟩
    · cases e
  | .tup xs, v, e => by
    cases v <;> simp only [rdB, Bool.false_eq_true] at e
    simp only [Rd]
    split at e
    · rename_i a vs hv
      have e := Bool.and_eq_true_iff.mp e
      obtain ⟨n, hn⟩ := lstIn_ok X hv
      exact ⟨_, vs, n, rfl, fun h => (nomatch h), hn, rdLB_ok X e.1, Nat.le_of_ble_eq_true e.2⟩
    · cases e
  | .own xs, v, e => by cases v <;> simp only [rdB, Bool.false_eq_true] at e
  | .ref a, v, e => by
    cases v <;> simp only [rdB, Bool.false_eq_true] at e
    simp only [Rd]
    rw [Nat.eq_of_beq_eq_true e]
  | .prim n, v, e => by cases v <;> simp only [rdB, Bool.false_eq_true] at e
  | .obj k, v, e => by cases v <;> simp only [rdB, Bool.false_eq_true] at e
  | .rng a b c, v, e => by cases v <;> simp only [rdB, Bool.false_eq_true] at e
  | .text, v, e => by cases v <;> simp only [rdB, Bool.false_eq_true] at e
theorem rdLB_ok {K : Frag} {h : Heap} (X : K.In h) : ∀ {ms : List MV} {vs : List Value}, rdLB K ms vs = true → RdL W0 h ms vs
  | [], vs, e => by
    cases vs <;> simp only [rdLB, Bool.false_eq_true] at e
    simp only [RdL]
  | m :: ms, vs, e => by
    cases vs <;> simp only [rdLB, Bool.false_eq_true] at e
    have e := Bool.and_eq_true_iff.mp e
    simp only [RdL]
    exact ⟨_, _, rfl, rdB_ok X e.1, rdLB_ok X e.2⟩
end

/-! the two tables -/
def dictSB (K : Frag) : List (MV × MV) → List DictEntry → Bool
  | [], [] => true
  | p :: r, e :: q => (match p.1, e.key with
    | .str y, .str x _ => leq x.cps.toList y && Nat.ble y.length 1000
    | _, _ => false) && rdB K p.2 e.val && dictSB K r q
  | _, _ => false
def dictIB (K : Frag) : List (MV × MV) → List DictEntry → Bool
  | [], [] => true
  | p :: r, e :: q => (match p.1, e.key with
    | .int y, .int x _ => ibeq x y && ibeq e.hash (hashInt x)
    | _, _ => false) && rdB K p.2 e.val && dictIB K r q
  | _, _ => false
theorem dictS_get {K : Frag} {h : Heap} (X : K.In h) {k : List Nat} {m : MV} : ∀ {d : List (MV × MV)} {es : List DictEntry}, dictSB K d es = true → dictGet (.str k) d = some m →
    ∃ v, (es.find? fun e => Value.isStrOf ⟨k.toArray⟩ e.key).map (·.val) = some v ∧ Rd W0 h m v
  | [], _, _, e => by cases e
  | p :: r, [], b, _ => by cases b
  | p :: r, e :: q, b, g => by
    unfold dictSB at b
    have b := Bool.and_eq_true_iff.mp b
    have b1 := Bool.and_eq_true_iff.mp b.1
    obtain ⟨p1, p2⟩ := p
    obtain ⟨eh, ek, ev⟩ := e
    have b2 := b1.1
    simp only at b2
    split at b2
    · rename_i y x t _
      have hy := leq_iff.mp (Bool.and_eq_true_iff.mp b2).1
      unfold dictGet at g
      obtain ⟨c, g1, g2⟩ := Option.bind_eq_some_iff.mp g
      have g1 : some (leq y k) = some c := g1
      have g1 := Option.some.inj g1
      rw [List.find?_cons]
      show ∃ v, Option.map DictEntry.val (match Value.isStrOf ⟨k.toArray⟩ (.str x t) with | true => some (⟨eh, .str x t, ev⟩ : DictEntry) | false => List.find? (fun e => Value.isStrOf ⟨k.toArray⟩ e.key) q) = some v ∧ Rd W0 h m v
      have hx : Value.isStrOf ⟨k.toArray⟩ (.str x t) = leq y k := by
        show (x == (⟨k.toArray⟩ : Str)) = leq y k
        cases hq : leq y k with
        | true =>
          rw [← leq_iff.mp hq, ← hy]
          simp
        | false =>
          refine beq_eq_false_iff_ne.mpr fun e => ?_
          have : y = k := by rw [← hy, e]
          rw [this, leq_iff.mpr rfl] at hq; cases hq
      rw [hx, g1]
      cases c with
      | true => cases g2; exact ⟨_, rfl, rdB_ok X b1.2⟩
      | false => exact dictS_get X b.2 g2
    · cases b2
theorem dictI_get {K : Frag} {h : Heap} (X : K.In h) {k : Int} {m : MV} : ∀ {d : List (MV × MV)} {es : List DictEntry}, dictIB K d es = true → dictGet (.int k) d = some m →
    ∃ v, (es.find? fun e => Value.isInt k e.key).map (·.val) = some v ∧ Rd W0 h m v
  | [], _, _, e => by cases e
  | p :: r, [], b, _ => by cases b
  | p :: r, e :: q, b, g => by
    unfold dictIB at b
    have b := Bool.and_eq_true_iff.mp b
    have b1 := Bool.and_eq_true_iff.mp b.1
    obtain ⟨p1, p2⟩ := p
    obtain ⟨eh, ek, ev⟩ := e
    have b2 := b1.1
    simp only at b2
    split at b2
    · rename_i y x t _
      have hy := (Z.eqB_iff _ _).mp (Bool.and_eq_true_iff.mp b2).1
      subst hy
      unfold dictGet at g
      obtain ⟨c, g1, g2⟩ := Option.bind_eq_some_iff.mp g
      have g1 : some (ibeq x k) = some c := g1
      have g1 := Option.some.inj g1
      rw [List.find?_cons]
      show ∃ v, Option.map DictEntry.val (match Value.isInt k (.int x t) with | true => some (⟨eh, .int x t, ev⟩ : DictEntry) | false => List.find? (fun e => Value.isInt k e.key) q) = some v ∧ Rd W0 h m v
      have hx : Value.isInt k (.int x t) = ibeq x k := by
        cases hq : ibeq x k with
        | true => rw [(Z.eqB_iff _ _).mp hq]; simp [Value.isInt]
        | false =>
          cases hz : Value.isInt k (.int x t) with
          | false => rfl
          | true =>
            obtain ⟨u, hu⟩ := Value.isInt_shape hz
            injection hu with hu
            rw [hu] at hq
            rw [show ibeq k k = true from (Z.eqB_iff _ _).mpr rfl] at hq; cases hq
      rw [hx, g1]
      cases c with
      | true => cases g2; exact ⟨_, rfl, rdB_ok X b1.2⟩
      | false => exact dictI_get X b.2 g2
    · cases b2
theorem dictI_keys {K : Frag} {prog : Program} {w : World} : ∀ {d : List (MV × MV)} {es : List DictEntry}, dictIB K d es = true → ∀ e ∈ es, ∃ k, (PySem.intKind prog w).is k e.key = true ∧ e.hash = (PySem.intKind prog w).hash k
  | [], [], _, e, he => by cases he
  | [], _ :: _, b, _, _ => by cases b
  | p :: r, [], b, _, _ => by cases b
  | p :: r, e :: q, b, e', he => by
    unfold dictIB at b
    have b := Bool.and_eq_true_iff.mp b
    have b1 := Bool.and_eq_true_iff.mp b.1
    rcases List.mem_cons.mp he with rfl | he
    · obtain ⟨p1, p2⟩ := p
      obtain ⟨eh, ek, ev⟩ := e'
      have b2 := b1.1
      simp only at b2
      split at b2
      · rename_i y x t _
        refine ⟨x, ?_, ?_⟩
        · show Value.isInt x (.int x t) = true
          simp [Value.isInt]
        · exact (Z.eqB_iff _ _).mp (Bool.and_eq_true_iff.mp b2).2
      · cases b2
    · exact dictI_keys b.2 e' he
/-- the pairs of the table of names -/
def kvsOf : List (MV × MV) → List DictEntry → List (Str × Value)
  | _, [] => []
  | d, e :: q => (match e.key with | .str x _ => x | _ => "", e.val) :: kvsOf d.tail q
theorem dictS_pairs {K : Frag} {prog : Program} {w : World} : ∀ {d : List (MV × MV)} {es : List DictEntry}, dictSB K d es = true →
    Pairs (PySem.strKind prog w) es (kvsOf d es) ∧ d.map (·.1) = (kvsOf d es).map (fun p => MV.str p.1.cps.toList) ∧ ∀ p ∈ kvsOf d es, p.1.length ≤ 1000
  | [], [], _ => ⟨.nil, rfl, fun _ h => nomatch h⟩
  | [], _ :: _, b => by cases b
  | p :: r, [], b => by cases b
  | p :: r, e :: q, b => by
    unfold dictSB at b
    have b := Bool.and_eq_true_iff.mp b
    have b1 := Bool.and_eq_true_iff.mp b.1
    obtain ⟨ih1, ih2, ih3⟩ := dictS_pairs (prog := prog) (w := w) b.2
    obtain ⟨p1, p2⟩ := p
    obtain ⟨eh, ek, ev⟩ := e
    have b2 := b1.1
    simp only at b2
    split at b2
    · rename_i y x t _
      have b3 := Bool.and_eq_true_iff.mp b2
      have hy := leq_iff.mp b3.1
      refine ⟨.cons (strKind_is prog w x t) rfl ih1, ?_, fun p hp => ?_⟩
      · show MV.str y :: r.map (·.1) = MV.str x.cps.toList :: (kvsOf r q).map _
        rw [hy, ih2]
      · rcases List.mem_cons.mp hp with rfl | hp
        · have := Nat.le_of_ble_eq_true b3.2
          rw [← hy] at this
          show x.cps.size ≤ 1000
          simpa using this
        · exact ih3 p hp
    · cases b2
end Mine
namespace Mine
set_option maxRecDepth 100000
open PySem PySem.W PySem.Calls PyProof.Rows
noncomputable def BB (w : World) (h₀ : Heap) (gens : Array GenState) (os : OsState) (mg mb : Str → Option Value) : Bs :=
  { prog := PySem.Challenge.rw_et0027_01.row.prog, w := w, T := TT, K := KK w.params, h₀ := h₀, gens := gens, os := os, mg := mg, mb := mb }

/-! the two tables, written out -/
def esOf (K : Frag) (a : Addr) : List DictEntry := match K.lookup a with
  | some ⟨_, _, .dict es _, _⟩ => es.toList
  | _ => []
def dictIs (K : Frag) (a : Addr) (n : Nat) : Prop := K.lookup a = some ⟨.type "dict", none, .dict (esOf K a).toArray n, #[]⟩
theorem k_names (P : Params) : dictIs (KK P) 179 27 := by show (KK P).lookup 179 = _; kernel_rfl
theorem k_props (P : Params) : dictIs (KK P) 181 27 := by show (KK P).lookup 181 = _; kernel_rfl
theorem k_namesB (P : Params) : dictSB (KK P) namesD (esOf (KK P) 179) = true := by kernel_rfl
theorem k_propsB (P : Params) : dictIB (KK P) propsD (esOf (KK P) 181) = true := by kernel_rfl
def keyLitB : List DictEntry → List Str
  | [] => []
  | e :: r => (match e.key with | .str x _ => x | _ => "") :: keyLitB r
theorem k_hash (P : Params) : (esOf (KK P) 179).map (·.hash) = (keyLitB (esOf (KK P) 179)).map (PyData.keyHash P) := by kernel_rfl
theorem keysLit_of {P : Params} {K : Frag} : ∀ {d : List (MV × MV)} {es : List DictEntry}, dictSB K d es = true → es.map (·.hash) = (keyLitB es).map (PyData.keyHash P) → KeysLit P es
  | [], [], _, _ => trivial
  | [], _ :: _, b, _ => by cases b
  | p :: r, [], b, _ => by cases b
  | p :: r, e :: q, b, hh => by
    unfold dictSB at b
    have b := Bool.and_eq_true_iff.mp b
    have b1 := Bool.and_eq_true_iff.mp b.1
    obtain ⟨p1, p2⟩ := p
    obtain ⟨eh, ek, ev⟩ := e
    have b2 := b1.1
    simp only at b2
    split at b2
    · rename_i y x t _
      simp only [List.map_cons, keyLitB, List.cons.injEq] at hh
      exact ⟨⟨x, t, rfl, hh.1⟩, keysLit_of b.2 hh.2⟩
    · cases b2
theorem k_nodup : (namesD.map fun p => match p.1 with | .str s => s | _ => []).Nodup := by decide +kernel
theorem map_inj_nodup {α β : Type} {f : α → β} : ∀ {l : List α}, (l.map f).Nodup → l.Nodup
  | [], _ => .nil
  | a :: r, h => by
    rw [List.map_cons, List.nodup_cons] at h
    rw [List.nodup_cons]
    exact ⟨fun m => h.1 (List.mem_map_of_mem m), map_inj_nodup h.2⟩

/-! the globals -/
def globB (K : Frag) (x : Str × MV) : Bool := match x.2 with
  | .prim n => nsIn K 3 x.1 == some none && bootBuiltins x.1 == some (primV n) && !(x.1 == ("__name__" : Str))
  | m => match nsIn K 3 x.1 with
    | some (some v) => rdB K m v
    | _ => false
theorem k_glob (P : Params) : (globL.all (globB (KK P))) = true := by kernel_rfl
theorem mg_of {K : Frag} {h : Heap} {mg : Str → Option Value} (X : K.In h) (hn : h.Ns mainGlobals mg) {x : Str} {r : Option Value} (e : nsIn K 3 x = some r) : mg x = r := by
  obtain ⟨o, es, ep, h1, h2, h3, h4⟩ := hn
  unfold nsIn at e
  split at e
  · rename_i c d fs n sl ho
    have := X 3 _ ho
    have h1' : h.get? 3 = some o := h1
    rw [h1'] at this
    cases this
    cases h2
    rw [← h4 x]
    obtain ⟨l⟩ := es
    unfold nsFind findBy
    rw [List.find?_toArray]
    split at e
    · rename_i e' h'
      have h' : List.find? (fun d => d.key.isStr x) l = some e' := h'
      rw [h']; exact Option.some.inj e
    · rename_i h'
      have h' : List.find? (fun d => d.key.isStr x) l = none := h'
      rw [h']
      split at e
      · cases e
      · exact Option.some.inj e
  · cases e

/-! the kinds of attributes -/
def cattrB (K : Frag) (x : Str × MV) : Bool := match findIn K (.ref 307) x.1 with
  | some (some a) => specialIn K a "__get__" == some none && handedIn a && !copiedNames.contains x.1 && rdB K x.2 a
  | _ => false
theorem k_cattr (P : Params) : (TT.cattr.all (cattrB (KK P))) = true := by kernel_rfl
theorem k_sm1 (P : Params) : findCls (KK P) (.ref 166) (.type "type") "encode_number" = some (.get (.builtin "staticmethod.__get__") (.ref 152) .none (.ref 166)) := by kernel_rfl
theorem k_sm2 (P : Params) : findCls (KK P) (.ref 166) (.type "type") "decode_number" = some (.get (.builtin "staticmethod.__get__") (.ref 162) .none (.ref 166)) := by kernel_rfl
theorem k_sr1 (P : Params) : recIn (KK P) 152 "staticmethod" = some [.ref 150, .bool false] := by kernel_rfl
theorem k_sr2 (P : Params) : recIn (KK P) 162 "staticmethod" = some [.ref 160, .bool false] := by kernel_rfl
theorem k_srd (P : Params) : readsIn (KK P) 166 (.type "type") = true := by kernel_rfl
theorem k_sga (P : Params) : specialIn (KK P) (.ref 166) "__getattribute__" = some (some (.builtin "type.__getattribute__")) := by kernel_rfl
theorem k_spec : specOf Mine.hd.view_39 "MQTTException" = some ("Exception.__new__", [.type "Exception", .type "BaseException", .type "object"]) := by kernel_rfl
theorem k_65 (P : Params) : nsIn (KK P) 3 "MQTTException" = some (some (.ref 65)) := by kernel_rfl
theorem k_name (P : Params) : (clsIn (KK P) 307).map (fun cd => (cd.name.cps.foldl (fun k c => k + (Str.utf8Of c).length) 0, cd.name.toString.length)) = some (10, 10) := by kernel_rfl

theorem lk_all {α : Type} {f : Str × α → Bool} {L : List (Str × α)} (h : L.all f = true) {x : Str} {v : α} (e : lk x L = some v) : f (x, v) = true := List.all_eq_true.mp h _ (lk_mem e)
theorem mem_of_memS {x : Str} : ∀ {L : List Str}, memS x L = true → x ∈ L
  | [], h => by cases h
  | y :: r, h => by
    unfold memS at h
    split at h
    · rename_i e; rw [seq_iff.mp e]; exact .head _
    · exact .tail _ (mem_of_memS h)
theorem memS_all {f : Str → Bool} {L : List Str} (h : L.all f = true) {x : Str} (e : memS x L = true) : f x = true := List.all_eq_true.mp h _ (mem_of_memS e)

theorem bok {w : World} {h₀ : Heap} {gens : Array GenState} {os : OsState} {mg mb : Str → Option Value} {loose : List Str} {mean : ExcName → Option Value} (X : (KK w.params).In h₀)
    (T : PyProof.Rows.Top Mine.hd.view_39 loose mean mg mb h₀) : BOk (BB w h₀ gens os mg mb) where
  nolimit := T.nolimit
  KIn := X
  dictS := fun a d k m h1 h2 => by
    have h1 : lkN a [(179, namesD)] = some d := h1
    have hm := lkN_mem h1
    cases List.mem_singleton.mp hm
    obtain ⟨v, g1, g2⟩ := dictS_get X (k_namesB w.params) h2
    have kl : KeysLit w.params (esOf (KK w.params) 179).toArray.toList := by simpa using keysLit_of (k_namesB w.params) (k_hash w.params)
    refine ⟨_, v, mapOf_K X (k_names w.params) kl, ?_, g2⟩
    show findBy Value.isStrOf (esOf (KK w.params) 179).toArray ⟨k.toArray⟩ = some v
    unfold findBy
    rw [List.find?_toArray]
    exact g1
  dictI := fun a d k m h1 h2 => by
    have h1 : lkN a [(181, propsD)] = some d := h1
    have hm := lkN_mem h1
    cases List.mem_singleton.mp hm
    obtain ⟨v, g1, g2⟩ := dictI_get X (k_propsB w.params) h2
    refine ⟨fun k => findBy Value.isInt (esOf (KK w.params) 181).toArray k, v, ⟨_, (esOf (KK w.params) 181).toArray, 27, X _ _ (k_props w.params), ⟨rfl, rfl, rfl⟩, rfl, fun e he => ?_, fun _ => rfl⟩, ?_, g2⟩
    · exact dictI_keys (k_propsB w.params) e (by simpa using he)
    · show findBy Value.isInt (esOf (KK w.params) 181).toArray k = some v
      unfold findBy
      rw [List.find?_toArray]
      exact g1
  dictK := fun a d h1 => by
    have h1 : lkN a [(179, namesD)] = some d := h1
    have hm := lkN_mem h1
    cases List.mem_singleton.mp hm
    obtain ⟨g1, g2, g3⟩ := dictS_pairs (prog := PySem.Challenge.rw_et0027_01.row.prog) (w := w) (k_namesB w.params)
    have g1' : Pairs (PySem.strKind PySem.Challenge.rw_et0027_01.row.prog w) (esOf (KK w.params) 179).toArray.toList (kvsOf namesD (esOf (KK w.params) 179)) := by simpa using g1
    refine ⟨kvsOf namesD (esOf (KK w.params) 179), ⟨_, (esOf (KK w.params) 179).toArray, 27, X _ _ (k_names w.params), ⟨rfl, rfl, rfl⟩, rfl, fun e he => ?_, g1', ?_⟩, rfl, g2, ?_, g3⟩
    · obtain ⟨x, t, e1, e2⟩ := (keysLit_of (k_namesB w.params) (k_hash w.params)).all e (by simpa using he)
      exact ⟨x, by rw [e1]; exact strKind_is _ w x t, e2⟩
    · have h := k_nodup
      have e : (namesD.map fun p => match p.1 with | .str s => s | _ => []) = (kvsOf namesD (esOf (KK w.params) 179)).map fun p => p.1.cps.toList := by
        have := congrArg (List.map fun m : MV => match m with | .str s => s | _ => []) g2
        rw [List.map_map, List.map_map] at this
        exact this
      rw [e] at h
      have e2 : ((kvsOf namesD (esOf (KK w.params) 179)).map fun p => p.1.cps.toList) = ((kvsOf namesD (esOf (KK w.params) 179)).map (·.1)).map fun x => x.cps.toList := by rw [List.map_map]; rfl
      rw [e2] at h
      exact map_inj_nodup h
    · have := congrArg List.length g2
      rw [List.length_map, List.length_map] at this
      rw [← this]
      exact (by decide : namesD.length ≤ 1000)
  setter := k_setter w.params
  over := k_over w.params
  takes := fun nm h => eq_of_beq (memS_all (k_takes w.params) h)
  kitL := k_kitL w.params
  kitB := k_kitB w.params
  nsg := T.g
  nsb := T.b
  glob := fun x m h => by
    have hb := lk_all (k_glob w.params) h
    unfold globB at hb
    split at hb
    · rename_i n hn
      simp only at hn
      subst hn
      have hb := Bool.and_eq_true_iff.mp hb
      have hb1 := Bool.and_eq_true_iff.mp hb.1
      refine ⟨primV n, .inr ⟨mg_of X T.g (eq_of_beq hb1.1), ?_⟩, by simp only [Rd]⟩
      have hne : x ≠ "__name__" := fun e => by
        have := hb.2
        simp only [Bool.not_eq_true'] at this
        exact beq_eq_false_iff_ne.mp this e
      exact (T.builtins x hne).trans (eq_of_beq hb1.2)
    · split at hb
      · rename_i v hv
        exact ⟨v, .inl (mg_of X T.g hv), rdB_ok X hb⟩
      · cases hb
  makes := k_makes w.params
  initF := k_initF w.params
  initFn := k_initFn w.params
  keepC := k_keepC w.params
  smeths := fun a t nm f h1 h2 => by
    have h1 : lkN a ([(166, [("encode_number", 150), ("decode_number", 160)])] : List (Addr × List (Str × Addr))) = some t := h1
    have hm := lkN_mem h1
    cases List.mem_singleton.mp hm
    have hm2 := lk_mem h2
    rcases List.mem_cons.mp hm2 with e | e
    · cases e
      exact ⟨_, 152, _, k_type166 w.params, k_srd w.params, k_sm1 w.params, k_sr1 w.params, k_sga w.params⟩
    · cases List.mem_singleton.mp e
      exact ⟨_, 162, _, k_type166 w.params, k_srd w.params, k_sm2 w.params, k_sr2 w.params, k_sga w.params⟩
  exc := fun c h => by
    have h : memN c [65] = true := h
    unfold memN at h
    split at h
    · rename_i e
      have e := Nat.eq_of_beq_eq_true e
      subst e
      obtain ⟨C, O, _⟩ := T.ownAt k_spec
      have hb : mg "MQTTException" = some (.ref 65) := mg_of X T.g (k_65 w.params)
      have hC : C = 65 := by
        have := O.bound
        rw [hb] at this
        cases this; rfl
      subst hC
      exact ⟨_, _, _, _, _, O.own, PySem.F.excBase_Exception, by decide, k_keep65 w.params⟩
    · cases h
  few := (by decide : attrsL.length ≤ 100)
  has := k_has w.params
  plain := k_plain w.params
  nomod := k_nomod w.params
  short := fun cd h => by
    have e := k_name w.params
    have h : clsIn (KK w.params) 307 = some cd := h
    rw [h] at e
    have e := Option.some.inj e
    have e1 := congrArg Prod.fst e
    have e2 := congrArg Prod.snd e
    simp only at e1 e2
    rw [e1, e2]
    decide
  attrs := fun nm h => by
    have hb := memS_all (k_attrs w.params) h
    unfold attrsB at hb
    have hb := Bool.and_eq_true_iff.mp hb
    have hb1 := Bool.and_eq_true_iff.mp hb.1
    exact ⟨eq_of_beq hb1.1, by simpa using hb1.2, of_decide_eq_true hb.2⟩
  meths := fun nm f h => by
    have hb := lk_all (k_meths w.params) h
    unfold methB at hb
    have hb := Bool.and_eq_true_iff.mp hb
    exact ⟨eq_of_beq hb.1, hb.2⟩
  cattrs := fun nm m h => by
    have hb := lk_all (k_cattr w.params) h
    unfold cattrB at hb
    split at hb
    · rename_i a ha
      have hb := Bool.and_eq_true_iff.mp hb
      have hb1 := Bool.and_eq_true_iff.mp hb.1
      have hb2 := Bool.and_eq_true_iff.mp hb1.1
      exact ⟨a, ha, eq_of_beq hb2.1, hb2.2, by simpa using hb1.2, rdB_ok X hb.2⟩
    · cases hb
end Mine
namespace Mine
set_option maxRecDepth 100000
open PySem PySem.W PySem.Calls PyProof.Rows
def fdAt (K : Frag) (f : Addr) : Option FuncData := match K.lookup f with
  | some ⟨_, _, .func fd, _⟩ => some fd
  | _ => none
def codeB (K : Frag) (f : Addr) : Bool := match fdAt K f with
  | some fd => match fd.code with
    | .ref c => match K.lookup c with
      | some ⟨_, _, .fields vs, _⟩ => match (vs[1]? : Option Value) with
        | some (.str q _) => seq q fd.qualname
        | _ => false
      | _ => false
    | _ => false
  | none => false
def okKind : NameKind → Bool
  | .local => true
  | .globalImplicit => true
  | _ => false
def nodupS : List Str → Bool
  | [] => true
  | x :: r => !memS x r && nodupS r
def fnB (K : Frag) (f : Addr) (fn : Fn) : Bool := codeB K f && (fn.scope.names.all fun x => okKind x.2) && (fn.params.all fun x => isLocal fn.scope x) && nodupS fn.params && keepIn K (.ref f)
def fnE (K : Frag) (f : Addr) (fn : Fn) : Prop := (fdAt K f).map (fun fd => (fd.scope, fd.body, fd.closure, fd.globals, fd.builtins)) = some (fn.scope, .stmts fn.body, [], 3, 0) ∧ fn.scope.kind = .function ∧ fn.scope.isCoroutine = false ∧ fn.scope.isGenerator = false
def fnG (K : Frag) (f : Addr) (fn : Fn) : Prop := ∀ vs : List Value, vs.length = fn.params.length → (fdAt K f).map (fun fd => bindArgs fd ⟨vs, []⟩) = some (pure (fn.params.zip vs))
theorem memS_mem {x : Str} : ∀ {r : List Str}, x ∈ r → memS x r = true
  | [], h => by cases h
  | y :: r, h => by
    unfold memS
    rcases List.mem_cons.mp h with rfl | h
    · rw [seq_self]
    · cases e : seq x y with
      | true => rfl
      | false => exact memS_mem h
theorem nodupS_ok : ∀ {L : List Str}, nodupS L = true → L.Nodup
  | [], _ => .nil
  | x :: r, h => by
    unfold nodupS at h
    have h := Bool.and_eq_true_iff.mp h
    rw [List.nodup_cons]
    refine ⟨fun m => ?_, nodupS_ok h.2⟩
    have h1 := h.1
    have := memS_mem m
    rw [this] at h1; cases h1
theorem fnOk_of {w : World} {h₀ : Heap} {gens : Array GenState} {os : OsState} {mg mb : Str → Option Value} (X : (KK w.params).In h₀) {f : Addr} {fn : Fn} (h1 : fnB (KK w.params) f fn = true) (h2 : fnE (KK w.params) f fn) (h3 : fnG (KK w.params) f fn) : FnOk (BB w h₀ gens os mg mb) f fn := by
  unfold fnB at h1
  have h1 := Bool.and_eq_true_iff.mp h1
  have a1 := Bool.and_eq_true_iff.mp h1.1
  have a2 := Bool.and_eq_true_iff.mp a1.1
  have a3 := Bool.and_eq_true_iff.mp a2.1
  obtain ⟨e1, e2, e3, e4⟩ := h2
  have hcode := a3.1
  unfold codeB at hcode
  unfold fnG at h3
  refine ⟨?_, e2, e3, e4, fun x hx => ?_, fun x hx => ?_, nodupS_ok a1.2, h1.2⟩
  · unfold fdAt at hcode e1 h3
    cases ho : (KK w.params).lookup f with
    | none => rw [ho] at e1; cases e1
    | some o =>
      rw [ho] at e1 hcode h3
      obtain ⟨c, d, dt, sl⟩ := o
      cases dt <;> try (cases e1; done)
      rename_i fd
      simp only at e1 hcode h3
      have e1 := Option.some.inj e1
      simp only [Prod.mk.injEq] at e1
      obtain ⟨g1, g2, g3, g4, g5⟩ := e1
      refine ⟨_, fd, X f _ ho, rfl, g1, g2, g3, g4, g5, ?_, fun vs hl => Option.some.inj (h3 vs hl)⟩
      split at hcode
      · rename_i c hc
        split at hcode
        · rename_i vs _ hv
          split at hcode
          · rename_i q t hq
            refine ⟨c, _, vs, t, hc, X c _ hv, rfl, ?_⟩
            rw [hq, seq_iff.mp hcode]
          · cases hcode
        · cases hcode
      · cases hcode
  · have := List.all_eq_true.mp a3.2 x hx
    obtain ⟨nm, k⟩ := x
    cases k <;> first | exact .inl rfl | exact .inr rfl | cases this
  · have := List.all_eq_true.mp a2.2 x hx
    unfold isLocal at this
    split at this
    · rename_i q; rw [lk_eq] at q; exact q
    · cases this
theorem vs0 {P : List Value → Prop} (h : P []) : ∀ vs : List Value, vs.length = 0 → P vs
  | [], _ => h
theorem vs1 {P : List Value → Prop} (h : ∀ a, P [a]) : ∀ vs : List Value, vs.length = 1 → P vs
  | [a], _ => h a
theorem vs2 {P : List Value → Prop} (h : ∀ a b, P [a, b]) : ∀ vs : List Value, vs.length = 2 → P vs
  | [a, b], _ => h a b
theorem vs3 {P : List Value → Prop} (h : ∀ a b c, P [a, b, c]) : ∀ vs : List Value, vs.length = 3 → P vs
  | [a, b, c], _ => h a b c
theorem vs4 {P : List Value → Prop} (h : ∀ a b c d, P [a, b, c, d]) : ∀ vs : List Value, vs.length = 4 → P vs
  | [a, b, c, d], _ => h a b c d
section
variable (P : Params)
theorem fb_28 : fnB (KK P) 28 (fnAt 1) = true := by kernel_rfl
theorem fe_28 : fnE (KK P) 28 (fnAt 1) := ⟨by kernel_rfl, by kernel_rfl, by kernel_rfl, by kernel_rfl⟩
theorem fv_28 (a : Value) : (fdAt (KK P) 28).map (fun fd => bindArgs fd ⟨[a], []⟩) = some (pure ((fnAt 1).params.zip [a])) := by kernel_rfl
theorem fl_28 : (fnAt 1).params.length = 1 := by kernel_rfl
theorem fg_28 : fnG (KK P) 28 (fnAt 1) := by
  intro vs h
  rw [fl_28] at h
  exact vs1 (P := fun vs => (fdAt (KK P) 28).map (fun fd => bindArgs fd ⟨vs, []⟩) = some (pure ((fnAt 1).params.zip vs))) (fun a => fv_28 P a) vs h
theorem fb_48 : fnB (KK P) 48 (fnAt 4) = true := by kernel_rfl
theorem fe_48 : fnE (KK P) 48 (fnAt 4) := ⟨by kernel_rfl, by kernel_rfl, by kernel_rfl, by kernel_rfl⟩
theorem fv_48 (a b : Value) : (fdAt (KK P) 48).map (fun fd => bindArgs fd ⟨[a, b], []⟩) = some (pure ((fnAt 4).params.zip [a, b])) := by kernel_rfl
theorem fl_48 : (fnAt 4).params.length = 2 := by kernel_rfl
theorem fg_48 : fnG (KK P) 48 (fnAt 4) := by
  intro vs h
  rw [fl_48] at h
  exact vs2 (P := fun vs => (fdAt (KK P) 48).map (fun fd => bindArgs fd ⟨vs, []⟩) = some (pure ((fnAt 4).params.zip vs))) (fun a b => fv_48 P a b) vs h
theorem fb_55 : fnB (KK P) 55 (fnAt 5) = true := by kernel_rfl
theorem fe_55 : fnE (KK P) 55 (fnAt 5) := ⟨by kernel_rfl, by kernel_rfl, by kernel_rfl, by kernel_rfl⟩
theorem fv_55 (a b : Value) : (fdAt (KK P) 55).map (fun fd => bindArgs fd ⟨[a, b], []⟩) = some (pure ((fnAt 5).params.zip [a, b])) := by kernel_rfl
theorem fl_55 : (fnAt 5).params.length = 2 := by kernel_rfl
theorem fg_55 : fnG (KK P) 55 (fnAt 5) := by
  intro vs h
  rw [fl_55] at h
  exact vs2 (P := fun vs => (fdAt (KK P) 55).map (fun fd => bindArgs fd ⟨vs, []⟩) = some (pure ((fnAt 5).params.zip vs))) (fun a b => fv_55 P a b) vs h
theorem fb_87 : fnB (KK P) 87 (fnAt 10) = true := by kernel_rfl
theorem fe_87 : fnE (KK P) 87 (fnAt 10) := ⟨by kernel_rfl, by kernel_rfl, by kernel_rfl, by kernel_rfl⟩
theorem fv_87 (a : Value) : (fdAt (KK P) 87).map (fun fd => bindArgs fd ⟨[a], []⟩) = some (pure ((fnAt 10).params.zip [a])) := by kernel_rfl
theorem fl_87 : (fnAt 10).params.length = 1 := by kernel_rfl
theorem fg_87 : fnG (KK P) 87 (fnAt 10) := by
  intro vs h
  rw [fl_87] at h
  exact vs1 (P := fun vs => (fdAt (KK P) 87).map (fun fd => bindArgs fd ⟨vs, []⟩) = some (pure ((fnAt 10).params.zip vs))) (fun a => fv_87 P a) vs h
theorem fb_94 : fnB (KK P) 94 (fnAt 11) = true := by kernel_rfl
theorem fe_94 : fnE (KK P) 94 (fnAt 11) := ⟨by kernel_rfl, by kernel_rfl, by kernel_rfl, by kernel_rfl⟩
theorem fv_94 (a : Value) : (fdAt (KK P) 94).map (fun fd => bindArgs fd ⟨[a], []⟩) = some (pure ((fnAt 11).params.zip [a])) := by kernel_rfl
theorem fl_94 : (fnAt 11).params.length = 1 := by kernel_rfl
theorem fg_94 : fnG (KK P) 94 (fnAt 11) := by
  intro vs h
  rw [fl_94] at h
  exact vs1 (P := fun vs => (fdAt (KK P) 94).map (fun fd => bindArgs fd ⟨vs, []⟩) = some (pure ((fnAt 11).params.zip vs))) (fun a => fv_94 P a) vs h
theorem fb_101 : fnB (KK P) 101 (fnAt 12) = true := by kernel_rfl
theorem fe_101 : fnE (KK P) 101 (fnAt 12) := ⟨by kernel_rfl, by kernel_rfl, by kernel_rfl, by kernel_rfl⟩
theorem fv_101 (a : Value) : (fdAt (KK P) 101).map (fun fd => bindArgs fd ⟨[a], []⟩) = some (pure ((fnAt 12).params.zip [a])) := by kernel_rfl
theorem fl_101 : (fnAt 12).params.length = 1 := by kernel_rfl
theorem fg_101 : fnG (KK P) 101 (fnAt 12) := by
  intro vs h
  rw [fl_101] at h
  exact vs1 (P := fun vs => (fdAt (KK P) 101).map (fun fd => bindArgs fd ⟨vs, []⟩) = some (pure ((fnAt 12).params.zip vs))) (fun a => fv_101 P a) vs h
theorem fb_108 : fnB (KK P) 108 (fnAt 13) = true := by kernel_rfl
theorem fe_108 : fnE (KK P) 108 (fnAt 13) := ⟨by kernel_rfl, by kernel_rfl, by kernel_rfl, by kernel_rfl⟩
theorem fv_108 (a : Value) : (fdAt (KK P) 108).map (fun fd => bindArgs fd ⟨[a], []⟩) = some (pure ((fnAt 13).params.zip [a])) := by kernel_rfl
theorem fl_108 : (fnAt 13).params.length = 1 := by kernel_rfl
theorem fg_108 : fnG (KK P) 108 (fnAt 13) := by
  intro vs h
  rw [fl_108] at h
  exact vs1 (P := fun vs => (fdAt (KK P) 108).map (fun fd => bindArgs fd ⟨vs, []⟩) = some (pure ((fnAt 13).params.zip vs))) (fun a => fv_108 P a) vs h
theorem fb_115 : fnB (KK P) 115 (fnAt 14) = true := by kernel_rfl
theorem fe_115 : fnE (KK P) 115 (fnAt 14) := ⟨by kernel_rfl, by kernel_rfl, by kernel_rfl, by kernel_rfl⟩
theorem fv_115 (a : Value) : (fdAt (KK P) 115).map (fun fd => bindArgs fd ⟨[a], []⟩) = some (pure ((fnAt 14).params.zip [a])) := by kernel_rfl
theorem fl_115 : (fnAt 14).params.length = 1 := by kernel_rfl
theorem fg_115 : fnG (KK P) 115 (fnAt 14) := by
  intro vs h
  rw [fl_115] at h
  exact vs1 (P := fun vs => (fdAt (KK P) 115).map (fun fd => bindArgs fd ⟨vs, []⟩) = some (pure ((fnAt 14).params.zip vs))) (fun a => fv_115 P a) vs h
theorem fb_122 : fnB (KK P) 122 (fnAt 15) = true := by kernel_rfl
theorem fe_122 : fnE (KK P) 122 (fnAt 15) := ⟨by kernel_rfl, by kernel_rfl, by kernel_rfl, by kernel_rfl⟩
theorem fv_122 (a b : Value) : (fdAt (KK P) 122).map (fun fd => bindArgs fd ⟨[a, b], []⟩) = some (pure ((fnAt 15).params.zip [a, b])) := by kernel_rfl
theorem fl_122 : (fnAt 15).params.length = 2 := by kernel_rfl
theorem fg_122 : fnG (KK P) 122 (fnAt 15) := by
  intro vs h
  rw [fl_122] at h
  exact vs2 (P := fun vs => (fdAt (KK P) 122).map (fun fd => bindArgs fd ⟨vs, []⟩) = some (pure ((fnAt 15).params.zip vs))) (fun a b => fv_122 P a b) vs h
theorem fb_129 : fnB (KK P) 129 (fnAt 16) = true := by kernel_rfl
theorem fe_129 : fnE (KK P) 129 (fnAt 16) := ⟨by kernel_rfl, by kernel_rfl, by kernel_rfl, by kernel_rfl⟩
theorem fv_129 (a : Value) : (fdAt (KK P) 129).map (fun fd => bindArgs fd ⟨[a], []⟩) = some (pure ((fnAt 16).params.zip [a])) := by kernel_rfl
theorem fl_129 : (fnAt 16).params.length = 1 := by kernel_rfl
theorem fg_129 : fnG (KK P) 129 (fnAt 16) := by
  intro vs h
  rw [fl_129] at h
  exact vs1 (P := fun vs => (fdAt (KK P) 129).map (fun fd => bindArgs fd ⟨vs, []⟩) = some (pure ((fnAt 16).params.zip vs))) (fun a => fv_129 P a) vs h
theorem fb_136 : fnB (KK P) 136 (fnAt 17) = true := by kernel_rfl
theorem fe_136 : fnE (KK P) 136 (fnAt 17) := ⟨by kernel_rfl, by kernel_rfl, by kernel_rfl, by kernel_rfl⟩
theorem fv_136 (a b : Value) : (fdAt (KK P) 136).map (fun fd => bindArgs fd ⟨[a, b], []⟩) = some (pure ((fnAt 17).params.zip [a, b])) := by kernel_rfl
theorem fl_136 : (fnAt 17).params.length = 2 := by kernel_rfl
theorem fg_136 : fnG (KK P) 136 (fnAt 17) := by
  intro vs h
  rw [fl_136] at h
  exact vs2 (P := fun vs => (fdAt (KK P) 136).map (fun fd => bindArgs fd ⟨vs, []⟩) = some (pure ((fnAt 17).params.zip vs))) (fun a b => fv_136 P a b) vs h
theorem fb_150 : fnB (KK P) 150 (mtAt 18 0) = true := by kernel_rfl
theorem fe_150 : fnE (KK P) 150 (mtAt 18 0) := ⟨by kernel_rfl, by kernel_rfl, by kernel_rfl, by kernel_rfl⟩
theorem fv_150 (a : Value) : (fdAt (KK P) 150).map (fun fd => bindArgs fd ⟨[a], []⟩) = some (pure ((mtAt 18 0).params.zip [a])) := by kernel_rfl
theorem fl_150 : (mtAt 18 0).params.length = 1 := by kernel_rfl
theorem fg_150 : fnG (KK P) 150 (mtAt 18 0) := by
  intro vs h
  rw [fl_150] at h
  exact vs1 (P := fun vs => (fdAt (KK P) 150).map (fun fd => bindArgs fd ⟨vs, []⟩) = some (pure ((mtAt 18 0).params.zip vs))) (fun a => fv_150 P a) vs h
theorem fb_160 : fnB (KK P) 160 (mtAt 18 1) = true := by kernel_rfl
theorem fe_160 : fnE (KK P) 160 (mtAt 18 1) := ⟨by kernel_rfl, by kernel_rfl, by kernel_rfl, by kernel_rfl⟩
theorem fv_160 (a : Value) : (fdAt (KK P) 160).map (fun fd => bindArgs fd ⟨[a], []⟩) = some (pure ((mtAt 18 1).params.zip [a])) := by kernel_rfl
theorem fl_160 : (mtAt 18 1).params.length = 1 := by kernel_rfl
theorem fg_160 : fnG (KK P) 160 (mtAt 18 1) := by
  intro vs h
  rw [fl_160] at h
  exact vs1 (P := fun vs => (fdAt (KK P) 160).map (fun fd => bindArgs fd ⟨vs, []⟩) = some (pure ((mtAt 18 1).params.zip vs))) (fun a => fv_160 P a) vs h
theorem fb_243 : fnB (KK P) 243 (mtAt 19 3) = true := by kernel_rfl
theorem fe_243 : fnE (KK P) 243 (mtAt 19 3) := ⟨by kernel_rfl, by kernel_rfl, by kernel_rfl, by kernel_rfl⟩
theorem fv_243 (a b : Value) : (fdAt (KK P) 243).map (fun fd => bindArgs fd ⟨[a, b], []⟩) = some (pure ((mtAt 19 3).params.zip [a, b])) := by kernel_rfl
theorem fl_243 : (mtAt 19 3).params.length = 2 := by kernel_rfl
theorem fg_243 : fnG (KK P) 243 (mtAt 19 3) := by
  intro vs h
  rw [fl_243] at h
  exact vs2 (P := fun vs => (fdAt (KK P) 243).map (fun fd => bindArgs fd ⟨vs, []⟩) = some (pure ((mtAt 19 3).params.zip vs))) (fun a b => fv_243 P a b) vs h
theorem fb_250 : fnB (KK P) 250 (mtAt 19 4) = true := by kernel_rfl
theorem fe_250 : fnE (KK P) 250 (mtAt 19 4) := ⟨by kernel_rfl, by kernel_rfl, by kernel_rfl, by kernel_rfl⟩
theorem fv_250 (a b : Value) : (fdAt (KK P) 250).map (fun fd => bindArgs fd ⟨[a, b], []⟩) = some (pure ((mtAt 19 4).params.zip [a, b])) := by kernel_rfl
theorem fl_250 : (mtAt 19 4).params.length = 2 := by kernel_rfl
theorem fg_250 : fnG (KK P) 250 (mtAt 19 4) := by
  intro vs h
  rw [fl_250] at h
  exact vs2 (P := fun vs => (fdAt (KK P) 250).map (fun fd => bindArgs fd ⟨vs, []⟩) = some (pure ((mtAt 19 4).params.zip vs))) (fun a b => fv_250 P a b) vs h
theorem fb_257 : fnB (KK P) 257 (mtAt 19 5) = true := by kernel_rfl
theorem fe_257 : fnE (KK P) 257 (mtAt 19 5) := ⟨by kernel_rfl, by kernel_rfl, by kernel_rfl, by kernel_rfl⟩
theorem fv_257 (a b : Value) : (fdAt (KK P) 257).map (fun fd => bindArgs fd ⟨[a, b], []⟩) = some (pure ((mtAt 19 5).params.zip [a, b])) := by kernel_rfl
theorem fl_257 : (mtAt 19 5).params.length = 2 := by kernel_rfl
theorem fg_257 : fnG (KK P) 257 (mtAt 19 5) := by
  intro vs h
  rw [fl_257] at h
  exact vs2 (P := fun vs => (fdAt (KK P) 257).map (fun fd => bindArgs fd ⟨vs, []⟩) = some (pure ((mtAt 19 5).params.zip vs))) (fun a b => fv_257 P a b) vs h
theorem fb_262 : fnB (KK P) 262 (mtAt 19 6) = true := by kernel_rfl
theorem fe_262 : fnE (KK P) 262 (mtAt 19 6) := ⟨by kernel_rfl, by kernel_rfl, by kernel_rfl, by kernel_rfl⟩
theorem fv_262 (a b c : Value) : (fdAt (KK P) 262).map (fun fd => bindArgs fd ⟨[a, b, c], []⟩) = some (pure ((mtAt 19 6).params.zip [a, b, c])) := by kernel_rfl
theorem fl_262 : (mtAt 19 6).params.length = 3 := by kernel_rfl
theorem fg_262 : fnG (KK P) 262 (mtAt 19 6) := by
  intro vs h
  rw [fl_262] at h
  exact vs3 (P := fun vs => (fdAt (KK P) 262).map (fun fd => bindArgs fd ⟨vs, []⟩) = some (pure ((mtAt 19 6).params.zip vs))) (fun a b c => fv_262 P a b c) vs h
theorem fb_269 : fnB (KK P) 269 (mtAt 19 7) = true := by kernel_rfl
theorem fe_269 : fnE (KK P) 269 (mtAt 19 7) := ⟨by kernel_rfl, by kernel_rfl, by kernel_rfl, by kernel_rfl⟩
theorem fv_269 (a : Value) : (fdAt (KK P) 269).map (fun fd => bindArgs fd ⟨[a], []⟩) = some (pure ((mtAt 19 7).params.zip [a])) := by kernel_rfl
theorem fl_269 : (mtAt 19 7).params.length = 1 := by kernel_rfl
theorem fg_269 : fnG (KK P) 269 (mtAt 19 7) := by
  intro vs h
  rw [fl_269] at h
  exact vs1 (P := fun vs => (fdAt (KK P) 269).map (fun fd => bindArgs fd ⟨vs, []⟩) = some (pure ((mtAt 19 7).params.zip vs))) (fun a => fv_269 P a) vs h
theorem fb_276 : fnB (KK P) 276 (mtAt 19 8) = true := by kernel_rfl
theorem fe_276 : fnE (KK P) 276 (mtAt 19 8) := ⟨by kernel_rfl, by kernel_rfl, by kernel_rfl, by kernel_rfl⟩
theorem fv_276 (a b c d : Value) : (fdAt (KK P) 276).map (fun fd => bindArgs fd ⟨[a, b, c, d], []⟩) = some (pure ((mtAt 19 8).params.zip [a, b, c, d])) := by kernel_rfl
theorem fl_276 : (mtAt 19 8).params.length = 4 := by kernel_rfl
theorem fg_276 : fnG (KK P) 276 (mtAt 19 8) := by
  intro vs h
  rw [fl_276] at h
  exact vs4 (P := fun vs => (fdAt (KK P) 276).map (fun fd => bindArgs fd ⟨vs, []⟩) = some (pure ((mtAt 19 8).params.zip vs))) (fun a b c d => fv_276 P a b c d) vs h
theorem fb_283 : fnB (KK P) 283 (mtAt 19 9) = true := by kernel_rfl
theorem fe_283 : fnE (KK P) 283 (mtAt 19 9) := ⟨by kernel_rfl, by kernel_rfl, by kernel_rfl, by kernel_rfl⟩
theorem fv_283 (a : Value) : (fdAt (KK P) 283).map (fun fd => bindArgs fd ⟨[a], []⟩) = some (pure ((mtAt 19 9).params.zip [a])) := by kernel_rfl
theorem fl_283 : (mtAt 19 9).params.length = 1 := by kernel_rfl
theorem fg_283 : fnG (KK P) 283 (mtAt 19 9) := by
  intro vs h
  rw [fl_283] at h
  exact vs1 (P := fun vs => (fdAt (KK P) 283).map (fun fd => bindArgs fd ⟨vs, []⟩) = some (pure ((mtAt 19 9).params.zip vs))) (fun a => fv_283 P a) vs h
theorem fb_290 : fnB (KK P) 290 (mtAt 19 10) = true := by kernel_rfl
theorem fe_290 : fnE (KK P) 290 (mtAt 19 10) := ⟨by kernel_rfl, by kernel_rfl, by kernel_rfl, by kernel_rfl⟩
theorem fv_290 (a b c d : Value) : (fdAt (KK P) 290).map (fun fd => bindArgs fd ⟨[a, b, c, d], []⟩) = some (pure ((mtAt 19 10).params.zip [a, b, c, d])) := by kernel_rfl
theorem fl_290 : (mtAt 19 10).params.length = 4 := by kernel_rfl
theorem fg_290 : fnG (KK P) 290 (mtAt 19 10) := by
  intro vs h
  rw [fl_290] at h
  exact vs4 (P := fun vs => (fdAt (KK P) 290).map (fun fd => bindArgs fd ⟨vs, []⟩) = some (pure ((mtAt 19 10).params.zip vs))) (fun a b c d => fv_290 P a b c d) vs h
theorem fb_297 : fnB (KK P) 297 (mtAt 19 11) = true := by kernel_rfl
theorem fe_297 : fnE (KK P) 297 (mtAt 19 11) := ⟨by kernel_rfl, by kernel_rfl, by kernel_rfl, by kernel_rfl⟩
theorem fv_297 (a b : Value) : (fdAt (KK P) 297).map (fun fd => bindArgs fd ⟨[a, b], []⟩) = some (pure ((mtAt 19 11).params.zip [a, b])) := by kernel_rfl
theorem fl_297 : (mtAt 19 11).params.length = 2 := by kernel_rfl
theorem fg_297 : fnG (KK P) 297 (mtAt 19 11) := by
  intro vs h
  rw [fl_297] at h
  exact vs2 (P := fun vs => (fdAt (KK P) 297).map (fun fd => bindArgs fd ⟨vs, []⟩) = some (pure ((mtAt 19 11).params.zip vs))) (fun a b => fv_297 P a b) vs h
theorem fb_304 : fnB (KK P) 304 (mtAt 19 12) = true := by kernel_rfl
theorem fe_304 : fnE (KK P) 304 (mtAt 19 12) := ⟨by kernel_rfl, by kernel_rfl, by kernel_rfl, by kernel_rfl⟩
theorem fv_304 (a b : Value) : (fdAt (KK P) 304).map (fun fd => bindArgs fd ⟨[a, b], []⟩) = some (pure ((mtAt 19 12).params.zip [a, b])) := by kernel_rfl
theorem fl_304 : (mtAt 19 12).params.length = 2 := by kernel_rfl
theorem fg_304 : fnG (KK P) 304 (mtAt 19 12) := by
  intro vs h
  rw [fl_304] at h
  exact vs2 (P := fun vs => (fdAt (KK P) 304).map (fun fd => bindArgs fd ⟨vs, []⟩) = some (pure ((mtAt 19 12).params.zip vs))) (fun a b => fv_304 P a b) vs h
theorem fb_319 : fnB (KK P) 319 (fnAt 22) = true := by kernel_rfl
theorem fe_319 : fnE (KK P) 319 (fnAt 22) := ⟨by kernel_rfl, by kernel_rfl, by kernel_rfl, by kernel_rfl⟩
theorem fv_319 : (fdAt (KK P) 319).map (fun fd => bindArgs fd ⟨[], []⟩) = some (pure ((fnAt 22).params.zip [])) := by kernel_rfl
theorem fl_319 : (fnAt 22).params.length = 0 := by kernel_rfl
theorem fg_319 : fnG (KK P) 319 (fnAt 22) := by
  intro vs h
  rw [fl_319] at h
  exact vs0 (P := fun vs => (fdAt (KK P) 319).map (fun fd => bindArgs fd ⟨vs, []⟩) = some (pure ((fnAt 22).params.zip vs))) (fv_319 P) vs h
theorem fb_326 : fnB (KK P) 326 (fnAt 23) = true := by kernel_rfl
theorem fe_326 : fnE (KK P) 326 (fnAt 23) := ⟨by kernel_rfl, by kernel_rfl, by kernel_rfl, by kernel_rfl⟩
theorem fv_326 : (fdAt (KK P) 326).map (fun fd => bindArgs fd ⟨[], []⟩) = some (pure ((fnAt 23).params.zip [])) := by kernel_rfl
theorem fl_326 : (fnAt 23).params.length = 0 := by kernel_rfl
theorem fg_326 : fnG (KK P) 326 (fnAt 23) := by
  intro vs h
  rw [fl_326] at h
  exact vs0 (P := fun vs => (fdAt (KK P) 326).map (fun fd => bindArgs fd ⟨vs, []⟩) = some (pure ((fnAt 23).params.zip vs))) (fv_326 P) vs h
theorem fb_361 : fnB (KK P) 361 (fnAt 25) = true := by kernel_rfl
theorem fe_361 : fnE (KK P) 361 (fnAt 25) := ⟨by kernel_rfl, by kernel_rfl, by kernel_rfl, by kernel_rfl⟩
theorem fv_361 : (fdAt (KK P) 361).map (fun fd => bindArgs fd ⟨[], []⟩) = some (pure ((fnAt 25).params.zip [])) := by kernel_rfl
theorem fl_361 : (fnAt 25).params.length = 0 := by kernel_rfl
theorem fg_361 : fnG (KK P) 361 (fnAt 25) := by
  intro vs h
  rw [fl_361] at h
  exact vs0 (P := fun vs => (fdAt (KK P) 361).map (fun fd => bindArgs fd ⟨vs, []⟩) = some (pure ((fnAt 25).params.zip vs))) (fv_361 P) vs h
theorem fb_368 : fnB (KK P) 368 (fnAt 26) = true := by kernel_rfl
theorem fe_368 : fnE (KK P) 368 (fnAt 26) := ⟨by kernel_rfl, by kernel_rfl, by kernel_rfl, by kernel_rfl⟩
theorem fv_368 : (fdAt (KK P) 368).map (fun fd => bindArgs fd ⟨[], []⟩) = some (pure ((fnAt 26).params.zip [])) := by kernel_rfl
theorem fl_368 : (fnAt 26).params.length = 0 := by kernel_rfl
theorem fg_368 : fnG (KK P) 368 (fnAt 26) := by
  intro vs h
  rw [fl_368] at h
  exact vs0 (P := fun vs => (fdAt (KK P) 368).map (fun fd => bindArgs fd ⟨vs, []⟩) = some (pure ((fnAt 26).params.zip vs))) (fv_368 P) vs h
theorem fb_375 : fnB (KK P) 375 (fnAt 27) = true := by kernel_rfl
theorem fe_375 : fnE (KK P) 375 (fnAt 27) := ⟨by kernel_rfl, by kernel_rfl, by kernel_rfl, by kernel_rfl⟩
theorem fv_375 (a : Value) : (fdAt (KK P) 375).map (fun fd => bindArgs fd ⟨[a], []⟩) = some (pure ((fnAt 27).params.zip [a])) := by kernel_rfl
theorem fl_375 : (fnAt 27).params.length = 1 := by kernel_rfl
theorem fg_375 : fnG (KK P) 375 (fnAt 27) := by
  intro vs h
  rw [fl_375] at h
  exact vs1 (P := fun vs => (fdAt (KK P) 375).map (fun fd => bindArgs fd ⟨vs, []⟩) = some (pure ((fnAt 27).params.zip vs))) (fun a => fv_375 P a) vs h
theorem fb_382 : fnB (KK P) 382 (fnAt 28) = true := by kernel_rfl
theorem fe_382 : fnE (KK P) 382 (fnAt 28) := ⟨by kernel_rfl, by kernel_rfl, by kernel_rfl, by kernel_rfl⟩
theorem fv_382 (a b : Value) : (fdAt (KK P) 382).map (fun fd => bindArgs fd ⟨[a, b], []⟩) = some (pure ((fnAt 28).params.zip [a, b])) := by kernel_rfl
theorem fl_382 : (fnAt 28).params.length = 2 := by kernel_rfl
theorem fg_382 : fnG (KK P) 382 (fnAt 28) := by
  intro vs h
  rw [fl_382] at h
  exact vs2 (P := fun vs => (fdAt (KK P) 382).map (fun fd => bindArgs fd ⟨vs, []⟩) = some (pure ((fnAt 28).params.zip vs))) (fun a b => fv_382 P a b) vs h
end
theorem fns_ok {w : World} {h₀ : Heap} {gens : Array GenState} {os : OsState} {mg mb : Str → Option Value} (X : (KK w.params).In h₀) : FnsOk (BB w h₀ gens os mg mb) := by
  have key : ∀ x ∈ fnTab, FnOk (BB w h₀ gens os mg mb) x.1 x.2 := by
    unfold fnTab
    simp only [List.forall_mem_cons]
    exact ⟨fnOk_of X (fb_28 _) (fe_28 _) (fg_28 _), fnOk_of X (fb_48 _) (fe_48 _) (fg_48 _), fnOk_of X (fb_55 _) (fe_55 _) (fg_55 _), fnOk_of X (fb_87 _) (fe_87 _) (fg_87 _), fnOk_of X (fb_94 _) (fe_94 _) (fg_94 _), fnOk_of X (fb_101 _) (fe_101 _) (fg_101 _), fnOk_of X (fb_108 _) (fe_108 _) (fg_108 _), fnOk_of X (fb_115 _) (fe_115 _) (fg_115 _), fnOk_of X (fb_122 _) (fe_122 _) (fg_122 _), fnOk_of X (fb_129 _) (fe_129 _) (fg_129 _), fnOk_of X (fb_136 _) (fe_136 _) (fg_136 _), fnOk_of X (fb_150 _) (fe_150 _) (fg_150 _), fnOk_of X (fb_160 _) (fe_160 _) (fg_160 _), fnOk_of X (fb_243 _) (fe_243 _) (fg_243 _), fnOk_of X (fb_250 _) (fe_250 _) (fg_250 _), fnOk_of X (fb_257 _) (fe_257 _) (fg_257 _), fnOk_of X (fb_262 _) (fe_262 _) (fg_262 _), fnOk_of X (fb_269 _) (fe_269 _) (fg_269 _), fnOk_of X (fb_276 _) (fe_276 _) (fg_276 _), fnOk_of X (fb_283 _) (fe_283 _) (fg_283 _), fnOk_of X (fb_290 _) (fe_290 _) (fg_290 _), fnOk_of X (fb_297 _) (fe_297 _) (fg_297 _), fnOk_of X (fb_304 _) (fe_304 _) (fg_304 _), fnOk_of X (fb_319 _) (fe_319 _) (fg_319 _), fnOk_of X (fb_326 _) (fe_326 _) (fg_326 _), fnOk_of X (fb_361 _) (fe_361 _) (fg_361 _), fnOk_of X (fb_368 _) (fe_368 _) (fg_368 _), fnOk_of X (fb_375 _) (fe_375 _) (fg_375 _), fnOk_of X (fb_382 _) (fe_382 _) (fg_382 _), fun _ h => nomatch h⟩
  intro f fn h
  exact key (f, fn) (lkN_mem h)
end Mine
namespace Mine
set_option maxRecDepth 100000
open PySem PySem.W PySem.Calls PyProof.Rows
def law0s : Stmt := .Assign [.Name "script" ⟨329, 4, 329, 10⟩] (.Subscript (.Name "script" ⟨329, 13, 329, 19⟩) (.Slice none (some (.Constant (.int 11) 0 ⟨329, 21, 329, 23⟩)) none ⟨329, 20, 329, 23⟩) ⟨329, 13, 329, 24⟩) ⟨329, 4, 329, 24⟩
theorem law0s_eq : stAt lawBody 0 = law0s := by kernel_rfl
def lawR : List Stmt := lawBody.drop 1
theorem lawR_cut : lawBody = law0s :: lawR := by kernel_rfl
theorem exs_inv {f : Loc → Sto → Stmt → Option (Fl × Loc × Sto)} {t : Stmt} {q : List Stmt} {l l1 : Loc} {S S1 : Sto} {R : Option (Fl × Loc × Sto)} (h : exs f (t :: q) l S = R) (h1 : f l S t = some (.next, l1, S1)) : exs f q l1 S1 = R := by
  unfold exs at h
  rw [h1] at h
  exact h
theorem exs_eq {f : Loc → Sto → Stmt → Option (Fl × Loc × Sto)} {p q : List Stmt} (e : p = q) {l : Loc} {S : Sto} {R : Option (Fl × Loc × Sto)} (h : exs f p l S = R) : exs f q l S = R := e ▸ h
theorem law0s_ok (xs : List MV) (n : Nat) : rx TT (n + 60) lawSc (lB1 xs) [] law0s = some (.next, lB1 (xs.take 11), []) := by kernel_rfl
/-- the law from its second statement -/
theorem law_rest (xs0 : List Int) : ∃ l S, exs (rx TT 200 lawSc) lawR (lB1 ((xs0.map MV.int).take 11)) [] = some (.ret (.bool true), l, S) := by
  obtain ⟨l, S, h⟩ := law_plain xs0
  exact ⟨l, S, exs_inv (exs_eq (f := rx TT 200 lawSc) lawR_cut h) (law0s_ok (xs0.map .int) 140)⟩

section
variable {B : Bs} {A : Around} {W : Wd} {mu : List Addr} {env : Env} {s : Shared} {Q : Flow → Shared → Prop} {E : Value → Shared → Prop}
theorem law_walk (O : BOk B) (FO : FnsOk B) (hT : B.T = TT) (xs : List Int) (a : AOk 200 A W s.heap) (F : FrOk W lawSc (lB1 (xs.map .int)) mu env s.heap) (I : Inv B W [] s) (t : Top A env mu)
    (k : ∀ s', (∀ b o, B.h₀.get? b = some o → s'.heap.get? b = some o) → s'.gens = B.gens → s'.os = B.os → Q (.ret (.bool true)) s') :
    wpAny (Mo B) A (execs lawBody env) Q E s := by
  obtain ⟨l, S, hr⟩ := law_rest xs
  have hs : nameMV B.T lawSc (lB1 (xs.map .int)) "script" = some (.list (xs.map .int)) := by rw [hT]; kernel_rfl
  rw [lawR_cut]
  refine wpAny_execs_cons (wpAny_Assign_Name (PyProof.Rows.Subscript_ (wpAny_mono (name_leaf O F I hs) (fun v s1 hv => ?_) fun _ _ q => q)) (swaps_no rfl))
  obtain ⟨rfl, rv⟩ := hv
  refine wpAny_Slice (wpAny_pure (wpAny_Constant_int (k := 0) (pos := ⟨329, 21, 329, 23⟩) (wpAny_pure ?_)))
  have x2 : Ok B 200 A W lawSc (lB1 (xs.map .int)) mu env [] { s1 with toks := s1.toks + 1 } := ⟨a, F, I.tok _, Nat.le_add_left _ _⟩
  obtain ⟨st4, x4, nf, get, sees⟩ := push_ok (o := { cls := .type "slice", data := .fields #[.none, .int 11 s1.toks, .none] }) x2 rfl
  refine x4.fin (slice_leaf (ops := []) (lo := none) (hi := some 11) (m := .list ((xs.map MV.int).take 11)) x4.i (rv.sees sees) ⟨_, get, rfl, rfl⟩ rfl ⟨_, rfl⟩ rfl (fun o i => rfl)) fun v s5 W5 st5 x5 r5 => ?_
  show wpAny (Mo B) A (storeName env "script" v) (fun _ s' => wpAny (Mo B) A (execs lawR env) Q E s') E s5
  refine sto_end (x := "script") (Q := fun _ s' => wpAny (Mo B) A (execs lawR env) Q E s') x5 (by kernel_rfl) r5 fun f s6 W6 mu6 st6 x6 i6 e6 => ?_
  have T6 := t.next x5 (mu' := mu6) (fun a e => (i6 a e))
  have he : exs (fun l s t => (run B.T 200).ex lawSc l s t) lawR (put "script" (.list ((xs.map MV.int).take 11)) (lB1 (xs.map .int))) [] = some (.ret (.bool true), l, S) := by
    rw [hT]
    have : put "script" (.list ((xs.map MV.int).take 11)) (lB1 (xs.map .int)) = lB1 ((xs.map MV.int).take 11) := by kernel_rfl
    rw [this]
    exact hr
  refine exs_ok (sound O FO 200).2.2.2 he x6 T6 (fun f s7 W7 mu7 st7 x7 i7 e7 => ?_) (fun c e s' hc _ => nomatch hc)
  cases f <;> simp only [Ends] at e7
  simp only [Rd] at e7
  subst e7
  exact k s7 x7.i.heap.keep x7.i.gens x7.i.os
end
end Mine
namespace Mine
set_option maxRecDepth 100000
open PySem PySem.W PySem.Calls PyProof.Rows
theorem rd_ints {P : Params} {h : Heap} : ∀ {xs : List Int} {vs : List Value}, WellAll P h vs (ofPys (xs.map PyData.int)) → RdL W h (xs.map .int) vs
  | [], vs, w => by
    cases w
    simp only [List.map_nil, RdL]
  | x :: xs, vs, w => by
    simp only [List.map_cons, ofPys, ofPy] at w
    cases w with
    | cons w1 w2 =>
      cases w1
      simp only [List.map_cons, RdL, Rd]
      exact ⟨_, _, rfl, ⟨_, rfl⟩, rd_ints w2⟩
theorem rd_script {P : Params} {h : Heap} {W : Wd} {a : Addr} {xs : List Int} (w : Well P h (.ref a) (ofPy (.list (xs.map PyData.int)))) (hl : xs.length ≤ 1000000) (hn : a ∉ W.no) : Rd W h (.list (xs.map .int)) (.ref a) := by
  simp only [ofPy] at w
  cases w with
  | list h1 h2 =>
    simp only [Rd]
    exact ⟨a, _, 0, rfl, hn, h1, rd_ints h2, by rw [List.length_map]; exact hl⟩
theorem rd_above {h : Heap} {m : MV} : ∀ {W W' : Wd} {v : Value}, W.ob = W'.ob → (∀ a o, h.get? a = some o → a ∉ W'.no) → Rd W h m v → Rd W' h m v := fun {W W' v} hob hno r =>
  r.sees ⟨fun a o _ e => ⟨hno a o e, e⟩, fun k p e => by rw [← hob]; exact e⟩
/-- law's own frame -/
theorem law_enter {w : World} {s₁ : Shared} {mg mb : Str → Option Value} {loose : List Str} {mean : ExcName → Option Value} (X : (KK w.params).In s₁.heap) (T : PyProof.Rows.Top Mine.hd.view_39 loose mean mg mb s₁.heap)
    {nm : Str} {sc : Scope} {body : List Stmt} (hsc : sc = lawSc) (hbody : body = lawBody) {fa : Addr} {cd : Value} {a : Addr} {xs : List Int} (hw : Well w.params s₁.heap (.ref a) (ofPy (.list (xs.map PyData.int)))) (hl : xs.length ≤ 1000000)
    {h₁ : Heap} {m : Str → Option Value} {tk : Nat} (F : Fr s₁.heap s₁.heap.objs.size h₁ m) (hm : m "script" = some (.ref a)) {o : Obj} (N : News s₁.heap s₁.heap.objs.size h₁ [(s₁.heap.objs.size + 1, o)]) (ho : o.data = .cell none)
    {Q : Flow → Shared → Prop} {E : Value → Shared → Prop} (k : ∀ s' : Shared, (∀ b o, s₁.heap.get? b = some o → s'.heap.get? b = some o) → s'.gens = s₁.gens → s'.os = s₁.os → Q (.ret (.bool true)) s') :
    wpAny (model PySem.Challenge.rw_et0027_01.row.prog w) (callerA.deeper (envOfC nm sc s₁.heap.objs.size fa cd)) (execs body (envOfC nm sc s₁.heap.objs.size fa cd)) Q E { s₁ with heap := h₁, toks := tk } := by
  subst hsc hbody
  have hcells : (envOfC nm lawSc s₁.heap.objs.size fa cd).cells = ([("ident", s₁.heap.objs.size + 1)] : List (Str × Addr)) := by kernel_rfl
  have hLlt : s₁.heap.objs.size < h₁.objs.size := F.ns.lt
  have hC := N.get (.head _)
  have hClt : s₁.heap.objs.size + 1 < h₁.objs.size := Heap.lt_size hC
  obtain ⟨oL, es, ep, hoL, hdL, skL, ffL⟩ := F.ns
  have hsize : ∀ b o, s₁.heap.get? b = some o → b < s₁.heap.objs.size := fun b o e => Heap.lt_size e
  have hko : ∀ x, (envOfC nm lawSc s₁.heap.objs.size fa cd).kindOf x = lk x lawSc.names := fun x => by rw [lk_eq]; rfl
  have hkinds : ∀ x k, lk x lawSc.names = some k → k = .local ∨ k = .globalImplicit ∨ (k = .cell ∧ x = "ident") := by
    have all : (lawSc.names.all fun p => match p.2 with | .local => true | .globalImplicit => true | .cell => seq p.1 "ident" | _ => false) = true := by kernel_rfl
    intro x k e
    have := List.all_eq_true.mp all _ (lk_mem e)
    cases k <;> first | exact .inl rfl | exact .inr (.inl rfl) | exact .inr (.inr ⟨rfl, seq_iff.mp this⟩) | cases this
  have hcell : ∀ x, (envOfC nm lawSc s₁.heap.objs.size fa cd).kindOf x = some .cell → x = "ident" := fun x e => by
    rw [hko] at e
    rcases hkinds x _ e with q | q | ⟨_, q⟩
    · cases q
    · cases q
    · exact q
  have hlk : ∀ x v, lk x (lB1 (xs.map .int)) = some v → x = "script" ∧ v = .list (xs.map .int) := fun x v e => by
    have := lk_mem e
    cases List.mem_singleton.mp this
    exact ⟨rfl, rfl⟩
  have hkeep : ∀ b o, s₁.heap.get? b = some o → h₁.get? b = some o := F.keep
  have hnotin : ∀ b o, s₁.heap.get? b = some o → b ∉ [s₁.heap.objs.size, s₁.heap.objs.size + 1] := fun b o e hmem => by
    have := hsize b o e
    rcases List.mem_cons.mp hmem with q | q
    · rw [q] at this; exact absurd this (Nat.lt_irrefl _)
    · rw [List.mem_singleton.mp q] at this; exact absurd this (Nat.not_lt.mpr (Nat.le_succ _))
  have rv : Rd ⟨[s₁.heap.objs.size, s₁.heap.objs.size + 1], []⟩ h₁ (.list (xs.map .int)) (.ref a) := by
    have r0 : Rd W0 s₁.heap (.list (xs.map .int)) (.ref a) := rd_script hw hl (fun h => nomatch h)
    exact r0.sees ⟨fun b o _ e => ⟨hnotin b o e, hkeep b o e⟩, fun k p e => by simp [W0] at e⟩
  refine law_walk (B := BB w s₁.heap s₁.gens s₁.os mg mb) (bok X T) (fns_ok X) rfl xs (mu := [s₁.heap.objs.size, s₁.heap.objs.size + 1]) (W := ⟨[s₁.heap.objs.size, s₁.heap.objs.size + 1], []⟩) ?_ ?_ ?_ ?_ fun s' h1 h2 h3 => k s' h1 h2 h3
  · refine ⟨rfl, rfl, by show 1 + 300 + 1 + 2 * 200 ≤ 900; omega, by show 4 + 3 + 10 * 200 + 100 ≤ 9000; omega, [envOfC nm lawSc s₁.heap.objs.size fa cd], rfl, fun e he => ?_⟩
    rw [List.mem_singleton.mp he]
    exact ⟨by show lawSc.kind ≠ .module; rw [show lawSc.kind = .function by kernel_rfl]; decide, _, oL, rfl, .head _, by simp [Wd.ds], hoL, es, ep, hdL⟩
  · refine ⟨by show lawSc.kind = .function; kernel_rfl, rfl, rfl, fun x k e => ?_, ⟨m, F.ns, fun x v e _ => ?_⟩, fun x e => ?_, .head _, fun x y c e1 e2 _ _ => ?_, fun x ys e => ?_, fun b hb => ⟨hb, by simp [Wd.ds]⟩⟩
    · unfold KindOk
      rw [hko, e]
      rcases hkinds x k e with rfl | rfl | ⟨rfl, _⟩ <;> rfl
    · obtain ⟨rfl, rfl⟩ := hlk x v e
      exact ⟨.ref a, hm, RdF.of_rd rv⟩
    · have := hcell x e
      subst this
      refine ⟨s₁.heap.objs.size + 1, none, ?_, ⟨o, hC, ho⟩, .tail _ (.head _), fun v e => ?_⟩
      · rw [hcells]; rfl
      · obtain ⟨q, _⟩ := hlk _ v e
        exact absurd q (by decide)
    · rw [hcell x e1, hcell y e2]
    · obtain ⟨_, q⟩ := hlk x _ e
      cases q
  · refine ⟨⟨hkeep, Nat.le_of_lt hLlt, fun b hb => ?_, fun b hb => by simp [Wd.ds] at hb, List.nodup_nil, rfl, fun i p e => by simp at e⟩, rfl, rfl⟩
    rcases List.mem_cons.mp hb with rfl | hb
    · exact ⟨Nat.le_refl _, hLlt⟩
    · rw [List.mem_singleton.mp hb]; exact ⟨Nat.le_succ _, hClt⟩
  · exact ⟨⟨[], rfl, (fun e he => nomatch he), (fun _ _ => rfl)⟩, rfl⟩
end Mine
set_option maxRecDepth 100000
open PySem PySem.W PyProof.Rows
set_option maxHeartbeats 8000000 in
theorem PySem.Challenge.cw_et0027_01_holds : PySem.Challenge.rw_et0027_01.Holds := by
  apply Mine.hd
  k_fill
  intro w s₀ s₁ mg mb G Y fa o pm cd doc dV kV ho hd hcd hD hmg hg args vals as hpre hlay hrd hwl hlo
  have KX := kIn_of Y
  k_behind G ho hd hcd hD hmg hpre hlay hrd hwl hlo cd
  rename Well _ _ _ _ => w1
  rename PyProof.Rows.Top _ _ _ _ _ _ => T
  rename Fr _ _ _ _ => F
  rename News _ _ _ _ => N0
  rename Obj.data _ = Data.cell _ => hcell
  rename ¬ _ < _ => hlen
  refine Mine.law_enter KX T (by kernel_rfl) (by kernel_rfl) w1 (by omega) F (by kernel_rfl) N0 (hcell.trans (by kernel_rfl)) fun s' h1 h2 h3 => ?_
  refine ⟨.inl ⟨.bool true, .bool true, [], rfl, fun cls => ?_, .bool true, ?_, fun _ => ⟨.nil, fun _ h => nomatch h⟩⟩, h1, h3, h2.trans hg⟩
  · kernel_rfl
  · kernel_rfl
