import PyProof.Rows.All
import Wide.All
import OpenK.AllK
import Wide.FinOn
import KE.KSortTup
import KE.KDictSum
import PySem.Challenge.RW_fh0001_03
set_option Elab.async false
set_option linter.unusedVariables false
set_option linter.unusedSimpArgs false
set_option linter.unusedSectionVars false
set_option maxRecDepth 100000
open PySem PySem.W PyProof.Rows

/-! Core -/
/-! An interpreter of plain values (no heap) for the subset of Python that the laws use. -/
namespace Mine

abbrev D := PyData

inductive Out (α : Type) where
  | ok (a : α)
  | tie
  | bad

def Out.bind {α β : Type} (x : Out α) (f : α → Out β) : Out β :=
  match x with
  | .ok a => f a
  | .tie => .tie
  | .bad => .bad

theorem Out.bind_ok {α β : Type} {x : Out α} {f : α → Out β} {b : β} (h : x.bind f = .ok b) : ∃ a, x = .ok a ∧ f a = .ok b := by
  cases x with
  | ok a => exact ⟨a, rfl, h⟩
  | tie => cases h
  | bad => cases h

/-- a frame: for each name, whether this frame alone holds the list there, and the value -/
abbrev Rho := Str → Option (Bool × D)
def upd (ρ : Rho) (x : Str) (o : Bool) (v : D) : Rho := fun y => if y = x then some (o, v) else ρ y
/-- the names of xs are handed on: nobody stores into their lists from now on -/
def frz (ρ : Rho) : List Str → Rho
  | [] => ρ
  | xs => fun y => if xs.contains y then (ρ y).map (fun p => (false, p.2)) else ρ y

def lim : Nat := 1048576

def mulB (a b : Int) : Bool := !(decide (Builtin.Int.intBits a > shortFactorBits) && decide (Builtin.Int.intBits b > shortFactorBits) && Builtin.Int.intTooBig (Builtin.Int.intBits a + Builtin.Int.intBits b))
def powB (a n : Int) : Bool := decide (0 ≤ n) && decide ((Builtin.Int.intBits a : Int) * n ≤ 2 ^ 27)

def rep (n : Nat) (xs : List D) : List D := (List.replicate n xs).flatten

def binD : Operator → D → D → Out D
  | .Add, .int a, .int b => .ok (.int (a + b))
  | .Sub, .int a, .int b => .ok (.int (a - b))
  | .Mult, .int a, .int b => if mulB a b then .ok (.int (a * b)) else .bad
  | .FloorDiv, .int a, .int b => if b = 0 ∨ 2 ^ 9000 ≤ b.natAbs then .bad else .ok (.int (a.fdiv b))
  | .Mod, .int a, .int b => if b = 0 then .bad else .ok (.int (a.fmod b))
  | .Pow, .int a, .int n => if powB a n then .ok (.int (a ^ n.toNat)) else .bad
  | .Add, .list xs, .list ys => if xs.length + ys.length ≤ lim then .ok (.list (xs ++ ys)) else .bad
  | .Mult, .list xs, .int n => if 0 < xs.length ∧ xs.length * n.toNat ≤ lim ∧ n ≤ lim ∧ -1 ≤ n then .ok (.list (rep n.toNat xs)) else .bad
  | .Add, .tuple xs, .tuple ys => if xs.length + ys.length ≤ lim then .ok (.tuple (xs ++ ys)) else .bad
  | .Mult, .tuple xs, .int n => if 0 < xs.length ∧ xs.length * n.toNat ≤ lim ∧ n ≤ lim ∧ 1 ≤ n then .ok (.tuple (rep n.toNat xs)) else .bad
  | _, _, _ => .bad

/-- a dictionary of tuples of ints, all values 1 -/
def dictD (rows : List (List Int)) : D := .dict (rows.map fun r => (.tuple (r.map .int), .int 1))

def intsD : List D → Option (List Int)
  | [] => some []
  | .int i :: r => (intsD r).map (i :: ·)
  | _ => none

def tupI : D → Option (List Int)
  | .tuple ds => intsD ds
  | _ => none
def tupsI : List D → Option (List (List Int))
  | [] => some []
  | d :: r => (tupI d).bind fun t => (tupsI r).map (t :: ·)
/-- the keys of a dictionary of tuples of ints, all values 1 -/
def keysI : List (D × D) → Option (List (List Int))
  | [] => some []
  | (k, .int 1) :: r => (tupI k).bind fun t => (keysI r).map (t :: ·)
  | _ => none

def shp (d : D) : Bool := d.canLay0 && decide (d.depth ≤ 64)

def cmpD : CmpOp → D → D → Out Bool
  | .Eq, a, b => if shp a && shp b then .ok (PyData.eqv a b) else .bad
  | .NotEq, a, b => if shp a && shp b then .ok (!PyData.eqv a b) else .bad
  | .Lt, .int a, .int b => .ok (decide (a < b))
  | .LtE, .int a, .int b => .ok (decide (a ≤ b))
  | .Gt, .int a, .int b => .ok (decide (b < a))
  | .GtE, .int a, .int b => .ok (decide (b ≤ a))
  | .In, a, .list xs => if shp a && shp (.list xs) then .ok (xs.any fun y => PyData.eqv y a) else .bad
  | .In, a, .tuple xs => if shp a && shp (.tuple xs) then .ok (xs.any fun y => PyData.eqv y a) else .bad
  | .IsNot, .none, .none => .ok false
  | .In, .tuple xs, .dict kvs => (match intsD xs, keysI kvs with | some r, some rows => .ok (decide (r ∈ rows)) | _, _ => .bad)
  | _, _, _ => .bad

def trD : D → Out Bool
  | .none => .ok false
  | .bool b => .ok b
  | .int i => .ok (i != 0)
  | .list xs => if xs.length ≤ lim then .ok (!xs.isEmpty) else .bad
  | _ => .bad

def unD : UnaryOp → D → Out D
  | .USub, .int a => .ok (.int (-a))
  | .Not, d => (trD d).bind fun b => .ok (.bool !b)
  | _, _ => .bad

def insI (x : Int) : List Int → List Int
  | [] => [x]
  | y :: r => if x ≤ y then x :: y :: r else y :: insI x r
def sortI : List Int → List Int
  | [] => []
  | x :: r => insI x (sortI r)

def maxI : Int → List Int → Int
  | m, [] => m
  | m, x :: r => maxI (if m < x then x else m) r
def minI : Int → List Int → Int
  | m, [] => m
  | m, x :: r => minI (if x < m then x else m) r

/-- in the dictionary's order -/
def ltL : List Int → List Int → Bool
  | [], [] => false
  | [], _ :: _ => true
  | _ :: _, [] => false
  | x :: xs, y :: ys => if x = y then ltL xs ys else decide (x < y)
def insT (x : List Int) : List (List Int) → List (List Int)
  | [] => [x]
  | y :: r => if ltL y x then y :: insT x r else x :: y :: r
def sortT : List (List Int) → List (List Int)
  | [] => []
  | x :: r => insT x (sortT r)
def sortD (xs : List D) : Out D :=
  match tupsI xs with
  | some ts => if 2 ≤ ts.length ∧ ts.length < 64 ∧ ts.all (fun t => !t.isEmpty) = true then .ok (.list ((sortT ts).map fun t => .tuple (t.map .int))) else .bad
  | none => .bad

def listI : D → Option (List Int)
  | .list ds => intsD ds
  | _ => none
def listsI : List D → Option (List (List Int))
  | [] => some []
  | d :: r => (listI d).bind fun t => (listsI r).map (t :: ·)
/-- lists of ints, sorted -/
def sortLD (xs : List D) : Out D :=
  match listsI xs with
  | some ts => if ts.length < 64 then .ok (.list ((sortT ts).map fun t => .list (t.map .int))) else .bad
  | none => sortD xs

/-- the front of a list -/
def takeD (d k : D) : Out D :=
  match d, k with
  | .list xs, .int k => if 0 ≤ k ∧ k ≤ 1048576 ∧ xs.length ≤ lim then .ok (.list (xs.take k.toNat)) else .bad
  | .tuple xs, .int k => if 0 ≤ k ∧ k < xs.length ∧ xs.length ≤ lim then .ok (.tuple (xs.take k.toNat)) else .bad
  | _, _ => .bad
/-- the end of a tuple -/
def dropD (d k : D) : Out D :=
  match d, k with
  | .tuple xs, .int k => if 1 ≤ k ∧ k ≤ xs.length ∧ xs.length ≤ lim then .ok (.tuple (xs.drop k.toNat)) else .bad
  | _, _ => .bad

/-- built-in functions of one argument -/
def fnD (id : String) (d : D) : Out D :=
  match id, d with
  | "len", .list xs => if xs.length ≤ lim then .ok (.int xs.length) else .bad
  | "len", .tuple xs => if xs.length ≤ lim then .ok (.int xs.length) else .bad
  | "sum", .list xs => (match intsD xs with | some ns => .ok (.int ns.sum) | none => .bad)
  | "abs", .int a => .ok (.int (if a < 0 then -a else a))
  | "max", .list xs => (match intsD xs with | some (n :: ns) => .ok (.int (maxI n ns)) | _ => .bad)
  | "min", .list xs => (match intsD xs with | some (n :: ns) => .ok (.int (minI n ns)) | _ => .bad)
  | "sorted", .list xs => (match intsD xs with | some ns => if ns.length < 64 then .ok (.list ((sortI ns).map .int)) else .bad | none => sortLD xs)
  | _, _ => .bad
/-- the sorted with reverse=True -/
def revD (id : String) (d : D) : Out D :=
  match id, d with
  | "sorted", .list xs => (match intsD xs with | some ns => if ns.length < 64 then .ok (.list ((sortI ns).reverse.map .int)) else .bad | none => .bad)
  | "sorted", .dict kvs => (match keysI kvs with | some ts => if ts.length < 64 ∧ ts.all (fun t => !t.isEmpty) = true then .ok (.list ((sortT ts).reverse.map fun t => .tuple (t.map .int))) else .bad | none => .bad)
  | _, _ => .bad
/-- a built-in type, called with one argument -/
def tyD (T : String) (d : D) : Out D :=
  match T, d with
  | "int", .int a => .ok (.int a)
  | "list", .list xs => if xs.length ≤ lim then .ok (.list xs) else .bad
  | "list", .tuple xs => if xs.length ≤ lim then .ok (.list xs) else .bad
  | "tuple", .list xs => if xs.length ≤ lim then .ok (.tuple xs) else .bad
  | _, _ => .bad

def isD (T : String) (d : D) : Out Bool :=
  match T, d with
  | "list", .list _ => .ok true
  | "int", .int _ => .ok true
  | "bool", .int _ => .ok false
  | _, _ => .bad

def idxD (d : D) (k : Int) : Out D :=
  match d with
  | .list xs => if xs.length ≤ lim then (match seqIndex? k xs.length with | some j => (match xs[j]? with | some v => .ok v | none => .bad) | none => .bad) else .bad
  | .tuple xs => if xs.length ≤ lim then (match seqIndex? k xs.length with | some j => (match xs[j]? with | some v => .ok v | none => .bad) | none => .bad) else .bad
  | _ => .bad

def rangeL (a : Int) (c : Int) (n : Nat) : List D := (List.range n).map fun (i : Nat) => .int (a + i * c)
/-- range(..) as a source of a loop -/
def inLim (a : Int) : Bool := decide (-1048576 ≤ a) && decide (a ≤ 1048576)
def rngD : List D → Out (List D)
  | [.int b] => if inLim b then .ok (rangeL 0 1 b.toNat) else .bad
  | [.int a, .int b] => if inLim a && inLim b then .ok (rangeL a 1 (b - a).toNat) else .bad
  | [.int a, .int b, .int c] => if inLim a && inLim b && c == -1 then .ok (rangeL a (-1) (a - b).toNat) else .bad
  | _ => .bad
def srcD : D → Out (List D)
  | .list xs => if xs.length ≤ lim then .ok xs else .bad
  | .tuple xs => if xs.length ≤ lim then .ok xs else .bad
  | .dict kvs => (match keysI kvs with | some ts => if ts.length ≤ lim then .ok (ts.map fun t => .tuple (t.map .int)) else .bad | none => .bad)
  | _ => .bad

def constD : Const → Out D
  | .none => .ok .none
  | .bool b => .ok (.bool b)
  | .int i => .ok (.int i)
  | .str s => .ok (.str s)
  | _ => .bad

/-- a value of the top's, out of the written part -/
def topD (K : Frag) : Nat → Value → Option D
  | _, .none => some .none
  | _, .bool b => some (.bool b)
  | _, .int i _ => some (.int i)
  | _, .str s _ => some (.str s)
  | n + 1, .ref a => (match K.lookup a with
    | some ⟨.type "tuple", _, .seq xs _, _⟩ => ((xs.toList.map (topD K n)).foldr (fun o r => o.bind fun x => r.map (x :: ·)) (some [])).map .tuple
    | _ => none)
  | _, _ => none

/-- a function of the top's -/
def fdOf (K : Frag) (f : Str) : Option FuncData :=
  match nsIn K mainGlobals f with
  | some (some (.ref a)) => (match K.lookup a with
    | some ⟨_, _, .func fd, _⟩ => some fd
    | _ => none)
  | _ => none

def isVar : Option NameKind → Bool
  | some .local | some .cell | some .free => true
  | _ => false

structure In where
  ev : Scope → Rho → Bool → Expr → Out D
  tst : Scope → Rho → Expr → Out Bool
  ex : Scope → Rho → Stmt → Out (Rho × Option D)
  call : Str → List D → Out D

def evs (f : Expr → Out D) : List Expr → Out (List D)
  | [] => .ok []
  | .Starred .. :: _ => .bad
  | e :: r => (f e).bind fun v => (evs f r).bind fun vs => .ok (v :: vs)

def exsL (f : Rho → Stmt → Out (Rho × Option D)) : List Stmt → Rho → Out (Rho × Option D)
  | [], ρ => .ok (ρ, none)
  | s :: r, ρ => (f ρ s).bind fun p => match p.2 with | none => exsL f r p.1 | some d => .ok (p.1, some d)

def forL (f : D → Rho → Out (Rho × Option D)) : List D → Rho → Out (Rho × Option D)
  | [], ρ => .ok (ρ, none)
  | v :: r, ρ => (f v ρ).bind fun p => match p.2 with | none => forL f r p.1 | some d => .ok (p.1, some d)

def whileL (t : Rho → Out Bool) (f : Rho → Out (Rho × Option D)) : Nat → Rho → Out (Rho × Option D)
  | 0, _ => .bad
  | n + 1, ρ => (t ρ).bind fun b => if b then (f ρ).bind fun p => (match p.2 with | none => whileL t f n p.1 | some d => .ok (p.1, some d)) else .ok (ρ, none)

def mapL {α β : Type} (f : α → Out β) : List α → Out (List β)
  | [] => .ok []
  | a :: r => (f a).bind fun b => (mapL f r).bind fun bs => .ok (b :: bs)

def filtL {α β : Type} (t : α → Out Bool) (f : α → Out β) : List α → Out (List β)
  | [] => .ok []
  | a :: r => (t a).bind fun c => if c then (f a).bind fun b => (filtL t f r).bind fun bs => .ok (b :: bs) else filtL t f r

def catL {α β : Type} (f : α → Out (List β)) : List α → Out (List β)
  | [] => .ok []
  | a :: r => (f a).bind fun b => (catL f r).bind fun bs => .ok (b ++ bs)

def tests (f : Expr → Out Bool) : List Expr → Out Bool
  | [] => .ok true
  | e :: r => (f e).bind fun b => if b then tests f r else .ok false

def notSet : Expr → Bool
  | .Set .. => false
  | _ => true
def notSlice : Expr → Bool
  | .Slice .. => false
  | _ => true

/-- the clauses of and | or as a value -/
def boolL (f : Expr → Out D) (op : BoolOp) : List Expr → Out D
  | [] => .bad
  | [e] => f e
  | e :: r => (f e).bind fun v => (trD v).bind fun t => match op, t with
    | .And, false | .Or, true => .ok v
    | _, _ => boolL f op r
/-- .. as a test -/
def boolT (f : Expr → Out Bool) (op : BoolOp) : List Expr → Out Bool
  | [] => .ok (op == .And)
  | e :: r => (f e).bind fun t => match op, t with
    | .And, false => .ok false
    | .Or, true => .ok true
    | _, _ => boolT f op r

def nameD (K : Frag) (sc : Scope) (ρ : Rho) (wk : Bool) (x : Str) : Out D :=
  if x == ("__debug__" : Str) || x == ("__classdict__" : Str) then .bad else
  if isVar (sc.names.lookup x) then
    match ρ x with
    | some (o, d) => if o && !wk then .bad else .ok d
    | none => .bad
  else if sc.names.lookup x == some .globalImplicit then
    match nsIn K mainGlobals x with
    | some (some v) => (match topD K 4 v with | some d => .ok d | none => .bad)
    | _ => .bad
  else .bad

/-- what a global name of a called thing stands for -/
inductive Callee where
  | fn | built (id : String) | ty (T : String)
def calleeD (K : Frag) (sc : Scope) (f : Str) : Option Callee :=
  if f == ("__debug__" : Str) || f == ("__name__" : Str) then none else
  if sc.names.lookup f == some .globalImplicit then
    match nsIn K mainGlobals f with
    | some (some (.ref _)) => some .fn
    | some none => (match bootBuiltins f with
      | some (.builtin id) => some (.built id)
      | some (.type T) => some (.ty T)
      | _ => none)
    | _ => none
  else none

def callD (K : Frag) (i : In) (sc : Scope) (ρ : Rho) (f : Str) (args : List Expr) (kws : List Keyword) : Out D :=
  match calleeD K sc f with
  | some .fn => (match kws with
    | [] => if args.isEmpty || (fdOf K f).isNone then .bad else (evs (i.ev sc ρ false) args).bind (i.call f)
    | _ => .bad)
  | some (.built id) => (match args, kws with
    | [.Starred ..], _ => .bad
    | [e], [] => (i.ev sc ρ true e).bind (fnD id)
    | [e], [⟨some k, .Constant (.bool true) _ _, _⟩] => if k == ("reverse" : Str) then (i.ev sc ρ true e).bind (revD id) else .bad
    | [.Starred .., _], _ => .bad
    | [e, .Name T _], [] => if id == "isinstance" then (match calleeD K sc T with
      | some (.ty T) => (i.ev sc ρ true e).bind fun d => (isD T d).bind fun b => .ok (.bool b)
      | _ => .bad) else .bad
    | _, _ => .bad)
  | some (.ty T) => (match args, kws with
    | [.Starred ..], _ => .bad
    | [e], [] => (i.ev sc ρ true e).bind (tyD T)
    | _, _ => .bad)
  | none => .bad

/-- the items of a loop's source -/
def srcE (K : Frag) (i : In) (sc : Scope) (ρ : Rho) (wk : Bool) : Expr → Out (List D)
  | .Call (.Name f p) args [] q => (match calleeD K sc f with
    | some (.ty T) => if T == "range" && !args.isEmpty then (evs (i.ev sc ρ true) args).bind rngD else .bad
    | _ => (i.ev sc ρ wk (.Call (.Name f p) args [] q)).bind srcD)
  | .Set .. => .bad
  | e => (i.ev sc ρ wk e).bind srcD

def freeOk (sc csc : Scope) : Bool := csc.names.all fun p => p.2 != .free || sc.names.lookup p.1 == some .cell || sc.names.lookup p.1 == some .free
def namesOk (csc : Scope) : Bool := csc.kind == .function && csc.names.all fun p => csc.names.lookup p.1 == some p.2
/-- the frame that a comprehension sees -/
def compRho (csc : Scope) (ρ : Rho) : Rho := fun y => match csc.names.lookup y with | some .free => ρ y | _ => none

def localOrCell (csc : Scope) (x : Str) : Bool := csc.names.lookup x == some .local || csc.names.lookup x == some .cell

def compE (K : Frag) (i : In) (sc : Scope) (ρ : Rho) (elt : Expr) (gens : List Comprehension) (csc : Scope) : Out (List D) :=
  if freeOk sc csc && namesOk csc then
    match gens with
    | [⟨.Name x _, it, ifs, 0⟩] => if localOrCell csc x then
        (srcE K i sc ρ true it).bind fun vs =>
          filtL (fun v => tests (i.tst csc (upd (compRho csc ρ) x false v)) ifs) (fun v => i.ev csc (upd (compRho csc ρ) x false v) false elt) vs
      else .bad
    | [⟨.Name x _, it, [], 0⟩, ⟨.Name y _, .Name z pz, [], 0⟩] => if csc.names.lookup x == some .local && csc.names.lookup y == some .local && x != y then
        (srcE K i sc ρ true it).bind fun vs =>
          (catL (fun v => (srcE K i csc (upd (compRho csc ρ) x false v) false (.Name z pz)).bind fun us => mapL (fun u => i.ev csc (upd (upd (compRho csc ρ) x false v) y false u) false elt) us) vs).bind fun ds =>
            if ds.length ≤ lim then .ok ds else .bad
      else .bad
    | _ => .bad
  else .bad

def evN (K : Frag) (i : In) (sc : Scope) (ρ : Rho) (wk : Bool) : Expr → Out D
  | .Constant c _ _ => constD c
  | .Name x _ => nameD K sc ρ wk x
  | .BinOp l op r _ => (i.ev sc ρ true l).bind fun a => (i.ev sc ρ true r).bind fun b => binD op a b
  | .UnaryOp op x _ => (i.ev sc ρ true x).bind (unD op)
  | .BoolOp op vs _ => boolL (i.ev sc ρ false) op vs
  | .Compare l [op] [r] _ => if notSet r then (i.ev sc ρ true l).bind fun a => (i.ev sc ρ true r).bind fun b => (cmpD op a b).bind fun c => .ok (.bool c) else .bad
  | .IfExp t b o _ => (i.tst sc ρ t).bind fun c => if c then i.ev sc ρ false b else i.ev sc ρ false o
  | .List es _ => (evs (i.ev sc ρ false) es).bind fun vs => if vs.length ≤ lim then .ok (.list vs) else .bad
  | .Tuple es _ _ => (evs (i.ev sc ρ false) es).bind fun vs => if vs.length ≤ lim then .ok (.tuple vs) else .bad
  | .Subscript v s _ => if notSlice s then (i.ev sc ρ true v).bind fun o => (i.ev sc ρ true s).bind fun k => (match k with | .int k => idxD o k | _ => .bad) else
      (match v, s with
      | .Name x p, .Slice none (some e) none _ => (i.ev sc ρ true (.Name x p)).bind fun o => (i.ev sc ρ true e).bind fun k => takeD o k
      | .Name x p, .Slice (some e) none none _ => (i.ev sc ρ true (.Name x p)).bind fun o => (i.ev sc ρ true e).bind fun k => dropD o k
      | _, _ => .bad)
  | .Call (.Name f _) args kws _ => callD K i sc ρ f args kws
  | .ListComp elt gens csc _ => (compE K i sc ρ elt gens csc).bind fun vs => .ok (.list vs)
  | _ => .bad

def tstN (_ : Frag) (i : In) (sc : Scope) (ρ : Rho) : Expr → Out Bool
  | .UnaryOp .Not x _ => (i.tst sc ρ x).bind fun b => .ok (!b)
  | .BoolOp op vs _ => boolT (i.tst sc ρ) op vs
  | .IfExp .. => .bad
  | .Compare l [op] [r] _ => if notSet r then (i.ev sc ρ true l).bind fun a => (i.ev sc ρ true r).bind fun b => cmpD op a b else .bad
  | .Compare .. => .bad
  | e => (i.ev sc ρ true e).bind trD

/-- a display or a comprehension: its list is new and nobody else's -/
def freshE : Expr → Bool
  | .List .. | .ListComp .. => true
  | .BinOp (.List ..) .Mult _ _ => true
  | _ => false

/-- the names that an expression hands on (wk: the place itself hands nothing on) -/
def al (K : Frag) : Nat → Bool → Expr → List Str
  | n + 1, wk, e => (match e with
    | .Name x _ => if wk then [] else [x]
    | .BinOp l _ r _ => al K n true l ++ al K n true r
    | .UnaryOp _ x _ => al K n true x
    | .BoolOp _ vs _ => vs.flatMap (al K n false)
    | .Compare l _ rs _ => al K n true l ++ rs.flatMap (al K n true)
    | .IfExp t b o _ => al K n true t ++ al K n false b ++ al K n false o
    | .List es _ => es.flatMap (al K n false)
    | .Tuple es _ _ => es.flatMap (al K n false)
    | .Subscript v s _ => al K n true v ++ al K n true s
    | .Call (.Name f _) args _ _ => args.flatMap (al K n (fdOf K f).isNone)
    | .ListComp elt gens _ _ => al K n false elt ++ gens.flatMap fun g => al K n true g.iter ++ g.ifs.flatMap (al K n true)
    | _ => [])
  | 0, _, _ => []

def alE (K : Frag) (e : Expr) : List Str := al K 30 (freshE e) e

def notStar : Expr → Bool
  | .Starred .. => false
  | _ => true

def nmOk (x : Str) : Bool := !(x == ("__debug__" : Str) || x == ("__classdict__" : Str))
def notComp : Expr → Bool
  | .ListComp .. | .SetComp .. | .DictComp .. => false
  | _ => true

def augI : Operator → Int → Int → Out D
  | .Add, a, b => .ok (.int (a + b))
  | .Sub, a, b => .ok (.int (a - b))
  | _, _, _ => .bad

def ownL (ρ : Rho) (x : Str) : Out (List D) :=
  match ρ x with
  | some (true, .list xs) => if xs.length < lim then .ok xs else .bad
  | _ => .bad
/-- an own dictionary -/
def ownT (ρ : Rho) (x : Str) : Out (List (List Int)) :=
  match ρ x with
  | some (true, .dict kvs) => (match keysI kvs with | some ts => if ts.length < lim then .ok ts else .bad | none => .bad)
  | _ => .bad
def isDictAt (ρ : Rho) (x : Str) : Bool :=
  match ρ x with
  | some (_, .dict _) => true
  | _ => false
def rowI (d : D) : Out (List Int) :=
  match tupI d with
  | some r => .ok r
  | none => .bad
def oneI : D → Out Unit
  | .int 1 => .ok ()
  | _ => .bad
/-- a key is laid -/
def putT (r : List Int) (rows : List (List Int)) : List (List Int) := if r ∈ rows then rows else rows ++ [r]
def isDictE : Expr → Bool
  | .Dict .. => true
  | _ => false
def intD : D → Out Int
  | .int k => .ok k
  | _ => .bad
def posL (k : Int) (n : Nat) : Out Nat :=
  match seqIndex? k n with
  | some j => .ok j
  | none => .bad

/-- a loop over an own list that hands nothing on: its body is one store -/
def foldI (f : Rho → Out D) (t y : Str) : List D → Rho → Out Rho
  | [], ρ => .ok ρ
  | d :: r, ρ => (f (upd ρ t false d)).bind fun c => foldI f t y r (upd (upd ρ t false d) y false c)

def exN (K : Frag) (i : In) (sc : Scope) (ρ : Rho) : Stmt → Out (Rho × Option D)
  | .Pass _ => .ok (ρ, none)
  | .Assign [.Name x _] (.Dict [] [] _) _ => if localOrCell sc x then .ok (upd ρ x true (dictD []), none) else .bad
  | .Assign [.Name x _] (.Dict [some k] [v] _) _ => if localOrCell sc x && notComp k && notComp v then
      (i.ev sc ρ false k).bind fun d => (i.ev sc ρ false v).bind fun c => (rowI d).bind fun r => (oneI c).bind fun _ => .ok (upd ρ x true (dictD [r]), none)
    else .bad
  | .Assign [.Name x _] e _ => if localOrCell sc x && (freshE e || notComp e) then
      (i.ev sc (frz ρ (alE K e)) (freshE e) e).bind fun d => .ok (upd (frz ρ (alE K e)) x (freshE e) d, none)
    else .bad
  | .Assign [.Subscript (.Name x _) ix _] e _ => if notSlice ix && localOrCell sc x && nmOk x && notComp e then
      if isDictAt ρ x then
        (i.ev sc ρ false e).bind fun d => (oneI d).bind fun _ => (i.ev sc ρ false ix).bind fun k => (rowI k).bind fun r => (ownT ρ x).bind fun rows => .ok (upd ρ x true (dictD (putT r rows)), none)
      else
      (i.ev sc (frz ρ (al K 30 false e)) false e).bind fun d => (i.ev sc (frz ρ (al K 30 false e)) true ix).bind fun k => (intD k).bind fun k =>
        (ownL (frz ρ (al K 30 false e)) x).bind fun xs => (posL k xs.length).bind fun j => .ok (upd (frz ρ (al K 30 false e)) x true (.list (xs.set j d)), none)
    else .bad
  | .Assign [.Tuple [.Name x px, .Name y py] _ _] (.Tuple [.Name z pz, e] tk tp) _ => if sc.names.lookup x == some .local && sc.names.lookup y == some .local && x != y && px.line == py.line && notStar e && nmOk z then
      (i.ev sc (frz ρ (al K 30 false (.Tuple [.Name z pz, e] tk tp))) false (.Tuple [.Name z pz, e] tk tp)).bind fun d => (match d with
        | .tuple [d1, d2] => .ok (upd (upd (frz ρ (al K 30 false (.Tuple [.Name z pz, e] tk tp))) y false d2) x false d1, none)
        | _ => .bad)
    else .bad
  | .AugAssign (.Name x _) op e _ => if localOrCell sc x then
      match ρ x with
      | some (false, .int a) => (i.ev sc ρ true e).bind fun d => (intD d).bind fun b => (augI op a b).bind fun c => .ok (upd ρ x false c, none)
      | _ => .bad
    else .bad
  | .AugAssign (.Subscript (.Name x _) ix _) op e _ => if notSlice ix && localOrCell sc x && nmOk x then
      (i.ev sc ρ true ix).bind fun k => (intD k).bind fun k => (ownL ρ x).bind fun xs => (idxD (.list xs) k).bind fun old => (intD old).bind fun a =>
        (i.ev sc ρ true e).bind fun d => (intD d).bind fun b => (augI op a b).bind fun c => (posL k xs.length).bind fun j => .ok (upd ρ x true (.list (xs.set j c)), none)
    else .bad
  | .Expr (.Call (.Attribute (.Name x _) nm ap) [e] [] cp) _ => if nm == ("append" : Str) && localOrCell sc x && nmOk x && notStar e && ap.endLine == cp.line then
      (ownL ρ x).bind fun _ => (i.ev sc (frz ρ (al K 30 false e)) false e).bind fun d => (ownL (frz ρ (al K 30 false e)) x).bind fun xs =>
          .ok (upd (frz ρ (al K 30 false e)) x true (.list (xs ++ [d])), none)
    else .bad
  | .If t b o _ => (i.tst sc ρ t).bind fun c => if c then exsL (i.ex sc) b ρ else exsL (i.ex sc) o ρ
  | .For (.Name t _) it b [] _ => if localOrCell sc t then
      match it, b with
      | .Name z _, [.Assign [.Name y _] e _] => if z != t && z != y && localOrCell sc y && localOrCell sc z && nmOk z && notComp e then
          (ownL ρ z).bind fun xs => (foldI (fun ρ => i.ev sc ρ false e) t y xs ρ).bind fun ρ' => .ok (ρ', none)
        else .bad
      | _, _ => (srcE K i sc (frz ρ (al K 30 false it)) false it).bind fun vs => forL (fun v ρ => exsL (i.ex sc) b (upd ρ t false v)) vs (frz ρ (al K 30 false it))
    else .bad
  | .While t b [] _ => whileL (fun ρ => i.tst sc ρ t) (fun ρ => exsL (i.ex sc) b ρ) 200 ρ
  | .Return (some e) _ => (i.ev sc (frz ρ (al K 30 false e)) false e).bind fun d => .ok (frz ρ (al K 30 false e), some d)
  | _ => .bad

/-- the values of a def's parameters -/
def bindP {α : Type} (names : List Str) (vals dflts : List α) : Option (List (Str × α)) :=
  if vals.length ≤ names.length ∧ dflts.length ≤ names.length ∧ names.length ≤ vals.length + dflts.length then
    some (names.zip (vals ++ dflts.drop (vals.length + dflts.length - names.length)))
  else none

def dfltsD (K : Frag) (fd : FuncData) : Option (List D) :=
  match fd.defaults with
  | .none => some []
  | v => (match topD K 1 v with | some (.tuple ds) => some ds | _ => none)

def nodupS : List Str → Bool
  | [] => true
  | x :: r => !r.contains x && nodupS r

def fdOk (K : Frag) (fd : FuncData) : Bool :=
  codeIn K fd.code fd.qualname && fd.closure.isEmpty && fd.globals == mainGlobals && fd.builtins == builtinsNs &&
  fd.params.posonlyargs.isEmpty && fd.params.vararg.isNone && fd.params.kwonlyargs.isEmpty && fd.params.kwarg.isNone &&
  nodupS (fd.params.args.map (·.arg)) && (fd.params.args.all fun a => localOrCell fd.scope a.arg) &&
  fd.scope.kind == .function && !fd.scope.isGenerator && !fd.scope.isCoroutine && fd.scope.names.all fun p => fd.scope.names.lookup p.1 == some p.2 && p.2 != .free

def rhoOf (binds : List (Str × D)) : Rho := fun y => (binds.lookup y).map fun d => (false, d)

def callN (K : Frag) (i : In) (f : Str) (args : List D) : Out D :=
  match fdOf K f with
  | some fd => if fdOk K fd then
      (match fd.body, dfltsD K fd with
      | .stmts b, some ds => (match bindP (fd.params.args.map (·.arg)) args ds with
        | some binds => (exsL (i.ex fd.scope) b (rhoOf binds)).bind fun p => .ok (p.2.getD .none)
        | none => .bad)
      | _, _ => .bad)
    else .bad
  | none => .bad

def nxt (K : Frag) (i : In) : In where
  ev := evN K i
  tst := tstN K i
  ex := exN K i
  call := callN K i

def It (K : Frag) : Nat → In
  | 0 => ⟨fun _ _ _ _ => .bad, fun _ _ _ => .bad, fun _ _ _ => .bad, fun _ _ => .bad⟩
  | n + 1 => nxt K (It K n)

end Mine

/-! Rel -/
namespace Mine

abbrev Fz := Addr → Option Obj
/-- how a tuple of ints hashes -/
def hashT (r : List Int) : Int := reduceHash (Builtin.Tuple.tupleHashOf (r.map hashInt))
abbrev tupD (r : List Int) : D := .tuple (r.map .int)

mutual
/-- v is the plain value d; its lists and tuples stand in F, never to be changed -/
inductive VR (F : Fz) : Value → D → Prop
  | none : VR F .none .none
  | bool (b) : VR F (.bool b) (.bool b)
  | int (i t) : VR F (.int i t) (.int i)
  | str (x t) : VR F (.str x t) (.str x)
  | list {a o items n xs} : F a = some o → o.cls = .type "list" → o.data = .seq items n → VRs F items.toList xs → VR F (.ref a) (.list xs)
  | tuple {a o items n xs} : F a = some o → o.cls = .type "tuple" → o.data = .seq items n → VRs F items.toList xs → VR F (.ref a) (.tuple xs)
  | dict {a : Addr} {o : Obj} {es : Array DictEntry} {n : Nat} {rows : List (List Int)} {kvs : List (D × D)} : F a = some o → o.ExactDict → o.data = .dict es n → VRs F (es.toList.map (·.key)) (rows.map tupD) → VRs F (es.toList.map (·.val)) (rows.map fun _ => .int 1) →
      es.toList.map (·.hash) = rows.map hashT → rows.Nodup → (a == sysModules) = false → kvs = rows.map (fun r => (tupD r, .int 1)) → VR F (.ref a) (.dict kvs)
inductive VRs (F : Fz) : List Value → List D → Prop
  | nil : VRs F [] []
  | cons {v d vs ds} : VR F v d → VRs F vs ds → VRs F (v :: vs) (d :: ds)
end

mutual
theorem VR.mono {F F' : Fz} (h : ∀ a o, F a = some o → F' a = some o) : ∀ {v d}, VR F v d → VR F' v d
  | _, _, .none => .none
  | _, _, .bool b => .bool b
  | _, _, .int i t => .int i t
  | _, _, .str x t => .str x t
  | _, _, .list ha c d r => .list (h _ _ ha) c d (VRs.mono h r)
  | _, _, .tuple ha c d r => .tuple (h _ _ ha) c d (VRs.mono h r)
  | _, _, .dict ha c d r v e n l q => .dict (h _ _ ha) c d (VRs.mono h r) (VRs.mono h v) e n l q
theorem VRs.mono {F F' : Fz} (h : ∀ a o, F a = some o → F' a = some o) : ∀ {vs ds}, VRs F vs ds → VRs F' vs ds
  | _, _, .nil => .nil
  | _, _, .cons x r => .cons (VR.mono h x) (VRs.mono h r)
end

mutual
theorem VR.reads {F : Fz} {hp : Heap} (h : ∀ a o, F a = some o → hp.get? a = some o) : ∀ {v d}, VR F v d → ∃ as, Reads hp v d as
  | _, _, .none => ⟨_, .none⟩
  | _, _, .bool b => ⟨_, .bool b⟩
  | _, _, .int i t => ⟨_, .int i t⟩
  | _, _, .str x t => ⟨_, .str x t⟩
  | _, _, .list ha c d r => let ⟨_, q⟩ := VRs.reads h r; ⟨_, .list (h _ _ ha) c d q⟩
  | _, _, .tuple ha c d r => let ⟨_, q⟩ := VRs.reads h r; ⟨_, .tuple (h _ _ ha) c d q⟩
  | _, _, .dict (rows := rows) ha c d r v e n l q => by
    obtain ⟨as, q1⟩ := VRs.reads h r
    obtain ⟨bs, q2⟩ := VRs.reads h v
    subst q
    exact ⟨_, .dict (h _ _ ha) c.1 d (as := as) (bs := bs) (by rw [List.map_map]; exact q1) (by rw [List.map_map]; exact q2)⟩
theorem VRs.reads {F : Fz} {hp : Heap} (h : ∀ a o, F a = some o → hp.get? a = some o) : ∀ {vs ds}, VRs F vs ds → ∃ as, ReadsAll hp vs ds as
  | _, _, .nil => ⟨_, .nil⟩
  | _, _, .cons x r => let ⟨_, p⟩ := VR.reads h x; let ⟨_, q⟩ := VRs.reads h r; ⟨_, .cons p q⟩
end

theorem VRs.length {F : Fz} : ∀ {vs ds}, VRs F vs ds → vs.length = ds.length
  | _, _, .nil => rfl
  | _, _, .cons _ r => by rw [List.length_cons, List.length_cons, VRs.length r]
theorem VRs.append {F : Fz} : ∀ {vs ds ws es}, VRs F vs ds → VRs F ws es → VRs F (vs ++ ws) (ds ++ es)
  | _, _, _, _, .nil, k => k
  | _, _, _, _, .cons x r, k => .cons x (VRs.append r k)
theorem VRs.one {F : Fz} {v d} (h : VR F v d) : VRs F [v] [d] := .cons h .nil
theorem VRs.get {F : Fz} : ∀ {vs : List Value} {ds : List D}, VRs F vs ds → ∀ {j : Nat} {d : D}, ds[j]? = some d → ∃ v, vs[j]? = some v ∧ VR F v d
  | _, _, .nil, _, _, h => by simp at h
  | _, _, .cons x r, 0, _, h => by simp at h; subst h; exact ⟨_, by simp, x⟩
  | _, _, .cons x r, j + 1, _, h => by
    obtain ⟨v, h1, h2⟩ := VRs.get r (j := j) (by simpa using h)
    exact ⟨v, by simpa using h1, h2⟩
theorem VRs.set {F : Fz} : ∀ {vs : List Value} {ds : List D}, VRs F vs ds → ∀ {j : Nat} {v : Value} {d : D}, VR F v d → VRs F (vs.set j v) (ds.set j d)
  | _, _, .nil, _, _, _, _ => .nil
  | _, _, .cons x r, 0, _, _, h => .cons h r
  | _, _, .cons x r, j + 1, _, _, h => .cons x (VRs.set r h)
theorem VRs.take {F : Fz} : ∀ {vs ds}, VRs F vs ds → ∀ n : Nat, VRs F (vs.take n) (ds.take n)
  | _, _, .nil, n => by simp; exact .nil
  | _, _, .cons x r, 0 => .nil
  | _, _, .cons x r, n + 1 => by rw [List.take_succ_cons, List.take_succ_cons]; exact .cons x (VRs.take r n)
theorem VRs.reverse {F : Fz} : ∀ {vs ds}, VRs F vs ds → VRs F vs.reverse ds.reverse
  | _, _, .nil => .nil
  | _, _, .cons x r => by rw [List.reverse_cons, List.reverse_cons]; exact (VRs.reverse r).append (.one x)

theorem intsD_are {F : Fz} : ∀ {vs ds ns}, VRs F vs ds → intsD ds = some ns → IntsAre vs ns
  | _, _, _, .nil, h => by simp [intsD] at h; subst h; exact .nil
  | _, _, ns, .cons (d := d) (ds := ds) x r, h => by
    cases d with
    | int i =>
      cases x
      simp only [intsD, Option.map_eq_some_iff] at h
      obtain ⟨ms, hm, rfl⟩ := h
      exact .cons _ _ (intsD_are r hm)
    | _ => simp [intsD] at h
theorem vrs_ints {F : Fz} : ∀ {vs ns}, IntsAre vs ns → VRs F vs (ns.map .int)
  | _, _, .nil => .nil
  | _, _, .cons _ _ r => .cons (.int _ _) (vrs_ints r)

theorem intsD_map (t : List Int) : intsD (t.map .int) = some t := by
  induction t with
  | nil => rfl
  | cons x r ih => show (intsD (r.map .int)).map (x :: ·) = _; rw [ih]; rfl
theorem intsD_eq : ∀ {ds : List D} {t : List Int}, intsD ds = some t → ds = t.map .int
  | [], t, h => by cases h; rfl
  | .int i :: r, t, h => by
    simp only [intsD, Option.map_eq_some_iff] at h
    obtain ⟨u, hu, rfl⟩ := h
    rw [List.map_cons, ← intsD_eq hu]
  | .none :: _, _, h => by simp [intsD] at h
  | .bool _ :: _, _, h => by simp [intsD] at h
  | .str _ :: _, _, h => by simp [intsD] at h
  | .list _ :: _, _, h => by simp [intsD] at h
  | .tuple _ :: _, _, h => by simp [intsD] at h
  | .dict _ :: _, _, h => by simp [intsD] at h
theorem tupI_eq {d : D} {t : List Int} (h : tupI d = some t) : d = tupD t := by
  unfold tupI at h
  split at h
  · rw [intsD_eq h]
  · cases h
theorem keysI_eq : ∀ {kvs : List (D × D)} {ts : List (List Int)}, keysI kvs = some ts → PyData.dict kvs = dictD ts
  | [], ts, h => by cases h; rfl
  | (k, v) :: r, ts, h => by
    unfold keysI at h
    split at h
    · rename_i heq; cases heq
    · rename_i heq
      cases heq
      rw [Option.bind_eq_some_iff] at h
      obtain ⟨t, ht, h⟩ := h
      rw [Option.map_eq_some_iff] at h
      obtain ⟨us, hu, rfl⟩ := h
      have := keysI_eq hu
      unfold dictD at this ⊢
      injection this with this
      rw [tupI_eq ht, this]; rfl
    · cases h
theorem keysI_map : ∀ ts : List (List Int), keysI (ts.map fun r => (tupD r, .int 1)) = some ts
  | [] => rfl
  | t :: r => by
    show (tupI (tupD t)).bind (fun u => (keysI (r.map fun r => (tupD r, .int 1))).map (u :: ·)) = _
    rw [keysI_map r, show tupI (tupD t) = some t from intsD_map t]; rfl

abbrev plainL (items : Array Value) (n : Nat) : Obj := { cls := .type "list", data := .seq items n }
/-- a dictionary's entries -/
structure DEnts (F : Fz) (a : Addr) (es : Array DictEntry) (rows : List (List Int)) : Prop where
  key : VRs F (es.toList.map (·.key)) (rows.map tupD)
  val : VRs F (es.toList.map (·.val)) (rows.map fun _ => .int 1)
  hash : es.toList.map (·.hash) = rows.map hashT
  nodup : rows.Nodup
  low : (a == sysModules) = false
theorem DEnts.mono {F F' : Fz} {a es rows} (h : ∀ a o, F a = some o → F' a = some o) (x : DEnts F a es rows) : DEnts F' a es rows := ⟨x.key.mono h, x.val.mono h, x.hash, x.nodup, x.low⟩
theorem DEnts.vr {F : Fz} {a o es n rows} (x : DEnts F a es rows) (ha : F a = some o) (c : o.ExactDict) (d : o.data = .dict es n) : VR F (.ref a) (dictD rows) := .dict ha c d x.key x.val x.hash x.nodup x.low rfl
theorem dictD_inj {a b : List (List Int)} (h : dictD a = dictD b) : a = b := by
  unfold dictD at h
  injection h with h
  exact List.map_inj_right (f := fun r => ((tupD r, PyData.int 1) : D × D)) (fun x y e => by
    injection e with e1 _
    injection e1 with e1
    exact (List.map_inj_right fun x y e => by injection e).mp e1) |>.mp h
theorem VR.ents {F : Fz} {v rows} (x : VR F v (dictD rows)) : ∃ a o es n, v = .ref a ∧ F a = some o ∧ o.ExactDict ∧ o.data = .dict es n ∧ DEnts F a es rows := by
  unfold dictD at x
  generalize hk : (rows.map fun r => (PyData.tuple (r.map .int), PyData.int 1)) = kvs at x
  cases x with
  | @dict _ _ _ _ rows2 _ ha c d r v e n l q =>
    have := dictD_inj (a := rows) (b := rows2) (by unfold dictD; rw [hk, q])
    subst this
    exact ⟨_, _, _, _, rfl, ha, c, d, ⟨r, v, e, n, l⟩⟩
/-- what a frame may own: a list or a dictionary, its things in F -/
def OwnO (F : Fz) (a : Addr) (o : Obj) (d : D) : Prop := (∃ items n xs, o = plainL items n ∧ d = .list xs ∧ VRs F items.toList xs) ∨ (∃ es n rows, o.ExactDict ∧ o.data = .dict es n ∧ d = dictD rows ∧ DEnts F a es rows)
theorem OwnO.mono {F F' : Fz} {a o d} (h : ∀ a o, F a = some o → F' a = some o) (x : OwnO F a o d) : OwnO F' a o d := by
  rcases x with ⟨items, n, xs, e1, e2, r⟩ | ⟨es, n, rows, e1, e2, e3, r⟩
  · exact .inl ⟨items, n, xs, e1, e2, r.mono h⟩
  · exact .inr ⟨es, n, rows, e1, e2, e3, r.mono h⟩
theorem OwnO.vr {F : Fz} {a o d} (x : OwnO F a o d) (ha : F a = some o) : VR F (.ref a) d := by
  rcases x with ⟨items, n, xs, rfl, rfl, r⟩ | ⟨es, n, rows, c, e, rfl, r⟩
  · exact .list ha rfl rfl r
  · exact r.vr ha c e

/-- .. or a list that stands in the heap and nowhere in F (its frame's own) -/
inductive VW (F : Fz) (h : Heap) : Value → D → Prop
  | frz {v d} : VR F v d → VW F h v d
  | own {a items n xs} : h.get? a = some (plainL items n) → VRs F items.toList xs → VW F h (.ref a) (.list xs)
  | ownD {a : Addr} {o : Obj} {es : Array DictEntry} {n : Nat} {rows : List (List Int)} {kvs : List (D × D)} : h.get? a = some o → o.ExactDict → o.data = .dict es n → DEnts F a es rows → kvs = rows.map (fun r => (tupD r, .int 1)) → VW F h (.ref a) (.dict kvs)
theorem OwnO.vw {F : Fz} {h : Heap} {a o d} (x : OwnO F a o d) (ha : h.get? a = some o) : VW F h (.ref a) d := by
  rcases x with ⟨items, n, xs, rfl, rfl, r⟩ | ⟨es, n, rows, c, e, rfl, r⟩
  · exact .own ha r
  · exact .ownD ha c e r rfl
theorem VW.ents {F : Fz} {h : Heap} (hf : ∀ b o, F b = some o → h.get? b = some o) {v rows} (x : VW F h v (dictD rows)) : ∃ a o es n, v = .ref a ∧ h.get? a = some o ∧ o.ExactDict ∧ o.data = .dict es n ∧ DEnts F a es rows := by
  unfold dictD at x
  generalize hk : (rows.map fun r => (PyData.tuple (r.map .int), PyData.int 1)) = kvs at x
  cases x with
  | frz r =>
    have r' : VR F v (dictD rows) := by unfold dictD; rw [hk]; exact r
    obtain ⟨a, o, es, n, rfl, ha, c, d, e⟩ := r'.ents
    exact ⟨a, o, es, n, rfl, hf _ _ ha, c, d, e⟩
  | @ownD _ _ _ _ rows2 _ ha c d r q =>
    have := dictD_inj (a := rows) (b := rows2) (by unfold dictD; rw [hk, q])
    subst this
    exact ⟨_, _, _, _, rfl, ha, c, d, r⟩

/-- what an expression does to the world: it makes new things alone -/
structure Ext (F : Fz) (h : Heap) (F' : Fz) (h' : Heap) : Prop where
  keep : ∀ b o, h.get? b = some o → h'.get? b = some o
  mono : ∀ b o, F b = some o → F' b = some o
  fin : ∀ b o, F' b = some o → h'.get? b = some o
  new : ∀ b o, F' b = some o → F b = some o ∨ h.get? b = none

theorem Ext.refl {F : Fz} {h : Heap} (k : ∀ b o, F b = some o → h.get? b = some o) : Ext F h F h := ⟨fun _ _ e => e, fun _ _ e => e, k, fun _ _ e => .inl e⟩
theorem none_back {h h' : Heap} (k : ∀ b o, h.get? b = some o → h'.get? b = some o) {b : Addr} (e : h'.get? b = none) : h.get? b = none := by
  cases q : h.get? b with
  | none => rfl
  | some o => rw [k b o q] at e; cases e
theorem Ext.trans {F F' F'' : Fz} {h h' h'' : Heap} (x : Ext F h F' h') (y : Ext F' h' F'' h'') : Ext F h F'' h'' :=
  ⟨fun b o e => y.keep b o (x.keep b o e), fun b o e => y.mono b o (x.mono b o e), y.fin,
    fun b o e => (y.new b o e).elim (fun q => x.new b o q) fun q => .inr (none_back x.keep q)⟩

theorem VW.mono {F F' : Fz} {h h' : Heap} (hf : ∀ a o, F a = some o → F' a = some o) (hk : ∀ b o, h.get? b = some o → h'.get? b = some o) {v d} (x : VW F h v d) : VW F' h' v d := by
  cases x with
  | frz r => exact .frz (r.mono hf)
  | own ha r => exact .own (hk _ _ ha) (r.mono hf)
  | ownD ha c d r q => exact .ownD (hk _ _ ha) c d (r.mono hf) q
theorem VW.ext {F F' : Fz} {h h' : Heap} (e : Ext F h F' h') {v d} (x : VW F h v d) : VW F' h' v d := x.mono e.mono e.keep

def LO (h : Heap) (a : Addr) (items : Array Value) (n : Nat) : Prop := ∃ o, h.get? a = some o ∧ o.cls = .type "list" ∧ o.data = .seq items n
theorem LO.plain {h : Heap} {a items n} (e : h.get? a = some (plainL items n)) : LO h a items n := ⟨_, e, rfl, rfl⟩
theorem LO.isl {h : Heap} {a items n} (x : LO h a items n) : h.IsList a items := let ⟨o, e, c, d⟩ := x; ⟨o, e, c, _, d⟩
theorem LO.keep {h h' : Heap} {a items n} (x : LO h a items n) (k : ∀ b o, h.get? b = some o → h'.get? b = some o) : LO h' a items n := let ⟨o, e, c, d⟩ := x; ⟨o, k _ _ e, c, d⟩
theorem LO.lt {h : Heap} {a items n} (x : LO h a items n) : a < h.objs.size := let ⟨_, e, _, _⟩ := x; Heap.lt_size e
theorem LO.parts {h : Heap} {a items n} (x : LO h a items n) : ∃ dd sl, h.get? a = some { cls := .type "list", dict := dd, data := .seq items n, slots := sl } := by
  obtain ⟨⟨c, dd, d, sl⟩, e, hc, hd⟩ := x
  simp only at hc hd
  subst hc hd
  exact ⟨dd, sl, e⟩

theorem VW.list {F : Fz} {h : Heap} (hf : ∀ b o, F b = some o → h.get? b = some o) {v xs} (x : VW F h v (.list xs)) : ∃ a items n, v = .ref a ∧ LO h a items n ∧ VRs F items.toList xs := by
  cases x with
  | frz r => cases r with | list ha c d r => exact ⟨_, _, _, rfl, ⟨_, hf _ _ ha, c, d⟩, r⟩
  | own ha r => exact ⟨_, _, _, rfl, .plain ha, r⟩
theorem VW.tup {F : Fz} {h : Heap} (hf : ∀ b o, F b = some o → h.get? b = some o) {v xs} (x : VW F h v (.tuple xs)) : ∃ a o items n, v = .ref a ∧ h.get? a = some o ∧ o.cls = .type "tuple" ∧ o.data = .seq items n ∧ VRs F items.toList xs := by
  cases x with
  | frz r => cases r with | tuple ha c d r => exact ⟨_, _, _, _, rfl, hf _ _ ha, c, d, r⟩
theorem VW.intv {F : Fz} {h : Heap} {v i} (x : VW F h v (.int i)) : ∃ t, v = .int i t := by
  cases x with
  | frz r => cases r; exact ⟨_, rfl⟩
theorem VW.boolv {F : Fz} {h : Heap} {v b} (x : VW F h v (.bool b)) : v = .bool b := by
  cases x with
  | frz r => cases r; rfl
theorem VW.strv {F : Fz} {h : Heap} {v b} (x : VW F h v (.str b)) : ∃ t, v = .str b t := by
  cases x with
  | frz r => cases r; exact ⟨_, rfl⟩
theorem VW.nonev {F : Fz} {h : Heap} {v} (x : VW F h v .none) : v = .none := by
  cases x with
  | frz r => cases r; rfl
theorem VW.reads {F : Fz} {h : Heap} (hf : ∀ b o, F b = some o → h.get? b = some o) {v d} (x : VW F h v d) : ∃ as, Reads h v d as := by
  cases x with
  | frz r => exact r.reads hf
  | own ha r => obtain ⟨_, q⟩ := r.reads hf; exact ⟨_, .list ha rfl rfl q⟩
  | ownD ha c d r q =>
    obtain ⟨as, q1⟩ := r.key.reads hf
    obtain ⟨bs, q2⟩ := r.val.reads hf
    subst q
    exact ⟨_, .dict ha c.1 d (as := as) (bs := bs) (by rw [List.map_map]; exact q1) (by rw [List.map_map]; exact q2)⟩

theorem isList_of {h : Heap} {a items n} (e : h.get? a = some (plainL items n)) : h.IsList a items := ⟨_, e, rfl, n, rfl⟩

/-- what a name of the frame holds -/
def Slot (env : Env) (h : Heap) (x : Str) (v : Value) : Prop :=
  (env.kindOf x = some .local ∧ ∃ m, h.Ns env.locals m ∧ m x = some v) ∨
  ((env.kindOf x = some .cell ∨ env.kindOf x = some .free) ∧ ∃ c, env.cells.lookup x = some c ∧ h.IsCell c (some v))

theorem Slot.keeps {env : Env} {h h' : Heap} {x v} (s : Slot env h x v) (hk : ∀ b o, h.get? b = some o → h'.get? b = some o) : Slot env h' x v := by
  rcases s with ⟨a, m, b, c⟩ | ⟨a, c, b, d⟩
  · exact .inl ⟨a, m, b.keeps hk, c⟩
  · exact .inr ⟨a, c, b, d.keeps hk⟩

/-- the top, as the walk left it -/
structure Glb (K : Frag) (mg mb : Str → Option Value) (h : Heap) : Prop where
  kin : K.In h
  g : h.Ns mainGlobals mg
  b : h.Ns builtinsNs mb
  built : ∀ x : Str, x ≠ "__name__" → mb x = bootBuiltins x
  nolimit : h.NoLimit
theorem Glb.keeps {K : Frag} {mg mb} {h h' : Heap} (G : Glb K mg mb h) (hk : ∀ b o, h.get? b = some o → h'.get? b = some o) : Glb K mg mb h' :=
  ⟨fun a o e => hk _ _ (G.kin a o e), G.g.keeps hk, G.b.keeps hk, G.built, G.nolimit.keeps hk⟩

/-- the things of the top that a global name may give -/
def KF (K : Frag) (F : Fz) : Prop := ∀ a o, K.lookup a = some o → (o.cls = .type "tuple") → F a = some o

structure ER (K : Frag) (mg mb : Str → Option Value) (sc : Scope) (env : Env) (F : Fz) (ρ : Rho) (h : Heap) : Prop where
  glb : Glb K mg mb h
  kf : KF K F
  fin : ∀ b o, F b = some o → h.get? b = some o
  kind : env.scope.kind = .function
  gl : env.globals = mainGlobals
  bu : env.builtins = builtinsNs
  kinds : ∀ x, env.kindOf x = sc.names.lookup x ∨ (sc.names.lookup x = some .free ∧ env.kindOf x = some .cell)
  cells : ∀ x, (sc.names.lookup x = some .cell ∨ sc.names.lookup x = some .free) → ∃ c, env.cells.lookup x = some c
  vars : ∀ x o d, ρ x = some (o, d) → isVar (sc.names.lookup x) = true → ∃ v, Slot env h x v ∧ VW F h v d ∧ (o = false → VR F v d)

theorem ER.ext {K : Frag} {mg mb} {sc env} {F F' : Fz} {ρ} {h h' : Heap} (R : ER K mg mb sc env F ρ h) (e : Ext F h F' h') : ER K mg mb sc env F' ρ h' :=
  ⟨R.glb.keeps e.keep, fun a o k c => e.mono _ _ (R.kf a o k c), e.fin, R.kind, R.gl, R.bu, R.kinds, R.cells, fun x o d hx hv => by
    obtain ⟨v, s, w, f⟩ := R.vars x o d hx hv
    exact ⟨v, s.keeps e.keep, w.ext e, fun q => (f q).mono e.mono⟩⟩

structure AOk (A : Around) (n : Nat) : Prop where
  handled : A.handled = none
  depth : A.depth + n < recursionLimit
  units : A.units + 8 * n + 200 < cLine

theorem AOk.less {A : Around} {n m : Nat} (h : AOk A n) (hm : m ≤ n) : AOk A m := ⟨h.handled, by have := h.depth; omega, by have := h.units; omega⟩
theorem AOk.succ {A : Around} {n : Nat} (h : AOk A (n + 1)) : AOk A n := h.less (Nat.le_succ n)

/-- the answer of an expression -/
def EOk (prog : Program) (w : World) (A : Around) (F : Fz) (s : Shared) (wk : Bool) (d : D) (t : Sem Value) : Prop :=
  ∀ (Q : Value → Shared → Prop) (E : Value → Shared → Prop), (∀ v h' tk F', Ext F s.heap F' h' → VW F' h' v d → (wk = false → VR F' v d) → Q v { s with heap := h', toks := tk }) → wpAny (model prog w) A t Q E s
def TOk (prog : Program) (w : World) (A : Around) (F : Fz) (s : Shared) (b : Bool) (t : Sem Bool) : Prop :=
  ∀ (Q : Bool → Shared → Prop) (E : Value → Shared → Prop), (∀ h' tk F', Ext F s.heap F' h' → Q b { s with heap := h', toks := tk }) → wpAny (model prog w) A t Q E s

def SoundE (K : Frag) (mg mb : Str → Option Value) (prog : Program) (w : World) (i : In) (n : Nat) : Prop :=
  ∀ sc ρ wk e d, i.ev sc ρ wk e = .ok d → ∀ A env F s, AOk A n → ER K mg mb sc env F ρ s.heap → EOk prog w A F s wk d (eval e env)
def SoundT (K : Frag) (mg mb : Str → Option Value) (prog : Program) (w : World) (i : In) (n : Nat) : Prop :=
  ∀ sc ρ e b, i.tst sc ρ e = .ok b → ∀ A env F s, AOk A n → ER K mg mb sc env F ρ s.heap → TOk prog w A F s b (isTrue e env (eval e env))

end Mine

/-! Dct -/
namespace Mine
theorem lim_eq : lim = 1048576 := rfl
theorem mapI_inj : ∀ {a b : List Int}, a.map PyData.int = b.map PyData.int → a = b
  | [], [], _ => rfl
  | [], _ :: _, h => by cases h
  | _ :: _, [], h => by cases h
  | x :: a, y :: b, h => by
    rw [List.map_cons, List.map_cons] at h
    injection h with h1 h2
    injection h1 with h1
    rw [h1, mapI_inj h2]

section
variable {prog : Program} {w : World} {A : Around} {F : Fz} {s : Shared}

theorem itemsAre_of {vs : List Value} {ns : List Int} (h : IntsAre vs ns) : ItemsAre (intKind prog w) ns vs := by
  induction h with
  | nil => exact .nil
  | cons n t r ih => exact .cons (by simp [intKind, Value.isInt]) ih
/-- a tuple of ints that stands in F -/
theorem tupF {F : Fz} {v : Value} {t : List Int} (h : VR F v (tupD t)) : ∃ a o items n, v = .ref a ∧ F a = some o ∧ o.cls = .type "tuple" ∧ o.data = .seq items n ∧ IntsAre items.toList t := by
  cases h with
  | tuple ha hc hd hr => exact ⟨_, _, _, _, rfl, ha, hc, hd, intsD_are hr (intsD_map t)⟩
theorem ents_list : ∀ {L : List DictEntry} {rows : List (List Int)}, VRs F (L.map (·.key)) (rows.map tupD) → L.map (·.hash) = rows.map hashT →
    ∃ xs : List (List Int × Addr × Value), L = xs.map (entryOfKey (tupleKind (intKind prog w))) ∧ xs.map (·.1) = rows ∧ ∀ x ∈ xs, ∃ o items n, F x.2.1 = some o ∧ o.cls = .type "tuple" ∧ o.data = .seq items n ∧ ItemsAre (intKind prog w) x.1 items.toList
  | [], [], _, _ => ⟨[], rfl, rfl, fun x hx => by cases hx⟩
  | [], _ :: _, h, _ => by cases h
  | _ :: _, [], h, _ => by cases h
  | e :: L, r :: rows, h, hh => by
    rw [List.map_cons, List.map_cons] at h hh
    injection hh with h1 h2
    cases h with
    | cons hv hr =>
      obtain ⟨xs, x1, x2, x3⟩ := ents_list hr h2
      obtain ⟨a, o, items, n, he, ha, hc, hd, hi⟩ := tupF hv
      refine ⟨(r, a, e.val) :: xs, ?_, by rw [List.map_cons, x2], fun x hx => ?_⟩
      · rw [List.map_cons, ← x1]
        congr 1
        obtain ⟨eh, ek, ev⟩ := e
        dsimp only at he h1
        subst he h1
        rfl
      · rcases List.mem_cons.mp hx with q | q
        · subst q; exact ⟨o, items, n, ha, hc, hd, itemsAre_of hi⟩
        · exact x3 x q
theorem DEnts.heap {h : Heap} {a : Addr} {o : Obj} {es : Array DictEntry} {n : Nat} {rows : List (List Int)} (x : DEnts F a es rows) (fin : ∀ b o, F b = some o → h.get? b = some o) (ha : h.get? a = some o) (c : o.ExactDict) (d : o.data = .dict es n) :
    ∃ xs, h.DictOfH (tupleKind (intKind prog w)) a xs ∧ xs.map (·.1) = rows ∧ es.toList = xs.map (entryOfKey (tupleKind (intKind prog w))) ∧ (∀ x ∈ xs, ∃ o items n, F x.2.1 = some o ∧ o.cls = .type "tuple" ∧ o.data = .seq items n ∧ ItemsAre (intKind prog w) x.1 items.toList) := by
  obtain ⟨xs, x1, x2, x3⟩ := ents_list (prog := prog) (w := w) x.key x.hash
  refine ⟨xs, ⟨o, es, n, ha, c, d, x1, fun y hy => ?_, by rw [x2]; exact x.nodup⟩, x2, x1, x3⟩
  obtain ⟨o', items, m, hF, hc, hd, hi⟩ := x3 y hy
  exact ⟨o', items, m, fin _ _ hF, hc, hd, hi⟩
theorem atKey_mem : ∀ {xs : List (List Int × Addr × Value)} {k : List Int}, (atKey xs k).isSome = decide (k ∈ xs.map (·.1))
  | [], k => by simp [atKey]
  | x :: xs, k => by
    by_cases h : x.1 = k
    · simp [atKey, h]
    · have ih := atKey_mem (xs := xs) (k := k)
      unfold atKey at ih ⊢
      rw [List.find?_cons, decide_eq_false h]
      dsimp only
      rw [ih, List.map_cons]
      have h2 : ¬ k = x.1 := fun q => h q.symm
      simp [h2]
theorem in_dict {rows : List (List Int)} {r : List Int} {va vb : Value} (fin : ∀ b o, F b = some o → s.heap.get? b = some o) (ra : VW F s.heap va (tupD r)) (rb : VW F s.heap vb (dictD rows)) (hu : A.units + 200 < cLine) {Q : Value → Shared → Prop} {E : Value → Shared → Prop}
    (h : ∀ tk, Q (.bool (decide (r ∈ rows))) { s with toks := tk }) : wpAny (model prog w) A (compareOp .In va vb) Q E s := by
  obtain ⟨a, o, es, n, rfl, ha, c, d, x⟩ := rb.ents fin
  obtain ⟨b, o', items, m, rfl, hb, hc, hd, hi⟩ := ra.tup fin
  obtain ⟨xs, hm, hk, _⟩ := x.heap (prog := prog) (w := w) fin ha c d
  have hi' : IntsAre items.toList r := intsD_are hi (intsD_map r)
  refine wpAny_in_heap (knd := tupleKind (intKind prog w)) (tupleKind_room_in1 (by omega)) (k := r) ⟨o', items, m, hb, hc, hd, itemsAre_of hi'⟩ x.low hm ?_
  rw [atKey_mem, hk]
  exact h _
end
end Mine

/-! Ops -/
namespace Mine

theorem ipow9000 : ∀ b : Int, ¬ 2 ^ 9000 ≤ b.natAbs → b.natAbs.log2 < 9000 := fun b h => by
  by_cases h0 : b.natAbs = 0
  · rw [h0]; decide
  · exact (Nat.log2_lt h0).mpr (Nat.not_le.mp h)

def addF (F : Fz) (a : Addr) (o : Obj) : Fz := fun b => if b = a then some o else F b
theorem addF_self {F : Fz} {a o} : addF F a o a = some o := by simp [addF]

theorem fresh_F {F : Fz} {h : Heap} (fin : ∀ b o, F b = some o → h.get? b = some o) {a} (ha : h.get? a = none) : F a = none := by
  cases e : F a with
  | none => rfl
  | some o => rw [fin _ _ e] at ha; cases ha
theorem none_size (h : Heap) : h.get? h.objs.size = none := Heap.get?_none_of_le (Nat.le_refl _)

theorem Ext.add {F F' : Fz} {h h' : Heap} (x : Ext F h F' h') {a o} (ha : h.get? a = none) (hF : F' a = none) (e : h'.get? a = some o) : Ext F h (addF F' a o) h' := by
  refine ⟨x.keep, fun b q hb => ?_, fun b q hb => ?_, fun b q hb => ?_⟩
  · have := x.mono b q hb
    unfold addF; split
    · rename_i eq; subst eq; rw [hF] at this; cases this
    · exact this
  · unfold addF at hb; split at hb
    · rename_i eq; subst eq; cases hb; exact e
    · exact x.fin _ _ hb
  · unfold addF at hb; split at hb
    · rename_i eq; subst eq; exact .inr ha
    · exact x.new _ _ hb

theorem Ext.of_keep {F : Fz} {h h' : Heap} (fin : ∀ b o, F b = some o → h.get? b = some o) (k : ∀ b o, h.get? b = some o → h'.get? b = some o) : Ext F h F h' :=
  ⟨k, fun _ _ e => e, fun b o e => k b o (fin b o e), fun b o e => .inl e⟩

theorem Ext.newO {F : Fz} {h h' : Heap} (fin : ∀ b o, F b = some o → h.get? b = some o) (k : ∀ b o, h.get? b = some o → h'.get? b = some o) {a o}
    (ha : h.get? a = none) (e : h'.get? a = some o) : Ext F h (addF F a o) h' :=
  (Ext.of_keep fin k).add ha (fresh_F fin ha) e
theorem Ext.newL {F : Fz} {h h' : Heap} (fin : ∀ b o, F b = some o → h.get? b = some o) (k : ∀ b o, h.get? b = some o → h'.get? b = some o) {a items n}
    (ha : h.get? a = none) (e : h'.get? a = some (plainL items n)) : Ext F h (addF F a (plainL items n)) h' :=
  (Ext.of_keep fin k).add ha (fresh_F fin ha) e

section
variable {prog : Program} {w : World} {A : Around} {F : Fz} {s : Shared}

/-- an answer that is no list -/
theorem EOk.now {wk : Bool} {d : D} {t : Sem Value} (fin : ∀ b o, F b = some o → s.heap.get? b = some o)
    (h : ∀ Q E, (∀ v h' tk, (∀ b o, s.heap.get? b = some o → h'.get? b = some o) → VR F v d → Q v { s with heap := h', toks := tk }) → wpAny (model prog w) A t Q E s) : EOk prog w A F s wk d t :=
  fun Q E k => h Q E fun v h' tk hk r => k v h' tk F (Ext.of_keep fin hk) (.frz r) fun _ => r

theorem EOk.newList {wk : Bool} {ds : List D} {t : Sem Value} (fin : ∀ b o, F b = some o → s.heap.get? b = some o)
    (h : ∀ Q E, (∀ a h' tk items n, (∀ b o, s.heap.get? b = some o → h'.get? b = some o) → s.heap.get? a = none → h'.get? a = some (plainL items n) → VRs F items.toList ds → Q (.ref a) { s with heap := h', toks := tk }) → wpAny (model prog w) A t Q E s) :
    EOk prog w A F s wk (.list ds) t :=
  fun Q E k => h Q E fun a h' tk items n hk ha e r => by
    have x := Ext.newL fin hk ha e
    have r' : VR (addF F a (plainL items n)) (.ref a) (.list ds) := .list addF_self rfl rfl (r.mono x.mono)
    exact k _ _ _ _ x (.frz r') fun _ => r'
end

theorem EOk.newTup {prog : Program} {w : World} {A : Around} {F : Fz} {s : Shared} {wk : Bool} {ds : List D} {t : Sem Value} (fin : ∀ b o, F b = some o → s.heap.get? b = some o)
    (h : ∀ Q E, (∀ v h' tk, (∀ b o, s.heap.get? b = some o → h'.get? b = some o) → VR F v (.tuple ds) → Q v { s with heap := h', toks := tk }) → (∀ a h' tk items n, (∀ b o, s.heap.get? b = some o → h'.get? b = some o) → s.heap.get? a = none → h'.get? a = some { cls := .type "tuple", data := .seq items n } → VRs F items.toList ds → Q (.ref a) { s with heap := h', toks := tk }) → wpAny (model prog w) A t Q E s) :
    EOk prog w A F s wk (.tuple ds) t :=
  fun Q E k => h Q E (fun v h' tk hk r => k v h' tk F (Ext.of_keep fin hk) (.frz r) fun _ => r) fun a h' tk items n hk ha e r => by
    have x := Ext.newO fin hk ha e
    have r' : VR (addF F a { cls := .type "tuple", data := .seq items n }) (.ref a) (.tuple ds) := .tuple addF_self rfl rfl (r.mono x.mono)
    exact k _ _ _ _ x (.frz r') fun _ => r'

section
variable {prog : Program} {w : World} {A : Around} {F : Fz} {s : Shared} {E : Value → Shared → Prop}

theorem list_mulG (l : Addr) (items : Array Value) (n : Nat) (dd : Option Addr) (sl : Array (Option Value)) (x : Int) (u : Tok) (hc0 : ¬(!Builtin.List.listFitsIndex x) = true) (hc1 : ¬items.size * x.toNat > (2 ^ 63 - 1) / 8) (hc2 : ¬Builtin.List.listTooLong (items.size * x.toNat) = true) :
    Meets (Builtin.«list.__mul__» ⟨[.ref l, .int x u], []⟩) (fun _ R s => s.heap.get? l = some { cls := .type "list", dict := dd, data := .seq items n, slots := sl } ∧ R (.ok (.ret (Value.ref s.heap.objs.size))) { s with heap := s.heap.push { cls := Value.type "list", data := Data.seq (List.foldl (fun x1 x2 => x1 ++ x2) #[] (List.replicate (if items.isEmpty = true then 0 else x.toNat) items)) }, toks := s.toks }) :=
  .of_wp fun prog w A R s h => by
    obtain ⟨hp, g, d, tk, os⟩ := s; obtain ⟨hl, h⟩ := h
    have hz := AutoListH.joined_fits hc2
    wp_walk; refine wpAny_ite_false (decide_eq_false (Nat.not_lt.mpr hz)) ?_; wp_walk; exact ⟨_, rfl, h⟩

theorem int_rmulG (a : Int) (t : Tok) (l : Addr) (items : Array Value) (n : Nat) (dd : Option Addr) (sl : Array (Option Value)) :
    Meets (Builtin.«int.__rmul__» ⟨[.int a t, .ref l], []⟩) (fun _ R s => s.heap.get? l = some { cls := .type "list", dict := dd, data := .seq items n, slots := sl } ∧ R (.ok (.ret Value.notImplemented)) s) :=
  .of_wp fun prog w A R s h => by obtain ⟨hp, g, d, tk, os⟩ := s; obtain ⟨hl, h⟩ := h; wp_walk; exact ⟨_, rfl, h⟩

theorem mul_list_raw {l : Addr} {items : Array Value} {k : Nat} {x : Int} {u : Tok} {Q : Value → Shared → Prop}
    (hl : LO s.heap l items k) (hlo : -(2 ^ 63 : Int) ≤ x) (hhi : x < 2 ^ 63) (hsz : items.size * x.toNat ≤ 2 ^ 24)
    (h : Q (.ref s.heap.objs.size) { s with heap := s.heap.push { cls := .type "list", data := .seq (List.foldl (fun x1 x2 => x1 ++ x2) #[] (List.replicate (if items.isEmpty = true then 0 else x.toNat) items)) } }) :
    wpAny (model prog w) A (binaryOp .Mult (.ref l) (.int x u)) Q E s := by
  obtain ⟨dd, sl, el⟩ := hl.parts
  exact wpAny_binaryOp_repeat_ref (T := "list") (U := "int") (by decide) ⟨_, el, rfl⟩ (fun s' => typeIs_int s' x u) noFill_list_mul F.fills_int_mul F.slot_int_rmul repeat_list F.slot_int_index.lookup
    (call_meets F.slot_int_rmul (typeIs_int s x u) F.entry_int_rmul (F.args_int_rmul_2 _ _) (int_rmulG x u l items k dd sl)
      ⟨el, rfl, ⟨_, el, rfl⟩, call_meets F.slot_list_mul ⟨_, el, rfl⟩ F.entry_list_mul (F.args_list_mul_2 _ _)
        (list_mulG l items k dd sl x u (by simp [Builtin.List.listFitsIndex]; omega) (by omega) (by simp [Builtin.List.listTooLong, sizeLine]; omega))
        ⟨el, h⟩⟩)

theorem add_list_raw {a b : Addr} {ia ib : Array Value} {na nb : Nat} {Q : Value → Shared → Prop} (ha : LO s.heap a ia na) (hb : LO s.heap b ib nb)
    (h : Q (.ref s.heap.objs.size) { s with heap := s.heap.push { cls := .type "list", data := .seq (ia ++ ib) } }) (hsz : ia.size + ib.size ≤ sizeLine) : wpAny (model prog w) A (binaryOp .Add (.ref a) (.ref b)) Q E s := by
  obtain ⟨dd, sl, ea⟩ := ha.parts
  obtain ⟨dd2, sl2, eb⟩ := hb.parts
  exact concat_meets ⟨_, ea, rfl⟩ ⟨_, eb, rfl⟩ noFill_list_add seq_list_add PySem.F.slot_list_add PySem.F.entry_list_add (PySem.F.args_list_add_2 _ _) (list_addW a b ia ib na nb dd dd2 sl sl2 hsz) ⟨ea, eb, h⟩


theorem foldl_cat (items : Array Value) : ∀ (n : Nat) (acc : Array Value), (List.foldl (fun x1 x2 => x1 ++ x2) acc (List.replicate n items)).toList = acc.toList ++ (List.replicate n items.toList).flatten
  | 0, acc => by simp
  | n + 1, acc => by
    rw [List.replicate_succ, List.foldl_cons, foldl_cat items n, List.replicate_succ, List.flatten_cons, Array.toList_append, List.append_assoc]
theorem tuple_mulG (l : Addr) (items : Array Value) (n : Nat) (dd : Option Addr) (sl : Array (Option Value)) (x : Int) (u : Tok) (h1 : 2 ≤ x) (h2 : x < 2 ^ 20 + 1) (he : items.isEmpty = false) (hc : items.size * x.toNat ≤ 2 ^ 20) :
    Meets (Builtin.«tuple.__mul__» ⟨[.ref l, .int x u], []⟩) (fun _ R s => s.heap.get? l = some { cls := .type "tuple", dict := dd, data := .seq items n, slots := sl } ∧ R (.ok (.ret (Value.ref s.heap.objs.size))) { s with heap := s.heap.push { cls := Value.type "tuple", data := Data.seq (List.foldl (fun x1 x2 => x1 ++ x2) #[] (List.replicate x.toNat items)) }, toks := s.toks }) :=
  .of_wp fun prog w A R s h => by
    obtain ⟨hp, g, d, tk, os⟩ := s; obtain ⟨hl, h⟩ := h
    have f1 := AutoSeq1.idx_int
    wp_walk using wpAny_loadPart' hl
    rw [if_neg (by simp; omega)]
    wp_walk using wpAny_loadPart' hl
    rw [if_neg (by rw [he]; simp; omega)]
    rw [if_neg (by rw [he]; simp; omega)]
    have hm : (items.size : Int) * x ≤ 2 ^ 20 := by
      have e : x = (x.toNat : Int) := by omega
      rw [e]; exact_mod_cast hc
    rw [if_neg (by omega)]
    rw [if_neg (by simp [Builtin.Tuple.tupleTooMany, sizeLine_eq]; omega)]
    unfold Builtin.Tuple.tupleExact
    refine wpAny_bind (wpAny_newObj_type (wpAny_pure ⟨_, rfl, h⟩) ?_)
    show (List.foldl (fun x1 x2 => x1 ++ x2) #[] (List.replicate x.toNat items)).size ≤ sizeLine
    rw [← Array.length_toList, foldl_cat]
    have e2 : ((#[] : Array Value).toList ++ (List.replicate x.toNat items.toList).flatten).length = items.size * x.toNat := by simp [Nat.mul_comm]
    rw [e2, sizeLine_eq]
    omega
theorem tuple_mul1 (l : Addr) (items : Array Value) (n : Nat) (sl : Array (Option Value)) (dd : Option Addr) (u : Tok) :
    Meets (Builtin.«tuple.__mul__» ⟨[.ref l, .int 1 u], []⟩) (fun _ R s => s.heap.get? l = some { cls := .type "tuple", dict := dd, data := .seq items n, slots := sl } ∧ R (.ok (.ret (Value.ref l))) s) :=
  .of_wp fun prog w A R s h => by
    obtain ⟨hp, g, d, tk, os⟩ := s; obtain ⟨hl, h⟩ := h
    have f1 := AutoSeq1.idx_int
    wp_walk using wpAny_loadPart' hl
    exact ⟨_, rfl, h⟩
theorem noFill_tuple_mul : fillsNumberSlot (.type "tuple") "mul" = pure false :=
  PySem.fillsNumberSlot_seq (id := "tuple.__mul__") (r := some (.builtin "tuple.__rmul__")) PySem.F.slot_tuple_mul.lookup (by decide +kernel) PySem.F.slot_tuple_rmul.lookup (by decide +kernel)
theorem repeat_tuple : seqRepeat? (.type "tuple") = pure (some (.builtin "tuple.__mul__")) := by
  unfold seqRepeat?
  rw [PySem.seqSlot_of (T := "tuple") (name := "__mul__") (id := "tuple.__mul__") PySem.F.slot_tuple_mul.lookup (by decide +kernel), PySem.seqSlot_of (T := "tuple") (name := "__rmul__") (id := "tuple.__rmul__") PySem.F.slot_tuple_rmul.lookup (by decide +kernel)]
  rfl
theorem int_rmulT (a : Int) (t : Tok) (l : Addr) (items : Array Value) (n : Nat) (dd : Option Addr) (sl : Array (Option Value)) :
    Meets (Builtin.«int.__rmul__» ⟨[.int a t, .ref l], []⟩) (fun _ R s => s.heap.get? l = some { cls := .type "tuple", dict := dd, data := .seq items n, slots := sl } ∧ R (.ok (.ret Value.notImplemented)) s) :=
  .of_wp fun prog w A R s h => by obtain ⟨hp, g, d, tk, os⟩ := s; obtain ⟨hl, h⟩ := h; wp_walk; exact ⟨_, rfl, h⟩
theorem tup_parts {h : Heap} {a : Addr} {o : Obj} {items : Array Value} {n : Nat} (e : h.get? a = some o) (c : o.cls = .type "tuple") (d : o.data = .seq items n) : ∃ dd sl, h.get? a = some { cls := .type "tuple", dict := dd, data := .seq items n, slots := sl } := by
  obtain ⟨c', dd, d', sl⟩ := o
  simp only at c d
  subst c d
  exact ⟨dd, sl, e⟩
theorem mul_tuple_raw {l : Addr} {o : Obj} {items : Array Value} {k : Nat} {x : Int} {u : Tok} {Q : Value → Shared → Prop}
    (hl : s.heap.get? l = some o) (hcl : o.cls = .type "tuple") (hdt : o.data = .seq items k) (h1 : 1 ≤ x) (h2 : x < 2 ^ 20 + 1) (he : items.isEmpty = false) (hc : items.size * x.toNat ≤ 2 ^ 20)
    (h : x = 1 → Q (.ref l) s) (h' : Q (.ref s.heap.objs.size) { s with heap := s.heap.push { cls := .type "tuple", data := .seq (List.foldl (fun x1 x2 => x1 ++ x2) #[] (List.replicate x.toNat items)) } }) :
    wpAny (model prog w) A (binaryOp .Mult (.ref l) (.int x u)) Q E s := by
  obtain ⟨dd, sl, el⟩ := tup_parts hl hcl hdt
  refine wpAny_binaryOp_repeat_ref (T := "tuple") (U := "int") (by decide) ⟨_, el, rfl⟩ (fun s' => typeIs_int s' x u) noFill_tuple_mul F.fills_int_mul F.slot_int_rmul repeat_tuple F.slot_int_index.lookup
    (call_meets F.slot_int_rmul (typeIs_int s x u) F.entry_int_rmul (F.args_int_rmul_2 _ _) (int_rmulT x u l items k dd sl)
      ⟨el, rfl, ⟨_, el, rfl⟩, ?_⟩)
  by_cases hx : x = 1
  · subst hx
    exact call_meets F.slot_tuple_mul ⟨_, el, rfl⟩ F.entry_tuple_mul (F.args_tuple_mul_2 _ _) (tuple_mul1 l items k sl dd u) ⟨el, h rfl⟩
  · exact call_meets F.slot_tuple_mul ⟨_, el, rfl⟩ F.entry_tuple_mul (F.args_tuple_mul_2 _ _) (tuple_mulG l items k dd sl x u (by omega) (by omega) he hc) ⟨el, h'⟩
theorem add_tuple_raw {a b : Addr} {o o' : Obj} {ia ib : Array Value} {na nb : Nat} {Q : Value → Shared → Prop} (ha : s.heap.get? a = some o) (hca : o.cls = .type "tuple") (hda : o.data = .seq ia na) (hb : s.heap.get? b = some o') (hcb : o'.cls = .type "tuple") (hdb : o'.data = .seq ib nb)
    (h0 : ia = #[] → Q (.ref b) s) (h1 : ib = #[] → Q (.ref a) s)
    (h : Q (.ref s.heap.objs.size) { s with heap := s.heap.push { cls := .type "tuple", data := .seq (ia ++ ib) } }) (hsz : ia.size + ib.size ≤ sizeLine) : wpAny (model prog w) A (binaryOp .Add (.ref a) (.ref b)) Q E s := by
  obtain ⟨dd, sl, ea⟩ := tup_parts ha hca hda
  obtain ⟨dd2, sl2, eb⟩ := tup_parts hb hcb hdb
  by_cases hv : ia.isEmpty = true
  · exact concat_meets ⟨_, ea, rfl⟩ ⟨_, eb, rfl⟩ noFill_tuple_add seq_tuple_add PySem.F.slot_tuple_add PySem.F.entry_tuple_add (PySem.F.args_tuple_add_2 _ _) (tuple_addW0 a b ia ib na nb dd dd2 sl sl2 hv) ⟨ea, eb, h0 (by simpa using hv)⟩
  · by_cases hw : ib.isEmpty = true
    · exact concat_meets ⟨_, ea, rfl⟩ ⟨_, eb, rfl⟩ noFill_tuple_add seq_tuple_add PySem.F.slot_tuple_add PySem.F.entry_tuple_add (PySem.F.args_tuple_add_2 _ _) (tuple_addW1 a b ia ib na nb dd dd2 sl sl2 hv hw) ⟨ea, eb, h1 (by simpa using hw)⟩
    · exact concat_meets ⟨_, ea, rfl⟩ ⟨_, eb, rfl⟩ noFill_tuple_add seq_tuple_add PySem.F.slot_tuple_add PySem.F.entry_tuple_add (PySem.F.args_tuple_add_2 _ _) (tuple_addW2 a b ia ib na nb dd dd2 sl sl2 hv hw hsz) ⟨ea, eb, h⟩

theorem VRs.rep {vs ds} (h : VRs F vs ds) : ∀ n, VRs F (List.replicate n vs).flatten (Mine.rep n ds)
  | 0 => by simpa [Mine.rep] using VRs.nil
  | n + 1 => by
    have := VRs.rep h n
    rw [Mine.rep] at this ⊢
    rw [List.replicate_succ, List.replicate_succ, List.flatten_cons, List.flatten_cons]
    exact h.append this

end

section
variable {prog : Program} {w : World} {A : Around} {F : Fz} {s : Shared}


theorem bin_ok {op : Operator} {a b d : D} {va vb : Value} (h : binD op a b = .ok d) (fin : ∀ b o, F b = some o → s.heap.get? b = some o) (ra : VW F s.heap va a) (rb : VW F s.heap vb b) (wk : Bool) :
    EOk prog w A F s wk d (binaryOp op va vb) := by
  unfold binD at h
  split at h
  · cases h; obtain ⟨t, rfl⟩ := ra.intv; obtain ⟨u, rfl⟩ := rb.intv
    exact .now fin fun Q E k => add_int (k _ _ _ (fun _ _ e => e) (.int _ _))
  · cases h; obtain ⟨t, rfl⟩ := ra.intv; obtain ⟨u, rfl⟩ := rb.intv
    exact .now fin fun Q E k => sub_int' (k _ _ _ (fun _ _ e => e) (.int _ _))
  · split at h
    · rename_i x y hm
      cases h; obtain ⟨t, rfl⟩ := ra.intv; obtain ⟨u, rfl⟩ := rb.intv
      exact .now fin fun Q E k => mul_int (k _ _ _ (fun _ _ e => e) (.int _ _)) (by
        unfold IntMulOk; unfold mulB at hm; rw [Bool.not_eq_true'] at hm; rw [hm]; exact Bool.false_ne_true)
    · cases h
  · split at h
    · cases h
    · rename_i x y hm
      rw [not_or] at hm
      cases h; obtain ⟨t, rfl⟩ := ra.intv; obtain ⟨u, rfl⟩ := rb.intv
      exact .now fin fun Q E k => floordiv_int hm.1 (k _ _ _ (fun _ _ e => e) (.int _ _)) (.inl (PyProof.noPylong_of_log2 (ipow9000 _ hm.2)))
  · split at h
    · cases h
    · rename_i x y hm
      cases h; obtain ⟨t, rfl⟩ := ra.intv; obtain ⟨u, rfl⟩ := rb.intv
      exact .now fin fun Q E k => mod_int' hm (k _ _ _ (fun _ _ e => e) (.int _ _))
  · split at h
    · rename_i x y hm
      unfold powB at hm
      rw [Bool.and_eq_true, decide_eq_true_eq, decide_eq_true_eq] at hm
      cases h; obtain ⟨t, rfl⟩ := ra.intv; obtain ⟨u, rfl⟩ := rb.intv
      exact .now fin fun Q E k => pow_int hm.1 hm.2 (k _ _ _ (fun _ _ e => e) (.int _ _))
    · cases h
  · split at h
    · rename_i xs ys hm
      cases h
      obtain ⟨a, ia, na, rfl, ea, qa⟩ := ra.list fin
      obtain ⟨b, ib, nb, rfl, eb, qb⟩ := rb.list fin
      have l1 := qa.length; have l2 := qb.length
      rw [Array.length_toList] at l1 l2
      refine .newList fin fun Q E k => add_list_raw ea eb (k _ _ s.toks _ _ (fun _ _ e => Heap.get?_push_of_some _ e) (none_size _) (Heap.get?_push_size _ rfl) ?_) (by rw [sizeLine_eq]; rw [lim_eq] at hm; omega)
      rw [Array.toList_append]; exact qa.append qb
    · cases h
  · split at h
    · rename_i xs n hm
      cases h
      obtain ⟨a, ia, na, rfl, ea, qa⟩ := ra.list fin
      obtain ⟨u, rfl⟩ := rb.intv
      have l1 := qa.length
      rw [Array.length_toList] at l1
      rw [lim_eq] at hm
      refine .newList fin fun Q E k => mul_list_raw ea (by omega) (by omega) (by rw [l1]; omega) (k _ _ s.toks _ _ (fun _ _ e => Heap.get?_push_of_some _ e) (none_size _) (Heap.get?_push_size _ rfl) ?_)
      have hne : ia.isEmpty = false := by rw [Array.isEmpty_eq_false_iff_exists_mem]; have : 0 < ia.size := by omega
                                          exact ⟨ia[0], Array.getElem_mem _⟩
      rw [hne, foldl_cat]
      simpa using qa.rep n.toNat
    · cases h
  · split at h
    · rename_i xs ys hm
      cases h
      obtain ⟨a, oa, ia, na, rfl, ea, ca, da, qa⟩ := ra.tup fin
      obtain ⟨b, ob, ib, nb, rfl, eb, cb, db, qb⟩ := rb.tup fin
      have l1 := qa.length; have l2 := qb.length
      rw [Array.length_toList] at l1 l2
      rw [lim_eq] at hm
      refine .newTup fin fun Q E k k2 => add_tuple_raw ea ca da eb cb db (fun q => ?_) (fun q => ?_) (k2 _ _ s.toks _ _ (fun _ _ e => Heap.get?_push_of_some _ e) (none_size _) (Heap.get?_push_size _ rfl) ?_) (by rw [sizeLine_eq]; omega)
      · have : xs = [] := by rw [← List.length_eq_zero_iff, ← l1, q]; rfl
        subst this
        cases rb with
        | frz r => exact k _ _ s.toks (fun _ _ e => e) r
      · have : ys = [] := by rw [← List.length_eq_zero_iff, ← l2, q]; rfl
        subst this
        rw [List.append_nil] at k
        cases ra with
        | frz r => exact k _ _ s.toks (fun _ _ e => e) r
      · rw [Array.toList_append]; exact qa.append qb
    · cases h
  · split at h
    · rename_i xs n hm
      cases h
      obtain ⟨a, oa, ia, na, rfl, ea, ca, da, qa⟩ := ra.tup fin
      obtain ⟨u, rfl⟩ := rb.intv
      have l1 := qa.length
      rw [Array.length_toList] at l1
      rw [lim_eq] at hm
      have hne : ia.isEmpty = false := by rw [Array.isEmpty_eq_false_iff_exists_mem]; have : 0 < ia.size := by omega
                                          exact ⟨ia[0], Array.getElem_mem _⟩
      refine .newTup fin fun Q E k k2 => mul_tuple_raw ea ca da hm.2.2.2 (by omega) hne (by rw [l1]; omega) (fun q => ?_) (k2 _ _ s.toks _ _ (fun _ _ e => Heap.get?_push_of_some _ e) (none_size _) (Heap.get?_push_size _ rfl) ?_)
      · subst q
        have e1 : rep (1 : Int).toNat xs = xs := by unfold rep; simp
        rw [e1] at k
        cases ra with
        | frz r => exact k _ _ s.toks (fun _ _ e => e) r
      · rw [foldl_cat]
        simpa using qa.rep n.toNat
    · cases h
  · cases h

theorem shp_ok {d : D} (h : shp d = true) : d.canLay0 = true ∧ d.depth ≤ 64 := by
  unfold shp at h; rw [Bool.and_eq_true, decide_eq_true_eq] at h; exact h

theorem cmp_ok {op : CmpOp} {a b : D} {c : Bool} {va vb : Value} (h : cmpD op a b = .ok c) (fin : ∀ b o, F b = some o → s.heap.get? b = some o) (ra : VW F s.heap va a) (rb : VW F s.heap vb b) (wk : Bool)
    (hu : A.units + 200 < cLine) : EOk prog w A F s wk (.bool c) (compareOp op va vb) := by
  unfold cmpD at h
  split at h
  · split at h
    · rename_i hs; rw [Bool.and_eq_true] at hs
      obtain ⟨⟨a1, a2⟩, b1, b2⟩ := And.intro (shp_ok hs.1) (shp_ok hs.2)
      cases h; obtain ⟨_, pa⟩ := ra.reads fin; obtain ⟨_, pb⟩ := rb.reads fin
      exact .now fin fun Q E k => SeqAt.compareEq_reads pa pb a1 b1 (by have := Nat.min_le_left a.depth b.depth; omega) (k _ _ s.toks (fun _ _ e => e) (.bool _))
    · cases h
  · split at h
    · rename_i hs; rw [Bool.and_eq_true] at hs
      obtain ⟨⟨a1, a2⟩, b1, b2⟩ := And.intro (shp_ok hs.1) (shp_ok hs.2)
      cases h; obtain ⟨_, pa⟩ := ra.reads fin; obtain ⟨_, pb⟩ := rb.reads fin
      exact .now fin fun Q E k => SeqAt.compareNe_reads pa pb a1 b1 (by have := Nat.min_le_left a.depth b.depth; omega) (k _ _ s.toks (fun _ _ e => e) (.bool _))
    · cases h
  · cases h; obtain ⟨t, rfl⟩ := ra.intv; obtain ⟨u, rfl⟩ := rb.intv
    exact .now fin fun Q E k => lt_int (k _ _ s.toks (fun _ _ e => e) (.bool _))
  · cases h; obtain ⟨t, rfl⟩ := ra.intv; obtain ⟨u, rfl⟩ := rb.intv
    exact .now fin fun Q E k => le_int (k _ _ s.toks (fun _ _ e => e) (.bool _))
  · cases h; obtain ⟨t, rfl⟩ := ra.intv; obtain ⟨u, rfl⟩ := rb.intv
    exact .now fin fun Q E k => gt_int (k _ _ s.toks (fun _ _ e => e) (.bool _))
  · cases h; obtain ⟨t, rfl⟩ := ra.intv; obtain ⟨u, rfl⟩ := rb.intv
    exact .now fin fun Q E k => ge_int (k _ _ s.toks (fun _ _ e => e) (.bool _))
  · split at h
    · rename_i xs hs; rw [Bool.and_eq_true] at hs
      obtain ⟨⟨a1, a2⟩, b1, b2⟩ := And.intro (shp_ok hs.1) (shp_ok hs.2)
      cases h; obtain ⟨_, pa⟩ := ra.reads fin; obtain ⟨_, pb⟩ := rb.reads fin
      exact .now fin fun Q E k => SeqAt.in_list_reads pb pa (by simpa [PyData.canLay0] using b1) a1 (by have := Nat.min_le_right (PyData.depthAll xs) a.depth; omega) (k _ _ s.toks (fun _ _ e => e) (.bool _))
    · cases h
  · split at h
    · rename_i xs hs; rw [Bool.and_eq_true] at hs
      obtain ⟨⟨a1, a2⟩, b1, b2⟩ := And.intro (shp_ok hs.1) (shp_ok hs.2)
      cases h; obtain ⟨_, pa⟩ := ra.reads fin; obtain ⟨_, pb⟩ := rb.reads fin
      exact .now fin fun Q E k => SeqAt.in_tuple_reads pb pa (by simpa [PyData.canLay0] using b1) a1 (by have := Nat.min_le_right (PyData.depthAll xs) a.depth; omega) (k _ _ s.toks (fun _ _ e => e) (.bool _))
    · cases h
  · cases h
    obtain rfl := ra.nonev; obtain rfl := rb.nonev
    exact .now fin fun Q E k => PySem.isNot_none (k _ _ s.toks (fun _ _ e => e) (.bool _))
  · split at h
    · rename_i r rows hr hk
      cases h
      have e1 := intsD_eq hr
      have e2 := keysI_eq hk
      subst e1
      rw [e2] at rb
      exact .now fin fun Q E k => in_dict fin ra rb hu fun tk => k _ _ tk (fun _ _ e => e) (.bool _)
    · cases h
  · cases h

theorem tr_ok {d : D} {b : Bool} {v : Value} (h : trD d = .ok b) (fin : ∀ b o, F b = some o → s.heap.get? b = some o) (r : VW F s.heap v d) :
    TOk prog w A F s b (truthy v) := fun Q E k => by
  unfold trD at h
  split at h
  · cases h; obtain rfl := r.nonev
    exact truthy_none (k _ s.toks _ (Ext.refl fin))
  · cases h; obtain rfl := r.boolv
    exact wpAny_truthy_bool (k _ s.toks _ (Ext.refl fin))
  · cases h; obtain ⟨t, rfl⟩ := r.intv
    exact P.truthy_int (k _ s.toks _ (Ext.refl fin))
  · split at h
    · rename_i xs hm
      cases h
      obtain ⟨a, ia, na, rfl, ea, qa⟩ := r.list fin
      have l1 := qa.length
      rw [Array.length_toList] at l1
      rw [lim_eq] at hm
      refine wpAny_truthy_list ea.isl (by omega) ?_
      have : ia.isEmpty = xs.isEmpty := by
        rw [Array.isEmpty]; cases xs <;> simp_all
      rw [this]
      exact k _ _ _ (Ext.refl fin)
    · cases h
  · cases h

theorem un_ok {op : UnaryOp} {d c : D} {v : Value} (h : unD op d = .ok c) (fin : ∀ b o, F b = some o → s.heap.get? b = some o) (r : VW F s.heap v d) (wk : Bool) :
    EOk prog w A F s wk c (unaryOp op v) := by
  unfold unD at h
  split at h
  · cases h; obtain ⟨t, rfl⟩ := r.intv
    exact .now fin fun Q E k => P.neg_int (k _ _ _ (fun _ _ e => e) (.int _ _))
  · obtain ⟨b, hb, hc⟩ := Out.bind_ok h
    cases hc
    exact fun Q E k => not_of (tr_ok hb fin r _ _ fun h' tk F' x => k _ _ _ _ x (.frz (.bool _)) fun _ => .bool _)
  · cases h
end

end Mine

/-! Srt -/
namespace Mine

/-! The comparison tree of sort, run by a weak order: the result is in order. -/
def runT {α : Type} (lt : Nat → Nat → Bool) : KasT α → α
  | .ret a => a
  | .ask i j k => runT lt (k (lt i j))
theorem runT_bind {α β : Type} {lt : Nat → Nat → Bool} {f : α → KasT β} : ∀ t : KasT α, runT lt (t.bind f) = runT lt (f (runT lt t))
  | .ret a => rfl
  | .ask i j k => runT_bind (k (lt i j))

def Asks {α : Type} (R : Nat → Prop) : KasT α → (α → Prop) → Prop
  | .ret a, P => P a
  | .ask i j k, P => R i ∧ R j ∧ ∀ b, Asks R (k b) P
theorem Asks.bind {α β : Type} {R : Nat → Prop} {f : α → KasT β} {P : β → Prop} : ∀ {t : KasT α}, Asks R t (fun a => Asks R (f a) P) → Asks R (t.bind f) P
  | .ret a, h => h
  | .ask i j k, h => ⟨h.1, h.2.1, fun b => Asks.bind (h.2.2 b)⟩
theorem Asks.mono {α : Type} {R : Nat → Prop} {P P' : α → Prop} (hp : ∀ a, P a → P' a) : ∀ {t : KasT α}, Asks R t P → Asks R t P'
  | .ret a, h => hp a h
  | .ask i j k, h => ⟨h.1, h.2.1, fun b => Asks.mono hp (h.2.2 b)⟩

theorem kasWp_run {α : Type} {cmp : Nat → Nat → (Bool → Shared → Prop) → Shared → Prop} {lt : Nat → Nat → Bool} {Inv : Shared → Prop} {R : Nat → Prop} {P : α → Prop} (h : ∀ i j C s, R i → R j → Inv s → (∀ s', Inv s' → C (lt i j) s') → cmp i j C s) :
    ∀ (t : KasT α) (Q : α → Shared → Prop) (s : Shared), Asks R t P → Inv s → (∀ s', Inv s' → Q (runT lt t) s') → t.kasWp cmp Q s
  | .ret a, Q, s, _, hi, hq => hq s hi
  | .ask i j k, Q, s, hR, hi, hq => h i j _ s hR.1 hR.2.1 hi fun s' hi' => kasWp_run h (k (lt i j)) Q s' (hR.2.2 _) hi' hq

/-! what the tree asks for -/
def PR (R : Nat → Prop) (p : Array Nat) : Prop := (∀ x ∈ p, R x) ∧ R 0
theorem PR.at {R : Nat → Prop} {p : Array Nat} (h : PR R p) (i : Nat) : R (p.getD i 0) := by
  unfold Array.getD
  split
  · exact h.1 _ (Array.getElem_mem _)
  · exact h.2
theorem PR.perm {R : Nat → Prop} {p q : Array Nat} (h : PR R p) (e : q.Perm p) : PR R q := ⟨fun x hx => h.1 x (e.mem_iff.mp hx), h.2⟩
theorem PR.rev {R : Nat → Prop} {p : Array Nat} (h : PR R p) (i j : Nat) : PR R (kas_rev p i j) := h.perm (mirror_perm _ _ _ _)
theorem asks_asc {R : Nat → Prop} {p : Array Nat} (h : PR R p) : ∀ (f n : Nat), Asks R (kas_asc p f n) (fun _ => True)
  | 0, n => trivial
  | f + 1, n => ⟨h.at _, h.at _, fun b => by cases b <;> first | trivial | exact asks_asc h f (n + 1)⟩
theorem asks_desc {R : Nat → Prop} : ∀ (f : Nat) (p : Array Nat) (n q : Nat), PR R p → Asks R (kas_desc f p n q) (fun r => PR R r.1)
  | 0, p, n, q, h => h
  | f + 1, p, n, q, h => ⟨h.at _, h.at _, fun b => by
    cases b with
    | true =>
      show Asks R (if q > 0 then kas_desc f (kas_rev p (n - (q + 1)) n) (n + 1) 0 else kas_desc f p (n + 1) 0) _
      split
      · exact asks_desc f _ _ _ (h.rev _ _)
      · exact asks_desc f _ _ _ h
    | false => exact ⟨h.at _, h.at _, fun d => by
        cases d with
        | true => exact h
        | false => exact asks_desc f _ _ _ h⟩⟩
theorem asks_tail3 {R : Nat → Prop} {p : Array Nat} (h : PR R p) (n nrem : Nat) : Asks R (kas_tail3 n nrem p) (fun r => PR R r.2) :=
  Asks.bind ((asks_asc (h.rev 0 n) _ _).mono fun _ _ => h.rev 0 n)
theorem asks_descPart {R : Nat → Prop} {p : Array Nat} (h : PR R p) (n nrem : Nat) : Asks R (kas_descPart n nrem p) (fun r => PR R r.2) :=
  Asks.bind ((asks_desc _ _ _ _ h).mono fun r hr => by
    split
    · exact asks_tail3 (hr.rev _ _) _ _
    · exact asks_tail3 hr _ _)
theorem asks_count {R : Nat → Prop} {p : Array Nat} (h : PR R p) (nrem : Nat) : Asks R (kas_count nrem p) (fun r => PR R r.2) :=
  Asks.bind ((asks_asc h _ _).mono fun n _ => by
    split
    · exact h
    · split
      · refine ⟨h.at _, h.at _, fun b => ?_⟩
        cases b with
        | true => exact h
        | false => exact asks_descPart (h.rev _ _) _ _
      · exact asks_descPart h _ _)
theorem asks_place {R : Nat → Prop} {p : Array Nat} (h : PR R p) (k : Nat) : ∀ f l r, Asks R (kas_place p k f l r) (fun _ => True)
  | 0, l, r => trivial
  | f + 1, l, r => by
    unfold kas_place
    split
    · trivial
    · exact ⟨h.at _, h.at _, fun b => by cases b <;> exact asks_place h k f _ _⟩
theorem asks_bin {R : Nat → Prop} : ∀ (f : Nat) (p : Array Nat) (k : Nat), PR R p → Asks R (kas_bin f p k) (fun _ => True)
  | 0, p, k, h => trivial
  | f + 1, p, k, h => Asks.bind ((asks_place h k k 0 k).mono fun l _ => asks_bin f _ _ (h.perm (bubble_perm _ _ _)))
theorem asks_sort {n : Nat} (hn : 0 < n) : Asks (· < n) (kas_sort n) (fun _ => True) :=
  Asks.bind ((asks_count ⟨fun x hx => by simpa using hx, hn⟩ n).mono fun r hr => by
    split
    · exact asks_bin _ _ _ hr
    · trivial)

structure WO (lt : Nat → Nat → Bool) : Prop where
  asym : ∀ a b, lt a b = true → lt b a = false
  trans : ∀ a b c, lt b a = false → lt c b = false → lt c a = false

section
variable {lt : Nat → Nat → Bool}
abbrev at' (p : Array Nat) (i : Nat) : Nat := p.getD i 0
/-- the first m are in order -/
def Up (lt : Nat → Nat → Bool) (p : Array Nat) (m : Nat) : Prop := ∀ i j, i < j → j < m → lt (at' p j) (at' p i) = false
def Dn (lt : Nat → Nat → Bool) (p : Array Nat) (m : Nat) : Prop := ∀ i j, i < j → j < m → lt (at' p i) (at' p j) = false

theorem at'_of {p : Array Nat} {i x : Nat} (h : p[i]? = some x) : at' p i = x := by
  unfold at'; rw [Array.getD_eq_getD_getElem?, h]; rfl
theorem at'_eq {p q : Array Nat} {i j : Nat} (h : p[i]? = q[j]?) : at' p i = at' q j := by
  unfold at'; rw [Array.getD_eq_getD_getElem?, Array.getD_eq_getD_getElem?, h]

theorem rev_at {p : Array Nat} {i j k : Nat} (hij : i ≤ j) (hj : j ≤ p.size) : at' (kas_rev p i j) k = if i ≤ k ∧ k < j then at' p (i + j - 1 - k) else at' p k := by
  unfold kas_rev
  split
  · rename_i hk
    by_cases hm : k = i + j - 1 - k
    · rw [← hm]
      refine at'_eq ?_
      rw [getElem?_mirror hj _ (by omega)]
      rw [if_neg (by omega)]
    · refine at'_eq ?_
      rw [getElem?_mirror hj _ (by omega)]
      rw [if_pos (by omega)]
  · refine at'_eq ?_
    rw [getElem?_mirror hj _ (by omega)]
    rw [if_neg (by omega)]
theorem rev_size {p : Array Nat} {i j : Nat} : (kas_rev p i j).size = p.size := mirror_size _ _ _ _
theorem rev_perm {p : Array Nat} {i j : Nat} : (kas_rev p i j).Perm p := mirror_perm _ _ _ _

theorem Up.snoc (o : WO lt) {p : Array Nat} {m : Nat} (h : Up lt p m) (hm : 0 < m) (hl : lt (at' p m) (at' p (m - 1)) = false) : Up lt p (m + 1) := fun i j hij hj => by
  by_cases e : j = m
  · subst e
    by_cases e2 : i = j - 1
    · rw [e2]; exact hl
    · exact o.trans _ _ _ (h i (j - 1) (by omega) (by omega)) hl
  · exact h i j hij (by omega)
theorem Dn.snoc (o : WO lt) {p : Array Nat} {m : Nat} (h : Dn lt p m) (hm : 0 < m) (hl : lt (at' p (m - 1)) (at' p m) = false) : Dn lt p (m + 1) := fun i j hij hj => by
  by_cases e : j = m
  · subst e
    by_cases e2 : i = j - 1
    · rw [e2]; exact hl
    · exact o.trans _ _ _ hl (h i (j - 1) (by omega) (by omega))
  · exact h i j hij (by omega)

theorem asc_ok (o : WO lt) {p : Array Nat} : ∀ (f n : Nat), 0 < n → Up lt p n → n ≤ runT lt (kas_asc p f n) ∧ runT lt (kas_asc p f n) ≤ n + f ∧ Up lt p (runT lt (kas_asc p f n)) ∧
    (runT lt (kas_asc p f n) < n + f → lt (at' p (runT lt (kas_asc p f n))) (at' p (runT lt (kas_asc p f n) - 1)) = true)
  | 0, n, _, h => ⟨Nat.le_refl _, Nat.le_refl _, h, fun q => absurd q (by show ¬ n < n + 0; omega)⟩
  | f + 1, n, hn, h => by
    unfold kas_asc
    show n ≤ runT lt (if lt (at' p n) (at' p (n - 1)) = true then KasT.ret n else kas_asc p f (n + 1)) ∧ _
    cases hc : lt (at' p n) (at' p (n - 1)) with
    | true =>
      simp only [runT, hc, if_true]
      exact ⟨Nat.le_refl _, by omega, h, fun _ => trivial⟩
    | false =>
      simp only [runT, hc, Bool.false_eq_true, if_false]
      obtain ⟨h1, h2, h3, h4⟩ := asc_ok o f (n + 1) (by omega) (h.snoc o hn hc)
      exact ⟨by omega, by omega, h3, fun q => h4 (by omega)⟩

/-- the last q + 1 of the first n are alike -/
def Eqs (lt : Nat → Nat → Bool) (p : Array Nat) (n q : Nat) : Prop := ∀ i j, n ≤ i + (q + 1) → n ≤ j + (q + 1) → i < n → j < n → lt (at' p i) (at' p j) = false

theorem Dn.rev {p : Array Nat} {n q : Nat} (hn : n ≤ p.size) (hq : q + 1 ≤ n) (h : Dn lt p n) (he : Eqs lt p n q) : Dn lt (kas_rev p (n - (q + 1)) n) n := fun i j hij hj => by
  rw [rev_at (by omega) hn, rev_at (by omega) hn]
  split
  · split
    · exact he _ _ (by omega) (by omega) (by omega) (by omega)
    · omega
  · split
    · exact h _ _ (by omega) (by omega)
    · exact h _ _ hij hj
theorem Dn.up {p : Array Nat} {n : Nat} (hn : n ≤ p.size) (h : Dn lt p n) : Up lt (kas_rev p 0 n) n := fun i j hij hj => by
  rw [rev_at (by omega) hn, rev_at (by omega) hn, if_pos (by omega), if_pos (by omega)]
  exact h _ _ (by omega) (by omega)

theorem desc_ok (o : WO lt) : ∀ (f : Nat) (p : Array Nat) (n q : Nat), q + 1 ≤ n → n + f ≤ p.size → Dn lt p n → Eqs lt p n q → ∀ r, r = runT lt (kas_desc f p n q) →
    r.1.size = p.size ∧ r.1.Perm p ∧ n ≤ r.2.1 ∧ r.2.1 ≤ n + f ∧ Dn lt r.1 r.2.1 ∧ r.2.2 + 1 ≤ r.2.1 ∧ Eqs lt r.1 r.2.1 r.2.2
  | 0, p, n, q, hq, hs, h, he, r, hr => by
    subst hr
    exact ⟨rfl, .refl _, Nat.le_refl _, Nat.le_refl _, h, hq, he⟩
  | f + 1, p, n, q, hq, hs, h, he, r, hr => by
    unfold kas_desc at hr
    have irr : ∀ a, lt a a = false := fun a => by
      cases e : lt a a with
      | false => rfl
      | true => rw [o.asym _ _ e] at e; cases e
    cases hc : lt (at' p n) (at' p (n - 1)) with
    | true =>
      have hd : Dn lt p (n + 1) := h.snoc o (by omega) (o.asym _ _ hc)
      have e1 : ∀ p' : Array Nat, Eqs lt p' (n + 1) 0 := fun p' i j hi hj hi2 hj2 => by
        rw [show i = j by omega]; exact irr _
      by_cases hq0 : q > 0
      · have hr' : r = runT lt (kas_desc f (kas_rev p (n - (q + 1)) n) (n + 1) 0) := by
          rw [hr]; show runT lt (if lt (at' p n) (at' p (n - 1)) = true then _ else _) = _
          rw [if_pos hc, if_pos hq0]
        have hdr : Dn lt (kas_rev p (n - (q + 1)) n) (n + 1) := by
          have h1 := h.rev (by omega) hq he
          refine h1.snoc o (by omega) ?_
          rw [rev_at (by omega) (by omega), rev_at (by omega) (by omega), if_pos (by omega), if_neg (by omega)]
          exact o.trans _ _ _ (o.asym _ _ hc) (he _ _ (by omega) (by omega) (by omega) (by omega))
        obtain ⟨a1, a2, a3, a4, a5, a6, a7⟩ := desc_ok o f _ (n + 1) 0 (by omega) (by rw [rev_size]; omega) hdr (e1 _) r hr'
        exact ⟨a1.trans rev_size, a2.trans rev_perm, by omega, by omega, a5, a6, a7⟩
      · have hr' : r = runT lt (kas_desc f p (n + 1) 0) := by
          rw [hr]; show runT lt (if lt (at' p n) (at' p (n - 1)) = true then _ else _) = _
          rw [if_pos hc, if_neg hq0]
        obtain ⟨a1, a2, a3, a4, a5, a6, a7⟩ := desc_ok o f _ (n + 1) 0 (by omega) (by omega) hd (e1 _) r hr'
        exact ⟨a1, a2, by omega, by omega, a5, a6, a7⟩
    | false =>
      cases hc2 : lt (at' p (n - 1)) (at' p n) with
      | true =>
        have hr' : r = (p, n, q) := by
          rw [hr]; show runT lt (if lt (at' p n) (at' p (n - 1)) = true then _ else _) = _
          rw [if_neg (by rw [hc]; decide)]
          show runT lt (if lt (at' p (n - 1)) (at' p n) = true then _ else _) = _
          rw [if_pos hc2]; rfl
        subst hr'
        exact ⟨rfl, .refl _, Nat.le_refl _, by show n ≤ n + (f + 1); omega, h, hq, he⟩
      | false =>
        have hr' : r = runT lt (kas_desc f p (n + 1) (q + 1)) := by
          rw [hr]; show runT lt (if lt (at' p n) (at' p (n - 1)) = true then _ else _) = _
          rw [if_neg (by rw [hc]; decide)]
          show runT lt (if lt (at' p (n - 1)) (at' p n) = true then _ else _) = _
          rw [if_neg (by rw [hc2]; decide)]
        have he' : Eqs lt p (n + 1) (q + 1) := fun i j hi hj hi2 hj2 => by
          by_cases ei : i = n
          · by_cases ej : j = n
            · rw [ei, ej]; exact irr _
            · subst ei
              exact o.trans _ _ _ (he _ _ (by omega) (by omega) (by omega) (by omega)) hc
          · by_cases ej : j = n
            · subst ej
              exact o.trans _ _ _ hc2 (he _ _ (by omega) (by omega) (by omega) (by omega))
            · exact he _ _ (by omega) (by omega) (by omega) (by omega)
        obtain ⟨a1, a2, a3, a4, a5, a6, a7⟩ := desc_ok o f _ (n + 1) (q + 1) (by omega) (by omega) (h.snoc o (by omega) hc2) he' r hr'
        exact ⟨a1, a2, by omega, by omega, a5, a6, a7⟩

theorem tail3_ok (o : WO lt) {p : Array Nat} {n nrem : Nat} (hn : 0 < n) (hr : n ≤ nrem) (hs : nrem ≤ p.size) (h : Dn lt p n) : ∀ r, r = runT lt (kas_tail3 n nrem p) → r.2.size = p.size ∧ r.2.Perm p ∧ 0 < r.1 ∧ r.1 ≤ nrem ∧ Up lt r.2 r.1 := fun r hr' => by
  unfold kas_tail3 at hr'
  rw [runT_bind] at hr'
  obtain ⟨h1, h2, h3, _⟩ := asc_ok o (p := kas_rev p 0 n) (nrem - n) n hn (h.up (by omega))
  subst hr'
  exact ⟨rev_size, rev_perm, by show 0 < runT lt _; omega, by show runT lt _ ≤ _; omega, h3⟩

theorem descPart_ok (o : WO lt) {p : Array Nat} {n nrem : Nat} (hn : 0 < n) (hr : n + 1 ≤ nrem) (hs : nrem ≤ p.size) (h : Dn lt p (n + 1)) : ∀ r, r = runT lt (kas_descPart n nrem p) → r.2.size = p.size ∧ r.2.Perm p ∧ 0 < r.1 ∧ r.1 ≤ nrem ∧ Up lt r.2 r.1 := fun r hr' => by
  have irr : ∀ a, lt a a = false := fun a => by
    cases e : lt a a with
    | false => rfl
    | true => rw [o.asym _ _ e] at e; cases e
  unfold kas_descPart at hr'
  rw [runT_bind] at hr'
  obtain ⟨a1, a2, a3, a4, a5, a6, a7⟩ := desc_ok o (nrem - (n + 1)) p (n + 1) 0 (by omega) (by omega) h (fun i j hi hj hi2 hj2 => by rw [show i = j by omega]; exact irr _) _ rfl
  generalize runT lt (kas_desc (nrem - (n + 1)) p (n + 1) 0) = t at *
  by_cases hq : t.2.2 > 0
  · rw [if_pos hq] at hr'
    obtain ⟨b1, b2, b3, b4, b5⟩ := tail3_ok o (by omega) (by omega) (by rw [rev_size, a1]; exact hs) (a5.rev (by rw [a1]; omega) a6 a7) r hr'
    exact ⟨b1.trans (rev_size.trans a1), b2.trans (rev_perm.trans a2), b3, b4, b5⟩
  · rw [if_neg hq] at hr'
    obtain ⟨b1, b2, b3, b4, b5⟩ := tail3_ok o (by omega) (by omega) (by rw [a1]; exact hs) a5 r hr'
    exact ⟨b1.trans a1, b2.trans a2, b3, b4, b5⟩

theorem count_ok (o : WO lt) {p : Array Nat} {nrem : Nat} (h1 : 1 ≤ nrem) (hs : nrem ≤ p.size) : ∀ r, r = runT lt (kas_count nrem p) → r.2.size = p.size ∧ r.2.Perm p ∧ 0 < r.1 ∧ r.1 ≤ nrem ∧ Up lt r.2 r.1 := fun r hr => by
  unfold kas_count at hr
  rw [runT_bind] at hr
  obtain ⟨a1, a2, a3, a4⟩ := asc_ok o (p := p) (nrem - 1) 1 (by omega) (fun i j hij hj => by omega)
  generalize runT lt (kas_asc p (nrem - 1) 1) = m at *
  by_cases hm : (m == nrem) = true
  · rw [if_pos hm] at hr
    have : m = nrem := by simpa using hm
    subst hr
    exact ⟨rfl, .refl _, by show 0 < m; omega, by show m ≤ nrem; omega, a3⟩
  · rw [if_neg hm] at hr
    have hne : m ≠ nrem := by simpa using hm
    have hlast := a4 (by omega)
    by_cases hm1 : m > 1
    · rw [if_pos hm1] at hr
      replace hr : r = runT lt (if lt (at' p 0) (at' p (m - 1)) = true then KasT.ret (m, p) else kas_descPart m nrem (kas_rev p 0 m)) := hr
      cases hc : lt (at' p 0) (at' p (m - 1)) with
      | true =>
        rw [hc, if_pos rfl] at hr
        subst hr
        exact ⟨rfl, .refl _, by show 0 < m; omega, by show m ≤ nrem; omega, a3⟩
      | false =>
        rw [hc, if_neg (by decide)] at hr
        -- all of the first m are alike
        have alike : ∀ i j, i < m → j < m → lt (at' p i) (at' p j) = false := fun i j hi hj => by
          have lo : ∀ k, k < m → lt (at' p k) (at' p 0) = false := fun k hk => by
            by_cases e : k = 0
            · rw [e]
              cases q : lt (at' p 0) (at' p 0) with
              | false => rfl
              | true => rw [o.asym _ _ q] at q; cases q
            · exact a3 0 k (by omega) hk
          have hi' : ∀ k, k < m → lt (at' p (m - 1)) (at' p k) = false := fun k hk => by
            by_cases e : k = m - 1
            · rw [e]
              cases q : lt (at' p (m - 1)) (at' p (m - 1)) with
              | false => rfl
              | true => rw [o.asym _ _ q] at q; cases q
            · exact a3 k (m - 1) (by omega) (by omega)
          exact o.trans _ _ _ (o.trans _ _ _ (hi' j hj) hc) (lo i hi)
        have hd : Dn lt (kas_rev p 0 m) (m + 1) := by
          have h1 : Dn lt (kas_rev p 0 m) m := fun i j hij hj => by
            rw [rev_at (by omega) (by omega), rev_at (by omega) (by omega), if_pos (by omega), if_pos (by omega)]
            exact alike _ _ (by omega) (by omega)
          refine h1.snoc o (by omega) ?_
          rw [rev_at (by omega) (by omega), rev_at (by omega) (by omega), if_pos (by omega), if_neg (by omega)]
          exact o.trans _ _ _ (o.asym _ _ hlast) (alike _ _ (by omega) (by omega))
        obtain ⟨b1, b2, b3, b4, b5⟩ := descPart_ok o (by omega) (by omega) (by rw [rev_size]; exact hs) hd r hr
        exact ⟨b1.trans rev_size, b2.trans rev_perm, b3, b4, b5⟩
    · rw [if_neg hm1] at hr
      have hm' : m = 1 := by omega
      subst hm'
      refine descPart_ok o (by omega) (by omega) hs (fun i j hij hj => ?_) r hr
      rw [show i = 0 by omega, show j = 1 by omega]
      exact o.asym _ _ hlast

theorem place_ok (o : WO lt) {p : Array Nat} {k : Nat} : ∀ (f l r : Nat), l ≤ r → r ≤ l + f → r ≤ k → (∀ i, i < l → lt (at' p k) (at' p i) = false) → (∀ i, r ≤ i → i < k → lt (at' p k) (at' p i) = true) → Up lt p k → ∀ m, m = runT lt (kas_place p k f l r) →
    l ≤ m ∧ m ≤ r ∧ (∀ i, i < m → lt (at' p k) (at' p i) = false) ∧ (∀ i, m ≤ i → i < k → lt (at' p k) (at' p i) = true)
  | 0, l, r, hlr, hf, hr, h1, h2, hu, m, hm => by
    have : m = l := hm
    subst this
    exact ⟨Nat.le_refl _, hlr, h1, fun i hi hk => h2 i (by omega) hk⟩
  | f + 1, l, r, hlr, hf, hr, h1, h2, hu, m, hm => by
    unfold kas_place at hm
    by_cases hge : l ≥ r
    · rw [if_pos hge] at hm
      have : m = l := hm
      subst this
      exact ⟨Nat.le_refl _, hlr, h1, fun i hi hk => h2 i (by omega) hk⟩
    · rw [if_neg hge] at hm
      replace hm : m = runT lt (if lt (at' p k) (at' p ((l + r) / 2)) = true then kas_place p k f l ((l + r) / 2) else kas_place p k f ((l + r) / 2 + 1) r) := hm
      cases hc : lt (at' p k) (at' p ((l + r) / 2)) with
      | true =>
        rw [hc, if_pos rfl] at hm
        obtain ⟨b1, b2, b3, b4⟩ := place_ok o f l ((l + r) / 2) (by omega) (by omega) (by omega) h1 (fun i hi hk => by
          by_cases e : i = (l + r) / 2
          · rw [e]; exact hc
          · cases q : lt (at' p k) (at' p i) with
            | true => rfl
            | false =>
              have := o.trans _ _ _ (hu ((l + r) / 2) i (by omega) hk) q
              rw [hc] at this; cases this) hu m hm
        exact ⟨b1, by omega, b3, b4⟩
      | false =>
        rw [hc, if_neg (by decide)] at hm
        obtain ⟨b1, b2, b3, b4⟩ := place_ok o f ((l + r) / 2 + 1) r (by omega) (by omega) hr (fun i hi => by
          by_cases e : i = (l + r) / 2
          · rw [e]; exact hc
          · exact o.trans _ _ _ (hu i ((l + r) / 2) (by omega) (by omega)) hc) h2 hu m hm
        exact ⟨by omega, b2, b3, b4⟩

theorem bub_at {p : Array Nat} {k l i : Nat} (hl : l ≤ k) (hk : k < p.size) : at' (bubble p k (k - l)) i = if i = l then at' p k else if l < i ∧ i ≤ k then at' p (i - 1) else at' p i := by
  have e := getElem?_bubble hk (k - l) (by omega) i
  rw [show k - (k - l) = l by omega] at e
  by_cases h : i = l
  · rw [if_pos h] at e ⊢; exact at'_eq e
  · rw [if_neg h] at e ⊢
    by_cases h2 : l < i ∧ i ≤ k
    · rw [if_pos h2] at e ⊢; exact at'_eq e
    · rw [if_neg h2] at e ⊢; exact at'_eq e

theorem bin_ok' (o : WO lt) : ∀ (f : Nat) (p : Array Nat) (k : Nat), k + f ≤ p.size → Up lt p k → ∀ r, r = runT lt (kas_bin f p k) → r.size = p.size ∧ r.Perm p ∧ Up lt r (k + f)
  | 0, p, k, _, h, r, hr => by
    have : r = p := hr
    subst this
    exact ⟨rfl, .refl _, h⟩
  | f + 1, p, k, hs, h, r, hr => by
    unfold kas_bin at hr
    rw [runT_bind] at hr
    obtain ⟨b1, b2, b3, b4⟩ := place_ok o k 0 k (by omega) (by omega) (Nat.le_refl _) (fun i hi => by omega) (fun i hi hk => by omega) h _ rfl
    generalize runT lt (kas_place p k k 0 k) = l at *
    have hu : Up lt (bubble p k (k - l)) (k + 1) := fun i j hij hj => by
      rw [bub_at b2 (by omega), bub_at b2 (by omega)]
      by_cases ej : j = l
      · rw [if_pos ej, if_neg (by omega), if_neg (by omega)]
        exact b3 _ (by omega)
      · rw [if_neg ej]
        by_cases ei : i = l
        · rw [if_pos ei, if_pos (by omega)]
          exact o.asym _ _ (b4 _ (by omega) (by omega))
        · rw [if_neg ei]
          by_cases hj2 : l < j ∧ j ≤ k
          · rw [if_pos hj2]
            by_cases hi2 : l < i ∧ i ≤ k
            · rw [if_pos hi2]; exact h _ _ (by omega) (by omega)
            · rw [if_neg hi2]; exact h _ _ (by omega) (by omega)
          · rw [if_neg hj2, if_neg (by omega)]; exact h _ _ (by omega) (by omega)
    obtain ⟨c1, c2, c3⟩ := bin_ok' o f _ (k + 1) (by rw [bubble_size]; omega) hu r hr
    exact ⟨c1.trans (bubble_size _ _ _), c2.trans (bubble_perm _ _ _), by rw [show k + (f + 1) = k + 1 + f by omega]; exact c3⟩

theorem sort_ok (o : WO lt) {n : Nat} (h1 : 1 ≤ n) : ∀ r, r = runT lt (kas_sort n) → r.size = n ∧ r.Perm (List.toArray (List.range n)) ∧ Up lt r n := fun r hr => by
  unfold kas_sort at hr
  rw [runT_bind] at hr
  have hsz : (List.toArray (List.range n)).size = n := by simp
  obtain ⟨a1, a2, a3, a4, a5⟩ := count_ok o (p := List.toArray (List.range n)) h1 (by rw [hsz]; exact Nat.le_refl _) _ rfl
  generalize runT lt (kas_count n (List.toArray (List.range n))) = t at *
  by_cases ht : t.1 < n
  · rw [if_pos ht] at hr
    rw [Nat.max_eq_left (by omega)] at hr
    obtain ⟨b1, b2, b3⟩ := bin_ok' o (n - t.1) t.2 t.1 (by rw [a1, hsz]; omega) a5 r hr
    exact ⟨b1.trans (a1.trans hsz), b2.trans a2, by rw [show t.1 + (n - t.1) = n by omega] at b3; exact b3⟩
  · rw [if_neg ht] at hr
    have : r = t.2 := hr
    subst this
    exact ⟨a1.trans hsz, a2, by rw [show n = t.1 by omega]; exact a5⟩
end
end Mine

/-! Srt2 -/
namespace Mine

section
variable {prog : Program} {w : World} {A : Around} {E : Value → Shared → Prop} {s : Shared} {vs : List Value} {κ : SortKind} {lt : Nat → Nat → Bool}

def outOf (lt : Nat → Nat → Bool) (vs : List Value) : List Value := (runT lt (kas_sort vs.length)).toList.map fun i => vs.getD i Value.none

theorem lsort_own {n : Nat} {a : Addr} {P : PySem.Fin → Shared → Prop} (ho : s.heap.get? a = some (seqObj "list" vs.toArray n)) (h2 : 2 ≤ vs.length) (h64 : vs.length < 64)
    (hk : ∀ (s1 : Shared) (Q : SortKind → Shared → Prop), (∀ b o, b ≠ a → s.heap.get? b = some o → s1.heap.get? b = some o) → (∀ tk, Q κ { s1 with toks := tk }) → wpAny (model prog w) A (keyKind' vs.toArray) Q (fun _ _ => False) s1)
    (hc : ∀ i j (C : Bool → Shared → Prop) (s1 : Shared), i < vs.length → j < vs.length → (∀ b o, b ≠ a → s.heap.get? b = some o → s1.heap.get? b = some o) → (∀ tk, C (lt i j) { s1 with toks := tk }) → kas_ask prog w A κ vs i j C s1)
    (o : WO lt) (k : ∀ h' tk c, (∀ b o, b ≠ a → s.heap.get? b = some o → h'.get? b = some o) → h'.get? a = some (seqObj "list" (List.toArray (outOf lt vs)) c) → P (.done (.ret .none)) { s with heap := h', toks := tk }) :
    wpAny (model prog w) A (Builtin.«list.sort» ⟨[.ref a], []⟩) P E s := by
  have ha : a < s.heap.objs.size := Heap.lt_size ho
  obtain ⟨e1, ho1⟩ : ∃ e1, (s.heap.update a (Obj.mapSeq fun _ => (#[] : Array Value))).get? a = some (seqObj "list" #[] e1) := ⟨_, get?_update_seq ho fun _ => #[]⟩
  have k1 : ∀ b o, b ≠ a → s.heap.get? b = some o → (((s.heap.update a (Obj.mapSeq fun _ => (#[] : Array Value))).push (seqObj "tuple" vs.toArray 0)).push (seqObj "list" #[] 0)).get? b = some o := fun b o hb e =>
    Heap.get?_push_of_some _ (Heap.get?_push_of_some _ ((Heap.SameBut.update s.heap a _).extBut b o hb e))
  have ha1 : (((s.heap.update a (Obj.mapSeq fun _ => (#[] : Array Value))).push (seqObj "tuple" vs.toArray 0)).push (seqObj "list" #[] 0)).get? a = some (seqObj "list" #[] e1) := Heap.get?_push_of_some _ (Heap.get?_push_of_some _ ho1)
  rw [list_sort_plain]
  refine wpAny_bind (listItems_at ho rfl ?_)
  refine wpAny_bind (listUpdate_at ho rfl ?_ (by rw [List.size_toArray, sizeLine_eq]; omega) (Nat.zero_le _))
  refine wpAny_bind (seqEpoch_at ho1 rfl ?_)
  refine wpAny_bind (wpAny_newTuple ?_ (by show vs.length ≤ _; rw [sizeLine_eq]; omega))
  refine wpAny_bind (wpAny_newList ?_ (Nat.zero_le _))
  refine wpAny_holding ?_
  show wpAny (model prog w) A _ P E { s with heap := ((s.heap.update a (Obj.mapSeq fun _ => (#[] : Array Value))).push (seqObj "tuple" vs.toArray 0)).push (seqObj "list" #[] 0) }
  generalize ((s.heap.update a (Obj.mapSeq fun _ => (#[] : Array Value))).push (seqObj "tuple" vs.toArray 0)).push (seqObj "list" #[] 0) = H at k1 ha1 ⊢
  dsimp only
  have hn2 : ¬ vs.toArray.size < 2 := by rw [List.size_toArray]; omega
  rw [if_neg hn2, if_neg hn2]
  refine wpAny_bind (wpAny_mono (hk { s with heap := H } _ k1 fun tk => ?_) (fun _ _ x => x) fun _ _ x => x.elim)
  obtain ⟨hsz, hpm, hup⟩ := sort_ok o (n := vs.length) (by omega) _ rfl
  have run : (kas_sort vs.length).kasWp (kas_ask prog w A κ vs) (fun p s' => p = runT lt (kas_sort vs.length) ∧ ∃ t, s' = { s with heap := H, toks := t }) { s with heap := H, toks := tk } :=
    kasWp_run (R := (· < vs.length)) (lt := lt) (Inv := fun s' => ∃ t, s' = { s with heap := H, toks := t }) (fun i j C s1 hi hj hinv hC => by
      obtain ⟨t, rfl⟩ := hinv
      exact hc i j C _ hi hj k1 fun tk' => hC _ ⟨tk', rfl⟩) _ _ _ (asks_sort (by omega)) ⟨tk, rfl⟩ fun s' hs' => ⟨rfl, hs'⟩
  refine wpAny_bind (wpAny_mono (kat_run (ks := vs) (vs := vs) (E := fun _ _ => False) (Q := fun st' s' => arrOf st' = (runT lt (kas_sort vs.length)).map (kas_item (vs.toArray.zip vs.toArray)) ∧ failedOf st' = none ∧ ∃ t, s' = { s with heap := H, toks := t })
    rfl h2 h64 (fun p' st' s' a1 a2 a3 a4 => ⟨by rw [a2, a4.1], a3, a4.2⟩) run) ?_ fun _ _ e => e.elim)
  rintro ⟨⟨⟩, st'⟩ s' ⟨har, hf, t, rfl⟩
  dsimp only
  have hout := kat_snds (ks := vs) (vs := vs) rfl har
  have hsz2 : (List.toArray (outOf lt vs)).size = vs.length := by rw [List.size_toArray]; unfold outOf; rw [List.length_map, Array.length_toList, hsz]
  rw [hout]
  change wpAny (model prog w) A (do let _ ← _; _) P E _
  obtain ⟨c2, hc2⟩ : ∃ c2, (H.update a (Obj.mapSeq fun _ => List.toArray (outOf lt vs))).get? a = some (seqObj "list" (List.toArray (outOf lt vs)) c2) := ⟨_, get?_update_seq ha1 fun _ => List.toArray (outOf lt vs)⟩
  refine wpAny_bind (seqEpoch_at ha1 rfl ?_)
  refine wpAny_bind (listUpdate_at ha1 rfl ?_ (Nat.zero_le _) (Nat.le_trans (Nat.le_of_eq hsz2) (by rw [sizeLine_eq]; omega)))
  rw [hf]
  simp only [bne_self_eq_false, Bool.false_eq_true, if_false]
  exact wpAny_pure (k _ _ c2 (fun b o hb e => (Heap.SameBut.update H a _).extBut b o hb (k1 b o hb e)) hc2)

theorem sorted_own {l : Addr} {Q : Value → Shared → Prop} (hl : s.heap.IsList l vs.toArray) (h2 : 2 ≤ vs.length) (h64 : vs.length < 64)
    (hk : ∀ (s1 : Shared) (Q : SortKind → Shared → Prop), (∀ b o, s.heap.get? b = some o → s1.heap.get? b = some o) → (∀ tk, Q κ { s1 with toks := tk }) → wpAny (model prog w) A.in1.in1 (keyKind' vs.toArray) Q (fun _ _ => False) s1)
    (hc : ∀ i j (C : Bool → Shared → Prop) (s1 : Shared), i < vs.length → j < vs.length → (∀ b o, s.heap.get? b = some o → s1.heap.get? b = some o) → (∀ tk, C (lt i j) { s1 with toks := tk }) → kas_ask prog w A.in1.in1 κ vs i j C s1)
    (o : WO lt) (k : ∀ D h' tk c, (∀ b o, s.heap.get? b = some o → h'.get? b = some o) → s.heap.get? D = none → h'.get? D = some (plainL (List.toArray (outOf lt vs)) c) → Q (.ref D) { s with heap := h', toks := tk }) :
    wpAny (model prog w) A (call (.builtin "sorted") [.ref l]) Q E s := by
  refine Calls.call_function_entry kind_sorted plain_sorted entry_sorted (args_sorted1 _) ?_
  unfold Builtin.«sorted»
  refine wpAny_bind (m := checkCount "sorted" 1 1 _) (wpAny_pure ?_)
  refine wpAny_bind (collect_list hl ?_ (by rw [sizeLine_eq]; omega))
  refine wpAny_bind (wpAny_newList ?_ (by rw [sizeLine_eq]; omega))
  have hsz : ((s.heap.push (seqObj "list" #[] 0)).update s.heap.objs.size (Obj.mapSeq (· ++ vs.toArray))).objs.size = s.heap.objs.size + 1 := by
    rw [Heap.size_update, size_push']
  have hoL : (((s.heap.push (seqObj "list" #[] 0)).update s.heap.objs.size (Obj.mapSeq (· ++ vs.toArray))).push (seqObj "list" vs.toArray 0)).get? (s.heap.objs.size + 1) = some (seqObj "list" vs.toArray 0) := by
    rw [← hsz]; exact Heap.get?_push_size _ rfl
  have keep : ∀ b o, s.heap.get? b = some o → (((s.heap.push (seqObj "list" #[] 0)).update s.heap.objs.size (Obj.mapSeq (· ++ vs.toArray))).push (seqObj "list" vs.toArray 0)).get? b = some o := fun b o q => by
    have hlt : b < s.heap.objs.size := Heap.lt_size q
    rw [Heap.get?_push_ne _ _ _ (by rw [hsz]; exact Nat.ne_of_lt (Nat.lt_succ_of_lt hlt)), Heap.get?_update_ne _ _ _ _ (Nat.ne_of_lt hlt), Heap.get?_push_ne _ _ _ (Nat.ne_of_lt hlt)]
    exact q
  show wpAny _ _ _ _ _ { s with heap := ((s.heap.push (seqObj "list" #[] 0)).update s.heap.objs.size (Obj.mapSeq (· ++ vs.toArray))).push (seqObj "list" vs.toArray 0) }
  rw [hsz]
  generalize ((s.heap.push (seqObj "list" #[] 0)).update s.heap.objs.size (Obj.mapSeq (· ++ vs.toArray))).push (seqObj "list" vs.toArray 0) = H at hoL keep ⊢
  have off : ∀ b o, s.heap.get? b = some o → b ≠ s.heap.objs.size + 1 := fun b o e => Nat.ne_of_lt (Nat.lt_succ_of_lt (Heap.lt_size e))
  refine wpAny_bind (wpAny_holding (wpAny_call_entry slot_list_sort ⟨_, hoL, rfl⟩ entry_list_sort ?body (args_list_sort _)))
  case body =>
    refine lsort_own (s := { s with heap := H }) hoL h2 h64 (fun s1 Q hg hq => hk s1 Q (fun b o e => hg b o (off b o e) (keep b o e)) hq) (fun i j C s1 hi hj hg hC => hc i j C s1 hi hj (fun b o e => hg b o (off b o e) (keep b o e)) hC) o fun h' tk c hg he => ?_
    exact ⟨_, rfl, wpAny_pure ⟨_, rfl, k _ h' tk c (fun b o e => hg b o (off b o e) (keep b o e)) (Heap.get?_none_of_le (Nat.le_succ _)) he⟩⟩
end
end Mine

/-! Srt3 -/
namespace Mine

theorem ltL_irr : ∀ a, ltL a a = false
  | [] => rfl
  | x :: r => by unfold ltL; rw [if_pos rfl]; exact ltL_irr r
theorem ltL_asym : ∀ a b, ltL a b = true → ltL b a = false
  | [], [], h => by cases h
  | [], _ :: _, _ => rfl
  | _ :: _, [], h => by cases h
  | x :: xs, y :: ys, h => by
    unfold ltL at h ⊢
    by_cases e : x = y
    · rw [if_pos e] at h; rw [if_pos e.symm]; exact ltL_asym xs ys h
    · rw [if_neg e] at h; rw [if_neg (Ne.symm e)]
      rw [decide_eq_true_eq] at h; exact decide_eq_false (by omega)
theorem ltL_trans : ∀ a b c, ltL b a = false → ltL c b = false → ltL c a = false
  | [], b, [], _, _ => rfl
  | [], b, _ :: _, _, _ => rfl
  | _ :: _, [], _, h, _ => by cases h
  | _ :: _, _ :: _, [], _, h => by cases h
  | x :: xs, y :: ys, z :: zs, h1, h2 => by
    unfold ltL at h1 h2 ⊢
    by_cases e1 : y = x
    · rw [if_pos e1] at h1
      by_cases e2 : z = y
      · rw [if_pos e2] at h2
        rw [if_pos (e2.trans e1)]; exact ltL_trans xs ys zs h1 h2
      · rw [if_neg e2] at h2
        rw [if_neg (by omega)]
        have := of_decide_eq_false h2
        exact decide_eq_false (by omega)
    · rw [if_neg e1] at h1
      have k1 := of_decide_eq_false h1
      by_cases e2 : z = y
      · rw [if_neg (by omega)]; exact decide_eq_false (by omega)
      · rw [if_neg e2] at h2
        have k2 := of_decide_eq_false h2
        rw [if_neg (by omega)]; exact decide_eq_false (by omega)
theorem ltL_anti : ∀ a b, ltL a b = false → ltL b a = false → a = b
  | [], [], _, _ => rfl
  | [], _ :: _, h, _ => by cases h
  | _ :: _, [], _, h => by cases h
  | x :: xs, y :: ys, h1, h2 => by
    unfold ltL at h1 h2
    by_cases e : x = y
    · rw [if_pos e] at h1; rw [if_pos e.symm] at h2
      rw [e, ltL_anti xs ys h1 h2]
    · rw [if_neg e] at h1; rw [if_neg (Ne.symm e)] at h2
      have := of_decide_eq_false h1; have := of_decide_eq_false h2
      omega

theorem insT_perm (x : List Int) : ∀ l, (insT x l).Perm (x :: l)
  | [] => .refl _
  | y :: r => by
    unfold insT; split
    · exact ((insT_perm x r).cons y).trans (.swap x y r)
    · exact .refl _
theorem sortT_perm : ∀ l, (sortT l).Perm l
  | [] => .refl _
  | x :: r => (insT_perm x (sortT r)).trans ((sortT_perm r).cons x)
abbrev SrtT (l : List (List Int)) : Prop := l.Pairwise fun a b => ltL b a = false
theorem insT_sorted (x : List Int) : ∀ l, SrtT l → SrtT (insT x l)
  | [], _ => by simp [insT, SrtT]
  | y :: r, h => by
    obtain ⟨h1, h2⟩ := List.pairwise_cons.mp h
    unfold insT; split
    · rename_i hyx
      refine List.pairwise_cons.mpr ⟨fun z hz => ?_, insT_sorted x r h2⟩
      rcases List.mem_cons.mp ((insT_perm x r).mem_iff.mp hz) with rfl | hz
      · exact ltL_asym _ _ hyx
      · exact h1 z hz
    · rename_i hyx
      have hyx : ltL y x = false := by simpa using hyx
      refine List.pairwise_cons.mpr ⟨fun z hz => ?_, h⟩
      rcases List.mem_cons.mp hz with rfl | hz
      · exact hyx
      · exact ltL_trans _ _ _ hyx (h1 z hz)
theorem sortT_sorted : ∀ l, SrtT (sortT l)
  | [] => .nil
  | x :: r => insT_sorted x _ (sortT_sorted r)
theorem srtT_uniq : ∀ {a b : List (List Int)}, a.Perm b → SrtT a → SrtT b → a = b
  | [], b, p, _, _ => (List.nil_perm.mp p).symm
  | x :: a, [], p, _, _ => absurd p.length_eq (by simp)
  | x :: a, y :: b, p, ha, hb => by
    obtain ⟨ha1, ha2⟩ := List.pairwise_cons.mp ha
    obtain ⟨hb1, hb2⟩ := List.pairwise_cons.mp hb
    have h1 : x = y := by
      have hx : x ∈ y :: b := p.mem_iff.mp (.head _)
      have hy : y ∈ x :: a := p.mem_iff.mpr (.head _)
      rcases List.mem_cons.mp hx with h | hx
      · exact h
      · rcases List.mem_cons.mp hy with h | hy
        · exact h.symm
        · exact ltL_anti _ _ (hb1 x hx |> fun q => by
            have := ha1 y hy; exact this |> fun _ => by
              exact (ltL_anti x y (by
                cases e : ltL x y with
                | false => rfl
                | true => rw [hb1 x hx] at e; cases e) (ha1 y hy)) ▸ ltL_irr _) (by
            have e := ltL_anti x y (by
              cases e : ltL x y with
              | false => rfl
              | true => rw [hb1 x hx] at e; cases e) (ha1 y hy)
            rw [e]; exact ltL_irr _)
    subst h1
    rw [srtT_uniq (List.Perm.cons_inv p) ha2 hb2]

/-! ### the tuples of a list -/
theorem tupsI_eq : ∀ {xs : List D} {ts : List (List Int)}, tupsI xs = some ts → xs = ts.map fun t => .tuple (t.map .int)
  | [], ts, h => by cases h; rfl
  | d :: r, ts, h => by
    unfold tupsI at h
    rw [Option.bind_eq_some_iff] at h
    obtain ⟨t, ht, h⟩ := h
    rw [Option.map_eq_some_iff] at h
    obtain ⟨us, hu, rfl⟩ := h
    rw [List.map_cons, ← tupsI_eq hu]
    congr 1
    unfold tupI at ht
    split at ht
    · rename_i ds
      congr 1
      have go : ∀ {ds : List D} {t : List Int}, intsD ds = some t → ds = t.map .int := by
        intro ds
        induction ds with
        | nil => intro t h; cases h; rfl
        | cons d r ih =>
          intro t h
          cases d with
          | int i =>
            simp only [intsD, Option.map_eq_some_iff] at h
            obtain ⟨u, hu, rfl⟩ := h
            rw [List.map_cons, ← ih hu]
          | _ => simp [intsD] at h
      exact go ht
    · cases ht

theorem VRs.idx {F : Fz} {vs : List Value} {ds : List D} (h : VRs F vs ds) : ∀ {l : List Nat}, (∀ i ∈ l, i < vs.length) → VRs F (l.map fun i => vs.getD i Value.none) (l.map fun i => ds.getD i .none)
  | [], _ => .nil
  | i :: l, hl => by
    rw [List.map_cons, List.map_cons]
    refine .cons ?_ (VRs.idx h fun j hj => hl j (List.mem_cons_of_mem _ hj))
    have hi := hl i List.mem_cons_self
    have hi2 : i < ds.length := by rw [← h.length]; exact hi
    obtain ⟨v, h1, h2⟩ := h.get (j := i) (d := ds[i]) (by simp [hi2])
    rw [List.getD_eq_getElem?_getD, h1, List.getD_eq_getElem?_getD, List.getElem?_eq_getElem hi2]
    exact h2

section
variable {prog : Program} {w : World} {A : Around} {s : Shared}

theorem tup_at {F : Fz} {v : Value} {t : List Int} (h : VR F v (.tuple (t.map .int))) : ∃ a o items n, v = .ref a ∧ F a = some o ∧ o.cls = .type "tuple" ∧ o.data = .seq items n ∧ IntsAre items.toList t := by
  cases h with
  | tuple ha hc hd hr => exact ⟨_, _, _, _, rfl, ha, hc, hd, intsD_are hr (by
      clear hr hc hd ha
      induction t with
      | nil => rfl
      | cons x r ih => show (intsD (r.map .int)).map (x :: ·) = _; rw [ih]; rfl)⟩

theorem katTups_of {F : Fz} {hp : Heap} (fin : ∀ b o, F b = some o → hp.get? b = some o) : ∀ {vs : List Value} {ts : List (List Int)}, VRs F vs (ts.map fun t => .tuple (t.map .int)) → ts.all (fun t => !t.isEmpty) = true →
    ∃ fs, KatTups hp vs fs ∧ fs.length = vs.length ∧ ∀ v ∈ fs, ∃ i t, v = .int i t
  | [], [], _, _ => ⟨[], .nil, rfl, fun _ h => by cases h⟩
  | [], _ :: _, h, _ => by cases h
  | v :: vs, [], h, _ => by cases h
  | v :: vs, t :: ts, h, hne => by
    rw [List.map_cons] at h
    cases h with
    | cons r rs =>
      rw [List.all_cons, Bool.and_eq_true] at hne
      obtain ⟨fs, h1, h2, h3⟩ := katTups_of fin rs hne.2
      obtain ⟨a, o, items, n, rfl, hF, hc, hd, hi⟩ := tup_at r
      cases t with
      | nil => simp at hne
      | cons x t =>
        generalize hl : items.toList = l at hi
        cases hi with
        | cons i tk hr =>
          have h0 : items[0]? = some (.int x tk) := by rw [← Array.getElem?_toList, hl]; rfl
          exact ⟨.int x tk :: fs, .cons (fin _ _ hF) hc hd h0 h1, by simp [h2], fun u hu => by
            rcases List.mem_cons.mp hu with rfl | hu
            · exact ⟨_, _, rfl⟩
            · exact h3 u hu⟩

theorem katLex_ints {b : Bool} {Q : Bool → Shared → Prop} {ps : List Value} {xs : List Int} (h1 : IntsAre ps xs) : ∀ {qs : List Value} {ys : List Int} {i : Nat} {s : Shared}, IntsAre qs ys → (∀ tk, Q (ltL xs ys) { s with toks := tk }) → KatLex prog w A b (decide (ps.length < qs.length)) Q (ps.zip qs) i s := by
  induction h1 with
  | nil =>
    intro qs ys i s h2 h
    cases h2 with
    | nil => exact h s.toks
    | cons _ _ _ => exact h s.toks
  | cons x t r ih =>
    intro qs ys i s h2 h
    cases h2 with
    | nil => exact h s.toks
    | cons y u r' =>
      rw [List.zip_cons_cons]
      refine kat_cons (wpAny_eqBool_int ?_)
      by_cases e : x = y
      · subst e
        have : (x == x) = true := by simp
        rw [this]
        refine kat_yes ?_
        rw [List.length_cons, List.length_cons]
        have hd : ∀ m k : Nat, decide (m + 1 < k + 1) = decide (m < k) := fun m k => by simp
        rw [hd]
        refine ih r' fun tk => ?_
        have := h tk
        unfold ltL at this
        rwa [if_pos rfl] at this
      · have : (x == y) = false := by simpa using e
        rw [this]
        refine kat_no ?_
        have hq : ∀ tk, Q (decide (x < y)) { s with toks := tk } := fun tk => by
          have := h tk
          unfold ltL at this
          rwa [if_neg e] at this
        cases hb : (b && i == 0) with
        | true => exact oneLt_int (hq s.toks)
        | false => exact kat_one _ _ (lt_int (hq s.toks))

theorem ltL_wo (ts : List (List Int)) : WO fun i j => ltL (ts.getD i []) (ts.getD j []) := ⟨fun a b h => ltL_asym _ _ h, fun a b c h1 h2 => ltL_trans _ _ _ h1 h2⟩

theorem sortD_ok {xs : List D} {c : D} {v : Value} {F : Fz} (h : sortD xs = .ok c) (fin : ∀ b o, F b = some o → s.heap.get? b = some o) (r : VW F s.heap v (.list xs)) (wk : Bool) : EOk prog w A F s wk c (call (.builtin "sorted") [v]) := by
  unfold sortD at h
  split at h
  case h_2 => cases h
  rename_i ts hts
  split at h
  case isFalse => cases h
  rename_i hl
  cases h
  have hxs := tupsI_eq hts
  obtain ⟨a, ia, na, rfl, ea, qa⟩ := r.list fin
  have hlen : ia.toList.length = ts.length := by rw [qa.length, hxs, List.length_map]
  rw [hxs] at qa
  have hl' : s.heap.IsList a ia.toList.toArray := by
    have : ia.toList.toArray = ia := by simp
    rw [this]; exact ea.isl
  obtain ⟨fs, hf1, hf2, hf3⟩ := katTups_of fin qa hl.2.2
  refine .newList fin fun Q E k => sorted_own (κ := tuples' (Value.type "int" != Value.type "tuple")) (lt := fun i j => ltL (ts.getD i []) (ts.getD j [])) hl' (by omega) (by omega) (fun s1 Q1 hg hq => ?_) (fun i j C s1 hi hj hg hC => ?_) (ltL_wo ts) fun D h' tk cc hk h0 hD => ?_
  · obtain ⟨fs, hf1, hf2, hf3⟩ := katTups_of (hp := s1.heap) (fun b o e => hg b o (fin b o e)) qa hl.2.2
    exact kat_kind (T := .type "int") hf1 (by omega) (fun v hv => by obtain ⟨i, t, rfl⟩ := hf3 v hv; exact Looks.of_pure rfl) (by decide) (hq s1.toks)
  · unfold kas_ask
    have get : ∀ i, i < ia.toList.length → ∃ a o items n, ia.toList.getD i Value.none = .ref a ∧ s1.heap.get? a = some o ∧ o.cls = .type "tuple" ∧ o.data = .seq items n ∧ IntsAre items.toList (ts.getD i []) := fun i hi => by
      have hi2 : i < ts.length := by omega
      obtain ⟨v, h1, h2⟩ := qa.get (j := i) (d := .tuple ((ts.getD i []).map .int)) (by
        rw [List.getElem?_map, List.getElem?_eq_getElem hi2, List.getD_eq_getElem?_getD, List.getElem?_eq_getElem hi2]; rfl)
      obtain ⟨a, o, items, n, rfl, hF, hc, hd, hI⟩ := tup_at h2
      exact ⟨a, o, items, n, by rw [List.getD_eq_getElem?_getD, h1]; rfl, hg _ _ (fin _ _ hF), hc, hd, hI⟩
    obtain ⟨a1, o1, i1, n1, e1, g1, c1, d1, I1⟩ := get i hi
    obtain ⟨a2, o2, i2, n2, e2, g2, c2, d2, I2⟩ := get j hj
    rw [e1, e2]
    refine kat_lt g1 d1 g2 d2 ?_
    have := katLex_ints (prog := prog) (w := w) (A := A.in1.in1) (b := (Value.type "int" != Value.type "tuple")) (Q := C) (i := 0) (s := s1) I1 I2 hC
    rw [Array.length_toList, Array.length_toList] at this
    exact this
  · have o := ltL_wo ts
    obtain ⟨hsz, hpm, hup⟩ := sort_ok o (n := ts.length) (by omega) _ rfl
    have hmem : ∀ i ∈ (runT (fun i j => ltL (ts.getD i []) (ts.getD j [])) (kas_sort ts.length)).toList, i < ts.length := fun i hi => by
      have := hpm.mem_iff.mp (Array.mem_toList_iff.mp hi)
      simpa using this
    have hsrt : ((runT (fun i j => ltL (ts.getD i []) (ts.getD j [])) (kas_sort ts.length)).toList.map fun i => ts.getD i []) = sortT ts := by
      refine srtT_uniq ?_ ?_ (sortT_sorted ts)
      · have h1 : (runT (fun i j => ltL (ts.getD i []) (ts.getD j [])) (kas_sort ts.length)).toList.Perm (List.range ts.length) := by
          have := hpm.toList; simpa using this
        have h2 := h1.map fun i => ts.getD i []
        refine h2.trans ?_
        have : ((List.range ts.length).map fun i => ts.getD i []) = ts := by
          refine List.ext_getElem (by simp) fun i h1 h2 => ?_
          rw [List.getElem_map, List.getElem_range, List.getD_eq_getElem?_getD, List.getElem?_eq_getElem h2]; rfl
        rw [this]; exact (sortT_perm ts).symm
      · rw [SrtT, List.pairwise_map, List.pairwise_iff_getElem]
        intro i j hi hj hij
        have := hup i j hij (by rw [← hsz]; simpa using hj)
        rw [Array.length_toList] at hi hj
        have e : ∀ m, (hm : m < (runT (fun i j => ltL (ts.getD i []) (ts.getD j [])) (kas_sort ts.length)).size) → at' (runT (fun i j => ltL (ts.getD i []) (ts.getD j [])) (kas_sort ts.length)) m = (runT (fun i j => ltL (ts.getD i []) (ts.getD j [])) (kas_sort ts.length)).toList[m]'(by simpa using hm) := fun m hm => by
          unfold at'; rw [Array.getD_eq_getD_getElem?, Array.getElem?_eq_getElem hm]; simp
        rw [e i hi, e j hj] at this
        exact this
    refine k D h' tk _ cc hk h0 hD ?_
    show VRs F (outOf _ ia.toList) _
    unfold outOf
    rw [hlen]
    have hv := qa.idx (l := (runT (fun i j => ltL (ts.getD i []) (ts.getD j [])) (kas_sort ts.length)).toList) (fun i hi => by rw [hlen]; exact hmem i hi)
    have hd : ((runT (fun i j => ltL (ts.getD i []) (ts.getD j [])) (kas_sort ts.length)).toList.map fun i => (ts.map fun t => PyData.tuple (t.map .int)).getD i .none) = (sortT ts).map fun t => .tuple (t.map .int) := by
      rw [← hsrt, List.map_map]
      refine List.map_congr_left fun i hi => ?_
      have hi2 := hmem i hi
      show (ts.map fun t => PyData.tuple (t.map .int)).getD i .none = .tuple ((ts.getD i []).map .int)
      rw [List.getD_eq_getElem?_getD, List.getElem?_map, List.getD_eq_getElem?_getD, List.getElem?_eq_getElem hi2]; rfl
    rw [hd] at hv
    exact hv
end
end Mine

/-! Srt4 -/
open AutoSeq1 (wpAny_loadPart')
open MeetsSeq MeetsSeq3
namespace Mine

theorem ints_get {vs : List Value} {ns : List Int} (h : IntsAre vs ns) : ∀ {j : Nat}, j < vs.length → ∃ t, vs[j]? = some (.int (ns.getD j 0) t) ∧ j < ns.length := by
  induction h with
  | nil => intro j hj; simp at hj
  | cons x t r ih =>
    intro j hj
    cases j with
    | zero => exact ⟨t, rfl, by simp⟩
    | succ j =>
      obtain ⟨t', h1, h2⟩ := ih (j := j) (by simpa using hj)
      exact ⟨t', by simpa using h1, by simpa using h2⟩
theorem ints_len {vs : List Value} {ns : List Int} (h : IntsAre vs ns) : vs.length = ns.length := by
  induction h with
  | nil => rfl
  | cons x t r ih => simp [ih]

theorem drop_ltL {zs us : List Int} {i : Nat} (h1 : i < zs.length) (h2 : i < us.length) : ltL (zs.drop i) (us.drop i) = if zs.getD i 0 = us.getD i 0 then ltL (zs.drop (i + 1)) (us.drop (i + 1)) else decide (zs.getD i 0 < us.getD i 0) := by
  rw [List.drop_eq_getElem_cons h1, List.drop_eq_getElem_cons h2, List.getD_eq_getElem?_getD, List.getElem?_eq_getElem h1, List.getD_eq_getElem?_getD, List.getElem?_eq_getElem h2]
  rfl

set_option maxHeartbeats 2000000 in
theorem lt_loop (l b : Addr) (items items2 : Array Value) (n n2 : Nat) (dd dd2 : Option Addr) (sl sl2 : Array (Option Value)) {zs us : List Int} (I1 : IntsAre items.toList zs) (I2 : IntsAre items2.toList us) (k : Nat) :
    ∀ i : Nat, items.size - i = k → i ≤ items.size → i ≤ items2.size → Meets (Builtin.«list.__eq__.loop» ⟨[.ref l, .ref b, rawInt i, rawInt 0], []⟩)
      (fun A R s => s.heap.get? l = some { cls := .type "list", dict := dd, data := .seq items n, slots := sl } ∧ s.heap.get? b = some { cls := .type "list", dict := dd2, data := .seq items2 n2, slots := sl2 } ∧
        ∀ tk, R (.ok (.ret (.bool (ltL (zs.drop i) (us.drop i))))) { s with toks := tk }) := by
  have l1 := ints_len I1
  have l2 := ints_len I2
  rw [Array.length_toList] at l1 l2
  have ends : ∀ i, i ≤ items.size → i ≤ items2.size → (i = items.size ∨ i = items2.size) → ltL (zs.drop i) (us.drop i) = decide (items.size < items2.size) := fun i h1 h2 h3 => by
    rcases h3 with rfl | rfl
    · rw [l1, List.drop_length]
      cases hu : us.drop zs.length with
      | nil =>
        have := List.drop_eq_nil_iff.mp hu
        exact (decide_eq_false (by omega)).symm
      | cons x r =>
        have : zs.length < us.length := by
          rcases Nat.lt_or_ge zs.length us.length with q | q
          · exact q
          · rw [List.drop_eq_nil_iff.mpr q] at hu; cases hu
        exact (decide_eq_true (by omega)).symm
    · rw [l2, List.drop_length]
      have e : ltL (zs.drop us.length) [] = false := by cases zs.drop us.length <;> rfl
      rw [e]
      exact (decide_eq_false (by omega)).symm
  induction k with
  | zero =>
    intro i hk hi hi2 prog w A R s h
    obtain ⟨hp, g, d, tk, os⟩ := s; obtain ⟨hl, hb, h⟩ := h
    wp_walk using wpAny_loadPart' hl, wpAny_loadPart' hb
    have hi1 : items[((i : Nat) : Int).toNat]? = none := by simp; omega
    rw [ends i hi hi2 (.inl (by omega))] at h
    rw [hi1]
    wp_walk using wpAny_loadPart' hl, wpAny_loadPart' hb
    exact h tk
  | succ k ih =>
    intro i hk hi hi2 prog w A R s h
    obtain ⟨hp, g, d, tk, os⟩ := s; obtain ⟨hl, hb, h⟩ := h
    wp_walk using wpAny_loadPart' hl, wpAny_loadPart' hb
    have hlt : i < items.size := by omega
    obtain ⟨t1, e1, hz1⟩ := ints_get I1 (j := i) (by rw [Array.length_toList]; exact hlt)
    rw [Array.getElem?_toList] at e1
    have hi1 : items[((i : Nat) : Int).toNat]? = some (.int (zs.getD i 0) t1) := by rw [Int.toNat_natCast]; exact e1
    have hc : ((i : Int) + 1) = ((i + 1 : Nat) : Int) := by push_cast; rfl
    by_cases hlt2 : i < items2.size
    · obtain ⟨t2, e2, hz2⟩ := ints_get I2 (j := i) (by rw [Array.length_toList]; exact hlt2)
      rw [Array.getElem?_toList] at e2
      have hi2' : items2[((i : Nat) : Int).toNat]? = some (.int (us.getD i 0) t2) := by rw [Int.toNat_natCast]; exact e2
      rw [drop_ltL hz1 hz2] at h
      rw [hi1, hi2']
      refine wpAny_bind (wpAny_eqBool_int ?_)
      by_cases e : zs.getD i 0 = us.getD i 0
      · rw [if_pos e] at h
        rw [show (zs.getD i 0 == us.getD i 0) = true by simpa using e]
        wp_walk
        rw [hc]
        exact ⟨plainId_quiet plain_eq_loop _, codeAny_builtin entry_eq_loop (by
          rw [Around.under_plainId plain_eq_loop _]
          exact ih (i + 1) (by omega) (by omega) (by omega) prog w A R _ ⟨hl, hb, h⟩)⟩
      · rw [if_neg e] at h
        rw [show (zs.getD i 0 == us.getD i 0) = false by simpa using e]
        wp_walk using wpAny_loadPart' hl, wpAny_loadPart' hb
        rw [hi1, hi2']
        show wpAny (model prog w) A.in1 (richCompare .Lt (.int (zs.getD i 0) t1) (.int (us.getD i 0) t2) >>= fun r => ret r) _ _ _
        refine wpAny_bind ?_
        show wpAny (model prog w) A.in1 (compareOp .Lt (.int (zs.getD i 0) t1) (.int (us.getD i 0) t2)) _ _ _
        refine lt_int ?_
        exact wpAny_pure (h tk)
    · have hn2 : items2[((i : Nat) : Int).toNat]? = none := by simp; omega
      rw [ends i hi hi2 (.inr (by omega))] at h
      rw [hi1, hn2]
      wp_walk using wpAny_loadPart' hl, wpAny_loadPart' hb
      exact h tk


theorem list_ltM (l b : Addr) (items items2 : Array Value) (n n2 : Nat) (dd dd2 : Option Addr) (sl sl2 : Array (Option Value)) {zs us : List Int} (I1 : IntsAre items.toList zs) (I2 : IntsAre items2.toList us) : Meets (Builtin.«list.__lt__» ⟨[.ref l, .ref b], []⟩)
      (fun A R s => s.heap.get? l = some { cls := .type "list", dict := dd, data := .seq items n, slots := sl } ∧ s.heap.get? b = some { cls := .type "list", dict := dd2, data := .seq items2 n2, slots := sl2 } ∧
        ∀ tk, R (.ok (.ret (.bool (ltL zs us)))) { s with toks := tk }) := by
  intro prog w A R s h
  obtain ⟨hp, g, d, tk, os⟩ := s; obtain ⟨hl, hb, h⟩ := h
  have f3 := AutoSeq1.sub_list_list
  wp_walk using wpAny_loadPart' hl, wpAny_loadPart' hb
  exact ⟨plainId_quiet plain_eq_loop _, codeAny_builtin entry_eq_loop (by
    rw [Around.under_plainId plain_eq_loop _]
    exact lt_loop l b items items2 n n2 dd dd2 sl sl2 I1 I2 _ 0 rfl (Nat.zero_le _) (Nat.zero_le _) prog w A R _ ⟨hl, hb, h⟩)⟩

section
variable {prog : Program} {w : World} {A : Around} {s : Shared}

theorem call_list_lt {a b : Addr} {i1 i2 : Array Value} {n1 n2 : Nat} {zs us : List Int} (h1 : LO s.heap a i1 n1) (h2 : LO s.heap b i2 n2) (I1 : IntsAre i1.toList zs) (I2 : IntsAre i2.toList us) {Q : Value → Shared → Prop} {E : Value → Shared → Prop}
    (h : ∀ tk, Q (.bool (ltL zs us)) { s with toks := tk }) : wpAny (model prog w) A (call (.builtin "list.__lt__") [.ref a, .ref b]) Q E s := by
  obtain ⟨dd1, sl1, g1⟩ := h1.parts
  obtain ⟨dd2, sl2, g2⟩ := h2.parts
  exact call_meets PySem.F.slot_list_lt h1.isl.typeIs PySem.F.entry_list_lt (PySem.F.args_list_lt_2 _ _) (list_ltM a b i1 i2 n1 n2 dd1 dd2 sl1 sl2 I1 I2) ⟨g1, g2, h⟩

theorem oneLt_list {a b : Addr} {i1 i2 : Array Value} {n1 n2 : Nat} {zs us : List Int} (hu : A.units < cLine) (h1 : LO s.heap a i1 n1) (h2 : LO s.heap b i2 n2) (I1 : IntsAre i1.toList zs) (I2 : IntsAre i2.toList us) {Q : Bool → Shared → Prop} {E : Value → Shared → Prop}
    (h : ∀ tk, Q (ltL zs us) { s with toks := tk }) : wpAny (model prog w) A (oneLt' true (.ref a) (.ref b)) Q E s := by
  rw [oneLt'_eq]
  simp only [if_true]
  refine wpAny_bind (wpAny_cRoomFor hu ?_)
  refine wpAny_bind (wpAny_callSpecialIfBound?_slot h1.isl.typeIs PySem.F.slot_list_lt (call_list_lt h1 h2 I1 I2 fun tk => ?_))
  exact wpAny_truthy_bool (h tk)

/-- vs are lists, all of them -/
def AllL (h : Heap) (vs : List Value) : Prop := ∀ v ∈ vs, ∃ a items n, v = .ref a ∧ LO h a items n
theorem firstsL : ∀ (vs : List Value) {M : Model} {E : Value → Shared → Prop} {Q : List (Option Value) → Shared → Prop}, AllL s.heap vs → Q (vs.map fun _ => none) s → wpAny M A (vs.mapM firstOfTuple') Q E s
  | [], _, _, _, _, h => by rw [List.mapM_nil]; exact wpAny_pure h
  | v :: vs, M, E, Q, t, h => by
    obtain ⟨a, items, n, rfl, o, ho, hc, hd⟩ := t v List.mem_cons_self
    rw [List.mapM_cons]
    refine wpAny_bind ?_
    rw [kas_first_eq]
    refine wpAny_bind (Looks.here (show Looks M s.heap (typeOf (.ref a)) o.cls from (Looks.ld ho).andThen .now) ?_)
    rw [hc, if_pos (by first | decide | simp)]
    refine wpAny_pure ?_
    exact wpAny_bind (firstsL vs (Q := fun bs s' => wpAny M A (pure (none :: bs)) Q E s') (fun u hu => t u (List.mem_cons_of_mem _ hu)) (wpAny_pure h))
theorem kindL {vs : List Value} {M : Model} {E : Value → Shared → Prop} {Q : SortKind → Shared → Prop} (t : AllL s.heap vs) (hne : 0 < vs.length) (h : Q oneType' s) : wpAny M A (keyKind' vs.toArray) Q E s := by
  obtain ⟨f₁, fr, rfl⟩ : ∃ f₁ fr, vs = f₁ :: fr := by
    match vs, hne with
    | f₁ :: fr, _ => exact ⟨f₁, fr, rfl⟩
  rw [keyKind'_eq, List.mapM_toArray, map_eq_pure_bind]
  refine wpAny_bind (wpAny_bind (firstsL _ t (wpAny_pure ?_)))
  rw [if_neg (by simp), if_neg (by simp)]
  rw [oneTypeOnly'_eq, List.mapM_toArray, map_eq_pure_bind]
  refine wpAny_bind (wpAny_bind (wpAny_bind (kas_mapM (r := .type "list") _ (fun v hv Q' hq => ?_) (wpAny_pure ?_))))
  · obtain ⟨a, items, n, rfl, o, ho, hc, hd⟩ := t v hv
    refine Looks.here (show Looks M s.heap (typeOf (.ref a)) o.cls from (Looks.ld ho).andThen .now) ?_
    rw [hc]; exact hq
  · have hall2 : ((List.map (fun _ => Value.type "list") (f₁ :: fr)).toArray.all fun x => x == Value.type "list") = true := by
      simp only [List.all_toArray, List.all_map, List.all_eq_true]
      intro _ _
      exact show (Value.type "list" == Value.type "list") = true by decide
    have h0 : (List.map (fun _ => Value.type "list") (f₁ :: fr)).toArray[0]? = some (Value.type "list") := by simp
    rw [h0]
    simp only [hall2, if_true]
    exact wpAny_pure (wpAny_pure h)

/-- the sort of one item or none -/
theorem lsort_short {E : Value → Shared → Prop} {vs : List Value} {n : Nat} {a : Addr} {P : PySem.Fin → Shared → Prop} (ho : s.heap.get? a = some (seqObj "list" vs.toArray n)) (h2 : vs.length < 2)
    (k : ∀ h' c, (∀ b o, b ≠ a → s.heap.get? b = some o → h'.get? b = some o) → h'.get? a = some (seqObj "list" vs.toArray c) → P (.done (.ret .none)) { s with heap := h' }) :
    wpAny (model prog w) A (Builtin.«list.sort» ⟨[.ref a], []⟩) P E s := by
  have ha : a < s.heap.objs.size := Heap.lt_size ho
  obtain ⟨e1, ho1⟩ : ∃ e1, (s.heap.update a (Obj.mapSeq fun _ => (#[] : Array Value))).get? a = some (seqObj "list" #[] e1) := ⟨_, get?_update_seq ho fun _ => #[]⟩
  have k1 : ∀ b o, b ≠ a → s.heap.get? b = some o → (((s.heap.update a (Obj.mapSeq fun _ => (#[] : Array Value))).push (seqObj "tuple" vs.toArray 0)).push (seqObj "list" #[] 0)).get? b = some o := fun b o hb e =>
    Heap.get?_push_of_some _ (Heap.get?_push_of_some _ ((Heap.SameBut.update s.heap a _).extBut b o hb e))
  have ha1 : (((s.heap.update a (Obj.mapSeq fun _ => (#[] : Array Value))).push (seqObj "tuple" vs.toArray 0)).push (seqObj "list" #[] 0)).get? a = some (seqObj "list" #[] e1) := Heap.get?_push_of_some _ (Heap.get?_push_of_some _ ho1)
  rw [list_sort_plain]
  refine wpAny_bind (listItems_at ho rfl ?_)
  refine wpAny_bind (listUpdate_at ho rfl ?_ (by rw [List.size_toArray, sizeLine_eq]; omega) (Nat.zero_le _))
  refine wpAny_bind (seqEpoch_at ho1 rfl ?_)
  refine wpAny_bind (wpAny_newTuple ?_ (by show vs.length ≤ _; rw [sizeLine_eq]; omega))
  refine wpAny_bind (wpAny_newList ?_ (Nat.zero_le _))
  refine wpAny_holding ?_
  show wpAny (model prog w) A _ P E { s with heap := ((s.heap.update a (Obj.mapSeq fun _ => (#[] : Array Value))).push (seqObj "tuple" vs.toArray 0)).push (seqObj "list" #[] 0) }
  generalize ((s.heap.update a (Obj.mapSeq fun _ => (#[] : Array Value))).push (seqObj "tuple" vs.toArray 0)).push (seqObj "list" #[] 0) = H at k1 ha1 ⊢
  dsimp only
  have hn2 : vs.toArray.size < 2 := by rw [List.size_toArray]; omega
  rw [if_pos hn2, if_pos hn2]
  refine wpAny_bind (wpAny_pure ?_)
  refine wpAny_bind (wpAny_pure ?_)
  dsimp only
  have hout : (vs.toArray.zip vs.toArray).map (·.2) = vs.toArray := by
    refine Array.ext (by simp) fun i h1 h2 => ?_
    simp
  have harr : Array.map (fun x => x.snd) (arrOf (SortSt.mk' general' (vs.toArray.zip vs.toArray) #[] 7 none)) = vs.toArray := hout
  change wpAny (model prog w) A (do let _ ← _; _) P E _
  obtain ⟨c2, hc2⟩ : ∃ c2, (H.update a (Obj.mapSeq fun _ => vs.toArray)).get? a = some (seqObj "list" vs.toArray c2) := ⟨_, get?_update_seq ha1 fun _ => vs.toArray⟩
  refine wpAny_bind (seqEpoch_at ha1 rfl ?_)
  refine wpAny_bind (listUpdate_at ha1 rfl ?_ (Nat.zero_le _) ?_)
  · show wpAny (model prog w) A (if (e1 != e1) = true then _ else _) P E _
    simp only [bne_self_eq_false, Bool.false_eq_true, if_false]
    refine wpAny_pure ?_
    rw [harr]
    exact k _ c2 (fun b o hb e => (Heap.SameBut.update H a _).extBut b o hb (k1 b o hb e)) hc2
  · rw [harr, List.size_toArray, sizeLine_eq]; omega

theorem sorted_short {E : Value → Shared → Prop} {vs : List Value} {l : Addr} {Q : Value → Shared → Prop} (hl : s.heap.IsList l vs.toArray) (h2 : vs.length < 2)
    (k : ∀ D h' c, (∀ b o, s.heap.get? b = some o → h'.get? b = some o) → s.heap.get? D = none → h'.get? D = some (plainL vs.toArray c) → Q (.ref D) { s with heap := h' }) :
    wpAny (model prog w) A (call (.builtin "sorted") [.ref l]) Q E s := by
  refine Calls.call_function_entry kind_sorted plain_sorted entry_sorted (args_sorted1 _) ?_
  unfold Builtin.«sorted»
  refine wpAny_bind (m := checkCount "sorted" 1 1 _) (wpAny_pure ?_)
  refine wpAny_bind (collect_list hl ?_ (by rw [sizeLine_eq]; omega))
  refine wpAny_bind (wpAny_newList ?_ (by rw [sizeLine_eq]; omega))
  have hsz : ((s.heap.push (seqObj "list" #[] 0)).update s.heap.objs.size (Obj.mapSeq (· ++ vs.toArray))).objs.size = s.heap.objs.size + 1 := by
    rw [Heap.size_update, size_push']
  have hoL : (((s.heap.push (seqObj "list" #[] 0)).update s.heap.objs.size (Obj.mapSeq (· ++ vs.toArray))).push (seqObj "list" vs.toArray 0)).get? (s.heap.objs.size + 1) = some (seqObj "list" vs.toArray 0) := by
    rw [← hsz]; exact Heap.get?_push_size _ rfl
  have keep : ∀ b o, s.heap.get? b = some o → (((s.heap.push (seqObj "list" #[] 0)).update s.heap.objs.size (Obj.mapSeq (· ++ vs.toArray))).push (seqObj "list" vs.toArray 0)).get? b = some o := fun b o q => by
    have hlt : b < s.heap.objs.size := Heap.lt_size q
    rw [Heap.get?_push_ne _ _ _ (by rw [hsz]; exact Nat.ne_of_lt (Nat.lt_succ_of_lt hlt)), Heap.get?_update_ne _ _ _ _ (Nat.ne_of_lt hlt), Heap.get?_push_ne _ _ _ (Nat.ne_of_lt hlt)]
    exact q
  show wpAny _ _ _ _ _ { s with heap := ((s.heap.push (seqObj "list" #[] 0)).update s.heap.objs.size (Obj.mapSeq (· ++ vs.toArray))).push (seqObj "list" vs.toArray 0) }
  rw [hsz]
  generalize ((s.heap.push (seqObj "list" #[] 0)).update s.heap.objs.size (Obj.mapSeq (· ++ vs.toArray))).push (seqObj "list" vs.toArray 0) = H at hoL keep ⊢
  have off : ∀ b o, s.heap.get? b = some o → b ≠ s.heap.objs.size + 1 := fun b o e => Nat.ne_of_lt (Nat.lt_succ_of_lt (Heap.lt_size e))
  refine wpAny_bind (wpAny_holding (wpAny_call_entry slot_list_sort ⟨_, hoL, rfl⟩ entry_list_sort ?body (args_list_sort _)))
  case body =>
    refine lsort_short (s := { s with heap := H }) hoL h2 fun h' c hg he => ?_
    exact ⟨_, rfl, wpAny_pure ⟨_, rfl, k _ h' c (fun b o e => hg b o (off b o e) (keep b o e)) (Heap.get?_none_of_le (Nat.le_succ _)) he⟩⟩

theorem list_at {F : Fz} {v : Value} {t : List Int} (h : VR F v (.list (t.map .int))) : ∃ a o items n, v = .ref a ∧ F a = some o ∧ o.cls = .type "list" ∧ o.data = .seq items n ∧ IntsAre items.toList t := by
  cases h with
  | list ha hc hd hr => exact ⟨_, _, _, _, rfl, ha, hc, hd, intsD_are hr (by
      clear hr hc hd ha
      induction t with
      | nil => rfl
      | cons x r ih => show (intsD (r.map .int)).map (x :: ·) = _; rw [ih]; rfl)⟩
theorem ints_of {ds : List D} : ∀ {t : List Int}, intsD ds = some t → ds = t.map .int := by
  induction ds with
  | nil => intro t h; cases h; rfl
  | cons d r ih =>
    intro t h
    cases d with
    | int i =>
      simp only [intsD, Option.map_eq_some_iff] at h
      obtain ⟨u, hu, rfl⟩ := h
      rw [List.map_cons, ← ih hu]
    | _ => simp [intsD] at h
theorem listsI_eq : ∀ {xs : List D} {ts : List (List Int)}, listsI xs = some ts → xs = ts.map fun t => .list (t.map .int)
  | [], ts, h => by cases h; rfl
  | d :: r, ts, h => by
    unfold listsI at h
    rw [Option.bind_eq_some_iff] at h
    obtain ⟨t, ht, h⟩ := h
    rw [Option.map_eq_some_iff] at h
    obtain ⟨us, hu, rfl⟩ := h
    rw [List.map_cons, ← listsI_eq hu]
    congr 1
    unfold listI at ht
    split at ht
    · rw [ints_of ht]
    · cases ht
theorem allL_of {F : Fz} {hp : Heap} (fin : ∀ b o, F b = some o → hp.get? b = some o) : ∀ {vs : List Value} {ts : List (List Int)}, VRs F vs (ts.map fun t => .list (t.map .int)) → AllL hp vs
  | [], _, _ => fun v hv => by cases hv
  | v :: vs, [], h => by cases h
  | v :: vs, t :: ts, h => by
    rw [List.map_cons] at h
    cases h with
    | cons r rs =>
      intro u hu
      rcases List.mem_cons.mp hu with rfl | hu
      · obtain ⟨a, o, items, n, rfl, hF, hc, hd, hi⟩ := list_at r
        exact ⟨a, items, n, rfl, o, fin _ _ hF, hc, hd⟩
      · exact allL_of fin rs u hu

theorem sortLD_ok {xs : List D} {c : D} {v : Value} {F : Fz} (h : sortLD xs = .ok c) (fin : ∀ b o, F b = some o → s.heap.get? b = some o) (r : VW F s.heap v (.list xs)) (hu : A.units + 200 < cLine) (wk : Bool) : EOk prog w A F s wk c (call (.builtin "sorted") [v]) := by
  unfold sortLD at h
  split at h
  case h_2 => exact sortD_ok h fin r wk
  rename_i ts hts
  split at h
  case isFalse => cases h
  rename_i hl
  cases h
  have hxs := listsI_eq hts
  obtain ⟨a, ia, na, rfl, ea, qa⟩ := r.list fin
  have hlen : ia.toList.length = ts.length := by rw [qa.length, hxs, List.length_map]
  rw [hxs] at qa
  have hl' : s.heap.IsList a ia.toList.toArray := by
    have : ia.toList.toArray = ia := by simp
    rw [this]; exact ea.isl
  by_cases h2 : ts.length < 2
  · refine .newList fin fun Q E k => sorted_short hl' (by omega) fun D h' cc hk h0 hD => k D h' s.toks _ cc hk h0 hD ?_
    have e : sortT ts = ts := by
      match ts, h2 with
      | [], _ => rfl
      | [_], _ => rfl
      | _ :: _ :: _, h2 => simp at h2; omega
    rw [e]; exact qa
  have h2 : 2 ≤ ts.length := by omega
  refine .newList fin fun Q E k => sorted_own (κ := oneType') (lt := fun i j => ltL (ts.getD i []) (ts.getD j [])) hl' (by omega) (by omega) (fun s1 Q1 hg hq => ?_) (fun i j C s1 hi hj hg hC => ?_) (ltL_wo ts) fun D h' tk cc hk h0 hD => ?_
  · exact kindL (allL_of (hp := s1.heap) (fun b o e => hg b o (fin b o e)) qa) (by omega) (hq s1.toks)
  · unfold kas_ask
    have get : ∀ i, i < ia.toList.length → ∃ a o items n, ia.toList.getD i Value.none = .ref a ∧ s1.heap.get? a = some o ∧ o.cls = .type "list" ∧ o.data = .seq items n ∧ IntsAre items.toList (ts.getD i []) := fun i hi => by
      have hi2 : i < ts.length := by omega
      obtain ⟨v, h1, h2⟩ := qa.get (j := i) (d := .list ((ts.getD i []).map .int)) (by
        rw [List.getElem?_map, List.getElem?_eq_getElem hi2, List.getD_eq_getElem?_getD, List.getElem?_eq_getElem hi2]; rfl)
      obtain ⟨a, o, items, n, rfl, hF, hc, hd, hI⟩ := list_at h2
      exact ⟨a, o, items, n, by rw [List.getD_eq_getElem?_getD, h1]; rfl, hg _ _ (fin _ _ hF), hc, hd, hI⟩
    obtain ⟨a1, o1, i1, n1, e1, g1, c1, d1, I1⟩ := get i hi
    obtain ⟨a2, o2, i2, n2, e2, g2, c2, d2, I2⟩ := get j hj
    rw [e1, e2, keyLt'_oneType]
    exact oneLt_list (A := A.in1.in1) (by show A.units + 1 + 1 < cLine; omega) ⟨o1, g1, c1, d1⟩ ⟨o2, g2, c2, d2⟩ I1 I2 hC
  · have o := ltL_wo ts
    obtain ⟨hsz, hpm, hup⟩ := sort_ok o (n := ts.length) (by omega) _ rfl
    have hmem : ∀ i ∈ (runT (fun i j => ltL (ts.getD i []) (ts.getD j [])) (kas_sort ts.length)).toList, i < ts.length := fun i hi => by
      have := hpm.mem_iff.mp (Array.mem_toList_iff.mp hi)
      simpa using this
    have hsrt : ((runT (fun i j => ltL (ts.getD i []) (ts.getD j [])) (kas_sort ts.length)).toList.map fun i => ts.getD i []) = sortT ts := by
      refine srtT_uniq ?_ ?_ (sortT_sorted ts)
      · have h1 : (runT (fun i j => ltL (ts.getD i []) (ts.getD j [])) (kas_sort ts.length)).toList.Perm (List.range ts.length) := by
          have := hpm.toList; simpa using this
        have h2 := h1.map fun i => ts.getD i []
        refine h2.trans ?_
        have : ((List.range ts.length).map fun i => ts.getD i []) = ts := by
          refine List.ext_getElem (by simp) fun i h1 h2 => ?_
          rw [List.getElem_map, List.getElem_range, List.getD_eq_getElem?_getD, List.getElem?_eq_getElem h2]; rfl
        rw [this]; exact (sortT_perm ts).symm
      · rw [SrtT, List.pairwise_map, List.pairwise_iff_getElem]
        intro i j hi hj hij
        have := hup i j hij (by rw [← hsz]; simpa using hj)
        rw [Array.length_toList] at hi hj
        have e : ∀ m, (hm : m < (runT (fun i j => ltL (ts.getD i []) (ts.getD j [])) (kas_sort ts.length)).size) → at' (runT (fun i j => ltL (ts.getD i []) (ts.getD j [])) (kas_sort ts.length)) m = (runT (fun i j => ltL (ts.getD i []) (ts.getD j [])) (kas_sort ts.length)).toList[m]'(by simpa using hm) := fun m hm => by
          unfold at'; rw [Array.getD_eq_getD_getElem?, Array.getElem?_eq_getElem hm]; simp
        rw [e i hi, e j hj] at this
        exact this
    refine k D h' tk _ cc hk h0 hD ?_
    show VRs F (outOf _ ia.toList) _
    unfold outOf
    rw [hlen]
    have hv := qa.idx (l := (runT (fun i j => ltL (ts.getD i []) (ts.getD j [])) (kas_sort ts.length)).toList) (fun i hi => by rw [hlen]; exact hmem i hi)
    have hd : ((runT (fun i j => ltL (ts.getD i []) (ts.getD j [])) (kas_sort ts.length)).toList.map fun i => (ts.map fun t => PyData.list (t.map .int)).getD i .none) = (sortT ts).map fun t => .list (t.map .int) := by
      rw [← hsrt, List.map_map]
      refine List.map_congr_left fun i hi => ?_
      have hi2 := hmem i hi
      show (ts.map fun t => PyData.list (t.map .int)).getD i .none = .list ((ts.getD i []).map .int)
      rw [List.getD_eq_getElem?_getD, List.getElem?_map, List.getD_eq_getElem?_getD, List.getElem?_eq_getElem hi2]; rfl
    rw [hd] at hv
    exact hv
end
end Mine

/-! Dit -/
namespace Mine
/-- a dictionary as it lies in the heap, whatever its keys -/
def RawD (h : Heap) (d : Addr) (es : Array DictEntry) (ep : Nat) : Prop := ∃ o, h.get? d = some o ∧ o.cls = .type "dict" ∧ o.data = .dict es ep
theorem RawD.typeIs {s : Shared} {d es ep} (x : RawD s.heap d es ep) : s.TypeIs (.ref d) "dict" := let ⟨o, ho, hc, _⟩ := x; ⟨o, ho, hc⟩
theorem RawD.at {h h' : Heap} {d es ep} (x : RawD h d es ep) (e : ∀ o, h.get? d = some o → h'.get? d = some o) : RawD h' d es ep := let ⟨o, ho, r⟩ := x; ⟨o, e _ ho, r⟩
theorem RawD.lt {h : Heap} {d es ep} (x : RawD h d es ep) : d < h.objs.size := let ⟨_, ho, _⟩ := x; Heap.lt_size ho

section
variable {prog : Program} {w : World} {A : Around} {E : Value → Shared → Prop} {s : Shared} {d : Addr} {es : Array DictEntry} {ep : Nat}
theorem raw_iter {Q : Value → Shared → Prop} (hd : (d == sysModules) = false) (hm : RawD s.heap d es ep)
    (hQ : Q (.ref s.heap.objs.size) { s with heap := s.heap.push { cls := .type "dict_keyiterator", data := .fields #[.ref d, .int 0 0, .int es.size 0, .int ep 0] } }) :
    wpAny (model prog w) A (pyIter (.ref d)) Q E s := by
  obtain ⟨o, ho, hc, hdat⟩ := id hm
  have hT : s.TypeIs (.ref d) "dict" := ⟨o, ho, hc⟩
  refine wpAny_pyIter_slot hT F.slot_dict_iter (wpAny_call_entry F.slot_dict_iter hT F.entry_dict_iter ?_ (F.args_dict_iter_1 _))
  unfold Builtin.«dict.__iter__»
  wp_walk using wpAny_notOrdered_dict hT, wpAny_dictEntries ho hdat, wpAny_dictEpoch ho hdat
  exact ⟨_, rfl, "dict_keyiterator", _, ⟨_, Heap.get?_push_size _ rfl, rfl⟩, F.slot_dict_keyiterator_next.lookup, hQ⟩
theorem raw_next {it : Addr} {i : Nat} {Q : Option Value → Shared → Prop} (hit : s.heap.IsKeyIter it d i es.size ep) (hm : RawD s.heap d es ep) (hi : i < es.size)
    (hQ : ∀ h', h'.IsKeyIter it d (i + 1) es.size ep → Heap.SameBut it s.heap h' → Q (some es[i].key) { s with heap := h' }) :
    wpAny (model prog w) A (pyNext (.ref it)) Q E s := by
  obtain ⟨o, ho, hc, hd⟩ := id hit
  obtain ⟨od, hod, hcd, hdd⟩ := id hm
  have hown : Builtin.Dict_items.ownsTuple "dict_keyiterator" = false := by decide
  have hit' : (s.heap.update it (Obj.mapFields (·.setIfInBounds 1 (rawInt ((i : Int) + 1))))).IsKeyIter it d (i + 1) es.size ep :=
    ⟨_, Heap.get?_update_self _ ho (Obj.isFreed_of_fields (Obj.data_mapFields hd _)), (Obj.cls_mapFields ..).trans hc, by rw [Obj.data_mapFields hd]; simp [rawInt]⟩
  unfold pyNext
  refine wpAny_bind (wpAny_attempt (wpAny_callSpecial?_slot (name := Str.ofString "__next__") hit.typeIs F.slot_dict_keyiterator_next
    (wpAny_call_entry F.slot_dict_keyiterator_next hit.typeIs F.entry_dict_keyiterator_next ?_ (F.args_dict_keyiterator_next_1 _))))
  unfold Builtin.«dict_keyiterator.__next__»
  wp_walk using wpAny_typeNameOfWhole_keyiter hit.typeIs, wpAny_typeNameOf_keyiter hit.typeIs, wpAny_fieldsOf ho hd, wpAny_dictEntries hod hdd, wpAny_dictEpoch hod hdd, wpAny_isOneOf_keyiter hit.typeIs
  rw [show (if (i : Int) < 0 then none else es[(i : Int).toNat]?) = some es[i] by rw [if_neg (by omega), Int.toNat_natCast, Array.getElem?_eq_getElem hi]]
  dsimp only
  have up : ∀ f, (s.heap.update it (Obj.mapFields f)).get? it = some (Obj.mapFields f o) := fun f => Heap.get?_update_self _ ho (Obj.isFreed_of_fields (Obj.data_mapFields hd _))
  have typ : ∀ f, ({ s with heap := s.heap.update it (Obj.mapFields f) } : Shared).TypeIs (.ref it) "dict_keyiterator" := fun f => ⟨_, up f, (Obj.cls_mapFields ..).trans hc⟩
  wp_walk using wpAny_typeNameOfWhole_keyiter hit.typeIs, wpAny_typeNameOf_keyiter hit.typeIs, wpAny_isOneOf_keyiter hit.typeIs, wpAny_setField ho hd (by simp [hown]), wpAny_isOneOf_keyiter (typ _)
  exact ⟨_, rfl, wpAny_pure (hQ _ hit' (Heap.SameBut.update ..))⟩
theorem raw_end {it : Addr} {i : Nat} {Q : Option Value → Shared → Prop} (hh : A.handled = none) (hit : s.heap.IsKeyIter it d i es.size ep) (hm : RawD s.heap d es ep) (hi : es.size ≤ i)
    (hQ : ∀ h', Heap.ExtBut it s.heap h' → Q none { s with heap := h' }) : wpAny (model prog w) A (pyNext (.ref it)) Q E s := by
  obtain ⟨o, ho, hc, hd⟩ := id hit
  obtain ⟨od, hod, hcd, hdd⟩ := id hm
  have hown : Builtin.Dict_items.ownsTuple "dict_keyiterator" = false := by decide
  unfold pyNext
  refine wpAny_bind (wpAny_attempt (wpAny_callSpecial?_slot (name := Str.ofString "__next__") hit.typeIs F.slot_dict_keyiterator_next
    (wpAny_call_entry F.slot_dict_keyiterator_next hit.typeIs F.entry_dict_keyiterator_next ?_ (F.args_dict_keyiterator_next_1 _))))
  unfold Builtin.«dict_keyiterator.__next__»
  wp_walk using wpAny_typeNameOfWhole_keyiter hit.typeIs, wpAny_typeNameOf_keyiter hit.typeIs, wpAny_fieldsOf ho hd, wpAny_dictEntries hod hdd, wpAny_dictEpoch hod hdd, wpAny_isOneOf_keyiter hit.typeIs
  rw [show (if (i : Int) < 0 then none else es[(i : Int).toNat]?) = none by rw [if_neg (by omega), Int.toNat_natCast, Array.getElem?_eq_none hi]]
  dsimp only
  wp_walk using wpAny_typeNameOfWhole_keyiter hit.typeIs, wpAny_typeNameOf_keyiter hit.typeIs, wpAny_setField ho hd (by simp [hown])
  unfold raiseNew
  refine wpAny_bind (wpAny_handled ?_)
  rw [show A.in1.handled = none from hh]
  refine wpAny_throw (wpAny_bind (wpAny_isInstance (T := "StopIteration") (b := true) ⟨_, Heap.get?_push_size _ rfl, rfl⟩ isSubtype_stop (wpAny_pure (hQ _ ?_))))
  exact (((Heap.SameBut.update ..).extBut.push _).push _)
theorem raw_walks (hh : A.handled = none) (I d : Addr) (hne : d ≠ I) (es : Array DictEntry) (ep : Nat) :
    Walks prog w A I [I, d] [I] es.size (fun i v => es[i]?.map (·.key) = some v) (fun i h => h.IsKeyIter I d i es.size ep ∧ RawD h d es ep) where
  sub := fun b hb => by simp at hb; simp [hb]
  frame := fun _ _ _ st hk => ⟨st.1.at fun o e => hk I (by simp) o e, st.2.at fun o e => hk d (by simp) o e⟩
  item := fun i s Q E hi st hQ => by
    refine raw_next st.1 st.2 hi fun h' hit' hs' => ?_
    exact hQ _ h' s.toks (by rw [Array.getElem?_eq_getElem hi]; rfl) ⟨hit', st.2.at fun o e => hs'.extBut d o hne e⟩ fun b o hb e => hs'.extBut b o (fun h => hb (by simp [h])) e
  done := fun s Q E st hQ => raw_end hh st.1 st.2 (Nat.le_refl _) fun h' he' => hQ h' s.toks fun b o hb e => he' b o (fun h => hb (by simp [h])) e
  self := fun _ _ _ _ st hQ => wpAny_pyIter_keyiter st.1 hQ
theorem raw_src (lo : (d == sysModules) = false) : KdlSrc prog w "dict" d d es.size (fun i v => es[i]?.map (·.key) = some v) (fun h => RawD h d es ep) where
  type := fun _ hm => hm.typeIs
  there := fun _ hm => ⟨hm.lt, hm.lt⟩
  keep := fun _ _ hm hk => hm.at fun o e => hk d (.inl rfl) o e
  notList := by decide
  notTuple := by decide
  hint := fun _ _ _ _ hm hq => kdl_hint_dict hm.typeIs hq
  iter := fun _ _ hh hm => ⟨_, _, (fun _ _ hq => raw_iter lo hm hq), raw_walks hh _ d (Nat.ne_of_lt hm.lt) es ep, ⟨⟨_, Heap.get?_push_size _ rfl, rfl, rfl⟩, hm.at fun o e => Heap.get?_push_of_some _ e⟩⟩
end
end Mine

/-! Srt5 -/
namespace Mine

section
variable {prog : Program} {w : World} {A : Around} {E : Value → Shared → Prop} {s : Shared} {vs : List Value} {κ : SortKind} {lt : Nat → Nat → Bool}
theorem zip_self : ∀ vs : List Value, vs.zip vs = vs.map fun v => (v, v)
  | [] => rfl
  | v :: r => by rw [List.zip_cons_cons, zip_self r, List.map_cons]
theorem zip_rev (vs : List Value) : (vs.toArray.zip vs.toArray).reverse = vs.reverse.toArray.zip vs.reverse.toArray := by
  apply Array.toList_inj.mp
  rw [Array.toList_reverse, Array.toList_zip, Array.toList_zip]
  show (vs.zip vs).reverse = vs.reverse.zip vs.reverse
  rw [zip_self, zip_self, List.map_reverse]

/-- the list that a reversed sort leaves -/
def outR (lt : Nat → Nat → Bool) (vs : List Value) : List Value := if vs.length < 2 then vs else (outOf lt vs.reverse).reverse
theorem lsort_rev {n : Nat} {a : Addr} {P : PySem.Fin → Shared → Prop} (ho : s.heap.get? a = some (seqObj "list" vs.toArray n)) (h64 : vs.length < 64)
    (hk : ∀ (s1 : Shared) (Q : SortKind → Shared → Prop), 2 ≤ vs.length → (∀ b o, b ≠ a → s.heap.get? b = some o → s1.heap.get? b = some o) → (∀ tk, Q κ { s1 with toks := tk }) → wpAny (model prog w) A (keyKind' vs.toArray) Q (fun _ _ => False) s1)
    (hc : ∀ i j (C : Bool → Shared → Prop) (s1 : Shared), i < vs.length → j < vs.length → (∀ b o, b ≠ a → s.heap.get? b = some o → s1.heap.get? b = some o) → (∀ tk, C (lt i j) { s1 with toks := tk }) → kas_ask prog w A κ vs.reverse i j C s1)
    (o : WO lt) (k : ∀ h' tk c, (∀ b o, b ≠ a → s.heap.get? b = some o → h'.get? b = some o) → h'.get? a = some (seqObj "list" (List.toArray (outR lt vs)) c) → P (.done (.ret .none)) { s with heap := h', toks := tk }) :
    wpAny (model prog w) A (Builtin.«list.sort» ⟨[.ref a], [(Str.ofString "reverse", .bool true)]⟩) P E s := by
  have ha : a < s.heap.objs.size := Heap.lt_size ho
  obtain ⟨e1, ho1⟩ : ∃ e1, (s.heap.update a (Obj.mapSeq fun _ => (#[] : Array Value))).get? a = some (seqObj "list" #[] e1) := ⟨_, get?_update_seq ho fun _ => #[]⟩
  have k1 : ∀ b o, b ≠ a → s.heap.get? b = some o → (((s.heap.update a (Obj.mapSeq fun _ => (#[] : Array Value))).push (seqObj "tuple" vs.toArray 0)).push (seqObj "list" #[] 0)).get? b = some o := fun b o hb e =>
    Heap.get?_push_of_some _ (Heap.get?_push_of_some _ ((Heap.SameBut.update s.heap a _).extBut b o hb e))
  have ha1 : (((s.heap.update a (Obj.mapSeq fun _ => (#[] : Array Value))).push (seqObj "tuple" vs.toArray 0)).push (seqObj "list" #[] 0)).get? a = some (seqObj "list" #[] e1) := Heap.get?_push_of_some _ (Heap.get?_push_of_some _ ho1)
  rw [list_sort_rev]
  refine wpAny_bind (listItems_at ho rfl ?_)
  refine wpAny_bind (listUpdate_at ho rfl ?_ (by rw [List.size_toArray, sizeLine_eq]; omega) (Nat.zero_le _))
  refine wpAny_bind (seqEpoch_at ho1 rfl ?_)
  refine wpAny_bind (wpAny_newTuple ?_ (by show vs.length ≤ _; rw [sizeLine_eq]; omega))
  refine wpAny_bind (wpAny_newList ?_ (Nat.zero_le _))
  refine wpAny_holding ?_
  show wpAny (model prog w) A _ P E { s with heap := ((s.heap.update a (Obj.mapSeq fun _ => (#[] : Array Value))).push (seqObj "tuple" vs.toArray 0)).push (seqObj "list" #[] 0) }
  generalize ((s.heap.update a (Obj.mapSeq fun _ => (#[] : Array Value))).push (seqObj "tuple" vs.toArray 0)).push (seqObj "list" #[] 0) = H at k1 ha1 ⊢
  simp only [if_true]
  refine wpAny_bind (wpAny_rule ?_)
  by_cases h2 : vs.length < 2
  · have hn2 : vs.toArray.size < 2 := by rw [List.size_toArray]; omega
    rw [if_pos hn2, if_pos hn2]
    refine wpAny_bind (wpAny_pure ?_)
    refine wpAny_bind (wpAny_pure ?_)
    dsimp only
    have hrr : vs.reverse = vs := by
      match vs, h2 with
      | [], _ => rfl
      | [_], _ => rfl
      | _ :: _ :: _, h2 => simp at h2; omega
    have hout : (Array.map (fun x : Value × Value => x.2) (vs.toArray.zip vs.toArray).reverse).reverse = vs.toArray := by
      rw [zip_rev, hrr]
      apply Array.toList_inj.mp
      rw [Array.toList_reverse, Array.toList_map, Array.toList_zip]
      show ((vs.zip vs).map Prod.snd).reverse = vs
      rw [List.map_snd_zip (Nat.le_refl _), hrr]
    have harr : (Array.map (fun x => x.snd) (arrOf (SortSt.mk' general' (vs.toArray.zip vs.toArray).reverse #[] 7 none))).reverse = vs.toArray := hout
    have hR : outR lt vs = vs := by unfold outR; rw [if_pos h2]
    change wpAny (model prog w) A (do let _ ← _; _) P E _
    obtain ⟨c2, hc2⟩ : ∃ c2, (H.update a (Obj.mapSeq fun _ => vs.toArray)).get? a = some (seqObj "list" vs.toArray c2) := ⟨_, get?_update_seq ha1 fun _ => vs.toArray⟩
    refine wpAny_bind (seqEpoch_at ha1 rfl ?_)
    refine wpAny_bind (listUpdate_at ha1 rfl ?_ (Nat.zero_le _) ?_)
    · show wpAny (model prog w) A (if (e1 != e1) = true then _ else _) P E _
      simp only [bne_self_eq_false, Bool.false_eq_true, if_false]
      refine wpAny_pure ?_
      rw [harr]
      exact k _ _ c2 (fun b o hb e => (Heap.SameBut.update H a _).extBut b o hb (k1 b o hb e)) (by rw [hR]; exact hc2)
    · rw [harr, List.size_toArray, sizeLine_eq]; omega
  · have hn2 : ¬ vs.toArray.size < 2 := by rw [List.size_toArray]; omega
    rw [if_neg hn2, if_neg hn2]
    have h2 : 2 ≤ vs.length := by omega
    refine wpAny_bind (wpAny_mono (hk { s with heap := H } _ h2 k1 fun tk => ?_) (fun _ _ x => x) fun _ _ x => x.elim)
    have hrl : vs.reverse.length = vs.length := List.length_reverse
    obtain ⟨hsz, hpm, hup⟩ := sort_ok o (n := vs.reverse.length) (by omega) _ rfl
    have run : (kas_sort vs.reverse.length).kasWp (kas_ask prog w A κ vs.reverse) (fun p s' => p = runT lt (kas_sort vs.reverse.length) ∧ ∃ t, s' = { s with heap := H, toks := t }) { s with heap := H, toks := tk } :=
      kasWp_run (R := (· < vs.reverse.length)) (lt := lt) (Inv := fun s' => ∃ t, s' = { s with heap := H, toks := t }) (fun i j C s1 hi hj hinv hC => by
        obtain ⟨t, rfl⟩ := hinv
        exact hc i j C _ (by omega) (by omega) k1 fun tk' => hC _ ⟨tk', rfl⟩) _ _ _ (asks_sort (by omega)) ⟨tk, rfl⟩ fun s' hs' => ⟨rfl, hs'⟩
    rw [zip_rev]
    refine wpAny_bind (wpAny_mono (kat_run (ks := vs.reverse) (vs := vs.reverse) (E := fun _ _ => False) (Q := fun st' s' => arrOf st' = (runT lt (kas_sort vs.reverse.length)).map (kas_item (vs.reverse.toArray.zip vs.reverse.toArray)) ∧ failedOf st' = none ∧ ∃ t, s' = { s with heap := H, toks := t })
      rfl (by omega) (by omega) (fun p' st' s' a1 a2 a3 a4 => ⟨by rw [a2, a4.1], a3, a4.2⟩) run) ?_ fun _ _ e => e.elim)
    rintro ⟨⟨⟩, st'⟩ s' ⟨har, hf, t, rfl⟩
    dsimp only
    have hout := kat_snds (ks := vs.reverse) (vs := vs.reverse) rfl har
    have hR : (List.toArray (outOf lt vs.reverse)).reverse = List.toArray (outR lt vs) := by unfold outR; rw [if_neg (by omega), List.reverse_toArray]
    have hsz2 : (List.toArray (outR lt vs)).size = vs.length := by rw [← hR, Array.size_reverse, List.size_toArray]; unfold outOf; rw [List.length_map, Array.length_toList, hsz, hrl]
    rw [show (Array.map (fun x => x.snd) (arrOf st')) = List.toArray (outOf lt vs.reverse) from hout, hR]
    change wpAny (model prog w) A (do let _ ← _; _) P E _
    obtain ⟨c2, hc2⟩ : ∃ c2, (H.update a (Obj.mapSeq fun _ => List.toArray (outR lt vs))).get? a = some (seqObj "list" (List.toArray (outR lt vs)) c2) := ⟨_, get?_update_seq ha1 fun _ => List.toArray (outR lt vs)⟩
    refine wpAny_bind (seqEpoch_at ha1 rfl ?_)
    refine wpAny_bind (listUpdate_at ha1 rfl ?_ (Nat.zero_le _) (Nat.le_trans (Nat.le_of_eq hsz2) (by rw [sizeLine_eq]; omega)))
    rw [hf]
    simp only [bne_self_eq_false, Bool.false_eq_true, if_false]
    exact wpAny_pure (k _ _ c2 (fun b o hb e => (Heap.SameBut.update H a _).extBut b o hb (k1 b o hb e)) hc2)

theorem sorted_dict_rev {d : Addr} {es : Array DictEntry} {ep : Nat} {Q : Value → Shared → Prop} (lo : (d == sysModules) = false) (hm : RawD s.heap d es ep) (hh : A.handled = none) (h64 : es.size < 64) (hvs : vs = es.toList.map (·.key))
    (hk : ∀ (s1 : Shared) (Q : SortKind → Shared → Prop), 2 ≤ vs.length → (∀ b o, s.heap.get? b = some o → s1.heap.get? b = some o) → (∀ tk, Q κ { s1 with toks := tk }) → wpAny (model prog w) A.in1.in1 (keyKind' vs.toArray) Q (fun _ _ => False) s1)
    (hc : ∀ i j (C : Bool → Shared → Prop) (s1 : Shared), i < vs.length → j < vs.length → (∀ b o, s.heap.get? b = some o → s1.heap.get? b = some o) → (∀ tk, C (lt i j) { s1 with toks := tk }) → kas_ask prog w A.in1.in1 κ vs.reverse i j C s1)
    (o : WO lt) (k : ∀ D h' tk c, (∀ b o, s.heap.get? b = some o → h'.get? b = some o) → s.heap.get? D = none → h'.get? D = some (plainL (List.toArray (outR lt vs)) c) → Q (.ref D) { s with heap := h', toks := tk }) :
    wpAny (model prog w) A (call (.builtin "sorted") [.ref d] [(Str.ofString "reverse", .bool true)]) Q E s := by
  have hl0 : vs.length = es.size := by rw [hvs, List.length_map, Array.length_toList]
  refine call_function_entry_kw kind_sorted plain_sorted entry_sorted (args_sorted_rev _ _) ?_
  unfold Builtin.«sorted»
  refine wpAny_bind (m := checkCount "sorted" 1 1 _) (wpAny_pure ?_)
  refine wpAny_bind (kdu_collect (A := A.in1) (raw_src (d := d) (es := es) (ep := ep) lo) hh hm (by rw [sizeLine_eq]; omega) fun h' tk acc hkp hacc => ?_)
  have hva : acc.toList = vs := by
    refine List.ext_getElem? fun i => ?_
    by_cases hi : i < es.size
    · have hi' : i < acc.size := by rw [hacc.1]; exact hi
      have := hacc.2 i acc[i] (Array.getElem?_eq_getElem hi')
      rw [Array.getElem?_toList, Array.getElem?_eq_getElem hi', hvs, List.getElem?_map, Array.getElem?_toList]
      exact this.symm
    · rw [Array.getElem?_toList, Array.getElem?_eq_none (by rw [hacc.1]; omega), List.getElem?_eq_none (by omega)]
  rw [hva]
  refine wpAny_bind (wpAny_newList ?_ (by rw [sizeLine_eq]; omega))
  have hoL : (h'.push (seqObj "list" vs.toArray 0)).get? h'.objs.size = some (seqObj "list" vs.toArray 0) := Heap.get?_push_size _ rfl
  have keep : ∀ b o, s.heap.get? b = some o → (h'.push (seqObj "list" vs.toArray 0)).get? b = some o := fun b o q => Heap.get?_push_of_some _ (hkp b o q)
  have off : ∀ b o, s.heap.get? b = some o → b ≠ h'.objs.size := fun b o e => Nat.ne_of_lt (Heap.lt_size (hkp b o e))
  have hD : s.heap.get? h'.objs.size = none := by
    cases q : s.heap.get? h'.objs.size with
    | none => rfl
    | some o => exact absurd rfl (off _ _ q)
  refine wpAny_bind (wpAny_holding (wpAny_call_entry_kw slot_list_sort ⟨_, hoL, rfl⟩ entry_list_sort ?body (args_list_sort_rev _ _)))
  case body =>
    refine lsort_rev (s := { s with heap := h'.push (seqObj "list" vs.toArray 0), toks := tk }) hoL (by omega) (fun s1 Q h2 hg hq => hk s1 Q h2 (fun b o e => hg b o (off b o e) (keep b o e)) hq) (fun i j C s1 hi hj hg hC => hc i j C s1 hi hj (fun b o e => hg b o (off b o e) (keep b o e)) hC) o fun h'' tk c hg he => ?_
    exact ⟨_, rfl, wpAny_pure ⟨_, rfl, k _ h'' tk c (fun b o e => hg b o (off b o e) (keep b o e)) hD he⟩⟩

theorem sortDict_ok {F : Fz} {v : Value} {ts : List (List Int)} (h64 : ts.length < 64) (hne : ts.all (fun t => !t.isEmpty) = true) (fin : ∀ b o, F b = some o → s.heap.get? b = some o) (r : VW F s.heap v (dictD ts)) (hh : A.handled = none) (wk : Bool) :
    EOk prog w A F s wk (.list ((sortT ts).reverse.map tupD)) (call (.builtin "sorted") [v] [(Str.ofString "reverse", .bool true)]) := by
  obtain ⟨a, o, es, n, rfl, ha, c, d, x⟩ := r.ents fin
  have qa := x.key
  obtain ⟨vs, hvs⟩ : ∃ vs, vs = es.toList.map (·.key) := ⟨_, rfl⟩
  rw [← hvs] at qa
  have hlen : vs.length = ts.length := by rw [qa.length, List.length_map]
  have hsz : es.size = ts.length := by rw [← hlen, hvs, List.length_map, Array.length_toList]
  have qr : VRs F vs.reverse (ts.reverse.map tupD) := by rw [List.map_reverse]; exact qa.reverse
  have hlr : ts.reverse.length = ts.length := List.length_reverse
  have hvr : vs.reverse.length = vs.length := List.length_reverse
  refine .newList fin fun Q E k => sorted_dict_rev (vs := vs) (κ := tuples' (Value.type "int" != Value.type "tuple")) (lt := fun i j => ltL (ts.reverse.getD i []) (ts.reverse.getD j [])) x.low ⟨o, ha, c.1, d⟩ hh (by omega) hvs (fun s1 Q1 h2 hg hq => ?_) (fun i j C s1 hi hj hg hC => ?_) (ltL_wo ts.reverse) fun D h' tk cc hk h0 hD => ?_
  · obtain ⟨fs, hf1, hf2, hf3⟩ := katTups_of (hp := s1.heap) (fun b o e => hg b o (fin b o e)) qa hne
    exact kat_kind (T := .type "int") hf1 (by omega) (fun v hv => by obtain ⟨i, t, rfl⟩ := hf3 v hv; exact Looks.of_pure rfl) (by decide) (hq s1.toks)
  · unfold kas_ask
    have get : ∀ i, i < vs.length → ∃ a o items n, vs.reverse.getD i Value.none = .ref a ∧ s1.heap.get? a = some o ∧ o.cls = .type "tuple" ∧ o.data = .seq items n ∧ IntsAre items.toList (ts.reverse.getD i []) := fun i hi => by
      have hi2 : i < ts.reverse.length := by omega
      obtain ⟨v, h1, h2⟩ := qr.get (j := i) (d := .tuple ((ts.reverse.getD i []).map .int)) (by
        rw [List.getElem?_map, List.getElem?_eq_getElem hi2, List.getD_eq_getElem?_getD, List.getElem?_eq_getElem hi2]; rfl)
      obtain ⟨a, o, items, n, rfl, hF, hc, hd, hI⟩ := tupF h2
      exact ⟨a, o, items, n, by rw [List.getD_eq_getElem?_getD, h1]; rfl, hg _ _ (fin _ _ hF), hc, hd, hI⟩
    obtain ⟨a1, o1, i1, n1, e1, g1, c1, d1, I1⟩ := get i hi
    obtain ⟨a2, o2, i2, n2, e2, g2, c2, d2, I2⟩ := get j hj
    rw [e1, e2]
    refine kat_lt g1 d1 g2 d2 ?_
    have := katLex_ints (prog := prog) (w := w) (A := A.in1.in1) (b := (Value.type "int" != Value.type "tuple")) (Q := C) (i := 0) (s := s1) I1 I2 hC
    rw [Array.length_toList, Array.length_toList] at this
    exact this
  · refine k D h' tk _ cc hk h0 hD ?_
    show VRs F (outR _ vs) _
    unfold outR
    by_cases h2 : vs.length < 2
    · rw [if_pos h2]
      have e : (sortT ts).reverse = ts := by
        match ts, hlen ▸ h2 with
        | [], _ => rfl
        | [_], _ => rfl
        | _ :: _ :: _, h2 => simp at h2; omega
      rw [e]; exact qa
    rw [if_neg h2, List.map_reverse]
    refine VRs.reverse ?_
    have o := ltL_wo ts.reverse
    obtain ⟨hsz, hpm, hup⟩ := sort_ok o (n := ts.reverse.length) (by omega) _ rfl
    have hmem : ∀ i ∈ (runT (fun i j => ltL (ts.reverse.getD i []) (ts.reverse.getD j [])) (kas_sort ts.reverse.length)).toList, i < ts.reverse.length := fun i hi => by
      have := hpm.mem_iff.mp (Array.mem_toList_iff.mp hi)
      simpa using this
    have hsrt : ((runT (fun i j => ltL (ts.reverse.getD i []) (ts.reverse.getD j [])) (kas_sort ts.reverse.length)).toList.map fun i => ts.reverse.getD i []) = sortT ts := by
      refine srtT_uniq ?_ ?_ (sortT_sorted ts)
      · have h1 : (runT (fun i j => ltL (ts.reverse.getD i []) (ts.reverse.getD j [])) (kas_sort ts.reverse.length)).toList.Perm (List.range ts.reverse.length) := by
          have := hpm.toList; simpa using this
        have h2 := h1.map fun i => ts.reverse.getD i []
        refine h2.trans ?_
        have : ((List.range ts.reverse.length).map fun i => ts.reverse.getD i []) = ts.reverse := by
          refine List.ext_getElem (by simp) fun i h1 h2 => ?_
          rw [List.getElem_map, List.getElem_range, List.getD_eq_getElem?_getD, List.getElem?_eq_getElem h2]; rfl
        rw [this]; exact (List.reverse_perm ts).trans (sortT_perm ts).symm
      · rw [SrtT, List.pairwise_map, List.pairwise_iff_getElem]
        intro i j hi hj hij
        have := hup i j hij (by rw [← hsz]; simpa using hj)
        rw [Array.length_toList] at hi hj
        have e : ∀ m, (hm : m < (runT (fun i j => ltL (ts.reverse.getD i []) (ts.reverse.getD j [])) (kas_sort ts.reverse.length)).size) → at' (runT (fun i j => ltL (ts.reverse.getD i []) (ts.reverse.getD j [])) (kas_sort ts.reverse.length)) m = (runT (fun i j => ltL (ts.reverse.getD i []) (ts.reverse.getD j [])) (kas_sort ts.reverse.length)).toList[m]'(by simpa using hm) := fun m hm => by
          unfold at'; rw [Array.getD_eq_getD_getElem?, Array.getElem?_eq_getElem hm]; simp
        rw [e i hi, e j hj] at this
        exact this
    show VRs F (outOf _ vs.reverse) _
    unfold outOf
    rw [hvr, hlen, ← hlr]
    have hv := qr.idx (l := (runT (fun i j => ltL (ts.reverse.getD i []) (ts.reverse.getD j [])) (kas_sort ts.reverse.length)).toList) (fun i hi => by rw [hvr, hlen, ← hlr]; exact hmem i hi)
    have hd : ((runT (fun i j => ltL (ts.reverse.getD i []) (ts.reverse.getD j [])) (kas_sort ts.reverse.length)).toList.map fun i => (ts.reverse.map tupD).getD i .none) = (sortT ts).map tupD := by
      rw [← hsrt, List.map_map]
      refine List.map_congr_left fun i hi => ?_
      have hi2 := hmem i hi
      show (ts.reverse.map tupD).getD i .none = tupD (ts.reverse.getD i [])
      rw [List.getD_eq_getElem?_getD, List.getElem?_map, List.getD_eq_getElem?_getD, List.getElem?_eq_getElem hi2]; rfl
    rw [hd] at hv
    exact hv
end
end Mine

/-! Fns -/
namespace Mine

theorem insI_perm (x : Int) : ∀ l, (insI x l).Perm (x :: l)
  | [] => .refl _
  | y :: r => by
    unfold insI; split
    · exact .refl _
    · exact ((insI_perm x r).cons y).trans (.swap x y r)
theorem sortI_perm : ∀ l, (sortI l).Perm l
  | [] => .refl _
  | x :: r => (insI_perm x (sortI r)).trans ((sortI_perm r).cons x)
theorem insI_sorted (x : Int) : ∀ l : List Int, l.Pairwise (· ≤ ·) → (insI x l).Pairwise (· ≤ ·)
  | [], _ => by simp [insI]
  | y :: r, h => by
    unfold insI; split
    · rename_i hxy
      refine List.pairwise_cons.mpr ⟨fun z hz => ?_, h⟩
      rcases List.mem_cons.mp hz with rfl | hz
      · exact hxy
      · exact Int.le_trans hxy ((List.pairwise_cons.mp h).1 z hz)
    · rename_i hxy
      refine List.pairwise_cons.mpr ⟨fun z hz => ?_, insI_sorted x r (List.pairwise_cons.mp h).2⟩
      rcases List.mem_cons.mp ((insI_perm x r).mem_iff.mp hz) with rfl | hz
      · omega
      · exact (List.pairwise_cons.mp h).1 z hz
theorem sortI_sorted : ∀ l, (sortI l).Pairwise (· ≤ ·)
  | [] => .nil
  | x :: r => insI_sorted x _ (sortI_sorted r)
theorem sorted_uniq : ∀ {a b : List Int}, a.Perm b → a.Pairwise (· ≤ ·) → b.Pairwise (· ≤ ·) → a = b
  | [], b, p, _, _ => (List.nil_perm.mp p).symm
  | x :: a, [], p, _, _ => absurd p.length_eq (by simp)
  | x :: a, y :: b, p, ha, hb => by
    have h1 : x = y := by
      have hx : x ∈ y :: b := p.mem_iff.mp (.head _)
      have hy : y ∈ x :: a := p.mem_iff.mpr (.head _)
      rcases List.mem_cons.mp hx with h | hx
      · exact h
      · rcases List.mem_cons.mp hy with h | hy
        · exact h.symm
        · have := (List.pairwise_cons.mp hb).1 x hx
          have := (List.pairwise_cons.mp ha).1 y hy
          omega
    subst h1
    rw [sorted_uniq ((List.perm_cons x).mp p) (List.pairwise_cons.mp ha).2 (List.pairwise_cons.mp hb).2]

theorem maxI_spec : ∀ (ns : List Int) (m : Int), (maxI m ns = m ∨ maxI m ns ∈ ns) ∧ m ≤ maxI m ns ∧ ∀ a ∈ ns, a ≤ maxI m ns
  | [], m => ⟨.inl rfl, Int.le_refl _, by simp⟩
  | x :: r, m => by
    unfold maxI
    by_cases hc : m < x
    · rw [if_pos hc]
      obtain ⟨h1, h2, h3⟩ := maxI_spec r x
      refine ⟨.inr (h1.elim (fun q => by rw [q]; exact .head _) fun q => .tail _ q), by omega, fun a ha => ?_⟩
      rcases List.mem_cons.mp ha with rfl | ha
      · exact h2
      · exact h3 a ha
    · rw [if_neg hc]
      obtain ⟨h1, h2, h3⟩ := maxI_spec r m
      refine ⟨h1.elim .inl fun q => .inr (.tail _ q), h2, fun a ha => ?_⟩
      rcases List.mem_cons.mp ha with rfl | ha
      · omega
      · exact h3 a ha
theorem minI_spec : ∀ (ns : List Int) (m : Int), (minI m ns = m ∨ minI m ns ∈ ns) ∧ minI m ns ≤ m ∧ ∀ a ∈ ns, minI m ns ≤ a
  | [], m => ⟨.inl rfl, Int.le_refl _, by simp⟩
  | x :: r, m => by
    unfold minI
    by_cases hc : x < m
    · rw [if_pos hc]
      obtain ⟨h1, h2, h3⟩ := minI_spec r x
      refine ⟨.inr (h1.elim (fun q => by rw [q]; exact .head _) fun q => .tail _ q), by omega, fun a ha => ?_⟩
      rcases List.mem_cons.mp ha with rfl | ha
      · exact h2
      · exact h3 a ha
    · rw [if_neg hc]
      obtain ⟨h1, h2, h3⟩ := minI_spec r m
      refine ⟨h1.elim .inl fun q => .inr (.tail _ q), h2, fun a ha => ?_⟩
      rcases List.mem_cons.mp ha with rfl | ha
      · omega
      · exact h3 a ha

theorem ints_items {vs : List Value} {ns : List Int} (h : IntsAre vs ns) : ∃ xs : Array (Int × Tok), vs.toArray = intItems xs ∧ xs.toList.map (·.1) = ns := by
  induction h with
  | nil => exact ⟨#[], by simp [intItems], rfl⟩
  | @cons n t vs ns r ih =>
    obtain ⟨xs, e, q⟩ := ih
    refine ⟨((n, t) :: xs.toList).toArray, ?_, by simp [q]⟩
    have e' := congrArg Array.toList e
    simp only [intItems, Array.toList_map] at e' ⊢
    apply Array.toList_inj.mp
    simp [e']

section
variable {prog : Program} {w : World} {A : Around} {F : Fz} {s : Shared}

theorem plain_toArray {a items n} {h : Heap} (e : LO h a items n) : h.IsList a items.toList.toArray := by
  have : items.toList.toArray = items := by simp
  rw [this]; exact e.isl

theorem max_any {l : Addr} {items : Array Value} {n : Int} {ns : List Int} {Q : Value → Shared → Prop} {E : Value → Shared → Prop} (hh : A.handled = none) (hl : s.heap.IsList l items) (hi : IntsAre items.toList (n :: ns))
    (h : ∀ h' tk t, (∀ b o, s.heap.get? b = some o → h'.get? b = some o) → Q (.int (maxI n ns) t) { s with heap := h', toks := tk }) : wpAny (model prog w) A (call (.builtin "max") [.ref l]) Q E s := by
  obtain ⟨xs, hx, hn⟩ := ints_items hi
  have hx' : items = intItems xs := by rw [← hx]
  subst hx'
  have hlen : xs.size = ns.length + 1 := by have := congrArg List.length hn; simpa using this
  refine max_intList hh hl (by omega) fun v h' tk hv hk => ?_
  obtain ⟨t, rfl⟩ := intItems_at hv
  obtain ⟨h1, h2⟩ := argBest_gt (numAt xs) (xs.size - 1)
  have m1 : numAt xs (argBest (fun i j => decide (numAt xs i > numAt xs j)) (xs.size - 1)) ∈ n :: ns := by
    rw [numAt_eq, ← hn]; exact getD_mem (by rw [List.length_map, Array.length_toList]; omega)
  have m2 : ∀ a ∈ n :: ns, a ≤ numAt xs (argBest (fun i j => decide (numAt xs i > numAt xs j)) (xs.size - 1)) := fun a ha => by
    rw [← hn] at ha
    obtain ⟨j, hj, rfl⟩ := mem_getD ha
    rw [List.length_map, Array.length_toList] at hj
    rw [← numAt_eq]; exact h2 j (by omega)
  obtain ⟨p1, p2, p3⟩ := maxI_spec ns n
  have e : numAt xs (argBest (fun i j => decide (numAt xs i > numAt xs j)) (xs.size - 1)) = maxI n ns := by
    have q1 : numAt xs (argBest (fun i j => decide (numAt xs i > numAt xs j)) (xs.size - 1)) ≤ maxI n ns := by
      rcases List.mem_cons.mp m1 with e | e
      · rw [e]; exact p2
      · exact p3 _ e
    have q2 := m2 (maxI n ns) (p1.elim (fun q => by rw [q]; exact .head _) fun q => .tail _ q)
    omega
  rw [e]
  exact h h' tk t hk
theorem min_any {l : Addr} {items : Array Value} {n : Int} {ns : List Int} {Q : Value → Shared → Prop} {E : Value → Shared → Prop} (hh : A.handled = none) (hl : s.heap.IsList l items) (hi : IntsAre items.toList (n :: ns))
    (h : ∀ h' tk t, (∀ b o, s.heap.get? b = some o → h'.get? b = some o) → Q (.int (minI n ns) t) { s with heap := h', toks := tk }) : wpAny (model prog w) A (call (.builtin "min") [.ref l]) Q E s := by
  obtain ⟨xs, hx, hn⟩ := ints_items hi
  have hx' : items = intItems xs := by rw [← hx]
  subst hx'
  have hlen : xs.size = ns.length + 1 := by have := congrArg List.length hn; simpa using this
  refine min_intList hh hl (by omega) fun v h' tk hv hk => ?_
  obtain ⟨t, rfl⟩ := intItems_at hv
  obtain ⟨h1, h2⟩ := argBest_lt (numAt xs) (xs.size - 1)
  have m1 : numAt xs (argBest (fun i j => decide (numAt xs i < numAt xs j)) (xs.size - 1)) ∈ n :: ns := by
    rw [numAt_eq, ← hn]; exact getD_mem (by rw [List.length_map, Array.length_toList]; omega)
  have m2 : ∀ a ∈ n :: ns, numAt xs (argBest (fun i j => decide (numAt xs i < numAt xs j)) (xs.size - 1)) ≤ a := fun a ha => by
    rw [← hn] at ha
    obtain ⟨j, hj, rfl⟩ := mem_getD ha
    rw [List.length_map, Array.length_toList] at hj
    rw [← numAt_eq]; exact h2 j (by omega)
  obtain ⟨p1, p2, p3⟩ := minI_spec ns n
  have e : numAt xs (argBest (fun i j => decide (numAt xs i < numAt xs j)) (xs.size - 1)) = minI n ns := by
    have q1 : minI n ns ≤ numAt xs (argBest (fun i j => decide (numAt xs i < numAt xs j)) (xs.size - 1)) := by
      rcases List.mem_cons.mp m1 with e | e
      · rw [e]; exact p2
      · exact p3 _ e
    have q2 := m2 (minI n ns) (p1.elim (fun q => by rw [q]; exact .head _) fun q => .tail _ q)
    omega
  rw [e]
  exact h h' tk t hk

theorem fn_ok {id : String} {d c : D} {v : Value} (h : fnD id d = .ok c) (fin : ∀ b o, F b = some o → s.heap.get? b = some o) (r : VW F s.heap v d) (hh : A.handled = none) (hu : A.units + 200 < cLine) (wk : Bool) :
    EOk prog w A F s wk c (call (.builtin id) [v]) := by
  unfold fnD at h
  split at h
  · split at h
    · rename_i xs hm
      cases h
      obtain ⟨a, ia, na, rfl, ea, qa⟩ := r.list fin
      have l1 := qa.length
      rw [Array.length_toList] at l1
      rw [lim_eq] at hm
      rw [← l1]
      exact .now fin fun Q E k => len_list ea.isl (by omega) (k _ _ _ (fun _ _ e => e) (.int _ _))
    · cases h
  · split at h
    · rename_i xs hm
      cases h
      obtain ⟨a, o, ia, na, rfl, ea, ca, da, qa⟩ := r.tup fin
      have l1 := qa.length
      rw [Array.length_toList] at l1
      rw [lim_eq] at hm
      rw [← l1]
      exact .now fin fun Q E k => len_tuple ⟨_, ea, ca, _, da⟩ (by omega) (k _ _ _ (fun _ _ e => e) (.int _ _))
    · cases h
  · split at h
    · rename_i ns hi
      cases h
      obtain ⟨a, ia, na, rfl, ea, qa⟩ := r.list fin
      obtain ⟨xs, hx, hn⟩ := ints_items (intsD_are qa hi)
      have hl := plain_toArray ea
      rw [hx] at hl
      refine fun Q E k => sum_intListG hh hl fun h' tk t' hk => ?_
      have e : preSum (numAt xs) xs.size = ns.sum := by
        rw [preSum_eq, ← hn, List.take_of_length_le (by simp)]
      rw [e]
      exact k _ _ tk _ (Ext.of_keep fin hk) (.frz (.int _ _)) fun _ => .int _ _
    · cases h
  · cases h; obtain ⟨t, rfl⟩ := r.intv
    exact .now fin fun Q E k => call_abs_int fun u tk => k _ _ _ (fun _ _ e => e) (.int _ _)
  · split at h
    · rename_i n ns hi
      cases h
      obtain ⟨a, ia, na, rfl, ea, qa⟩ := r.list fin
      refine fun Q E k => max_any hh ea.isl (intsD_are qa hi) fun h' tk t hk => ?_
      exact k _ _ tk _ (Ext.of_keep fin hk) (.frz (.int _ _)) fun _ => .int _ _
    · cases h
  · split at h
    · rename_i n ns hi
      cases h
      obtain ⟨a, ia, na, rfl, ea, qa⟩ := r.list fin
      refine fun Q E k => min_any hh ea.isl (intsD_are qa hi) fun h' tk t hk => ?_
      exact k _ _ tk _ (Ext.of_keep fin hk) (.frz (.int _ _)) fun _ => .int _ _
    · cases h
  · split at h
    · rename_i ns hi
      split at h
      · rename_i h64
        cases h
        obtain ⟨a, ia, na, rfl, ea, qa⟩ := r.list fin
        have hI := intsD_are qa hi
        refine .newList fin fun Q E k => sorted_ints (plain_toArray ea) hI (by rw [hI.length]; exact h64) fun out ns' ho hp hs => ?_
        obtain ⟨e, he⟩ := sortedAll_at s.heap ia.toList out
        have : ns' = sortI ns := sorted_uniq (hp.trans (sortI_perm ns).symm) hs (sortI_sorted ns)
        subst this
        exact k _ _ s.toks _ _ (fun _ _ => sortedAll_old) (Heap.get?_none_of_le (Nat.le_succ _)) he (vrs_ints ho)
      · cases h
    · exact sortLD_ok h fin r hu wk
  · cases h

theorem rev_ok {id : String} {d c : D} {v : Value} (h : revD id d = .ok c) (hh : A.handled = none) (fin : ∀ b o, F b = some o → s.heap.get? b = some o) (r : VW F s.heap v d) (wk : Bool) :
    EOk prog w A F s wk c (call (.builtin id) [v] [(Str.ofString "reverse", .bool true)]) := by
  unfold revD at h
  split at h
  · split at h
    · rename_i ns hi
      split at h
      · rename_i h64
        cases h
        obtain ⟨a, ia, na, rfl, ea, qa⟩ := r.list fin
        have hI := intsD_are qa hi
        refine .newList fin fun Q E k => sorted_ints_rev (plain_toArray ea) hI (by rw [hI.length]; exact h64) fun out ns' ho hp hs => ?_
        obtain ⟨e, he⟩ := sortedAll_at s.heap ia.toList out
        have hs' : ns'.Pairwise (· ≥ ·) := hs
        have : ns'.reverse = sortI ns := sorted_uniq (((List.reverse_perm ns').trans hp).trans (sortI_perm ns).symm) (List.pairwise_reverse.mpr hs') (sortI_sorted ns)
        have : ns' = (sortI ns).reverse := by rw [← this, List.reverse_reverse]
        subst this
        exact k _ _ s.toks _ _ (fun _ _ => sortedAll_old) (Heap.get?_none_of_le (Nat.le_succ _)) he (vrs_ints ho)
      · cases h
    · cases h
  · split at h
    · rename_i ts hk
      split at h
      · rename_i hl
        cases h
        rw [keysI_eq hk] at r
        exact sortDict_ok hl.1 hl.2 fin r hh wk
      · cases h
    · cases h
  · cases h

theorem ty_ok {T : String} {d c : D} {v : Value} (h : tyD T d = .ok c) (fin : ∀ b o, F b = some o → s.heap.get? b = some o) (r : VW F s.heap v d) (wk : Bool) :
    EOk prog w A F s wk c (call (.type T) [v]) := by
  unfold tyD at h
  split at h
  · cases h; obtain ⟨t, rfl⟩ := r.intv
    exact .now fin fun Q E k => call_int_int (k _ _ s.toks (fun _ _ e => e) (.int _ _))
  · split at h
    · rename_i xs hm
      cases h
      obtain ⟨a, ia, na, rfl, ea, qa⟩ := r.list fin
      have l1 := qa.length
      rw [Array.length_toList] at l1
      rw [lim_eq] at hm
      obtain ⟨oo, eo, co, dd⟩ := ea
      exact .newList fin fun Q E k => call_list_seq a (.inl rfl) eo co dd (fun h' c' hk he => k _ _ s.toks _ _ hk (none_size _) he qa) (by rw [sizeLine_eq]; omega)
    · cases h
  · split at h
    · rename_i xs hm
      cases h
      obtain ⟨a, oa, ia, na, rfl, eo, co, dd, qa⟩ := r.tup fin
      have l1 := qa.length
      rw [Array.length_toList] at l1
      rw [lim_eq] at hm
      exact .newList fin fun Q E k => call_list_seq a (.inr rfl) eo co dd (fun h' c' hk he => k _ _ s.toks _ _ hk (none_size _) he qa) (by rw [sizeLine_eq]; omega)
    · cases h
  · split at h
    · rename_i xs hm
      cases h
      obtain ⟨a, ia, na, rfl, ea, qa⟩ := r.list fin
      have l1 := qa.length
      rw [Array.length_toList] at l1
      rw [lim_eq] at hm
      refine .newTup fin fun Q E k k2 => call_tuple_list ea.isl (fun h' hk => ?_) (by rw [sizeLine_eq]; omega)
      have hn : s.heap.get? h'.objs.size = none := by
        cases q : s.heap.get? h'.objs.size with
        | none => rfl
        | some o => exact absurd (Heap.lt_size (hk _ _ q)) (Nat.lt_irrefl _)
      exact k2 _ _ s.toks _ _ (fun b o e => Heap.get?_push_of_some _ (hk b o e)) hn (Heap.get?_push_size _ rfl) qa
    · cases h
  · cases h

theorem is_ok {T : String} {d : D} {c : Bool} {v : Value} (h : isD T d = .ok c) (fin : ∀ b o, F b = some o → s.heap.get? b = some o) (r : VW F s.heap v d) (wk : Bool) :
    EOk prog w A F s wk (.bool c) (call (.builtin "isinstance") [v, .type T]) := by
  unfold isD at h
  split at h
  · cases h
    obtain ⟨a, ia, na, rfl, ea, qa⟩ := r.list fin
    obtain ⟨oo, eo, co, dd⟩ := ea
    exact .now fin fun Q E k => IsiPair.list_list eo co (k _ _ s.toks (fun _ _ e => e) (.bool _))
  · cases h; obtain ⟨t, rfl⟩ := r.intv
    exact .now fin fun Q E k => IsiPair.int_int (k _ _ s.toks (fun _ _ e => e) (.bool _))
  · cases h; obtain ⟨t, rfl⟩ := r.intv
    exact .now fin fun Q E k => IsiPair.int_bool (k _ _ _ (fun _ _ e => e) (.bool _))
  · cases h

theorem seqIndex_bound {k : Int} {n j : Nat} (h : seqIndex? k n = some j) (hn : n ≤ 1048576) : -(2 ^ 63) ≤ k ∧ k < 2 ^ 63 := by
  unfold seqIndex? at h
  dsimp only at h
  by_cases hk : k < 0
  · simp only [hk, if_true] at h
    split at h
    · rename_i hc
      rw [Bool.and_eq_true, decide_eq_true_eq, decide_eq_true_eq] at hc
      omega
    · cases h
  · simp only [hk, if_false] at h
    split at h
    · rename_i hc
      rw [Bool.and_eq_true, decide_eq_true_eq, decide_eq_true_eq] at hc
      omega
    · cases h

theorem idx_ok {d c : D} {k : Int} {t : Tok} {v : Value} (h : idxD d k = .ok c) (fin : ∀ b o, F b = some o → s.heap.get? b = some o) (r : VW F s.heap v d) (wk : Bool) :
    EOk prog w A F s wk c (getItem v (.int k t)) := by
  unfold idxD at h
  split at h
  · split at h
    · rename_i xs hm
      rw [lim_eq] at hm
      split at h
      · rename_i j hj
        split at h
        · rename_i x hx
          cases h
          obtain ⟨a, ia, na, rfl, ea, qa⟩ := r.list fin
          have l1 := qa.length
          rw [Array.length_toList] at l1
          have hb := seqIndex_bound hj hm
          obtain ⟨y, hy, ry⟩ := qa.get hx
          rw [Array.getElem?_toList] at hy
          refine .now fin fun Q E kk => ?_
          unfold seqIndex? at hj
          dsimp only at hj
          by_cases hk : k < 0
          · rw [if_pos hk] at hj
            split at hj
            · rename_i hc
              rw [Bool.and_eq_true, decide_eq_true_eq, decide_eq_true_eq] at hc
              cases hj
              exact wpAny_getItem_list_neg ea.isl hk (by omega) hb.1 (by rw [l1]; exact hy) (kk _ _ s.toks (fun _ _ e => e) ry)
            · cases hj
          · rw [if_neg hk] at hj
            split at hj
            · rename_i hc
              cases hj
              exact wpAny_getItem_list ea.isl (by omega) hb.2 hy (kk _ _ s.toks (fun _ _ e => e) ry)
            · cases hj
        · cases h
      · cases h
    · cases h
  · split at h
    · rename_i xs hm
      rw [lim_eq] at hm
      split at h
      · rename_i j hj
        split at h
        · rename_i x hx
          cases h
          obtain ⟨a, o, ia, na, rfl, ea, ca, da, qa⟩ := r.tup fin
          have l1 := qa.length
          rw [Array.length_toList] at l1
          have hb := seqIndex_bound hj hm
          obtain ⟨y, hy, ry⟩ := qa.get hx
          rw [Array.getElem?_toList] at hy
          exact .now fin fun Q E kk => PyProof.Rows.getItem_tuple ⟨_, ea, ca, _, da⟩ hb.1 hb.2 (by rw [l1]; exact hj) hy (kk _ _ s.toks (fun _ _ e => e) ry)
        · cases h
      · cases h
    · cases h
  · cases h
end
end Mine

/-! Ex1 -/
namespace Mine

theorem evs_cons {f : Expr → Out D} {e : Expr} {r : List Expr} {ds : List D} (h : evs f (e :: r) = .ok ds) : (∀ x p, e ≠ .Starred x p) ∧ ∃ d ds', f e = .ok d ∧ evs f r = .ok ds' ∧ ds = d :: ds' := by
  unfold evs at h
  split at h
  · rename_i heq; cases heq
  · cases h
  · rename_i e' r' hns heq
    cases heq
    obtain ⟨d, hd, h2⟩ := Out.bind_ok h
    obtain ⟨ds', hds, h3⟩ := Out.bind_ok h2
    cases h3
    exact ⟨fun x p q => hns x p q, d, ds', hd, hds, rfl⟩

theorem starEach_cons {e : Expr} {r : List Expr} {env : Env} (h : ∀ x p, e ≠ .Starred x p) : starEach (e :: r) env = (false, eval e env) :: starEach r env := by
  cases e <;> first | rfl | exact absurd rfl (h _ _)

inductive VWs (F : Fz) (h : Heap) : List Value → List D → Prop
  | nil : VWs F h [] []
  | cons {v d vs ds} : VW F h v d → VWs F h vs ds → VWs F h (v :: vs) (d :: ds)
theorem VWs.ext {F F' : Fz} {h h' : Heap} (x : Ext F h F' h') : ∀ {vs ds}, VWs F h vs ds → VWs F' h' vs ds
  | _, _, .nil => .nil
  | _, _, .cons a r => .cons (a.ext x) (VWs.ext x r)

theorem ext_ER {K mg mb sc env} {F F' : Fz} {ρ} {s : Shared} {h' : Heap} {tk} (R : ER K mg mb sc env F ρ s.heap) (x : Ext F s.heap F' h') : ER K mg mb sc env F' ρ ({ s with heap := h', toks := tk } : Shared).heap := R.ext x

theorem topD_vr {K : Frag} {F : Fz} (kf : KF K F) : ∀ (n : Nat) {v : Value} {d : D}, topD K n v = some d → VR F v d
  | n, v, d, h => by
    unfold topD at h
    split at h
    · cases h; exact .none
    · cases h; exact .bool _
    · cases h; exact .int _ _
    · cases h; exact .str _ _
    · rename_i m a
      split at h
      · rename_i dd xs nn sl hk
        obtain ⟨ds, hds, rfl⟩ := Option.map_eq_some_iff.mp h
        have all : ∀ (l : List Value) (ds : List D), (l.map (topD K m)).foldr (fun o r => o.bind fun x => r.map (x :: ·)) (some []) = some ds → VRs F l ds := by
          intro l
          induction l with
          | nil => intro ds h; cases h; exact .nil
          | cons y l ih =>
            intro ds h
            rw [List.map_cons, List.foldr_cons] at h
            obtain ⟨d1, h1, h2⟩ := Option.bind_eq_some_iff.mp h
            obtain ⟨d2, h3, rfl⟩ := Option.map_eq_some_iff.mp h2
            exact .cons (topD_vr kf m h1) (ih _ h3)
        exact .tuple (kf _ _ hk rfl) rfl rfl (all _ _ hds)
      · cases h
    · cases h
termination_by n => n

section
variable {prog : Program} {w : World} {A : Around} {F : Fz} {s : Shared} {K : Frag} {mg mb : Str → Option Value} {sc : Scope} {env : Env} {ρ : Rho}

theorem kind_of {x : Str} {k : NameKind} (R : ER K mg mb sc env F ρ s.heap) (h : sc.names.lookup x = some k) (hk : k ≠ .free) : env.kindOf x = some k := by
  rcases R.kinds x with e | ⟨e, _⟩
  · rw [e, h]
  · rw [h] at e; cases e; exact absurd rfl hk

theorem name_ok {x : Str} {pos : Pos} {wk : Bool} {d : D} (h : nameD K sc ρ wk x = .ok d) (R : ER K mg mb sc env F ρ s.heap) : EOk prog w A F s wk d (eval (.Name x pos) env) := by
  unfold nameD at h
  split at h
  · cases h
  · rename_i hdb
    rw [Bool.or_eq_true, not_or] at hdb
    have hdb' : (x == ("__debug__" : Str)) = false := by simpa using hdb.1
    have hcd' : (x == ("__classdict__" : Str)) = false := by simpa using hdb.2
    split at h
    · rename_i hv
      split at h
      · rename_i o d' hρ
        split at h
        · cases h
        · rename_i how
          cases h
          obtain ⟨v, sl, vw, vr⟩ := R.vars _ _ _ hρ hv
          refine fun Q E k => ?_
          have fin : Q v s := k v s.heap s.toks F (Ext.refl R.fin) vw (fun hw => vr (by subst hw; simpa using how))
          rcases sl with ⟨hk, m, hn, hm⟩ | ⟨hk, c, hc, hi⟩
          · exact wpAny_Name (wpAny_loadName_local R.kind hk hn hm fin) hdb'
          · rcases hk with hk | hk
            · exact wpAny_Name (wpAny_loadName_cell R.kind hk hc hi fin) hdb'
            · exact wpAny_Name (wpAny_loadName_free R.kind hk hc hi fin hcd') hdb'
      · cases h
    · split at h
      · rename_i hg
        have hg' : sc.names.lookup x = some .globalImplicit := by simpa using hg
        split at h
        · rename_i v hn
          split at h
          · rename_i d' ht
            cases h
            have vr := topD_vr R.kf 4 ht
            refine fun Q E k => PySem.Calls.Name_function_global R.kind (kind_of R hg' (by decide)) ?_ hdb'
            refine PySem.Calls.loadGlobal_global (mg := mg) (by rw [R.gl]; exact R.glb.g) (mg_of R.glb.kin R.glb.g hn) ?_
            exact k v s.heap s.toks F (Ext.refl R.fin) (.frz vr) fun _ => vr
          · cases h
        · cases h
      · cases h

theorem callee_ok {f : Str} {pos : Pos} {c : Callee} (h : calleeD K sc f = some c) (R : ER K mg mb sc env F ρ s.heap) {Q : Value → Shared → Prop} {E : Value → Shared → Prop}
    (k : ∀ v, (match c with
      | .fn => ∃ a, v = .ref a ∧ nsIn K mainGlobals f = some (some (.ref a))
      | .built id => v = .builtin id
      | .ty T => v = .type T) → Q v s) : wpAny (model prog w) A (eval (.Name f pos) env) Q E s := by
  unfold calleeD at h
  split at h
  · cases h
  · rename_i hnd
    rw [Bool.or_eq_true, not_or] at hnd
    have hdb' : (f == ("__debug__" : Str)) = false := by simpa using hnd.1
    have hnm : f ≠ "__name__" := by simpa using hnd.2
    split at h
    · rename_i hg
      have hg' : sc.names.lookup f = some .globalImplicit := by simpa using hg
      refine PySem.Calls.Name_function_global R.kind (kind_of R hg' (by decide)) ?_ hdb'
      split at h
      · rename_i a hn
        cases h
        exact PySem.Calls.loadGlobal_global (mg := mg) (by rw [R.gl]; exact R.glb.g) (mg_of R.glb.kin R.glb.g hn) (k _ ⟨a, rfl, hn⟩)
      · rename_i hn
        have hmb : ∀ v, bootBuiltins f = some v → mb f = some v := fun v e => (R.glb.built f hnm).trans e
        split at h
        · rename_i id hb
          cases h
          exact PySem.Calls.loadGlobal_builtin (mg := mg) (mb := mb) (by rw [R.gl]; exact R.glb.g) (mg_none_of R.glb.kin R.glb.g hn) (by rw [R.bu]; exact R.glb.b) (hmb _ hb) (k _ rfl)
        · rename_i T hb
          cases h
          exact PySem.Calls.loadGlobal_builtin (mg := mg) (mb := mb) (by rw [R.gl]; exact R.glb.g) (mg_none_of R.glb.kin R.glb.g hn) (by rw [R.bu]; exact R.glb.b) (hmb _ hb) (k _ rfl)
        · cases h
      · cases h
    · cases h
end

section
variable {prog : Program} {w : World} {K : Frag} {mg mb : Str → Option Value} {i : In} {n : Nat}

/-- arguments, displays -/
theorem evs_ok (hi : SoundE K mg mb prog w i n) {sc : Scope} {ρ : Rho} {wk : Bool} : ∀ {es : List Expr} {ds : List D}, evs (i.ev sc ρ wk) es = .ok ds → ∀ {A : Around} {env : Env} {F : Fz} {s : Shared} {pos : Pos} {Q : List Value → Shared → Prop} {E : Value → Shared → Prop},
    AOk A n → ER K mg mb sc env F ρ s.heap →
    (∀ vs h' tk F', Ext F s.heap F' h' → VWs F' h' vs ds → (wk = false → VRs F' vs ds) → Q vs { s with heap := h', toks := tk }) → wpAny (model prog w) A (spliced (backTo pos (starEach es env))) Q E s
  | [], ds, h, A, env, F, s, pos, Q, E, hA, R, k => by
    cases h
    exact PySem.Calls.spliced_nil (k [] s.heap s.toks F (Ext.refl R.fin) .nil fun _ => .nil)
  | e :: r, ds, h, A, env, F, s, pos, Q, E, hA, R, k => by
    obtain ⟨hns, d, ds', hd, hds, rfl⟩ := evs_cons h
    rw [starEach_cons hns]
    refine PySem.Calls.spliced_cons (hi _ _ _ _ _ hd A env F s hA R _ _ fun v h₁ tk₁ F₁ x₁ w₁ r₁ => ?_)
    refine evs_ok hi hds hA (ext_ER R x₁) fun vs h₂ tk₂ F₂ x₂ w₂ r₂ => ?_
    exact k _ h₂ tk₂ F₂ (x₁.trans x₂) (.cons (w₁.ext x₂) w₂) fun hw => .cons ((r₁ hw).mono x₂.mono) (r₂ hw)
end

end Mine

/-! Ex2 -/
namespace Mine

section
variable {prog : Program} {w : World} {A : Around} {F : Fz} {s : Shared}

def SrcOk (prog : Program) (w : World) (A : Around) (F : Fz) (s : Shared) (wk : Bool) (ds : List D) (t : Sem Value) : Prop :=
  ∀ (Q : Value → Shared → Prop) (E : Value → Shared → Prop),
    (∀ I fp wr P St h' tk F', Ext F s.heap F' h' → Walks prog w A I fp wr ds.length P St → St 0 h' → (∀ b ∈ fp, b < h'.objs.size) → (∀ b ∈ wr, b = I) → F' I = none → s.heap.get? I = none → (∀ j h, St j h → ∃ o, h.get? I = some o) →
      (∀ b ∈ fp, b = I ∨ ((∃ o, h'.get? b = some o) ∧ (wk = false → ∃ o, F' b = some o))) → (∀ j v, P j v → ∃ d, ds[j]? = some d ∧ VR F' v d) →
      Q (.ref I) { s with heap := h', toks := tk }) → wpAny (model prog w) A t (fun x s₁ => wpAny (model prog w) A (pyIter x) Q E s₁) E s

theorem src_list {wk : Bool} {ds : List D} {t : Sem Value} (hh : A.handled = none) (h : EOk prog w A F s wk (.list ds) t) : SrcOk prog w A F s wk ds t := fun Q E k => by
  refine h _ _ fun v h' tk F' x vw vr => ?_
  obtain ⟨a, items, n, rfl, ea, qa⟩ := vw.list x.fin
  have l1 := qa.length
  rw [Array.length_toList] at l1
  have ha : a ≠ h'.objs.size := Nat.ne_of_lt ea.lt
  refine wpAny_pyIter_list ea.isl ?_
  have x' : Ext F' h' F' (h'.push { cls := .type "list_iterator", data := .fields #[.ref a, .int 0 0] }) := Ext.of_keep x.fin fun _ _ e => Heap.get?_push_of_some _ e
  refine k h'.objs.size [h'.objs.size, a] [h'.objs.size] _ _ _ tk F' (x.trans x') (l1 ▸ Walks.list hh _ a ha items) ⟨⟨_, Heap.get?_push_size _ rfl, rfl, rfl⟩, ea.isl.push _⟩ ?_ ?_ (fresh_F x.fin (none_size _)) (none_back x.keep (none_size _)) (fun _ _ st => by obtain ⟨⟨o, ho, _⟩, _⟩ := st; exact ⟨o, ho⟩) ?_ ?_
  · intro b hb
    rw [Heap.size_push]
    rcases List.mem_cons.mp hb with rfl | hb
    · exact Nat.lt_succ_self _
    · rw [List.mem_singleton.mp hb]; exact Nat.lt_succ_of_lt ea.lt
  · intro b hb; exact List.mem_singleton.mp hb
  · intro b hb
    rcases List.mem_cons.mp hb with rfl | hb
    · exact .inl rfl
    · rw [List.mem_singleton.mp hb]
      refine .inr ⟨(by obtain ⟨oo, eo, _⟩ := ea; exact ⟨_, Heap.get?_push_of_some _ eo⟩), fun hw => ?_⟩
      cases vr hw with
      | list hF _ _ _ => exact ⟨_, hF⟩
  · intro j v hj
    have hjl : j < ds.length := by
      rw [← l1]; exact (Array.getElem?_eq_some_iff.mp hj).1
    obtain ⟨v', hv', r⟩ := qa.get (j := j) (d := ds[j]) (by simp [hjl])
    rw [Array.getElem?_toList, hj] at hv'
    cases hv'
    exact ⟨ds[j], by simp [hjl], r⟩

theorem src_tuple {wk : Bool} {ds : List D} {t : Sem Value} (hh : A.handled = none) (h : EOk prog w A F s wk (.tuple ds) t) : SrcOk prog w A F s wk ds t := fun Q E k => by
  refine h _ _ fun v h' tk F' x vw vr => ?_
  obtain ⟨a, o, items, n, rfl, ea, ca, da, qa⟩ := vw.tup x.fin
  have l1 := qa.length
  rw [Array.length_toList] at l1
  have ha : a ≠ h'.objs.size := Nat.ne_of_lt (Heap.lt_size ea)
  have ht : h'.IsTuple a items := ⟨_, ea, ca, _, da⟩
  refine wpAny_pyIter_tuple ht ?_
  have x' : Ext F' h' F' (h'.push { cls := .type "tuple_iterator", data := .fields #[.ref a, .int 0 0] }) := Ext.of_keep x.fin fun _ _ e => Heap.get?_push_of_some _ e
  refine k h'.objs.size [h'.objs.size, a] [h'.objs.size] _ _ _ tk F' (x.trans x') (l1 ▸ Walks.tuple hh _ a ha items) ⟨⟨_, Heap.get?_push_size _ rfl, rfl, rfl⟩, ht.push _⟩ ?_ ?_ (fresh_F x.fin (none_size _)) (none_back x.keep (none_size _)) (fun _ _ st => by obtain ⟨⟨o, ho, _⟩, _⟩ := st; exact ⟨o, ho⟩) ?_ ?_
  · intro b hb
    rw [Heap.size_push]
    rcases List.mem_cons.mp hb with rfl | hb
    · exact Nat.lt_succ_self _
    · rw [List.mem_singleton.mp hb]; exact Nat.lt_succ_of_lt (Heap.lt_size ea)
  · intro b hb; exact List.mem_singleton.mp hb
  · intro b hb
    rcases List.mem_cons.mp hb with rfl | hb
    · exact .inl rfl
    · rw [List.mem_singleton.mp hb]
      refine .inr ⟨⟨_, Heap.get?_push_of_some _ ea⟩, fun hw => ?_⟩
      cases vr hw with
      | tuple hF _ _ _ => exact ⟨_, hF⟩
  · intro j v hj
    have hjl : j < ds.length := by
      rw [← l1]; exact (Array.getElem?_eq_some_iff.mp hj).1
    obtain ⟨v', hv', r⟩ := qa.get (j := j) (d := ds[j]) (by simp [hjl])
    rw [Array.getElem?_toList, hj] at hv'
    cases hv'
    exact ⟨ds[j], by simp [hjl], r⟩

theorem src_dict {wk : Bool} {ts : List (List Int)} {t : Sem Value} (hh : A.handled = none) (h : EOk prog w A F s wk (dictD ts) t) : SrcOk prog w A F s wk (ts.map tupD) t := fun Q E k => by
  refine h _ _ fun v h' tk F' x vw vr => ?_
  obtain ⟨a, o, es, n, rfl, ea, ca, da, qa⟩ := vw.ents x.fin
  have hm : RawD h' a es n := ⟨o, ea, ca.1, da⟩
  have l1 : es.size = ts.length := by
    have := qa.key.length
    rwa [List.length_map, List.length_map, Array.length_toList] at this
  have ha : a ≠ h'.objs.size := Nat.ne_of_lt hm.lt
  have hW := raw_walks (prog := prog) (w := w) hh h'.objs.size a ha es n
  rw [show es.size = (ts.map tupD).length by rw [List.length_map, l1]] at hW
  refine raw_iter qa.low hm ?_
  rw [show es.size = (ts.map tupD).length by rw [List.length_map, l1]]
  have x' : Ext F' h' F' (h'.push { cls := .type "dict_keyiterator", data := .fields #[.ref a, .int 0 0, .int (ts.map tupD).length 0, .int n 0] }) := Ext.of_keep x.fin fun _ _ e => Heap.get?_push_of_some _ e
  refine k h'.objs.size [h'.objs.size, a] [h'.objs.size] _ _ _ tk F' (x.trans x') hW ⟨⟨_, Heap.get?_push_size _ rfl, rfl, rfl⟩, hm.at fun o e => Heap.get?_push_of_some _ e⟩ ?_ ?_ (fresh_F x.fin (none_size _)) (none_back x.keep (none_size _)) (fun _ _ st => by obtain ⟨⟨o, ho, _⟩, _⟩ := st; exact ⟨o, ho⟩) ?_ ?_
  · intro b hb
    rw [Heap.size_push]
    rcases List.mem_cons.mp hb with rfl | hb
    · exact Nat.lt_succ_self _
    · rw [List.mem_singleton.mp hb]; exact Nat.lt_succ_of_lt hm.lt
  · intro b hb; exact List.mem_singleton.mp hb
  · intro b hb
    rcases List.mem_cons.mp hb with rfl | hb
    · exact .inl rfl
    · rw [List.mem_singleton.mp hb]
      refine .inr ⟨⟨_, Heap.get?_push_of_some _ ea⟩, fun hw => ?_⟩
      obtain ⟨a', o', _, _, e1, hF, _⟩ := (vr hw).ents
      cases e1
      exact ⟨_, hF⟩
  · intro j v hj
    have hj' : j < es.size := by
      refine Classical.byContradiction fun q => ?_
      rw [Array.getElem?_eq_none (by omega)] at hj
      cases hj
    have hjl : j < ts.length := by omega
    obtain ⟨v', hv', r⟩ := qa.key.get (j := j) (d := tupD ts[j]) (by rw [List.getElem?_map, List.getElem?_eq_getElem hjl]; rfl)
    rw [List.getElem?_map, Array.getElem?_toList, hj] at hv'
    cases hv'
    exact ⟨tupD ts[j], by rw [List.getElem?_map, List.getElem?_eq_getElem hjl]; rfl, r⟩

theorem src_of {wk : Bool} {d : D} {ds : List D} {t : Sem Value} (hd : srcD d = .ok ds) (hh : A.handled = none) (h : EOk prog w A F s wk d t) : SrcOk prog w A F s wk ds t := by
  unfold srcD at hd
  split at hd
  · split at hd
    · cases hd; exact src_list hh h
    · cases hd
  · split at hd
    · cases hd; exact src_tuple hh h
    · cases hd
  · split at hd
    · rename_i ts hk
      split at hd
      · cases hd
        rw [keysI_eq hk] at h
        exact src_dict hh h
      · cases hd
    · cases hd
  · cases hd

theorem src_range {wk : Bool} {r : Addr} {a b c : Int} {t u v : Tok} {n : Nat} {h' : Heap} {tk : Nat} {F' : Fz} (hh : A.handled = none) (x : Ext F s.heap F' h') (hr : IsRange h' r a b c t u v) (hsm : Builtin.Range.small a b c = true) (hn : Builtin.Range.rangeSize a b c = (n : Int))
    {Q : Value → Shared → Prop} {E : Value → Shared → Prop}
    (k : ∀ I fp wr P St h' tk F', Ext F s.heap F' h' → Walks prog w A I fp wr (rangeL a c n).length P St → St 0 h' → (∀ b ∈ fp, b < h'.objs.size) → (∀ b ∈ wr, b = I) → F' I = none → s.heap.get? I = none → (∀ j h, St j h → ∃ o, h.get? I = some o) →
      (∀ b ∈ fp, b = I ∨ ((∃ o, h'.get? b = some o) ∧ (wk = false → ∃ o, F' b = some o))) → (∀ j v, P j v → ∃ d, (rangeL a c n)[j]? = some d ∧ VR F' v d) →
      Q (.ref I) { s with heap := h', toks := tk }) : wpAny (model prog w) A (pyIter (.ref r)) Q E { s with heap := h', toks := tk } := by
  refine wpAny_pyIter_range hr hsm ?_
  have x' : Ext F' h' F' (h'.push { cls := .type "range_iterator", data := .fields #[rawInt a, rawInt (Builtin.Range.rangeSize a b c), rawInt c] }) := Ext.of_keep x.fin fun _ _ e => Heap.get?_push_of_some _ e
  have hlen : (rangeL a c n).length = n := by simp [rangeL]
  have W := (Walks.range (prog := prog) (w := w) hh h'.objs.size a c n).bound
  have st : IsRangeIter (h'.push { cls := .type "range_iterator", data := .fields #[rawInt a, rawInt (Builtin.Range.rangeSize a b c), rawInt c] }) h'.objs.size (a + ((0 : Nat) : Int) * c) ((n : Int) - ((0 : Nat) : Int)) c := by
    rw [hn]; simpa using Heap.get?_push_size h' (o := { cls := .type "range_iterator", data := .fields #[rawInt a, rawInt (n : Int), rawInt c] }) rfl
  refine k h'.objs.size [h'.objs.size] [h'.objs.size] _ (fun (i : Nat) h => IsRangeIter h h'.objs.size (a + (i : Int) * c) ((n : Int) - (i : Int)) c) _ tk F' (x.trans x') (by rw [hlen]; exact W) st ?_ ?_ (fresh_F x.fin (none_size _)) (none_back x.keep (none_size _)) (fun _ _ st => ⟨_, st⟩) ?_ ?_
  · intro b hb
    rw [Heap.size_push, List.mem_singleton.mp hb]; exact Nat.lt_succ_self _
  · intro b hb; exact List.mem_singleton.mp hb
  · intro b hb; exact .inl (List.mem_singleton.mp hb)
  · rintro j v ⟨hj, tk', rfl⟩
    exact ⟨.int (a + j * c), by unfold rangeL; rw [List.getElem?_map, List.getElem?_range hj]; rfl, .int _ _⟩

theorem inLim_ok {a : Int} (h : inLim a = true) : -1048576 ≤ a ∧ a ≤ 1048576 := by
  unfold inLim at h; rw [Bool.and_eq_true, decide_eq_true_eq, decide_eq_true_eq] at h; exact h
theorem rangeSize_down (a b : Int) : Builtin.Range.rangeSize a b (-1) = ((a - b).toNat : Int) := by
  unfold Builtin.Range.rangeSize
  simp only [show ¬ ((-1 : Int) > 0) by decide, if_false]
  split
  · simp only [Int.neg_neg, Int.ediv_one]; omega
  · omega
theorem small_down {a b : Int} (ha : -(2 ^ 62) ≤ a) (ha' : a < 2 ^ 62) (hb : -(2 ^ 62) ≤ b) (hb' : b < 2 ^ 62) : Builtin.Range.small a b (-1) = true := by
  unfold Builtin.Range.small
  rw [rangeSize_down]
  simp only [Builtin.Range.rangeFitsLong, Bool.and_eq_true, Bool.or_eq_true, decide_eq_true_eq, beq_iff_eq, show ¬ ((-1 : Int) > 0) by decide, if_false]
  omega
theorem small_any {a b : Int} (ha : -(2 ^ 62) ≤ a) (ha' : a < 2 ^ 62) (hb : b < 2 ^ 62) (hb' : -(2 ^ 63) ≤ b) : Builtin.Range.small a b 1 = true := by
  unfold Builtin.Range.small
  rw [rangeSize_one]
  simp only [Builtin.Range.rangeFitsLong, Bool.and_eq_true, Bool.or_eq_true, decide_eq_true_eq, beq_iff_eq, show (1 : Int) > 0 by decide, if_true]
  split <;> omega
end

section
variable {prog : Program} {w : World} {K : Frag} {mg mb : Str → Option Value} {i : In} {n : Nat}

theorem evs_ne {f : Expr → Out D} {e : Expr} {r : List Expr} {ds : List D} (h : evs f (e :: r) = .ok ds) {env : Env} {pos : Pos} : backTo pos (starEach (e :: r) env) = (false, eval e env) :: backTo pos (starEach r env) := by
  rw [starEach_cons (evs_cons h).1]; rfl
theorem evs_plain {f : Expr → Out D} : ∀ {es : List Expr} {ds : List D}, evs f es = .ok ds → ∀ {env : Env} {pos : Pos}, (backTo pos (starEach es env)).any (·.1) = false
  | [], _, _, _, _ => rfl
  | e :: r, ds, h, env, pos => by
    obtain ⟨hns, _, _, _, hr, _⟩ := evs_cons h
    rw [starEach_cons hns]
    show (false || _) = false
    rw [Bool.false_or]
    exact evs_plain hr

/-- the call of a type by positional arguments -/
theorem call_type_ok (hi : SoundE K mg mb prog w i n) {sc : Scope} {ρ : Rho} {wk : Bool} {f : Str} {fp pos : Pos} {T : String} {es : List Expr} {ds : List D} (hc : calleeD K sc f = some (.ty T)) (hne : es ≠ []) (h : evs (i.ev sc ρ wk) es = .ok ds)
    {A : Around} {env : Env} {F : Fz} {s : Shared} (hA : AOk A n) (R : ER K mg mb sc env F ρ s.heap) {Q : Value → Shared → Prop} {E : Value → Shared → Prop}
    (k : ∀ vs h' tk F', Ext F s.heap F' h' → VWs F' h' vs ds → (wk = false → VRs F' vs ds) → wpAny (model prog w) A (call (.type T) vs) Q E { s with heap := h', toks := tk }) :
    wpAny (model prog w) A (eval (.Call (.Name f fp) es [] pos) env) Q E s := by
  obtain ⟨e, r, rfl⟩ := List.exists_cons_of_ne_nil hne
  refine wpAny_Call_Name_kw (callee_ok hc R fun v hv => ?_)
  obtain rfl : v = .type T := hv
  refine PyProof.Rows.callWith_type (evs_plain h) ?_
  rw [evs_ne h]
  refine PySem.Calls.evalArgs_plain ?_
  rw [← evs_ne h]
  exact evs_ok hi h hA R fun vs h' tk F' x v r => k vs h' tk F' x v r

theorem call_built_ok (hi : SoundE K mg mb prog w i n) {sc : Scope} {ρ : Rho} {wk : Bool} {f : Str} {fp pos : Pos} {id : String} {es : List Expr} {ds : List D} (hc : calleeD K sc f = some (.built id)) (hne : es ≠ []) (h : evs (i.ev sc ρ wk) es = .ok ds)
    {A : Around} {env : Env} {F : Fz} {s : Shared} (hA : AOk A n) (R : ER K mg mb sc env F ρ s.heap) {Q : Value → Shared → Prop} {E : Value → Shared → Prop}
    (k : ∀ vs h' tk F', Ext F s.heap F' h' → VWs F' h' vs ds → (wk = false → VRs F' vs ds) → wpAny (model prog w) A (call (.builtin id) vs) Q E { s with heap := h', toks := tk }) :
    wpAny (model prog w) A (eval (.Call (.Name f fp) es [] pos) env) Q E s := by
  obtain ⟨e, r, rfl⟩ := List.exists_cons_of_ne_nil hne
  refine wpAny_Call_Name_kw (callee_ok hc R fun v hv => ?_)
  obtain rfl : v = .builtin id := hv
  refine PySem.Calls.callWith_builtin (evs_plain h) ?_
  rw [evs_ne h]
  refine PySem.Calls.evalArgs_plain ?_
  rw [← evs_ne h]
  exact evs_ok hi h hA R fun vs h' tk F' x v r => k vs h' tk F' x v r

/-- a def of the top's -/
def SoundC (K : Frag) (mg mb : Str → Option Value) (prog : Program) (w : World) (i : In) (n : Nat) : Prop :=
  ∀ f args d, i.call f args = .ok d → ∀ A F s a vs, AOk A n → Glb K mg mb s.heap → KF K F → (∀ b o, F b = some o → s.heap.get? b = some o) → nsIn K mainGlobals f = some (some (.ref a)) → VRs F vs args →
    EOk prog w A F s false d (call (.ref a) vs)

theorem call_fn_ok (hi : SoundE K mg mb prog w i n) {sc : Scope} {ρ : Rho} {f : Str} {fp pos : Pos} {es : List Expr} {ds : List D} (hc : calleeD K sc f = some .fn) (hne : es ≠ []) (h : evs (i.ev sc ρ false) es = .ok ds) {fd : FuncData} (hf : fdOf K f = some fd)
    {A : Around} {env : Env} {F : Fz} {s : Shared} (hA : AOk A n) (R : ER K mg mb sc env F ρ s.heap) {Q : Value → Shared → Prop} {E : Value → Shared → Prop}
    (k : ∀ a vs h' tk F', nsIn K mainGlobals f = some (some (.ref a)) → Ext F s.heap F' h' → VRs F' vs ds → wpAny (model prog w) A (call (.ref a) vs) Q E { s with heap := h', toks := tk }) :
    wpAny (model prog w) A (eval (.Call (.Name f fp) es [] pos) env) Q E s := by
  obtain ⟨e, r, rfl⟩ := List.exists_cons_of_ne_nil hne
  refine wpAny_Call_Name_kw (callee_ok hc R fun v hv => ?_)
  obtain ⟨a, rfl, hn⟩ := hv
  unfold fdOf at hf
  rw [hn] at hf
  dsimp only at hf
  split at hf
  · rename_i c dd fd' sl hk
    cases hf
    refine PySem.Calls.callWith_function (o := ⟨c, dd, .func fd, sl⟩) (fd := fd) ?_
    rw [evs_ne h]
    refine PySem.Calls.evalArgs_plain ?_
    rw [← evs_ne h]
    refine evs_ok hi h hA R fun vs h' tk F' x v r => ⟨⟨x.keep _ _ (R.glb.kin _ _ hk), rfl⟩, k a vs h' tk F' hn x (r rfl)⟩
  · cases hf

theorem src_ok (hi : SoundE K mg mb prog w i n) {sc : Scope} {ρ : Rho} {wk : Bool} {e : Expr} {ds : List D} (h : srcE K i sc ρ wk e = .ok ds) {A : Around} {env : Env} {F : Fz} {s : Shared} (hA : AOk A n) (R : ER K mg mb sc env F ρ s.heap) :
    SrcOk prog w A F s wk ds (eval e env) ∧ ∀ x, foldedSetIterable e env x = pure x := by
  unfold srcE at h
  split at h
  · rename_i f fp args pos
    refine ⟨?_, fun _ => rfl⟩
    split at h
    · rename_i T hc
      split at h
      · rename_i hT
        rw [Bool.and_eq_true] at hT
        obtain rfl : T = "range" := by simpa using hT.1
        have hne : args ≠ [] := by simpa using hT.2
        obtain ⟨as, has, hr⟩ := Out.bind_ok h
        refine fun Q E k => call_type_ok hi hc hne has hA R fun vs h' tk F' x vw vrs => ?_
        clear vrs
        unfold rngD at hr
        split at hr
        · rename_i b0
          split at hr
          · rename_i hb
            have hb' := inLim_ok hb
            cases hr
            cases vw with
            | cons v1 r =>
              cases r
              obtain ⟨t, rfl⟩ := v1.intv
              refine call_range_1 ?_
              have x' : Ext F' h' F' _ := Ext.of_keep x.fin fun _ _ e => Heap.get?_push_of_some { cls := .type "range", data := .fields #[.int 0 tk, .int b0 t, .int 1 (tk + 1)] } e
              exact src_range hA.handled (x.trans x') (Heap.get?_push_size _ rfl) (small_any (by decide) (by decide) (by omega) (by omega)) (by rw [rangeSize_one]; split <;> omega) k
          · cases hr
        · rename_i a0 b0
          split at hr
          · rename_i hb
            rw [Bool.and_eq_true] at hb
            have ha' := inLim_ok hb.1
            have hb' := inLim_ok hb.2
            cases hr
            cases vw with
            | cons v1 r =>
              cases r with
              | cons v2 r =>
                cases r
                obtain ⟨t, rfl⟩ := v1.intv
                obtain ⟨u, rfl⟩ := v2.intv
                refine call_range_2 ?_
                have x' : Ext F' h' F' _ := Ext.of_keep x.fin fun _ _ e => Heap.get?_push_of_some { cls := .type "range", data := .fields #[.int a0 t, .int b0 u, .int 1 tk] } e
                exact src_range hA.handled (x.trans x') (Heap.get?_push_size _ rfl) (small_any (by omega) (by omega) (by omega) (by omega)) (by rw [rangeSize_one]; split <;> omega) k
          · cases hr
        · rename_i a0 b0 c0
          split at hr
          · rename_i hb
            rw [Bool.and_eq_true, Bool.and_eq_true, beq_iff_eq] at hb
            have ha' := inLim_ok hb.1.1
            have hb' := inLim_ok hb.1.2
            obtain rfl := hb.2
            cases hr
            cases vw with
            | cons v1 r =>
              cases r with
              | cons v2 r =>
                cases r with
                | cons v3 r =>
                  cases r
                  obtain ⟨t, rfl⟩ := v1.intv
                  obtain ⟨u, rfl⟩ := v2.intv
                  obtain ⟨q, rfl⟩ := v3.intv
                  refine call_range_3 (by decide) ?_ (.inl (PyProof.noPylong_of_log2 (by decide)))
                  have x' : Ext F' h' F' _ := Ext.of_keep x.fin fun _ _ e => Heap.get?_push_of_some { cls := .type "range", data := .fields #[.int a0 t, .int b0 u, .int (-1) q] } e
                  exact src_range hA.handled (x.trans x') (Heap.get?_push_size _ rfl) (small_down (by omega) (by omega) (by omega) (by omega)) (rangeSize_down _ _) k
          · cases hr
        · cases hr
      · cases h
    · obtain ⟨d, hd, h2⟩ := Out.bind_ok h
      exact src_of h2 hA.handled (hi _ _ _ _ _ hd A env F s hA R)
  · cases h
  · rename_i hns1 hns2
    obtain ⟨d, hd, hs⟩ := Out.bind_ok h
    refine ⟨src_of hs hA.handled (hi _ _ _ _ _ hd A env F s hA R), fun x => ?_⟩
    cases e <;> first | rfl | exact absurd rfl (hns2 _ _ _)
end

end Mine

/-! Slc -/
namespace Mine
theorem VRs.dropS {F : Fz} : ∀ {vs ds}, VRs F vs ds → ∀ n : Nat, VRs F (vs.drop n) (ds.drop n)
  | _, _, .nil, n => by simp; exact .nil
  | _, _, .cons x r, 0 => .cons x r
  | _, _, .cons x r, n + 1 => by rw [List.drop_succ_cons, List.drop_succ_cons]; exact VRs.dropS r n
section
variable {prog : Program} {w : World} {A : Around} {E : Value → Shared → Prop} {s : Shared}
theorem adjust_upto (b n : Nat) (hb : b ≤ n) : Builtin.Slice.sliceAdjust none (some (b : Int)) 1 (n : Int) = ((0 : Int), (b : Int)) := by
  unfold Builtin.Slice.sliceAdjust
  have h1 : ¬ ((1 : Int) < 0) := by omega
  have h2 : ¬ ((b : Int) < 0) := by omega
  simp only [h1, h2, if_false]
  congr 1
  omega
theorem places_upto (b : Nat) : Builtin.Slice.slicePlaces (0 : Int) (b : Int) 1 = b := by
  unfold Builtin.Slice.slicePlaces
  have h1 : (1 : Int) > 0 := by omega
  simp only [h1, if_true, Int.ediv_one]
  split <;> omega
theorem applied_upto {sl : Addr} {b n : Nat} {u : Tok} {Q : Int × Int × Nat → Shared → Prop} (hs : s.heap.IsSliceOf sl .none (.int b u) .none) (hb : b ≤ n) (h : Q ((0 : Int), 1, b) s) :
    wpAny (model prog w) A (Builtin.Slice.sliceApplied (.ref sl) (pure (n : Int))) Q E s := by
  obtain ⟨os, hos, hcs, hds⟩ := id hs
  unfold Builtin.Slice.sliceApplied Builtin.Slice.sliceFields
  refine wpAny_bind (wpAny_bind (wpAny_field hos hds (x := .none) rfl (wpAny_bind (wpAny_field hos hds (x := .int b u) rfl (wpAny_bind (wpAny_field hos hds (x := .none) rfl (wpAny_pure ?_)))))))
  refine wpAny_bind (slicePart_none ?_)
  show wpAny _ _ (if ((1 : Int) == 0) = true then _ else _) _ _ s
  rw [if_neg (by decide)]
  refine wpAny_bind (slicePart_none (wpAny_bind (slicePart_int (wpAny_bind (wpAny_pure ?_)))))
  show wpAny _ _ (match Builtin.Slice.sliceAdjust none (some (b : Int)) 1 (n : Int) with | (lo, hi) => pure (lo, (1 : Int), Builtin.Slice.slicePlaces lo hi 1)) _ _ s
  rw [adjust_upto b n hb]
  show wpAny _ _ (pure ((0 : Int), (1 : Int), Builtin.Slice.slicePlaces (0 : Int) (b : Int) 1)) _ _ s
  rw [places_upto b]
  exact wpAny_pure h
theorem pick_upto (xs : Array Value) (b : Nat) (hb : b ≤ xs.size) : ((List.range b).filterMap fun (k : Nat) => xs[((0 : Int) + (k : Int) * 1).toNat]?).toArray = (xs.toList.take b).toArray := by
  have e : (fun (k : Nat) => xs[((0 : Int) + (k : Int) * 1).toNat]?) = fun k => xs[0 + k]? := by
    funext k
    have : ((0 : Int) + (k : Int) * 1).toNat = 0 + k := by omega
    rw [this]
  rw [e]
  have := pick_run xs 0 b
  rw [List.filterMap_map] at this
  have e2 : ((fun x => xs[x]?) ∘ fun x => 0 + x) = fun k => xs[0 + k]? := rfl
  rw [e2] at this
  rw [this, List.drop_zero]
theorem getItem_tuple_upto {t sl : Addr} {items : Array Value} {b : Nat} {u : Tok} {Q : Value → Shared → Prop} (ht : IsTup s.heap t items) (hs : s.heap.IsSliceOf sl .none (.int b u) .none) (hb : b < items.size)
    (h : Q (.ref s.heap.objs.size) { s with heap := s.heap.push { cls := .type "tuple", data := .seq (items.toList.take b).toArray } })
    (hsz : items.size ≤ sizeLine) : wpAny (model prog w) A (getItem (.ref t) (.ref sl)) Q E s := by
  have hdrop : sizeOk (.seq (items.toList.take b).toArray) := by
    show (items.toList.take b).toArray.size ≤ sizeLine
    rw [List.size_toArray, List.length_take, Array.length_toList]
    omega
  obtain ⟨os, hos, hcs, hds⟩ := id hs
  have hTs : s.TypeIs (.ref sl) "slice" := ⟨os, hos, hcs⟩
  unfold getItem
  try with_reducible refine wpAny_holding ?_
  first | refine wpAny_bind (wpAny_pure ?_) | skip
  refine wpAny_bind (wpAny_sequenceKey ht.typeIs (by decide) ?_)
  refine wpAny_bind (wpAny_callSpecial?_slot (name := Str.ofString "__getitem__") ht.typeIs slot_tuple_getitem
    (wpAny_call_entry slot_tuple_getitem ht.typeIs entry_tuple_getitem ?_ (args_tuple_getitem _ _)))
  have hno : (b == items.size) = false := by rw [beq_eq_false_iff_ne]; omega
  unfold Builtin.«tuple.__getitem__»
  wp_walk using tupleItemsOf_ ht, wpAny_typeOf hTs, applied_upto hs (Nat.le_of_lt hb)
  rw [pick_upto items b (Nat.le_of_lt hb), if_neg (by have : (items.toList.take b).toArray.size ≤ sizeLine := hdrop; omega)]
  wp_walk
  exact ⟨_, rfl, wpAny_pure h⟩
end
end Mine

/-! Ex3 -/
namespace Mine

section
variable {prog : Program} {w : World} {K : Frag} {mg mb : Str → Option Value} {i : In} {n : Nat}

theorem evs_one {f : Expr → Out D} {e : Expr} {d : D} (hns : ∀ x p, e ≠ .Starred x p) (h : f e = .ok d) : evs f [e] = .ok [d] := by
  unfold evs
  split
  · rename_i heq; cases heq
  · rename_i heq; cases heq; exact absurd rfl (hns _ _)
  · rename_i heq; cases heq; rw [h]; rfl

theorem call_rev_ok (hi : SoundE K mg mb prog w i n) {sc : Scope} {ρ : Rho} {wk : Bool} {f : Str} {fp pos cp kp : Pos} {ck : Nat} {id : String} {e : Expr} {d : D} (hc : calleeD K sc f = some (.built id)) (hns : ∀ x p, e ≠ .Starred x p) (h : i.ev sc ρ wk e = .ok d)
    {A : Around} {env : Env} {F : Fz} {s : Shared} (hA : AOk A n) (R : ER K mg mb sc env F ρ s.heap) {Q : Value → Shared → Prop} {E : Value → Shared → Prop}
    (k : ∀ v h' tk F', Ext F s.heap F' h' → VW F' h' v d → wpAny (model prog w) A (call (.builtin id) [v] [(Str.ofString "reverse", .bool true)]) Q E { s with heap := h', toks := tk }) :
    wpAny (model prog w) A (eval (.Call (.Name f fp) [e] [⟨some (Str.ofString "reverse"), .Constant (.bool true) ck cp, kp⟩] pos) env) Q E s := by
  have hes := evs_one (f := i.ev sc ρ wk) hns h
  refine wpAny_Call_Name_kw (callee_ok hc R fun v hv => ?_)
  obtain rfl : v = .builtin id := hv
  refine callWith_kw ?_ (evs_ne hes) (evs_plain hes) rfl rfl
  refine evs_ok hi hes hA R fun vs h' tk F' x vw _ => ?_
  cases vw with
  | cons v1 r =>
    cases r
    show wpAny (model prog w) A (evalAll [do let v ← eval (.Constant (.bool true) ck cp) env; standAt pos; pure v]) _ E _
    refine wpAny_evalAll_cons ?_
    refine wpAny_bind (wpAny_Constant_bool (wpAny_bind (wpAny_standAt (wpAny_pure ?_))))
    refine wpAny_evalAll_nil ?_
    exact k _ h' tk F' x v1

theorem call_ok (hi : SoundE K mg mb prog w i n) (hc : SoundC K mg mb prog w i n) {sc : Scope} {ρ : Rho} {wk : Bool} {f : Str} {fp pos : Pos} {args : List Expr} {kws : List Keyword} {d : D} (h : callD K i sc ρ f args kws = .ok d)
    {A : Around} {env : Env} {F : Fz} {s : Shared} (hA : AOk A n) (R : ER K mg mb sc env F ρ s.heap) : EOk prog w A F s wk d (eval (.Call (.Name f fp) args kws pos) env) := by
  have hu : A.units + 200 < cLine := by have := hA.units; omega
  unfold callD at h
  split at h
  · rename_i hcal
    split at h
    · split at h
      · cases h
      · rename_i hne
        rw [Bool.or_eq_true, not_or] at hne
        have hne' : args ≠ [] := by simpa using hne.1
        obtain ⟨ds, hds, hcall⟩ := Out.bind_ok h
        have hfd : ∃ a, nsIn K mainGlobals f = some (some (.ref a)) := by
          unfold calleeD at hcal
          split at hcal
          · cases hcal
          · split at hcal
            · split at hcal
              · rename_i a hn; exact ⟨a, hn⟩
              · split at hcal <;> cases hcal
              · cases hcal
            · cases hcal
        refine fun Q E k => ?_
        cases hfo : fdOf K f with
        | none => rw [hfo] at hne; exact absurd rfl hne.2
        | some fd =>
          refine call_fn_ok hi hcal hne' hds hfo hA R fun a vs h' tk F' hn x vr => ?_
          exact hc f ds d hcall A F' _ a vs hA (R.glb.keeps x.keep) (fun b o e c => x.mono _ _ (R.kf b o e c)) x.fin hn vr _ _ fun v h'' tk' F'' x' vw' vr' => k v h'' tk' F'' (x.trans x') vw' fun hw => vr' rfl
    · cases h
  · rename_i id hcal
    split at h
    · cases h
    · rename_i e hns
      obtain ⟨a, ha, hf⟩ := Out.bind_ok h
      have hns' : ∀ x p, e ≠ .Starred x p := fun x p q => hns x p q
      refine fun Q E k => call_built_ok hi hcal (by simp) (evs_one hns' ha) hA R fun vs h' tk F' x vw _ => ?_
      cases vw with
      | cons v1 r =>
        cases r
        exact fn_ok hf x.fin v1 hA.handled hu wk _ _ fun v h'' tk' F'' x' vw' vr' => k v h'' tk' F'' (x.trans x') vw' vr'
    · rename_i e kk ck cp kp hns
      split at h
      · rename_i hk
        obtain rfl := eq_of_beq hk
        obtain ⟨a, ha, hf⟩ := Out.bind_ok h
        have hns' : ∀ x p, e ≠ .Starred x p := fun x p q => hns x p q
        refine fun Q E k => call_rev_ok hi hcal hns' ha hA R fun v h' tk F' x vw => ?_
        exact rev_ok hf hA.handled x.fin vw wk _ _ fun v h'' tk' F'' x' vw' vr' => k v h'' tk' F'' (x.trans x') vw' vr'
      · cases h
    · cases h
    · rename_i e T Tp hns
      split at h
      · rename_i hid
        obtain rfl := eq_of_beq hid
        split at h
        · rename_i T' hT
          obtain ⟨a, ha, hf⟩ := Out.bind_ok h
          obtain ⟨b, hb, he⟩ := Out.bind_ok hf
          cases he
          have hns' : ∀ x p, e ≠ .Starred x p := fun x p q => hns x p q
          refine fun Q E k => wpAny_Call_Name_kw (callee_ok hcal R fun v hv => ?_)
          obtain rfl : v = .builtin "isinstance" := hv
          refine PySem.Calls.callWith_builtin (by rw [starEach_cons hns']; rfl) ?_
          rw [starEach_cons hns']
          refine PySem.Calls.evalArgs_plain ?_
          refine PySem.Calls.spliced_cons (hi _ _ _ _ _ ha A env F s hA R _ _ fun v h' tk F' x vw _ => ?_)
          show wpAny (model prog w) A (spliced [(false, eval (.Name T Tp) env)]) _ E _
          refine PySem.Calls.spliced_cons (callee_ok hT (ext_ER R x) fun u hu' => ?_)
          obtain rfl : u = .type T' := hu'
          refine PySem.Calls.spliced_nil ?_
          exact is_ok hb x.fin vw wk _ _ fun v h'' tk' F'' x' vw' vr' => k v h'' tk' F'' (x.trans x') vw' vr'
        · cases h
      · cases h
    · cases h
  · rename_i T hcal
    split at h
    · cases h
    · rename_i e hns
      obtain ⟨a, ha, hf⟩ := Out.bind_ok h
      have hns' : ∀ x p, e ≠ .Starred x p := fun x p q => hns x p q
      refine fun Q E k => call_type_ok hi hcal (by simp) (evs_one hns' ha) hA R fun vs h' tk F' x vw _ => ?_
      cases vw with
      | cons v1 r =>
        cases r
        exact ty_ok hf x.fin v1 wk _ _ fun v h'' tk' F'' x' vw' vr' => k v h'' tk' F'' (x.trans x') vw' vr'
    · cases h
  · cases h

theorem boolT_ok (hi : SoundT K mg mb prog w i n) {sc : Scope} {ρ : Rho} (op : BoolOp) : ∀ {es : List Expr} {b : Bool}, boolT (i.tst sc ρ) op es = .ok b → ∀ {A : Around} {env : Env} {F : Fz} {s : Shared}, AOk A n → ER K mg mb sc env F ρ s.heap → TOk prog w A F s b (allTrue op es env)
  | [], b, h, A, env, F, s, hA, R => by
    cases h
    exact fun Q E k => wpAny_pure (k s.heap s.toks F (Ext.refl R.fin))
  | e :: r, b, h, A, env, F, s, hA, R => by
    obtain ⟨t, ht, h2⟩ := Out.bind_ok h
    refine fun Q E k => ?_
    cases op with
    | And =>
      refine wpAny_allTrue_And_cons (hi _ _ _ _ ht A env F s hA R _ _ fun h' tk F' x => ?_)
      cases t with
      | false => cases h2; exact k _ _ _ x
      | true => exact boolT_ok hi .And h2 hA (ext_ER R x) _ _ fun h'' tk' F'' x' => k _ _ _ (x.trans x')
    | Or =>
      refine wpAny_allTrue_Or_cons (hi _ _ _ _ ht A env F s hA R _ _ fun h' tk F' x => ?_)
      cases t with
      | true => cases h2; exact k _ _ _ x
      | false => exact boolT_ok hi .Or h2 hA (ext_ER R x) _ _ fun h'' tk' F'' x' => k _ _ _ (x.trans x')

theorem boolL_ok (hi : SoundE K mg mb prog w i n) {sc : Scope} {ρ : Rho} {wk : Bool} (op : BoolOp) {pos : Pos} : ∀ {es : List Expr} {d : D}, boolL (i.ev sc ρ false) op es = .ok d → ∀ {A : Around} {env : Env} {F : Fz} {s : Shared}, AOk A n → ER K mg mb sc env F ρ s.heap → EOk prog w A F s wk d (eval (.BoolOp op es pos) env)
  | [], d, h, A, env, F, s, hA, R => by cases h
  | [e], d, h, A, env, F, s, hA, R => fun Q E k => BoolOp_one (hi _ _ _ _ _ h A env F s hA R _ _ fun v h' tk F' x vw vr => k v h' tk F' x vw fun _ => vr rfl)
  | e :: e2 :: r, d, h, A, env, F, s, hA, R => by
    obtain ⟨v0, hv, h2⟩ := Out.bind_ok h
    obtain ⟨t, ht, h3⟩ := Out.bind_ok h2
    refine fun Q E k => ?_
    cases op with
    | And =>
      refine BoolOp_and (hi _ _ _ _ _ hv A env F s hA R _ _ fun v h' tk F' x vw vr => ?_)
      refine tr_ok ht x.fin vw _ _ fun h'' tk' F'' x' => ?_
      cases t with
      | false => cases h3; exact k _ _ _ _ (x.trans x') (vw.ext x') fun _ => (vr rfl).mono x'.mono
      | true => exact boolL_ok hi (wk := wk) .And h3 hA (ext_ER R (x.trans x')) _ _ fun v h'' tk' F'' x'' vw vr => k _ _ _ _ ((x.trans x').trans x'') vw vr
    | Or =>
      refine BoolOp_or (hi _ _ _ _ _ hv A env F s hA R _ _ fun v h' tk F' x vw vr => ?_)
      refine tr_ok ht x.fin vw _ _ fun h'' tk' F'' x' => ?_
      cases t with
      | true => cases h3; exact k _ _ _ _ (x.trans x') (vw.ext x') fun _ => (vr rfl).mono x'.mono
      | false => exact boolL_ok hi (wk := wk) .Or h3 hA (ext_ER R (x.trans x')) _ _ fun v h'' tk' F'' x'' vw vr => k _ _ _ _ ((x.trans x').trans x'') vw vr

def SoundL (K : Frag) (mg mb : Str → Option Value) (prog : Program) (w : World) (i : In) (n : Nat) : Prop :=
  ∀ sc ρ elt gens csc pos ds, compE K i sc ρ elt gens csc = .ok ds → ∀ A env F s wk, AOk A n → ER K mg mb sc env F ρ s.heap → EOk prog w A F s wk (.list ds) (eval (.ListComp elt gens csc pos) env)

theorem notSet_mark {op : CmpOp} {r : Expr} (h : notSet r = true) : behindInMarks op r = false := by
  cases r <;> first | rfl | cases h
theorem notSlice_sub {s : Expr} {o k : Value} (h : notSlice s = true) : subscripted s false o k = operate [o, k] (getItem o k) := by
  cases s <;> first | rfl | cases h

theorem addF_mono {F : Fz} {a : Addr} {q : Obj} (h : F a = none) : ∀ b o, F b = some o → addF F a q b = some o := fun b o e => by
  unfold addF; split
  · rename_i eq; subst eq; rw [h] at e; cases e
  · exact e
theorem tup_new {F : Fz} {s : Shared} {vs : List Value} {ds : List D} {h' : Heap} {tk : Nat} {F' : Fz} (x : Ext F s.heap F' h') (r : VRs F' vs ds) :
    ∃ F'', Ext F s.heap F'' (h'.push { cls := .type "tuple", data := .seq vs.toArray }) ∧ VR F'' (.ref h'.objs.size) (.tuple ds) := by
  have x' : Ext F' h' F' (h'.push { cls := .type "tuple", data := .seq vs.toArray }) := Ext.of_keep x.fin fun _ _ e => Heap.get?_push_of_some _ e
  have x2 := (x.trans x').add (a := h'.objs.size) (o := { cls := .type "tuple", data := .seq vs.toArray }) (none_back x.keep (none_size _)) (fresh_F x.fin (none_size _)) (Heap.get?_push_size _ rfl)
  refine ⟨_, x2, .tuple addF_self rfl rfl (by rw [show vs.toArray.toList = vs from rfl]; exact r.mono (addF_mono (fresh_F x.fin (none_size _))))⟩
theorem lst_new {F : Fz} {s : Shared} {vs : List Value} {ds : List D} {h' : Heap} {tk : Nat} {F' : Fz} (x : Ext F s.heap F' h') (r : VRs F' vs ds) :
    ∃ F'', Ext F s.heap F'' (h'.push { cls := .type "list", data := .seq vs.toArray }) ∧ VR F'' (.ref h'.objs.size) (.list ds) := by
  have x' : Ext F' h' F' (h'.push { cls := .type "list", data := .seq vs.toArray }) := Ext.of_keep x.fin fun _ _ e => Heap.get?_push_of_some _ e
  have x2 := (x.trans x').add (a := h'.objs.size) (o := { cls := .type "list", data := .seq vs.toArray }) (none_back x.keep (none_size _)) (fresh_F x.fin (none_size _)) (Heap.get?_push_size _ rfl)
  refine ⟨_, x2, .list addF_self rfl rfl (by rw [show vs.toArray.toList = vs from rfl]; exact r.mono (addF_mono (fresh_F x.fin (none_size _))))⟩

theorem evN_ok (hi : SoundE K mg mb prog w i n) (ht : SoundT K mg mb prog w i n) (hc : SoundC K mg mb prog w i n) (hl : SoundL K mg mb prog w i n) : SoundE K mg mb prog w (nxt K i) n := by
  intro sc ρ wk e d h A env F s hA R
  have hu : A.units + 200 < cLine := by have := hA.units; omega
  replace h : evN K i sc ρ wk e = .ok d := h
  unfold evN at h
  split at h
  · rename_i c ck cp
    unfold constD at h
    split at h
    · cases h; exact .now R.fin fun Q E k => wpAny_Constant_none (k _ _ s.toks (fun _ _ e => e) .none)
    · cases h; exact .now R.fin fun Q E k => wpAny_Constant_bool (k _ _ s.toks (fun _ _ e => e) (.bool _))
    · cases h; exact .now R.fin fun Q E k => wpAny_Constant_int (k _ _ _ (fun _ _ e => e) (.int _ _))
    · cases h; exact .now R.fin fun Q E k => wpAny_Constant_str (k _ _ _ (fun _ _ e => e) (.str _ _))
    · cases h
  · exact name_ok h R
  · obtain ⟨a, ha, h2⟩ := Out.bind_ok h
    obtain ⟨b, hb, h3⟩ := Out.bind_ok h2
    refine fun Q E k => wpAny_BinOp (hi _ _ _ _ _ ha A env F s hA R _ _ fun v₁ h₁ tk₁ F₁ x₁ w₁ _ => ?_)
    refine hi _ _ _ _ _ hb A env F₁ _ hA (ext_ER R x₁) _ _ fun v₂ h₂ tk₂ F₂ x₂ w₂ _ => ?_
    exact bin_ok h3 x₂.fin (w₁.ext x₂) w₂ wk _ _ fun v₃ h₃ tk₃ F₃ x₃ w₃ r₃ => k v₃ h₃ tk₃ F₃ ((x₁.trans x₂).trans x₃) w₃ r₃
  · obtain ⟨a, ha, h2⟩ := Out.bind_ok h
    refine fun Q E k => UnaryOp_ (hi _ _ _ _ _ ha A env F s hA R _ _ fun v₁ h₁ tk₁ F₁ x₁ w₁ _ => ?_)
    exact un_ok h2 x₁.fin w₁ wk _ _ fun v₃ h₃ tk₃ F₃ x₃ w₃ r₃ => k v₃ h₃ tk₃ F₃ (x₁.trans x₃) w₃ r₃
  · exact boolL_ok hi _ h hA R
  · split at h
    · rename_i hns
      obtain ⟨a, ha, h2⟩ := Out.bind_ok h
      obtain ⟨b, hb, h3⟩ := Out.bind_ok h2
      obtain ⟨c, hcc, h4⟩ := Out.bind_ok h3
      cases h4
      refine fun Q E k => wpAny_Compare1 (hi _ _ _ _ _ ha A env F s hA R _ _ fun v₁ h₁ tk₁ F₁ x₁ w₁ _ => ?_) (notSet_mark hns)
      refine hi _ _ _ _ _ hb A env F₁ _ hA (ext_ER R x₁) _ _ fun v₂ h₂ tk₂ F₂ x₂ w₂ _ => ?_
      exact cmp_ok hcc x₂.fin (w₁.ext x₂) w₂ wk hu _ _ fun v₃ h₃ tk₃ F₃ x₃ w₃ r₃ => k v₃ h₃ tk₃ F₃ ((x₁.trans x₂).trans x₃) w₃ r₃
    · cases h
  · obtain ⟨c, hcc, h2⟩ := Out.bind_ok h
    refine fun Q E k => IfExp_ (ht _ _ _ _ hcc A env F s hA R _ _ fun h₁ tk₁ F₁ x₁ => ?_)
    cases c with
    | true =>
      simp only [if_true] at h2 ⊢
      exact hi _ _ _ _ _ h2 A env F₁ _ hA (ext_ER R x₁) _ _ fun v₃ h₃ tk₃ F₃ x₃ w₃ r₃ => k v₃ h₃ tk₃ F₃ (x₁.trans x₃) w₃ fun _ => r₃ rfl
    | false =>
      simp only [Bool.false_eq_true, if_false] at h2 ⊢
      exact hi _ _ _ _ _ h2 A env F₁ _ hA (ext_ER R x₁) _ _ fun v₃ h₃ tk₃ F₃ x₃ w₃ r₃ => k v₃ h₃ tk₃ F₃ (x₁.trans x₃) w₃ fun _ => r₃ rfl
  · obtain ⟨ds, hds, h2⟩ := Out.bind_ok h
    split at h2
    · rename_i hlen
      cases h2
      rw [lim_eq] at hlen
      refine fun Q E k => wpAny_List (evs_ok hi hds hA R fun vs h' tk F' x vw vr => ?_)
      have l1 := (vr rfl).length
      obtain ⟨F'', x', r'⟩ := lst_new (tk := tk) x (vr rfl)
      exact ⟨by rw [sizeLine_eq]; omega, k _ _ tk F'' x' (.frz r') fun _ => r'⟩
    · cases h2
  · obtain ⟨ds, hds, h2⟩ := Out.bind_ok h
    split at h2
    · rename_i hlen
      cases h2
      rw [lim_eq] at hlen
      refine fun Q E k => wpAny_Tuple (evs_ok hi hds hA R fun vs h' tk F' x vw vr => ?_)
      have l1 := (vr rfl).length
      obtain ⟨F'', x', r'⟩ := tup_new (tk := tk) x (vr rfl)
      exact ⟨by rw [sizeLine_eq]; omega, k _ _ tk F'' x' (.frz r') fun _ => r'⟩
    · cases h2
  · split at h
    · rename_i hns
      obtain ⟨a, ha, h2⟩ := Out.bind_ok h
      obtain ⟨b, hb, h3⟩ := Out.bind_ok h2
      split at h3
      · rename_i kk
        refine fun Q E k => Subscript_ (hi _ _ _ _ _ ha A env F s hA R _ _ fun v₁ h₁ tk₁ F₁ x₁ w₁ _ => ?_)
        refine hi _ _ _ _ _ hb A env F₁ _ hA (ext_ER R x₁) _ _ fun v₂ h₂ tk₂ F₂ x₂ w₂ _ => ?_
        obtain ⟨t, rfl⟩ := w₂.intv
        have go := idx_ok (prog := prog) (w := w) (A := A) (t := t) (s := { s with heap := h₂, toks := tk₂ }) h3 x₂.fin (w₁.ext x₂) wk Q E fun v₃ h₃ tk₃ F₃ x₃ w₃ r₃ => k v₃ h₃ tk₃ F₃ ((x₁.trans x₂).trans x₃) w₃ r₃
        unfold idxD at h3
        split at h3
        · obtain ⟨q, items, nn, rfl, eq, qq⟩ := (w₁.ext x₂).list x₂.fin
          exact tail_any eq.isl.typeIs slot_list_getitem.lookup go (notSlice_sub hns)
        · obtain ⟨q, o, items, nn, rfl, eq, cq, dq, qq⟩ := (w₁.ext x₂).tup x₂.fin
          exact tail_any (T := "tuple") ⟨_, eq, cq⟩ PySem.F.slot_tuple_getitem.lookup go (notSlice_sub hns)
        · cases h3
      · cases h3
    · split at h
      · rename_i x p e1 sp
        obtain ⟨a, ha, h2⟩ := Out.bind_ok h
        obtain ⟨b, hb, h3⟩ := Out.bind_ok h2
        unfold takeD at h3
        split at h3
        · rename_i xs kk
          split at h3
          · rename_i hk
            cases h3
            unfold lim at hk
            refine fun Q E k => wpAny_Subscript_list_slice (hi _ _ _ _ _ ha A env F s hA R _ _ fun v₁ h₁ tk₁ F₁ x₁ w₁ _ => evalPart_none_step (evalPart_some_step ?_))
            refine hi _ _ _ _ _ hb A env F₁ { s with heap := h₁, toks := tk₁ } hA (ext_ER R x₁) _ _ fun v₂ h₂ tk₂ F₂ x₂ w₂ _ => ?_
            obtain ⟨t, rfl⟩ := w₂.intv
            obtain ⟨q, items, nn, rfl, eq, qq⟩ := (w₁.ext x₂).list x₂.fin
            have hsz : items.size = xs.length := by have := qq.length; rwa [Array.length_toList] at this
            refine ⟨q, items, none, some kk, rfl, eq.isl, by rw [hsz, sizeLine_eq]; omega, .none, .int _ _, ?_⟩
            have e1 : slicePick items none (some kk) none = (items.toList.take kk.toNat).toArray := by
              obtain ⟨kn, hkn⟩ : ∃ kn : Nat, kk = kn := ⟨kk.toNat, by omega⟩
              rw [hkn, slicePick_upto', Int.toNat_natCast]
            rw [e1]
            have x3 : Ext F₂ h₂ F₂ (h₂.push { cls := .type "slice", data := .fields #[.none, .int kk t, .none] }) := Ext.of_keep x₂.fin fun _ _ e => Heap.get?_push_of_some _ e
            have x123 := (x₁.trans x₂).trans x3
            have hv : VRs F₂ (items.toList.take kk.toNat) (xs.take kk.toNat) := qq.take _
            obtain ⟨F'', x', r'⟩ := lst_new (tk := tk₂) x123 hv
            rw [Heap.size_push] at r'
            exact k _ _ tk₂ F'' x' (.frz r') fun _ => r'
          · cases h3
        · rename_i xs kk
          split at h3
          · rename_i hk
            cases h3
            unfold lim at hk
            obtain ⟨kn, hkn⟩ : ∃ kn : Nat, kk = kn := ⟨kk.toNat, by omega⟩
            subst hkn
            refine fun Q E k => wpAny_Subscript_Slice (T := "tuple") PySem.F.slot_tuple_getitem.lookup (hi _ _ _ _ _ ha A env F s hA R _ _ fun v₁ h₁ tk₁ F₁ x₁ w₁ _ => wpAny_Slice (evalPart_none_step (evalPart_some_step ?_)))
            refine hi _ _ _ _ _ hb A env F₁ { s with heap := h₁, toks := tk₁ } hA (ext_ER R x₁) _ _ fun v₂ h₂ tk₂ F₂ x₂ w₂ _ => ?_
            obtain ⟨t, rfl⟩ := w₂.intv
            refine evalPart_none_step ?_
            obtain ⟨q, o, items, nn, rfl, eq, cq, dq, qq⟩ := (w₁.ext x₂).tup x₂.fin
            have hsz : items.size = xs.length := by have := qq.length; rwa [Array.length_toList] at this
            have x3 : Ext F₂ h₂ F₂ (h₂.push { cls := .type "slice", data := .fields #[.none, .int kn t, .none] }) := Ext.of_keep x₂.fin fun _ _ e => Heap.get?_push_of_some _ e
            have ht : IsTup (h₂.push { cls := .type "slice", data := .fields #[.none, .int kn t, .none] }) q items := ⟨o, x3.keep _ _ eq, cq, nn, dq⟩
            refine ⟨⟨o, x3.keep _ _ eq, cq⟩, getItem_tuple_upto (s := { s with heap := h₂.push { cls := .type "slice", data := .fields #[.none, .int kn t, .none] }, toks := tk₂ }) ht (Heap.IsSliceOf.new ..) (by omega) ?_ (by rw [hsz, sizeLine_eq]; omega)⟩
            have x123 := (x₁.trans x₂).trans x3
            have hv : VRs F₂ (items.toList.take kn) (xs.take kn) := qq.take _
            obtain ⟨F'', x', r'⟩ := tup_new (tk := tk₂) x123 hv
            exact k _ _ tk₂ F'' x' (.frz r') fun _ => r'
          · cases h3
        · cases h3
      · rename_i x p e1 sp
        obtain ⟨a, ha, h2⟩ := Out.bind_ok h
        obtain ⟨b, hb, h3⟩ := Out.bind_ok h2
        unfold dropD at h3
        split at h3
        · rename_i xs kk
          split at h3
          · rename_i hk
            cases h3
            unfold lim at hk
            obtain ⟨kn, hkn⟩ : ∃ kn : Nat, kk = kn := ⟨kk.toNat, by omega⟩
            subst hkn
            refine fun Q E k => wpAny_Subscript_Slice (T := "tuple") PySem.F.slot_tuple_getitem.lookup (hi _ _ _ _ _ ha A env F s hA R _ _ fun v₁ h₁ tk₁ F₁ x₁ w₁ _ => wpAny_Slice (evalPart_some_step ?_))
            refine hi _ _ _ _ _ hb A env F₁ { s with heap := h₁, toks := tk₁ } hA (ext_ER R x₁) _ _ fun v₂ h₂ tk₂ F₂ x₂ w₂ _ => ?_
            obtain ⟨t, rfl⟩ := w₂.intv
            refine evalPart_none_step (evalPart_none_step ?_)
            obtain ⟨q, o, items, nn, rfl, eq, cq, dq, qq⟩ := (w₁.ext x₂).tup x₂.fin
            have hsz : items.size = xs.length := by have := qq.length; rwa [Array.length_toList] at this
            have x3 : Ext F₂ h₂ F₂ (h₂.push { cls := .type "slice", data := .fields #[.int kn t, .none, .none] }) := Ext.of_keep x₂.fin fun _ _ e => Heap.get?_push_of_some _ e
            have ht : IsTup (h₂.push { cls := .type "slice", data := .fields #[.int kn t, .none, .none] }) q items := ⟨o, x3.keep _ _ eq, cq, nn, dq⟩
            refine ⟨⟨o, x3.keep _ _ eq, cq⟩, getItem_tuple_from (s := { s with heap := h₂.push { cls := .type "slice", data := .fields #[.int kn t, .none, .none] }, toks := tk₂ }) ht (Heap.IsSliceOf.new ..) (by omega) (by omega) ?_ (by rw [hsz, sizeLine_eq]; omega)⟩
            have x123 := (x₁.trans x₂).trans x3
            have hv : VRs F₂ (items.toList.drop kn) (xs.drop kn) := qq.dropS _
            obtain ⟨F'', x', r'⟩ := tup_new (tk := tk₂) x123 hv
            exact k _ _ tk₂ F'' x' (.frz r') fun _ => r'
          · cases h3
        · cases h3
      · cases h
  · exact call_ok hi hc h hA R
  · obtain ⟨ds, hds, h2⟩ := Out.bind_ok h
    cases h2
    exact hl _ _ _ _ _ _ _ hds A env F s wk hA R
  · cases h

theorem tstN_ok (hi : SoundE K mg mb prog w i n) (ht : SoundT K mg mb prog w i n) : SoundT K mg mb prog w (nxt K i) n := by
  intro sc ρ e b h A env F s hA R
  have hu : A.units + 200 < cLine := by have := hA.units; omega
  replace h : tstN K i sc ρ e = .ok b := h
  unfold tstN at h
  split at h
  · obtain ⟨c, hc, h2⟩ := Out.bind_ok h
    cases h2
    exact fun Q E k => isTrue_not (ht _ _ _ _ hc A env F s hA R _ _ fun h₁ tk₁ F₁ x₁ => k _ _ _ x₁)
  · exact fun Q E k => wpAny_isTrue_BoolOp (boolT_ok ht _ h hA R _ _ k)
  · cases h
  · split at h
    · rename_i hns
      obtain ⟨a, ha, h2⟩ := Out.bind_ok h
      obtain ⟨c, hb, h3⟩ := Out.bind_ok h2
      refine fun Q E k => wpAny_isTrue_Compare1 (hi _ _ _ _ _ ha A env F s hA R _ _ fun v₁ h₁ tk₁ F₁ x₁ w₁ _ => ?_) (notSet_mark hns)
      refine hi _ _ _ _ _ hb A env F₁ _ hA (ext_ER R x₁) _ _ fun v₂ h₂ tk₂ F₂ x₂ w₂ _ => ?_
      refine cmp_ok h3 x₂.fin (w₁.ext x₂) w₂ true hu _ _ fun v₃ h₃ tk₃ F₃ x₃ w₃ r₃ => ?_
      obtain rfl := w₃.boolv
      exact wpAny_truthy_bool (k _ _ _ ((x₁.trans x₂).trans x₃))
    · cases h
  · cases h
  · rename_i hn1 hn2 hn3 hn4 hn5
    obtain ⟨a, ha, h2⟩ := Out.bind_ok h
    have key : isTrue e env (eval e env) = (do let v ← eval e env; standAt e.pos; holding [v] (truthy v)) := by
      cases e <;> first | rfl | (exact absurd rfl (hn2 _ _ _)) | (exact absurd rfl (hn3 _ _ _ _)) | (exact absurd rfl (hn5 _ _ _ _)) | skip
      rename_i op x p
      cases op <;> first | rfl | exact absurd rfl (hn1 _ _)
    rw [key]
    refine fun Q E k => wpAny_bind (hi _ _ _ _ _ ha A env F s hA R _ _ fun v₁ h₁ tk₁ F₁ x₁ w₁ _ => ?_)
    refine wpAny_bind (wpAny_standAt (wpAny_holding ?_))
    exact tr_ok h2 x₁.fin w₁ _ _ fun h₃ tk₃ F₃ x₃ => k _ _ _ (x₁.trans x₃)
end
end Mine

/-! Cp2 -/
namespace Mine

/-! a comprehension of two clauses: its turns -/
theorem turn_out (elt t1 i1 t2 i2 : Expr) (scope : Scope) (pos : Pos) (it acc : Value) (env : Env) :
    compTurn (.ListComp elt [⟨t1, i1, [], 0⟩, ⟨t2, i2, [], 0⟩] scope pos) 0 it acc env = (standAt i1.pos >>= fun _ => pyNext it >>= fun r => match r with
      | none => pure (.done .next)
      | some v => letOwnedTupleGo t1 it v >>= fun _ => assign t1 env v >>= fun _ =>
        eval i2 env >>= fun x => standAt i2.pos >>= fun _ => foldedSetIterable i2 env x >>= fun x => holding [x] (pyIter x) >>= fun it2 =>
          runOwn (.compStart (.ListComp elt [⟨t1, i1, [], 0⟩, ⟨t2, i2, [], 0⟩] scope pos) 1 it2 acc env) env >>= fun _ =>
          again (.compLoop (.ListComp elt [⟨t1, i1, [], 0⟩, ⟨t2, i2, [], 0⟩] scope pos) 0 it acc env)) := by rfl
theorem turn_in (elt t1 i1 t2 i2 : Expr) (scope : Scope) (pos : Pos) (it acc : Value) (env : Env) :
    compTurn (.ListComp elt [⟨t1, i1, [], 0⟩, ⟨t2, i2, [], 0⟩] scope pos) 1 it acc env = (standAt i2.pos >>= fun _ => pyNext it >>= fun r => match r with
      | none => pure (.done .next)
      | some v => letOwnedTupleGo t2 it v >>= fun _ => assign t2 env v >>= fun _ =>
        (eval elt env >>= fun x => call (.builtin "list.append") [acc, x] >>= fun _ => pure ()) >>= fun _ =>
          again (.compLoop (.ListComp elt [⟨t1, i1, [], 0⟩, ⟨t2, i2, [], 0⟩] scope pos) 1 it acc env)) := by rfl

section
variable {prog : Program} {w : World} {A : Around} {R : Result → Shared → Prop} {s : Shared}
theorem loop_in {elt t1 i1 t2 i2 : Expr} {scope : Scope} {pos : Pos} {it acc : Value} {env : Env} (I : Nat → Shared → Prop)
    (turn : ∀ n s, I n s → ∀ E, wpAny (model prog w) A (pyNext it) (fun r s₁ => match r with
      | none => R (.ok .next) s₁
      | some v => wpAny (model prog w) A (assign t2 env v) (fun _ s₂ => wpAny (model prog w) A (eval elt env) (fun x s₃ =>
          wpAny (model prog w) A (call (.builtin "list.append") [acc, x]) (fun _ s₄ => ∃ m, m < n ∧ I m s₄) E s₃) E s₂) E s₁) E s)
    (n : Nat) (h : I n s) (ht : ∀ v, letOwnedTupleGo t2 it v = pure () := by intro _; rfl) :
    codeAny (model prog w) A (.compLoop (.ListComp elt [⟨t1, i1, [], 0⟩, ⟨t2, i2, [], 0⟩] scope pos) 1 it acc env) R s := by
  refine codeAny_loop rfl I (fun n s hI => ?_) n h
  show wpAny _ _ ((compTurn (.ListComp elt [⟨t1, i1, [], 0⟩, ⟨t2, i2, [], 0⟩] scope pos) 1 it acc env).onRaise (fun x => do noteFrame x env; theTreesLotGoes x)) _ _ s
  refine wpAny_noted ?_
  rw [turn_in]
  refine wpAny_bind (wpAny_standAt (wpAny_bind (wpAny_mono (turn n s hI _) (fun r s₁ h₁ => ?_) fun _ _ h' => h')))
  cases r with
  | none => exact wpAny_pure h₁
  | some v =>
    refine wpAny_bind (wpAny_of_eq (ht v) ?_)
    exact wpAny_bind (wpAny_mono h₁ (fun _ s₂ h₂ => wpAny_bind (wpAny_bind (wpAny_mono h₂ (fun x s₃ h₃ => wpAny_bind (wpAny_mono h₃
      (fun _ s₄ h₄ => wpAny_pure (wpAny_pure ⟨rfl, h₄⟩)) fun _ _ h' => h')) fun _ _ h' => h'))) fun _ _ h' => h')
theorem start_in {elt t1 i1 t2 i2 : Expr} {scope : Scope} {pos : Pos} {it acc : Value} {env : Env}
    (h0 : codeAny (model prog w) A (.compLoop (.ListComp elt [⟨t1, i1, [], 0⟩, ⟨t2, i2, [], 0⟩] scope pos) 1 it acc env) R s)
    (h : ∀ E, wpAny (model prog w) A (pyIter it) (fun it' s' => codeAny (model prog w) A (.compLoop (.ListComp elt [⟨t1, i1, [], 0⟩, ⟨t2, i2, [], 0⟩] scope pos) 1 it' acc env) R s') E s) :
    codeAny (model prog w) A (.compStart (.ListComp elt [⟨t1, i1, [], 0⟩, ⟨t2, i2, [], 0⟩] scope pos) 1 it acc env) R s := by
  refine codeAny_of_tree ?_
  show wpAny _ _ ((compStart (.ListComp elt [⟨t1, i1, [], 0⟩, ⟨t2, i2, [], 0⟩] scope pos) 1 it acc env).onRaise (fun x => do noteFrame x env; standAt theWindowsPlace)) _ _ s
  refine wpAny_notedAt ?_
  unfold compStart
  show wpAny _ _ (ask >>= _) _ _ s
  refine wpAny_bind (wpAny_askSetting (wpAny_ite ?_))
  split
  · first
      | exact wpAny_bind (wpAny_pure (wpAny_pure (And.intro rfl h0)))
      | exact wpAny_pure (And.intro rfl h0)
  · first
      | exact wpAny_bind (wpAny_rule (wpAny_bind (wpAny_standAt (wpAny_bind (wpAny_mono (h _) (fun it' s' h' => wpAny_pure (And.intro rfl h')) fun _ _ x => x)))))
      | (refine wpAny_bind (wpAny_rule ?_); show wpAny _ _ (standAt i2.pos >>= _) _ _ s; exact wpAny_bind (wpAny_standAt (wpAny_bind (wpAny_mono (h _) (fun it' s' h' => wpAny_pure (And.intro rfl h')) fun _ _ x => x))))
theorem loop_out {elt t1 i1 t2 i2 : Expr} {scope : Scope} {pos : Pos} {it acc : Value} {env : Env} (I : Nat → Shared → Prop) (hfold : ∀ x, foldedSetIterable i2 env x = pure x)
    (turn : ∀ n s, I n s → ∀ E, wpAny (model prog w) A (pyNext it) (fun r s₁ => match r with
      | none => R (.ok .next) s₁
      | some v => wpAny (model prog w) A (assign t1 env v) (fun _ s₂ => wpAny (model prog w) A (eval i2 env) (fun x s₃ =>
          wpAny (model prog w) A (pyIter x) (fun it2 s₄ => ∀ R', (∀ f s₅, (∃ m, m < n ∧ I m s₅) → R' (.ok f) s₅) → codeAny (model prog w) (A.mark none) (.compStart (.ListComp elt [⟨t1, i1, [], 0⟩, ⟨t2, i2, [], 0⟩] scope pos) 1 it2 acc env) R' s₄) E s₃) E s₂) E s₁) E s)
    (n : Nat) (h : I n s) (ht : ∀ v, letOwnedTupleGo t1 it v = pure () := by intro _; rfl) :
    codeAny (model prog w) A (.compLoop (.ListComp elt [⟨t1, i1, [], 0⟩, ⟨t2, i2, [], 0⟩] scope pos) 0 it acc env) R s := by
  refine codeAny_loop rfl I (fun n s hI => ?_) n h
  show wpAny _ _ ((compTurn (.ListComp elt [⟨t1, i1, [], 0⟩, ⟨t2, i2, [], 0⟩] scope pos) 0 it acc env).onRaise (fun x => do noteFrame x env; theTreesLotGoes x)) _ _ s
  refine wpAny_noted ?_
  rw [turn_out]
  refine wpAny_bind (wpAny_standAt (wpAny_bind (wpAny_mono (turn n s hI _) (fun r s₁ h₁ => ?_) fun _ _ h' => h')))
  cases r with
  | none => exact wpAny_pure h₁
  | some v =>
    refine wpAny_bind (wpAny_of_eq (ht v) ?_)
    refine wpAny_bind (wpAny_mono h₁ (fun _ s₂ h₂ => wpAny_bind (wpAny_mono h₂ (fun x s₃ h₃ => wpAny_bind (wpAny_standAt ?_)) fun _ _ h' => h')) fun _ _ h' => h')
    rw [hfold]
    refine wpAny_bind (wpAny_pure (wpAny_bind (wpAny_holding (wpAny_mono h₃ (fun it2 s₄ h₄ => wpAny_bind (wpAny_runOwn (h₄ _ fun f s₅ h₅ => ?_))) fun _ _ h' => h'))))
    exact wpAny_pure ⟨rfl, h₅⟩
end
end Mine

/-! Ex4 -/
namespace Mine

/-! ### the closure and the cells of a comprehension's frame -/
def cloF (env : Env) : List (Str × NameKind) → List (Str × Addr) → List (Str × Addr)
  | [], acc => acc
  | (n, k) :: r, acc => if k == .free then cloF env r ((n, (env.cells.lookup n).getD 0) :: acc) else cloF env r acc

theorem forIn_clo {env : Env} (f : Str × NameKind → List (Str × Addr) → Sem (ForInStep (List (Str × Addr))))
    (hf : ∀ n k c, f (n, k) c = if k == .free then (do let a ← cellOf env n; pure (.yield ((n, a) :: c))) else pure (.yield c)) :
    ∀ (names : List (Str × NameKind)) (acc : List (Str × Addr)), (∀ p ∈ names, p.2 = .free → ∃ c, env.cells.lookup p.1 = some c) → forIn names acc f = pure (cloF env names acc)
  | [], acc, _ => rfl
  | (n, k) :: r, acc, h => by
    rw [List.forIn_cons, hf]
    unfold cloF
    cases hk : k == NameKind.free with
    | true =>
      obtain ⟨c, hc⟩ := h (n, k) List.mem_cons_self (by simpa using hk)
      have e : cellOf env n = pure c := by unfold cellOf; rw [hc]
      simp only [if_true, e, hc, Option.getD_some]
      exact forIn_clo f hf r _ fun p hp => h p (List.mem_cons_of_mem _ hp)
    | false =>
      simp only [Bool.false_eq_true, if_false]
      exact forIn_clo f hf r _ fun p hp => h p (List.mem_cons_of_mem _ hp)

theorem closureFor_eq {scope : Scope} {env : Env} (h : ∀ p ∈ scope.names, p.2 = .free → ∃ c, env.cells.lookup p.1 = some c) : closureFor scope env = pure (cloF env scope.names []) := by
  simp only [closureFor]
  rw [forIn_clo (env := env) _ (fun n k c => by cases k <;> rfl) scope.names [] h]
  rfl

theorem cloF_old {env : Env} {y : Str} {c : Addr} : ∀ {names : List (Str × NameKind)} {acc : List (Str × Addr)}, env.cells.lookup y = some c → acc.lookup y = some c → (cloF env names acc).lookup y = some c
  | [], acc, _, h => h
  | (n, k) :: r, acc, hc, h => by
    unfold cloF
    split
    · refine cloF_old hc ?_
      rw [List.lookup_cons]
      cases hy : y == n with
      | true => rw [← beq_iff_eq.mp hy, hc]; rfl
      | false => exact h
    · exact cloF_old hc h
theorem cloF_free {env : Env} {y : Str} {c : Addr} : ∀ {names : List (Str × NameKind)} {acc : List (Str × Addr)}, (y, NameKind.free) ∈ names → env.cells.lookup y = some c → (cloF env names acc).lookup y = some c
  | (n, k) :: r, acc, hm, hc => by
    unfold cloF
    rcases List.mem_cons.mp hm with e | hm
    · cases e
      rw [if_pos (by decide)]
      exact cloF_old hc (by rw [List.lookup_cons, beq_self_eq_true, hc]; rfl)
    · split
      · exact cloF_free hm hc
      · exact cloF_free hm hc

theorem cellsFrom_other {y : Str} : ∀ {names : List (Str × NameKind)} {n : Nat} {acc : List (Str × Addr)}, (∀ p ∈ names, p.2 = .cell → p.1 ≠ y) → (cellsFrom n names acc).lookup y = acc.lookup y
  | [], n, acc, _ => rfl
  | (m, k) :: r, n, acc, h => by
    unfold cellsFrom
    split
    · rename_i hk
      rw [cellsFrom_other fun p hp => h p (List.mem_cons_of_mem _ hp), List.lookup_cons]
      have : (y == m) = false := beq_eq_false_iff_ne.mpr (Ne.symm (h (m, k) List.mem_cons_self (by simpa using hk)))
      rw [this]
    · exact cellsFrom_other fun p hp => h p (List.mem_cons_of_mem _ hp)

theorem cellsFrom_mem {y : Str} : ∀ {names : List (Str × NameKind)} {h : Heap} {acc : List (Str × Addr)} {lo : Nat}, lo ≤ h.objs.size → ((y, NameKind.cell) ∈ names ∨ ∃ c, acc.lookup y = some c ∧ h.IsCell c none ∧ lo ≤ c) →
    ∃ c, (cellsFrom h.objs.size names acc).lookup y = some c ∧ (pushCells h names).IsCell c none ∧ lo ≤ c
  | [], h, acc, lo, hl, hm => by
    rcases hm with hm | hm
    · cases hm
    · exact hm
  | (m, k) :: r, h, acc, lo, hl, hm => by
    unfold cellsFrom pushCells
    cases hk : k == NameKind.cell with
    | true =>
      simp only [if_true]
      have hsz : (h.push { cls := .type "cell", data := .cell none }).objs.size = h.objs.size + 1 := Heap.size_push ..
      have := cellsFrom_mem (y := y) (names := r) (h := h.push { cls := .type "cell", data := .cell none }) (acc := (m, h.objs.size) :: acc) (lo := lo) (by rw [hsz]; omega) ?_
      · rwa [hsz] at this
      · have hy : y = m ∨ y ≠ m := Classical.em _
        rcases hy with rfl | hy
        · exact .inr ⟨h.objs.size, by rw [List.lookup_cons, beq_self_eq_true], ⟨_, Heap.get?_push_size _ rfl, rfl⟩, hl⟩
        · rcases hm with hm | ⟨c, hc, hx, hlo⟩
          · rcases List.mem_cons.mp hm with e | hm
            · cases e; exact absurd rfl hy
            · exact .inl hm
          · refine .inr ⟨c, ?_, hx.keeps fun b o e => Heap.get?_push_of_some _ e, hlo⟩
            rw [List.lookup_cons, beq_eq_false_iff_ne.mpr hy]; exact hc
    | false =>
      simp only [Bool.false_eq_true, if_false]
      refine cellsFrom_mem hl ?_
      rcases hm with hm | hm
      · rcases List.mem_cons.mp hm with e | hm
        · cases e; cases hk
        · exact .inl hm
      · exact .inr hm

section
variable {M : Model} {A : Around} {E : Value → Shared → Prop} {s : Shared}
theorem newFunctionEnv_comp {scope : Scope} {globals : Addr} {cl : List (Str × Addr)} {qual : Str} {env : Env} {Q : Env → Shared → Prop}
    (h : Q (newEnv scope s.heap.objs.size globals (cellsFrom (s.heap.objs.size + 1) scope.names cl) qual none .none (some env) builtinsNs) { s with heap := pushCells (s.heap.push { cls := .type "dict", data := .dict #[] }) scope.names }) :
    wpAny M A (newFunctionEnv scope globals cl [] qual none .none (some env)) Q E s := by
  simp only [newFunctionEnv, Option.isSome_some, if_true]
  refine wpAny_bind (wpAny_alloc ?_)
  refine wpAny_bind (wpAny_layCells _ (fun name kind cells => by cases hkc : kind == NameKind.cell <;> simp [hkc]) _ _ _ _ ?_)
  rw [show ({ s with heap := s.heap.push { cls := .type "dict", data := .dict #[] } } : Shared).heap.objs.size = s.heap.objs.size + 1 from Heap.size_push ..]
  rw [List.forIn_nil]
  exact wpAny_bind (wpAny_pure (wpAny_pure h))
end

/-! ### where a name is stored -/
def Place (env : Env) (h : Heap) (x : Str) (a : Addr) : Prop :=
  (env.kindOf x = some .local ∧ a = env.locals ∧ ∃ m, h.Ns a m) ∨ (env.kindOf x = some .cell ∧ env.cells.lookup x = some a ∧ ∃ v, h.IsCell a v)

theorem Place.keeps {env : Env} {h h' : Heap} {x a} (p : Place env h x a) (hk : ∀ o, h.get? a = some o → h'.get? a = some o) : Place env h' x a := by
  rcases p with ⟨k, e, m, n⟩ | ⟨k, e, v, o, ho, c⟩
  · exact .inl ⟨k, e, m, n.at' fun o => hk o⟩
  · exact .inr ⟨k, e, v, o, hk _ ho, c⟩
theorem Place.some {env : Env} {h : Heap} {x a} (p : Place env h x a) : ∃ o, h.get? a = some o := by
  rcases p with ⟨k, e, m, n⟩ | ⟨k, e, v, o, ho, c⟩
  · obtain ⟨o, _, _, ho, _⟩ := n; exact ⟨o, ho⟩
  · exact ⟨o, ho⟩

theorem place_store {M : Model} {A : Around} {E : Value → Shared → Prop} {s : Shared} {env : Env} {x : Str} {a : Addr} {v : Value} {Q : Unit → Shared → Prop} (hk : env.scope.kind = .function) (p : Place env s.heap x a)
    (h : ∀ h' tk, Place env h' x a → Slot env h' x v → Heap.SameBut a s.heap h' → Q () { s with heap := h', toks := tk }) : wpAny M A (storeName env x v) Q E s := by
  rcases p with ⟨k, rfl, m, n⟩ | ⟨k, e, v0, c⟩
  · exact wpAny_storeName_local k n (fun h' hn hs => h h' _ (.inl ⟨k, rfl, _, hn⟩) (.inl ⟨k, _, hn, by simp⟩) hs) (by rw [hk]; rfl)
  · exact wpAny_storeName_cell hk k e c fun h' hc hs => h h' s.toks (.inr ⟨k, e, _, hc⟩) (.inr ⟨.inl k, a, e, hc⟩) hs

theorem Ext.but {F F' : Fz} {h h' h'' : Heap} (x : Ext F h F' h') {a : Addr} (hs : ∀ b o, b ≠ a → h'.get? b = some o → h''.get? b = some o) (h0 : h.get? a = none) (h1 : F' a = none) : Ext F h F' h'' :=
  ⟨fun b o e => hs b o (fun q => by subst q; rw [h0] at e; cases e) (x.keep b o e), x.mono, fun b o e => hs b o (fun q => by subst q; rw [h1] at e; cases e) (x.fin b o e), x.new⟩

theorem relabel_kinds {env : Env} : ∀ {names : List (Str × NameKind)} {x : Str},
    (names.map fun (n, k) => if (k == NameKind.free && env.scope.kind == .function && env.kindOf n == some .cell) then (n, NameKind.cell) else (n, k)).lookup x = names.lookup x ∨
    (names.lookup x = some .free ∧ (names.map fun (n, k) => if (k == NameKind.free && env.scope.kind == .function && env.kindOf n == some .cell) then (n, NameKind.cell) else (n, k)).lookup x = some .cell)
  | [], x => .inl rfl
  | (n, k) :: r, x => by
    have ih := @relabel_kinds env r x
    rw [List.map_cons]
    dsimp only
    by_cases hc : (k == NameKind.free && env.scope.kind == .function && env.kindOf n == some .cell) = true
    · rw [if_pos hc]
      rw [Bool.and_eq_true, Bool.and_eq_true] at hc
      obtain rfl : k = .free := by simpa using hc.1.1
      simp only [List.lookup_cons]
      cases x == n with
      | true => exact .inr ⟨rfl, rfl⟩
      | false => exact ih
    · rw [if_neg hc]
      simp only [List.lookup_cons]
      cases x == n with
      | true => exact .inl rfl
      | false => exact ih

theorem cenv_kinds {scope : Scope} {cl : List (Str × Addr)} {C : Addr} {env : Env} (x : Str) :
    (compEnvC scope cl C env).kindOf x = scope.names.lookup x ∨ (scope.names.lookup x = some .free ∧ (compEnvC scope cl C env).kindOf x = some .cell) := relabel_kinds

section
variable {K : Frag} {mg mb : Str → Option Value} {prog : Program} {w : World} {i : In} {n : Nat}

theorem tests_ok (ht : SoundT K mg mb prog w i n) {csc : Scope} {ρ : Rho} : ∀ {ifs : List Expr} {b : Bool}, tests (i.tst csc ρ) ifs = .ok b → ∀ {A : Around} {cenv : Env} {F : Fz} {s : Shared}, AOk A n → ER K mg mb csc cenv F ρ s.heap →
    TOk prog w A F s b (forIn ifs true fun c r => if r = true then do let ok ← isTrue c cenv (eval c cenv); pure (ForInStep.yield ok) else pure (ForInStep.yield r))
  | [], b, h, A, cenv, F, s, hA, R => by
    cases h
    exact fun Q E k => wpAny_pure (k s.heap s.toks F (Ext.refl R.fin))
  | e :: r, b, h, A, cenv, F, s, hA, R => by
    obtain ⟨t, ht1, h2⟩ := Out.bind_ok h
    refine fun Q E k => ?_
    rw [List.forIn_cons]
    simp only [if_true]
    refine wpAny_bind (wpAny_bind (ht _ _ _ _ ht1 A cenv F s hA R _ _ fun h' tk F' x => wpAny_pure ?_))
    dsimp only
    cases t with
    | true => exact tests_ok ht h2 hA (ext_ER R x) _ _ fun h'' tk' F'' x' => k _ _ _ (x.trans x')
    | false =>
      cases h2
      have go : ∀ l : List Expr, wpAny (model prog w) A (forIn l false fun c r => if r = true then do let ok ← isTrue c cenv (eval c cenv); pure (ForInStep.yield ok) else pure (ForInStep.yield r)) Q E { s with heap := h', toks := tk } := fun l => by
        induction l with
        | nil => exact wpAny_pure (k _ _ _ x)
        | cons e' r' ih =>
          rw [List.forIn_cons]
          simp only [Bool.false_eq_true, if_false]
          exact wpAny_bind (wpAny_pure ih)
      exact go r

theorem filtL_length {α β : Type} {t : α → Out Bool} {f : α → Out β} : ∀ {l : List α} {r : List β}, filtL t f l = .ok r → r.length ≤ l.length
  | [], r, h => by cases h; exact Nat.le_refl _
  | a :: l, r, h => by
    obtain ⟨c, hc, h2⟩ := Out.bind_ok h
    cases c with
    | false => exact Nat.le_succ_of_le (filtL_length (l := l) h2)
    | true =>
      simp only [if_true] at h2
      obtain ⟨b, _, h3⟩ := Out.bind_ok h2
      obtain ⟨bs, h4, h5⟩ := Out.bind_ok h3
      cases h5
      exact Nat.succ_le_succ (filtL_length h4)

/-- the frame of a comprehension, at a turn -/
theorem comp_ER {sc csc : Scope} {env : Env} {F F' : Fz} {ρ : Rho} {h h' : Heap} {cells : List (Str × Addr)} {C : Addr} {x : Str} {v : Value} {d : D} (R : ER K mg mb sc env F ρ h) (hf : freeOk sc csc = true) (hn : namesOk csc = true)
    (hfree : ∀ y c, csc.names.lookup y = some .free → env.cells.lookup y = some c → cells.lookup y = some c) (hcell : ∀ y, csc.names.lookup y = some .cell → ∃ c, cells.lookup y = some c)
    (e : Ext F h F' h') (hs : Slot (compEnvC csc cells C env) h' x v) (hv : VR F' v d) (hx : localOrCell csc x = true) : ER K mg mb csc (compEnvC csc cells C env) F' (upd (compRho csc ρ) x false d) h' := by
  have R' := R.ext e
  unfold namesOk at hn
  rw [Bool.and_eq_true] at hn
  refine ⟨R'.glb, R'.kf, R'.fin, (by show csc.kind = .function; simpa using hn.1), R'.gl, R'.bu, cenv_kinds, fun y hy => ?_, fun y o dd hy hv' => ?_⟩
  · rcases hy with hy | hy
    · exact hcell y hy
    · have hm := mem_of_lookup hy
      unfold freeOk at hf
      have := List.all_eq_true.mp hf _ hm
      simp only [bne_self_eq_false, Bool.false_or, Bool.or_eq_true, beq_iff_eq] at this
      obtain ⟨c, hc⟩ := R.cells y this
      exact ⟨c, hfree y c hy hc⟩
  · unfold upd at hy
    split at hy
    · rename_i hyx
      cases hy
      subst hyx
      exact ⟨v, hs, .frz hv, fun _ => hv⟩
    · unfold compRho at hy
      split at hy
      · rename_i hfr
        have hm := mem_of_lookup hfr
        unfold freeOk at hf
        have ho := List.all_eq_true.mp hf _ hm
        simp only [bne_self_eq_false, Bool.false_or, Bool.or_eq_true, beq_iff_eq] at ho
        obtain ⟨u, su, wu, fu⟩ := R'.vars y o dd hy (by unfold isVar; rcases ho with q | q <;> rw [q])
        refine ⟨u, ?_, wu, fu⟩
        have hkind := R.kinds y
        have hkc : env.kindOf y = some .cell ∨ env.kindOf y = some .free := by
          rcases hkind with q | q
          · rw [q]; exact ho
          · exact .inl q.2
        rcases su with ⟨a, _⟩ | ⟨_, c, hc, hcv⟩
        · rcases hkc with q | q <;> rw [q] at a <;> cases a
        · refine .inr ⟨?_, c, hfree y c hfr hc, hcv⟩
          rcases cenv_kinds (scope := csc) (cl := cells) (C := C) (env := env) y with q | q
          · rw [q, hfr]; exact .inr rfl
          · exact .inl q.2
      · cases hy

theorem VRs.snoc {F : Fz} {items : Array Value} {us : List D} {y : Value} {b : D} (h : VRs F items.toList us) (r : VR F y b) : VRs F (items.push y).toList (us ++ [b]) := by
  rw [Array.toList_push]; exact h.append (.one r)

theorem filtL_cons {α β : Type} {t : α → Out Bool} {f : α → Out β} {a : α} {l : List α} {r : List β} (h : filtL t f (a :: l) = .ok r) : ∃ c, t a = .ok c ∧ ((c = false ∧ filtL t f l = .ok r) ∨ (c = true ∧ ∃ b bs, f a = .ok b ∧ filtL t f l = .ok bs ∧ r = b :: bs)) := by
  obtain ⟨c, hc, h2⟩ := Out.bind_ok h
  refine ⟨c, hc, ?_⟩
  cases c with
  | false => exact .inl ⟨rfl, h2⟩
  | true =>
    simp only [if_true] at h2
    obtain ⟨b, hb, h3⟩ := Out.bind_ok h2
    obtain ⟨bs, h4, h5⟩ := Out.bind_ok h3
    cases h5
    exact .inr ⟨rfl, b, bs, hb, h4, rfl⟩

theorem comp_loop (hi : SoundE K mg mb prog w i n) (ht : SoundT K mg mb prog w i n) {sc csc : Scope} {ρ : Rho} {elt iter : Expr} {x : Str} {px : Pos} {ifs : List Expr} {pos : Pos} {vs ds : List D}
    (hres : filtL (fun v => tests (i.tst csc (upd (compRho csc ρ) x false v)) ifs) (fun v => i.ev csc (upd (compRho csc ρ) x false v) false elt) vs = .ok ds)
    {A : Around} {env : Env} {F : Fz} {s : Shared} {cells : List (Str × Addr)} {C D I pl : Addr} {fp wr : List Addr} {P : Nat → Value → Prop} {St : Nat → Heap → Prop} {R : Result → Shared → Prop}
    (hA : AOk A n) (hER : ER K mg mb sc env F ρ s.heap) (hf : freeOk sc csc = true) (hn : namesOk csc = true) (hx : localOrCell csc x = true)
    (hfree : ∀ y c, csc.names.lookup y = some .free → env.cells.lookup y = some c → cells.lookup y = some c) (hcell : ∀ y, csc.names.lookup y = some .cell → ∃ c, cells.lookup y = some c)
    (W : Walks prog w A I fp wr vs.length P St) (hwr : ∀ b ∈ wr, b = I) (hlen : vs.length ≤ 2 * lim)
    (hDf : D ∉ fp) (hpf : pl ∉ fp) (hDI : D ≠ I) (hDp : D ≠ pl) (hDC : D ≠ C) (hCI : C ≠ I) (hpI : pl ≠ I)
    (h0 : ∀ b, b = C ∨ b = D ∨ b = I ∨ b = pl → s.heap.get? b = none)
    {h₁ : Heap} {tk₁ : Nat} {F₁ : Fz} (hext : Ext F s.heap F₁ h₁) (h01 : ∀ b, b = C ∨ b = D ∨ b = I ∨ b = pl → F₁ b = none) (hSI : ∀ j h, St j h → ∃ o, h.get? I = some o) (hst : St 0 h₁)
    (hD : h₁.get? D = some (plainL #[] 0)) (hpl : Place (compEnvC csc cells C env) h₁ x pl) (hC : ∃ m, h₁.Ns C m) (hP : ∀ j v, P j v → ∃ d, vs[j]? = some d ∧ VR F₁ v d)
    (hR : ∀ h' tk F' items k m', Ext F s.heap F' h' → F' D = none → F' C = none → h'.get? D = some (plainL items k) → VRs F' items.toList ds → h'.Ns C m' → R (.ok .next) { s with heap := h', toks := tk }) :
    codeAny (model prog w) A (.compLoop (.ListComp elt [⟨.Name x px, iter, ifs, 0⟩] csc pos) 0 (.ref I) (.ref D) (compEnvC csc cells C env)) R { s with heap := h₁, toks := tk₁ } := by
  have hkind : (compEnvC csc cells C env).scope.kind = .function := by
    unfold namesOk at hn; rw [Bool.and_eq_true] at hn; show csc.kind = .function; simpa using hn.1
  refine codeAny_compLoop_tests
    (fun k s' => ∃ h' tk F' items nn us rest, ∃ j : Nat, s' = { s with heap := h', toks := tk } ∧ Ext F s.heap F' h' ∧ (∀ b o, F₁ b = some o → F' b = some o) ∧ (∀ b, b = C ∨ b = D ∨ b = I ∨ b = pl → F' b = none) ∧
      St j h' ∧ h'.get? D = some (plainL items nn) ∧ VRs F' items.toList us ∧ Place (compEnvC csc cells C env) h' x pl ∧ (∃ m, h'.Ns C m) ∧
      filtL (fun v => tests (i.tst csc (upd (compRho csc ρ) x false v)) ifs) (fun v => i.ev csc (upd (compRho csc ρ) x false v) false elt) (vs.drop j) = .ok rest ∧ us ++ rest = ds ∧ j ≤ vs.length ∧ us.length ≤ j ∧ k = vs.length + 1 - j) ?_ (vs.length + 1)
    ⟨h₁, tk₁, F₁, #[], 0, [], ds, 0, rfl, hext, fun _ _ e => e, h01, hst, hD, .nil, hpl, hC, by simpa using hres, rfl, Nat.zero_le _, Nat.le_refl _, rfl⟩
  rintro k s' ⟨h', tk, F', items, nn, us, rest, j, rfl, x', mono, hnF, hst', hD', hus, hpl', hC', hrest, hsum, hj, huj, rfl⟩
  have offI : ∀ {h a : Heap}, (∀ b o, b ∉ wr → h.get? b = some o → a.get? b = some o) → ∀ b o, b ≠ I → h.get? b = some o → a.get? b = some o := fun hk b o hb e => hk b o (fun q => hb (hwr b q)) e
  have hI0 := h0 I (.inr (.inr (.inl rfl)))
  have hIF := hnF I (.inr (.inr (.inl rfl)))
  by_cases hjl : j < vs.length
  · refine W.item j _ _ _ hjl hst' fun v a₁ t₁ hPv hst₁ hk₁ => ?_
    have x₁ : Ext F s.heap F' a₁ := x'.but (offI hk₁) hI0 hIF
    obtain ⟨d, hd, hv⟩ := hP j v hPv
    have hv' := hv.mono mono
    have hdrop : vs.drop j = d :: vs.drop (j + 1) := by
      obtain ⟨hlt, e⟩ := List.getElem?_eq_some_iff.mp hd
      rw [← e]; exact List.drop_eq_getElem_cons hlt
    rw [hdrop] at hrest
    obtain ⟨c, hc, hcase⟩ := filtL_cons hrest
    refine wpAny_assign_Name (place_store hkind (hpl'.keeps fun o e => offI hk₁ _ o hpI e) fun a₂ t₂ hp₂ hs₂ hsb₂ => ?_)
    have hp0 := h0 pl (.inr (.inr (.inr rfl)))
    have hpF := hnF pl (.inr (.inr (.inr rfl)))
    have x₂ : Ext F s.heap F' a₂ := x₁.but hsb₂.extBut hp0 hpF
    have R₂ := comp_ER hER hf hn hfree hcell x₂ hs₂ hv' hx
    have hst₂ : St (j + 1) a₂ := W.frame _ _ _ hst₁ fun b hb o e => hsb₂.extBut b o (fun q => hpf (q ▸ hb)) e
    have hD₂ : a₂.get? D = some (plainL items nn) := hsb₂.extBut D _ hDp (offI hk₁ D _ hDI hD')
    have hC₂ : ∃ m, a₂.Ns C m := by
      obtain ⟨m, hm⟩ := hC'
      by_cases hbp : C = pl
      · rcases hp₂ with ⟨_, e, m, hn⟩ | ⟨hkc, _⟩
        · exact ⟨m, hbp ▸ hn⟩
        · exfalso
          rcases hpl' with ⟨q, _⟩ | ⟨_, _, _, o', ho', hco'⟩
          · rw [q] at hkc; cases hkc
          · subst hbp
            obtain ⟨o2, _, _, ho2, hd2, _⟩ := hm
            rw [ho'] at ho2; cases ho2
            rw [hco'] at hd2; cases hd2
      · exact ⟨m, hm.at' fun o e => hsb₂.extBut _ o hbp (offI hk₁ _ o hCI e)⟩
    have stay : ∀ {F₃ a₃}, Ext F' a₂ F₃ a₃ → ∀ b, b = C ∨ b = D ∨ b = I ∨ b = pl → F₃ b = none := fun {F₃ a₃} x₃ b hb => by
      have hs : ∃ o, a₂.get? b = some o := by
        rcases hb with rfl | rfl | rfl | rfl
        · obtain ⟨m, o, _, _, ho, _⟩ := hC₂; exact ⟨o, ho⟩
        · exact ⟨_, hD₂⟩
        · exact hSI _ _ hst₂
        · exact hp₂.some
      cases q : F₃ b with
      | none => rfl
      | some o =>
        rcases x₃.new b o q with q | q
        · rw [hnF b hb] at q; cases q
        · obtain ⟨o', e⟩ := hs; rw [q] at e; cases e
    refine tests_ok ht hc hA R₂ _ _ fun a₃ t₃ F₃ x₃ => ?_
    have hst₃ : St (j + 1) a₃ := W.frame _ _ _ hst₂ fun b _ o e => x₃.keep b o e
    rcases hcase with ⟨rfl, hr⟩ | ⟨rfl, b, bs, hb, hr, rfl⟩
    · simp only [Bool.false_eq_true, if_false]
      refine ⟨_, Nat.sub_lt_sub_left (by omega) (Nat.lt_succ_self j), a₃, t₃, F₃, items, nn, us, rest, j + 1, rfl, x₂.trans x₃, fun b o e => x₃.mono b o (mono b o e), stay x₃, hst₃, x₃.keep _ _ hD₂, hus.mono x₃.mono, hp₂.keeps (fun o e => x₃.keep _ o e), ?_, hr, hsum, hjl, by omega, rfl⟩
      obtain ⟨m, hm⟩ := hC₂; exact ⟨m, hm.keeps x₃.keep⟩
    · simp only [if_true]
      refine hi _ _ _ _ _ hb A _ F₃ _ hA (ext_ER R₂ x₃) _ _ fun y a₄ t₄ F₄ x₄ _ vr => ?_
      have x34 := x₃.trans x₄
      refine wpAny_list_append_plain (items := items) ⟨nn, x34.keep _ _ hD₂⟩ (fun a₅ hD₅ hs₅ => ?_) (by
        have := hus.length; rw [Array.length_toList] at this; rw [sizeLine_eq]; unfold lim at hlen; omega)
      obtain ⟨n5, hD₅⟩ := hD₅
      have hD4 := stay x34 D (.inr (.inl rfl))
      refine ⟨_, Nat.sub_lt_sub_left (by omega) (Nat.lt_succ_self j), a₅, t₄, F₄, items.push y, n5, us ++ [b], bs, j + 1, rfl, (x₂.trans x34).but hs₅.extBut (h0 D (.inr (.inl rfl))) hD4, fun b o e => x34.mono b o (mono b o e), stay x34,
        W.frame _ _ _ hst₃ fun b hb o e => hs₅.extBut b o (fun q => hDf (q ▸ hb)) (x₄.keep b o e), hD₅, (hus.mono x34.mono).snoc (vr rfl), hp₂.keeps (fun o e => hs₅.extBut _ o (Ne.symm hDp) (x34.keep _ o e)), ?_, hr, by rw [List.append_assoc]; exact hsum, hjl, by rw [List.length_append, List.length_singleton]; omega, rfl⟩
      obtain ⟨m, hm⟩ := hC₂
      exact ⟨m, (hm.keeps x34.keep).sameBut hs₅ (Ne.symm hDC)⟩
  · obtain rfl : j = vs.length := by omega
    refine W.done _ _ _ hst' fun a₁ t₁ hk₁ => ?_
    rw [List.drop_length] at hrest
    cases hrest
    rw [List.append_nil] at hsum
    subst hsum
    obtain ⟨m, hm⟩ := hC'
    exact hR a₁ t₁ F' items nn m (x'.but (offI hk₁) hI0 hIF) (hnF D (.inr (.inl rfl))) (hnF C (.inl rfl)) (offI hk₁ _ _ hDI hD') hus (hm.at' fun o e => offI hk₁ _ o hCI e)

theorem ER.bind {csc : Scope} {cenv : Env} {F : Fz} {ρ : Rho} {h : Heap} {x : Str} {v : Value} {d : D} (R : ER K mg mb csc cenv F ρ h) (hs : Slot cenv h x v) (hv : VR F v d) : ER K mg mb csc cenv F (upd ρ x false d) h :=
  ⟨R.glb, R.kf, R.fin, R.kind, R.gl, R.bu, R.kinds, R.cells, fun y o dd hy hv' => by
    unfold upd at hy; split at hy
    · rename_i e; cases hy; subst e; exact ⟨v, hs, .frz hv, fun _ => hv⟩
    · exact R.vars y o dd hy hv'⟩

theorem catL_cons {α β : Type} {f : α → Out (List β)} {a : α} {l : List α} {r : List β} (h : catL f (a :: l) = .ok r) : ∃ b bs, f a = .ok b ∧ catL f l = .ok bs ∧ r = b ++ bs := by
  obtain ⟨b, hb, h3⟩ := Out.bind_ok h
  obtain ⟨bs, h4, h5⟩ := Out.bind_ok h3
  cases h5
  exact ⟨b, bs, hb, h4, rfl⟩
theorem mapL_cons {α β : Type} {f : α → Out β} {a : α} {l : List α} {r : List β} (h : mapL f (a :: l) = .ok r) : ∃ b bs, f a = .ok b ∧ mapL f l = .ok bs ∧ r = b :: bs := by
  obtain ⟨b, hb, h3⟩ := Out.bind_ok h
  obtain ⟨bs, h4, h5⟩ := Out.bind_ok h3
  cases h5
  exact ⟨b, bs, hb, h4, rfl⟩

set_option maxHeartbeats 1000000 in
theorem comp_loop2 (hi : SoundE K mg mb prog w i n) {sc csc : Scope} {ρ : Rho} {elt iter : Expr} {x y z : Str} {px py pz : Pos} {pos : Pos} {vs ds : List D}
    (hres : catL (fun v => (srcE K i csc (upd (compRho csc ρ) x false v) false (.Name z pz)).bind fun us => mapL (fun u => i.ev csc (upd (upd (compRho csc ρ) x false v) y false u) false elt) us) vs = .ok ds) (hds : ds.length ≤ lim)
    {A : Around} {env : Env} {F : Fz} {s : Shared} {cells : List (Str × Addr)} {C D I : Addr} {fp wr : List Addr} {P : Nat → Value → Prop} {St : Nat → Heap → Prop} {R : Result → Shared → Prop}
    (hA : AOk A n) (hER : ER K mg mb sc env F ρ s.heap) (hf : freeOk sc csc = true) (hn : namesOk csc = true) (hx : csc.names.lookup x = some .local) (hy : csc.names.lookup y = some .local) (hxy : x ≠ y)
    (hfree : ∀ y c, csc.names.lookup y = some .free → env.cells.lookup y = some c → cells.lookup y = some c) (hcell : ∀ y, csc.names.lookup y = some .cell → ∃ c, cells.lookup y = some c)
    (W : Walks prog w A I fp wr vs.length P St) (hwr : ∀ b ∈ wr, b = I)
    (hDf : D ∉ fp) (hCf : C ∉ fp) (hDI : D ≠ I) (hDC : D ≠ C) (hCI : C ≠ I) {h₁ : Heap} (hfpe : ∀ b ∈ fp, ∃ o, h₁.get? b = some o)
    (h0 : ∀ b, b = C ∨ b = D ∨ b = I → s.heap.get? b = none)
    {tk₁ : Nat} {F₁ : Fz} (hext : Ext F s.heap F₁ h₁) (h01 : ∀ b, b = C ∨ b = D ∨ b = I → F₁ b = none) (hSI : ∀ j h, St j h → ∃ o, h.get? I = some o) (hst : St 0 h₁)
    (hD : h₁.get? D = some (plainL #[] 0)) (hC : ∃ m, h₁.Ns C m) (hP : ∀ j v, P j v → ∃ d, vs[j]? = some d ∧ VR F₁ v d)
    (hR : ∀ h' tk F' items k m', Ext F s.heap F' h' → F' D = none → F' C = none → h'.get? D = some (plainL items k) → VRs F' items.toList ds → h'.Ns C m' → R (.ok .next) { s with heap := h', toks := tk }) :
    codeAny (model prog w) A (.compLoop (.ListComp elt [⟨.Name x px, iter, [], 0⟩, ⟨.Name y py, .Name z pz, [], 0⟩] csc pos) 0 (.ref I) (.ref D) (compEnvC csc cells C env)) R { s with heap := h₁, toks := tk₁ } := by
  have hkind : (compEnvC csc cells C env).scope.kind = .function := by
    have hn' := hn
    unfold namesOk at hn'; rw [Bool.and_eq_true] at hn'; show csc.kind = .function; simpa using hn'.1
  have hkx : (compEnvC csc cells C env).kindOf x = some .local := lookup_relabel_local hx
  have hky : (compEnvC csc cells C env).kindOf y = some .local := lookup_relabel_local hy
  have hxl : localOrCell csc x = true := by unfold localOrCell; rw [hx]; rfl
  refine loop_out
    (fun k s' => ∃ h' tk F' items nn us rest, ∃ j : Nat, s' = { s with heap := h', toks := tk } ∧ Ext F s.heap F' h' ∧ (∀ b o, F₁ b = some o → F' b = some o) ∧ (∀ b, b = C ∨ b = D ∨ b = I → F' b = none) ∧
      St j h' ∧ h'.get? D = some (plainL items nn) ∧ VRs F' items.toList us ∧ (∃ m, h'.Ns C m) ∧
      catL (fun v => (srcE K i csc (upd (compRho csc ρ) x false v) false (.Name z pz)).bind fun us => mapL (fun u => i.ev csc (upd (upd (compRho csc ρ) x false v) y false u) false elt) us) (vs.drop j) = .ok rest ∧ us ++ rest = ds ∧ j ≤ vs.length ∧ (∀ b ∈ fp, ∃ o, h'.get? b = some o) ∧ k = vs.length + 1 - j) (fun _ => rfl) ?_ (vs.length + 1)
    ⟨h₁, tk₁, F₁, #[], 0, [], ds, 0, rfl, hext, fun _ _ e => e, h01, hst, hD, .nil, hC, by simpa using hres, rfl, Nat.zero_le _, hfpe, rfl⟩
  rintro k s' ⟨h', tk, F', items, nn, us, rest, j, rfl, x', mono, hnF, hst', hD', hus, hC', hrest, hsum, hj, hfpx, rfl⟩ E
  have offI : ∀ {h a : Heap}, (∀ b o, b ∉ wr → h.get? b = some o → a.get? b = some o) → ∀ b o, b ≠ I → h.get? b = some o → a.get? b = some o := fun hk b o hb e => hk b o (fun q => hb (hwr b q)) e
  have hI0 := h0 I (.inr (.inr rfl))
  have hIF := hnF I (.inr (.inr rfl))
  have hC0 := h0 C (.inl rfl)
  have hCF := hnF C (.inl rfl)
  by_cases hjl : j < vs.length
  · refine W.item j _ _ _ hjl hst' fun v a₁ t₁ hPv hst₁ hk₁ => ?_
    have x₁ : Ext F s.heap F' a₁ := x'.but (offI hk₁) hI0 hIF
    obtain ⟨d, hd, hv⟩ := hP j v hPv
    have hv' := hv.mono mono
    have hdrop : vs.drop j = d :: vs.drop (j + 1) := by
      obtain ⟨hlt, e⟩ := List.getElem?_eq_some_iff.mp hd
      rw [← e]; exact List.drop_eq_getElem_cons hlt
    rw [hdrop] at hrest
    obtain ⟨ds1, ds2, hb1, hrest2, rfl⟩ := catL_cons hrest
    obtain ⟨us1, hsrc1, hmap1⟩ := Out.bind_ok hb1
    obtain ⟨m, hm⟩ := hC'
    have hm₁ : a₁.Ns C m := hm.at' fun o e => offI hk₁ _ o hCI e
    refine wpAny_assign_Name (wpAny_storeName_local hkx hm₁ (fun a₂ hn₂ hs₂ => ?_) (by rw [hkind]; rfl))
    have hs₂ : Heap.SameBut C a₁ a₂ := hs₂
    have hn₂ : a₂.Ns C (fun u => if u = x then some v else m u) := hn₂
    have x₂ : Ext F s.heap F' a₂ := x₁.but hs₂.extBut hC0 hCF
    have slx : Slot (compEnvC csc cells C env) a₂ x v := .inl ⟨hkx, _, hn₂, by simp⟩
    have R₂ := comp_ER hER hf hn hfree hcell x₂ slx hv' hxl
    have hst₂ : St (j + 1) a₂ := W.frame _ _ _ hst₁ fun b hb o e => hs₂.extBut b o (fun q => hCf (q ▸ hb)) e
    have hD₂ : a₂.get? D = some (plainL items nn) := hs₂.extBut D _ hDC (offI hk₁ D _ hDI hD')
    have stay : ∀ {F₃ a₃}, Ext F' a₂ F₃ a₃ → ∀ b, b = C ∨ b = D ∨ b = I → F₃ b = none := fun {F₃ a₃} x₃ b hb => by
      have hs : ∃ o, a₂.get? b = some o := by
        rcases hb with rfl | rfl | rfl
        · obtain ⟨o, _, _, ho, _⟩ := hn₂; exact ⟨o, ho⟩
        · exact ⟨_, hD₂⟩
        · exact hSI _ _ hst₂
      cases q : F₃ b with
      | none => rfl
      | some o =>
        rcases x₃.new b o q with q | q
        · rw [hnF b hb] at q; cases q
        · obtain ⟨o', e⟩ := hs; rw [q] at e; cases e
    obtain ⟨hsrc, _⟩ := src_ok (s := { s with heap := a₂, toks := t₁ + 1 }) hi hsrc1 hA R₂
    refine hsrc _ _ fun I2 fp2 wr2 P2 St2 a₃ t₃ F₃ x₃ W2 st2 hfp2 hwr2 hI2F hI20 hSI2 hfpx2 hP2 => ?_
    intro R' hR'
    have hI20 : a₂.get? I2 = none := hI20
    have hnF3 := stay x₃
    have hfp2e : ∀ b ∈ fp, ∃ o, a₂.get? b = some o := fun b hb => by
      by_cases hbI : b = I
      · rw [hbI]; exact hSI _ _ hst₂
      · obtain ⟨o, ho⟩ := hfpx b hb
        exact ⟨o, hs₂.extBut b o (fun q => hCf (q ▸ hb)) (offI hk₁ b o hbI ho)⟩
    have hI2fp : I2 ∉ fp := fun hm => by obtain ⟨o, ho⟩ := hfp2e I2 hm; rw [hI20] at ho; cases ho
    have hfp3 : ∀ b ∈ fp, ∃ o, a₃.get? b = some o := fun b hb => (hfp2e b hb).imp fun o e => x₃.keep b o e
    have hst₃ : St (j + 1) a₃ := W.frame _ _ _ hst₂ fun b _ o e => x₃.keep b o e
    have hD₃ := x₃.keep _ _ hD₂
    have hn₃ := hn₂.keeps x₃.keep
    have hI2s : s.heap.get? I2 = none := none_back x₂.keep hI20
    have hCI2 : C ≠ I2 := fun q => by obtain ⟨o, _, _, ho, _⟩ := hn₂; rw [q, hI20] at ho; cases ho
    have hDI2 : D ≠ I2 := fun q => by rw [q, hI20] at hD₂; cases hD₂
    have hII2 : I ≠ I2 := fun q => by obtain ⟨o, ho⟩ := hSI _ _ hst₂; rw [q, hI20] at ho; cases ho
    have nfp : ∀ b, b = C ∨ b = D ∨ b = I → b ≠ I2 → b ∉ fp2 := fun b hb hne hm => by
      rcases hfpx2 b hm with q | ⟨_, q⟩
      · exact hne q
      · obtain ⟨o, ho⟩ := q rfl
        rw [hnF3 b hb] at ho; cases ho
    have hC2 := nfp C (.inl rfl) hCI2
    have hD2 := nfp D (.inr (.inl rfl)) hDI2
    have offI2 : ∀ {h a : Heap}, (∀ b o, b ∉ wr2 → h.get? b = some o → a.get? b = some o) → ∀ b o, b ≠ I2 → h.get? b = some o → a.get? b = some o := fun hk b o hb e => hk b o (fun q => hb (hwr2 b q)) e
    have loop : ∀ tk, codeAny (model prog w) A (.compLoop (.ListComp elt [⟨.Name x px, iter, [], 0⟩, ⟨.Name y py, .Name z pz, [], 0⟩] csc pos) 1 (.ref I2) (.ref D) (compEnvC csc cells C env)) R' { s with heap := a₃, toks := tk } := fun tk => by
      refine loop_in
        (fun k s' => ∃ h' tk F'' its n2 us2 rest2, ∃ j2 : Nat, s' = { s with heap := h', toks := tk } ∧ Ext F s.heap F'' h' ∧ (∀ b o, F₃ b = some o → F'' b = some o) ∧ (∀ b, b = C ∨ b = D ∨ b = I ∨ b = I2 → F'' b = none) ∧
          (∀ b ∈ fp, ∀ o, a₃.get? b = some o → h'.get? b = some o) ∧ St2 j2 h' ∧ h'.get? D = some (plainL its n2) ∧ VRs F'' its.toList us2 ∧ (∃ m, h'.Ns C m ∧ m x = some v) ∧
          mapL (fun u => i.ev csc (upd (upd (compRho csc ρ) x false d) y false u) false elt) (us1.drop j2) = .ok rest2 ∧ us2 ++ rest2 = us ++ ds1 ∧ j2 ≤ us1.length ∧ k = us1.length + 1 - j2) ?_ (us1.length + 1)
        ⟨a₃, tk, F₃, items, nn, us, ds1, 0, rfl, x₂.trans x₃, fun _ _ e => e, fun b hb => by
            rcases hb with hb | hb | hb | hb
            · exact hnF3 b (.inl hb)
            · exact hnF3 b (.inr (.inl hb))
            · exact hnF3 b (.inr (.inr hb))
            · rw [hb]; exact hI2F, fun _ _ _ e => e, st2, hD₃, hus.mono x₃.mono, ⟨_, hn₃, by simp⟩, by simpa using hmap1, rfl, Nat.zero_le _, rfl⟩
      rintro k2 s2 ⟨h4, tk4, F4, its, n2, us2, rest2, j2, rfl, x4, mono4, hnF4, hfp4, hst24, hD4, hus2, ⟨m4, hm4, hmx4⟩, hrest4, hsum4, hj2, rfl⟩ E2
      have hI2F4 := hnF4 I2 (.inr (.inr (.inr rfl)))
      by_cases hjl2 : j2 < us1.length
      · refine W2.item j2 _ _ _ hjl2 hst24 fun u a5 t5 hPu hst25 hk5 => ?_
        have x5 : Ext F s.heap F4 a5 := x4.but (offI2 hk5) hI2s hI2F4
        obtain ⟨e1, he1, hu⟩ := hP2 j2 u hPu
        have hu' := hu.mono mono4
        have hdrop2 : us1.drop j2 = e1 :: us1.drop (j2 + 1) := by
          obtain ⟨hlt, e⟩ := List.getElem?_eq_some_iff.mp he1
          rw [← e]; exact List.drop_eq_getElem_cons hlt
        rw [hdrop2] at hrest4
        obtain ⟨b, bs, hb, hr, rfl⟩ := mapL_cons hrest4
        have hm5 : a5.Ns C m4 := hm4.at' fun o e => offI2 hk5 _ o hCI2 e
        have hCF4 := hnF4 C (.inl rfl)
        refine wpAny_assign_Name (wpAny_storeName_local hky hm5 (fun a6 hn6 hs6 => ?_) (by rw [hkind]; rfl))
        have hs6 : Heap.SameBut C a5 a6 := hs6
        have hn6 : a6.Ns C (fun q => if q = y then some u else m4 q) := hn6
        have x6 : Ext F s.heap F4 a6 := x5.but hs6.extBut hC0 hCF4
        have slx6 : Slot (compEnvC csc cells C env) a6 x v := .inl ⟨hkx, _, hn6, by simp only [if_neg hxy]; exact hmx4⟩
        have sly6 : Slot (compEnvC csc cells C env) a6 y u := .inl ⟨hky, _, hn6, by simp⟩
        have R6 := (comp_ER hER hf hn hfree hcell x6 slx6 (hv'.mono fun b o e => mono4 b o (x₃.mono b o e)) hxl).bind sly6 hu'
        have hD6 : a6.get? D = some (plainL its n2) := hs6.extBut D _ hDC (offI2 hk5 D _ hDI2 hD4)
        have hst26 : St2 (j2 + 1) a6 := W2.frame _ _ _ hst25 fun b hb o e => hs6.extBut b o (fun q => hC2 (q ▸ hb)) e
        have hfp6 : ∀ b ∈ fp, ∀ o, a₃.get? b = some o → a6.get? b = some o := fun b hb o e => hs6.extBut b o (fun q => hCf (q ▸ hb)) (offI2 hk5 b o (fun q => hI2fp (q ▸ hb)) (hfp4 b hb o e))
        have ex6 : ∀ b, b = C ∨ b = D ∨ b = I ∨ b = I2 → ∃ o, a6.get? b = some o := fun b hb => by
          rcases hb with rfl | rfl | rfl | rfl
          · obtain ⟨o, _, _, ho, _⟩ := hn6; exact ⟨o, ho⟩
          · exact ⟨_, hD6⟩
          · exact hSI _ _ (W.frame _ _ _ hst₃ hfp6)
          · exact hSI2 _ _ hst26
        have stay6 : ∀ {F7 a7}, Ext F4 a6 F7 a7 → ∀ b, b = C ∨ b = D ∨ b = I ∨ b = I2 → F7 b = none := fun {F7 a7} x7 b hb => by
          cases q : F7 b with
          | none => rfl
          | some o =>
            rcases x7.new b o q with q | q
            · rw [hnF4 b hb] at q; cases q
            · obtain ⟨o', e⟩ := ex6 b hb; rw [q] at e; cases e
        refine hi _ _ _ _ _ hb A _ F4 { s with heap := a6, toks := t5 + 1 } hA R6 _ _ fun yv a7 t7 F7 x7 _ vr => ?_
        have hsz : items.size = us.length := by have := hus.length; rwa [Array.length_toList] at this
        have hsz2 : its.size = us2.length := by have := hus2.length; rwa [Array.length_toList] at this
        have hle : us2.length + 1 ≤ ds.length := by
          have h1 := congrArg List.length hsum4
          have h2 := congrArg List.length hsum
          simp only [List.length_append, List.length_cons] at h1 h2
          omega
        refine wpAny_list_append_plain (s := { s with heap := a7, toks := t7 }) (items := its) ⟨n2, x7.keep _ _ hD6⟩ (fun a8 hD8 hs8 => ?_) (by rw [sizeLine_eq]; unfold lim at hds; omega)
        obtain ⟨n8, hD8⟩ := hD8
        have hDF7 := stay6 x7 D (.inr (.inl rfl))
        refine ⟨_, Nat.sub_lt_sub_left (by omega) (Nat.lt_succ_self j2), a8, t7, F7, its.push yv, n8, us2 ++ [b], bs, j2 + 1, rfl, (x6.trans x7).but hs8.extBut (h0 D (.inr (.inl rfl))) hDF7, fun b o e => x7.mono b o (mono4 b o e), stay6 x7,
          fun b hb o e => hs8.extBut b o (fun q => hDf (q ▸ hb)) (x7.keep b o (hfp6 b hb o e)),
          W2.frame _ _ _ hst26 fun b hb o e => hs8.extBut b o (fun q => hD2 (q ▸ hb)) (x7.keep b o e), hD8, (hus2.mono x7.mono).snoc (vr rfl), ⟨_, (hn6.keeps x7.keep).sameBut hs8 (Ne.symm hDC), by simp only [if_neg hxy]; exact hmx4⟩, hr, by rw [List.append_assoc]; exact hsum4, hjl2, rfl⟩
      · obtain rfl : j2 = us1.length := by omega
        refine W2.done _ _ _ hst24 fun a5 t5 hk5 => ?_
        rw [List.drop_length] at hrest4
        cases hrest4
        rw [List.append_nil] at hsum4
        subst hsum4
        have hfp5 : ∀ b ∈ fp, ∀ o, a₃.get? b = some o → a5.get? b = some o := fun b hb o e => offI2 hk5 b o (fun q => hI2fp (q ▸ hb)) (hfp4 b hb o e)
        refine hR' _ _ ⟨_, Nat.sub_lt_sub_left (by omega) (Nat.lt_succ_self j), a5, t5, F4, its, n2, us ++ ds1, ds2, j + 1, rfl, x4.but (offI2 hk5) hI2s hI2F4, fun b o e => mono4 b o (x₃.mono b o (mono b o e)), fun b hb => hnF4 b (by
            rcases hb with q | q | q
            · exact .inl q
            · exact .inr (.inl q)
            · exact .inr (.inr (.inl q))), W.frame _ _ _ hst₃ hfp5, offI2 hk5 D _ hDI2 hD4, hus2, ⟨m4, hm4.at' fun o e => offI2 hk5 _ o hCI2 e⟩, hrest2, by rw [List.append_assoc]; exact hsum, hjl, fun b hb => ?_, rfl⟩
        obtain ⟨o, ho⟩ := hfp3 b hb
        exact ⟨o, hfp5 b hb o ho⟩
    exact start_in (A := A) (loop _) (fun E => W2.self 0 _ _ _ st2 (loop _))
  · obtain rfl : j = vs.length := by omega
    refine W.done _ _ _ hst' fun a₁ t₁ hk₁ => ?_
    rw [List.drop_length] at hrest
    cases hrest
    rw [List.append_nil] at hsum
    subst hsum
    obtain ⟨m, hm⟩ := hC'
    exact hR a₁ t₁ F' items nn m (x'.but (offI hk₁) hI0 hIF) (hnF D (.inr (.inl rfl))) (hnF C (.inl rfl)) (offI hk₁ _ _ hDI hD') hus (hm.at' fun o e => offI hk₁ _ o hCI e)

theorem srcE_len {sc : Scope} {ρ : Rho} {wk : Bool} {e : Expr} {vs : List D} (h : srcE K i sc ρ wk e = .ok vs) : vs.length ≤ 2 * lim := by
  have go : ∀ d : D, srcD d = .ok vs → vs.length ≤ 2 * lim := fun d hd => by
    unfold srcD at hd
    split at hd
    · split at hd
      · cases hd; omega
      · cases hd
    · split at hd
      · cases hd; omega
      · cases hd
    · split at hd
      · split at hd
        · cases hd; rw [List.length_map]; omega
        · cases hd
      · cases hd
    · cases hd
  unfold srcE at h
  split at h
  · split at h
    · split at h
      · obtain ⟨as, ha, h2⟩ := Out.bind_ok h
        unfold rngD at h2
        split at h2
        · split at h2
          · rename_i hb
            have := inLim_ok hb
            cases h2; simp only [rangeL, List.length_map, List.length_range, lim]; omega
          · cases h2
        · split at h2
          · rename_i hb
            rw [Bool.and_eq_true] at hb
            have h1 := inLim_ok hb.1
            have h3 := inLim_ok hb.2
            cases h2; simp only [rangeL, List.length_map, List.length_range, lim]; omega
          · cases h2
        · split at h2
          · rename_i hb
            rw [Bool.and_eq_true, Bool.and_eq_true] at hb
            have h1 := inLim_ok hb.1.1
            have h3 := inLim_ok hb.1.2
            cases h2; simp only [rangeL, List.length_map, List.length_range, lim]; omega
          · cases h2
        · cases h2
      · cases h
    · obtain ⟨d, _, h2⟩ := Out.bind_ok h
      exact go d h2
  · cases h
  · obtain ⟨d, _, h2⟩ := Out.bind_ok h
    exact go d h2

theorem pushCells_size : ∀ (names : List (Str × NameKind)) (h : Heap), h.objs.size ≤ (pushCells h names).objs.size
  | [], h => Nat.le_refl _
  | (_, k) :: r, h => by
    unfold pushCells
    split
    · have := pushCells_size r (h.push { cls := .type "cell", data := .cell none })
      rw [Heap.size_push] at this; omega
    · exact pushCells_size r h

theorem comp_core1 (hi : SoundE K mg mb prog w i n) (ht : SoundT K mg mb prog w i n) {sc csc : Scope} {ρ : Rho} {elt it : Expr} {x : Str} {px : Pos} {ifs : List Expr} {pos p : Pos} {ds : List D} (h : compE K i sc ρ elt [⟨.Name x px, it, ifs, 0⟩] csc = .ok ds)
    {A : Around} {env : Env} {F : Fz} {s : Shared} {use : Option (Value → Sem Unit)} {Q E : Value → Shared → Prop} (hA : AOk A n) (R : ER K mg mb sc env F ρ s.heap)
    (hRR : ∀ D C h' tk F' items k m', Ext F s.heap F' h' → F' D = none → s.heap.get? D = none → h'.get? D = some (plainL items k) → VRs F' items.toList ds → h'.Ns C m' → F' C = none → s.heap.get? C = none → D ≠ C →
      compPost (model prog w) A E use Q (.ref D) C (.ok .next) { s with heap := h', toks := tk }) :
    wpAny (model prog w) A (comprehension (.ListComp elt [⟨.Name x px, it, ifs, 0⟩] csc pos) csc env p (newList []) (firstAsync [⟨.Name x px, it, ifs, 0⟩]) (firstIter [⟨.Name x px, it, ifs, 0⟩] env) use) Q E s := by
  unfold compE at h
  split at h
  case isFalse => cases h
  rename_i hok
  rw [Bool.and_eq_true] at hok
  obtain ⟨hf, hn⟩ := hok
  change (if localOrCell csc x = true then _ else Out.bad : Out (List D)) = _ at h
  split at h
  case isFalse => cases h
  rename_i hx
  obtain ⟨vs, hvs, hres⟩ := Out.bind_ok h
  obtain ⟨hsrc, hfold⟩ := src_ok hi hvs hA R
  have hlen := srcE_len hvs
  have hn' := hn
  unfold namesOk at hn'
  rw [Bool.and_eq_true] at hn'
  have hkind : csc.kind = .function := by simpa using hn'.1
  have hname : ∀ q ∈ csc.names, csc.names.lookup q.1 = some q.2 := fun q hq => by simpa using List.all_eq_true.mp hn'.2 q hq
  have hcl : ∀ q ∈ csc.names, q.2 = .free → ∃ c, env.cells.lookup q.1 = some c := fun q hq hqf => by
    unfold freeOk at hf
    have := List.all_eq_true.mp hf q hq
    rw [hqf] at this
    simp only [bne_self_eq_false, Bool.false_or, Bool.or_eq_true, beq_iff_eq] at this
    exact R.cells _ this
  refine wpAny_comprehension_free (cl := cloF env csc.names []) rfl (hfold ·) (closureFor_eq hcl) hkind (fun q hq hql => by rw [hname q hq, hql]) ?_
  refine hsrc _ _ fun I fp wr P St a₁ t₁ F₁ x₁ W st hfp hwr hIF hI0 hSI hfpx hP => ?_
  refine wpAny_newObj_type ?_
  refine newFunctionEnv_comp ?_
  dsimp only
  have hD0 : a₁.get? a₁.objs.size = none := none_size _
  generalize hH2 : a₁.push { cls := .type "list", dict := none, data := .seq ([] : List Value).toArray } = H2
  have hC : H2.objs.size = a₁.objs.size + 1 := by rw [← hH2, Heap.size_push]
  generalize hH3 : H2.push { cls := .type "dict", data := .dict #[] } = H3
  have hC3 : H3.objs.size = a₁.objs.size + 2 := by rw [← hH3, Heap.size_push, hC]
  have up2 : ∀ b o, a₁.get? b = some o → H2.get? b = some o := fun b o e => hH2 ▸ Heap.get?_push_of_some _ e
  have up3 : ∀ b o, H2.get? b = some o → (pushCells H3 csc.names).get? b = some o := fun b o e => pushCells_keeps _ _ b o (hH3 ▸ Heap.get?_push_of_some _ e)
  have hCn : a₁.get? H2.objs.size = none := by rw [hC]; exact Heap.get?_none_of_le (Nat.le_succ _)
  have hIlt : I < a₁.objs.size := by obtain ⟨o, e⟩ := hSI _ _ st; exact Heap.lt_size e
  -- the cells
  have hother : ∀ y c, csc.names.lookup y = some .free → env.cells.lookup y = some c → (cellsFrom (H2.objs.size + 1) csc.names (cloF env csc.names [])).lookup y = some c := fun y c hy hc => by
    rw [cellsFrom_other fun q hq hqc hqy => ?_]
    · exact cloF_free (mem_of_lookup hy) hc
    · have := hname q hq
      rw [hqy, hy, hqc] at this
      cases this
  have hmem : ∀ y, csc.names.lookup y = some .cell → ∃ c, (cellsFrom (H2.objs.size + 1) csc.names (cloF env csc.names [])).lookup y = some c ∧ (pushCells H3 csc.names).IsCell c none ∧ H2.objs.size + 1 ≤ c := fun y hy => by
    have e3 : H3.objs.size = H2.objs.size + 1 := by rw [hC3, hC]
    have := cellsFrom_mem (h := H3) (acc := cloF env csc.names []) (lo := H3.objs.size) (Nat.le_refl _) (.inl (mem_of_lookup hy))
    rwa [e3] at this
  -- where x is stored
  obtain ⟨pl, hpl, hple⟩ : ∃ pl, Place (compEnvC csc (cellsFrom (H2.objs.size + 1) csc.names (cloF env csc.names [])) H2.objs.size env) (pushCells H3 csc.names) x pl ∧ H2.objs.size ≤ pl := by
    unfold localOrCell at hx
    rw [Bool.or_eq_true] at hx
    rcases hx with hx | hx
    · replace hx : csc.names.lookup x = some .local := by simpa using hx
      refine ⟨H2.objs.size, .inl ⟨lookup_relabel_local hx, rfl, fun _ => none, ?_⟩, Nat.le_refl _⟩
      exact (hH3 ▸ Heap.Ns.new H2 (.type "dict") : H3.Ns H2.objs.size _).keeps fun b o e => pushCells_keeps _ _ b o e
    · replace hx : csc.names.lookup x = some .cell := by simpa using hx
      obtain ⟨c, hc, hcell, hlo⟩ := hmem x hx
      refine ⟨c, .inr ⟨?_, hc, _, hcell⟩, Nat.le_of_succ_le hlo⟩
      rcases cenv_kinds (scope := csc) (cl := cellsFrom (H2.objs.size + 1) csc.names (cloF env csc.names [])) (C := H2.objs.size) (env := env) x with q | q
      · rw [q]; exact hx
      · exact q.2
  have xH : Ext F s.heap F₁ (pushCells H3 csc.names) := x₁.trans (Ext.of_keep x₁.fin fun b o e => up3 b o (up2 b o e))
  have nn : ∀ b, a₁.objs.size ≤ b → a₁.get? b = none := fun b hb => Heap.get?_none_of_le hb
  have all0 : ∀ b, b = H2.objs.size ∨ b = a₁.objs.size ∨ b = I ∨ b = pl → s.heap.get? b = none ∧ F₁ b = none := fun b hb => by
    have big : ∀ b, a₁.objs.size ≤ b → s.heap.get? b = none ∧ F₁ b = none := fun b hb => ⟨none_back x₁.keep (nn b hb), fresh_F x₁.fin (nn b hb)⟩
    rcases hb with rfl | rfl | rfl | rfl
    · exact big _ (by omega)
    · exact big _ (Nat.le_refl _)
    · exact ⟨hI0, hIF⟩
    · exact big _ (by omega)
  have loop : ∀ tk, codeAny (model prog w) A (.compLoop (.ListComp elt [⟨.Name x px, it, ifs, 0⟩] csc pos) 0 (.ref I) (.ref a₁.objs.size) (compEnvC csc (cellsFrom (H2.objs.size + 1) csc.names (cloF env csc.names [])) H2.objs.size env))
      (compPost (model prog w) A E use Q (.ref a₁.objs.size) H2.objs.size) { s with heap := pushCells H3 csc.names, toks := tk } := fun tk => by
    refine comp_loop hi ht hres (F₁ := F₁) (C := H2.objs.size) (pl := pl) hA R hf hn hx hother (fun y hy => (hmem y hy).imp fun c hc => hc.1) W hwr hlen (fun q => ?_) (fun q => ?_) ?_ ?_ ?_ ?_ ?_ (fun b hb => (all0 b hb).1) xH (fun b hb => (all0 b hb).2) hSI ?_ ?_ hpl ?_ hP ?_
    · exact Nat.lt_irrefl _ (hfp _ q)
    · have := hfp _ q; exact Nat.lt_irrefl _ (Nat.lt_of_lt_of_le this (Nat.le_trans (by rw [hC]; exact Nat.le_succ _) hple))
    · exact (Nat.ne_of_lt hIlt).symm
    · exact Nat.ne_of_lt (Nat.lt_of_lt_of_le (by rw [hC]; exact Nat.lt_succ_self _) hple)
    · exact Nat.ne_of_lt (by rw [hC]; exact Nat.lt_succ_self _)
    · exact (Nat.ne_of_lt (Nat.lt_of_lt_of_le hIlt (by rw [hC]; exact Nat.le_succ _))).symm
    · exact (Nat.ne_of_lt (Nat.lt_of_lt_of_le hIlt (Nat.le_trans (by rw [hC]; exact Nat.le_succ _) hple))).symm
    · exact W.frame _ _ _ st fun b _ o e => up3 b o (up2 b o e)
    · exact up3 _ _ (hH2 ▸ Heap.get?_push_size _ rfl)
    · exact ⟨_, (hH3 ▸ Heap.Ns.new H2 (.type "dict") : H3.Ns H2.objs.size _).keeps fun b o e => pushCells_keeps _ _ b o e⟩
    · intro a₂ t₂ F₂ items k m x₂ hD hCC hDo hit hm
      exact hRR _ _ _ _ _ _ _ _ x₂ hD (all0 _ (.inr (.inl rfl))).1 hDo hit hm hCC (all0 _ (.inl rfl)).1 (Nat.ne_of_lt (by rw [hC]; exact Nat.lt_succ_self _))
  have st3 : St 0 (pushCells H3 csc.names) := W.frame _ _ _ st fun b _ o e => up3 b o (up2 b o e)
  exact codeAny_compStart_list (loop _) (W.self 0 _ _ _ st3 (loop _))
theorem comp_core2 (hi : SoundE K mg mb prog w i n) (ht : SoundT K mg mb prog w i n) {sc csc : Scope} {ρ : Rho} {elt it : Expr} {x y z : Str} {px py pz : Pos} {pos p : Pos} {ds : List D} (h : compE K i sc ρ elt [⟨.Name x px, it, [], 0⟩, ⟨.Name y py, .Name z pz, [], 0⟩] csc = .ok ds)
    {A : Around} {env : Env} {F : Fz} {s : Shared} {use : Option (Value → Sem Unit)} {Q E : Value → Shared → Prop} (hA : AOk A n) (R : ER K mg mb sc env F ρ s.heap)
    (hRR : ∀ D C h' tk F' items k m', Ext F s.heap F' h' → F' D = none → s.heap.get? D = none → h'.get? D = some (plainL items k) → VRs F' items.toList ds → h'.Ns C m' → F' C = none → s.heap.get? C = none → D ≠ C →
      compPost (model prog w) A E use Q (.ref D) C (.ok .next) { s with heap := h', toks := tk }) :
    wpAny (model prog w) A (comprehension (.ListComp elt [⟨.Name x px, it, [], 0⟩, ⟨.Name y py, .Name z pz, [], 0⟩] csc pos) csc env p (newList []) (firstAsync [⟨.Name x px, it, [], 0⟩, ⟨.Name y py, .Name z pz, [], 0⟩]) (firstIter [⟨.Name x px, it, [], 0⟩, ⟨.Name y py, .Name z pz, [], 0⟩] env) use) Q E s := by
  unfold compE at h
  split at h
  case isFalse => cases h
  rename_i hok
  rw [Bool.and_eq_true] at hok
  obtain ⟨hf, hn⟩ := hok
  change (if (csc.names.lookup x == some .local && csc.names.lookup y == some .local && x != y) = true then _ else Out.bad : Out (List D)) = _ at h
  split at h
  case isFalse => cases h
  rename_i hxy
  rw [Bool.and_eq_true, Bool.and_eq_true, beq_iff_eq, beq_iff_eq, bne_iff_ne] at hxy
  obtain ⟨vs, hvs, hres0⟩ := Out.bind_ok h
  obtain ⟨ds0, hres, hres1⟩ := Out.bind_ok hres0
  split at hres1
  case isFalse => cases hres1
  rename_i hlim
  cases hres1
  obtain ⟨hsrc, hfold⟩ := src_ok hi hvs hA R
  have hlen := srcE_len hvs
  have hn' := hn
  unfold namesOk at hn'
  rw [Bool.and_eq_true] at hn'
  have hkind : csc.kind = .function := by simpa using hn'.1
  have hname : ∀ q ∈ csc.names, csc.names.lookup q.1 = some q.2 := fun q hq => by simpa using List.all_eq_true.mp hn'.2 q hq
  have hcl : ∀ q ∈ csc.names, q.2 = .free → ∃ c, env.cells.lookup q.1 = some c := fun q hq hqf => by
    unfold freeOk at hf
    have := List.all_eq_true.mp hf q hq
    rw [hqf] at this
    simp only [bne_self_eq_false, Bool.false_or, Bool.or_eq_true, beq_iff_eq] at this
    exact R.cells _ this
  refine wpAny_comprehension_free (cl := cloF env csc.names []) rfl (hfold ·) (closureFor_eq hcl) hkind (fun q hq hql => by rw [hname q hq, hql]) ?_
  refine hsrc _ _ fun I fp wr P St a₁ t₁ F₁ x₁ W st hfp hwr hIF hI0 hSI hfpx hP => ?_
  refine wpAny_newObj_type ?_
  refine newFunctionEnv_comp ?_
  dsimp only
  have hD0 : a₁.get? a₁.objs.size = none := none_size _
  generalize hH2 : a₁.push { cls := .type "list", dict := none, data := .seq ([] : List Value).toArray } = H2
  have hC : H2.objs.size = a₁.objs.size + 1 := by rw [← hH2, Heap.size_push]
  generalize hH3 : H2.push { cls := .type "dict", data := .dict #[] } = H3
  have hC3 : H3.objs.size = a₁.objs.size + 2 := by rw [← hH3, Heap.size_push, hC]
  have up2 : ∀ b o, a₁.get? b = some o → H2.get? b = some o := fun b o e => hH2 ▸ Heap.get?_push_of_some _ e
  have up3 : ∀ b o, H2.get? b = some o → (pushCells H3 csc.names).get? b = some o := fun b o e => pushCells_keeps _ _ b o (hH3 ▸ Heap.get?_push_of_some _ e)
  have hCn : a₁.get? H2.objs.size = none := by rw [hC]; exact Heap.get?_none_of_le (Nat.le_succ _)
  have hIlt : I < a₁.objs.size := by obtain ⟨o, e⟩ := hSI _ _ st; exact Heap.lt_size e
  -- the cells
  have hother : ∀ y c, csc.names.lookup y = some .free → env.cells.lookup y = some c → (cellsFrom (H2.objs.size + 1) csc.names (cloF env csc.names [])).lookup y = some c := fun y c hy hc => by
    rw [cellsFrom_other fun q hq hqc hqy => ?_]
    · exact cloF_free (mem_of_lookup hy) hc
    · have := hname q hq
      rw [hqy, hy, hqc] at this
      cases this
  have hmem : ∀ y, csc.names.lookup y = some .cell → ∃ c, (cellsFrom (H2.objs.size + 1) csc.names (cloF env csc.names [])).lookup y = some c ∧ (pushCells H3 csc.names).IsCell c none ∧ H2.objs.size + 1 ≤ c := fun y hy => by
    have e3 : H3.objs.size = H2.objs.size + 1 := by rw [hC3, hC]
    have := cellsFrom_mem (h := H3) (acc := cloF env csc.names []) (lo := H3.objs.size) (Nat.le_refl _) (.inl (mem_of_lookup hy))
    rwa [e3] at this
  have xH : Ext F s.heap F₁ (pushCells H3 csc.names) := x₁.trans (Ext.of_keep x₁.fin fun b o e => up3 b o (up2 b o e))
  have nn : ∀ b, a₁.objs.size ≤ b → a₁.get? b = none := fun b hb => Heap.get?_none_of_le hb
  have all0 : ∀ b, b = H2.objs.size ∨ b = a₁.objs.size ∨ b = I → s.heap.get? b = none ∧ F₁ b = none := fun b hb => by
    have big : ∀ b, a₁.objs.size ≤ b → s.heap.get? b = none ∧ F₁ b = none := fun b hb => ⟨none_back x₁.keep (nn b hb), fresh_F x₁.fin (nn b hb)⟩
    rcases hb with rfl | rfl | rfl
    · exact big _ (by omega)
    · exact big _ (Nat.le_refl _)
    · exact ⟨hI0, hIF⟩
  have loop : ∀ tk, codeAny (model prog w) A (.compLoop (.ListComp elt [⟨.Name x px, it, [], 0⟩, ⟨.Name y py, .Name z pz, [], 0⟩] csc pos) 0 (.ref I) (.ref a₁.objs.size) (compEnvC csc (cellsFrom (H2.objs.size + 1) csc.names (cloF env csc.names [])) H2.objs.size env))
      (compPost (model prog w) A E use Q (.ref a₁.objs.size) H2.objs.size) { s with heap := pushCells H3 csc.names, toks := tk } := fun tk => by
    refine comp_loop2 hi hres hlim (F₁ := F₁) (C := H2.objs.size) hA R hf hn hxy.1.1 hxy.1.2 hxy.2 hother (fun y hy => (hmem y hy).imp fun c hc => hc.1) W hwr (fun q => ?_) (fun q => ?_) ?_ ?_ ?_ (fun b hb => ?_) (fun b hb => (all0 b hb).1) xH (fun b hb => (all0 b hb).2) hSI ?_ ?_ ?_ hP ?_
    · exact Nat.lt_irrefl _ (hfp _ q)
    · have := hfp _ q; rw [hC] at this; exact absurd this (Nat.not_lt.mpr (Nat.le_succ _))
    · exact (Nat.ne_of_lt hIlt).symm
    · exact Nat.ne_of_lt (by rw [hC]; exact Nat.lt_succ_self _)
    · exact (Nat.ne_of_lt (Nat.lt_of_lt_of_le hIlt (by rw [hC]; exact Nat.le_succ _))).symm
    · have : ∃ o, a₁.get? b = some o := by
        rcases hfpx b hb with q | ⟨q, _⟩
        · rw [q]; exact hSI _ _ st
        · exact q
      exact this.imp fun o e => up3 b o (up2 b o e)
    · exact W.frame _ _ _ st fun b _ o e => up3 b o (up2 b o e)
    · exact up3 _ _ (hH2 ▸ Heap.get?_push_size _ rfl)
    · exact ⟨_, (hH3 ▸ Heap.Ns.new H2 (.type "dict") : H3.Ns H2.objs.size _).keeps fun b o e => pushCells_keeps _ _ b o e⟩
    · intro a₂ t₂ F₂ items k m x₂ hD hCC hDo hit hm
      exact hRR _ _ _ _ _ _ _ _ x₂ hD (all0 _ (.inr (.inl rfl))).1 hDo hit hm hCC (all0 _ (.inl rfl)).1 (Nat.ne_of_lt (by rw [hC]; exact Nat.lt_succ_self _))
  have st3 : St 0 (pushCells H3 csc.names) := W.frame _ _ _ st fun b _ o e => up3 b o (up2 b o e)
  exact codeAny_compStart_list (loop _) (W.self 0 _ _ _ st3 (loop _))

theorem comp_core (hi : SoundE K mg mb prog w i n) (ht : SoundT K mg mb prog w i n) {sc csc : Scope} {ρ : Rho} {elt : Expr} {gens : List Comprehension} {pos p : Pos} {ds : List D} (h : compE K i sc ρ elt gens csc = .ok ds)
    {A : Around} {env : Env} {F : Fz} {s : Shared} {use : Option (Value → Sem Unit)} {Q E : Value → Shared → Prop} (hA : AOk A n) (R : ER K mg mb sc env F ρ s.heap)
    (hRR : ∀ D C h' tk F' items k m', Ext F s.heap F' h' → F' D = none → s.heap.get? D = none → h'.get? D = some (plainL items k) → VRs F' items.toList ds → h'.Ns C m' → F' C = none → s.heap.get? C = none → D ≠ C →
      compPost (model prog w) A E use Q (.ref D) C (.ok .next) { s with heap := h', toks := tk }) :
    wpAny (model prog w) A (comprehension (.ListComp elt gens csc pos) csc env p (newList []) (firstAsync gens) (firstIter gens env) use) Q E s := by
  have h' := h
  unfold compE at h
  split at h
  case isFalse => cases h
  split at h
  case h_1 => exact comp_core1 hi ht h' hA R hRR
  case h_2 => exact comp_core2 hi ht h' hA R hRR
  case h_3 => cases h
end
end Mine

/-! St1 -/
namespace Mine

theorem seqIndex_cases {k : Int} {n j : Nat} (h : seqIndex? k n = some j) : (0 ≤ k ∧ k < n ∧ j = k.toNat) ∨ (k < 0 ∧ 0 ≤ k + n ∧ j = (k + n).toNat) := by
  unfold seqIndex? at h
  by_cases hk : k < 0
  · simp only [if_pos hk] at h
    split at h
    · rename_i hc
      rw [Bool.and_eq_true, decide_eq_true_eq, decide_eq_true_eq] at hc
      cases h
      exact .inr ⟨hk, hc.1, rfl⟩
    · cases h
  · simp only [if_neg hk] at h
    split at h
    · rename_i hc
      rw [Bool.and_eq_true, decide_eq_true_eq, decide_eq_true_eq] at hc
      cases h
      exact .inl ⟨hc.1, hc.2, rfl⟩
    · cases h

section
variable {prog : Program} {w : World} {A : Around} {E : Value → Shared → Prop} {s : Shared}
theorem set_ok {l : Addr} {items : Array Value} {n : Nat} {k : Int} {t : Tok} {v : Value} {j : Nat} {Q : Unit → Shared → Prop} (ho : s.heap.get? l = some (plainL items n)) (hj : seqIndex? k items.size = some j) (hm : items.size ≤ lim)
    (hQ : ∀ h' n', h'.get? l = some (plainL (items.setIfInBounds j v) n') → Heap.SameBut l s.heap h' → Q () { s with heap := h' }) :
    wpAny (model prog w) A (setItem (.ref l) (.int k t) v) Q E s := by
  have hl : s.heap.IsList l items := isList_of ho
  have hj' := seqIndex_cases hj
  unfold lim at hm
  have hfit : Builtin.List.listFitsIndex k = true := by
    unfold Builtin.List.listFitsIndex
    simp only [Bool.and_eq_true, decide_eq_true_eq]
    omega
  have hjl : j < items.size := by omega
  have hx' : items[j]? = some items[j] := Array.getElem?_eq_getElem hjl
  have hfin : ∃ n', (s.heap.update l (Obj.mapSeq (·.setIfInBounds j v))).get? l = some (plainL (items.setIfInBounds j v) n') := by
    have e : Obj.mapSeq (·.setIfInBounds j v) (plainL items n) = plainL (items.setIfInBounds j v) n ∨ ∃ n', Obj.mapSeq (·.setIfInBounds j v) (plainL items n) = plainL (items.setIfInBounds j v) n' := by
      right
      exact ⟨_, by simp only [Obj.mapSeq, plainL]; rfl⟩
    obtain ⟨n', e⟩ : ∃ n', Obj.mapSeq (·.setIfInBounds j v) (plainL items n) = plainL (items.setIfInBounds j v) n' := e.elim (fun q => ⟨n, q⟩) id
    refine ⟨n', ?_⟩
    rw [Heap.get?_update_self _ ho (by rw [e]; rfl), e]
  obtain ⟨n', hfin⟩ := hfin
  unfold setItem
  try with_reducible refine wpAny_holding ?_
  first | refine wpAny_bind (wpAny_pure ?_) | skip
  refine wpAny_bind (wpAny_sequenceKey hl.typeIs (by decide) ?_)
  refine wpAny_bind (wpAny_callSpecial?_slot (name := Str.ofString "__setitem__") hl.typeIs slot_list_setitem
    (wpAny_call_entry slot_list_setitem hl.typeIs entry_list_setitem ?_ (args_list_setitem _ _ _)))
  show wpAny _ _ (Builtin.List.listSubscript? (.int k t) >>= _) _ _ s
  refine wpAny_bind (wpAny_listSubscript_int hfit ?_)
  clear hfit
  cases k with
  | ofNat m =>
    have hmj : m = j := by
      rcases hj' with ⟨_, _, q⟩ | ⟨q, _⟩
      · rw [q]; rfl
      · exact absurd q (by simp)
    subst hmj
    show wpAny _ _ ((seqItemAt l m >>= fun r => pure (r.map (m, ·))) >>= _) _ _ s
    refine wpAny_bind (wpAny_bind (wpAny_seqItemAt ho rfl (wpAny_pure ?_)))
    rw [hx']
    show wpAny _ _ (setSeqItemAt l m v >>= _) _ _ s
    refine wpAny_bind (wpAny_setSeqItemAt ho rfl ?_)
    first
      | exact wpAny_bind (wpAny_pure (wpAny_pure ⟨.none, rfl, wpAny_pure (hQ _ _ hfin (Heap.SameBut.update ..))⟩))
      | exact wpAny_pure ⟨.none, rfl, wpAny_pure (hQ _ _ hfin (Heap.SameBut.update ..))⟩
  | negSucc m =>
    show wpAny _ _ ((Builtin.List.listItems (.ref l) >>= fun xs => pure ((seqIndex? (Int.negSucc m) xs.size).bind fun i => xs[i]?.map (i, ·))) >>= _) _ _ s
    refine wpAny_bind (wpAny_bind ?_)
    show wpAny _ _ (seqItems? (.ref l) >>= _) _ _ s
    refine wpAny_bind (wpAny_seqItems ho rfl (wpAny_pure (wpAny_pure ?_)))
    rw [hj]
    simp only [Option.bind_some, hx', Option.map_some]
    show wpAny _ _ (setSeqItemAt l j v >>= _) _ _ s
    refine wpAny_bind (wpAny_setSeqItemAt ho rfl ?_)
    first
      | exact wpAny_bind (wpAny_pure (wpAny_pure ⟨.none, rfl, wpAny_pure (hQ _ _ hfin (Heap.SameBut.update ..))⟩))
      | exact wpAny_pure ⟨.none, rfl, wpAny_pure (hQ _ _ hfin (Heap.SameBut.update ..))⟩
end
end Mine

/-! St2 -/
namespace Mine

/-- an address that this frame alone writes to -/
structure Priv (h0 : Heap) (F : Fz) (RS : Addr → Prop) (a : Addr) : Prop where
  old : h0.get? a = none
  frz : F a = none
  res : ¬ RS a

/-- a frame's state -/
structure FR (K : Frag) (mg mb : Str → Option Value) (sc : Scope) (env : Env) (h0 : Heap) (RS : Addr → Prop) (F : Fz) (ρ : Rho) (val : Str → Option Value) (h : Heap) : Prop where
  glb : Glb K mg mb h
  kf : KF K F
  fin : ∀ b o, F b = some o → h.get? b = some o
  kind : env.scope.kind = .function
  gl : env.globals = mainGlobals
  bu : env.builtins = builtinsNs
  kinds : ∀ x, env.kindOf x = sc.names.lookup x
  nofree : ∀ x, sc.names.lookup x ≠ some .free
  keep : ∀ b o, h0.get? b = some o → h.get? b = some o
  ns : ∃ m, h.Ns env.locals m ∧ ∀ x, sc.names.lookup x = some .local → m x = val x
  privL : Priv h0 F RS env.locals
  cells : ∀ x, sc.names.lookup x = some .cell → ∃ c, env.cells.lookup x = some c ∧ h.IsCell c (val x) ∧ Priv h0 F RS c
  inj : ∀ x y c, env.cells.lookup x = some c → env.cells.lookup y = some c → x = y
  dom : ∀ x p, ρ x = some p → localOrCell sc x = true
  vars : ∀ x d, ρ x = some (false, d) → ∃ v, val x = some v ∧ VR F v d
  own : ∀ x d, ρ x = some (true, d) → ∃ a o, val x = some (.ref a) ∧ h.get? a = some o ∧ OwnO F a o d ∧ a ≠ env.locals ∧ Priv h0 F RS a
  sep : ∀ x y dx dy v, ρ x = some (true, dx) → ρ y = some (true, dy) → val x = some v → val y = some v → x = y
  res : ∀ b, RS b → F b = none ∧ h0.get? b = none ∧ ∃ o, h.get? b = some o

section
variable {K : Frag} {mg mb : Str → Option Value} {sc : Scope} {env : Env} {h0 : Heap} {RS : Addr → Prop} {F : Fz} {ρ : Rho} {val : Str → Option Value} {h : Heap}

theorem localOrCell_iff {x : Str} : localOrCell sc x = true ↔ sc.names.lookup x = some .local ∨ sc.names.lookup x = some .cell := by
  unfold localOrCell; rw [Bool.or_eq_true, beq_iff_eq, beq_iff_eq]

theorem FR.slot (R : FR K mg mb sc env h0 RS F ρ val h) {x : Str} {v : Value} (hx : localOrCell sc x = true) (hv : val x = some v) : Slot env h x v := by
  rcases localOrCell_iff.mp hx with q | q
  · obtain ⟨m, hm, e⟩ := R.ns
    exact .inl ⟨by rw [R.kinds, q], m, hm, by rw [e x q, hv]⟩
  · obtain ⟨c, hc, hcell, _⟩ := R.cells x q
    exact .inr ⟨.inl (by rw [R.kinds, q]), c, hc, hv ▸ hcell⟩

theorem FR.er (R : FR K mg mb sc env h0 RS F ρ val h) : ER K mg mb sc env F ρ h :=
  ⟨R.glb, R.kf, R.fin, R.kind, R.gl, R.bu, fun x => .inl (R.kinds x), fun x hx => by
      rcases hx with q | q
      · obtain ⟨c, hc, _⟩ := R.cells x q; exact ⟨c, hc⟩
      · exact absurd q (R.nofree x),
    fun x o d hx hv => by
      have hd := R.dom x _ hx
      cases o with
      | false =>
        obtain ⟨v, hv, r⟩ := R.vars x d hx
        exact ⟨v, R.slot hd hv, .frz r, fun _ => r⟩
      | true =>
        obtain ⟨a, o, hv, ha, r, _, p⟩ := R.own x d hx
        exact ⟨_, R.slot hd hv, r.vw ha, fun q => by cases q⟩⟩

/-- an own list -/
theorem FR.ownL (R : FR K mg mb sc env h0 RS F ρ val h) {x : Str} {xs : List D} (hx : ρ x = some (true, .list xs)) : ∃ a items n, val x = some (.ref a) ∧ h.get? a = some (plainL items n) ∧ VRs F items.toList xs ∧ Priv h0 F RS a := by
  obtain ⟨a, o, hv, ha, r, _, p⟩ := R.own x _ hx
  rcases r with ⟨items, n, xs', rfl, e, r⟩ | ⟨es, n, rows, _, _, e, _⟩
  · cases e
    exact ⟨a, items, n, hv, ha, r, p⟩
  · unfold dictD at e; cases e
/-- an own dictionary -/
theorem FR.ownT (R : FR K mg mb sc env h0 RS F ρ val h) {x : Str} {rows : List (List Int)} (hx : ρ x = some (true, dictD rows)) : ∃ a o es n, val x = some (.ref a) ∧ h.get? a = some o ∧ o.ExactDict ∧ o.data = .dict es n ∧ DEnts F a es rows ∧ a ≠ env.locals ∧ Priv h0 F RS a := by
  obtain ⟨a, o, hv, ha, r, nl, p⟩ := R.own x _ hx
  rcases r with ⟨items, n, xs', rfl, e, r⟩ | ⟨es, n, rows', c, d, e, r⟩
  · unfold dictD at e; cases e
  · have := dictD_inj e
    subst this
    exact ⟨a, o, es, n, hv, ha, c, d, r, nl, p⟩
theorem OwnO.notCell {F : Fz} {a : Addr} {o : Obj} {d : D} (x : OwnO F a o d) (v : Option Value) : o.data ≠ .cell v := by
  rcases x with ⟨items, n, xs', rfl, e, r⟩ | ⟨es, n, rows', c, e, _, r⟩
  · intro q; cases q
  · rw [e]; intro q; cases q

theorem FR.exL (R : FR K mg mb sc env h0 RS F ρ val h) : ∃ o, h.get? env.locals = some o := by
  obtain ⟨m, ⟨o, _, _, ho, _⟩, _⟩ := R.ns; exact ⟨o, ho⟩

theorem Priv.ext {a : Addr} {F' : Fz} {h' : Heap} (p : Priv h0 F RS a) (x : Ext F h F' h') (ha : ∃ o, h.get? a = some o) : Priv h0 F' RS a :=
  ⟨p.old, (by
    cases q : F' a with
    | none => rfl
    | some o =>
      rcases x.new _ _ q with q | q
      · rw [p.frz] at q; cases q
      · obtain ⟨o', e⟩ := ha; rw [q] at e; cases e), p.res⟩

theorem FR.ext (R : FR K mg mb sc env h0 RS F ρ val h) {F' : Fz} {h' : Heap} (x : Ext F h F' h') : FR K mg mb sc env h0 RS F' ρ val h' :=
  ⟨R.glb.keeps x.keep, fun a o k c => x.mono _ _ (R.kf a o k c), x.fin, R.kind, R.gl, R.bu, R.kinds, R.nofree, fun b o e => x.keep _ _ (R.keep b o e),
    (by obtain ⟨m, hm, e⟩ := R.ns; exact ⟨m, hm.keeps x.keep, e⟩), R.privL.ext x R.exL,
    fun y hy => by obtain ⟨c, hc, hcell, p⟩ := R.cells y hy; exact ⟨c, hc, hcell.keeps x.keep, p.ext x (by obtain ⟨o, ho, _⟩ := hcell; exact ⟨o, ho⟩)⟩,
    R.inj, R.dom, fun y d hy => by obtain ⟨v, hv, r⟩ := R.vars y d hy; exact ⟨v, hv, r.mono x.mono⟩,
    fun y d hy => by obtain ⟨a, o, hv, ha, r, nl, p⟩ := R.own y d hy; exact ⟨a, o, hv, x.keep _ _ ha, r.mono x.mono, nl, p.ext x ⟨_, ha⟩⟩,
    R.sep, fun b hb => by
      obtain ⟨h1, h2, h3⟩ := R.res b hb
      refine ⟨?_, h2, h3.imp fun o e => x.keep _ _ e⟩
      cases q : F' b with
      | none => rfl
      | some o =>
        rcases x.new _ _ q with q | q
        · rw [h1] at q; cases q
        · obtain ⟨o', e⟩ := h3; rw [q] at e; cases e⟩

/-- more is frozen: nothing that stood when the frame began -/
structure Grow (h0 : Heap) (F F' : Fz) : Prop where
  mono : ∀ b o, F b = some o → F' b = some o
  new : ∀ b o, F' b = some o → F b = some o ∨ h0.get? b = none
theorem Grow.refl (h0 : Heap) (F : Fz) : Grow h0 F F := ⟨fun _ _ e => e, fun _ _ e => .inl e⟩
theorem Grow.trans {F F' F'' : Fz} (a : Grow h0 F F') (b : Grow h0 F' F'') : Grow h0 F F'' :=
  ⟨fun x o e => b.mono x o (a.mono x o e), fun x o e => (b.new x o e).elim (fun q => a.new x o q) .inr⟩
theorem FR.grow (R : FR K mg mb sc env h0 RS F ρ val h) {F' : Fz} {h' : Heap} (x : Ext F h F' h') : Grow h0 F F' :=
  ⟨x.mono, fun b o e => (x.new b o e).imp id (none_back R.keep)⟩

open Classical in
/-- the names' lists, now frozen -/
noncomputable def frzF (F : Fz) (ρ : Rho) (val : Str → Option Value) (h : Heap) (xs : List Str) : Fz :=
  fun b => if ∃ x d, x ∈ xs ∧ ρ x = some (true, d) ∧ val x = some (.ref b) then h.get? b else F b

theorem frz_some {xs : List Str} {x : Str} {o : Bool} {d : D} (hx : frz ρ xs x = some (o, d)) : (x ∉ xs ∧ ρ x = some (o, d)) ∨ (x ∈ xs ∧ o = false ∧ ∃ o', ρ x = some (o', d)) := by
  cases xs with
  | nil => exact .inl ⟨by simp, hx⟩
  | cons y r =>
    unfold frz at hx
    dsimp only at hx
    split at hx
    · rename_i hc
      rw [Option.map_eq_some_iff] at hx
      obtain ⟨⟨o', d'⟩, h1, h2⟩ := hx
      cases h2
      exact .inr ⟨by simpa using hc, rfl, o', h1⟩
    · rename_i hc
      exact .inl ⟨by simpa using hc, hx⟩

theorem FR.frz (R : FR K mg mb sc env h0 RS F ρ val h) (xs : List Str) : Grow h0 F (frzF F ρ val h xs) ∧ FR K mg mb sc env h0 RS (frzF F ρ val h xs) (Mine.frz ρ xs) val h := by
  have mono : ∀ b o, F b = some o → frzF F ρ val h xs b = some o := fun b o e => by
    unfold frzF
    split
    · exact R.fin _ _ e
    · exact e
  have notown : ∀ {b : Addr}, (∀ x d a, ρ x = some (true, d) → val x = some (.ref a) → a ≠ b) → F b = none → frzF F ρ val h xs b = none := fun {b} hb hF => by
    unfold frzF
    split
    · rename_i hc
      obtain ⟨x, d, _, hx, hvx⟩ := hc
      exact absurd rfl (hb x d b hx hvx)
    · exact hF
  have new : ∀ b o, frzF F ρ val h xs b = some o → F b = some o ∨ h0.get? b = none := fun b o e => by
    unfold frzF at e
    split at e
    · rename_i hc
      obtain ⟨x, d, _, hx, hvx⟩ := hc
      obtain ⟨a, _, hv', _, _, _, p⟩ := R.own x d hx
      rw [hvx] at hv'; cases hv'
      exact .inr p.old
    · exact .inl e
  refine ⟨⟨mono, new⟩, R.glb, fun a o k c => mono _ _ (R.kf a o k c), fun b o e => ?_, R.kind, R.gl, R.bu, R.kinds, R.nofree, R.keep, R.ns, ?_, fun x hx => ?_, R.inj, fun x p hx => ?_, fun x d hx => ?_, fun x d hx => ?_, fun x y dx dy v hx hy hvx hvy => ?_, fun b hb => ?_⟩
  · unfold frzF at e
    split at e
    · exact e
    · exact R.fin _ _ e
  · refine ⟨R.privL.old, ?_, R.privL.res⟩
    refine notown (fun x d a hx hvx => ?_) R.privL.frz
    obtain ⟨a', _, hv', _, _, nl, _⟩ := R.own x d hx
    rw [hvx] at hv'; cases hv'
    exact nl
  · obtain ⟨c, hc, hcell, p⟩ := R.cells x hx
    refine ⟨c, hc, hcell, p.old, notown (fun x d a hx hvx q => ?_) p.frz, p.res⟩
    obtain ⟨a', o', hv', ha', r', _, _⟩ := R.own x d hx
    rw [hvx] at hv'; cases hv'
    subst q
    obtain ⟨o, ho, hd⟩ := hcell
    rw [ha'] at ho; cases ho
    exact r'.notCell _ hd
  · obtain ⟨o, d⟩ := p
    rcases frz_some hx with ⟨_, q⟩ | ⟨_, _, o', q⟩ <;> exact R.dom x _ q
  · rcases frz_some hx with ⟨_, q⟩ | ⟨hm, _, o', q⟩
    · obtain ⟨v, hv, r⟩ := R.vars x d q; exact ⟨v, hv, r.mono mono⟩
    · cases o' with
      | false => obtain ⟨v, hv, r⟩ := R.vars x d q; exact ⟨v, hv, r.mono mono⟩
      | true =>
        obtain ⟨a, o, hv, ha, r, nl, p⟩ := R.own x d q
        refine ⟨_, hv, (r.mono mono).vr ?_⟩
        unfold frzF
        rw [if_pos ⟨x, _, hm, q, hv⟩, ha]
  · rcases frz_some hx with ⟨hm, q⟩ | ⟨_, q, _⟩
    · obtain ⟨a, o, hv, ha, r, nl, p⟩ := R.own x d q
      refine ⟨a, o, hv, ha, r.mono mono, nl, p.old, ?_, p.res⟩
      unfold frzF
      rw [if_neg]
      · exact p.frz
      · rintro ⟨y, dy, hy, hy2, hvy⟩
        exact hm ((R.sep _ _ _ _ _ hy2 q hvy hv) ▸ hy)
    · cases q
  · rcases frz_some hx with ⟨_, q⟩ | ⟨_, q, _⟩
    · rcases frz_some hy with ⟨_, q'⟩ | ⟨_, q', _⟩
      · exact R.sep _ _ _ _ _ q q' hvx hvy
      · cases q'
    · cases q
  · obtain ⟨h1, h2, h3⟩ := R.res b hb
    refine ⟨?_, h2, h3⟩
    unfold frzF
    rw [if_neg]
    · exact h1
    · rintro ⟨y, dy, hy, hy2, hvy⟩
      obtain ⟨a, o, hv, ha, _, _, p⟩ := R.own y dy hy2
      rw [hvy] at hv; cases hv
      exact p.res hb

/-- what a store into a name needs of the value -/
def Stor (env : Env) (h0 : Heap) (RS : Addr → Prop) (F : Fz) (ρ : Rho) (val : Str → Option Value) (h : Heap) (x : Str) (o : Bool) (v : Value) (d : D) : Prop :=
  (o = false ∧ VR F v d) ∨ (o = true ∧ ∃ a ob, v = .ref a ∧ h.get? a = some ob ∧ OwnO F a ob d ∧ a ≠ env.locals ∧ Priv h0 F RS a ∧ ∀ y dy, ρ y = some (true, dy) → val y ≠ some (.ref a))

theorem IsCell_ne {h : Heap} {c a : Addr} {v} {F : Fz} {ob : Obj} {d : D} (hc : h.IsCell c v) (ha : h.get? a = some ob) (r : OwnO F a ob d) : a ≠ c := by
  rintro rfl
  obtain ⟨o, ho, hd⟩ := hc
  rw [ha] at ho; cases ho; exact r.notCell _ hd
theorem Ns_IsCell {h : Heap} {c a : Addr} {m v} (hc : h.IsCell c v) (ha : h.Ns a m) : a ≠ c := by
  rintro rfl
  obtain ⟨o, _, _, ho, hd, _⟩ := ha
  obtain ⟨o', ho', hd'⟩ := hc
  rw [ho] at ho'; cases ho'
  rw [hd] at hd'; cases hd'

theorem Glb.offp (G : Glb K mg mb h) {h' : Heap} (hk : ∀ b o, h0.get? b = some o → h'.get? b = some o) (G0 : Glb K mg mb h0) : Glb K mg mb h' := G0.keeps hk

theorem FR.store {M : Model} {A : Around} {E : Value → Shared → Prop} {s : Shared} (G0 : Glb K mg mb h0) (R : FR K mg mb sc env h0 RS F ρ val s.heap) {x : Str} (hx : localOrCell sc x = true) {o : Bool} {v : Value} {d : D} (st : Stor env h0 RS F ρ val s.heap x o v d)
    {Q : Unit → Shared → Prop} (k : ∀ h' tk, FR K mg mb sc env h0 RS F (upd ρ x o d) (fun y => if y = x then some v else val y) h' → (∀ b, RS b → h'.get? b = s.heap.get? b) → Q () { s with heap := h', toks := tk }) :
    wpAny M A (storeName env x v) Q E s := by
  -- what holds whatever the place is
  have gen : ∀ (p : Addr) (h' : Heap), Heap.SameBut p s.heap h' → Priv h0 F RS p → (∀ a ob d, s.heap.get? a = some ob → OwnO F a ob d → a ≠ env.locals → a ≠ p) →
      (∃ m, h'.Ns env.locals m ∧ ∀ y, sc.names.lookup y = some .local → m y = if y = x then some v else val y) →
      (∀ y, sc.names.lookup y = some .cell → ∃ c, env.cells.lookup y = some c ∧ h'.IsCell c (if y = x then some v else val y) ∧ Priv h0 F RS c) → (∃ o, h'.get? p = some o) →
      FR K mg mb sc env h0 RS F (upd ρ x o d) (fun y => if y = x then some v else val y) h' ∧ (∀ b, RS b → h'.get? b = s.heap.get? b) := fun p h' hs hp hpl hns hcl hex => by
    have off : ∀ b o, b ≠ p → s.heap.get? b = some o → h'.get? b = some o := hs.extBut
    have keep : ∀ b o, h0.get? b = some o → h'.get? b = some o := fun b o e => off b o (fun q => by rw [q, hp.old] at e; cases e) (R.keep b o e)
    have sameR : ∀ b, RS b → h'.get? b = s.heap.get? b := fun b hb => hs.2 b (fun q => hp.res (q ▸ hb))
    refine ⟨⟨G0.keeps keep, R.kf, fun b o e => off b o (fun q => by rw [q, hp.frz] at e; cases e) (R.fin b o e), R.kind, R.gl, R.bu, R.kinds, R.nofree, keep, hns, R.privL, hcl, R.inj, fun y q hy => ?_, fun y d' hy => ?_, fun y d' hy => ?_, fun y z dy dz u hy hz hvy hvz => ?_, fun b hb => ?_⟩, sameR⟩
    · unfold upd at hy; split at hy
      · rename_i e; rw [e]; exact hx
      · exact R.dom _ _ hy
    · unfold upd at hy; split at hy
      · rename_i e
        cases hy
        rcases st with ⟨_, r⟩ | ⟨q, _⟩
        · exact ⟨v, if_pos e, r⟩
        · cases q
      · rename_i e
        obtain ⟨u, hu, r⟩ := R.vars _ _ hy
        exact ⟨u, by rw [if_neg e]; exact hu, r⟩
    · unfold upd at hy; split at hy
      · rename_i e
        cases hy
        rcases st with ⟨q, _⟩ | ⟨_, a, ob, rfl, ha, r, nl, p', _⟩
        · cases q
        · exact ⟨a, ob, if_pos e, off _ _ (hpl _ _ _ ha r nl) ha, r, nl, p'⟩
      · rename_i e
        obtain ⟨a, ob, hu, ha, r, nl, p'⟩ := R.own _ _ hy
        exact ⟨a, ob, by rw [if_neg e]; exact hu, off _ _ (hpl _ _ _ ha r nl) ha, r, nl, p'⟩
    · unfold upd at hy hz
      by_cases ey : y = x
      · by_cases ez : z = x
        · rw [ey, ez]
        · exfalso
          rw [if_pos ey] at hy hvy
          rw [if_neg ez] at hz hvz
          cases hy; cases hvy
          rcases st with ⟨q, _⟩ | ⟨_, a, ob, rfl, ha, r, nl, p', hne⟩
          · cases q
          · exact hne z _ hz hvz
      · by_cases ez : z = x
        · exfalso
          rw [if_pos ez] at hz hvz
          rw [if_neg ey] at hy hvy
          cases hz; cases hvz
          rcases st with ⟨q, _⟩ | ⟨_, a, ob, rfl, ha, r, nl, p', hne⟩
          · cases q
          · exact hne y _ hy hvy
        · rw [if_neg ey] at hy hvy
          rw [if_neg ez] at hz hvz
          exact R.sep _ _ _ _ _ hy hz hvy hvz
    · obtain ⟨h1, h2, h3⟩ := R.res b hb
      exact ⟨h1, h2, by rw [sameR b hb]; exact h3⟩
  obtain ⟨m, hm, em⟩ := R.ns
  rcases localOrCell_iff.mp hx with q | q
  · refine wpAny_storeName_local (by rw [R.kinds, q]) hm (fun h' hn hs => ?_) (by rw [R.kind]; rfl)
    obtain ⟨h1, h2⟩ := gen env.locals h' hs R.privL (fun a ob d e r nl => nl) ⟨_, hn, fun y hy => by
      split
      · rfl
      · exact em y hy⟩ (fun y hy => by
        obtain ⟨c, hc, hcell, p⟩ := R.cells y hy
        have hyx : y ≠ x := fun e => by rw [e, q] at hy; cases hy
        exact ⟨c, hc, by rw [if_neg hyx]; exact hcell.sameBut hs (Ns_IsCell hcell hm).symm, p⟩) (by obtain ⟨o, _, _, ho, _⟩ := hn; exact ⟨o, ho⟩)
    exact k h' _ h1 h2
  · obtain ⟨c, hc, hcell, p⟩ := R.cells x q
    refine wpAny_storeName_cell R.kind (by rw [R.kinds, q]) hc hcell fun h' hcell' hs => ?_
    obtain ⟨h1, h2⟩ := gen c h' hs p (fun a ob d e r nl => IsCell_ne hcell e r) ⟨m, hm.sameBut hs (Ns_IsCell hcell hm), fun y hy => by
      have hyx : y ≠ x := fun e => by rw [e, q] at hy; cases hy
      rw [if_neg hyx]; exact em y hy⟩ (fun y hy => by
        by_cases hyx : y = x
        · subst hyx; exact ⟨c, hc, by rw [if_pos rfl]; exact hcell', p⟩
        · obtain ⟨c', hc', hcell'', p'⟩ := R.cells y hy
          exact ⟨c', hc', by rw [if_neg hyx]; exact hcell''.sameBut hs (fun e => hyx (R.inj _ _ _ hc' (e ▸ hc))), p'⟩) (by obtain ⟨o, ho, _⟩ := hcell'; exact ⟨o, ho⟩)
    exact k h' s.toks h1 h2

/-- an own thing is changed in place -/
theorem FR.mutO (G0 : Glb K mg mb h0) (R : FR K mg mb sc env h0 RS F ρ val h) {x : Str} {d d2 : D} (hx : ρ x = some (true, d)) {a : Addr} (hv : val x = some (.ref a)) {h' : Heap} (hs : Heap.SameBut a h h') {ob : Obj}
    (ha : h'.get? a = some ob) (r : OwnO F a ob d2) : FR K mg mb sc env h0 RS F (upd ρ x true d2) val h' ∧ (∀ b, RS b → h'.get? b = h.get? b) := by
  obtain ⟨a', ob', hv', ha', r', nl, p⟩ := R.own x d hx
  rw [hv] at hv'; cases hv'
  have off : ∀ b o, b ≠ a → h.get? b = some o → h'.get? b = some o := hs.extBut
  have keep : ∀ b o, h0.get? b = some o → h'.get? b = some o := fun b o e => off b o (fun q => by rw [q, p.old] at e; cases e) (R.keep b o e)
  have sameR : ∀ b, RS b → h'.get? b = h.get? b := fun b hb => hs.2 b (fun q => p.res (q ▸ hb))
  obtain ⟨m, hm, em⟩ := R.ns
  refine ⟨⟨G0.keeps keep, R.kf, fun b o e => off b o (fun q => by rw [q, p.frz] at e; cases e) (R.fin b o e), R.kind, R.gl, R.bu, R.kinds, R.nofree, keep, ⟨m, hm.sameBut hs (Ne.symm nl), em⟩, R.privL, fun y hy => ?_, R.inj, fun y q hy => ?_, fun y d' hy => ?_, fun y d' hy => ?_, fun y z dy dz u hy hz hvy hvz => ?_, fun b hb => ?_⟩, sameR⟩
  · obtain ⟨c, hc, hcell, p'⟩ := R.cells y hy
    exact ⟨c, hc, hcell.sameBut hs (Ne.symm (IsCell_ne hcell ha' r')), p'⟩
  · unfold upd at hy; split at hy
    · rename_i e; rw [e]; exact R.dom _ _ hx
    · exact R.dom _ _ hy
  · unfold upd at hy; split at hy
    · cases hy
    · exact R.vars _ _ hy
  · unfold upd at hy; split at hy
    · rename_i e
      cases hy
      exact ⟨a, ob, by rw [e]; exact hv, ha, r, nl, p⟩
    · rename_i e
      obtain ⟨a2, ob2, hv2, ha2, r2, nl2, p2⟩ := R.own _ _ hy
      refine ⟨a2, ob2, hv2, off _ _ (fun q => e ?_) ha2, r2, nl2, p2⟩
      exact R.sep _ _ _ _ _ hy hx hv2 (q ▸ hv)
  · have back : ∀ y d, upd ρ x true d2 y = some (true, d) → ∃ d', ρ y = some (true, d') := fun y d hy => by
      unfold upd at hy; split at hy
      · rename_i e; rw [e]; exact ⟨_, hx⟩
      · exact ⟨_, hy⟩
    obtain ⟨d1, h1⟩ := back y dy hy
    obtain ⟨d2, h2⟩ := back z dz hz
    exact R.sep _ _ _ _ _ h1 h2 hvy hvz
  · obtain ⟨h1, h2, h3⟩ := R.res b hb
    exact ⟨h1, h2, by rw [sameR b hb]; exact h3⟩
theorem FR.mut (G0 : Glb K mg mb h0) (R : FR K mg mb sc env h0 RS F ρ val h) {x : Str} {d : D} (hx : ρ x = some (true, d)) {a : Addr} (hv : val x = some (.ref a)) {h' : Heap} (hs : Heap.SameBut a h h') {items : Array Value} {n : Nat} {xs : List D}
    (ha : h'.get? a = some (plainL items n)) (r : VRs F items.toList xs) : FR K mg mb sc env h0 RS F (upd ρ x true (.list xs)) val h' ∧ (∀ b, RS b → h'.get? b = h.get? b) :=
  R.mutO G0 hx hv hs ha (.inl ⟨_, _, _, rfl, rfl, r⟩)
end
end Mine

/-! St3 -/
namespace Mine

def FreshOk (prog : Program) (w : World) (A : Around) (F : Fz) (s : Shared) (ds : List D) (t : Sem Value) : Prop :=
  ∀ (Q : Value → Shared → Prop) (E : Value → Shared → Prop), (∀ a items n h' tk F', Ext F s.heap F' h' → F' a = none → s.heap.get? a = none → h'.get? a = some (plainL items n) → VRs F' items.toList ds → Q (.ref a) { s with heap := h', toks := tk }) → wpAny (model prog w) A t Q E s

def SoundU (K : Frag) (mg mb : Str → Option Value) (prog : Program) (w : World) (i : In) (n : Nat) : Prop :=
  ∀ sc ρ wk elt gens csc pos d, i.ev sc ρ wk (.ListComp elt gens csc pos) = .ok d → ∃ ds, d = .list ds ∧ ∀ A env F s use Q E p, AOk A n → ER K mg mb sc env F ρ s.heap →
    (∀ D C h' tk F' items k m', Ext F s.heap F' h' → F' D = none → s.heap.get? D = none → h'.get? D = some (plainL items k) → VRs F' items.toList ds → h'.Ns C m' → F' C = none → s.heap.get? C = none → D ≠ C →
      compPost (model prog w) A E use Q (.ref D) C (.ok .next) { s with heap := h', toks := tk }) →
    wpAny (model prog w) A (comprehension (.ListComp elt gens csc pos) csc env p (newList []) (firstAsync gens) (firstIter gens env) use) Q E s

def SoundF (K : Frag) (mg mb : Str → Option Value) (prog : Program) (w : World) (i : In) (n : Nat) : Prop :=
  ∀ sc ρ wk e d, freshE e = true → i.ev sc ρ wk e = .ok d → ∃ ds, d = .list ds ∧ ∀ A env F s, AOk A n → ER K mg mb sc env F ρ s.heap → FreshOk prog w A F s ds (eval e env)

section
variable {K : Frag} {mg mb : Str → Option Value} {prog : Program} {w : World} {i : In} {n : Nat}

theorem compE_soundU (hi : SoundE K mg mb prog w i n) (ht : SoundT K mg mb prog w i n) : SoundU K mg mb prog w (nxt K i) n := by
  intro sc ρ wk elt gens csc pos d h
  replace h : evN K i sc ρ wk (.ListComp elt gens csc pos) = .ok d := h
  unfold evN at h
  dsimp only at h
  obtain ⟨ds, hds, h2⟩ := Out.bind_ok h
  cases h2
  exact ⟨ds, rfl, fun A env F s use Q E p hA R k => comp_core hi ht hds hA R k⟩

theorem soundU_fresh (hu : SoundU K mg mb prog w i n) {sc : Scope} {ρ : Rho} {wk : Bool} {elt : Expr} {gens : List Comprehension} {csc : Scope} {pos : Pos} {d : D} (h : i.ev sc ρ wk (.ListComp elt gens csc pos) = .ok d) :
    ∃ ds, d = .list ds ∧ ∀ A env F s, AOk A n → ER K mg mb sc env F ρ s.heap → firstAsync gens = false → FreshOk prog w A F s ds (eval (.ListComp elt gens csc pos) env) := by
  obtain ⟨ds, rfl, go⟩ := hu _ _ _ _ _ _ _ _ h
  refine ⟨ds, rfl, fun A env F s hA R hfa Q E k => ?_⟩
  rw [eval_ListComp]
  refine go A env F s none Q E _ hA R fun D C h' tk F' items kk m' x hD hD0 hget hit hns hC hC0 hDC => ⟨m', hns, fun h'' hs => ?_⟩
  exact k D items kk h'' tk F' (x.but hs.extBut hC0 hC) hD hD0 (hs.extBut D _ hDC hget) hit

theorem FreshOk.eok {A : Around} {F : Fz} {s : Shared} {wk : Bool} {ds : List D} {t : Sem Value} (h : FreshOk prog w A F s ds t) : EOk prog w A F s wk (.list ds) t := fun Q E k =>
  h Q E fun a items n h' tk F' x ha h0 hg r => by
    have x' := x.add h0 ha hg
    have r' : VR (addF F' a (plainL items n)) (.ref a) (.list ds) := .list addF_self rfl rfl (r.mono fun b o e => by
      unfold addF; split
      · rename_i q; rw [q, ha] at e; cases e
      · exact e)
    exact k _ _ _ _ x' (.frz r') fun _ => r'

theorem soundL_of (hi : SoundE K mg mb prog w i n) (ht : SoundT K mg mb prog w i n) : SoundL K mg mb prog w i n := by
  intro sc ρ elt gens csc pos ds hds A env F s wk hA R
  refine FreshOk.eok fun Q E k => ?_
  rw [eval_ListComp]
  refine comp_core hi ht hds hA R fun D C h' tk F' items kk m' x hD hD0 hget hit hns hC hC0 hDC => ⟨m', hns, fun h'' hs => ?_⟩
  exact k D items kk h'' tk F' (x.but hs.extBut hC0 hC) hD hD0 (hs.extBut D _ hDC hget) hit

theorem mul_fresh {A : Around} {F : Fz} {s : Shared} {xs : List D} {b d : D} {va vb : Value} (h : binD .Mult (.list xs) b = .ok d) (fin : ∀ b o, F b = some o → s.heap.get? b = some o) (ra : VW F s.heap va (.list xs)) (rb : VW F s.heap vb b) :
    ∃ ds, d = .list ds ∧ FreshOk prog w A F s ds (binaryOp .Mult va vb) := by
  cases b with
  | int n =>
    unfold binD at h
    dsimp only at h
    split at h
    · rename_i hm
      cases h
      obtain ⟨a, ia, na, rfl, ea, qa⟩ := ra.list fin
      obtain ⟨u, rfl⟩ := rb.intv
      have l1 := qa.length
      rw [Array.length_toList] at l1
      rw [lim_eq] at hm
      refine ⟨_, rfl, fun Q E k => mul_list_raw ea (by omega) (by omega) (by rw [l1]; omega) (k _ _ _ _ s.toks F (Ext.of_keep fin fun _ _ e => Heap.get?_push_of_some _ e) (fresh_F fin (none_size _)) (none_size _) (Heap.get?_push_size _ rfl) ?_)⟩
      have hne : ia.isEmpty = false := by rw [Array.isEmpty_eq_false_iff_exists_mem]; have : 0 < ia.size := by omega
                                          exact ⟨ia[0], Array.getElem_mem _⟩
      rw [hne, foldl_cat]
      simpa using qa.rep n.toNat
    · cases h
  | _ => unfold binD at h; cases h

theorem fresh_ok (hi : SoundE K mg mb prog w i n) (ht : SoundT K mg mb prog w i n) (hfr : SoundF K mg mb prog w i n) : SoundF K mg mb prog w (nxt K i) n := by
  intro sc ρ wk e d hfe h
  replace h : evN K i sc ρ wk e = .ok d := h
  unfold freshE at hfe
  split at hfe
  · rename_i es pos
    unfold evN at h
    dsimp only at h
    obtain ⟨ds, hds, h2⟩ := Out.bind_ok h
    split at h2
    · rename_i hlen
      cases h2
      unfold lim at hlen
      refine ⟨ds, rfl, fun A env F s hA R Q E k => wpAny_List (evs_ok hi hds hA R fun vs h' tk F' x vw vr => ?_)⟩
      have l1 := (vr rfl).length
      refine ⟨by rw [sizeLine_eq]; omega, k h'.objs.size vs.toArray 0 _ tk F' (x.trans (Ext.of_keep x.fin fun _ _ e => Heap.get?_push_of_some _ e)) (fresh_F x.fin (none_size _)) (none_back x.keep (none_size _)) (Heap.get?_push_size _ rfl) (vr rfl)⟩
    · cases h2
  · rename_i elt gens csc pos
    obtain ⟨ds, rfl, go⟩ := compE_soundU hi ht sc ρ wk elt gens csc pos d h
    refine ⟨ds, rfl, fun A env F s hA R Q E k => ?_⟩
    rw [eval_ListComp]
    refine go A env F s none Q E _ hA R fun D C h' tk F' items kk m' x hD hD0 hget hit hns hC hC0 hDC => ⟨m', hns, fun h'' hs => ?_⟩
    exact k D items kk h'' tk F' (x.but hs.extBut hC0 hC) hD hD0 (hs.extBut D _ hDC hget) hit
  · rename_i es p1 r p2
    unfold evN at h
    dsimp only at h
    obtain ⟨a, ha, h2⟩ := Out.bind_ok h
    obtain ⟨b, hb, h3⟩ := Out.bind_ok h2
    obtain ⟨as, rfl, _⟩ := hfr _ _ _ _ _ rfl ha
    have hd : ∃ ds, d = .list ds := by
      cases b with
      | int n =>
        unfold binD at h3
        dsimp only at h3
        split at h3
        · cases h3; exact ⟨_, rfl⟩
        · cases h3
      | _ => unfold binD at h3; cases h3
    obtain ⟨ds, rfl⟩ := hd
    refine ⟨ds, rfl, fun A env F s hA R Q E k => wpAny_BinOp (hi _ _ _ _ _ ha A env F s hA R _ _ fun v₁ h₁ tk₁ F₁ x₁ w₁ _ => ?_)⟩
    refine hi _ _ _ _ _ hb A env F₁ _ hA (ext_ER R x₁) _ _ fun v₂ h₂ tk₂ F₂ x₂ w₂ _ => ?_
    obtain ⟨ds', e, go⟩ := mul_fresh (prog := prog) (w := w) (A := A) (s := { s with heap := h₂, toks := tk₂ }) h3 x₂.fin (w₁.ext x₂) w₂
    cases e
    exact go _ _ fun a items nn h₃ tk₃ F₃ x₃ ha h0 hg r => k a items nn h₃ tk₃ F₃ ((x₁.trans x₂).trans x₃) ha (none_back (x₁.trans x₂).keep h0) hg r
  · cases hfe
end
end Mine

/-! St4 -/
namespace Mine

section
variable {K : Frag} {mg mb : Str → Option Value} {sc : Scope} {env : Env} {h0 : Heap} {RS : Addr → Prop} {F : Fz} {ρ : Rho} {val : Str → Option Value} {h : Heap}

theorem FR.same (R : FR K mg mb sc env h0 RS F ρ val h) {F' : Fz} {h' : Heap} (x : Ext F h F' h') : ∀ b, RS b → h'.get? b = h.get? b := fun b hb => by
  obtain ⟨_, _, o, e⟩ := R.res b hb
  rw [e, x.keep _ _ e]

theorem Priv.more {a I : Addr} (p : Priv h0 F RS a) (hne : a ≠ I) : Priv h0 F (fun b => RS b ∨ b = I) a := ⟨p.old, p.frz, fun q => q.elim p.res hne⟩
theorem Priv.less {a I : Addr} (p : Priv h0 F (fun b => RS b ∨ b = I) a) : Priv h0 F RS a := ⟨p.old, p.frz, fun q => p.res (.inl q)⟩

theorem FR.reserve (R : FR K mg mb sc env h0 RS F ρ val h) {F' : Fz} {h' : Heap} (x : Ext F h F' h') {I : Addr} (hI0 : h.get? I = none) (hIF : F' I = none) (hI : ∃ o, h'.get? I = some o) : FR K mg mb sc env h0 (fun b => RS b ∨ b = I) F' ρ val h' := by
  have R' := R.ext x
  have ne : ∀ {a o}, h.get? a = some o → a ≠ I := fun e q => by rw [q, hI0] at e; cases e
  refine ⟨R'.glb, R'.kf, R'.fin, R'.kind, R'.gl, R'.bu, R'.kinds, R'.nofree, R'.keep, R'.ns, R'.privL.more ?_, fun y hy => ?_, R'.inj, R'.dom, R'.vars, fun y d hy => ?_, R'.sep, fun b hb => ?_⟩
  · obtain ⟨o, e⟩ := R.exL; exact ne e
  · obtain ⟨c, hc, hcell, p⟩ := R'.cells y hy
    obtain ⟨c', hc', ⟨o, ho, _⟩, _⟩ := R.cells y hy
    rw [hc] at hc'; cases hc'
    exact ⟨c, hc, hcell, p.more (ne ho)⟩
  · obtain ⟨a, o, hv, ha, r, nl, p⟩ := R'.own y d hy
    obtain ⟨a', _, hv', ha', _⟩ := R.own y d hy
    rw [hv] at hv'; cases hv'
    exact ⟨a, o, hv, ha, r, nl, p.more (ne ha')⟩
  · rcases hb with hb | rfl
    · exact R'.res b hb
    · exact ⟨hIF, none_back R.keep hI0, hI⟩

theorem FR.release {I : Addr} (R : FR K mg mb sc env h0 (fun b => RS b ∨ b = I) F ρ val h) : FR K mg mb sc env h0 RS F ρ val h :=
  ⟨R.glb, R.kf, R.fin, R.kind, R.gl, R.bu, R.kinds, R.nofree, R.keep, R.ns, R.privL.less, fun y hy => by obtain ⟨c, hc, hcell, p⟩ := R.cells y hy; exact ⟨c, hc, hcell, p.less⟩, R.inj, R.dom, R.vars,
    fun y d hy => by obtain ⟨a, o, hv, ha, r, nl, p⟩ := R.own y d hy; exact ⟨a, o, hv, ha, r, nl, p.less⟩, R.sep, fun b hb => R.res b (.inl hb)⟩

/-- a change at a reserved place alone -/
theorem FR.tick (G0 : Glb K mg mb h0) {I : Addr} (hI : RS I) (R : FR K mg mb sc env h0 RS F ρ val h) {h' : Heap} (hk : ∀ b o, b ≠ I → h.get? b = some o → h'.get? b = some o) (he : ∃ o, h'.get? I = some o) :
    FR K mg mb sc env h0 RS F ρ val h' ∧ ∀ b, RS b → b ≠ I → h'.get? b = h.get? b := by
  have keep : ∀ b o, h0.get? b = some o → h'.get? b = some o := fun b o e => hk b o (fun q => by rw [q, (R.res I hI).2.1] at e; cases e) (R.keep b o e)
  have sameR : ∀ b, RS b → b ≠ I → h'.get? b = h.get? b := fun b hb hne => by
    obtain ⟨_, _, o, e⟩ := R.res b hb
    rw [e, hk _ _ hne e]
  refine ⟨⟨G0.keeps keep, R.kf, fun b o e => hk b o (fun q => by rw [q, (R.res I hI).1] at e; cases e) (R.fin b o e), R.kind, R.gl, R.bu, R.kinds, R.nofree, keep, ?_, R.privL, fun y hy => ?_, R.inj, R.dom, R.vars, fun y d hy => ?_, R.sep, fun b hb => ?_⟩, sameR⟩
  · obtain ⟨m, hm, em⟩ := R.ns
    exact ⟨m, hm.at' fun o e => hk _ o (fun q => R.privL.res (q ▸ hI)) e, em⟩
  · obtain ⟨c, hc, ⟨o, ho, hd⟩, p⟩ := R.cells y hy
    exact ⟨c, hc, ⟨o, hk _ _ (fun q => p.res (q ▸ hI)) ho, hd⟩, p⟩
  · obtain ⟨a, o, hv, ha, r, nl, p⟩ := R.own y d hy
    exact ⟨a, o, hv, hk _ _ (fun q => p.res (q ▸ hI)) ha, r, nl, p⟩
  · by_cases q : b = I
    · subst q; exact ⟨(R.res b hb).1, (R.res b hb).2.1, he⟩
    · obtain ⟨h1, h2, h3⟩ := R.res b hb
      exact ⟨h1, h2, by rw [sameR b hb q]; exact h3⟩

/-- .. and the place is given up -/
theorem FR.tickOff (G0 : Glb K mg mb h0) {I : Addr} (hI : ¬ RS I) (R : FR K mg mb sc env h0 (fun b => RS b ∨ b = I) F ρ val h) {h' : Heap} (hk : ∀ b o, b ≠ I → h.get? b = some o → h'.get? b = some o) :
    FR K mg mb sc env h0 RS F ρ val h' ∧ ∀ b, RS b → h'.get? b = h.get? b := by
  have hRI := R.res I (.inr rfl)
  have keep : ∀ b o, h0.get? b = some o → h'.get? b = some o := fun b o e => hk b o (fun q => by rw [q, hRI.2.1] at e; cases e) (R.keep b o e)
  have sameR : ∀ b, RS b → h'.get? b = h.get? b := fun b hb => by
    obtain ⟨_, _, o, e⟩ := R.res b (.inl hb)
    rw [e, hk _ _ (fun q => hI (q ▸ hb)) e]
  refine ⟨⟨G0.keeps keep, R.kf, fun b o e => hk b o (fun q => by rw [q, hRI.1] at e; cases e) (R.fin b o e), R.kind, R.gl, R.bu, R.kinds, R.nofree, keep, ?_, R.privL.less, fun y hy => ?_, R.inj, R.dom, R.vars, fun y d hy => ?_, R.sep, fun b hb => ?_⟩, sameR⟩
  · obtain ⟨m, hm, em⟩ := R.ns
    exact ⟨m, hm.at' fun o e => hk _ o (fun q => R.privL.res (.inr q)) e, em⟩
  · obtain ⟨c, hc, ⟨o, ho, hd⟩, p⟩ := R.cells y hy
    exact ⟨c, hc, ⟨o, hk _ _ (fun q => p.res (.inr q)) ho, hd⟩, p.less⟩
  · obtain ⟨a, o, hv, ha, r, nl, p⟩ := R.own y d hy
    exact ⟨a, o, hv, hk _ _ (fun q => p.res (.inr q)) ha, r, nl, p.less⟩
  · obtain ⟨h1, h2, h3⟩ := R.res b (.inl hb)
    exact ⟨h1, h2, by rw [sameR b hb]; exact h3⟩

theorem FR.load {M : Model} {A : Around} {E : Value → Shared → Prop} {s : Shared} (R : FR K mg mb sc env h0 RS F ρ val s.heap) {x : Str} {v : Value} (hx : localOrCell sc x = true) (hv : val x = some v) {Q : Value → Shared → Prop} (k : Q v s) : wpAny M A (loadName env x) Q E s := by
  rcases R.slot hx hv with ⟨hk, m, hn, hm⟩ | ⟨hk, c, hc, hi⟩
  · exact wpAny_loadName_local R.kind hk hn hm k
  · rcases hk with hk | hk
    · exact wpAny_loadName_cell R.kind hk hc hi k
    · rw [R.kinds] at hk; exact absurd hk (R.nofree x)

theorem FR.name {M : Model} {A : Around} {E : Value → Shared → Prop} {s : Shared} (R : FR K mg mb sc env h0 RS F ρ val s.heap) {x : Str} {p : Pos} {v : Value} (hx : localOrCell sc x = true) (hn : nmOk x = true) (hv : val x = some v) {Q : Value → Shared → Prop} (k : Q v s) :
    wpAny M A (eval (.Name x p) env) Q E s := wpAny_Name (R.load hx hv k) (by
  unfold nmOk at hn
  cases q : x == ("__debug__" : Str)
  · rfl
  · rw [q] at hn; cases hn)
end

def StOk (K : Frag) (mg mb : Str → Option Value) (prog : Program) (w : World) (A : Around) (sc : Scope) (env : Env) (h0 : Heap) (RS : Addr → Prop) (F : Fz) (s : Shared) (ρ' : Rho) (r : Option D) (t : Sem Flow) : Prop :=
  ∀ (Q : Flow → Shared → Prop) (E : Value → Shared → Prop), (∀ h' tk F' val' fl, FR K mg mb sc env h0 RS F' ρ' val' h' → Grow h0 F F' → (∀ b, RS b → h'.get? b = s.heap.get? b) →
    (match r with | none => fl = .next | some d => ∃ v, fl = .ret v ∧ VR F' v d) → Q fl { s with heap := h', toks := tk }) → wpAny (model prog w) A t Q E s

def SoundS (K : Frag) (mg mb : Str → Option Value) (prog : Program) (w : World) (i : In) (n : Nat) : Prop :=
  ∀ sc ρ st ρ' r, i.ex sc ρ st = .ok (ρ', r) → ∀ A env h0 RS F val s, AOk A n → Glb K mg mb h0 → FR K mg mb sc env h0 RS F ρ val s.heap → StOk K mg mb prog w A sc env h0 RS F s ρ' r (exec st env)

section
variable {K : Frag} {mg mb : Str → Option Value} {prog : Program} {w : World} {i : In} {n : Nat} {A : Around} {sc : Scope} {env : Env} {h0 : Heap} {RS : Addr → Prop} {F : Fz} {ρ ρ' : Rho} {val : Str → Option Value} {s : Shared} {r : Option D}

theorem execs_ok (hs : SoundS K mg mb prog w i n) : ∀ {b : List Stmt} {ρ ρ' : Rho} {r : Option D}, exsL (i.ex sc) b ρ = .ok (ρ', r) → ∀ {RS : Addr → Prop} {F : Fz} {val : Str → Option Value} {s : Shared}, AOk A n → Glb K mg mb h0 → FR K mg mb sc env h0 RS F ρ val s.heap → StOk K mg mb prog w A sc env h0 RS F s ρ' r (execs b env)
  | [], ρ, ρ', r, h, RS, F, val, s, hA, G0, R => by
    cases h
    exact fun Q E k => wpAny_execs_nil (k s.heap s.toks F val .next R (.refl _ _) (fun _ _ => rfl) rfl)
  | st :: b, ρ, ρ', r, h, RS, F, val, s, hA, G0, R => by
    obtain ⟨⟨ρ1, r1⟩, h1, h2⟩ := Out.bind_ok h
    refine fun Q E k => wpAny_execs_cons (hs _ _ _ _ _ h1 A env h0 RS F val s hA G0 R _ _ fun h' tk F' val' fl R' mono same hfl => ?_)
    cases r1 with
    | none =>
      cases hfl
      dsimp only at h2 ⊢
      exact execs_ok hs h2 (s := { s with heap := h', toks := tk }) hA G0 R' _ _ fun h'' tk' F'' val'' fl' R'' mono' same' hfl' => k _ _ _ _ _ R'' (mono.trans mono') (fun b hb => (same' b hb).trans (same b hb)) hfl'
    | some d =>
      cases h2
      obtain ⟨v, rfl, vr⟩ := hfl
      exact k _ _ _ _ _ R' mono same ⟨v, rfl, vr⟩

theorem fpk {F₁ F₂ : Fz} {h₁ h₂ : Heap} {b : Addr} {o : Obj} (hF : F₁ b = some o) (f1 : ∀ b o, F₁ b = some o → h₁.get? b = some o) (m : ∀ b o, F₁ b = some o → F₂ b = some o) (f2 : ∀ b o, F₂ b = some o → h₂.get? b = some o) {o' : Obj} (e : h₁.get? b = some o') : h₂.get? b = some o' := by
  rw [f1 _ _ hF] at e; cases e; exact f2 _ _ (m _ _ hF)

theorem for_gen (hi : SoundE K mg mb prog w i n) {b : List Stmt} {bd : Rho → Out (Rho × Option D)} (hbd : ∀ ρ ρ' r, bd ρ = .ok (ρ', r) → ∀ RS F val s, FR K mg mb sc env h0 RS F ρ val s.heap → StOk K mg mb prog w A sc env h0 RS F s ρ' r (execs b env)) {t : Str} {tp pos : Pos} {it : Expr} {vs : List D} (hx : localOrCell sc t = true)
    (hv : srcE K i sc (frz ρ (al K 30 false it)) false it = .ok vs) (h : forL (fun v ρ => bd (upd ρ t false v)) vs (frz ρ (al K 30 false it)) = .ok (ρ', r))
    (hA : AOk A n) (G0 : Glb K mg mb h0) (R : FR K mg mb sc env h0 RS F ρ val s.heap) : StOk K mg mb prog w A sc env h0 RS F s ρ' r (exec (.For (.Name t tp) it b [] pos) env) := by
  intro Q E k
  obtain ⟨m1, R1⟩ := R.frz (al K 30 false it)
  obtain ⟨hsrc, hfold⟩ := src_ok hi hv hA R1.er
  refine wpAny_For (hsrc _ _ fun I fp wr P St a₁ t₁ F₁ x₁ W st hfp hwr hIF hI0 hSI hfpx hP => ?_) hfold
  have R2 := R1.reserve x₁ hI0 hIF (hSI _ _ st)
  have same1 := R1.same x₁
  refine codeAny_forLoop
    (fun k s' => ∃ h' tk F' val' ρj, ∃ j : Nat, s' = { s with heap := h', toks := tk } ∧ FR K mg mb sc env h0 (fun b => RS b ∨ b = I) F' ρj val' h' ∧ Grow h0 F₁ F' ∧ (∀ b, RS b → h'.get? b = s.heap.get? b) ∧ St j h' ∧
      forL (fun v ρ => bd (upd ρ t false v)) (vs.drop j) ρj = .ok (ρ', r) ∧ j ≤ vs.length ∧ k = vs.length + 1 - j) ?_ (vs.length + 1)
    ⟨a₁, t₁, F₁, val, _, 0, rfl, R2, .refl _ _, same1, st, h, Nat.zero_le _, rfl⟩
  rintro kk s' ⟨h', tk, F', val', ρj, j, rfl, R', mono, same, st', hrest, hj, rfl⟩
  have hRI : (fun b => RS b ∨ b = I) I := .inr rfl
  have offI : ∀ {h a : Heap}, (∀ b o, b ∉ wr → h.get? b = some o → a.get? b = some o) → ∀ b o, b ≠ I → h.get? b = some o → a.get? b = some o := fun hk b o hb e => hk b o (fun q => hb (hwr b q)) e
  have monoF : Grow h0 F F₁ := m1.trans (R1.grow x₁)
  by_cases hjl : j < vs.length
  · refine W.item j _ _ _ hjl st' fun v a₂ t₂ hPv st₂ hk₂ => ?_
    obtain ⟨R₂, same₂⟩ := R'.tick G0 hRI (offI hk₂) (hSI _ _ st₂)
    obtain ⟨d, hd, hv⟩ := hP j v hPv
    have hdrop : vs.drop j = d :: vs.drop (j + 1) := by
      obtain ⟨hlt, e⟩ := List.getElem?_eq_some_iff.mp hd
      rw [← e]; exact List.drop_eq_getElem_cons hlt
    rw [hdrop] at hrest
    obtain ⟨⟨ρ2, r2⟩, hb2, hr2⟩ := Out.bind_ok hrest
    refine wpAny_assign_Name (FR.store (s := { s with heap := a₂, toks := t₂ }) G0 R₂ hx (o := false) (d := d) (.inl ⟨rfl, hv.mono mono.mono⟩) fun a₃ t₃ R₃ same₃ => ?_)
    refine hbd _ _ _ hb2 _ _ _ { s with heap := a₃, toks := t₃ } R₃ _ _ fun a₄ t₄ F₄ val₄ fl R₄ mono₄ same₄ hfl => ?_
    have sR : ∀ b, RS b → a₄.get? b = s.heap.get? b := fun b hb => by
      have hne : b ≠ I := fun q => by
        obtain ⟨_, _, o, e⟩ := R.res b hb
        rw [q, hI0] at e; cases e
      exact (same₄ b (.inl hb)).trans ((same₃ b (.inl hb)).trans ((same₂ b (.inl hb) hne).trans (same b hb)))
    have st₄ : St (j + 1) a₄ := W.frame _ _ _ st₂ fun b hb o e => by
      rcases hfpx b hb with rfl | ⟨_, hF⟩
      · rw [same₄ b (.inr rfl), same₃ b (.inr rfl)]; exact e
      · obtain ⟨q, hq⟩ := hF rfl
        exact fpk (mono.mono _ _ hq) R₂.fin mono₄.mono R₄.fin e
    cases r2 with
    | none =>
      obtain rfl : fl = .next := hfl
      exact ⟨_, Nat.sub_lt_sub_left (by omega) (Nat.lt_succ_self j), a₄, t₄, F₄, val₄, ρ2, j + 1, rfl, R₄, mono.trans mono₄, sR, st₄, hr2, hjl, rfl⟩
    | some d2 =>
      obtain ⟨v2, rfl, vr2⟩ := hfl
      cases hr2
      exact k a₄ t₄ F₄ val₄ _ R₄.release (monoF.trans (mono.trans mono₄)) sR ⟨v2, rfl, vr2⟩
  · obtain rfl : j = vs.length := by omega
    refine W.done _ _ _ st' fun a₂ t₂ hk₂ => wpAny_execs_nil ?_
    rw [List.drop_length] at hrest
    cases hrest
    have hnI : ¬ RS I := fun hb => by
      obtain ⟨_, _, o, e⟩ := R.res I hb
      rw [hI0] at e; cases e
    obtain ⟨R₂, same₂⟩ := R'.tickOff G0 hnI (offI hk₂)
    exact k a₂ t₂ F' val' _ R₂ (monoF.trans mono) (fun b hb => (same₂ b hb).trans (same b hb)) rfl

theorem for_ok (hi : SoundE K mg mb prog w i n) (hs : SoundS K mg mb prog w i n) {t : Str} {tp pos : Pos} {it : Expr} {b : List Stmt} {vs : List D} (hx : localOrCell sc t = true)
    (hv : srcE K i sc (frz ρ (al K 30 false it)) false it = .ok vs) (h : forL (fun v ρ => exsL (i.ex sc) b (upd ρ t false v)) vs (frz ρ (al K 30 false it)) = .ok (ρ', r))
    (hA : AOk A n) (G0 : Glb K mg mb h0) (R : FR K mg mb sc env h0 RS F ρ val s.heap) : StOk K mg mb prog w A sc env h0 RS F s ρ' r (exec (.For (.Name t tp) it b [] pos) env) :=
  for_gen hi (fun _ _ _ h _ _ _ _ R => execs_ok hs h hA G0 R) hx hv h hA G0 R

theorem while_ok (ht : SoundT K mg mb prog w i n) (hs : SoundS K mg mb prog w i n) {t : Expr} {pos : Pos} {b : List Stmt} {fuel : Nat} (h : whileL (fun ρ => i.tst sc ρ t) (fun ρ => exsL (i.ex sc) b ρ) fuel ρ = .ok (ρ', r))
    (hA : AOk A n) (G0 : Glb K mg mb h0) (R : FR K mg mb sc env h0 RS F ρ val s.heap) : StOk K mg mb prog w A sc env h0 RS F s ρ' r (exec (.While t b [] pos) env) := by
  intro Q E k
  refine wpAny_While ?_
  refine codeAny_whileLoop
    (fun kk s' => ∃ h' tk F' val' ρj, s' = { s with heap := h', toks := tk } ∧ FR K mg mb sc env h0 RS F' ρj val' h' ∧ Grow h0 F F' ∧ (∀ b, RS b → h'.get? b = s.heap.get? b) ∧
      whileL (fun ρ => i.tst sc ρ t) (fun ρ => exsL (i.ex sc) b ρ) kk ρj = .ok (ρ', r)) ?_ fuel
    ⟨s.heap, s.toks, F, val, ρ, rfl, R, .refl _ _, fun _ _ => rfl, h⟩
  rintro kk s' ⟨h', tk, F', val', ρj, rfl, R', mono, same, hrest⟩
  cases kk with
  | zero => cases hrest
  | succ m =>
    obtain ⟨c, hc, h2⟩ := Out.bind_ok hrest
    refine ht _ _ _ _ hc A env F' _ hA R'.er _ _ fun a₁ t₁ F₁ x₁ => ?_
    have R1 := R'.ext x₁
    cases c with
    | false =>
      simp only [Bool.false_eq_true, if_false] at h2 ⊢
      cases h2
      exact wpAny_execs_nil (k a₁ t₁ F₁ val' _ R1 (mono.trans (R'.grow x₁)) (fun b hb => (R'.same x₁ b hb).trans (same b hb)) rfl)
    | true =>
      simp only [if_true] at h2 ⊢
      obtain ⟨⟨ρ2, r2⟩, hb2, hr2⟩ := Out.bind_ok h2
      refine execs_ok hs hb2 (s := { s with heap := a₁, toks := t₁ }) hA G0 R1 _ _ fun a₄ t₄ F₄ val₄ fl R₄ mono₄ same₄ hfl => ?_
      have sR : ∀ b, RS b → a₄.get? b = s.heap.get? b := fun b hb => (same₄ b hb).trans ((R'.same x₁ b hb).trans (same b hb))
      cases r2 with
      | none =>
        obtain rfl : fl = .next := hfl
        exact ⟨m, Nat.lt_succ_self m, a₄, t₄, F₄, val₄, ρ2, rfl, R₄, mono.trans ((R'.grow x₁).trans mono₄), sR, hr2⟩
      | some d2 =>
        obtain ⟨v2, rfl, vr2⟩ := hfl
        cases hr2
        exact k a₄ t₄ F₄ val₄ _ R₄ (mono.trans ((R'.grow x₁).trans mono₄)) sR ⟨v2, rfl, vr2⟩

theorem swaps_not {e : Expr} (h : notComp e = true) (t : Option Expr) (line : Nat) : swapsWith e t line env = pure false := by
  cases e <;> first | rfl | cases h

theorem foldI_dom {f : Rho → Out D} {t y : Str} : ∀ {xs : List D} {ρ ρ' : Rho}, foldI f t y xs ρ = .ok ρ' → ∀ z, z ≠ t → z ≠ y → ρ' z = ρ z
  | [], ρ, ρ', h, z, _, _ => by cases h; rfl
  | d :: r, ρ, ρ', h, z, h1, h2 => by
    obtain ⟨c, hc, h3⟩ := Out.bind_ok h
    rw [foldI_dom h3 z h1 h2]
    unfold upd
    rw [if_neg h2, if_neg h1]

/-- a loop over an own list -/
theorem forI_ok (hi : SoundE K mg mb prog w i n) {t y z : Str} {tp zp yp pos apos : Pos} {e : Expr} {xs : List D} (hx : localOrCell sc t = true) (hy : localOrCell sc y = true) (hz : localOrCell sc z = true) (hzt : z ≠ t) (hzy : z ≠ y) (hn : nmOk z = true) (hc : notComp e = true)
    (ho : ownL ρ z = .ok xs) (h : foldI (fun ρ => i.ev sc ρ false e) t y xs ρ = .ok ρ')
    (hA : AOk A n) (G0 : Glb K mg mb h0) (R : FR K mg mb sc env h0 RS F ρ val s.heap) : StOk K mg mb prog w A sc env h0 RS F s ρ' none (exec (.For (.Name t tp) (.Name z zp) [.Assign [.Name y yp] e apos] [] pos) env) := by
  intro Q E k
  unfold ownL at ho
  split at ho
  case h_2 => cases ho
  rename_i xs' hρ
  split at ho
  case isFalse => cases ho
  rename_i hlen
  cases ho
  obtain ⟨a, items, nn, hv, ha, hit, hp⟩ := R.ownL hρ
  have l1 := hit.length
  rw [Array.length_toList] at l1
  refine wpAny_For (R.name hz hn hv ?_) (fun _ => rfl)
  refine wpAny_pyIter_list (isList_of ha) ?_
  have x₁ : Ext F s.heap F (s.heap.push { cls := .type "list_iterator", data := .fields #[.ref a, .int 0 0] }) := Ext.of_keep R.fin fun _ _ e => Heap.get?_push_of_some _ e
  have R2 := R.reserve x₁ (I := s.heap.objs.size) (none_size _) (fresh_F R.fin (none_size _)) ⟨_, Heap.get?_push_size _ rfl⟩
  have hI0 : s.heap.get? s.heap.objs.size = none := none_size _
  have hit0 : (s.heap.push { cls := .type "list_iterator", data := .fields #[.ref a, .int 0 0] }).IsListIter s.heap.objs.size a 0 := ⟨_, Heap.get?_push_size _ rfl, rfl, rfl⟩
  have same1 := R.same x₁
  generalize s.heap.objs.size = I at R2 hI0 hit0 ⊢
  generalize s.heap.push { cls := .type "list_iterator", data := .fields #[.ref a, .int 0 0] } = H1 at R2 x₁ hit0 same1 ⊢
  refine codeAny_forLoop
    (fun k s' => ∃ h' tk F' val' ρj, ∃ j : Nat, s' = { s with heap := h', toks := tk } ∧ FR K mg mb sc env h0 (fun b => RS b ∨ b = I) F' ρj val' h' ∧ Grow h0 F F' ∧ (∀ b, RS b → h'.get? b = s.heap.get? b) ∧ h'.IsListIter I a j ∧
      val' z = some (.ref a) ∧ ρj z = some (true, .list xs) ∧ foldI (fun ρ => i.ev sc ρ false e) t y (xs.drop j) ρj = .ok ρ' ∧ j ≤ xs.length ∧ k = xs.length + 1 - j) ?_ (xs.length + 1)
    ⟨H1, s.toks, F, val, ρ, 0, rfl, R2, .refl _ _, same1, hit0, hv, hρ, h, Nat.zero_le _, rfl⟩
  rintro kk s' ⟨h', tk, F', val', ρj, j, rfl, R', mono, same, hit', hv', hρ', hrest, hj, rfl⟩
  have hRI : (fun b => RS b ∨ b = I) I := .inr rfl
  obtain ⟨a', items', n', hva', ha', hitm', hp'⟩ := R'.ownL hρ'
  rw [hv'] at hva'; cases hva'
  have l2 := hitm'.length
  rw [Array.length_toList] at l2
  by_cases hjl : j < xs.length
  · have hvj : items'[j]? = some (items'[j]'(by omega)) := Array.getElem?_eq_getElem _
    refine wpAny_pyNext_list_item hit' (isList_of ha') hvj fun a₂ hit₂ hs₂ => ?_
    obtain ⟨R₂, same₂⟩ := R'.tick G0 hRI (fun b o hb e => hs₂.extBut b o hb e) (by obtain ⟨o, ho, _⟩ := hit₂; exact ⟨o, ho⟩)
    have hdrop : xs.drop j = xs[j] :: xs.drop (j + 1) := List.drop_eq_getElem_cons hjl
    rw [hdrop] at hrest
    obtain ⟨c, hc2, hr2⟩ := Out.bind_ok hrest
    have hvr : VR F' (items'[j]'(by omega)) xs[j] := by
      obtain ⟨v, h1, h2⟩ := hitm'.get (j := j) (d := xs[j]) (by simp [hjl])
      rw [Array.getElem?_toList, hvj] at h1; cases h1; exact h2
    refine wpAny_assign_Name (FR.store (s := { s with heap := a₂, toks := tk }) G0 R₂ hx (o := false) (d := xs[j]) (.inl ⟨rfl, hvr⟩) fun a₃ t₃ R₃ same₃ => ?_)
    refine wpAny_execs_cons (wpAny_Assign_Name (hi _ _ _ _ _ hc2 A env F' _ hA R₃.er _ _ fun v h₄ t₄ F₄ x₄ _ vr => ?_) (swaps_not hc _ _))
    refine FR.store (s := { s with heap := h₄, toks := t₄ }) G0 (R₃.ext x₄) hy (o := false) (d := c) (.inl ⟨rfl, vr rfl⟩) fun a₅ t₅ R₅ same₅ => wpAny_execs_nil ?_
    have sR : ∀ b, RS b → a₅.get? b = s.heap.get? b := fun b hb => by
      have hne : b ≠ I := fun q => by
        obtain ⟨_, _, o, e⟩ := R.res b hb
        rw [q, hI0] at e; cases e
      exact (same₅ b (.inl hb)).trans ((R₃.same x₄ b (.inl hb)).trans ((same₃ b (.inl hb)).trans ((same₂ b (.inl hb) hne).trans (same b hb))))
    refine ⟨_, Nat.sub_lt_sub_left (by omega) (Nat.lt_succ_self j), a₅, t₅, F₄, _, _, j + 1, rfl, R₅, mono.trans (R₃.grow x₄), sR, hit₂.at fun o e => ?_, ?_, ?_, hr2, hjl, rfl⟩
    · rw [same₅ I hRI, R₃.same x₄ I hRI, same₃ I hRI]; exact e
    · rw [if_neg hzy, if_neg hzt]; exact hv'
    · unfold upd; rw [if_neg hzy, if_neg hzt]; exact hρ'
  · obtain rfl : j = xs.length := by omega
    have hnone : items'[xs.length]? = none := by rw [Array.getElem?_eq_none_iff]; omega
    refine wpAny_pyNext_list_end hA.handled hit' (isList_of ha') hnone fun a₂ hk₂ => wpAny_execs_nil ?_
    rw [List.drop_length] at hrest
    cases hrest
    have hnI : ¬ RS I := fun hb => by
      obtain ⟨_, _, o, e⟩ := R.res I hb
      rw [hI0] at e; cases e
    obtain ⟨R₂, same₂⟩ := R'.tickOff G0 hnI (fun b o hb e => hk₂ b o hb e)
    exact k a₂ tk F' val' _ R₂ mono (fun b hb => (same₂ b hb).trans (same b hb)) rfl
end
end Mine

/-! Dst -/
namespace Mine
section
variable {prog : Program} {w : World} {A : Around} {F : Fz} {s : Shared} {E : Value → Shared → Prop}
theorem ents_list2 : ∀ {L : List DictEntry} {rows : List (List Int)}, VRs F (L.map (·.key)) (rows.map tupD) → VRs F (L.map (·.val)) (rows.map fun _ => .int 1) → L.map (·.hash) = rows.map hashT →
    ∃ xs : List (List Int × Addr × Value), L = xs.map (entryOfKey (tupleKind (intKind prog w))) ∧ xs.map (·.1) = rows ∧ ∀ x ∈ xs, VR F (.ref x.2.1) (tupD x.1) ∧ VR F x.2.2 (.int 1)
  | [], [], _, _, _ => ⟨[], rfl, rfl, fun x hx => by cases hx⟩
  | [], _ :: _, h, _, _ => by cases h
  | _ :: _, [], h, _, _ => by cases h
  | e :: L, r :: rows, h, h', hh => by
    rw [List.map_cons, List.map_cons] at h h' hh
    injection hh with h1 h2
    cases h with
    | cons hv hr =>
      cases h' with
      | cons hv' hr' =>
        obtain ⟨xs, x1, x2, x3⟩ := ents_list2 hr hr' h2
        obtain ⟨a, o, items, n, he, ha, hc, hd, hi⟩ := tupF hv
        refine ⟨(r, a, e.val) :: xs, ?_, by rw [List.map_cons, x2], fun x hx => ?_⟩
        · rw [List.map_cons, ← x1]
          congr 1
          obtain ⟨eh, ek, ev⟩ := e
          dsimp only at he h1
          subst he h1
          rfl
        · rcases List.mem_cons.mp hx with q | q
          · subst q; exact ⟨by rw [← he]; exact hv, hv'⟩
          · exact x3 x q
theorem vr_key {h : Heap} {a : Addr} {r : List Int} (fin : ∀ b o, F b = some o → h.get? b = some o) (x : VR F (.ref a) (tupD r)) : (tupleKind (intKind prog w)).is h r a := by
  obtain ⟨b, o, items, n, e, ha, hc, hd, hi⟩ := tupF x
  cases e
  exact ⟨o, items, n, fin _ _ ha, hc, hd, itemsAre_of hi⟩
theorem ents_of {h : Heap} {d : Addr} {xs : List (List Int × Addr × Value)} (hm : h.DictOfH (tupleKind (intKind prog w)) d xs) (hk : ∀ x ∈ xs, VR F (.ref x.2.1) (tupD x.1) ∧ VR F x.2.2 (.int 1)) (lo : (d == sysModules) = false) :
    ∃ o es n, h.get? d = some o ∧ o.ExactDict ∧ o.data = .dict es n ∧ DEnts F d es (xs.map (·.1)) := by
  obtain ⟨o, es, n, ho, hc, hd, he, hz, hn⟩ := hm
  clear hz
  refine ⟨o, es, n, ho, hc, hd, ?_, ?_, ?_, hn, lo⟩
  · rw [he, List.map_map, List.map_map]
    clear he hd hc ho hn
    induction xs with
    | nil => exact .nil
    | cons x r ih => exact .cons (hk x List.mem_cons_self).1 (ih fun y hy => hk y (List.mem_cons_of_mem _ hy))
  · rw [he, List.map_map, List.map_map]
    clear he hd hc ho hn
    induction xs with
    | nil => exact .nil
    | cons x r ih => exact .cons (hk x List.mem_cons_self).2 (ih fun y hy => hk y (List.mem_cons_of_mem _ hy))
  · rw [he, List.map_map, List.map_map]; rfl
theorem stored_keys (xs : List (List Int × Addr × Value)) (r : List Int) (a : Addr) (v : Value) : (storedH xs r a v).map (·.1) = putT r (xs.map (·.1)) := by
  unfold storedH putT
  rw [atKey_mem]
  by_cases h : r ∈ xs.map (·.1)
  · rw [if_pos (by simpa using h), if_pos h, keys_map_putAt]
  · rw [if_neg (by simpa using h), if_neg h, List.map_append]; rfl
theorem stored_all {xs : List (List Int × Addr × Value)} {r : List Int} {a : Addr} {v : Value} (hk : ∀ x ∈ xs, VR F (.ref x.2.1) (tupD x.1) ∧ VR F x.2.2 (.int 1)) (ha : VR F (.ref a) (tupD r)) (hv : VR F v (.int 1)) : ∀ x ∈ storedH xs r a v, VR F (.ref x.2.1) (tupD x.1) ∧ VR F x.2.2 (.int 1) := by
  intro x hx
  unfold storedH at hx
  split at hx
  · obtain ⟨y, hy, rfl⟩ := List.mem_map.mp hx
    unfold putAt
    split
    · exact ⟨(hk y hy).1, hv⟩
    · exact hk y hy
  · rcases List.mem_append.mp hx with hx | hx
    · exact hk x hx
    · rw [List.mem_singleton.mp hx]; exact ⟨ha, hv⟩

theorem put_dict {a : Addr} {o : Obj} {es : Array DictEntry} {n : Nat} {rows : List (List Int)} {r : List Int} {kv vv : Value} {Q : Unit → Shared → Prop} (fin : ∀ b o, F b = some o → s.heap.get? b = some o) (ha : s.heap.get? a = some o) (c : o.ExactDict) (d : o.data = .dict es n) (x : DEnts F a es rows)
    (hk : VR F kv (tupD r)) (hv : VR F vv (.int 1)) (hu : A.units + 200 < cLine) (hl : rows.length < lim)
    (k : ∀ h' tk o' es' n', Heap.SameBut a s.heap h' → h'.get? a = some o' → o'.ExactDict → o'.data = .dict es' n' → DEnts F a es' (putT r rows) → Q () { s with heap := h', toks := tk }) :
    wpAny (model prog w) A (setItem (.ref a) kv vv) Q E s := by
  obtain ⟨xs, x1, x2, x3⟩ := ents_list2 (prog := prog) (w := w) x.key x.val x.hash
  have hm : s.heap.DictOfH (tupleKind (intKind prog w)) a xs := ⟨o, es, n, ha, c, d, x1, fun y hy => vr_key fin (x3 y hy).1, by rw [x2]; exact x.nodup⟩
  obtain ⟨b, o', items, m, rfl, _⟩ := tupF hk
  have hxl : xs.length = rows.length := by rw [← x2, List.length_map]
  rw [lim_eq] at hl
  refine wpAny_setItem_heap (knd := tupleKind (intKind prog w)) (hsz := by rw [sizeLine_eq]; omega) (tupleKind_room_in1 (by omega)) (vr_key fin hk) hm fun h' hm' hs => ?_
  obtain ⟨o2, es2, n2, e1, e2, e3, e4⟩ := ents_of hm' (stored_all x3 hk hv) x.low
  rw [stored_keys, x2] at e4
  exact k _ _ o2 es2 n2 hs e1 e2 e3 e4

/-- a display of one pair -/
theorem disp_one {env : Env} {k v : Expr} {pos : Pos} {r : List Int} (fin : ∀ b o, F b = some o → s.heap.get? b = some o) (low : sysModules < s.heap.objs.size) (hu : A.units + 200 < cLine)
    {Q : Value → Shared → Prop}
    (hk : ∀ (Q : Value → Shared → Prop) (E : Value → Shared → Prop), (∀ kv h1 tk1 F1, Ext F (s.heap.push { cls := .type "dict", data := .dict #[] }) F1 h1 → VR F1 kv (tupD r) → Q kv { s with heap := h1, toks := tk1 }) → wpAny (model prog w) A (eval k env) Q E { s with heap := s.heap.push { cls := .type "dict", data := .dict #[] } })
    (hv : ∀ h1 tk1 F1, Ext F (s.heap.push { cls := .type "dict", data := .dict #[] }) F1 h1 → ∀ (Q : Value → Shared → Prop) (E : Value → Shared → Prop), (∀ vv h2 tk2 F2, Ext F1 h1 F2 h2 → VR F2 vv (.int 1) → Q vv { s with heap := h2, toks := tk2 }) → wpAny (model prog w) A (eval v env) Q E { s with heap := h1, toks := tk1 })
    (go : ∀ a o es n h' tk F', Ext F s.heap F' h' → F' a = none → s.heap.get? a = none → h'.get? a = some o → o.ExactDict → o.data = .dict es n → DEnts F' a es [r] → Q (.ref a) { s with heap := h', toks := tk }) :
    wpAny (model prog w) A (eval (.Dict [some k] [v] pos) env) Q E s := by
  have hshape : (evalEachOpt [some k] env).zip ((evalEach [v] env).map fun v => do let x ← v; standAt pos; pure x) = [(eval k env, do let x ← eval v env; standAt pos; pure x)].map fun p => (some p.1, p.2) := rfl
  rw [arm_eval_Dict, hshape, dictDisplay_pairs _ (by simp) (by simp)]
  refine wpAny_bind (wpAny_standAt (wpAny_bind ?_))
  unfold subDict
  refine wpAny_bind (wpAny_alloc ?_)
  refine wpAny_bind (wpAny_holding ?_)
  rw [if_pos (by simp)]
  refine wpAny_bind (evalPairs_cons ?_)
  have hpush : ∀ b o, s.heap.get? b = some o → (s.heap.push { cls := .type "dict", data := .dict #[] }).get? b = some o := fun b o e => Heap.get?_push_of_some _ e
  have xp : Ext F s.heap F (s.heap.push { cls := .type "dict", data := .dict #[] }) := Ext.of_keep fin hpush
  have hd0 : (s.heap.push { cls := .type "dict", data := .dict #[] }).get? s.heap.objs.size = some { cls := .type "dict", data := .dict #[] } := Heap.get?_push_size _ rfl
  have lo : (s.heap.objs.size == sysModules) = false := beq_eq_false_iff_ne.mpr (Nat.ne_of_gt low)
  refine hk _ _ fun kv h1 tk1 F1 x1 kr => ?_
  refine wpAny_bind (hv h1 tk1 F1 x1 _ _ fun vv h2 tk2 F2 x2 vr => ?_)
  refine wpAny_bind (wpAny_standAt (wpAny_pure ?_))
  refine evalPairs_nil ?_
  refine wpAny_holding ?_
  rw [List.forIn_cons]
  obtain ⟨b, o', items, m, rfl, _⟩ := tupF kr
  have x12 := x1.trans x2
  have hd2 : h2.get? s.heap.objs.size = some { cls := .type "dict", data := .dict #[] } := x12.keep _ _ hd0
  have hF0 : F s.heap.objs.size = none := fresh_F fin (none_size _)
  have hF2 : F2 s.heap.objs.size = none := by
    cases q : F2 s.heap.objs.size with
    | none => rfl
    | some o =>
      rcases x12.new _ _ q with q | q
      · rw [hF0] at q; cases q
      · rw [hd0] at q; cases q
  have hm : h2.DictOfH (tupleKind (intKind prog w)) s.heap.objs.size [] := ⟨_, #[], 0, hd2, ⟨rfl, rfl, rfl⟩, rfl, rfl, (fun x hx => by cases hx), List.nodup_nil⟩
  refine wpAny_bind (wpAny_bind ?_)
  show wpAny _ _ (do dictSet s.heap.objs.size (.ref b) vv; pure (ForInStep.yield PUnit.unit)) _ _ _
  refine wpAny_bind ((wpAny_dictSet_heap (s := { s with heap := h2, toks := tk2 }) (knd := tupleKind (intKind prog w)) (hsz := Nat.zero_le _) (show A.units < cLine by omega) (k := r) (vr_key x12.fin (kr.mono x2.mono)) hm fun h3 hm3 hs3 => wpAny_pure ?_))
  dsimp only
  rw [List.forIn_nil]
  obtain ⟨o2, es2, n2, e1, e2, e3, e4⟩ := ents_of (F := F2) hm3 (stored_all (fun x hx => by cases hx) (kr.mono x2.mono) vr) lo
  rw [stored_keys] at e4
  refine wpAny_pure (wpAny_pure (wpAny_pure (wpAny_pure (go s.heap.objs.size o2 es2 n2 h3 _ F2 ?_ hF2 (none_size _) e1 e2 e3 e4))))
  have x02 := xp.trans x12
  exact ⟨fun b o e => hs3.extBut b o (Nat.ne_of_lt (Heap.lt_size e)) (x02.keep b o e), x02.mono, fun b o e => hs3.extBut b o (fun q => by rw [q, hF2] at e; cases e) (x02.fin b o e), x02.new⟩
end
end Mine

/-! St5 -/
namespace Mine

section
variable {K : Frag} {mg mb : Str → Option Value} {prog : Program} {w : World} {i : In} {n : Nat} {A : Around} {sc : Scope} {env : Env} {h0 : Heap} {RS : Addr → Prop} {F : Fz} {ρ ρ' : Rho} {val : Str → Option Value} {s : Shared} {r : Option D} {h : Heap}

theorem FR.stor_newO (R : FR K mg mb sc env h0 RS F ρ val h) {F' : Fz} {h' : Heap} (x : Ext F h F' h') {a : Addr} {ob : Obj} {d : D} {y : Str} (ha : F' a = none) (h0a : h.get? a = none) (hg : h'.get? a = some ob) (hr : OwnO F' a ob d) :
    Stor env h0 RS F' ρ val h' y true (.ref a) d := by
  refine .inr ⟨rfl, a, ob, rfl, hg, hr, fun q => ?_, ⟨none_back R.keep h0a, ha, fun hb => ?_⟩, fun z dz hz hv => ?_⟩
  · obtain ⟨o, e⟩ := R.exL
    rw [← q, h0a] at e; cases e
  · obtain ⟨_, _, o, e⟩ := R.res a hb
    rw [h0a] at e; cases e
  · obtain ⟨a', _, hv', e, _⟩ := R.own z dz hz
    rw [hv] at hv'; cases hv'
    rw [h0a] at e; cases e
theorem FR.stor_new (R : FR K mg mb sc env h0 RS F ρ val h) {F' : Fz} {h' : Heap} (x : Ext F h F' h') {a : Addr} {items : Array Value} {k : Nat} {ds : List D} {y : Str} (ha : F' a = none) (h0a : h.get? a = none) (hg : h'.get? a = some (plainL items k)) (hr : VRs F' items.toList ds) :
    Stor env h0 RS F' ρ val h' y true (.ref a) (.list ds) := R.stor_newO x ha h0a hg (.inl ⟨_, _, _, rfl, rfl, hr⟩)

theorem assign_ok (hi : SoundE K mg mb prog w i n) (hfr : SoundF K mg mb prog w i n) (hu : SoundU K mg mb prog w i n) {x : Str} {xp pos : Pos} {e : Expr} {d : D} (hx : localOrCell sc x = true) (hc : freshE e || notComp e)
    (h : i.ev sc (frz ρ (alE K e)) (freshE e) e = .ok d) (hA : AOk A n) (G0 : Glb K mg mb h0) (R : FR K mg mb sc env h0 RS F ρ val s.heap) :
    StOk K mg mb prog w A sc env h0 RS F s (upd (frz ρ (alE K e)) x (freshE e) d) none (exec (.Assign [.Name x xp] e pos) env) := by
  intro Q E k
  obtain ⟨m1, R1⟩ := R.frz (alE K e)
  cases hf : freshE e with
  | false =>
    rw [hf] at hc h k
    refine wpAny_Assign_Name (hi _ _ _ _ _ h A env _ s hA R1.er _ _ fun v h₁ tk₁ F₁ x₁ vw vr => ?_) (swaps_not (by simpa using hc) _ _)
    exact FR.store (s := { s with heap := h₁, toks := tk₁ }) G0 (R1.ext x₁) hx (o := false) (d := d) (.inl ⟨rfl, vr rfl⟩) fun h' tk R' same => k h' tk _ _ _ R' (m1.trans (R1.grow x₁)) (fun b hb => (same b hb).trans (R1.same x₁ b hb)) rfl
  | true =>
    rw [hf] at h k
    obtain ⟨ds, rfl, go⟩ := hfr _ _ _ _ _ hf h
    have plain : swapsWith e (some (.Name x xp)) pos.line env = pure false → wpAny (model prog w) A (exec (.Assign [.Name x xp] e pos) env) Q E s := fun hsw => by
      refine wpAny_Assign_Name (go A env _ s hA R1.er _ _ fun a items nn h₁ tk₁ F₁ x₁ ha h0a hg hr => ?_) hsw
      exact FR.store (s := { s with heap := h₁, toks := tk₁ }) G0 (R1.ext x₁) hx (o := true) (d := .list ds) (R1.stor_new x₁ ha h0a hg hr) fun h' tk R' same => k h' tk _ _ _ R' (m1.trans (R1.grow x₁)) (fun b hb => (same b hb).trans (R1.same x₁ b hb)) rfl
    by_cases hnc : notComp e = true
    · exact plain (swaps_not hnc _ _)
    · cases e with
      | ListComp elt gens csc cp =>
        obtain ⟨bb, hbb⟩ : ∃ bb, swapsWith (.ListComp elt gens csc cp) (some (.Name x xp)) pos.line env = pure bb := ⟨_, rfl⟩
        cases bb with
        | false => exact plain hbb
        | true =>
          obtain ⟨ds', e', hcomp⟩ := hu _ _ _ _ _ _ _ _ h
          cases e'
          rw [exec_Assign_Name_used _ _ _ _ hbb]
          refine wpAny_bind (wpAny_standAt (wpAny_bind ?_))
          show wpAny _ A (do let _ ← comprehension (.ListComp elt gens csc cp) csc env (firstIterPos gens cp) (newList []) (firstAsync gens) (firstIter gens env) (some (assign (.Name x xp) env))) _ _ s
          refine wpAny_bind (wpAny_mono (hcomp A env _ s (some (assign (.Name x xp) env)) (fun _ s' => Q .next s') E _ hA R1.er fun D C h₁ tk₁ F₁ items kk m' x₁ hD hD0 hget hit hns hC hC0 hDC => ?_) (fun _ s' hq => wpAny_pure (wpAny_pure hq)) fun _ _ e => e)
          show wpAny _ A (assign (.Name x xp) env (.ref D)) _ _ _
          have R2 := R1.reserve x₁ hC0 hC (by obtain ⟨o, _, _, ho, _⟩ := hns; exact ⟨o, ho⟩)
          have hnC : ¬ RS C := fun hb => by
            obtain ⟨_, _, o, e⟩ := R1.res C hb
            rw [hC0] at e; cases e
          have st : Stor env h0 (fun b => RS b ∨ b = C) F₁ (frz ρ (alE K (.ListComp elt gens csc cp))) val h₁ x true (.ref D) (.list ds) := by
            rcases R1.stor_new (y := x) x₁ hD hD0 hget hit with ⟨q, _⟩ | ⟨_, a, ob, q1, q2, q3, q4, q5, q6⟩
            · cases q
            · cases q1
              exact .inr ⟨rfl, _, ob, rfl, q2, q3, q4, q5.more hDC, q6⟩
          refine wpAny_assign_Name (FR.store (s := { s with heap := h₁, toks := tk₁ }) G0 R2 hx st fun h₂ tk₂ R₃ same₃ => ?_)
          obtain ⟨oC, esC, epC, hoC, hdC, hkC, hfC⟩ := hns
          refine ⟨m', ⟨oC, esC, epC, (same₃ C (.inr rfl)).trans hoC, hdC, hkC, hfC⟩, fun h₃ hs₃ => ?_⟩
          obtain ⟨R₄, same₄⟩ := R₃.tickOff G0 hnC (fun b o hb e => hs₃.extBut b o hb e)
          exact k h₃ _ _ _ _ R₄ (m1.trans (R1.grow x₁)) (fun b hb => (same₄ b hb).trans ((same₃ b (.inl hb)).trans (R1.same x₁ b hb))) rfl
      | List => exact absurd rfl hnc
      | BinOp => exact absurd rfl hnc
      | _ => cases hf

theorem ownL_ok {x : Str} {xs : List D} (h : ownL ρ x = .ok xs) : ρ x = some (true, .list xs) ∧ xs.length < lim := by
  unfold ownL at h
  split at h
  · rename_i ys hy
    split at h
    · rename_i hl
      cases h; exact ⟨hy, hl⟩
    · cases h
  · cases h
theorem intD_ok {d : D} {k : Int} (h : intD d = .ok k) : d = .int k := by
  unfold intD at h
  split at h
  · cases h; rfl
  · cases h
theorem posL_ok {k : Int} {n j : Nat} (h : posL k n = .ok j) : seqIndex? k n = some j := by
  unfold posL at h
  split at h
  · rename_i q; cases h; exact q
  · cases h

theorem VRs.setArr {F : Fz} {items : Array Value} {xs : List D} (r : VRs F items.toList xs) {j : Nat} {v : Value} {d : D} (hv : VR F v d) : VRs F (items.setIfInBounds j v).toList (xs.set j d) := by
  rw [Array.toList_setIfInBounds]; exact r.set hv

theorem setSub_ok (hi : SoundE K mg mb prog w i n) {x : Str} {ix e : Expr} {p1 p2 pos : Pos} {d : D} {k : Int} {xs : List D} {j : Nat} {ρ : Rho} (hx : localOrCell sc x = true) (hn : nmOk x = true) (hc : notComp e = true)
    (hd : i.ev sc (frz ρ (al K 30 false e)) false e = .ok d) (hk : i.ev sc (frz ρ (al K 30 false e)) true ix = .ok (.int k)) (ho : ownL (frz ρ (al K 30 false e)) x = .ok xs) (hj : posL k xs.length = .ok j)
    (hA : AOk A n) (G0 : Glb K mg mb h0) (R : FR K mg mb sc env h0 RS F ρ val s.heap) :
    StOk K mg mb prog w A sc env h0 RS F s (upd (frz ρ (al K 30 false e)) x true (.list (xs.set j d))) none (exec (.Assign [.Subscript (.Name x p1) ix p2] e pos) env) := by
  intro Q E kk
  obtain ⟨m1, R1⟩ := R.frz (al K 30 false e)
  obtain ⟨hρ, hlen⟩ := ownL_ok ho
  refine wpAny_Assign_Subscript (hi _ _ _ _ _ hd A env _ s hA R1.er _ _ fun v h₁ tk₁ F₁ x₁ vw vr => ?_) (swaps_not hc _ _)
  have R2 := R1.ext x₁
  obtain ⟨a, items, nn, hv, ha, hit, hp⟩ := R2.ownL hρ
  refine FR.name (s := { s with heap := h₁, toks := tk₁ }) R2 hx hn hv ?_
  refine hi _ _ _ _ _ hk A env F₁ _ hA R2.er _ _ fun kv h₂ tk₂ F₂ x₂ kw _ => ?_
  obtain ⟨t, rfl⟩ := kw.intv
  have R3 := R2.ext x₂
  have l1 := hit.length
  rw [Array.length_toList] at l1
  refine set_ok (s := { s with heap := h₂, toks := tk₂ }) (x₂.keep _ _ ha) (by rw [l1]; exact posL_ok hj) (by omega) fun h₃ n' hg hs₃ => ?_
  obtain ⟨R4, same4⟩ := R3.mut G0 hρ hv hs₃ hg ((hit.mono x₂.mono).setArr ((vr rfl).mono x₂.mono))
  exact kk h₃ tk₂ F₂ val _ R4 (m1.trans ((R1.grow x₁).trans (R2.grow x₂))) (fun b hb => (same4 b hb).trans ((R2.same x₂ b hb).trans (R1.same x₁ b hb))) rfl

theorem ownT_ok {x : Str} {rows : List (List Int)} (h : Mine.ownT ρ x = .ok rows) : ρ x = some (true, dictD rows) ∧ rows.length < lim := by
  unfold Mine.ownT at h
  split at h
  · rename_i kvs hy
    split at h
    · rename_i ts hk
      split at h
      · rename_i hl
        cases h
        exact ⟨by rw [hy, keysI_eq hk], hl⟩
      · cases h
    · cases h
  · cases h
theorem rowI_ok {d : D} {r : List Int} (h : rowI d = .ok r) : d = tupD r := by
  unfold rowI at h
  split at h
  · rename_i q; cases h; exact tupI_eq q
  · cases h
theorem oneI_ok {d : D} {u : Unit} (h : oneI d = .ok u) : d = .int 1 := by
  unfold oneI at h
  split at h
  · rfl
  · cases h
/-- a new dictionary, empty -/
theorem dict0_ok {x : Str} {xp dp pos : Pos} (hx : localOrCell sc x = true) (hA : AOk A n) (G0 : Glb K mg mb h0) (R : FR K mg mb sc env h0 RS F ρ val s.heap) :
    StOk K mg mb prog w A sc env h0 RS F s (upd ρ x true (dictD [])) none (exec (.Assign [.Name x xp] (.Dict [] [] dp) pos) env) := by
  intro Q E k
  refine wpAny_Assign_Name (wpAny_Dict_empty ?_) (swaps_not rfl _ _)
  have x₁ : Ext F s.heap F (s.heap.push { cls := .type "dict", data := .dict #[] }) := Ext.of_keep R.fin fun _ _ e => Heap.get?_push_of_some _ e
  have lo : (s.heap.objs.size == sysModules) = false := beq_eq_false_iff_ne.mpr (Nat.ne_of_gt (modules_low R.glb.nolimit))
  have st := R.stor_newO (y := x) (d := dictD []) x₁ (fresh_F R.fin (none_size _)) (none_size _) (Heap.get?_push_size _ rfl) (.inr ⟨#[], 0, [], ⟨rfl, rfl, rfl⟩, rfl, rfl, ⟨.nil, .nil, rfl, List.nodup_nil, lo⟩⟩)
  exact FR.store (s := { s with heap := s.heap.push { cls := .type "dict", data := .dict #[] } }) G0 (R.ext x₁) hx (o := true) st fun h' tk R' same => k h' tk _ _ _ R' (R.grow x₁) (fun b hb => (same b hb).trans (R.same x₁ b hb)) rfl
/-- .. of one pair -/
theorem dict1_ok (hi : SoundE K mg mb prog w i n) {x : Str} {xp dp pos : Pos} {ke ve : Expr} {r : List Int} (hx : localOrCell sc x = true) (hk : i.ev sc ρ false ke = .ok (tupD r)) (hv : i.ev sc ρ false ve = .ok (.int 1)) (hA : AOk A n) (G0 : Glb K mg mb h0) (R : FR K mg mb sc env h0 RS F ρ val s.heap) :
    StOk K mg mb prog w A sc env h0 RS F s (upd ρ x true (dictD [r])) none (exec (.Assign [.Name x xp] (.Dict [some ke] [ve] dp) pos) env) := by
  intro Q E k
  have hu : A.units + 200 < cLine := by have := hA.units; omega
  have x₀ : Ext F s.heap F (s.heap.push { cls := .type "dict", data := .dict #[] }) := Ext.of_keep R.fin fun _ _ e => Heap.get?_push_of_some _ e
  have R0 := R.ext x₀
  refine wpAny_Assign_Name (disp_one R.fin (modules_low R.glb.nolimit) hu (r := r) (fun Q E kk => ?_) (fun h1 tk1 F1 x1 Q E kk => ?_) fun a o es nn h' tk F' x' ha h0a hg c d r' => ?_) (swaps_not rfl _ _)
  · exact hi _ _ _ _ _ hk A env F { s with heap := s.heap.push { cls := .type "dict", data := .dict #[] } } hA R0.er _ _ fun v h' tk' F' x' _ vr => kk v h' tk' F' x' (vr rfl)
  · exact hi _ _ _ _ _ hv A env F1 { s with heap := h1, toks := tk1 } hA (R0.ext x1).er _ _ fun v h' tk' F' x' _ vr => kk v h' tk' F' x' (vr rfl)
  · have st := R.stor_newO (y := x) (d := dictD [r]) x' ha h0a hg (.inr ⟨es, nn, [r], c, d, rfl, r'⟩)
    exact FR.store (s := { s with heap := h', toks := tk }) G0 (R.ext x') hx (o := true) st fun h2 tk2 R' same => k h2 tk2 _ _ _ R' (R.grow x') (fun b hb => (same b hb).trans (R.same x' b hb)) rfl
/-- a key is laid in an own dictionary -/
theorem setDict_ok (hi : SoundE K mg mb prog w i n) {x : Str} {ix e : Expr} {p1 p2 pos : Pos} {r : List Int} {rows : List (List Int)} (hx : localOrCell sc x = true) (hn : nmOk x = true) (hc : notComp e = true)
    (hd : i.ev sc ρ false e = .ok (.int 1)) (hk : i.ev sc ρ false ix = .ok (tupD r)) (ho : Mine.ownT ρ x = .ok rows)
    (hA : AOk A n) (G0 : Glb K mg mb h0) (R : FR K mg mb sc env h0 RS F ρ val s.heap) :
    StOk K mg mb prog w A sc env h0 RS F s (upd ρ x true (dictD (putT r rows))) none (exec (.Assign [.Subscript (.Name x p1) ix p2] e pos) env) := by
  intro Q E kk
  have hu : A.units + 200 < cLine := by have := hA.units; omega
  obtain ⟨hρ, hlen⟩ := ownT_ok ho
  refine wpAny_Assign_Subscript (hi _ _ _ _ _ hd A env _ s hA R.er _ _ fun v h₁ tk₁ F₁ x₁ vw vr => ?_) (swaps_not hc _ _)
  have R2 := R.ext x₁
  refine FR.name (s := { s with heap := h₁, toks := tk₁ }) R2 hx hn (v := .ref (R2.ownT hρ).choose) (by have := (R2.ownT hρ).choose_spec; obtain ⟨o, es, nn, hv, _⟩ := this; exact hv) ?_
  obtain ⟨o, es, nn, hv, ha, c, d, hit, nl, hp⟩ := (R2.ownT hρ).choose_spec
  generalize (R2.ownT hρ).choose = a at *
  refine hi _ _ _ _ _ hk A env F₁ _ hA R2.er _ _ fun kv h₂ tk₂ F₂ x₂ kw kr => ?_
  have R3 := R2.ext x₂
  refine put_dict (s := { s with heap := h₂, toks := tk₂ }) R3.fin (x₂.keep _ _ ha) c d (hit.mono x₂.mono) (kr rfl) ((vr rfl).mono x₂.mono) hu hlen fun h₃ tk₃ o' es' n' hs₃ hg c' d' hit' => ?_
  obtain ⟨R4, same4⟩ := R3.mutO G0 hρ hv hs₃ hg (.inr ⟨es', n', _, c', d', rfl, hit'⟩)
  exact kk h₃ tk₃ F₂ val _ R4 ((R.grow x₁).trans (R2.grow x₂)) (fun b hb => (same4 b hb).trans ((R2.same x₂ b hb).trans (R.same x₁ b hb))) rfl

theorem augI_ok {op : Operator} {a b : Int} {c : D} (h : augI op a b = .ok c) {t u : Tok} {Q : Value → Shared → Prop} {E : Value → Shared → Prop} (k : ∀ t' tk, ∃ x, c = .int x ∧ Q (.int x t') { s with toks := tk }) : wpAny (model prog w) A (inplaceOp op (.int a t) (.int b u)) Q E s := by
  unfold augI at h
  split at h
  · cases h
    refine P.iadd_int ?_
    obtain ⟨x, e, q⟩ := k s.toks (s.toks + 1)
    cases e; exact q
  · cases h
    refine P.isub_int ?_
    obtain ⟨x, e, q⟩ := k s.toks (s.toks + 1)
    cases e; exact q
  · cases h
theorem augI_int {op : Operator} {a b : Int} {c : D} (h : augI op a b = .ok c) : ∃ x, c = .int x := by
  unfold augI at h
  split at h <;> cases h <;> exact ⟨_, rfl⟩

theorem augName_ok (hi : SoundE K mg mb prog w i n) {x : Str} {p1 pos : Pos} {op : Operator} {e : Expr} {a b : Int} {c : D} (hx : localOrCell sc x = true) (hρ : ρ x = some (false, .int a)) (he : i.ev sc ρ true e = .ok (.int b)) (ho : augI op a b = .ok c)
    (hA : AOk A n) (G0 : Glb K mg mb h0) (R : FR K mg mb sc env h0 RS F ρ val s.heap) :
    StOk K mg mb prog w A sc env h0 RS F s (upd ρ x false c) none (exec (.AugAssign (.Name x p1) op e pos) env) := by
  intro Q E kk
  obtain ⟨v, hv, hr⟩ := R.vars x _ hρ
  cases hr
  rename_i t
  refine wpAny_AugAssign_Name (FR.load R hx hv ?_)
  refine hi _ _ _ _ _ he A env F s hA R.er _ _ fun bv h₁ tk₁ F₁ x₁ bw _ => ?_
  obtain ⟨u, rfl⟩ := bw.intv
  refine augI_ok (s := { s with heap := h₁, toks := tk₁ }) ho fun t' tk' => ?_
  obtain ⟨y, rfl⟩ := augI_int ho
  refine ⟨y, rfl, ?_⟩
  exact FR.store (s := { s with heap := h₁, toks := tk' }) G0 (R.ext x₁) hx (o := false) (d := .int y) (.inl ⟨rfl, .int _ _⟩) fun h' tk R' same => kk h' tk _ _ _ R' (R.grow x₁) (fun b hb => (same b hb).trans (R.same x₁ b hb)) rfl

theorem augSub_ok (hi : SoundE K mg mb prog w i n) {x : Str} {ix e : Expr} {p1 p2 pos : Pos} {op : Operator} {k a b : Int} {xs : List D} {j : Nat} {c : D} (hs : notSlice ix = true) (hx : localOrCell sc x = true) (hn : nmOk x = true)
    (hk : i.ev sc ρ true ix = .ok (.int k)) (ho : ownL ρ x = .ok xs) (hold : idxD (.list xs) k = .ok (.int a)) (he : i.ev sc ρ true e = .ok (.int b)) (hc : augI op a b = .ok c) (hj : posL k xs.length = .ok j)
    (hA : AOk A n) (G0 : Glb K mg mb h0) (R : FR K mg mb sc env h0 RS F ρ val s.heap) :
    StOk K mg mb prog w A sc env h0 RS F s (upd ρ x true (.list (xs.set j c))) none (exec (.AugAssign (.Subscript (.Name x p1) ix p2) op e pos) env) := by
  intro Q E kk
  obtain ⟨hρ, hlen⟩ := ownL_ok ho
  obtain ⟨ad, items, nn, hv, ha, hit, hp⟩ := R.ownL hρ
  refine wpAny_AugAssign_SubscriptAny (FR.name R hx hn hv ?_) (by intros; cases ix <;> first | rfl | cases hs)
  refine hi _ _ _ _ _ hk A env F _ hA R.er _ _ fun kv h₂ tk₂ F₂ x₂ kw _ => ?_
  obtain ⟨t, rfl⟩ := kw.intv
  have R3 := R.ext x₂
  refine idx_ok (s := { s with heap := h₂, toks := tk₂ }) hold x₂.fin ((VW.own (F := F₂) (x₂.keep _ _ ha) (hit.mono x₂.mono))) true _ _ fun ov h₃ tk₃ F₃ x₃ ow _ => ?_
  obtain ⟨t3, rfl⟩ := ow.intv
  have R4 := R3.ext x₃
  refine hi _ _ _ _ _ he A env F₃ _ hA R4.er _ _ fun bv h₄ tk₄ F₄ x₄ bw _ => ?_
  obtain ⟨u, rfl⟩ := bw.intv
  have R5 := R4.ext x₄
  refine augI_ok (s := { s with heap := h₄, toks := tk₄ }) hc fun t' tk' => ?_
  obtain ⟨y, rfl⟩ := augI_int hc
  refine ⟨y, rfl, ?_⟩
  have l1 := hit.length
  rw [Array.length_toList] at l1
  have x24 := (x₂.trans x₃).trans x₄
  refine set_ok (s := { s with heap := h₄, toks := tk' }) (x24.keep _ _ ha) (by rw [l1]; exact posL_ok hj) (by omega) fun h₅ n' hg hs₅ => ?_
  obtain ⟨R6, same6⟩ := R5.mut G0 hρ hv hs₅ hg ((hit.mono x24.mono).setArr (.int y t'))
  exact kk h₅ tk' F₄ val _ R6 (R.grow x24) (fun b hb => (same6 b hb).trans (R.same x24 b hb)) rfl

theorem append_ok (hi : SoundE K mg mb prog w i n) {x : Str} {e : Expr} {p1 ap cp pos : Pos} {xs ys : List D} {d : D} (hx : localOrCell sc x = true) (hn : nmOk x = true) (hs : notStar e = true) (hl : (ap.endLine == cp.line) = true)
    (h1 : ownL ρ x = .ok ys) (he : i.ev sc (frz ρ (al K 30 false e)) false e = .ok d) (ho : ownL (frz ρ (al K 30 false e)) x = .ok xs)
    (hA : AOk A n) (G0 : Glb K mg mb h0) (R : FR K mg mb sc env h0 RS F ρ val s.heap) :
    StOk K mg mb prog w A sc env h0 RS F s (upd (frz ρ (al K 30 false e)) x true (.list (xs ++ [d]))) none (exec (.Expr (.Call (.Attribute (.Name x p1) "append" ap) [e] [] cp) pos) env) := by
  intro Q E kk
  obtain ⟨m1, R1⟩ := R.frz (al K 30 false e)
  obtain ⟨hρ, hlen⟩ := ownL_ok ho
  obtain ⟨ad, items, nn, hv, ha, hit, hp⟩ := R1.ownL hρ
  have hst : backTo cp (starEach [e] env) = [(false, eval e env)] := by
    rw [starEach_cons (by intro y p q; subst q; cases hs)]
    rfl
  refine wpAny_Expr (wpAny_Call_append rfl (by rw [hst]; rfl) hl hst (FR.name R1 hx hn hv ⟨ad, items, rfl, ⟨_, nn, ha, rfl, rfl, rfl⟩, ?_⟩)) (by unfold interactive; rw [R.kind]; rfl) rfl
  refine hi _ _ _ _ _ he A env _ s hA R1.er _ _ fun v h₁ tk₁ F₁ x₁ vw vr => ?_
  have R2 := R1.ext x₁
  have l1 := hit.length
  rw [Array.length_toList] at l1
  unfold lim at hlen
  refine wpAny_list_append_plain (s := { s with heap := h₁, toks := tk₁ }) ⟨nn, x₁.keep _ _ ha⟩ (fun h₂ hpl hs₂ => ?_) (by rw [sizeLine_eq]; omega)
  obtain ⟨n2, hg⟩ := hpl
  obtain ⟨R3, same3⟩ := R2.mut G0 hρ hv hs₂ hg ((hit.mono x₁.mono).snoc (vr rfl))
  exact kk h₂ tk₁ F₁ val _ R3 (m1.trans (R1.grow x₁)) (fun b hb => (same3 b hb).trans (R1.same x₁ b hb)) rfl

theorem stores_swapped {x y z : Str} {px py pz tp vp : Pos} {k tk : Nat} {e : Expr} (hfun : env.scope.kind = .function) (hx : env.kindOf x = some .local) (hy : env.kindOf y = some .local) (hxy : x ≠ y) (hl : (px.line == py.line) = true) (hs : notStar e = true) (hz : nmOk z = true) :
    swappedStores [.Tuple [.Name x px, .Name y py] k tp] (.Tuple [.Name z pz, e] tk vp) env = pure (some [x, y]) := by
  have hb : (env.blockKind != .function) = false := by unfold Env.blockKind; rw [hfun]; rfl
  have hst : ([.Name z pz, e].any fun | .Starred .. => true | _ => false) = false := by cases e <;> first | rfl | cases hs
  have hf : [Expr.Name z pz, e].all (foldedForSure 8) = false := rfl
  have hc : [Expr.Name z pz, e].all (constantsAlone 8) = false := by
    have : (z == ("__debug__" : Str)) = false := by
      unfold nmOk at hz
      cases q : z == ("__debug__" : Str)
      · rfl
      · rw [q] at hz; cases hz
    show ((z == ("__debug__" : Str)) && _) = false
    rw [this]; rfl
  have hl' : py.line = px.line := (beq_iff_eq.mp hl).symm
  have hyx : (y == x) = false := beq_eq_false_iff_ne.mpr (Ne.symm hxy)
  have hxy' : (x == y) = false := beq_eq_false_iff_ne.mpr hxy
  have e1 : ([x, y] : List Str).eraseDups = [x, y] := by
    rw [List.eraseDups_cons]
    simp [hyx, List.eraseDups_cons]
  unfold swappedStores
  simp only [hb, List.length_cons, List.length_nil]
  rw [if_neg (by decide)]
  rw [if_neg (by cases e <;> first | (exact Bool.false_ne_true) | (cases hs))]
  simp only [List.filterMap_cons, List.filterMap_nil, hx, hy, List.head?_cons, Option.map_some, Option.getD_some, Expr.pos, hl', beq_self_eq_true, Bool.and_self, if_true, e1]
  rw [if_neg (show ¬ (([x, y].length != 0 + 1 + 1 || [x, y].length != [x, y].length) = true) from Bool.false_ne_true), hf, if_neg Bool.false_ne_true, hc, if_neg Bool.false_ne_true]

theorem swap_ok (hi : SoundE K mg mb prog w i n) {x y z : Str} {px py pz tp vp pos : Pos} {k tk : Nat} {e : Expr} {d1 d2 : D} (hx : sc.names.lookup x = some .local) (hy : sc.names.lookup y = some .local) (hxy : x ≠ y) (hl : (px.line == py.line) = true) (hs : notStar e = true) (hz : nmOk z = true)
    (hd : i.ev sc (frz ρ (al K 30 false (.Tuple [.Name z pz, e] tk vp))) false (.Tuple [.Name z pz, e] tk vp) = .ok (.tuple [d1, d2]))
    (hA : AOk A n) (G0 : Glb K mg mb h0) (R : FR K mg mb sc env h0 RS F ρ val s.heap) :
    StOk K mg mb prog w A sc env h0 RS F s (upd (upd (frz ρ (al K 30 false (.Tuple [.Name z pz, e] tk vp))) y false d2) x false d1) none (exec (.Assign [.Tuple [.Name x px, .Name y py] k tp] (.Tuple [.Name z pz, e] tk vp) pos) env) := by
  intro Q E kk
  obtain ⟨m1, R1⟩ := R.frz (al K 30 false (.Tuple [.Name z pz, e] tk vp))
  refine Assign_Tuple_swapped (names := [x, y]) (hi _ _ _ _ _ hd A env _ s hA R1.er _ _ fun v h₁ tk₁ F₁ x₁ vw vr => ?_) rfl (stores_swapped R.kind (by rw [R.kinds, hx]) (by rw [R.kinds, hy]) hxy hl hs hz)
  have R2 := R1.ext x₁
  cases vr rfl with
  | tuple ha hc hdd hr =>
    rename_i a o items nn
    generalize hil : items.toList = il at hr
    cases hr with
    | cons r1 rs =>
      cases rs with
      | cons r2 rs2 =>
        cases rs2
        rename_i v1 v2
        have hit : IsTup h₁ a items := ⟨o, x₁.fin _ _ ha, hc, nn, hdd⟩
        have hsz : items.size = 2 := by rw [← Array.length_toList, hil]; rfl
        rw [show ([x, y] : List Str).length = items.size by rw [hsz]; rfl]
        refine unpackItems_tuple (s := { s with heap := h₁, toks := tk₁ }) hA.handled hit fun h₂ he₂ => ?_
        rw [hil]
        have x₂ : Ext F₁ h₁ F₁ h₂ := Ext.of_keep x₁.fin fun b o e => he₂ b o (Nat.ne_of_lt (Heap.lt_size e)) e
        have R3 := R2.ext x₂
        refine assignInOrder_cons (bindName_ (FR.store (s := { s with heap := h₂, toks := tk₁ }) G0 R3 (localOrCell_iff.mpr (.inl hy)) (o := false) (d := d2) (.inl ⟨rfl, r2⟩) fun h3 tk3 R4 same4 => ?_))
        refine assignInOrder_cons (bindName_ (FR.store (s := { s with heap := h3, toks := tk3 }) G0 R4 (localOrCell_iff.mpr (.inl hx)) (o := false) (d := d1) (.inl ⟨rfl, r1⟩) fun h4 tk4 R5 same5 => ?_))
        refine assignInOrder_nil ?_
        exact kk h4 tk4 _ _ _ R5 (m1.trans ((R1.grow x₁).trans (R2.grow x₂))) (fun b hb => (same5 b hb).trans ((same4 b hb).trans ((R2.same x₂ b hb).trans (R1.same x₁ b hb)))) rfl

theorem exN_ok (hi : SoundE K mg mb prog w i n) (ht : SoundT K mg mb prog w i n) (hfr : SoundF K mg mb prog w i n) (hu : SoundU K mg mb prog w i n) (hs : SoundS K mg mb prog w i n) : SoundS K mg mb prog w (nxt K i) n := by
  intro sc ρ st ρ' r h A env h0 RS F val s hA G0 R
  replace h : exN K i sc ρ st = .ok (ρ', r) := h
  unfold exN at h
  split at h
  · cases h
    exact fun Q E k => wpAny_Pass (k s.heap s.toks F val .next R (.refl _ _) (fun _ _ => rfl) rfl)
  · split at h
    · rename_i hc
      cases h
      exact dict0_ok hc hA G0 R
    · cases h
  · split at h
    · rename_i hc
      rw [Bool.and_eq_true, Bool.and_eq_true] at hc
      obtain ⟨d, hd, h2⟩ := Out.bind_ok h
      obtain ⟨c, hcc, h3⟩ := Out.bind_ok h2
      obtain ⟨r, hr, h4⟩ := Out.bind_ok h3
      obtain ⟨u, hu1, h5⟩ := Out.bind_ok h4
      cases h5
      exact dict1_ok hi hc.1.1 (rowI_ok hr ▸ hd) (oneI_ok hu1 ▸ hcc) hA G0 R
    · cases h
  · split at h
    · rename_i hc
      rw [Bool.and_eq_true] at hc
      obtain ⟨d, hd, h2⟩ := Out.bind_ok h
      cases h2
      exact assign_ok hi hfr hu hc.1 hc.2 hd hA G0 R
    · cases h
  · split at h
    · rename_i hc
      rw [Bool.and_eq_true, Bool.and_eq_true, Bool.and_eq_true] at hc
      split at h
      · obtain ⟨d, hd, h2⟩ := Out.bind_ok h
        obtain ⟨u, hu1, h3⟩ := Out.bind_ok h2
        obtain ⟨kd, hk, h4⟩ := Out.bind_ok h3
        obtain ⟨r, hr, h5⟩ := Out.bind_ok h4
        obtain ⟨rows, hrows, h6⟩ := Out.bind_ok h5
        cases h6
        exact setDict_ok hi hc.1.1.2 hc.1.2 hc.2 (oneI_ok hu1 ▸ hd) (rowI_ok hr ▸ hk) hrows hA G0 R
      obtain ⟨d, hd, h2⟩ := Out.bind_ok h
      obtain ⟨kd, hk, h3⟩ := Out.bind_ok h2
      obtain ⟨k, hk2, h4⟩ := Out.bind_ok h3
      obtain ⟨xs, hxs, h5⟩ := Out.bind_ok h4
      obtain ⟨j, hj, h6⟩ := Out.bind_ok h5
      cases h6
      exact setSub_ok hi hc.1.1.2 hc.1.2 hc.2 hd (intD_ok hk2 ▸ hk) hxs hj hA G0 R
    · cases h
  · split at h
    · rename_i hc
      obtain ⟨d, hd, h2⟩ := Out.bind_ok h
      split at h2
      · cases h2
        rw [Bool.and_eq_true, Bool.and_eq_true, Bool.and_eq_true, Bool.and_eq_true, Bool.and_eq_true, beq_iff_eq, beq_iff_eq, bne_iff_ne] at hc
        exact swap_ok hi hc.1.1.1.1.1 hc.1.1.1.1.2 hc.1.1.1.2 hc.1.1.2 hc.1.2 hc.2 hd hA G0 R
      · cases h2
    · cases h
  · split at h
    · rename_i hc
      split at h
      · rename_i a hρ
        obtain ⟨d, hd, h2⟩ := Out.bind_ok h
        obtain ⟨b, hb, h3⟩ := Out.bind_ok h2
        obtain ⟨c, hcc, h4⟩ := Out.bind_ok h3
        cases h4
        exact augName_ok hi hc hρ (intD_ok hb ▸ hd) hcc hA G0 R
      · cases h
    · cases h
  · split at h
    · rename_i hc
      rw [Bool.and_eq_true, Bool.and_eq_true] at hc
      obtain ⟨kd, hk, h2⟩ := Out.bind_ok h
      obtain ⟨k, hk2, h3⟩ := Out.bind_ok h2
      obtain ⟨xs, hxs, h4⟩ := Out.bind_ok h3
      obtain ⟨old, hold, h5⟩ := Out.bind_ok h4
      obtain ⟨a, ha, h6⟩ := Out.bind_ok h5
      obtain ⟨d, hd, h7⟩ := Out.bind_ok h6
      obtain ⟨b, hb, h8⟩ := Out.bind_ok h7
      obtain ⟨c, hcc, h9⟩ := Out.bind_ok h8
      obtain ⟨j, hj, h10⟩ := Out.bind_ok h9
      cases h10
      exact augSub_ok hi hc.1.1 hc.1.2 hc.2 (intD_ok hk2 ▸ hk) hxs (intD_ok ha ▸ hold) (intD_ok hb ▸ hd) hcc hj hA G0 R
    · cases h
  · split at h
    · rename_i hc
      rw [Bool.and_eq_true, Bool.and_eq_true, Bool.and_eq_true, Bool.and_eq_true] at hc
      obtain ⟨ys, hys, h2⟩ := Out.bind_ok h
      obtain ⟨d, hd, h3⟩ := Out.bind_ok h2
      obtain ⟨xs, hxs, h4⟩ := Out.bind_ok h3
      cases h4
      have hnm := beq_iff_eq.mp hc.1.1.1.1
      subst hnm
      exact append_ok hi hc.1.1.1.2 hc.1.1.2 hc.1.2 hc.2 hys hd hxs hA G0 R
    · cases h
  · obtain ⟨c, hcc, h2⟩ := Out.bind_ok h
    refine fun Q E k => wpAny_If (ht _ _ _ _ hcc A env F s hA R.er _ _ fun h₁ tk₁ F₁ x₁ => ?_)
    have R1 := R.ext x₁
    cases c with
    | true =>
      simp only [if_true] at h2 ⊢
      exact execs_ok hs h2 (s := { s with heap := h₁, toks := tk₁ }) hA G0 R1 _ _ fun h' tk F' val' fl R' mono same hfl => k h' tk F' val' fl R' ((R.grow x₁).trans mono) (fun b hb => (same b hb).trans (R.same x₁ b hb)) hfl
    | false =>
      simp only [Bool.false_eq_true, if_false] at h2 ⊢
      exact execs_ok hs h2 (s := { s with heap := h₁, toks := tk₁ }) hA G0 R1 _ _ fun h' tk F' val' fl R' mono same hfl => k h' tk F' val' fl R' ((R.grow x₁).trans mono) (fun b hb => (same b hb).trans (R.same x₁ b hb)) hfl
  · split at h
    · rename_i hx
      split at h
      · split at h
        · rename_i hc
          simp only [Bool.and_eq_true, bne_iff_ne, ne_eq] at hc
          obtain ⟨xs, hxs, h2⟩ := Out.bind_ok h
          obtain ⟨ρ2, hf, h3⟩ := Out.bind_ok h2
          cases h3
          exact forI_ok hi hx hc.1.1.1.2 hc.1.1.2 hc.1.1.1.1.1 hc.1.1.1.1.2 hc.1.2 hc.2 hxs hf hA G0 R
        · cases h
      · obtain ⟨vs, hvs, h2⟩ := Out.bind_ok h
        exact for_ok hi hs hx hvs h2 hA G0 R
    · cases h
  · exact while_ok ht hs h hA G0 R
  · obtain ⟨d, hd, h2⟩ := Out.bind_ok h
    cases h2
    intro Q E k
    rename_i e pos
    obtain ⟨m1, R1⟩ := R.frz (al K 30 false e)
    refine wpAny_Return_some (hi _ _ _ _ _ hd A env _ s hA R1.er _ _ fun v h₁ tk₁ F₁ x₁ vw vr => ?_)
    exact k h₁ tk₁ F₁ val _ (R1.ext x₁) (m1.trans (R1.grow x₁)) (R1.same x₁) ⟨v, rfl, vr rfl⟩
  · cases h
end
end Mine

/-! Ca1 -/
namespace Mine

theorem nodupS_cons {x : Str} {r : List Str} (h : nodupS (x :: r) = true) : x ∉ r ∧ nodupS r = true := by
  unfold nodupS at h
  rw [Bool.and_eq_true] at h
  exact ⟨by simpa using h.1, h.2⟩
theorem nodupS_app : ∀ {a b : List Str}, nodupS (a ++ b) = true → nodupS a = true ∧ nodupS b = true ∧ ∀ x ∈ a, x ∉ b
  | [], b, h => ⟨rfl, h, fun x hx => by cases hx⟩
  | x :: a, b, h => by
    obtain ⟨h1, h2⟩ := nodupS_cons h
    obtain ⟨h3, h4, h5⟩ := nodupS_app h2
    refine ⟨?_, h4, fun y hy => ?_⟩
    · unfold nodupS
      rw [Bool.and_eq_true]
      exact ⟨by simpa using fun q => h1 (List.mem_append_left _ q), h3⟩
    · rcases List.mem_cons.mp hy with rfl | hy
      · exact fun q => h1 (List.mem_append_right _ q)
      · exact h5 y hy

theorem zip_lookup_none {α : Type} {x : Str} : ∀ {ns : List Str} {vs : List α}, x ∉ ns → (ns.zip vs).lookup x = none
  | [], vs, _ => by simp
  | n :: ns, [], _ => by simp
  | n :: ns, v :: vs, h => by
    rw [List.zip_cons_cons, List.lookup_cons]
    have : (x == n) = false := beq_eq_false_iff_ne.mpr fun e => h (e ▸ List.mem_cons_self)
    rw [this]
    exact zip_lookup_none fun q => h (List.mem_cons_of_mem _ q)
theorem zip_lookup_some {α : Type} {x : Str} : ∀ {ns : List Str} {vs : List α}, x ∈ ns → ns.length ≤ vs.length → ∃ v, (ns.zip vs).lookup x = some v
  | n :: ns, [], _, hl => by simp at hl
  | n :: ns, v :: vs, h, hl => by
    rw [List.zip_cons_cons, List.lookup_cons]
    cases hx : x == n with
    | true => exact ⟨v, rfl⟩
    | false =>
      rcases List.mem_cons.mp h with rfl | h
      · simp at hx
      · exact zip_lookup_some h (by simpa using hl)

theorem fm_congr {α β : Type} {f g : α → Option β} : ∀ {l : List α}, (∀ x ∈ l, f x = g x) → l.filterMap f = l.filterMap g
  | [], _ => rfl
  | x :: l, h => by
    rw [List.filterMap_cons, List.filterMap_cons, h x List.mem_cons_self, fm_congr fun y hy => h y (List.mem_cons_of_mem _ hy)]

/-- the slots' own order -/
theorem zip_back {α : Type} : ∀ {ns : List Str} {vs : List α}, nodupS ns = true → ns.length = vs.length → (ns.filterMap fun n => ((ns.zip vs).lookup n).map (n, ·)) = ns.zip vs
  | [], [], _, _ => rfl
  | [], v :: vs, _, h => by simp at h
  | n :: ns, [], _, h => by simp at h
  | n :: ns, v :: vs, h, hl => by
    obtain ⟨h1, h2⟩ := nodupS_cons h
    have ih := zip_back (ns := ns) (vs := vs) h2 (by simpa using hl)
    rw [List.zip_cons_cons, List.filterMap_cons]
    have e : ((n, v) :: ns.zip vs).lookup n = some v := by rw [List.lookup_cons, beq_self_eq_true]
    rw [e]
    simp only [Option.map_some]
    congr 1
    rw [← ih]
    refine fm_congr fun m hm => ?_
    have : (m == n) = false := beq_eq_false_iff_ne.mpr fun q => h1 (q ▸ hm)
    rw [List.lookup_cons, this, ih]

def addS (slots : List (Str × Value)) : List (Str × Value) → List (Str × Value)
  | [] => slots
  | (n, d) :: r => addS (if (slots.lookup n).isNone then slots ++ [(n, d)] else slots) r

theorem forIn_addS (f : Str × Value → List (Str × Value) → Sem (ForInStep (List (Str × Value))))
    (hf : ∀ n d c, f (n, d) c = if (c.lookup n).isNone then pure (.yield (c ++ [(n, d)])) else pure (.yield c)) :
    ∀ (l : List (Str × Value)) (c : List (Str × Value)), forIn l c f = pure (addS c l)
  | [], c => rfl
  | (n, d) :: r, c => by
    rw [List.forIn_cons, hf]
    unfold addS
    split
    · exact forIn_addS f hf r _
    · exact forIn_addS f hf r _

theorem addS_old {slots : List (Str × Value)} : ∀ {l : List (Str × Value)}, (∀ p ∈ l, (slots.lookup p.1).isNone = false) → addS slots l = slots
  | [], _ => rfl
  | (n, d) :: r, h => by
    unfold addS
    rw [h (n, d) List.mem_cons_self]
    exact addS_old fun p hp => h p (List.mem_cons_of_mem _ hp)
theorem lookup_app_none {α : Type} {x : Str} : ∀ {a b : List (Str × α)}, a.lookup x = none → b.lookup x = none → (a ++ b).lookup x = none
  | [], b, _, h => h
  | (n, v) :: a, b, h1, h2 => by
    rw [List.cons_append, List.lookup_cons]
    rw [List.lookup_cons] at h1
    cases hx : x == n with
    | true => rw [hx] at h1; cases h1
    | false => rw [hx] at h1; exact lookup_app_none h1 h2
theorem addS_new : ∀ {ns : List Str} {ds : List Value} {slots : List (Str × Value)}, nodupS ns = true → ns.length = ds.length → (∀ x ∈ ns, slots.lookup x = none) → addS slots (ns.zip ds) = slots ++ ns.zip ds
  | [], [], slots, _, _, _ => by simp [addS]
  | [], d :: ds, slots, _, h, _ => by simp at h
  | n :: ns, [], slots, _, h, _ => by simp at h
  | n :: ns, d :: ds, slots, hn, hl, h => by
    obtain ⟨h1, h2⟩ := nodupS_cons hn
    rw [List.zip_cons_cons]
    unfold addS
    rw [h n List.mem_cons_self]
    simp only [Option.isNone_none, if_true]
    rw [addS_new h2 (by simpa using hl) fun x hx => lookup_app_none (h x (List.mem_cons_of_mem _ hx)) (by
      have : (x == n) = false := beq_eq_false_iff_ne.mpr fun q => h1 (q ▸ hx)
      rw [List.lookup_cons, this]; rfl)]
    simp

theorem slots_eq {names : List Str} {vals ds : List Value} (hn : nodupS names = true) (h1 : vals.length ≤ names.length) (h2 : ds.length ≤ names.length) (h3 : names.length ≤ vals.length + ds.length) :
    addS (names.zip vals) ((names.drop (names.length - ds.length)).zip ds) = names.zip (vals ++ ds.drop (vals.length + ds.length - names.length)) := by
  have e1 : names = names.take vals.length ++ names.drop vals.length := (List.take_append_drop ..).symm
  generalize hn1 : names.take vals.length = n1 at e1
  generalize hn2 : names.drop vals.length = n2 at e1
  have l1 : n1.length = vals.length := by rw [← hn1, List.length_take]; omega
  have l2 : n2.length = names.length - vals.length := by rw [← hn2, List.length_drop]
  have e2 : ds = ds.take (vals.length + ds.length - names.length) ++ ds.drop (vals.length + ds.length - names.length) := (List.take_append_drop ..).symm
  generalize hd1 : ds.take (vals.length + ds.length - names.length) = d1 at e2
  generalize hd2 : ds.drop (vals.length + ds.length - names.length) = d2 at e2
  have m1 : d1.length = vals.length + ds.length - names.length := by rw [← hd1, List.length_take]; omega
  have m2 : d2.length = n2.length := by rw [← hd2, List.length_drop, l2]; omega
  rw [e1] at hn
  obtain ⟨hn1', hn2', hdis⟩ := nodupS_app hn
  have hz : names.zip vals = n1.zip vals := by
    rw [e1]
    have : vals = vals ++ [] := by simp
    conv => lhs; rw [this, List.zip_append l1]
    simp
  have hz2 : names.zip (vals ++ d2) = n1.zip vals ++ n2.zip d2 := by rw [e1, List.zip_append l1]
  have hz3 : (names.drop (names.length - ds.length)).zip ds = (n1.drop (names.length - ds.length)).zip d1 ++ n2.zip d2 := by
    have : names.drop (names.length - ds.length) = n1.drop (names.length - ds.length) ++ n2 := by
      conv => lhs; rw [e1]
      rw [List.drop_append_of_le_length (by rw [l1]; rw [← e1]; omega)]
      rw [← e1]
    rw [this]
    conv => lhs; rw [e2]
    rw [List.zip_append (by rw [List.length_drop, l1, m1]; rw [← e2]; omega)]
    rw [← e2]
  rw [hz, hz2, hz3]
  have split : ∀ (a b slots : List (Str × Value)), addS slots (a ++ b) = addS (addS slots a) b := fun a => by
    induction a with
    | nil => intro b slots; rfl
    | cons p a ih => intro b slots; exact ih b _
  rw [split, addS_old (l := (n1.drop (names.length - ds.length)).zip d1) (slots := n1.zip vals) ?_, addS_new hn2' m2.symm fun x hx => zip_lookup_none fun q => hdis x q hx]
  intro p hp
  have hm : p.1 ∈ n1 := List.mem_of_mem_drop (List.of_mem_zip hp).1
  obtain ⟨v, hv⟩ := zip_lookup_some (vs := vals) hm (by omega)
  rw [hv]; rfl

theorem VRs.drop {F : Fz} : ∀ {vs ds}, VRs F vs ds → ∀ k, VRs F (vs.drop k) (ds.drop k)
  | _, _, .nil, k => by simp; exact .nil
  | _, _, .cons x r, 0 => .cons x r
  | _, _, .cons x r, k + 1 => by simpa using VRs.drop r k

/-- the defaults of a def -/
def DfltsAt (s : Shared) (v : Value) (ds : List Value) : Prop := (v = .none ∧ ds = []) ∨ ∃ a o items n, v = .ref a ∧ s.heap.get? a = some o ∧ o.data = .seq items n ∧ ds = items.toList

theorem binds_to {s : Shared} {fd : FuncData} {vals ds : List Value} (hp : fd.params.posonlyargs.isEmpty = true) (hva : fd.params.vararg.isNone = true) (hk : fd.params.kwonlyargs.isEmpty = true) (hkw : fd.params.kwarg.isNone = true)
    (hn : nodupS (fd.params.args.map (·.arg)) = true) (hd : DfltsAt s fd.defaults ds) (h1 : vals.length ≤ (fd.params.args.map (·.arg)).length) (h2 : ds.length ≤ (fd.params.args.map (·.arg)).length) (h3 : (fd.params.args.map (·.arg)).length ≤ vals.length + ds.length) :
    BindsTo s fd ⟨vals, []⟩ ((fd.params.args.map (·.arg)).zip (vals ++ ds.drop (vals.length + ds.length - (fd.params.args.map (·.arg)).length))) := by
  intro M A E Q hq
  have e1 : fd.params.posonlyargs = [] := List.isEmpty_iff.mp hp
  have e2 : fd.params.vararg = none := Option.isNone_iff_eq_none.mp hva
  have e3 : fd.params.kwonlyargs = [] := List.isEmpty_iff.mp hk
  have e4 : fd.params.kwarg = none := Option.isNone_iff_eq_none.mp hkw
  unfold bindArgs
  simp only [e1, e2, e3, e4, List.map_nil, List.nil_append, List.append_nil, List.forIn_nil]
  refine wpAny_bind (wpAny_pure ?_)
  generalize fd.params.args.map (·.arg) = names at *
  have hmiss : (List.take (names.length - ds.length) names).filter (fun n => ((names.zip vals).lookup n).isNone) = [] := by
    rw [List.filter_eq_nil_iff]
    intro x hx
    have hlen : (names.take vals.length).length ≤ vals.length := by rw [List.length_take]; omega
    have hx' : x ∈ names.take vals.length := by
      have : List.take (names.length - ds.length) names = List.take (names.length - ds.length) (List.take vals.length names) := by rw [List.take_take]; congr 1; omega
      rw [this] at hx; exact List.mem_of_mem_take hx
    obtain ⟨v, hv⟩ := zip_lookup_some (vs := vals) hx' hlen
    have hz : names.zip vals = (names.take vals.length).zip vals := by
      conv => lhs; rw [← List.take_append_drop vals.length names]
      have : vals = vals ++ [] := by simp
      conv => lhs; rw [this, List.zip_append (by rw [List.length_take, List.length_append]; simp; omega)]
      simp
    rw [hz, hv]; simp
  have hfin : ∀ o : Option (Array Value), (o.getD #[]).toList = ds → wpAny M A (seqItems? fd.defaults) (fun x s' => x = o ∧ s' = s) E s → wpAny M A (seqItems? fd.defaults) (fun x s' => (x.getD #[]).toList = ds ∧ s' = s) E s := fun o ho h => wpAny_mono h (fun x s' q => ⟨by rw [q.1]; exact ho, q.2⟩) fun _ _ e => e
  have hseq : wpAny M A (seqItems? fd.defaults) (fun x s' => (x.getD #[]).toList = ds ∧ s' = s) E s := by
    rcases hd with ⟨e, rfl⟩ | ⟨a, o, items, n, e, ho, hdat, rfl⟩
    · rw [e]; exact wpAny_pure ⟨rfl, rfl⟩
    · rw [e]; exact wpAny_seqItems ho hdat ⟨rfl, rfl⟩
  refine wpAny_bind (wpAny_mono hseq (fun o s' h => ?_) fun _ _ e => e)
  obtain ⟨ho, rfl⟩ := h
  have hgt : decide (vals.length > names.length) = false := by simpa using h1
  simp only [ho, hgt, Bool.false_and, Bool.false_eq_true, if_false]
  have hdr : ds.length - names.length = 0 := by omega
  simp only [hdr, List.drop_zero, hmiss, List.isEmpty_nil, Bool.not_true, Bool.false_eq_true, if_false]
  rw [forIn_addS _ (fun n d c => rfl)]
  refine wpAny_bind (wpAny_pure ?_)
  refine wpAny_bind (wpAny_pure ?_)
  simp only [List.isEmpty_nil, Bool.not_true, Bool.false_eq_true, if_false]
  rw [slots_eq hn h1 h2 h3]
  refine wpAny_pure ?_
  rw [zip_back hn (by rw [List.length_append, List.length_drop]; omega)]
  exact hq
end Mine

/-! Ca2 -/
namespace Mine

theorem VRs.zip {F : Fz} {x : Str} : ∀ {names : List Str} {vs : List Value} {ds : List D}, VRs F vs ds → ∀ {d : D}, (names.zip ds).lookup x = some d → ∃ v, (names.zip vs).lookup x = some v ∧ VR F v d
  | [], _, _, _, d, h => by simp at h
  | n :: ns, _, _, .nil, d, h => by simp at h
  | n :: ns, _, _, .cons r rs, d, h => by
    rw [List.zip_cons_cons, List.lookup_cons] at h
    rw [List.zip_cons_cons, List.lookup_cons]
    cases hx : x == n with
    | true => rw [hx] at h; cases h; exact ⟨_, rfl, r⟩
    | false => rw [hx] at h; exact VRs.zip rs h

theorem zip_mem {α : Type} {x : Str} {v : α} : ∀ {ns : List Str} {vs : List α}, (ns.zip vs).lookup x = some v → x ∈ ns
  | [], _, h => by simp at h
  | n :: ns, [], h => by simp at h
  | n :: ns, u :: vs, h => by
    rw [List.zip_cons_cons, List.lookup_cons] at h
    cases hx : x == n with
    | true => rw [beq_iff_eq.mp hx]; exact List.mem_cons_self
    | false => rw [hx] at h; exact List.mem_cons_of_mem _ (zip_mem h)

theorem bindL_get {kindOf : Str → Option NameKind} {x : Str} (hk : kindOf x = some .local) : ∀ {ns : List Str} {vs : List Value} {m : Str → Option Value}, nodupS ns = true → (∀ v, (ns.zip vs).lookup x = some v → bindL kindOf (ns.zip vs) m x = some v) ∧ ((ns.zip vs).lookup x = none → bindL kindOf (ns.zip vs) m x = m x)
  | [], vs, m, _ => ⟨fun v h => by simp at h, fun _ => by simp [bindL]⟩
  | n :: ns, [], m, _ => ⟨fun v h => by simp at h, fun _ => by simp [bindL]⟩
  | n :: ns, u :: vs, m, hn => by
    obtain ⟨h1, h2⟩ := nodupS_cons hn
    rw [List.zip_cons_cons, List.lookup_cons]
    unfold bindL
    cases hx : x == n with
    | true =>
      have e := beq_iff_eq.mp hx
      subst e
      obtain ⟨_, i2⟩ := bindL_get hk (ns := ns) (vs := vs) (m := fun y => if y = x then some u else m y) h2
      refine ⟨fun v hv => ?_, fun q => by cases q⟩
      cases hv
      rw [if_pos hk, i2 (zip_lookup_none h1)]
      simp
    | false =>
      have hne : x ≠ n := beq_eq_false_iff_ne.mp hx
      obtain ⟨i1, i2⟩ := bindL_get hk (ns := ns) (vs := vs) (m := if kindOf n = some .local then fun y => if y = n then some u else m y else m) h2
      refine ⟨i1, fun q => ?_⟩
      rw [i2 q]
      split
      · exact if_neg hne
      · rfl
theorem bindC_get {kindOf : Str → Option NameKind} {x : Str} (hk : kindOf x ≠ some .local) : ∀ {ns : List Str} {vs : List Value} {m : Str → Option Value}, nodupS ns = true → (∀ v, (ns.zip vs).lookup x = some v → bindC kindOf (ns.zip vs) m x = some v) ∧ ((ns.zip vs).lookup x = none → bindC kindOf (ns.zip vs) m x = m x)
  | [], vs, m, _ => ⟨fun v h => by simp at h, fun _ => by simp [bindC]⟩
  | n :: ns, [], m, _ => ⟨fun v h => by simp at h, fun _ => by simp [bindC]⟩
  | n :: ns, u :: vs, m, hn => by
    obtain ⟨h1, h2⟩ := nodupS_cons hn
    rw [List.zip_cons_cons, List.lookup_cons]
    unfold bindC
    cases hx : x == n with
    | true =>
      have e := beq_iff_eq.mp hx
      subst e
      obtain ⟨_, i2⟩ := bindC_get hk (ns := ns) (vs := vs) (m := fun y => if y = x then some u else m y) h2
      refine ⟨fun v hv => ?_, fun q => by cases q⟩
      cases hv
      rw [if_neg hk, i2 (zip_lookup_none h1)]
      simp
    | false =>
      have hne : x ≠ n := beq_eq_false_iff_ne.mp hx
      obtain ⟨i1, i2⟩ := bindC_get hk (ns := ns) (vs := vs) (m := if kindOf n = some .local then m else fun y => if y = n then some u else m y) h2
      refine ⟨i1, fun q => ?_⟩
      rw [i2 q]
      split
      · rfl
      · exact if_neg hne

section
variable {K : Frag} {mg mb : Str → Option Value} {prog : Program} {w : World} {i : In} {n : Nat}

theorem dflts_at {fd : FuncData} {ds : List D} (h : dfltsD K fd = some ds) {F : Fz} {s : Shared} (kf : KF K F) (fin : ∀ b o, F b = some o → s.heap.get? b = some o) : ∃ vs, DfltsAt s fd.defaults vs ∧ VRs F vs ds := by
  unfold dfltsD at h
  split at h
  · rename_i e
    cases h
    exact ⟨[], .inl ⟨e, rfl⟩, .nil⟩
  · split at h
    · rename_i ds' ht
      cases h
      have r := topD_vr kf 1 ht
      generalize he : fd.defaults = v at r ⊢
      cases r with
      | tuple ha hc hd hr => exact ⟨_, .inr ⟨_, _, _, _, rfl, fin _ _ ha, hd, rfl⟩, hr⟩
    · cases h

theorem call_enter {f : Str} {args : List D} {fd : FuncData} {b : List Stmt} {ds : List D} {binds : List (Str × D)} (hfd : fdOf K f = some fd) (hok : fdOk K fd = true) (hbody : fd.body = .stmts b) (hds : dfltsD K fd = some ds)
    (hbinds : bindP (fd.params.args.map (·.arg)) args ds = some binds) {A : Around} {F : Fz} {s : Shared} {a : Addr} {vs : List Value} (hA : AOk A (n + 1)) (G : Glb K mg mb s.heap) (kf : KF K F)
    (fin : ∀ b o, F b = some o → s.heap.get? b = some o) (hn : nsIn K mainGlobals f = some (some (.ref a))) (hvs : VRs F vs args) {RR : Result → Shared → Prop}
    (k : ∀ env h₁ tk₁ val, AOk (A.deeper env) n → env.frame = some env.locals → FR K mg mb fd.scope env s.heap (fun _ => False) F (rhoOf binds) val h₁ →
      wpAny (model prog w) (A.deeper env) (execs b env) (fun f s' => RR (.ok (.ret (match f with | .ret v => v | _ => .none))) s')
        (fun e s' => wpAny (model prog w) (A.deeper env) (leaving env e) (fun _ s'' => RR (.error e) s'') (fun e' s'' => RR (.error e') s'') s') { s with heap := h₁, toks := tk₁ }) : codeAny (model prog w) A (.call (.ref a) ⟨vs, []⟩) RR s := by
  unfold fdOk at hok
  simp only [Bool.and_eq_true] at hok
  obtain ⟨⟨⟨⟨⟨⟨⟨⟨⟨⟨⟨⟨⟨o1, o2⟩, o3⟩, o4⟩, o5⟩, o6⟩, o7⟩, o8⟩, o9⟩, o10⟩, o11⟩, o12⟩, o13⟩, o14⟩ := hok
  -- the object
  unfold fdOf at hfd
  rw [hn] at hfd
  dsimp only at hfd
  split at hfd
  case h_2 => cases hfd
  rename_i c dd fd' sl hk
  cases hfd
  obtain ⟨dvs, hdat, hdvr⟩ := dflts_at hds kf fin
  have l1 := hvs.length
  have l2 := hdvr.length
  unfold bindP at hbinds
  split at hbinds
  case isFalse => cases hbinds
  rename_i hlen
  cases hbinds
  have hbt := binds_to (s := s) (fd := fd) (vals := vs) (ds := dvs) o5 o6 o7 o8 o9 hdat (by rw [l1]; exact hlen.1) (by rw [l2]; exact hlen.2.1) (by rw [l1, l2]; exact hlen.2.2)
  have hvr : VRs F (vs ++ dvs.drop (vs.length + dvs.length - (fd.params.args.map (·.arg)).length)) (args ++ ds.drop (args.length + ds.length - (fd.params.args.map (·.arg)).length)) := by
    rw [l1, l2]; exact hvs.append (hdvr.drop _)
  generalize (vs ++ dvs.drop (vs.length + dvs.length - (fd.params.args.map (·.arg)).length)) = vals at hbt hvr
  generalize (args ++ ds.drop (args.length + ds.length - (fd.params.args.map (·.arg)).length)) = dvals at hvr k
  have hnames : ∀ x ∈ fd.params.args.map (·.arg), localOrCell fd.scope x = true := fun x hx => by
    obtain ⟨y, hy, rfl⟩ := List.mem_map.mp hx
    exact List.all_eq_true.mp o10 y hy
  generalize fd.params.args.map (·.arg) = names at hbt k hnames o9 hlen
  have hkind : fd.scope.kind = .function := by simpa using o11
  have hall : ∀ p ∈ fd.scope.names, fd.scope.names.lookup p.1 = some p.2 ∧ p.2 ≠ .free := fun p hp => by
    have := List.all_eq_true.mp o14 p hp
    rw [Bool.and_eq_true] at this
    exact ⟨by simpa using this.1, by simpa using this.2⟩
  have hclo : fd.closure = [] := List.isEmpty_iff.mp o2
  refine codeAny_call_function (by have := hA.depth; omega) (G.kin _ _ hk) rfl (by simpa using o13) (by simpa using o12) hbody (codeRec_of G.kin o1) (hbt _ _ _ _ ?_)
  rw [hclo]
  have hcellmem : ∀ x, fd.scope.names.lookup x = some .cell → ∃ c, (cellsFrom (s.heap.objs.size + 1) fd.scope.names []).lookup x = some c := fun x hx => by
    obtain ⟨c, hc, _⟩ := cellsFrom_mem (h := s.heap.push { cls := .type "frame", data := .dict #[] }) (acc := []) (lo := 0) (Nat.zero_le _) (.inl (mem_of_lookup hx))
    rw [Heap.size_push] at hc
    exact ⟨c, hc⟩
  refine wpAny_newFunctionEnv_cells hkind (fun x hx => ?_) fun env he s' x => ?_
  · have hm := (List.of_mem_zip hx).1
    rcases localOrCell_iff.mp (hnames _ hm) with q | q
    · exact .inl q
    · obtain ⟨c, hc⟩ := hcellmem _ q
      exact .inr ⟨q, by rw [hc]; rfl⟩
  subst he
  refine ⟨G.nolimit.keeps x.toInCall.keep, codeAny_func ?_⟩
  obtain ⟨h₁, tk₁, rfl⟩ := x.toInCall.same
  generalize henv : newEnv fd.scope s.heap.objs.size fd.globals (cellsFrom (s.heap.objs.size + 1) fd.scope.names []) (fd.qualname ++ ".<locals>.") (some a) fd.code none fd.builtins = env at x ⊢
  have hloc : env.locals = s.heap.objs.size := by rw [← henv]; rfl
  have hko : ∀ y, env.kindOf y = fd.scope.names.lookup y := fun y => by rw [← henv]; rfl
  have hcells : env.cells = cellsFrom (s.heap.objs.size + 1) fd.scope.names [] := by rw [← henv]; rfl
  have keep := x.toInCall.keep
  have priv : ∀ b, s.heap.objs.size ≤ b → Priv s.heap F (fun _ => False) b := fun b hb => ⟨Heap.get?_none_of_le hb, fresh_F fin (Heap.get?_none_of_le hb), fun q => q⟩
  have R : FR K mg mb fd.scope env s.heap (fun _ => False) F (rhoOf (names.zip dvals)) (fun y => if fd.scope.names.lookup y = some .local then bindL env.kindOf (names.zip vals) (fun _ => none) y else bindC env.kindOf (names.zip vals) (fun _ => none) y) h₁ := by
    refine ⟨G.keeps keep, kf, fun b o e => keep _ _ (fin b o e), by rw [← henv]; exact hkind, by rw [← henv]; show fd.globals = _; simpa using o3, by rw [← henv]; show fd.builtins = _; simpa using o4, hko, fun y hy => ?_, keep, ⟨_, x.toInCall.ns, fun y hy => by rw [if_pos hy]⟩, priv _ (by rw [hloc]; exact Nat.le_refl _), fun y hy => ?_, fun y z c hy hz => ?_, fun y p hy => ?_, fun y dd hy => ?_, fun y dd hy => ?_, fun y z dy dz v hy => ?_, fun b hb => hb.elim⟩
    · exact absurd rfl (hall _ (mem_of_lookup hy)).2
    · obtain ⟨c, hc⟩ := hcellmem y hy
      rw [← hcells] at hc
      refine ⟨c, hc, ?_, priv _ ?_⟩
      · rw [if_neg (by rw [hy]; decide)]; exact x.cell y c hc
      · have := x.above y c (mem_of_lookup hc); rw [hloc] at this; exact Nat.le_of_lt this
    · exact name_of_addr x.apart (mem_of_lookup hy) (mem_of_lookup hz)
    · unfold rhoOf at hy
      rw [Option.map_eq_some_iff] at hy
      obtain ⟨d', hd', _⟩ := hy
      exact hnames _ (zip_mem hd')
    · unfold rhoOf at hy
      rw [Option.map_eq_some_iff] at hy
      obtain ⟨d', hd', e⟩ := hy
      cases e
      obtain ⟨v, hv, vr⟩ := hvr.zip hd'
      refine ⟨v, ?_, vr⟩
      by_cases q : fd.scope.names.lookup y = some .local
      · rw [if_pos q]; exact (bindL_get (by rw [hko, q]) o9).1 v hv
      · rw [if_neg q]; exact (bindC_get (by rw [hko]; exact q) o9).1 v hv
    · unfold rhoOf at hy
      rw [Option.map_eq_some_iff] at hy
      obtain ⟨d', hd', e⟩ := hy
      cases e
    · unfold rhoOf at hy
      rw [Option.map_eq_some_iff] at hy
      obtain ⟨d', hd', e⟩ := hy
      cases e
  have hA' : AOk (A.deeper env) n := ⟨hA.handled, by have := hA.depth; show A.depth + 1 + n < _; omega, by have := hA.units; show A.units + 3 + 8 * n + 200 < _; omega⟩
  exact k env h₁ tk₁ _ hA' (by rw [← henv]; rfl) R

theorem callN_code (hs : SoundS K mg mb prog w i n) {f : Str} {args : List D} {d : D} (h : (nxt K i).call f args = .ok d) {A : Around} {F : Fz} {s : Shared} {a : Addr} {vs : List Value} (hA : AOk A (n + 1)) (G : Glb K mg mb s.heap) (kf : KF K F)
    (fin : ∀ b o, F b = some o → s.heap.get? b = some o) (hn : nsIn K mainGlobals f = some (some (.ref a))) (hvs : VRs F vs args) {RR : Result → Shared → Prop}
    (k : ∀ v h' tk F', Ext F s.heap F' h' → VR F' v d → RR (.ok (.ret v)) { s with heap := h', toks := tk }) : codeAny (model prog w) A (.call (.ref a) ⟨vs, []⟩) RR s := by
  replace h : callN K i f args = .ok d := h
  unfold callN at h
  split at h
  case h_2 => cases h
  rename_i fd hfd
  split at h
  case isFalse => cases h
  rename_i hok
  split at h
  case h_2 => cases h
  rename_i b ds hbody hds
  split at h
  case h_2 => cases h
  rename_i binds hbinds
  obtain ⟨⟨ρ', r⟩, hex, h2⟩ := Out.bind_ok h
  cases h2
  refine call_enter hfd hok hbody hds hbinds hA G kf fin hn hvs fun env h₁ tk₁ val hA' _ R => ?_
  refine execs_ok hs hex (s := { s with heap := h₁, toks := tk₁ }) hA' G R _ _ fun h' tk F' val' fl R' gr same hfl => ?_
  have x' : Ext F s.heap F' h' := ⟨R'.keep, gr.mono, R'.fin, gr.new⟩
  cases r with
  | none =>
    obtain rfl : fl = .next := hfl
    exact k .none h' tk F' x' .none
  | some d' =>
    obtain ⟨v, rfl, vr⟩ := hfl
    exact k v h' tk F' x' vr

theorem callN_ok (hs : SoundS K mg mb prog w i n) : SoundC K mg mb prog w (nxt K i) (n + 1) := by
  intro f args d h A F s a vs hA G kf fin hn hvs Q E k
  exact wpAny_call (callN_code hs h hA G kf fin hn hvs fun v h' tk F' x r => k v h' tk F' x (.frz r) fun _ => r)

structure Sound (K : Frag) (mg mb : Str → Option Value) (prog : Program) (w : World) (i : In) (n : Nat) : Prop where
  e : SoundE K mg mb prog w i n
  t : SoundT K mg mb prog w i n
  c : SoundC K mg mb prog w i n
  u : SoundU K mg mb prog w i n
  f : SoundF K mg mb prog w i n
  s : SoundS K mg mb prog w i n

theorem sound_all : ∀ n, Sound K mg mb prog w (It K n) n
  | 0 => ⟨(fun _ _ _ _ _ h => by cases h), (fun _ _ _ _ h => by cases h), (fun _ _ _ h => by cases h), (fun _ _ _ _ _ _ _ _ h => by cases h), (fun _ _ _ _ _ _ h => by cases h), (fun _ _ _ _ _ h => by cases h)⟩
  | n + 1 => by
    have S := sound_all n
    have L := soundL_of S.e S.t
    refine ⟨fun sc ρ wk e d h A env F s hA => evN_ok S.e S.t S.c L sc ρ wk e d h A env F s hA.succ, fun sc ρ e b h A env F s hA => tstN_ok S.e S.t sc ρ e b h A env F s hA.succ, callN_ok S.s, fun sc ρ wk elt gens csc pos d h => ?_, fun sc ρ wk e d hf h => ?_,
      fun sc ρ st ρ' r h A env h0 RS F val s hA => exN_ok S.e S.t S.f S.u S.s sc ρ st ρ' r h A env h0 RS F val s hA.succ⟩
    · obtain ⟨ds, e, go⟩ := compE_soundU S.e S.t sc ρ wk elt gens csc pos d h
      exact ⟨ds, e, fun A env F s use Q E p hA => go A env F s use Q E p hA.succ⟩
    · obtain ⟨ds, e, go⟩ := fresh_ok S.e S.t S.f sc ρ wk e d hf h
      exact ⟨ds, e, fun A env F s hA => go A env F s hA.succ⟩

theorem law_run {n : Nat} {zs : List Int} {d : D} (h : (It K (n + 1)).call "law" [.list (zs.map .int)] = .ok d) {A : Around} {s : Shared} {fa script : Addr} {vs : List Value} (hA : AOk A (n + 1)) (G : Glb K mg mb s.heap)
    (hn : nsIn K mainGlobals "law" = some (some (.ref fa))) (hl : s.heap.IsList script vs.toArray) (hi : IntsAre vs zs) {RR : Result → Shared → Prop}
    (k : ∀ v h' tk F', (∀ b o, s.heap.get? b = some o → h'.get? b = some o) → VR F' v d → RR (.ok (.ret v)) { s with heap := h', toks := tk }) : codeAny (model prog w) A (.call (.ref fa) ⟨[.ref script], []⟩) RR s := by
  obtain ⟨o, ho, hc, m, hd⟩ := hl
  have fin : ∀ b q, (fun b => if b = script then s.heap.get? b else K.lookup b : Fz) b = some q → s.heap.get? b = some q := fun b q e => by
    dsimp only at e
    split at e
    · exact e
    · exact G.kin _ _ e
  refine callN_code (F := fun b => if b = script then s.heap.get? b else K.lookup b) (sound_all n).s h hA G (fun a q hq _ => ?_) fin hn (.one (.list (o := o) (items := vs.toArray) (n := m) ?_ hc hd ?_)) fun v h' tk F' x r => k v h' tk F' x.keep r
  · show (if a = script then s.heap.get? a else K.lookup a) = some q
    split
    · exact G.kin _ _ hq
    · exact hq
  · show (if script = script then s.heap.get? script else K.lookup script) = some o
    rw [if_pos rfl]; exact ho
  · simpa using vrs_ints hi
end
end Mine

/-! Tx -/
namespace Mine

/-- the runs that end in the one exception: a def's, a statement's (the frame as it stood when the exception came) -/
structure Jn where
  tx : Scope → Rho → Stmt → Option Rho
  tc : Str → List D → Bool

def txL (f : Rho → Stmt → Out (Rho × Option D)) (g : Rho → Stmt → Option Rho) : List Stmt → Rho → Option Rho
  | [], _ => none
  | s :: r, ρ => match g ρ s with
    | some ρ' => some ρ'
    | none => (match f ρ s with
      | .ok (ρ', none) => txL f g r ρ'
      | _ => none)

abbrev excN : Str := Str.ofString "TiesException"

def txCall (K : Frag) (i : In) (j : Jn) (sc : Scope) (ρ : Rho) (f : Str) (args : List Expr) : Bool :=
  match calleeD K sc f with
  | some .fn => if args.isEmpty || (fdOf K f).isNone then false else
      (match evs (i.ev sc ρ false) args with
      | .ok vs => j.tc f vs
      | _ => false)
  | _ => false

def txFor (f : D → Rho → Out (Rho × Option D)) (g : D → Rho → Option Rho) : List D → Rho → Option Rho
  | [], _ => none
  | v :: r, ρ => match g v ρ with
    | some ρ' => some ρ'
    | none => (match f v ρ with
      | .ok (ρ', none) => txFor f g r ρ'
      | _ => none)

def txN (K : Frag) (i : In) (j : Jn) (sc : Scope) (ρ : Rho) : Stmt → Option Rho
  | .Raise (some (.Call (.Name C _) [.Constant (.str _) _ _] [] _)) none _ => if C == excN && sc.names.lookup C == some .globalImplicit then some ρ else none
  | .Return (some (.Call (.Name f _) args [] _)) _ => if txCall K i j sc (frz ρ (args.flatMap (al K 30 false))) f args then some (frz ρ (args.flatMap (al K 30 false))) else none
  | .Assign [.Name _ _] (.Call (.Name f _) args [] _) _ => if txCall K i j sc (frz ρ (args.flatMap (al K 30 false))) f args then some (frz ρ (args.flatMap (al K 30 false))) else none
  | .If t b o _ => match i.tst sc ρ t with
    | .ok c => txL (i.ex sc) (j.tx sc) (if c then b else o) ρ
    | _ => none
  | .For (.Name t _) it b [] _ => if localOrCell sc t then (match srcE K i sc (frz ρ (al K 30 false it)) false it with
    | .ok vs => txFor (fun v ρ => exsL (i.ex sc) b (upd ρ t false v)) (fun v ρ => txL (i.ex sc) (j.tx sc) b (upd ρ t false v)) vs (frz ρ (al K 30 false it))
    | _ => none) else none
  | _ => none

def tcN (K : Frag) (i : In) (j : Jn) (f : Str) (args : List D) : Bool :=
  match fdOf K f with
  | some fd => if fdOk K fd then
      (match fd.body, dfltsD K fd with
      | .stmts b, some ds => (match bindP (fd.params.args.map (·.arg)) args ds with
        | some binds => (txL (i.ex fd.scope) (j.tx fd.scope) b (rhoOf binds)).isSome
        | none => false)
      | _, _ => false)
    else false
  | none => false

def Jt (K : Frag) : Nat → Jn
  | 0 => ⟨fun _ _ _ => none, fun _ _ => false⟩
  | n + 1 => ⟨txN K (It K n) (Jt K n), tcN K (It K n) (Jt K n)⟩

/-- the exception's class -/
abbrev Exc (c : Addr) (mg : Str → Option Value) (h : Heap) : Prop := OwnCls excN c [.type "Exception", .type "BaseException", .type "object"] "Exception.__new__" mg h

/-- the exception e is on its way in the frames l -/
def TieAt (c : Addr) (l : List Env) (hm h' : Heap) (e : Addr) : Prop :=
  (∃ vs, Heap.MadeExcOf hm h' e (.ref c) vs) ∨ (∃ a0, Heap.FlyingW (hideAll hm (l.filterMap (·.frame))) l e (.ref c) a0 h' ∧ hm.UpToSlots h') ∨
  (∃ a0 L, (l.head?.bind (·.frame)) = some L ∧ Heap.HeldW (hideAll hm (l.filterMap (·.frame))) l e (.ref c) a0 L h' ∧ hm.UpToSlots h')

def TStOk (K : Frag) (mg mb : Str → Option Value) (prog : Program) (w : World) (c : Addr) (l : List Env) (A : Around) (sc : Scope) (env : Env) (h0 : Heap) (RS : Addr → Prop) (F : Fz) (s : Shared) (ρ' : Rho) (t : Sem Flow) : Prop :=
  ∀ (Q : Flow → Shared → Prop) (E : Value → Shared → Prop), (∀ e hm h' tk F' val', FR K mg mb sc env h0 RS F' ρ' val' hm → Grow h0 F F' → (∀ b, RS b → hm.get? b = s.heap.get? b) → TieAt c l hm h' e → E (.ref e) { s with heap := h', toks := tk }) → wpAny (model prog w) A t Q E s

/-- the frames around -/
structure Fra (A : Around) (env : Env) (outer : List Env) (h0 : Heap) : Prop where
  fr : A.frames = some (env :: outer)
  loc : env.frame = some env.locals
  out : ∃ base, h0.FunFrames base outer

def SoundX (K : Frag) (mg mb : Str → Option Value) (prog : Program) (w : World) (c : Addr) (j : Jn) (n : Nat) : Prop :=
  ∀ sc ρ st ρ', j.tx sc ρ st = some ρ' → ∀ A env outer h0 RS F val s, AOk A n → Fra A env outer h0 → Glb K mg mb h0 → Exc c mg h0 → FR K mg mb sc env h0 RS F ρ val s.heap →
    TStOk K mg mb prog w c (env :: outer) A sc env h0 RS F s ρ' (exec st env)
def SoundY (K : Frag) (mg mb : Str → Option Value) (prog : Program) (w : World) (c : Addr) (j : Jn) (n : Nat) : Prop :=
  ∀ f args, j.tc f args = true → ∀ A outer F s a vs, AOk A n → A.frames = some outer → (∃ base, s.heap.FunFrames base outer) → Glb K mg mb s.heap → Exc c mg s.heap → KF K F → (∀ b o, F b = some o → s.heap.get? b = some o) →
    nsIn K mainGlobals f = some (some (.ref a)) → VRs F vs args → ∀ (RR : Result → Shared → Prop),
    (∀ e h' tk, (∃ a0, Heap.FlyingW (hideAll s.heap (outer.filterMap (·.frame))) outer e (.ref c) a0 h') → s.heap.UpToSlots h' → RR (.error (.ref e)) { s with heap := h', toks := tk }) → codeAny (model prog w) A (.call (.ref a) ⟨vs, []⟩) RR s

section
variable {K : Frag} {mg mb : Str → Option Value} {prog : Program} {w : World} {i : In} {j : Jn} {n : Nat} {c : Addr} {A : Around} {sc : Scope} {env : Env} {outer : List Env} {h0 : Heap} {RS : Addr → Prop} {F : Fz} {ρ ρ' : Rho} {val : Str → Option Value} {s : Shared}

theorem execs_tx (hs : SoundS K mg mb prog w i n) (hx : SoundX K mg mb prog w c j n) : ∀ {b : List Stmt} {ρ ρ' : Rho}, txL (i.ex sc) (j.tx sc) b ρ = some ρ' → ∀ {RS : Addr → Prop} {F : Fz} {val : Str → Option Value} {s : Shared}, AOk A n → Fra A env outer h0 → Glb K mg mb h0 → Exc c mg h0 → FR K mg mb sc env h0 RS F ρ val s.heap →
    TStOk K mg mb prog w c (env :: outer) A sc env h0 RS F s ρ' (execs b env)
  | [], ρ, ρ', h, RS, F, val, s, hA, hF, G0, O, R => by cases h
  | st :: b, ρ, ρ', h, RS, F, val, s, hA, hF, G0, O, R => by
    unfold txL at h
    split at h
    · rename_i ρ1 h1
      cases h
      exact fun Q E k => wpAny_execs_cons (hx _ _ _ _ h1 A env outer h0 RS F val s hA hF G0 O R _ _ k)
    · split at h
      · rename_i ρ1 h1
        refine fun Q E k => wpAny_execs_cons (hs _ _ _ _ _ h1 A env h0 RS F val s hA G0 R _ _ fun h' tk F' val' fl R' mono same hfl => ?_)
        obtain rfl : fl = .next := hfl
        exact execs_tx hs hx h (s := { s with heap := h', toks := tk }) hA hF G0 O R' _ _ fun e hm h'' tk' F'' val'' R'' mono' same' ti => k e hm h'' tk' F'' val'' R'' (mono.trans mono') (fun b hb => (same' b hb).trans (same b hb)) ti
      · cases h

theorem evs_starEach {f : Expr → Out D} {e : Expr} {d : D} (hns : ∀ x p, e ≠ .Starred x p) : starEach [e] env = [(false, eval e env)] := by
  rw [starEach_cons hns]; rfl

theorem raise_tx {C : Str} {np cpos p p2 : Pos} {k} {x : Str} (hC : C = excN) (hsc : sc.names.lookup C = some .globalImplicit) (hA : AOk A n) (hF : Fra A env outer h0) (G0 : Glb K mg mb h0) (O : Exc c mg h0) (R : FR K mg mb sc env h0 RS F ρ val s.heap) :
    TStOk K mg mb prog w c (env :: outer) A sc env h0 RS F s ρ (exec (.Raise (some (.Call (.Name C np) [.Constant (.str x) k p] [] cpos)) none p2) env) := by
  intro Q E kk
  subst hC
  obtain ⟨bm, N, nm, q, bs, hdct, sn, sub, ab, col, dd, k0, k1, k2, k3, k5, mN, hC, hN, hni, TL⟩ := O.obj
  refine wpAny_Raise_call_subT (C := c) (nm := nm) (q := q) (N := N) (bs := bs) (bm := bm) (hdct := hdct) (sn := sn) (sub := sub) (ab := ab) (col := col) (dd := dd) (k0 := k0) (k1 := k1) (k2 := k2) (k3 := k3) (k5 := k5)
    PySem.F.excBase_Exception (mN := mN) (TL.hasType PySem.F.excBase_Exception.hasBase) hA.handled rfl hni ?_
  have hkind : env.kindOf excN = some .globalImplicit := by rw [R.kinds]; exact hsc
  refine Calls.Name_function_global R.kind hkind (Calls.loadGlobal_global (env := env) (by rw [R.gl]; exact G0.g.keeps R.keep) O.bound ⟨rfl, ?_⟩) (by decide)
  refine Calls.evalArgs_plain (Calls.spliced_cons ?_)
  show wpAny (model prog w) A (eval (.Constant (.str x) k p) env) _ E s
  refine wpAny_Constant_str ?_
  refine Calls.spliced_nil ?_
  exact ⟨rfl, by show 1 ≤ sizeLine; decide, R.keep _ _ hC, hN.keeps R.keep, TL.keeps R.keep, fun h' e hm => kk e s.heap h' (s.toks + 1) F val R (.refl _ _) (fun _ _ => rfl) (.inl ⟨_, hm⟩)⟩

theorem tx_call (hi : SoundE K mg mb prog w i n) (hy : SoundY K mg mb prog w c j n) {f : Str} {fp pos : Pos} {args : List Expr} (h : txCall K i j sc ρ f args = true) (hA : AOk A n) (hF : Fra A env outer h0) (G0 : Glb K mg mb h0) (O : Exc c mg h0) (R : FR K mg mb sc env h0 RS F ρ val s.heap)
    {Q : Value → Shared → Prop} {E : Value → Shared → Prop} (k : ∀ e hm h' tk F' val', FR K mg mb sc env h0 RS F' ρ val' hm → Grow h0 F F' → (∀ b, RS b → hm.get? b = s.heap.get? b) → (∃ a0, Heap.FlyingW (hideAll hm ((env :: outer).filterMap (·.frame))) (env :: outer) e (.ref c) a0 h' ∧ hm.UpToSlots h') → E (.ref e) { s with heap := h', toks := tk }) :
    wpAny (model prog w) A (eval (.Call (.Name f fp) args [] pos) env) Q E s := by
  unfold txCall at h
  split at h
  case h_2 => cases h
  rename_i hcal
  split at h
  · cases h
  rename_i hne
  rw [Bool.or_eq_true, not_or] at hne
  have hne' : args ≠ [] := by simpa using hne.1
  cases hfo : fdOf K f with
  | none => rw [hfo] at hne; exact absurd rfl hne.2
  | some fd =>
    split at h
    case h_2 => cases h
    rename_i ds hds
    refine call_fn_ok hi hcal hne' hds hfo hA R.er fun a vs h₁ tk₁ F₁ hn x₁ r₁ => ?_
    have R1 := R.ext x₁
    have keep1 := R1.keep
    obtain ⟨base, hout⟩ := hF.out
    obtain ⟨m, ⟨o, es, ep, ho, hd, hrest⟩, _⟩ := R1.ns
    have hfun : h₁.FunFrames (hideAll h₁ ((env :: outer).filterMap (·.frame))) (env :: outer) := by
      have h1 : h₁.FunFrames base outer := hout.of_keeps fun b o e _ => ⟨o, keep1 b o e, rfl⟩
      have h2 := funFrames_hide (as := (env :: outer).filterMap (·.frame)) h1 (fun env' he b hb => List.mem_filterMap.mpr ⟨env', .tail _ he, hb⟩)
      exact ⟨by rw [R1.kind]; decide, ⟨env.locals, o, hF.loc, hideAll_none _ (List.mem_filterMap.mpr ⟨env, .head _, hF.loc⟩), ho, fun vs q => by rw [hd] at q; cases q⟩, h2⟩
    refine wpAny_call (hy f ds h A (env :: outer) F₁ { s with heap := h₁, toks := tk₁ } a vs hA hF.fr ⟨_, hfun⟩ R1.glb (O.keeps keep1) R1.kf x₁.fin hn r₁ _ fun e h' tk ⟨a0, hfl⟩ hup => ?_)
    exact k e h₁ h' tk F₁ val R1 (R.grow x₁) (R.same x₁) ⟨a0, hfl, hup⟩

theorem fun_of (hF : Fra A env outer h0) {hm : Heap} (R : FR K mg mb sc env h0 RS F ρ val hm) : hm.FunFrames (hideAll hm ((env :: outer).filterMap (·.frame))) (env :: outer) := by
  obtain ⟨base, hout⟩ := hF.out
  obtain ⟨m, ⟨o, es, ep, ho, hd, hrest⟩, _⟩ := R.ns
  have h1 : hm.FunFrames base outer := hout.of_keeps fun b o e _ => ⟨o, R.keep b o e, rfl⟩
  have h2 := funFrames_hide (as := (env :: outer).filterMap (·.frame)) h1 (fun env' he b hb => List.mem_filterMap.mpr ⟨env', .tail _ he, hb⟩)
  exact ⟨by rw [R.kind]; decide, ⟨env.locals, o, hF.loc, hideAll_none _ (List.mem_filterMap.mpr ⟨env, .head _, hF.loc⟩), ho, fun vs q => by rw [hd] at q; cases q⟩, h2⟩

theorem leaves_held {M : Model} {E : Value → Shared → Prop} {base : Heap} {L e : Addr} {cls a0 : Value} {Q : Unit → Shared → Prop} (hf : env.frame = some L)
    (hh : Heap.HeldW base (env :: outer) e cls a0 L s.heap) (hQ : ∀ h', Heap.FlyingW base outer e cls a0 h' → s.heap.UpToSlots h' → Q () { s with heap := h' }) : wpAny M A (leaving env (.ref e)) Q E s := by
  unfold leaving
  refine wpAny_bind (wpAny_noteFrame_againW hf hh.2.2.2 ?_)
  refine wpAny_landsW hh fun h' hfl up => ?_
  obtain ⟨k1, k2, ⟨_, _, k3⟩, k4⟩ := hfl
  exact hQ h' ⟨k1, k2, k3, k4⟩ up

/-- the exception is noted again in the frame that it is held in -/
theorem held_back {M : Model} {E : Value → Shared → Prop} {base : Heap} {l : List Env} {L e : Addr} {cls a0 : Value} (hf : env.frame = some L) (hh : Heap.HeldW base l e cls a0 L s.heap)
    (hQ : ∀ h', Heap.HeldW base l e cls a0 L h' → s.heap.UpToSlots h' → E (.ref e) { s with heap := h' }) : cameBackBy M A env E (.ref e) s := by
  obtain ⟨hkb, hen, hl, oe, vs, T, oT, ts, he, hcls, hd, h1, hnT, hTe, hT, hdT, h3⟩ := hh
  have hsz3 : 3 < ts.size := (Array.getElem?_eq_some_iff.mp h3).1
  have other : ∀ b, b ≠ T → (s.heap.update T (Obj.mapFields (·.setIfInBounds 3 ((some L : Option Addr).elim Value.none fun f => rawInt f)))).get? b = s.heap.get? b :=
    fun b hb => Heap.get?_update_other _ _ (Ne.symm hb)
  have noRecord : ∀ b o, s.heap.get? b = some o → (∀ vs, o.data ≠ .fields vs) → b ≠ T := fun b o hb hnf q => by
    rw [q, hT] at hb; injection hb with hb; subst hb; exact hnf ts hdT
  unfold cameBackBy
  refine wpAny_bind (wpAny_field he hd h1 ?_)
  rw [if_neg (show ¬ ((Value.ref T == Value.none) = true) from by simp)]
  first | refine wpAny_bind (wpAny_pure ?_) | skip
  rw [hf]
  unfold setFlight
  refine wpAny_bind (wpAny_field he hd h1 ?_)
  rw [if_pos (show (Value.ref T != Value.none) = true from by simp)]
  refine wpAny_setField hT hdT hsz3 (hQ _ ⟨fun b o hbo => (other b fun q => by rw [q, hnT] at hbo; cases hbo).trans (hkb b o hbo), hen,
    hl.of_keeps fun b o hb hnf => ⟨o, (other b (noRecord b o hb hnf)).trans hb, rfl⟩, ?_⟩ fun b o hb hnf => ⟨o.slots, (other b (noRecord b o hb hnf)).trans hb⟩)
  exact ⟨oe, vs, T, _, _, (other e (Ne.symm hTe)).trans he, hcls, hd, h1, hnT, hTe, Heap.get?_update_self _ hT (Obj.isFreed_of_fields (Obj.data_mapFields hdT _)), Obj.data_mapFields hdT _, by simp [hsz3]⟩

theorem tie_back {M : Model} {E : Value → Shared → Prop} (hF : Fra A env outer h0) {hm : Heap} (R : FR K mg mb sc env h0 RS F ρ val hm) {e : Addr} (ti : TieAt c (env :: outer) hm s.heap e)
    (k : ∀ h', TieAt c (env :: outer) hm h' e → E (.ref e) { s with heap := h' }) : notedBy M A env (cameBackBy M A env E) (.ref e) s := by
  have go : ∀ h1 a0 L, env.frame = some L → Heap.HeldW (hideAll hm ((env :: outer).filterMap (·.frame))) (env :: outer) e (.ref c) a0 L h1 → hm.UpToSlots h1 → cameBackBy M A env E (.ref e) { s with heap := h1 } := fun h1 a0 L hf hh up =>
    held_back (s := { s with heap := h1 }) hf hh fun h' hh' up' => k h' (.inr (.inr ⟨a0, L, hf, hh', up.trans up'⟩))
  unfold notedBy
  rcases ti with ⟨vs, hx⟩ | ⟨a0, hfl, hup⟩ | ⟨a0, L, hf, hh, hup⟩
  · have hl := fun_of hF R
    obtain ⟨t, he, htn, ht⟩ := hx.there
    have hkb : (hideAll hm ((env :: outer).filterMap (·.frame))).StaysIn hm := fun b o q => of_hideAll _ q
    have fresh : ∀ b, hm.get? b = none → (hideAll hm ((env :: outer).filterMap (·.frame))).get? b = none := fun b hb => by
      cases hq : (hideAll hm ((env :: outer).filterMap (·.frame))).get? b with
      | none => rfl
      | some o' => have := hkb b o' hq; rw [hb] at this; cases this
    unfold noteFrame
    simp only [hF.loc]
    refine wpAny_bind (wpAny_field he rfl (x := .none) rfl ?_)
    rw [if_neg (by decide)]
    refine wpAny_entryW (a0 := .ref t) hF.fr (hl.of_keeps fun b o hb _ => ⟨o, hx.keeps b o hb, rfl⟩) hF.loc he (fun b o hb => hx.keeps b o (hkb b o hb)) (fresh e hx.new) rfl (by simp) rfl fun h' hN => ?_
    obtain ⟨k1, k2, k3, k4⟩ := hN
    exact go h' _ _ hF.loc ⟨k1, fresh e hx.new, k2, k3⟩ ((Heap.UpToSlots.of_keeps hx.keeps).trans k4)
  · exact wpAny_looks_onW hF.fr hF.loc hfl fun h' hh up => go h' _ _ hF.loc hh (hup.trans up)
  · have hf' : env.frame = some L := hf
    exact wpAny_noteFrame_againW hf' hh.2.2.2 (go _ _ _ hf' hh hup)

theorem for_tx (hi : SoundE K mg mb prog w i n) {b : List Stmt} {bd : Rho → Out (Rho × Option D)} {bx : Rho → Option Rho} (hbd : ∀ ρ ρ' r, bd ρ = .ok (ρ', r) → ∀ RS F val s, FR K mg mb sc env h0 RS F ρ val s.heap → StOk K mg mb prog w A sc env h0 RS F s ρ' r (execs b env))
    (hbx : ∀ ρ ρ', bx ρ = some ρ' → ∀ RS F val s, FR K mg mb sc env h0 RS F ρ val s.heap → TStOk K mg mb prog w c (env :: outer) A sc env h0 RS F s ρ' (execs b env)) {t : Str} {tp pos : Pos} {it : Expr} {vs : List D} (hx : localOrCell sc t = true)
    (hv : srcE K i sc (frz ρ (al K 30 false it)) false it = .ok vs) (h : txFor (fun v ρ => bd (upd ρ t false v)) (fun v ρ => bx (upd ρ t false v)) vs (frz ρ (al K 30 false it)) = some ρ')
    (hA : AOk A n) (hF : Fra A env outer h0) (G0 : Glb K mg mb h0) (R : FR K mg mb sc env h0 RS F ρ val s.heap) : TStOk K mg mb prog w c (env :: outer) A sc env h0 RS F s ρ' (exec (.For (.Name t tp) it b [] pos) env) := by
  intro Q E k
  obtain ⟨m1, R1⟩ := R.frz (al K 30 false it)
  obtain ⟨hsrc, hfold⟩ := src_ok hi hv hA R1.er
  refine wpAny_For (hsrc _ _ fun I fp wr P St a₁ t₁ F₁ x₁ W st hfp hwr hIF hI0 hSI hfpx hP => ?_) hfold
  have R2 := R1.reserve x₁ hI0 hIF (hSI _ _ st)
  have same1 := R1.same x₁
  refine codeAny_forLoop
    (fun k s' => ∃ h' tk F' val' ρj, ∃ j : Nat, s' = { s with heap := h', toks := tk } ∧ FR K mg mb sc env h0 (fun b => RS b ∨ b = I) F' ρj val' h' ∧ Grow h0 F₁ F' ∧ (∀ b, RS b → h'.get? b = s.heap.get? b) ∧ St j h' ∧
      txFor (fun v ρ => bd (upd ρ t false v)) (fun v ρ => bx (upd ρ t false v)) (vs.drop j) ρj = some ρ' ∧ j ≤ vs.length ∧ k = vs.length + 1 - j) ?_ (vs.length + 1)
    ⟨a₁, t₁, F₁, val, _, 0, rfl, R2, .refl _ _, same1, st, h, Nat.zero_le _, rfl⟩
  rintro kk s' ⟨h', tk, F', val', ρj, j, rfl, R', mono, same, st', hrest, hj, rfl⟩
  have hRI : (fun b => RS b ∨ b = I) I := .inr rfl
  have offI : ∀ {h a : Heap}, (∀ b o, b ∉ wr → h.get? b = some o → a.get? b = some o) → ∀ b o, b ≠ I → h.get? b = some o → a.get? b = some o := fun hk b o hb e => hk b o (fun q => hb (hwr b q)) e
  have monoF : Grow h0 F F₁ := m1.trans (R1.grow x₁)
  by_cases hjl : j < vs.length
  · refine W.item j _ _ _ hjl st' fun v a₂ t₂ hPv st₂ hk₂ => ?_
    obtain ⟨R₂, same₂⟩ := R'.tick G0 hRI (offI hk₂) (hSI _ _ st₂)
    obtain ⟨d, hd, hv⟩ := hP j v hPv
    have hdrop : vs.drop j = d :: vs.drop (j + 1) := by
      obtain ⟨hlt, e⟩ := List.getElem?_eq_some_iff.mp hd
      rw [← e]; exact List.drop_eq_getElem_cons hlt
    rw [hdrop] at hrest
    have sR0 : ∀ b, RS b → b ≠ I := fun b hb q => by
      obtain ⟨_, _, o, e⟩ := R.res b hb
      rw [q, hI0] at e; cases e
    refine wpAny_assign_Name (FR.store (s := { s with heap := a₂, toks := t₂ }) G0 R₂ hx (o := false) (d := d) (.inl ⟨rfl, hv.mono mono.mono⟩) fun a₃ t₃ R₃ same₃ => ?_)
    unfold txFor at hrest
    split at hrest
    · rename_i ρ2 hb2
      cases hrest
      refine hbx _ _ hb2 _ _ _ { s with heap := a₃, toks := t₃ } R₃ _ _ fun e hm h4 tk4 F4 val4 R4 gr4 same4 ti => ?_
      refine tie_back (s := { s with heap := h4, toks := tk4 }) hF R4 ti fun h5 ti5 => ?_
      exact k e hm h5 tk4 F4 val4 R4.release (monoF.trans (mono.trans gr4)) (fun b hb => (same4 b (.inl hb)).trans ((same₃ b (.inl hb)).trans ((same₂ b (.inl hb) (sR0 b hb)).trans (same b hb)))) ti5
    · split at hrest
      · rename_i ρ2 hb2
        refine hbd _ _ _ hb2 _ _ _ { s with heap := a₃, toks := t₃ } R₃ _ _ fun a₄ t₄ F₄ val₄ fl R₄ mono₄ same₄ hfl => ?_
        have sR : ∀ b, RS b → a₄.get? b = s.heap.get? b := fun b hb => (same₄ b (.inl hb)).trans ((same₃ b (.inl hb)).trans ((same₂ b (.inl hb) (sR0 b hb)).trans (same b hb)))
        have st₄ : St (j + 1) a₄ := W.frame _ _ _ st₂ fun b hb o e => by
          rcases hfpx b hb with rfl | ⟨_, hF⟩
          · rw [same₄ b (.inr rfl), same₃ b (.inr rfl)]; exact e
          · obtain ⟨q, hq⟩ := hF rfl
            exact fpk (mono.mono _ _ hq) R₂.fin mono₄.mono R₄.fin e
        obtain rfl : fl = .next := hfl
        exact ⟨_, Nat.sub_lt_sub_left (by omega) (Nat.lt_succ_self j), a₄, t₄, F₄, val₄, ρ2, j + 1, rfl, R₄, mono.trans mono₄, sR, st₄, hrest, hjl, rfl⟩
      · cases hrest
  · obtain rfl : j = vs.length := by omega
    rw [List.drop_length] at hrest
    cases hrest

theorem txN_ok (hi : SoundE K mg mb prog w i n) (ht : SoundT K mg mb prog w i n) (hs : SoundS K mg mb prog w i n) (hx : SoundX K mg mb prog w c j n) (hy : SoundY K mg mb prog w c j n) :
    ∀ sc ρ st ρ', txN K i j sc ρ st = some ρ' → ∀ A env outer h0 RS F val s, AOk A n → Fra A env outer h0 → Glb K mg mb h0 → Exc c mg h0 → FR K mg mb sc env h0 RS F ρ val s.heap → TStOk K mg mb prog w c (env :: outer) A sc env h0 RS F s ρ' (exec st env) := by
  intro sc ρ st ρ' h A env outer h0 RS F val s hA hF G0 O R
  unfold txN at h
  split at h
  · split at h
    · rename_i hc
      rw [Bool.and_eq_true, beq_iff_eq, beq_iff_eq] at hc
      cases h
      exact raise_tx hc.1 hc.2 hA hF G0 O R
    · cases h
  · split at h
    · rename_i hc
      cases h
      intro Q E k
      obtain ⟨m1, R1⟩ := R.frz _
      refine wpAny_Return_some (tx_call hi hy hc hA hF G0 O R1 fun e hm h' tk F' val' R' gr same ti => k e hm h' tk F' val' R' (m1.trans gr) same (.inr (.inl ti)))
    · cases h
  · split at h
    · rename_i hc
      cases h
      intro Q E k
      obtain ⟨m1, R1⟩ := R.frz _
      refine wpAny_Assign_Name (tx_call hi hy hc hA hF G0 O R1 fun e hm h' tk F' val' R' gr same ti => k e hm h' tk F' val' R' (m1.trans gr) same (.inr (.inl ti))) (swaps_not rfl _ _)
    · cases h
  · split at h
    · rename_i b hb
      intro Q E k
      refine wpAny_If (ht _ _ _ _ hb A env F s hA R.er _ _ fun h₁ tk₁ F₁ x₁ => ?_)
      have R1 := R.ext x₁
      cases b with
      | true => exact execs_tx hs hx h (s := { s with heap := h₁, toks := tk₁ }) hA hF G0 O R1 _ _ fun e hm h' tk F' val' R' gr same ti => k e hm h' tk F' val' R' ((R.grow x₁).trans gr) (fun b hb => (same b hb).trans (R.same x₁ b hb)) ti
      | false => exact execs_tx hs hx h (s := { s with heap := h₁, toks := tk₁ }) hA hF G0 O R1 _ _ fun e hm h' tk F' val' R' gr same ti => k e hm h' tk F' val' R' ((R.grow x₁).trans gr) (fun b hb => (same b hb).trans (R.same x₁ b hb)) ti
    · cases h
  · split at h
    · rename_i hl
      split at h
      · rename_i vs hvs
        exact for_tx hi (fun _ _ _ h _ _ _ _ R => execs_ok hs h hA G0 R) (fun _ _ h _ _ _ _ R => execs_tx hs hx h hA hF G0 O R) hl hvs h hA hF G0 R
      · cases h
    · cases h
  · cases h

theorem tcN_ok (hs : SoundS K mg mb prog w i n) (hx : SoundX K mg mb prog w c j n) {f : Str} {args : List D} (h : tcN K i j f args = true) {A : Around} {outer : List Env} {F : Fz} {s : Shared} {a : Addr} {vs : List Value} (hA : AOk A (n + 1)) (hfr : A.frames = some outer) (hout : ∃ base, s.heap.FunFrames base outer)
    (G : Glb K mg mb s.heap) (O : Exc c mg s.heap) (kf : KF K F) (fin : ∀ b o, F b = some o → s.heap.get? b = some o) (hn : nsIn K mainGlobals f = some (some (.ref a))) (hvs : VRs F vs args) {RR : Result → Shared → Prop}
    (k : ∀ e h' tk, (∃ a0, Heap.FlyingW (hideAll s.heap (outer.filterMap (·.frame))) outer e (.ref c) a0 h') → s.heap.UpToSlots h' → RR (.error (.ref e)) { s with heap := h', toks := tk }) : codeAny (model prog w) A (.call (.ref a) ⟨vs, []⟩) RR s := by
  unfold tcN at h
  split at h
  case h_2 => cases h
  rename_i fd hfd
  split at h
  case isFalse => cases h
  rename_i hok
  split at h
  case h_2 => cases h
  rename_i b ds hbody hds
  split at h
  case h_2 => cases h
  rename_i binds hbinds
  obtain ⟨ρ', hex⟩ := Option.isSome_iff_exists.mp h
  refine call_enter hfd hok hbody hds hbinds hA G kf fin hn hvs fun env h₁ tk₁ val hA' hloc R => ?_
  have hfr' : (A.deeper env).frames = some (env :: outer) := Around.frames_deeper hfr
  obtain ⟨base, hfun⟩ := hout
  refine execs_tx hs hx hex (s := { s with heap := h₁, toks := tk₁ }) hA' ⟨hfr', hloc, base, hfun⟩ G O R _ _ fun e hm h' tk F' val' R' gr same ti => ?_
  have hh := funFrames_hide (as := outer.filterMap (·.frame)) hfun (fun env' he b hb => List.mem_filterMap.mpr ⟨env', he, hb⟩)
  have hL0 : s.heap.get? env.locals = none := R'.privL.old
  have hLb : (hideAll s.heap (outer.filterMap (·.frame))).get? env.locals = none := by
    cases q : (hideAll s.heap (outer.filterMap (·.frame))).get? env.locals with
    | none => rfl
    | some o => rw [of_hideAll _ q] at hL0; cases hL0
  have hbase : ∀ {hm : Heap}, (∀ b o, s.heap.get? b = some o → hm.get? b = some o) → ∀ b o, (hideAll s.heap (outer.filterMap (·.frame))).get? b = some o → (hideAll hm ((env :: outer).filterMap (·.frame))).get? b = some o := fun {hm} keep b o q => by
    refine hideAll_get _ (keep b o (of_hideAll _ q)) fun hmem => ?_
    obtain ⟨env', he, hf⟩ := List.mem_filterMap.mp hmem
    rcases List.mem_cons.mp he with rfl | he
    · rw [hloc] at hf; cases hf; rw [hLb] at q; cases q
    · rw [hideAll_none _ (List.mem_filterMap.mpr ⟨env', he, hf⟩)] at q; cases q
  rcases ti with ⟨vs', hx⟩ | ⟨a0, hfl, hup⟩ | ⟨a0, L, hfL, hh, hup⟩
  · obtain ⟨m, ⟨o, es, ep, ho, hd, _⟩, _⟩ := R'.ns
    refine wpAny_leaves_madeW (base := hideAll s.heap (outer.filterMap (·.frame))) (h := hm) hfr' hloc (fun b o q => R'.keep b o (of_hideAll _ q)) ?_ hx fun h'' t fl _ _ up => ?_
    · exact ⟨by rw [R'.kind]; decide, ⟨env.locals, o, hloc, hLb, ho, fun vs q => by rw [hd] at q; cases q⟩, hh.of_keeps fun b o e _ => ⟨o, R'.keep b o e, rfl⟩⟩
    · exact k e h'' tk ⟨_, fl⟩ (((Heap.UpToSlots.of_keeps R'.keep).trans (Heap.UpToSlots.of_keeps hx.keeps)).trans up)
  · refine wpAny_leaves_onW hfr' hloc hfl fun h'' fl up => ?_
    exact k e h'' tk ⟨a0, flyingW_base (hbase R'.keep) fl⟩ (((Heap.UpToSlots.of_keeps R'.keep).trans hup).trans up)
  · refine leaves_held hfL hh fun h'' fl up => ?_
    exact k e h'' tk ⟨a0, flyingW_base (hbase R'.keep) fl⟩ (((Heap.UpToSlots.of_keeps R'.keep).trans hup).trans up)

theorem tx_all : ∀ n, SoundX K mg mb prog w c (Jt K n) n ∧ SoundY K mg mb prog w c (Jt K n) n
  | 0 => ⟨(fun _ _ _ _ h => by cases h), (fun _ _ h => by cases h)⟩
  | n + 1 => by
    obtain ⟨X, Y⟩ := tx_all n
    have S := sound_all (K := K) (mg := mg) (mb := mb) (prog := prog) (w := w) n
    refine ⟨fun sc ρ st ρ' h A env outer h0 RS F val s hA => txN_ok S.e S.t S.s X Y sc ρ st ρ' h A env outer h0 RS F val s hA.succ, fun f args h A outer F s a vs hA hfr hout G O kf fin hn hvs RR k => ?_⟩
    exact tcN_ok S.s X h hA hfr hout G O kf fin hn hvs k
end
end Mine

/-! Ty -/
namespace Mine

def hasTry (b : List Stmt) : Bool := b.any fun | .Try .. => true | _ => false
/-- the statements of the outermost frame: as ever, but for try .. except (o guesses whether the exception comes) -/
def exX (K : Frag) (o : Rho → Bool) : Nat → Scope → Rho → Stmt → Out (Rho × Option D)
  | 0, _, _, _ => .bad
  | n + 1, sc, ρ, st => match st with
    | .Try (first :: rest) [.ExceptHandler (some (.Name C _)) none [.Assign [.Name x _] (.Constant (.bool b) _ _) _] _] [] [] _ =>
      if o ρ then (match first with
        | .Assign [.Name _ _] (.Call (.Name f _) args [] _) _ =>
          if (C == excN && sc.names.lookup C == some .globalImplicit && localOrCell sc x) && txCall K (It K n) (Jt K n) sc (frz ρ (args.flatMap (al K 30 false))) f args then
            .ok (upd (frz ρ (args.flatMap (al K 30 false))) x false (.bool b), none)
          else .bad
        | _ => .bad)
      else exsL ((It K n).ex sc) (first :: rest) ρ
    | .For (.Name t tp) it b [] p => if hasTry b then
        (if localOrCell sc t then (srcE K (It K n) sc (frz ρ (al K 30 false it)) false it).bind fun vs => forL (fun v ρ => exsL (exX K o n sc) b (upd ρ t false v)) vs (frz ρ (al K 30 false it)) else .bad)
      else (It K n).ex sc ρ (.For (.Name t tp) it b [] p)
    | .If t b e p => (It K n).ex sc (frz ρ (al K 30 true t)) (.If t b e p)
    | st => (It K n).ex sc ρ st

def lawX (K : Frag) (o : Rho → Bool) (n : Nat) (f : Str) (args : List D) : Out D :=
  match fdOf K f with
  | some fd => if fdOk K fd then
      (match fd.body, dfltsD K fd with
      | .stmts b, some ds => (match bindP (fd.params.args.map (·.arg)) args ds with
        | some binds => (exsL (exX K o n fd.scope) b (rhoOf binds)).bind fun p => .ok (p.2.getD .none)
        | none => .bad)
      | _, _ => .bad)
    else .bad
  | none => .bad

section
variable {K : Frag} {o : Rho → Bool} {mg mb : Str → Option Value} {prog : Program} {w : World} {n : Nat} {c : Addr} {A : Around} {sc : Scope} {env : Env} {h0 : Heap} {RS : Addr → Prop} {F : Fz} {ρ ρ' : Rho} {val : Str → Option Value} {s : Shared} {r : Option D} {hm : Heap}

/-- the exception passes by: the frame's own object alone is written on -/
theorem FR.stays (G0 : Glb K mg mb h0) (hloc : env.frame = some env.locals) (R : FR K mg mb sc env h0 RS F ρ val hm) {h' : Heap} (st : (hideAll hm ([env].filterMap (·.frame))).StaysIn h') (up : hm.UpToSlots h') :
    FR K mg mb sc env h0 RS F ρ val h' ∧ ∀ b, RS b → h'.get? b = hm.get? b := by
  have off : ∀ b o, b ≠ env.locals → hm.get? b = some o → h'.get? b = some o := fun b o hb e => st b o (hideAll_get _ e fun hmem => by
    obtain ⟨env', he, hf⟩ := List.mem_filterMap.mp hmem
    obtain rfl : env' = env := by simpa using he
    rw [hloc] at hf; cases hf; exact hb rfl)
  have keep : ∀ b o, h0.get? b = some o → h'.get? b = some o := fun b o e => off b o (fun q => by rw [q, R.privL.old] at e; cases e) (R.keep b o e)
  have sameR : ∀ b, RS b → h'.get? b = hm.get? b := fun b hb => by
    obtain ⟨_, _, o, e⟩ := R.res b hb
    rw [e, off _ _ (fun q => R.privL.res (q ▸ hb)) e]
  obtain ⟨m, hns, em⟩ := R.ns
  refine ⟨⟨G0.keeps keep, R.kf, fun b o e => off b o (fun q => by rw [q, R.privL.frz] at e; cases e) (R.fin b o e), R.kind, R.gl, R.bu, R.kinds, R.nofree, keep, ⟨m, up.ns hns, em⟩, R.privL, fun y hy => ?_, R.inj, R.dom, R.vars, fun y d hy => ?_, R.sep, fun b hb => ?_⟩, sameR⟩
  · obtain ⟨cc, hc, hcell, p⟩ := R.cells y hy
    obtain ⟨o, ho, hd⟩ := hcell
    exact ⟨cc, hc, ⟨o, off _ _ (Ns_IsCell ⟨o, ho, hd⟩ hns).symm ho, hd⟩, p⟩
  · obtain ⟨a, o, hv, ha, rr, nl, p⟩ := R.own y d hy
    exact ⟨a, o, hv, off _ _ nl ha, rr, nl, p⟩
  · obtain ⟨h1, h2, h3⟩ := R.res b hb
    exact ⟨h1, h2, by rw [sameR b hb]; exact h3⟩

theorem caught {C : Str} {np pos p1 p2 p3 : Pos} {k} {x : Str} {b : Bool} {e : Addr} (hC : C = excN) (hsc : sc.names.lookup C = some .globalImplicit) (hx : localOrCell sc x = true) (hF : Fra A env [] h0) (G0 : Glb K mg mb h0) (O : Exc c mg h0)
    (R : FR K mg mb sc env h0 RS F ρ val hm) {a0 : Value} (hfl : Heap.FlyingW (hideAll hm ([env].filterMap (·.frame))) [env] e (.ref c) a0 s.heap) (hup : hm.UpToSlots s.heap) {Q : Flow → Shared → Prop} {E : Value → Shared → Prop}
    (kk : ∀ h' tk val', FR K mg mb sc env h0 RS F (upd ρ x false (.bool b)) val' h' → (∀ b, RS b → h'.get? b = hm.get? b) → Q .next { s with heap := h', toks := tk }) :
    wpAny (model prog w) A (noteFrame (.ref e) env)
      (fun _ s₂ => wpAny (model prog w) A (setFlight (.ref e) none) (fun _ s₃ =>
        wpAny (model prog w) A (handleBy (.ref e) env [.ExceptHandler (some (.Name C np)) none [.Assign [.Name x p1] (.Constant (.bool b) k p2) p3] pos]) Q E s₃) E s₂) E s := by
  subst hC
  obtain ⟨bm, N, nm, q, bs, hdct, sn, sub, ab, col, dd, k0, k1, k2, k3, k5, mN, hCo, hN, hni, TL⟩ := O.obj
  refine wpAny_looks_onW hF.fr hF.loc hfl fun h₄ hheld₄ hsm₄ => ?_
  refine wpAny_landsW hheld₄ fun h₅ hfl₅ hsm₅ => ?_
  have up₅ := (hup.trans hsm₄).trans hsm₅
  obtain ⟨R₅, same₅⟩ := R.stays G0 hF.loc hfl₅.1 up₅
  have hkind : env.kindOf excN = some .globalImplicit := by rw [R.kinds]; exact hsc
  obtain ⟨ob, hob, hobc⟩ := hfl₅.there
  refine wpAny_handleBy_cons (codeAny_handlers_test ?_) (by intro q; cases q)
  refine Calls.Name_function_global R.kind hkind (Calls.loadGlobal_global (env := env) (by rw [R.gl]; exact G0.g.keeps R₅.keep) O.bound ?_) (by decide)
  refine wpAny_excMatches_sub_self (R₅.keep _ _ hCo) hob hobc (TL.hasType PySem.F.excBase_Exception.hasBase) (codeAny_handlers_suite ?_)
  refine lands_againW hfl₅ fun h₆ hfl₆ hsm₆ => ?_
  obtain ⟨R₆, same₆⟩ := R.stays G0 hF.loc hfl₆.1 (up₅.trans hsm₆)
  refine wpAny_execs_cons (wpAny_Assign_Name (wpAny_Constant_bool ?_) (swaps_not rfl _ _))
  refine FR.store (s := { s with heap := h₆ }) G0 R₆ hx (o := false) (d := .bool b) (.inl ⟨rfl, .bool b⟩) fun h' tk R' same => wpAny_execs_nil ?_
  exact kk h' tk _ R' fun b hb => (same b hb).trans (same₆ b hb)

theorem execsX_of (hX : ∀ sc ρ st ρ' r, exX K o n sc ρ st = .ok (ρ', r) → ∀ A env h0 RS F val s, AOk A n → Fra A env [] h0 → Glb K mg mb h0 → Exc c mg h0 → FR K mg mb sc env h0 RS F ρ val s.heap → StOk K mg mb prog w A sc env h0 RS F s ρ' r (exec st env)) : ∀ {b : List Stmt} {ρ ρ' : Rho} {r : Option D}, exsL (exX K o n sc) b ρ = .ok (ρ', r) → ∀ {RS : Addr → Prop} {F : Fz} {val : Str → Option Value} {s : Shared}, AOk A n → Fra A env [] h0 → Glb K mg mb h0 → Exc c mg h0 → FR K mg mb sc env h0 RS F ρ val s.heap → StOk K mg mb prog w A sc env h0 RS F s ρ' r (execs b env)
  | [], ρ, ρ', r, h, RS, F, val, s, hA, hF, G0, O, R => by
    cases h
    exact fun Q E k => wpAny_execs_nil (k s.heap s.toks F val .next R (.refl _ _) (fun _ _ => rfl) rfl)
  | st :: b, ρ, ρ', r, h, RS, F, val, s, hA, hF, G0, O, R => by
    obtain ⟨⟨ρ1, r1⟩, h1, h2⟩ := Out.bind_ok h
    refine fun Q E k => wpAny_execs_cons (hX _ _ _ _ _ h1 A env h0 RS F val s hA hF G0 O R _ _ fun h' tk F' val' fl R' mono same hfl => ?_)
    cases r1 with
    | none =>
      cases hfl
      dsimp only at h2 ⊢
      exact execsX_of hX h2 (s := { s with heap := h', toks := tk }) hA hF G0 O R' _ _ fun h'' tk' F'' val'' fl' R'' mono' same' hfl' => k _ _ _ _ _ R'' (mono.trans mono') (fun b hb => (same' b hb).trans (same b hb)) hfl'
    | some d =>
      cases h2
      obtain ⟨v, rfl, vr⟩ := hfl
      exact k _ _ _ _ _ R' mono same ⟨v, rfl, vr⟩

theorem exX_ok : ∀ n sc ρ st ρ' r, exX K o n sc ρ st = .ok (ρ', r) → ∀ A env h0 RS F val s, AOk A n → Fra A env [] h0 → Glb K mg mb h0 → Exc c mg h0 → FR K mg mb sc env h0 RS F ρ val s.heap → StOk K mg mb prog w A sc env h0 RS F s ρ' r (exec st env) := by
  intro n
  induction n with
  | zero => intro sc ρ st ρ' r h; cases h
  | succ n ihX => ?_
  intro sc ρ st ρ' r h A env h0 RS F val s hA hF G0 O R
  unfold exX at h
  have S := sound_all (K := K) (mg := mg) (mb := mb) (prog := prog) (w := w) n
  obtain ⟨X, Y⟩ := tx_all (K := K) (mg := mg) (mb := mb) (prog := prog) (w := w) (c := c) n
  split at h
  · rename_i first rest C np x xp b bk bp ap hp tp
    split at h
    · split at h
      · split at h
        · rename_i hc
          rw [Bool.and_eq_true, Bool.and_eq_true, Bool.and_eq_true, beq_iff_eq, beq_iff_eq] at hc
          cases h
          intro Q E k
          refine wpAny_Try_except (wpAny_execs_cons ?_)
          obtain ⟨m1, R1⟩ := R.frz _
          refine wpAny_Assign_Name (tx_call S.e Y hc.2 hA.succ hF G0 O R1 fun e hm h' tk F' val' R' gr same ti => ?_) (swaps_not rfl _ _)
          obtain ⟨a0, hfl, hup⟩ := ti
          exact caught (s := { s with heap := h', toks := tk }) hc.1.1.1 hc.1.1.2 hc.1.2 hF G0 O R' hfl hup fun h'' tk' val'' R'' same' => k h'' tk' F' val'' .next R'' (m1.trans gr) (fun b hb => (same' b hb).trans (same b hb)) rfl
        · cases h
      · cases h
    · intro Q E k
      refine wpAny_Try_except (execs_ok S.s h hA.succ G0 R _ _ fun h' tk F' val' fl R' gr same hfl => ?_)
      cases r with
      | none =>
        obtain rfl : fl = .next := hfl
        exact wpAny_execs_nil (k h' tk F' val' .next R' gr same rfl)
      | some d =>
        obtain ⟨v, rfl, vr⟩ := hfl
        exact k h' tk F' val' (.ret v) R' gr same ⟨v, rfl, vr⟩
  · split at h
    · split at h
      · rename_i hx
        obtain ⟨vs, hvs, h2⟩ := Out.bind_ok h
        exact for_gen S.e (fun _ _ _ h _ _ _ _ R => execsX_of ihX h hA.succ hF G0 O R) hx hvs h2 hA.succ G0 R
      · cases h
    · exact S.s _ _ _ _ _ h A env h0 RS F val s hA.succ G0 R
  · rename_i t b e p
    intro Q E k
    obtain ⟨m1, R1⟩ := R.frz (al K 30 true t)
    exact S.s _ _ _ _ _ h A env h0 RS _ val s hA.succ G0 R1 Q E fun h' tk F' val' fl R' gr same hfl => k h' tk F' val' fl R' (m1.trans gr) same hfl
  · exact S.s _ _ _ _ _ h A env h0 RS F val s hA.succ G0 R

theorem lawX_code {f : Str} {args : List D} {d : D} (h : lawX K o n f args = .ok d) {A : Around} {F : Fz} {s : Shared} {a : Addr} {vs : List Value} (hA : AOk A (n + 1)) (hfr : A.frames = some []) (G : Glb K mg mb s.heap) (O : Exc c mg s.heap) (kf : KF K F)
    (fin : ∀ b o, F b = some o → s.heap.get? b = some o) (hn : nsIn K mainGlobals f = some (some (.ref a))) (hvs : VRs F vs args) {RR : Result → Shared → Prop}
    (k : ∀ v h' tk F', Ext F s.heap F' h' → VR F' v d → RR (.ok (.ret v)) { s with heap := h', toks := tk }) : codeAny (model prog w) A (.call (.ref a) ⟨vs, []⟩) RR s := by
  unfold lawX at h
  split at h
  case h_2 => cases h
  rename_i fd hfd
  split at h
  case isFalse => cases h
  rename_i hok
  split at h
  case h_2 => cases h
  rename_i b ds hbody hds
  split at h
  case h_2 => cases h
  rename_i binds hbinds
  obtain ⟨⟨ρ', r⟩, hex, h2⟩ := Out.bind_ok h
  cases h2
  refine call_enter hfd hok hbody hds hbinds hA G kf fin hn hvs fun env h₁ tk₁ val hA' hloc R => ?_
  refine execsX_of (c := c) (exX_ok _) hex (s := { s with heap := h₁, toks := tk₁ }) hA' ⟨Around.frames_deeper hfr, hloc, s.heap, trivial⟩ G O R _ _ fun h' tk F' val' fl R' gr same hfl => ?_
  have x' : Ext F s.heap F' h' := ⟨R'.keep, gr.mono, R'.fin, gr.new⟩
  cases r with
  | none =>
    obtain rfl : fl = .next := hfl
    exact k .none h' tk F' x' .none
  | some d' =>
    obtain ⟨v, rfl, vr⟩ := hfl
    exact k v h' tk F' x' vr

theorem law_runX {n : Nat} {zs : List Int} {d : D} (h : lawX K o n "law" [.list (zs.map .int)] = .ok d) {A : Around} {s : Shared} {fa script : Addr} {vs : List Value} (hA : AOk A (n + 1)) (hfr : A.frames = some []) (G : Glb K mg mb s.heap) (O : Exc c mg s.heap)
    (hn : nsIn K mainGlobals "law" = some (some (.ref fa))) (hl : s.heap.IsList script vs.toArray) (hi : IntsAre vs zs) {RR : Result → Shared → Prop}
    (k : ∀ v h' tk F', (∀ b o, s.heap.get? b = some o → h'.get? b = some o) → VR F' v d → RR (.ok (.ret v)) { s with heap := h', toks := tk }) : codeAny (model prog w) A (.call (.ref fa) ⟨[.ref script], []⟩) RR s := by
  obtain ⟨o, ho, hc, m, hd⟩ := hl
  have fin : ∀ b q, (fun b => if b = script then s.heap.get? b else K.lookup b : Fz) b = some q → s.heap.get? b = some q := fun b q e => by
    dsimp only at e
    split at e
    · exact e
    · exact G.kin _ _ e
  refine lawX_code (c := c) (F := fun b => if b = script then s.heap.get? b else K.lookup b) h hA hfr G O (fun a q hq _ => ?_) fin hn (.one (.list (o := o) (items := vs.toArray) (n := m) ?_ hc hd ?_)) fun v h' tk F' x r => k v h' tk F' x.keep r
  · show (if a = script then s.heap.get? a else K.lookup a) = some q
    split
    · exact G.kin _ _ hq
    · exact hq
  · show (if script = script then s.heap.get? script else K.lookup script) = some o
    rw [if_pos rfl]; exact ho
  · simpa using vrs_ints hi
end
end Mine

/-! Wp -/
namespace Mine

def W {α : Type} (x : Out α) (Q : α → Prop) : Prop := ∃ a, x = .ok a ∧ Q a
theorem W.ok {α : Type} {a : α} {Q : α → Prop} (h : Q a) : W (.ok a) Q := ⟨a, rfl, h⟩
theorem W.eq {α : Type} {x : Out α} {a : α} {Q : α → Prop} (e : x = .ok a) (h : Q a) : W x Q := ⟨a, e, h⟩
theorem W.bind {α β : Type} {x : Out α} {f : α → Out β} {Q : β → Prop} (h : W x (fun a => W (f a) Q)) : W (x.bind f) Q := by
  obtain ⟨a, rfl, b, h1, h2⟩ := h
  exact ⟨b, h1, h2⟩
theorem W.mono {α : Type} {x : Out α} {Q R : α → Prop} (h : W x Q) (k : ∀ a, Q a → R a) : W x R := let ⟨a, e, q⟩ := h; ⟨a, e, k a q⟩
theorem W.val {α : Type} {x : Out α} {a : α} (h : W x (fun b => b = a)) : x = .ok a := by
  obtain ⟨b, e, rfl⟩ := h; exact e

/-! ### look-ups -/
theorem lk_self {ρ : Rho} {x : Str} {o : Bool} {v : D} : upd ρ x o v x = some (o, v) := if_pos rfl
theorem lk_upd {ρ : Rho} {x y : Str} {o : Bool} {v : D} {r : Option (Bool × D)} (h : y ≠ x) (h2 : ρ y = r) : upd ρ x o v y = r := (if_neg h).trans h2
theorem lk_frz0 {ρ : Rho} {xs : List Str} {y : Str} {r : Option (Bool × D)} (h : xs.contains y = false) (h2 : ρ y = r) : frz ρ xs y = r := by
  cases xs with
  | nil => exact h2
  | cons x xs =>
    show (if (x :: xs).contains y then (ρ y).map (fun p => (false, p.2)) else ρ y) = r
    rw [h]; exact h2
theorem lk_frz1 {ρ : Rho} {xs : List Str} {y : Str} {o : Bool} {d : D} (h : xs.contains y = true) (h2 : ρ y = some (o, d)) : frz ρ xs y = some (false, d) := by
  cases xs with
  | nil => simp at h
  | cons x xs =>
    show (if (x :: xs).contains y then (ρ y).map (fun p => (false, p.2)) else ρ y) = some (false, d)
    rw [if_pos h, h2]; rfl
theorem lk_comp {ρ : Rho} {csc : Scope} {y : Str} {r : Option (Bool × D)} (h : csc.names.lookup y = some .free) (h2 : ρ y = r) : compRho csc ρ y = r := by
  unfold compRho; rw [h]; exact h2

theorem it_ex {K : Frag} {n : Nat} {sc : Scope} {ρ : Rho} {st : Stmt} : (It K (n + 1)).ex sc ρ st = exN K (It K n) sc ρ st := rfl
theorem it_ev {K : Frag} {n : Nat} {sc : Scope} {ρ : Rho} {wk : Bool} {e : Expr} : (It K (n + 1)).ev sc ρ wk e = evN K (It K n) sc ρ wk e := rfl
theorem it_tst {K : Frag} {n : Nat} {sc : Scope} {ρ : Rho} {e : Expr} : (It K (n + 1)).tst sc ρ e = tstN K (It K n) sc ρ e := rfl

/-! ### statements, one after the other -/
def Nx (f : Rho → Stmt → Out (Rho × Option D)) (r : List Stmt) (Q : Rho × Option D → Prop) (p : Rho × Option D) : Prop :=
  match p.2 with
  | none => W (exsL f r p.1) Q
  | some d => Q (p.1, some d)
section
variable {K : Frag} {n : Nat} {sc : Scope} {ρ : Rho} {wk : Bool} {p p1 p2 p3 p4 : Pos}

theorem W_nil {f : Rho → Stmt → Out (Rho × Option D)} {Q : Rho × Option D → Prop} (h : Q (ρ, none)) : W (exsL f [] ρ) Q := ⟨_, rfl, h⟩
theorem W_cons {f : Rho → Stmt → Out (Rho × Option D)} {s : Stmt} {r : List Stmt} {Q : Rho × Option D → Prop} (h : W (f ρ s) (Nx f r Q)) : W (exsL f (s :: r) ρ) Q := by
  obtain ⟨⟨ρ', o⟩, e, q⟩ := h
  cases o with
  | none =>
    obtain ⟨b, e2, q2⟩ := q
    exact ⟨b, by show (f ρ s).bind _ = _; rw [e]; exact e2, q2⟩
  | some d => exact ⟨(ρ', some d), by show (f ρ s).bind _ = _; rw [e]; rfl, q⟩
theorem Nx_n {f : Rho → Stmt → Out (Rho × Option D)} {r : List Stmt} {Q : Rho × Option D → Prop} (h : W (exsL f r ρ) Q) : Nx f r Q (ρ, none) := h
theorem Nx_s {f : Rho → Stmt → Out (Rho × Option D)} {r : List Stmt} {Q : Rho × Option D → Prop} {d : D} (h : Q (ρ, some d)) : Nx f r Q (ρ, some d) := h

theorem W_call {f : Str} {args ds : List D} {fd : FuncData} {b : List Stmt} {binds : List (Str × D)} {Q : D → Prop} (h1 : fdOf K f = some fd) (h2 : fdOk K fd = true) (h3 : fd.body = .stmts b) (h4 : dfltsD K fd = some ds)
    (h5 : bindP (fd.params.args.map (·.arg)) args ds = some binds) (h : W (exsL ((It K n).ex fd.scope) b (rhoOf binds)) (fun p => Q (p.2.getD .none))) : W ((It K (n + 1)).call f args) Q := by
  obtain ⟨a, e, q⟩ := h
  refine ⟨_, ?_, q⟩
  show callN K (It K n) f args = _
  unfold callN
  rw [h1]
  dsimp only
  rw [if_pos h2, h3, h4]
  dsimp only
  rw [h5]
  dsimp only
  rw [e]; rfl

theorem W_pass {Q : Rho × Option D → Prop} (h : Q (ρ, none)) : W ((It K (n + 1)).ex sc ρ (.Pass p)) Q := ⟨_, rfl, h⟩

theorem exN_assign {i : In} {x : Str} {e : Expr} (hd : isDictE e = false) : exN K i sc ρ (.Assign [.Name x p1] e p2) = if localOrCell sc x && (freshE e || notComp e) then
      (i.ev sc (frz ρ (alE K e)) (freshE e) e).bind fun d => .ok (upd (frz ρ (alE K e)) x (freshE e) d, none)
    else .bad := by
  cases e <;> first | (cases hd; done) | rfl
theorem W_assign {x : Str} {e : Expr} {fr : Bool} {Q : Rho × Option D → Prop} (h1 : (localOrCell sc x && (freshE e || notComp e)) = true) (h3 : freshE e = fr)
    (h : W ((It K n).ev sc (frz ρ (alE K e)) fr e) (fun d => Q (upd (frz ρ (alE K e)) x fr d, none))) (hd : isDictE e = false := by rfl) : W ((It K (n + 1)).ex sc ρ (.Assign [.Name x p1] e p2)) Q := by
  obtain ⟨a, e', q⟩ := h
  subst h3
  exact ⟨_, by rw [it_ex, exN_assign hd, if_pos h1, e']; rfl, q⟩
theorem W_assign0 {x : Str} {e : Expr} {fr : Bool} {Q : Rho × Option D → Prop} (h1 : (localOrCell sc x && (freshE e || notComp e)) = true) (h2 : alE K e = []) (h3 : freshE e = fr)
    (h : W ((It K n).ev sc ρ fr e) (fun d => Q (upd ρ x fr d, none))) (hd : isDictE e = false := by rfl) : W ((It K (n + 1)).ex sc ρ (.Assign [.Name x p1] e p2)) Q :=
  W_assign h1 h3 (by rw [h2]; exact h) hd
/-- a new dictionary -/
theorem W_dict0 {x : Str} {Q : Rho × Option D → Prop} (h1 : localOrCell sc x = true) (h : Q (upd ρ x true (dictD []), none)) : W ((It K (n + 1)).ex sc ρ (.Assign [.Name x p1] (.Dict [] [] dp) p2)) Q :=
  ⟨_, by rw [it_ex]; unfold exN; dsimp only; rw [if_pos h1], h⟩
theorem W_dict1 {x : Str} {k v : Expr} {Q : Rho × Option D → Prop} (h1 : (localOrCell sc x && notComp k && notComp v) = true)
    (h : W ((It K n).ev sc ρ false k) fun d => W ((It K n).ev sc ρ false v) fun c => W (rowI d) fun r => W (oneI c) fun _ => Q (upd ρ x true (dictD [r]), none)) : W ((It K (n + 1)).ex sc ρ (.Assign [.Name x p1] (.Dict [some k] [v] dp) p2)) Q := by
  obtain ⟨d, e1, c, e2, r, e3, u, e4, q⟩ := h
  exact ⟨_, by rw [it_ex]; unfold exN; dsimp only; rw [if_pos h1, e1]; simp only [Out.bind]; rw [e2]; simp only [Out.bind]; rw [e3]; simp only [Out.bind]; rw [e4], q⟩
theorem W_setdict {x : Str} {ix e : Expr} {rows : List (List Int)} {Q : Rho × Option D → Prop} (h1 : (notSlice ix && localOrCell sc x && nmOk x && notComp e) = true) (h2 : ρ x = some (true, dictD rows)) (h3 : rows.length < lim)
    (h : W ((It K n).ev sc ρ false e) fun d => W (oneI d) fun _ => W ((It K n).ev sc ρ false ix) fun k => W (rowI k) fun r => Q (upd ρ x true (dictD (putT r rows)), none)) : W ((It K (n + 1)).ex sc ρ (.Assign [.Subscript (.Name x p1) ix p2] e p3)) Q := by
  obtain ⟨d, e1, u, e2, k, e3, r, e4, q⟩ := h
  have hi : isDictAt ρ x = true := by unfold isDictAt; rw [h2]; rfl
  have ho : ownT ρ x = .ok rows := by unfold ownT; rw [h2]; unfold dictD; dsimp only; rw [keysI_map]; exact if_pos h3
  exact ⟨_, by rw [it_ex]; unfold exN; dsimp only; rw [if_pos h1, if_pos hi, e1]; simp only [Out.bind]; rw [e2]; simp only [Out.bind]; rw [e3]; simp only [Out.bind]; rw [e4]; simp only [Out.bind]; rw [ho], q⟩

theorem notDictAt {ρ : Rho} {l : List Str} {x : Str} {xs : List D} (h : ownL (frz ρ l) x = .ok xs) : isDictAt ρ x = false := by
  have h1 := (ownL_ok h).1
  unfold isDictAt
  rcases frz_some h1 with ⟨_, q⟩ | ⟨_, q, _⟩
  · rw [q]
  · cases q
theorem W_setsub {x : Str} {ix e : Expr} {Q : Rho × Option D → Prop} (h1 : (notSlice ix && localOrCell sc x && nmOk x && notComp e) = true)
    (h : W ((It K n).ev sc (frz ρ (al K 30 false e)) false e) fun d => W ((It K n).ev sc (frz ρ (al K 30 false e)) true ix) fun k => W (intD k) fun k => W (ownL (frz ρ (al K 30 false e)) x) fun xs => W (posL k xs.length) fun j =>
      Q (upd (frz ρ (al K 30 false e)) x true (.list (xs.set j d)), none)) : W ((It K (n + 1)).ex sc ρ (.Assign [.Subscript (.Name x p1) ix p2] e p3)) Q := by
  obtain ⟨d, e1, k, e2, kk, e3, xs, e4, j, e5, q⟩ := h
  exact ⟨_, by rw [it_ex]; unfold exN; dsimp only; rw [if_pos h1, if_neg (by rw [notDictAt e4]; exact Bool.false_ne_true), e1]; simp only [Out.bind]; rw [e2]; simp only [Out.bind]; rw [e3]; simp only [Out.bind]; rw [e4]; simp only [Out.bind]; rw [e5], q⟩

theorem W_aug {x : Str} {op : Operator} {e : Expr} {a : Int} {Q : Rho × Option D → Prop} (h1 : localOrCell sc x = true) (h2 : ρ x = some (false, .int a))
    (h : W ((It K n).ev sc ρ true e) fun d => W (intD d) fun b => W (augI op a b) fun c => Q (upd ρ x false c, none)) : W ((It K (n + 1)).ex sc ρ (.AugAssign (.Name x p1) op e p2)) Q := by
  obtain ⟨d, e1, b, e2, c, e3, q⟩ := h
  exact ⟨_, by rw [it_ex]; unfold exN; dsimp only; rw [if_pos h1, h2]; dsimp only; rw [e1]; simp only [Out.bind]; rw [e2]; simp only [Out.bind]; rw [e3], q⟩

theorem W_augsub {x : Str} {ix e : Expr} {op : Operator} {xs : List D} {Q : Rho × Option D → Prop} (h1 : (notSlice ix && localOrCell sc x && nmOk x) = true) (h2 : ownL ρ x = .ok xs)
    (h : W ((It K n).ev sc ρ true ix) fun k => W (intD k) fun k => W (idxD (.list xs) k) fun old => W (intD old) fun a => W ((It K n).ev sc ρ true e) fun d => W (intD d) fun b => W (augI op a b) fun c => W (posL k xs.length) fun j => Q (upd ρ x true (.list (xs.set j c)), none)) :
    W ((It K (n + 1)).ex sc ρ (.AugAssign (.Subscript (.Name x p1) ix p2) op e p3)) Q := by
  obtain ⟨k, e1, kk, e2, old, e3, a, e4, d, e5, b, e6, c, e7, j, e8, q⟩ := h
  exact ⟨_, by rw [it_ex]; unfold exN; dsimp only; rw [if_pos h1, e1]; simp only [Out.bind]; rw [e2]; simp only [Out.bind]; rw [h2]; simp only [Out.bind]; rw [e3]; simp only [Out.bind]; rw [e4]; simp only [Out.bind]; rw [e5]; simp only [Out.bind]; rw [e6]; simp only [Out.bind]; rw [e7]; simp only [Out.bind]; rw [e8], q⟩

theorem W_append {x nm : Str} {e : Expr} {ap cp : Pos} {xs : List D} {Q : Rho × Option D → Prop} (h1 : (nm == ("append" : Str) && localOrCell sc x && nmOk x && notStar e && ap.endLine == cp.line) = true) (h2 : ownL ρ x = .ok xs) (h3 : ownL (frz ρ (al K 30 false e)) x = .ok xs)
    (h : W ((It K n).ev sc (frz ρ (al K 30 false e)) false e) fun d => Q (upd (frz ρ (al K 30 false e)) x true (.list (xs ++ [d])), none)) :
    W ((It K (n + 1)).ex sc ρ (.Expr (.Call (.Attribute (.Name x p1) nm ap) [e] [] cp) p4)) Q := by
  obtain ⟨d, e1, q⟩ := h
  exact ⟨_, by rw [it_ex]; unfold exN; dsimp only; rw [if_pos h1, h2]; simp only [Out.bind]; rw [e1]; simp only [Out.bind]; rw [h3], q⟩
theorem W_append0 {x nm : Str} {e : Expr} {ap cp : Pos} {xs : List D} {Q : Rho × Option D → Prop} (h1 : (nm == ("append" : Str) && localOrCell sc x && nmOk x && notStar e && ap.endLine == cp.line) = true) (h2 : ownL ρ x = .ok xs) (h3 : al K 30 false e = [])
    (h : W ((It K n).ev sc ρ false e) fun d => Q (upd ρ x true (.list (xs ++ [d])), none)) :
    W ((It K (n + 1)).ex sc ρ (.Expr (.Call (.Attribute (.Name x p1) nm ap) [e] [] cp) p4)) Q :=
  W_append h1 h2 (by rw [h3]; exact h2) (by rw [h3]; exact h)

theorem W_if {t : Expr} {b o : List Stmt} {Q : Rho × Option D → Prop} (h : W ((It K n).tst sc ρ t) fun c => (c = true → W (exsL ((It K n).ex sc) b ρ) Q) ∧ (c = false → W (exsL ((It K n).ex sc) o ρ) Q)) : W ((It K (n + 1)).ex sc ρ (.If t b o p)) Q := by
  obtain ⟨c, e1, q1, q2⟩ := h
  cases c with
  | true =>
    obtain ⟨a, e2, q⟩ := q1 rfl
    exact ⟨a, by show ((It K n).tst sc ρ t).bind _ = _; rw [e1]; exact e2, q⟩
  | false =>
    obtain ⟨a, e2, q⟩ := q2 rfl
    exact ⟨a, by show ((It K n).tst sc ρ t).bind _ = _; rw [e1]; exact e2, q⟩

theorem W_ret {e : Expr} {Q : Rho × Option D → Prop} (h : W ((It K n).ev sc (frz ρ (al K 30 false e)) false e) fun d => Q (frz ρ (al K 30 false e), some d)) : W ((It K (n + 1)).ex sc ρ (.Return (some e) p)) Q := by
  obtain ⟨d, e1, q⟩ := h
  exact ⟨_, by show ((It K n).ev sc (frz ρ (al K 30 false e)) false e).bind _ = _; rw [e1]; rfl, q⟩

/-- a loop: an invariant over the items still to come -/
theorem forL_inv {f : D → Rho → Out (Rho × Option D)} {Q : Rho × Option D → Prop} (I : List D → Rho → Prop) (hn : ∀ ρ, I [] ρ → Q (ρ, none))
    (hs : ∀ v r ρ, I (v :: r) ρ → W (f v ρ) fun p => match p.2 with | none => I r p.1 | some d => Q (p.1, some d)) : ∀ (vs : List D) (ρ : Rho), I vs ρ → W (forL f vs ρ) Q
  | [], ρ, h => ⟨_, rfl, hn ρ h⟩
  | v :: r, ρ, h => by
    obtain ⟨⟨ρ', o⟩, e, q⟩ := hs v r ρ h
    cases o with
    | none =>
      obtain ⟨b, e2, q2⟩ := forL_inv I hn hs r ρ' q
      exact ⟨b, by show (f v ρ).bind _ = _; rw [e]; exact e2, q2⟩
    | some d => exact ⟨(ρ', some d), by show (f v ρ).bind _ = _; rw [e]; rfl, q⟩
theorem forL_nil {f : D → Rho → Out (Rho × Option D)} {Q : Rho × Option D → Prop} (h : Q (ρ, none)) : W (forL f [] ρ) Q := ⟨_, rfl, h⟩
theorem forL_cons {f : D → Rho → Out (Rho × Option D)} {v : D} {r : List D} {Q : Rho × Option D → Prop} (h : W (f v ρ) fun p => match p.2 with | none => W (forL f r p.1) Q | some d => Q (p.1, some d)) : W (forL f (v :: r) ρ) Q := by
  obtain ⟨⟨ρ', o⟩, e, q⟩ := h
  cases o with
  | none =>
    obtain ⟨b, e2, q2⟩ := q
    exact ⟨b, by show (f v ρ).bind _ = _; rw [e]; exact e2, q2⟩
  | some d => exact ⟨(ρ', some d), by show (f v ρ).bind _ = _; rw [e]; rfl, q⟩

/-- not the loop over an own list -/
def plainFor (it : Expr) (b : List Stmt) : Bool :=
  match it, b with
  | .Name .., [.Assign [.Name ..] ..] => false
  | _, _ => true
theorem W_for {t : Str} {it : Expr} {b : List Stmt} {Q : Rho × Option D → Prop} (h1 : localOrCell sc t = true) (h2 : plainFor it b = true)
    (h : W (srcE K (It K n) sc (frz ρ (al K 30 false it)) false it) fun vs => W (forL (fun v ρ => exsL ((It K n).ex sc) b (upd ρ t false v)) vs (frz ρ (al K 30 false it))) Q) : W ((It K (n + 1)).ex sc ρ (.For (.Name t p1) it b [] p2)) Q := by
  obtain ⟨vs, e1, a, e2, q⟩ := h
  refine ⟨a, ?_, q⟩
  rw [it_ex]
  unfold exN
  dsimp only
  rw [if_pos h1]
  split
  · cases h2
  · rw [e1]; exact e2
theorem W_for0 {t : Str} {it : Expr} {b : List Stmt} {Q : Rho × Option D → Prop} (h1 : localOrCell sc t = true) (h2 : plainFor it b = true) (h3 : al K 30 false it = [])
    (h : W (srcE K (It K n) sc ρ false it) fun vs => W (forL (fun v ρ => exsL ((It K n).ex sc) b (upd ρ t false v)) vs ρ) Q) : W ((It K (n + 1)).ex sc ρ (.For (.Name t p1) it b [] p2)) Q :=
  W_for h1 h2 (by rw [h3]; exact h)
theorem W_forI {t z y : Str} {e : Expr} {xs : List D} {ρ' : Rho} {Q : Rho × Option D → Prop} (h1 : localOrCell sc t = true) (h2 : (z != t && z != y && localOrCell sc y && localOrCell sc z && nmOk z && notComp e) = true) (h3 : ownL ρ z = .ok xs)
    (h4 : foldI (fun ρ => (It K n).ev sc ρ false e) t y xs ρ = .ok ρ') (h : Q (ρ', none)) : W ((It K (n + 1)).ex sc ρ (.For (.Name t p1) (.Name z p2) [.Assign [.Name y p3] e p4] [] p)) Q := by
  refine ⟨_, ?_, h⟩
  rw [it_ex]
  unfold exN
  dsimp only
  rw [if_pos h1, if_pos h2, h3]
  simp only [Out.bind]
  rw [h4]

theorem whileL_inv {t : Rho → Out Bool} {f : Rho → Out (Rho × Option D)} {Q : Rho × Option D → Prop} (I : Nat → Rho → Prop)
    (hs : ∀ m ρ, I m ρ → W (t ρ) fun c => (c = true → 0 < m ∧ W (f ρ) fun p => match p.2 with | none => I (m - 1) p.1 | some d => Q (p.1, some d)) ∧ (c = false → Q (ρ, none))) : ∀ (m k : Nat) (ρ : Rho), m < k → I m ρ → W (whileL t f k ρ) Q
  | m, 0, ρ, hm, h => by omega
  | m, k + 1, ρ, hm, h => by
    obtain ⟨c, e, q1, q2⟩ := hs m ρ h
    cases c with
    | false => exact ⟨_, by show (t ρ).bind _ = _; rw [e]; rfl, q2 rfl⟩
    | true =>
      obtain ⟨h0, ⟨ρ', o⟩, e2, q⟩ := q1 rfl
      cases o with
      | none =>
        obtain ⟨b, e3, q3⟩ := whileL_inv I hs (m - 1) k ρ' (by omega) q
        refine ⟨b, ?_, q3⟩
        show (t ρ).bind _ = _
        rw [e]
        show (f ρ).bind _ = _
        rw [e2]; exact e3
      | some d =>
        refine ⟨(ρ', some d), ?_, q⟩
        show (t ρ).bind _ = _
        rw [e]
        show (f ρ).bind _ = _
        rw [e2]; rfl
theorem W_while {t : Expr} {b : List Stmt} {Q : Rho × Option D → Prop} (h : W (whileL (fun ρ => (It K n).tst sc ρ t) (fun ρ => exsL ((It K n).ex sc) b ρ) 200 ρ) Q) : W ((It K (n + 1)).ex sc ρ (.While t b [] p)) Q := h

/-! ### expressions -/
theorem W_const {c : Const} {k : Nat} {d : D} {Q : D → Prop} (e : constD c = .ok d) (h : Q d) : W ((It K (n + 1)).ev sc ρ wk (.Constant c k p)) Q := ⟨d, e, h⟩
theorem W_name {x : Str} {o : Bool} {d : D} {Q : D → Prop} (h1 : (x == ("__debug__" : Str) || x == ("__classdict__" : Str)) = false) (h2 : isVar (sc.names.lookup x) = true) (h3 : ρ x = some (o, d)) (h4 : (o && !wk) = false) (h : Q d) : W ((It K (n + 1)).ev sc ρ wk (.Name x p)) Q := by
  refine ⟨d, ?_, h⟩
  show nameD K sc ρ wk x = _
  unfold nameD
  rw [if_neg (by rw [h1]; decide), if_pos h2, h3]
  dsimp only
  rw [if_neg (by rw [h4]; decide)]
theorem W_gname {x : Str} {d : D} {Q : D → Prop} (h1 : isVar (sc.names.lookup x) = false) (h2 : nameD K sc (fun _ => none) wk x = .ok d) (h : Q d) : W ((It K (n + 1)).ev sc ρ wk (.Name x p)) Q := by
  refine ⟨d, ?_, h⟩
  rw [← h2]
  show nameD K sc ρ wk x = _
  unfold nameD
  rw [h1]
  rfl
theorem W_bin {l r : Expr} {op : Operator} {Q : D → Prop} (h : W ((It K n).ev sc ρ true l) fun a => W ((It K n).ev sc ρ true r) fun b => W (binD op a b) Q) : W ((It K (n + 1)).ev sc ρ wk (.BinOp l op r p)) Q := W.bind (h.mono fun a h => .bind h)
theorem W_un {x : Expr} {op : UnaryOp} {Q : D → Prop} (h : W ((It K n).ev sc ρ true x) fun a => W (unD op a) Q) : W ((It K (n + 1)).ev sc ρ wk (.UnaryOp op x p)) Q := W.bind h
theorem W_boolop {es : List Expr} {op : BoolOp} {Q : D → Prop} (h : W (boolL ((It K n).ev sc ρ false) op es) Q) : W ((It K (n + 1)).ev sc ρ wk (.BoolOp op es p)) Q := h
theorem W_bool1 {f : Expr → Out D} {op : BoolOp} {e : Expr} {Q : D → Prop} (h : W (f e) Q) : W (boolL f op [e]) Q := h
theorem W_booland {f : Expr → Out D} {e e2 : Expr} {r : List Expr} {Q : D → Prop} (h : W (f e) fun v => W (trD v) fun t => (t = false → Q v) ∧ (t = true → W (boolL f .And (e2 :: r)) Q)) : W (boolL f .And (e :: e2 :: r)) Q := by
  obtain ⟨v, e1, t, e3, q1, q2⟩ := h
  cases t with
  | false => exact ⟨v, by show (f e).bind _ = _; rw [e1]; show (trD v).bind _ = _; rw [e3]; rfl, q1 rfl⟩
  | true =>
    obtain ⟨a, e4, q⟩ := q2 rfl
    exact ⟨a, by show (f e).bind _ = _; rw [e1]; show (trD v).bind _ = _; rw [e3]; exact e4, q⟩
theorem W_cmp {l r : Expr} {op : CmpOp} {Q : D → Prop} (h1 : notSet r = true) (h : W ((It K n).ev sc ρ true l) fun a => W ((It K n).ev sc ρ true r) fun b => W (cmpD op a b) fun c => Q (.bool c)) : W ((It K (n + 1)).ev sc ρ wk (.Compare l [op] [r] p)) Q := by
  obtain ⟨a, e1, b, e2, c, e3, q⟩ := h
  exact ⟨_, by rw [it_ev]; unfold evN; dsimp only; rw [if_pos h1, e1]; simp only [Out.bind]; rw [e2]; simp only [Out.bind]; rw [e3], q⟩
theorem W_ifexp {t b o : Expr} {Q : D → Prop} (h : W ((It K n).tst sc ρ t) fun c => (c = true → W ((It K n).ev sc ρ false b) Q) ∧ (c = false → W ((It K n).ev sc ρ false o) Q)) : W ((It K (n + 1)).ev sc ρ wk (.IfExp t b o p)) Q := by
  obtain ⟨c, e1, q1, q2⟩ := h
  cases c with
  | true =>
    obtain ⟨a, e2, q⟩ := q1 rfl
    exact ⟨a, by show ((It K n).tst sc ρ t).bind _ = _; rw [e1]; exact e2, q⟩
  | false =>
    obtain ⟨a, e2, q⟩ := q2 rfl
    exact ⟨a, by show ((It K n).tst sc ρ t).bind _ = _; rw [e1]; exact e2, q⟩
theorem W_list {es : List Expr} {Q : D → Prop} (h : W (evs ((It K n).ev sc ρ false) es) fun vs => vs.length ≤ lim ∧ Q (.list vs)) : W ((It K (n + 1)).ev sc ρ wk (.List es p)) Q := by
  obtain ⟨vs, e1, q1, q⟩ := h
  exact ⟨_, by rw [it_ev]; unfold evN; dsimp only; rw [e1]; simp only [Out.bind]; rw [if_pos q1], q⟩
theorem W_tuple {es : List Expr} {kk : _} {Q : D → Prop} (h : W (evs ((It K n).ev sc ρ false) es) fun vs => vs.length ≤ lim ∧ Q (.tuple vs)) : W ((It K (n + 1)).ev sc ρ wk (.Tuple es kk p)) Q := by
  obtain ⟨vs, e1, q1, q⟩ := h
  exact ⟨_, by rw [it_ev]; unfold evN; dsimp only; rw [e1]; simp only [Out.bind]; rw [if_pos q1], q⟩
theorem W_sub {v s : Expr} {Q : D → Prop} (h1 : notSlice s = true) (h : W ((It K n).ev sc ρ true v) fun o => W ((It K n).ev sc ρ true s) fun k => W (intD k) fun k => W (idxD o k) Q) : W ((It K (n + 1)).ev sc ρ wk (.Subscript v s p)) Q := by
  obtain ⟨o, e1, kd, e2, k, e3, d, e4, q⟩ := h
  rw [intD_ok e3] at e2
  exact ⟨_, by rw [it_ev]; unfold evN; dsimp only; rw [if_pos h1, e1]; simp only [Out.bind]; rw [e2]; exact e4, q⟩
theorem W_evs0 {f : Expr → Out D} {Q : List D → Prop} (h : Q []) : W (evs f []) Q := ⟨_, rfl, h⟩
theorem W_evs1 {f : Expr → Out D} {e : Expr} {r : List Expr} {Q : List D → Prop} (h1 : notStar e = true) (h : W (f e) fun v => W (evs f r) fun vs => Q (v :: vs)) : W (evs f (e :: r)) Q := by
  obtain ⟨v, e1, vs, e2, q⟩ := h
  refine ⟨_, ?_, q⟩
  unfold evs
  split
  · rename_i heq; cases heq
  · rename_i heq; cases heq; cases h1
  · rename_i hne heq
    cases heq
    rw [e1]; simp only [Out.bind]; rw [e2]

theorem W_callf {f : Str} {args : List Expr} {Q : D → Prop} (h1 : calleeD K sc f = some .fn) (h2 : (args.isEmpty || (fdOf K f).isNone) = false) (h : W (evs ((It K n).ev sc ρ false) args) fun vs => W ((It K n).call f vs) Q) : W ((It K (n + 1)).ev sc ρ wk (.Call (.Name f p1) args [] p2)) Q := by
  obtain ⟨vs, e1, d, e2, q⟩ := h
  refine ⟨d, ?_, q⟩
  show callD K (It K n) sc ρ f args [] = _
  unfold callD
  rw [h1]
  dsimp only
  rw [if_neg (by rw [h2]; decide), e1]; exact e2
theorem W_callb {f : Str} {id : String} {e : Expr} {Q : D → Prop} (h1 : calleeD K sc f = some (.built id)) (h2 : notStar e = true) (h : W ((It K n).ev sc ρ true e) fun d => W (fnD id d) Q) : W ((It K (n + 1)).ev sc ρ wk (.Call (.Name f p1) [e] [] p2)) Q := by
  obtain ⟨v, e1, d, e2, q⟩ := h
  refine ⟨d, ?_, q⟩
  show callD K (It K n) sc ρ f [e] [] = _
  unfold callD
  rw [h1]
  dsimp only
  cases e <;> first | (cases h2; done) | (show ((It K n).ev sc ρ true _).bind (fnD id) = _; rw [e1]; exact e2)
theorem W_callt {f : Str} {T : String} {e : Expr} {Q : D → Prop} (h1 : calleeD K sc f = some (.ty T)) (h2 : notStar e = true) (h : W ((It K n).ev sc ρ true e) fun d => W (tyD T d) Q) : W ((It K (n + 1)).ev sc ρ wk (.Call (.Name f p1) [e] [] p2)) Q := by
  obtain ⟨v, e1, d, e2, q⟩ := h
  refine ⟨d, ?_, q⟩
  show callD K (It K n) sc ρ f [e] [] = _
  unfold callD
  rw [h1]
  dsimp only
  cases e <;> first | (cases h2; done) | (show ((It K n).ev sc ρ true _).bind (tyD T) = _; rw [e1]; exact e2)
theorem W_isinst {f T : Str} {T' : String} {e : Expr} {Q : D → Prop} (h1 : calleeD K sc f = some (.built "isinstance")) (h3 : calleeD K sc T = some (.ty T')) (h2 : notStar e = true) (h : W ((It K n).ev sc ρ true e) fun d => W (isD T' d) fun b => Q (.bool b)) :
    W ((It K (n + 1)).ev sc ρ wk (.Call (.Name f p1) [e, .Name T p3] [] p2)) Q := by
  obtain ⟨v, e1, d, e2, q⟩ := h
  refine ⟨_, ?_, q⟩
  show callD K (It K n) sc ρ f [e, .Name T p3] [] = _
  unfold callD
  rw [h1]
  dsimp only
  cases e <;> first | (cases h2; done) | (simp only [h3, e1, Out.bind, beq_self_eq_true, if_true]; rw [e2])

theorem W_callrev {f k : Str} {id : String} {e : Expr} {kk : Nat} {pp pq : Pos} {Q : D → Prop} (h1 : calleeD K sc f = some (.built id)) (h2 : notStar e = true) (h3 : (k == ("reverse" : Str)) = true) (h : W ((It K n).ev sc ρ true e) fun d => W (revD id d) Q) :
    W ((It K (n + 1)).ev sc ρ wk (.Call (.Name f p1) [e] [⟨some k, .Constant (.bool true) kk pp, pq⟩] p2)) Q := by
  obtain ⟨v, e1, d, e2, q⟩ := h
  refine ⟨d, ?_, q⟩
  show callD K (It K n) sc ρ f [e] [_] = _
  unfold callD
  rw [h1]
  dsimp only
  cases e <;> first | (cases h2; done) | (simp only [h3, if_true, e1, Out.bind]; exact e2)

theorem W_srccall {f : Str} {args : List Expr} {Q : List D → Prop} (h1 : (match calleeD K sc f with | some (.ty _) => false | _ => true) = true) (h : W ((It K n).ev sc ρ wk (.Call (.Name f p1) args [] p2)) fun d => W (srcD d) Q) : W (srcE K (It K n) sc ρ wk (.Call (.Name f p1) args [] p2)) Q := by
  have : srcE K (It K n) sc ρ wk (.Call (.Name f p1) args [] p2) = ((It K n).ev sc ρ wk (.Call (.Name f p1) args [] p2)).bind srcD := by
    unfold srcE
    dsimp only
    cases hc : calleeD K sc f with
    | none => rfl
    | some c =>
      cases c with
      | ty T => rw [hc] at h1; cases h1
      | fn => rfl
      | built id => rfl
  rw [this]; exact W.bind h
/-- a source that is no call of range -/
def plainSrc : Expr → Bool
  | .Call (.Name ..) _ [] _ => false
  | .Set .. => false
  | _ => true
theorem W_src {e : Expr} {Q : List D → Prop} (h1 : plainSrc e = true) (h : W ((It K n).ev sc ρ wk e) fun d => W (srcD d) Q) : W (srcE K (It K n) sc ρ wk e) Q := by
  have : srcE K (It K n) sc ρ wk e = ((It K n).ev sc ρ wk e).bind srcD := by
    unfold srcE
    split
    · cases h1
    · cases h1
    · rfl
  rw [this]; exact W.bind h
theorem W_range {f : Str} {args : List Expr} {Q : List D → Prop} (h1 : calleeD K sc f = some (.ty "range")) (h2 : args.isEmpty = false) (h : W (evs ((It K n).ev sc ρ true) args) fun as => W (rngD as) Q) : W (srcE K (It K n) sc ρ wk (.Call (.Name f p1) args [] p2)) Q := by
  obtain ⟨as, e1, r, e2, q⟩ := h
  refine ⟨r, ?_, q⟩
  unfold srcE
  simp only [h1, h2, e1, Out.bind, beq_self_eq_true, Bool.not_false, Bool.and_true, if_true]
  exact e2

theorem filtL_of {α β : Type} {t : α → Out Bool} {f : α → Out β} {pp : α → Bool} {g : α → β} : ∀ {l : List α}, (∀ v ∈ l, t v = .ok (pp v)) → (∀ v ∈ l, pp v = true → f v = .ok (g v)) → filtL t f l = .ok ((l.filter pp).map g)
  | [], _, _ => rfl
  | v :: l, h1, h2 => by
    have ih := filtL_of (l := l) (fun u hu => h1 u (List.mem_cons_of_mem _ hu)) fun u hu => h2 u (List.mem_cons_of_mem _ hu)
    show (t v).bind _ = _
    rw [h1 v List.mem_cons_self]
    simp only [Out.bind]
    cases hp : pp v with
    | false => simp only [Bool.false_eq_true, if_false, List.filter_cons, hp]; exact ih
    | true =>
      simp only [if_true, List.filter_cons, hp, List.map_cons]
      rw [h2 v List.mem_cons_self hp]
      simp only [Out.bind]
      rw [ih]

theorem W_comp {elt it : Expr} {ifs : List Expr} {x : Str} {csc : Scope} {Q : D → Prop} (h1 : (freeOk sc csc && namesOk csc) = true) (h2 : localOrCell csc x = true)
    (h : W (srcE K (It K n) sc ρ true it) fun vs => W (filtL (fun v => tests ((It K n).tst csc (upd (compRho csc ρ) x false v)) ifs) (fun v => (It K n).ev csc (upd (compRho csc ρ) x false v) false elt) vs) fun ds => Q (.list ds)) :
    W ((It K (n + 1)).ev sc ρ wk (.ListComp elt [⟨.Name x p1, it, ifs, 0⟩] csc p)) Q := by
  obtain ⟨vs, e1, ds, e2, q⟩ := h
  refine ⟨_, ?_, q⟩
  rw [it_ev]
  unfold evN
  dsimp only
  unfold compE
  rw [if_pos h1]
  show ((if localOrCell csc x = true then _ else Out.bad : Out (List D)).bind _) = _
  rw [if_pos h2, e1]
  simp only [Out.bind]
  rw [e2]
theorem catL_of {α β : Type} {f : α → Out (List β)} {g : α → List β} : ∀ {l : List α}, (∀ v ∈ l, f v = .ok (g v)) → catL f l = .ok (l.flatMap g)
  | [], _ => rfl
  | v :: l, h => by
    have ih := catL_of (l := l) fun u hu => h u (List.mem_cons_of_mem _ hu)
    show (f v).bind _ = _
    rw [h v List.mem_cons_self]
    simp only [Out.bind]
    rw [ih, List.flatMap_cons]
theorem mapL_of {α β : Type} {f : α → Out β} {g : α → β} : ∀ {l : List α}, (∀ v ∈ l, f v = .ok (g v)) → mapL f l = .ok (l.map g)
  | [], _ => rfl
  | v :: l, h => by
    have ih := mapL_of (l := l) fun u hu => h u (List.mem_cons_of_mem _ hu)
    show (f v).bind _ = _
    rw [h v List.mem_cons_self]
    simp only [Out.bind]
    rw [ih, List.map_cons]
theorem W_comp2 {elt it : Expr} {x y z : Str} {csc : Scope} {Q : D → Prop} (h1 : (freeOk sc csc && namesOk csc) = true) (h2 : (csc.names.lookup x == some .local && csc.names.lookup y == some .local && x != y) = true)
    (h : W (srcE K (It K n) sc ρ true it) fun vs => W (catL (fun v => (srcE K (It K n) csc (upd (compRho csc ρ) x false v) false (.Name z p4)).bind fun us => mapL (fun u => (It K n).ev csc (upd (upd (compRho csc ρ) x false v) y false u) false elt) us) vs) fun ds => ds.length ≤ lim ∧ Q (.list ds)) :
    W ((It K (n + 1)).ev sc ρ wk (.ListComp elt [⟨.Name x p1, it, [], 0⟩, ⟨.Name y p2, .Name z p4, [], 0⟩] csc p)) Q := by
  obtain ⟨vs, e1, ds, e2, q1, q⟩ := h
  refine ⟨_, ?_, q⟩
  rw [it_ev]
  unfold evN
  dsimp only
  unfold compE
  rw [if_pos h1]
  show ((if (csc.names.lookup x == some .local && csc.names.lookup y == some .local && x != y) = true then _ else Out.bad : Out (List D)).bind _) = _
  rw [if_pos h2, e1]
  show (((catL _ vs).bind _).bind _) = _
  rw [e2]
  show (((if ds.length ≤ lim then Out.ok ds else Out.bad : Out (List D))).bind _) = _
  rw [if_pos q1]
  rfl
theorem W_slice {x : Str} {e : Expr} {Q : D → Prop} (h : W ((It K n).ev sc ρ true (.Name x p1)) fun o => W ((It K n).ev sc ρ true e) fun k => W (takeD o k) Q) : W ((It K (n + 1)).ev sc ρ wk (.Subscript (.Name x p1) (.Slice none (some e) none p2) p)) Q := by
  obtain ⟨o, e1, k, e2, d, e3, q⟩ := h
  refine ⟨d, ?_, q⟩
  rw [it_ev]
  unfold evN
  dsimp only
  rw [if_neg (by exact Bool.false_ne_true), e1]
  simp only [Out.bind]
  rw [e2]
  exact e3
theorem W_swap {x y z : Str} {px py pz tp vp : Pos} {k tk : Nat} {e : Expr} {d1 d2 : D} {Q : Rho × Option D → Prop} (h1 : (sc.names.lookup x == some .local && sc.names.lookup y == some .local && x != y && px.line == py.line && notStar e && nmOk z) = true)
    (h : W ((It K n).ev sc (frz ρ (al K 30 false (.Tuple [.Name z pz, e] tk vp))) false (.Tuple [.Name z pz, e] tk vp)) fun d => d = .tuple [d1, d2]) (hq : Q (upd (upd (frz ρ (al K 30 false (.Tuple [.Name z pz, e] tk vp))) y false d2) x false d1, none)) :
    W ((It K (n + 1)).ex sc ρ (.Assign [.Tuple [.Name x px, .Name y py] k tp] (.Tuple [.Name z pz, e] tk vp) p)) Q := by
  refine ⟨_, ?_, hq⟩
  rw [it_ex]
  unfold exN
  dsimp only
  rw [if_pos h1]
  rw [h.val]
  rfl
theorem W_filt {t : D → Out Bool} {f : D → Out D} {l : List D} {Q : List D → Prop} (pp : D → Bool) (g : D → D) (h1 : ∀ v ∈ l, W (t v) (fun b => b = pp v)) (h2 : ∀ v ∈ l, pp v = true → W (f v) (fun d => d = g v)) (h : Q ((l.filter pp).map g)) : W (filtL t f l) Q :=
  ⟨_, filtL_of (fun v hv => (h1 v hv).val) (fun v hv hp => (h2 v hv hp).val), h⟩
theorem W_map {f : D → Out D} {l : List D} {Q : List D → Prop} {T : D → Expr → Out Bool} (g : D → D) (h2 : ∀ v ∈ l, W (f v) (fun d => d = g v)) (h : Q (l.map g)) : W (filtL (fun v => tests (T v) []) f l) Q :=
  W_filt (fun _ => true) g (fun _ _ => ⟨_, rfl, rfl⟩) (fun v hv _ => h2 v hv) (by rw [List.filter_eq_self.mpr (fun _ _ => rfl)]; exact h)
theorem W_tests0 {f : Expr → Out Bool} {Q : Bool → Prop} (h : Q true) : W (tests f []) Q := ⟨_, rfl, h⟩
theorem W_tests1 {f : Expr → Out Bool} {e : Expr} {Q : Bool → Prop} (h : W (f e) Q) : W (tests f [e]) Q := by
  obtain ⟨b, e1, q⟩ := h
  refine ⟨b, ?_, q⟩
  show (f e).bind _ = _
  rw [e1]
  cases b <;> rfl

/-! ### tests -/
theorem T_not {x : Expr} {Q : Bool → Prop} (h : W ((It K n).tst sc ρ x) fun b => Q (!b)) : W ((It K (n + 1)).tst sc ρ (.UnaryOp .Not x p)) Q := by
  obtain ⟨b, e1, q⟩ := h
  exact ⟨_, by rw [it_tst]; unfold tstN; dsimp only; rw [e1]; rfl, q⟩
theorem T_boolop {es : List Expr} {op : BoolOp} {Q : Bool → Prop} (h : W (boolT ((It K n).tst sc ρ) op es) Q) : W ((It K (n + 1)).tst sc ρ (.BoolOp op es p)) Q := h
theorem T_and0 {f : Expr → Out Bool} {Q : Bool → Prop} (h : Q true) : W (boolT f .And []) Q := ⟨_, rfl, h⟩
theorem T_or0 {f : Expr → Out Bool} {Q : Bool → Prop} (h : Q false) : W (boolT f .Or []) Q := ⟨_, rfl, h⟩
theorem T_and {f : Expr → Out Bool} {e : Expr} {r : List Expr} {Q : Bool → Prop} (h : W (f e) fun t => (t = false → Q false) ∧ (t = true → W (boolT f .And r) Q)) : W (boolT f .And (e :: r)) Q := by
  obtain ⟨t, e1, q1, q2⟩ := h
  cases t with
  | false => exact ⟨false, by show (f e).bind _ = _; rw [e1]; rfl, q1 rfl⟩
  | true => obtain ⟨a, e2, q⟩ := q2 rfl; exact ⟨a, by show (f e).bind _ = _; rw [e1]; exact e2, q⟩
theorem T_or {f : Expr → Out Bool} {e : Expr} {r : List Expr} {Q : Bool → Prop} (h : W (f e) fun t => (t = true → Q true) ∧ (t = false → W (boolT f .Or r) Q)) : W (boolT f .Or (e :: r)) Q := by
  obtain ⟨t, e1, q1, q2⟩ := h
  cases t with
  | true => exact ⟨true, by show (f e).bind _ = _; rw [e1]; rfl, q1 rfl⟩
  | false => obtain ⟨a, e2, q⟩ := q2 rfl; exact ⟨a, by show (f e).bind _ = _; rw [e1]; exact e2, q⟩
theorem T_cmp {l r : Expr} {op : CmpOp} {Q : Bool → Prop} (h1 : notSet r = true) (h : W ((It K n).ev sc ρ true l) fun a => W ((It K n).ev sc ρ true r) fun b => W (cmpD op a b) Q) : W ((It K (n + 1)).tst sc ρ (.Compare l [op] [r] p)) Q := by
  obtain ⟨a, e1, b, e2, c, e3, q⟩ := h
  exact ⟨_, by rw [it_tst]; unfold tstN; dsimp only; rw [if_pos h1, e1]; simp only [Out.bind]; rw [e2]; simp only [Out.bind]; rw [e3], q⟩
/-- a test that is a value first -/
def plainT : Expr → Bool
  | .UnaryOp .Not _ _ | .BoolOp .. | .IfExp .. | .Compare .. => false
  | _ => true
theorem T_val {e : Expr} {Q : Bool → Prop} (h1 : plainT e = true) (h : W ((It K n).ev sc ρ true e) fun d => W (trD d) Q) : W ((It K (n + 1)).tst sc ρ e) Q := by
  obtain ⟨d, e1, b, e2, q⟩ := h
  refine ⟨b, ?_, q⟩
  rw [it_tst]
  unfold tstN
  split
  · cases h1
  · cases h1
  · cases h1
  · cases h1
  · cases h1
  · rw [e1]; exact e2

/-! ### values -/
theorem B_add {a b : Int} {Q : D → Prop} (h : Q (.int (a + b))) : W (binD .Add (.int a) (.int b)) Q := ⟨_, rfl, h⟩
theorem B_sub {a b : Int} {Q : D → Prop} (h : Q (.int (a - b))) : W (binD .Sub (.int a) (.int b)) Q := ⟨_, rfl, h⟩
theorem B_mul {a b : Int} {Q : D → Prop} (h1 : mulB a b = true) (h : Q (.int (a * b))) : W (binD .Mult (.int a) (.int b)) Q := ⟨_, by unfold binD; dsimp only; rw [if_pos h1], h⟩
theorem B_div {a b : Int} {Q : D → Prop} (h1 : b ≠ 0) (h2 : b.natAbs < 2 ^ 9000) (h : Q (.int (a.fdiv b))) : W (binD .FloorDiv (.int a) (.int b)) Q := ⟨_, by unfold binD; dsimp only; rw [if_neg (by omega)], h⟩
theorem B_mod {a b : Int} {Q : D → Prop} (h1 : b ≠ 0) (h : Q (.int (a.fmod b))) : W (binD .Mod (.int a) (.int b)) Q := ⟨_, by unfold binD; dsimp only; rw [if_neg h1], h⟩
theorem B_pow {a b : Int} {Q : D → Prop} (h1 : powB a b = true) (h : Q (.int (a ^ b.toNat))) : W (binD .Pow (.int a) (.int b)) Q := ⟨_, by unfold binD; dsimp only; rw [if_pos h1], h⟩
theorem B_ladd {xs ys : List D} {Q : D → Prop} (h1 : xs.length + ys.length ≤ lim) (h : Q (.list (xs ++ ys))) : W (binD .Add (.list xs) (.list ys)) Q := ⟨_, by unfold binD; dsimp only; rw [if_pos h1], h⟩
theorem B_lmul {x : D} {k : Int} {Q : D → Prop} (h1 : k ≤ lim) (h0 : -1 ≤ k) (h : Q (.list (List.replicate k.toNat x))) : W (binD .Mult (.list [x]) (.int k)) Q := by
  refine ⟨_, ?_, h⟩
  unfold binD
  dsimp only
  rw [if_pos ⟨by simp, by simp; omega, h1, h0⟩]
  unfold rep
  congr 2
  rw [List.flatten_replicate_singleton]
theorem U_neg {a : Int} {Q : D → Prop} (h : Q (.int (-a))) : W (unD .USub (.int a)) Q := ⟨_, rfl, h⟩
theorem C_lt {a b : Int} {Q : Bool → Prop} (h : Q (decide (a < b))) : W (cmpD .Lt (.int a) (.int b)) Q := ⟨_, rfl, h⟩
theorem C_le {a b : Int} {Q : Bool → Prop} (h : Q (decide (a ≤ b))) : W (cmpD .LtE (.int a) (.int b)) Q := ⟨_, rfl, h⟩
theorem C_gt {a b : Int} {Q : Bool → Prop} (h : Q (decide (b < a))) : W (cmpD .Gt (.int a) (.int b)) Q := ⟨_, rfl, h⟩
theorem C_ge {a b : Int} {Q : Bool → Prop} (h : Q (decide (b ≤ a))) : W (cmpD .GtE (.int a) (.int b)) Q := ⟨_, rfl, h⟩
theorem C_eq {a b : D} {Q : Bool → Prop} (h1 : shp a = true) (h2 : shp b = true) (h : Q (PyData.eqv a b)) : W (cmpD .Eq a b) Q := ⟨_, by unfold cmpD; dsimp only; rw [if_pos (by rw [h1, h2]; rfl)], h⟩
theorem C_ne {a b : D} {Q : Bool → Prop} (h1 : shp a = true) (h2 : shp b = true) (h : Q (!PyData.eqv a b)) : W (cmpD .NotEq a b) Q := ⟨_, by unfold cmpD; dsimp only; rw [if_pos (by rw [h1, h2]; rfl)], h⟩
theorem shp_int (a : Int) : shp (.int a) = true := rfl
theorem eqv_int (a b : Int) : PyData.eqv (.int a) (.int b) = decide (a = b) := by
  show (a == b) = _
  rw [Bool.beq_eq_decide_eq]
theorem canLay_ints : ∀ xs : List Int, PyData.canLayAll0 (xs.map .int) = true
  | [] => rfl
  | x :: r => by show (true && PyData.canLayAll0 (r.map .int)) = true; rw [canLay_ints r]; rfl
theorem depth_ints : ∀ xs : List Int, PyData.depthAll (xs.map .int) ≤ 1
  | [] => by decide
  | x :: r => by
    have := depth_ints r
    show max (PyData.depth (.int x)) (PyData.depthAll (r.map .int)) ≤ 1
    have : PyData.depth (.int x) ≤ 1 := Nat.le_of_ble_eq_true rfl
    omega
theorem K_tt {A B : Prop} (h : A) : ((true : Bool) = true → A) ∧ ((true : Bool) = false → B) := ⟨fun _ => h, (fun q => by cases q)⟩
theorem K_ff {A B : Prop} (h : B) : ((false : Bool) = true → A) ∧ ((false : Bool) = false → B) := ⟨(fun q => by cases q), fun _ => h⟩
theorem K_tf {A B : Prop} (h : B) : ((true : Bool) = false → A) ∧ ((true : Bool) = true → B) := ⟨(fun q => by cases q), fun _ => h⟩
theorem K_ft {A B : Prop} (h : A) : ((false : Bool) = false → A) ∧ ((false : Bool) = true → B) := ⟨fun _ => h, (fun q => by cases q)⟩
theorem K_n1 {A B : Prop} {b : Bool} (h : (b = false → A) ∧ (b = true → B)) : ((!b) = true → A) ∧ ((!b) = false → B) := ⟨fun q => h.1 (by simpa using q), fun q => h.2 (by simpa using q)⟩
theorem K_n2 {A B : Prop} {b : Bool} (h : (b = true → A) ∧ (b = false → B)) : ((!b) = false → A) ∧ ((!b) = true → B) := ⟨fun q => h.1 (by simpa using q), fun q => h.2 (by simpa using q)⟩
theorem K_d1 {A B p : Prop} [Decidable p] (h1 : p → A) (h2 : ¬ p → B) : (decide p = true → A) ∧ (decide p = false → B) := ⟨fun q => h1 (of_decide_eq_true q), fun q => h2 (of_decide_eq_false q)⟩
theorem K_d2 {A B p : Prop} [Decidable p] (h1 : ¬ p → A) (h2 : p → B) : (decide p = false → A) ∧ (decide p = true → B) := ⟨fun q => h1 (of_decide_eq_false q), fun q => h2 (of_decide_eq_true q)⟩
theorem V_tr {b : Bool} {Q : Bool → Prop} (h : Q b) : W (trD (.bool b)) Q := ⟨_, rfl, h⟩
theorem V_tri {a : Int} {Q : Bool → Prop} (h : Q (!decide (a = 0))) : W (trD (.int a)) Q := ⟨_, rfl, by
  have : (a != 0) = !decide (a = 0) := by rw [bne, Bool.beq_eq_decide_eq]
  rw [this]; exact h⟩
theorem I_int {k : Int} {Q : Int → Prop} (h : Q k) : W (intD (.int k)) Q := ⟨_, rfl, h⟩
theorem A_add {a b : Int} {Q : D → Prop} (h : Q (.int (a + b))) : W (augI .Add a b) Q := ⟨_, rfl, h⟩
theorem A_sub {a b : Int} {Q : D → Prop} (h : Q (.int (a - b))) : W (augI .Sub a b) Q := ⟨_, rfl, h⟩
theorem C_eqi {a b : Int} {Q : Bool → Prop} (h : Q (decide (a = b))) : W (cmpD .Eq (.int a) (.int b)) Q := C_eq rfl rfl (by rw [eqv_int]; exact h)
theorem C_nei {a b : Int} {Q : Bool → Prop} (h : Q (!decide (a = b))) : W (cmpD .NotEq (.int a) (.int b)) Q := C_ne rfl rfl (by rw [eqv_int]; exact h)
theorem C_isnot {Q : Bool → Prop} (h : Q false) : W (cmpD .IsNot .none .none) Q := ⟨_, rfl, h⟩
theorem Ty_int {a : Int} {Q : D → Prop} (h : Q (.int a)) : W (tyD "int" (.int a)) Q := ⟨_, rfl, h⟩
theorem Ty_list {xs : List D} {Q : D → Prop} (h1 : xs.length ≤ lim) (h : Q (.list xs)) : W (tyD "list" (.list xs)) Q := ⟨_, if_pos h1, h⟩
theorem Is_il {xs : List D} {Q : Bool → Prop} (h : Q true) : W (isD "list" (.list xs)) Q := ⟨_, rfl, h⟩
theorem Is_ii {a : Int} {Q : Bool → Prop} (h : Q true) : W (isD "int" (.int a)) Q := ⟨_, rfl, h⟩
theorem Is_bi {a : Int} {Q : Bool → Prop} (h : Q false) : W (isD "bool" (.int a)) Q := ⟨_, rfl, h⟩
theorem F_len {xs : List D} {Q : D → Prop} (h1 : xs.length ≤ lim) (h : Q (.int xs.length)) : W (fnD "len" (.list xs)) Q := ⟨_, if_pos h1, h⟩
theorem F_lent {xs : List D} {Q : D → Prop} (h1 : xs.length ≤ lim) (h : Q (.int xs.length)) : W (fnD "len" (.tuple xs)) Q := ⟨_, if_pos h1, h⟩
theorem fn_sum (xs : List D) : fnD "sum" (.list xs) = (match intsD xs with | some ns => .ok (.int ns.sum) | none => .bad) := rfl
theorem fn_max (xs : List D) : fnD "max" (.list xs) = (match intsD xs with | some (n :: ns) => .ok (.int (maxI n ns)) | _ => .bad) := rfl
theorem fn_min (xs : List D) : fnD "min" (.list xs) = (match intsD xs with | some (n :: ns) => .ok (.int (minI n ns)) | _ => .bad) := rfl
theorem fn_sorted (xs : List D) : fnD "sorted" (.list xs) = (match intsD xs with | some ns => if ns.length < 64 then .ok (.list ((sortI ns).map .int)) else .bad | none => sortLD xs) := rfl
theorem tupsI_map : ∀ ts : List (List Int), tupsI (ts.map tupD) = some ts
  | [] => rfl
  | t :: r => by
    show (tupI (tupD t)).bind (fun u => (tupsI (r.map tupD)).map (u :: ·)) = _
    rw [tupsI_map r, show tupI (tupD t) = intsD (t.map .int) from rfl, intsD_map]; rfl
theorem F_sortT {ts : List (List Int)} {Q : D → Prop} (h2 : 2 ≤ ts.length) (h64 : ts.length < 64) (hne : ∀ t ∈ ts, t ≠ []) (h : Q (.list ((sortT ts).map tupD))) : W (fnD "sorted" (.list (ts.map tupD))) Q := by
  refine ⟨_, ?_, h⟩
  rw [fn_sorted]
  have hn : intsD (ts.map tupD) = none := by
    cases ts with
    | nil => simp at h2
    | cons t r => rfl
  rw [hn]
  dsimp only
  unfold sortLD
  have hn2 : listsI (ts.map tupD) = none := by
    cases ts with
    | nil => simp at h2
    | cons t r => rfl
  rw [hn2]
  dsimp only
  unfold sortD
  rw [tupsI_map]
  dsimp only
  rw [if_pos ⟨h2, h64, by rw [List.all_eq_true]; intro t ht; have := hne t ht; cases t <;> simp_all⟩]
theorem listsI_map : ∀ ts : List (List Int), listsI (ts.map fun t => .list (t.map .int)) = some ts
  | [] => rfl
  | t :: r => by
    show (listI (.list (t.map .int))).bind (fun u => (listsI (r.map fun t => .list (t.map .int))).map (u :: ·)) = _
    rw [listsI_map r, show listI (.list (t.map .int)) = intsD (t.map .int) from rfl, intsD_map]; rfl
theorem F_sortL {ts : List (List Int)} {Q : D → Prop} (h0 : ts ≠ []) (h64 : ts.length < 64) (h : Q (.list ((sortT ts).map fun t => .list (t.map .int)))) : W (fnD "sorted" (.list (ts.map fun t => .list (t.map .int)))) Q := by
  refine ⟨_, ?_, h⟩
  rw [fn_sorted]
  have hn : intsD (ts.map fun t => PyData.list (t.map .int)) = none := by
    cases ts with
    | nil => exact absurd rfl h0
    | cons t r => rfl
  rw [hn]
  dsimp only
  unfold sortLD
  rw [listsI_map]
  dsimp only
  rw [if_pos h64]
theorem Tk_ints {xs : List Int} {k : Nat} {Q : D → Prop} (h1 : xs.length ≤ lim) (h2 : k ≤ 1048576) (h : Q (.list ((xs.take k).map .int))) : W (takeD (.list (xs.map .int)) (.int k)) Q := by
  refine ⟨_, ?_, h⟩
  unfold takeD
  dsimp only
  rw [if_pos ⟨by omega, by omega, by rw [List.length_map]; exact h1⟩, Int.toNat_natCast, List.map_take]
theorem F_sum {zs : List Int} {Q : D → Prop} (h : Q (.int zs.sum)) : W (fnD "sum" (.list (zs.map .int))) Q := ⟨_, by rw [fn_sum, intsD_map], h⟩
theorem F_max {z : Int} {zs : List Int} {Q : D → Prop} (h : Q (.int (maxI z zs))) : W (fnD "max" (.list ((z :: zs).map .int))) Q := ⟨_, by rw [fn_max, intsD_map], h⟩
theorem F_min {z : Int} {zs : List Int} {Q : D → Prop} (h : Q (.int (minI z zs))) : W (fnD "min" (.list ((z :: zs).map .int))) Q := ⟨_, by rw [fn_min, intsD_map], h⟩
theorem F_sorted {zs : List Int} {Q : D → Prop} (h1 : zs.length < 64) (h : Q (.list ((sortI zs).map .int))) : W (fnD "sorted" (.list (zs.map .int))) Q := ⟨_, by rw [fn_sorted, intsD_map]; exact if_pos h1, h⟩
theorem ownL_of {ρ : Rho} {x : Str} {xs : List D} (h : ρ x = some (true, .list xs)) (h1 : xs.length < lim) : ownL ρ x = .ok xs := by
  unfold ownL; rw [h]; dsimp only; rw [if_pos h1]
theorem seqI_nat {j n : Nat} (h : j < n) : seqIndex? (j : Int) n = some j := by
  unfold seqIndex?
  have h1 : ¬ ((j : Int) < 0) := by omega
  simp only [if_neg h1]
  rw [if_pos (by rw [Bool.and_eq_true, decide_eq_true_eq, decide_eq_true_eq]; omega)]
  rfl
theorem X_list {xs : List D} {j : Nat} {d : D} {Q : D → Prop} (h1 : xs.length ≤ lim) (h2 : xs[j]? = some d) (h : Q d) : W (idxD (.list xs) (j : Int)) Q := by
  refine ⟨d, ?_, h⟩
  unfold idxD
  dsimp only
  rw [if_pos h1, seqI_nat (List.getElem?_eq_some_iff.mp h2).1]
  dsimp only
  rw [h2]
theorem X_tuple {xs : List D} {j : Nat} {d : D} {Q : D → Prop} (h1 : xs.length ≤ lim) (h2 : xs[j]? = some d) (h : Q d) : W (idxD (.tuple xs) (j : Int)) Q := by
  refine ⟨d, ?_, h⟩
  unfold idxD
  dsimp only
  rw [if_pos h1, seqI_nat (List.getElem?_eq_some_iff.mp h2).1]
  dsimp only
  rw [h2]
theorem P_pos {j n : Nat} {Q : Nat → Prop} (h1 : j < n) (h : Q j) : W (posL (j : Int) n) Q := ⟨_, by unfold posL; rw [seqI_nat h1], h⟩
theorem O_own {ρ : Rho} {x : Str} {xs : List D} {Q : List D → Prop} (h1 : ownL ρ x = .ok xs) (h : Q xs) : W (ownL ρ x) Q := ⟨_, h1, h⟩
theorem R_one {b : Int} {Q : List D → Prop} (h1 : inLim b = true) (h : Q (rangeL 0 1 b.toNat)) : W (rngD [.int b]) Q := ⟨_, by unfold rngD; dsimp only; rw [if_pos h1], h⟩
theorem R_two {a b : Int} {Q : List D → Prop} (h1 : inLim a = true) (h2 : inLim b = true) (h : Q (rangeL a 1 (b - a).toNat)) : W (rngD [.int a, .int b]) Q := ⟨_, by unfold rngD; dsimp only; rw [if_pos (by rw [h1, h2]; rfl)], h⟩
theorem S_list {xs : List D} {Q : List D → Prop} (h1 : xs.length ≤ lim) (h : Q xs) : W (srcD (.list xs)) Q := ⟨_, if_pos h1, h⟩
theorem mulB_small {a b : Int} (h : a.natAbs < 2 ^ 60 ∨ b.natAbs < 2 ^ 60) : mulB a b = true := by
  unfold mulB shortFactorBits Builtin.Int.intBits
  have key : ∀ c : Int, c.natAbs < 2 ^ 60 → (if (c == 0) = true then 0 else c.natAbs.log2 + 1) ≤ 64 := fun c hc => by
    split
    · omega
    · rename_i h0
      have hn : c.natAbs ≠ 0 := by simpa using h0
      have := (Nat.log2_lt hn).mpr hc
      omega
  rcases h with h | h
  · have := key a h
    simp only [show ¬ ((if (a == 0) = true then 0 else a.natAbs.log2 + 1) > 64) from by omega, decide_false, Bool.false_and, Bool.not_false]
  · have := key b h
    simp only [show ¬ ((if (b == 0) = true then 0 else b.natAbs.log2 + 1) > 64) from by omega, decide_false, Bool.false_and, Bool.and_false, Bool.not_false]
theorem mulB_big {a b : Int} (h1 : a.natAbs < 2 ^ 9000) (h2 : b.natAbs < 2 ^ 9000) : mulB a b = true := by
  unfold mulB Builtin.Int.intBits Builtin.Int.intTooBig
  have key : ∀ c : Int, c.natAbs < 2 ^ 9000 → (if (c == 0) = true then 0 else c.natAbs.log2 + 1) ≤ 9000 := fun c hc => by
    split
    · omega
    · rename_i h0
      have hn : c.natAbs ≠ 0 := by simpa using h0
      have := (Nat.log2_lt hn).mpr hc
      omega
  have k1 := key a h1
  have k2 := key b h2
  have : ¬ ((if (a == 0) = true then 0 else a.natAbs.log2 + 1 : Nat) : Int) + ((if (b == 0) = true then 0 else b.natAbs.log2 + 1 : Nat) : Int) > bitsLine := by
    have : (18000 : Int) ≤ bitsLine := by decide
    omega
  simp only [decide_eq_false this, Bool.and_false, Bool.not_false]

theorem getI {xs : List Int} {j : Nat} (h : j < xs.length) : (xs.map PyData.int)[j]? = some (.int (xs.getD j 0)) := by
  rw [List.getElem?_map, List.getElem?_eq_getElem h, List.getD_eq_getElem?_getD, List.getElem?_eq_getElem h]; rfl
theorem X_ints {xs : List Int} {j : Nat} {Q : D → Prop} (h1 : xs.length ≤ lim) (h2 : j < xs.length) (h : Q (.int (xs.getD j 0))) : W (idxD (.list (xs.map .int)) (j : Int)) Q :=
  X_list (by rw [List.length_map]; exact h1) (getI h2) h
theorem rangeL_eq (n : Nat) : rangeL 0 1 n = ((List.range n).map fun (i : Nat) => (i : Int)).map .int := by
  unfold rangeL
  rw [List.map_map]
  refine List.map_congr_left fun i _ => ?_
  show PyData.int (0 + (i : Int) * 1) = .int (i : Int)
  rw [Int.zero_add, Int.mul_one]
theorem R_nat {b : Nat} {Q : List D → Prop} (h1 : b ≤ lim) (h : Q (((List.range b).map fun (i : Nat) => (i : Int)).map .int)) : W (rngD [.int (b : Int)]) Q := by
  refine R_one ?_ ?_
  · unfold inLim; unfold lim at h1; rw [Bool.and_eq_true, decide_eq_true_eq, decide_eq_true_eq]; omega
  · rw [show (b : Int).toNat = b from rfl, rangeL_eq]; exact h
/-- a comprehension over range -/
theorem M_range {f : D → Out D} {n : Nat} {Q : List D → Prop} {T : D → Expr → Out Bool} (g : Nat → Int) (h2 : ∀ i, i < n → W (f (.int (i : Int))) (fun d => d = .int (g i))) (h : Q (((List.range n).map g).map .int)) :
    W (filtL (fun v => tests (T v) []) f (((List.range n).map fun (i : Nat) => (i : Int)).map .int)) Q := by
  refine W_map (fun d => match d with | .int i => .int (g i.toNat) | _ => .none) (fun v hv => ?_) ?_
  · rw [List.map_map, List.mem_map] at hv
    obtain ⟨i, hi, rfl⟩ := hv
    exact h2 i (List.mem_range.mp hi)
  · rw [List.map_map] at h
    rw [List.map_map, List.map_map]; exact h
theorem M_ints {f : D → Out D} {xs : List Int} {Q : List D → Prop} {T : D → Expr → Out Bool} (g : Int → Int) (h2 : ∀ x, x ∈ xs → W (f (.int x)) (fun d => d = .int (g x))) (h : Q ((xs.map g).map .int)) :
    W (filtL (fun v => tests (T v) []) f (xs.map .int)) Q := by
  refine W_map (fun d => match d with | .int i => .int (g i) | _ => .none) (fun v hv => ?_) ?_
  · rw [List.mem_map] at hv
    obtain ⟨i, hi, rfl⟩ := hv
    exact h2 i hi
  · rw [List.map_map] at h
    rw [List.map_map]; exact h
theorem M_rfilt {t : D → Out Bool} {f : D → Out D} {n : Nat} {Q : List D → Prop} (pp : Nat → Bool) (g : Nat → Int) (h1 : ∀ i, i < n → W (t (.int (i : Int))) (fun b => b = pp i)) (h2 : ∀ i, i < n → W (f (.int (i : Int))) (fun d => d = .int (g i))) (h : Q ((((List.range n).filter pp).map g).map .int)) :
    W (filtL t f (((List.range n).map fun (i : Nat) => (i : Int)).map .int)) Q := by
  refine W_filt (fun d => match d with | .int i => pp i.toNat | _ => false) (fun d => match d with | .int i => .int (g i.toNat) | _ => .none) (fun v hv => ?_) (fun v hv _ => ?_) ?_
  · rw [List.map_map, List.mem_map] at hv
    obtain ⟨i, hi, rfl⟩ := hv
    exact h1 i (List.mem_range.mp hi)
  · rw [List.map_map, List.mem_map] at hv
    obtain ⟨i, hi, rfl⟩ := hv
    exact h2 i (List.mem_range.mp hi)
  · rw [List.map_map, List.filter_map, List.map_map]
    have e1 : ((fun d : D => match d with | .int i => pp i.toNat | _ => false) ∘ (PyData.int ∘ fun (i : Nat) => (i : Int))) = pp := rfl
    have e2 : ((fun d : D => match d with | .int i => (.int (g i.toNat) : D) | _ => .none) ∘ (PyData.int ∘ fun (i : Nat) => (i : Int))) = PyData.int ∘ g := rfl
    rw [e1, e2, ← List.map_map]; exact h
def maxL : List Int → Int
  | [] => 0
  | x :: r => maxI x r
theorem F_maxL {zs : List Int} {Q : D → Prop} (h1 : 0 < zs.length) (h : Q (.int (maxL zs))) : W (fnD "max" (.list (zs.map .int))) Q := by
  cases zs with
  | nil => simp at h1
  | cons z zs => exact F_max h
theorem X_int0 {xs : List Int} {Q : D → Prop} (h1 : xs.length ≤ lim) (h2 : 0 < xs.length) (h : Q (.int (xs.getD 0 0))) : W (idxD (.list (xs.map .int)) 0) Q := X_ints (j := 0) h1 h2 h
theorem foldI_ints {f : Rho → Out D} {t y : Str} (g : Int → Int → Int) (hty : y ≠ t) : ∀ {xs : List Int} {ρ : Rho} {c : Int}, (∀ x ∈ xs, ∀ ρ' c, ρ' y = some (false, .int c) → (∀ z, z ≠ t → z ≠ y → ρ' z = ρ z) → W (f (upd ρ' t false (.int x))) (fun d => d = .int (g c x))) → ρ y = some (false, .int c) →
    ∃ ρ', foldI f t y (xs.map .int) ρ = .ok ρ' ∧ ρ' y = some (false, .int (xs.foldl g c)) ∧ ∀ z, z ≠ t → z ≠ y → ρ' z = ρ z
  | [], ρ, c, _, h => ⟨ρ, rfl, h, fun _ _ _ => rfl⟩
  | x :: xs, ρ, c, hf, h => by
    have h1 := (hf x List.mem_cons_self ρ c h fun _ _ _ => rfl).val
    obtain ⟨ρ', e, hy, ho⟩ := foldI_ints g hty (xs := xs) (ρ := upd (upd ρ t false (.int x)) y false (.int (g c x))) (c := g c x) (fun x' hx' ρ2 c2 h2 h3 => hf x' (List.mem_cons_of_mem _ hx') ρ2 c2 h2 fun z hz1 hz2 => by
      rw [h3 z hz1 hz2]; unfold upd; rw [if_neg hz2, if_neg hz1]) lk_self
    refine ⟨ρ', ?_, hy, fun z hz1 hz2 => ?_⟩
    · show (f (upd ρ t false (.int x))).bind _ = _
      rw [h1]; exact e
    · rw [ho z hz1 hz2]; unfold upd; rw [if_neg hz2, if_neg hz1]
theorem W_forI_ints {t z y : Str} {e : Expr} {xs : List Int} {c : Int} {Q : Rho × Option D → Prop} (g : Int → Int → Int) (h1 : localOrCell sc t = true) (h2 : (z != t && z != y && localOrCell sc y && localOrCell sc z && nmOk z && notComp e) = true) (hty : y ≠ t)
    (h3 : ρ z = some (true, .list (xs.map .int))) (hl : xs.length < lim) (hy : ρ y = some (false, .int c))
    (hf : ∀ x ∈ xs, ∀ ρ' c, ρ' y = some (false, .int c) → (∀ z, z ≠ t → z ≠ y → ρ' z = ρ z) → W ((It K n).ev sc (upd ρ' t false (.int x)) false e) (fun d => d = .int (g c x)))
    (h : ∀ ρ', ρ' y = some (false, .int (xs.foldl g c)) → (∀ z, z ≠ t → z ≠ y → ρ' z = ρ z) → Q (ρ', none)) : W ((It K (n + 1)).ex sc ρ (.For (.Name t p1) (.Name z p2) [.Assign [.Name y p3] e p4] [] p)) Q := by
  obtain ⟨ρ', e1, e2, e3⟩ := foldI_ints (f := fun ρ => (It K n).ev sc ρ false e) g hty hf hy
  exact W_forI h1 h2 (ownL_of h3 (by rw [List.length_map]; exact hl)) e1 (h ρ' e2 e3)
theorem lt9000 {k : Nat} (h : k < 2 ^ 200) : k < 2 ^ 9000 := Nat.lt_of_lt_of_le h (Nat.pow_le_pow_right (by decide) (by decide))
theorem B_dv {a b : Int} {Q : D → Prop} (h1 : b ≠ 0) (h2 : b.natAbs < 2 ^ 200) (h : Q (.int (a.fdiv b))) : W (binD .FloorDiv (.int a) (.int b)) Q := B_div h1 (lt9000 h2) h
theorem C_t {op : CmpOp} {a b : D} {Q : Bool → Prop} (h : cmpD op a b = .ok true) (hq : Q true) : W (cmpD op a b) Q := ⟨_, h, hq⟩
theorem C_f {op : CmpOp} {a b : D} {Q : Bool → Prop} (h : cmpD op a b = .ok false) (hq : Q false) : W (cmpD op a b) Q := ⟨_, h, hq⟩
theorem lt9000' {k : Nat} (h : k < 2 ^ 250 * 2 ^ 250 * 2 ^ 250) : k < 2 ^ 9000 := Nat.lt_of_lt_of_le h (by rw [← Nat.pow_add, ← Nat.pow_add]; exact Nat.pow_le_pow_right (by decide) (by decide))
theorem forM_inv {β : Type} {enc : β → D} {f : D → Rho → Out (Rho × Option D)} {Q : Rho × Option D → Prop} (I : List β → Rho → Prop) (hn : ∀ ρ, I [] ρ → Q (ρ, none))
    (hs : ∀ y r ρ, I (y :: r) ρ → W (f (enc y) ρ) fun p => match p.2 with | none => I r p.1 | some d => Q (p.1, some d)) {ys : List β} {ρ : Rho} (h : I ys ρ) : W (forL f (ys.map enc) ρ) Q := by
  refine forL_inv (fun r ρ => ∃ zs, r = zs.map enc ∧ I zs ρ) (fun ρ h => ?_) (fun v r ρ h => ?_) _ _ ⟨ys, rfl, h⟩
  · obtain ⟨zs, e, h⟩ := h
    cases zs with
    | nil => exact hn ρ h
    | cons _ _ => cases e
  · obtain ⟨zs, e, h⟩ := h
    cases zs with
    | nil => cases e
    | cons z zs =>
      cases e
      refine (hs z zs ρ h).mono fun p hp => ?_
      obtain ⟨ρ', o⟩ := p
      cases o with
      | none => exact ⟨zs, rfl, hp⟩
      | some d => exact hp
theorem forR_inv {f : D → Rho → Out (Rho × Option D)} {Q : Rho × Option D → Prop} {m : Nat} (I : Nat → Rho → Prop) (hn : ∀ ρ, I m ρ → Q (ρ, none))
    (hs : ∀ j ρ, j < m → I j ρ → W (f (.int (j : Int)) ρ) fun p => match p.2 with | none => I (j + 1) p.1 | some d => Q (p.1, some d)) {ρ : Rho} (h : I 0 ρ) : W (forL f (((List.range m).map fun (i : Nat) => (i : Int)).map .int) ρ) Q := by
  rw [List.map_map]
  refine forM_inv (fun r ρ => ∃ j, j ≤ m ∧ r = List.range' j (m - j) ∧ I j ρ) (fun ρ h => ?_) (fun y r ρ h => ?_) ⟨0, Nat.zero_le _, by rw [List.range_eq_range', Nat.sub_zero], h⟩
  · obtain ⟨j, hj, e, h⟩ := h
    have : m - j = 0 := by
      have := congrArg List.length e
      simpa using this.symm
    rw [show m = j by omega] at hn
    exact hn ρ h
  · obtain ⟨j, hj, e, h⟩ := h
    by_cases hjm : j < m
    · rw [show m - j = (m - (j + 1)) + 1 by omega, List.range'_succ] at e
      cases e
      refine (hs y ρ hjm h).mono fun p hp => ?_
      obtain ⟨ρ', o⟩ := p
      cases o with
      | none => exact ⟨y + 1, hjm, rfl, hp⟩
      | some d => exact hp
    · rw [show m - j = 0 by omega] at e
      cases e
theorem X_rf {d v : D} {k : Int} {Q : D → Prop} (h : idxD d k = .ok v) (hq : Q v) : W (idxD d k) Q := ⟨v, h, hq⟩
theorem eqvAll_ints : ∀ xs ys : List Int, PyData.eqvAll (xs.map .int) (ys.map .int) = decide (xs = ys)
  | [], [] => rfl
  | [], _ :: _ => rfl
  | _ :: _, [] => rfl
  | x :: xs, y :: ys => by
    show (PyData.eqv (.int x) (.int y) && PyData.eqvAll (xs.map .int) (ys.map .int)) = _
    rw [eqv_int, eqvAll_ints xs ys]
    by_cases h1 : x = y <;> by_cases h2 : xs = ys <;> simp [h1, h2]
theorem eqv_ints (xs ys : List Int) : PyData.eqv (.list (xs.map .int)) (.list (ys.map .int)) = decide (xs = ys) := eqvAll_ints xs ys
theorem shp_ints (xs : List Int) : shp (.list (xs.map .int)) = true := by
  unfold shp
  rw [show PyData.canLay0 (.list (xs.map .int)) = PyData.canLayAll0 (xs.map .int) from rfl, canLay_ints, Bool.true_and, decide_eq_true_eq]
  show PyData.depthAll (xs.map .int) + 1 ≤ 64
  have := depth_ints xs
  omega
theorem C_eqL {xs ys : List Int} {Q : Bool → Prop} (h : Q (decide (xs = ys))) : W (cmpD .Eq (.list (xs.map .int)) (.list (ys.map .int))) Q := C_eq (shp_ints _) (shp_ints _) (by rw [eqv_ints]; exact h)
theorem C_neL {xs ys : List Int} {Q : Bool → Prop} (h : Q (!decide (xs = ys))) : W (cmpD .NotEq (.list (xs.map .int)) (.list (ys.map .int))) Q := C_ne (shp_ints _) (shp_ints _) (by rw [eqv_ints]; exact h)
theorem P_neg1 {n : Nat} {Q : Nat → Prop} (h1 : 0 < n) (h : Q (n - 1)) : W (posL (-1) n) Q := by
  refine ⟨n - 1, ?_, h⟩
  unfold posL seqIndex?
  simp only [show ((-1 : Int) < 0) from by decide, if_true]
  rw [if_pos (by rw [Bool.and_eq_true, decide_eq_true_eq, decide_eq_true_eq]; omega)]
  dsimp only
  congr 1
  omega
theorem L_ok {xs : List D} {A : Prop} (h1 : xs.length ≤ lim) (h2 : A) : xs.length ≤ lim ∧ A := ⟨h1, h2⟩
theorem frz_eq {ρ : Rho} : frz ρ [] = ρ := rfl
theorem set_ints {xs : List Int} {j : Nat} {c : Int} : (xs.map PyData.int).set j (.int c) = (xs.set j c).map .int := by rw [List.map_set]
theorem B_zeros {x k : Int} {Q : D → Prop} (h1 : k ≤ lim) (h0 : -1 ≤ k) (h : Q (.list ((List.replicate k.toNat x).map .int))) : W (binD .Mult (.list [.int x]) (.int k)) Q :=
  B_lmul h1 h0 (by rw [List.map_replicate] at h; exact h)
end
end Mine

/-! Wp2 -/
namespace Mine

section
variable {K : Frag} {n : Nat} {sc : Scope} {ρ : Rho} {p p1 p2 p3 p4 : Pos} {o : Rho → Bool}

/-! the outermost frame -/
theorem LX_call {f : Str} {args ds : List D} {fd : FuncData} {b : List Stmt} {binds : List (Str × D)} {Q : D → Prop} (h1 : fdOf K f = some fd) (h2 : fdOk K fd = true) (h3 : fd.body = .stmts b) (h4 : dfltsD K fd = some ds)
    (h5 : bindP (fd.params.args.map (·.arg)) args ds = some binds) (h : W (exsL (exX K o n fd.scope) b (rhoOf binds)) fun p => Q (p.2.getD .none)) : W (lawX K o n f args) Q := by
  unfold lawX
  rw [h1]
  dsimp only
  rw [if_pos h2, h3, h4]
  dsimp only
  rw [h5]
  exact W.bind (h.mono fun p hp => .ok hp)
def notTry : Stmt → Bool
  | .Try .. => false
  | .For _ _ b _ _ => !hasTry b
  | .If .. => false
  | _ => true
theorem X_st {st : Stmt} {Q : Rho × Option D → Prop} (h1 : notTry st = true) (h : W ((It K n).ex sc ρ st) Q) : W (exX K o (n + 1) sc ρ st) Q := by
  obtain ⟨a, e, q⟩ := h
  refine ⟨a, ?_, q⟩
  unfold exX
  split
  · cases h1
  · split
    · rename_i hb
      change (!hasTry _) = true at h1
      rw [hb] at h1; cases h1
    · exact e
  · cases h1
  · exact e
theorem X_if {t : Expr} {b e : List Stmt} {Q : Rho × Option D → Prop} (h : W ((It K n).ex sc (frz ρ (al K 30 true t)) (.If t b e p)) Q) : W (exX K o (n + 1) sc ρ (.If t b e p)) Q := h
theorem X_if0 {t : Expr} {b e : List Stmt} {Q : Rho × Option D → Prop} (h1 : al K 30 true t = []) (h : W ((It K n).ex sc ρ (.If t b e p)) Q) : W (exX K o (n + 1) sc ρ (.If t b e p)) Q := X_if (by rw [h1]; exact h)
theorem X_for {t : Str} {it : Expr} {b : List Stmt} {Q : Rho × Option D → Prop} (h1 : localOrCell sc t = true) (h2 : hasTry b = true)
    (h : W (srcE K (It K n) sc (frz ρ (al K 30 false it)) false it) fun vs => W (forL (fun v ρ => exsL (exX K o n sc) b (upd ρ t false v)) vs (frz ρ (al K 30 false it))) Q) : W (exX K o (n + 1) sc ρ (.For (.Name t p1) it b [] p2)) Q := by
  obtain ⟨vs, e1, a, e2, q⟩ := h
  refine ⟨a, ?_, q⟩
  unfold exX
  dsimp only
  rw [if_pos h2, if_pos h1, e1]
  exact e2
theorem X_tryN {first : Stmt} {rest : List Stmt} {C : Str} {x : Str} {b : Bool} {bk} {np xp bp ap hp tp : Pos} {Q : Rho × Option D → Prop} (ho : o ρ = false) (h : W (exsL ((It K n).ex sc) (first :: rest) ρ) Q) :
    W (exX K o (n + 1) sc ρ (.Try (first :: rest) [.ExceptHandler (some (.Name C np)) none [.Assign [.Name x xp] (.Constant (.bool b) bk bp) ap] hp] [] [] tp)) Q := by
  obtain ⟨a, e, q⟩ := h
  refine ⟨a, ?_, q⟩
  unfold exX
  dsimp only
  rw [if_neg (by rw [ho]; decide)]
  exact e
theorem X_tryX {rest : List Stmt} {C : Str} {x f y : Str} {args : List Expr} {b : Bool} {bk} {np xp bp ap hp tp yp fp cp sp : Pos} {Q : Rho × Option D → Prop} (ho : o ρ = true)
    (h1 : (C == excN && sc.names.lookup C == some .globalImplicit && localOrCell sc x) = true) (h2 : txCall K (It K n) (Jt K n) sc (frz ρ (args.flatMap (al K 30 false))) f args = true)
    (h : Q (upd (frz ρ (args.flatMap (al K 30 false))) x false (.bool b), none)) :
    W (exX K o (n + 1) sc ρ (.Try (.Assign [.Name y yp] (.Call (.Name f fp) args [] cp) sp :: rest) [.ExceptHandler (some (.Name C np)) none [.Assign [.Name x xp] (.Constant (.bool b) bk bp) ap] hp] [] [] tp)) Q := by
  refine ⟨_, ?_, h⟩
  unfold exX
  dsimp only
  rw [if_pos ho, if_pos (by rw [h1, h2]; rfl)]

/-! runs that end in the exception -/
theorem TC_call {f : Str} {args ds : List D} {fd : FuncData} {b : List Stmt} {binds : List (Str × D)} (h1 : fdOf K f = some fd) (h2 : fdOk K fd = true) (h3 : fd.body = .stmts b) (h4 : dfltsD K fd = some ds)
    (h5 : bindP (fd.params.args.map (·.arg)) args ds = some binds) (h : (txL ((It K n).ex fd.scope) ((Jt K n).tx fd.scope) b (rhoOf binds)).isSome = true) : (Jt K (n + 1)).tc f args = true := by
  show tcN K (It K n) (Jt K n) f args = true
  unfold tcN
  rw [h1]
  dsimp only
  rw [if_pos h2, h3, h4]
  dsimp only
  rw [h5]
  exact h
def Tx (f : Rho → Stmt → Out (Rho × Option D)) (g : Rho → Stmt → Option Rho) (r : List Stmt) (p : Rho × Option D) : Prop :=
  match p.2 with
  | none => (txL f g r p.1).isSome = true
  | some _ => False
theorem Tx_n {f : Rho → Stmt → Out (Rho × Option D)} {g : Rho → Stmt → Option Rho} {r : List Stmt} (h : (txL f g r ρ).isSome = true) : Tx f g r (ρ, none) := h
theorem TX_here {f : Rho → Stmt → Out (Rho × Option D)} {g : Rho → Stmt → Option Rho} {s : Stmt} {r : List Stmt} (h : (g ρ s).isSome = true) : (txL f g (s :: r) ρ).isSome = true := by
  unfold txL
  cases q : g ρ s with
  | none => rw [q] at h; cases h
  | some ρ' => rfl
theorem TX_on {f : Rho → Stmt → Out (Rho × Option D)} {g : Rho → Stmt → Option Rho} {s : Stmt} {r : List Stmt} (h : W (f ρ s) (Tx f g r)) : (txL f g (s :: r) ρ).isSome = true := by
  obtain ⟨⟨ρ', d⟩, e, q⟩ := h
  unfold txL
  cases hg : g ρ s with
  | some ρ' => rfl
  | none =>
    dsimp only
    rw [e]
    cases d with
    | none => exact q
    | some d => cases q
theorem TX_if {t : Expr} {b e : List Stmt} (h : W ((It K n).tst sc ρ t) fun c => (c = true → (txL ((It K n).ex sc) ((Jt K n).tx sc) b ρ).isSome = true) ∧ (c = false → (txL ((It K n).ex sc) ((Jt K n).tx sc) e ρ).isSome = true)) :
    ((Jt K (n + 1)).tx sc ρ (.If t b e p)).isSome = true := by
  obtain ⟨c, e, q⟩ := h
  show (txN K (It K n) (Jt K n) sc ρ (.If t b _ p)).isSome = true
  unfold txN
  dsimp only
  rw [e]
  cases c with
  | true => exact q.1 rfl
  | false => exact q.2 rfl
theorem txFor_cons {f : D → Rho → Out (Rho × Option D)} {g : D → Rho → Option Rho} {v : D} {r : List D} {ρ : Rho} (h : (g v ρ).isSome = true ∨ W (f v ρ) fun p => p.2 = none ∧ (txFor f g r p.1).isSome = true) : (txFor f g (v :: r) ρ).isSome = true := by
  unfold txFor
  cases hg : g v ρ with
  | some ρ' => rfl
  | none =>
    rcases h with h | ⟨⟨ρ', d⟩, e, q1, q2⟩
    · rw [hg] at h; cases h
    · obtain rfl : d = none := q1
      dsimp only
      rw [e]; exact q2
/-- an invariant up to the turn that raises -/
theorem txFor_inv {f : D → Rho → Out (Rho × Option D)} {g : D → Rho → Option Rho} (I : List D → Rho → Prop) (hs : ∀ v r ρ, I (v :: r) ρ → (g v ρ).isSome = true ∨ W (f v ρ) fun p => p.2 = none ∧ I r p.1) (hn : ∀ ρ, ¬ I [] ρ) : ∀ (vs : List D) (ρ : Rho), I vs ρ → (txFor f g vs ρ).isSome = true
  | [], ρ, h => absurd h (hn ρ)
  | v :: r, ρ, h => txFor_cons ((hs v r ρ h).imp id fun q => q.mono fun p hp => ⟨hp.1, txFor_inv I hs hn r p.1 hp.2⟩)
theorem TX_for {t : Str} {it : Expr} {b : List Stmt} (h1 : localOrCell sc t = true)
    (h : W (srcE K (It K n) sc (frz ρ (al K 30 false it)) false it) fun vs => (txFor (fun v ρ => exsL ((It K n).ex sc) b (upd ρ t false v)) (fun v ρ => txL ((It K n).ex sc) ((Jt K n).tx sc) b (upd ρ t false v)) vs (frz ρ (al K 30 false it))).isSome = true) :
    ((Jt K (n + 1)).tx sc ρ (.For (.Name t p1) it b [] p)).isSome = true := by
  obtain ⟨vs, e, q⟩ := h
  rw [show (Jt K (n + 1)).tx = txN K (It K n) (Jt K n) from rfl]
  unfold txN
  dsimp only
  rw [if_pos h1, e]
  exact q
theorem TX_raise {C : Str} {x : Str} {k} (h : (C == excN && sc.names.lookup C == some .globalImplicit) = true) : ((Jt K (n + 1)).tx sc ρ (.Raise (some (.Call (.Name C p1) [.Constant (.str x) k p2] [] p3)) none p)).isSome = true := by
  rw [show (Jt K (n + 1)).tx = txN K (It K n) (Jt K n) from rfl]
  unfold txN
  dsimp only
  rw [if_pos h]
  rfl
theorem TX_txCall {f : Str} {args : List Expr} (h1 : calleeD K sc f = some .fn) (h2 : (args.isEmpty || (fdOf K f).isNone) = false) (h : W (evs ((It K n).ev sc ρ false) args) fun vs => (Jt K n).tc f vs = true) : txCall K (It K n) (Jt K n) sc ρ f args = true := by
  obtain ⟨vs, e, q⟩ := h
  unfold txCall
  rw [h1]
  dsimp only
  rw [if_neg (by rw [h2]; decide), e]
  exact q
theorem TX_ret {f : Str} {args : List Expr} (h1 : calleeD K sc f = some .fn) (h2 : (args.isEmpty || (fdOf K f).isNone) = false) (h : W (evs ((It K n).ev sc (frz ρ (args.flatMap (al K 30 false))) false) args) fun vs => (Jt K n).tc f vs = true) :
    ((Jt K (n + 1)).tx sc ρ (.Return (some (.Call (.Name f p1) args [] p2)) p)).isSome = true := by
  rw [show (Jt K (n + 1)).tx = txN K (It K n) (Jt K n) from rfl]
  unfold txN
  dsimp only
  rw [if_pos (TX_txCall h1 h2 h)]
  rfl

/-! rows -/
abbrev rowD (r : List Int) : D := .list (r.map .int)
theorem getR {rows : List (List Int)} {j : Nat} (h : j < rows.length) : (rows.map rowD)[j]? = some (rowD (rows.getD j [])) := by
  rw [List.getElem?_map, List.getElem?_eq_getElem h, List.getD_eq_getElem?_getD, List.getElem?_eq_getElem h]; rfl
theorem X_rows {rows : List (List Int)} {j : Nat} {Q : D → Prop} (h1 : rows.length ≤ lim) (h2 : j < rows.length) (h : Q (.list ((rows.getD j []).map .int))) : W (idxD (.list (rows.map rowD)) (j : Int)) Q :=
  X_list (by rw [List.length_map]; exact h1) (getR h2) h
theorem filtL_enc {β : Type} {enc : β → D} {f : D → Out D} {T : D → Expr → Out Bool} (g : β → D) : ∀ {xs : List β}, (∀ x ∈ xs, W (f (enc x)) (fun d => d = g x)) → filtL (fun v => tests (T v) []) f (xs.map enc) = .ok (xs.map g)
  | [], _ => rfl
  | x :: r, h => by
    have h1 := (h x List.mem_cons_self).val
    have h2 := filtL_enc (T := T) g (xs := r) fun y hy => h y (List.mem_cons_of_mem _ hy)
    show (if (true : Bool) = true then (f (enc x)).bind (fun b => (filtL (fun v => tests (T v) []) f (r.map enc)).bind fun bs => .ok (b :: bs)) else filtL (fun v => tests (T v) []) f (r.map enc)) = _
    rw [if_pos rfl, h1]
    show (filtL _ f (r.map enc)).bind _ = _
    rw [h2]; rfl
theorem M_enc {β : Type} {enc : β → D} {xs : List β} {f : D → Out D} {T : D → Expr → Out Bool} {Q : List D → Prop} (g : β → D) (h2 : ∀ x ∈ xs, W (f (enc x)) (fun d => d = g x)) (h : Q (xs.map g)) : W (filtL (fun v => tests (T v) []) f (xs.map enc)) Q :=
  ⟨_, filtL_enc g h2, h⟩
theorem M_rangeD {f : D → Out D} {m : Nat} {Q : List D → Prop} {T : D → Expr → Out Bool} (g : Nat → D) (h2 : ∀ i, i < m → W (f (.int (i : Int))) (fun d => d = g i)) (h : Q ((List.range m).map g)) :
    W (filtL (fun v => tests (T v) []) f (((List.range m).map fun (i : Nat) => (i : Int)).map .int)) Q := by
  rw [List.map_map]
  exact M_enc g (fun i hi => h2 i (List.mem_range.mp hi)) h
theorem filtL_encf {β : Type} {enc : β → D} {t : D → Out Bool} {f : D → Out D} (pp : β → Bool) (g : β → D) : ∀ {xs : List β}, (∀ x ∈ xs, W (t (enc x)) (fun b => b = pp x)) → (∀ x ∈ xs, pp x = true → W (f (enc x)) (fun d => d = g x)) → filtL t f (xs.map enc) = .ok ((xs.filter pp).map g)
  | [], _, _ => rfl
  | x :: r, h1, h2 => by
    have e1 := (h1 x List.mem_cons_self).val
    have e3 := filtL_encf pp g (xs := r) (fun y hy => h1 y (List.mem_cons_of_mem _ hy)) fun y hy => h2 y (List.mem_cons_of_mem _ hy)
    show (t (enc x)).bind _ = _
    rw [e1]
    show (if pp x = true then _ else _) = _
    cases hp : pp x with
    | true =>
      have e2 := (h2 x List.mem_cons_self hp).val
      rw [if_pos rfl, e2, List.filter_cons, if_pos hp]
      show (filtL t f (r.map enc)).bind _ = _
      rw [e3]; rfl
    | false =>
      rw [if_neg (by decide), List.filter_cons, if_neg (by rw [hp]; decide)]
      exact e3
theorem M_encf {β : Type} {enc : β → D} {xs : List β} {t : D → Out Bool} {f : D → Out D} {Q : List D → Prop} (pp : β → Bool) (g : β → D) (h1 : ∀ x ∈ xs, W (t (enc x)) (fun b => b = pp x)) (h2 : ∀ x ∈ xs, pp x = true → W (f (enc x)) (fun d => d = g x)) (h : Q ((xs.filter pp).map g)) :
    W (filtL t f (xs.map enc)) Q := ⟨_, filtL_encf pp g h1 h2, h⟩
theorem M_rfiltD {t : D → Out Bool} {f : D → Out D} {m : Nat} {Q : List D → Prop} (pp : Nat → Bool) (g : Nat → D) (h1 : ∀ i, i < m → W (t (.int (i : Int))) (fun b => b = pp i)) (h2 : ∀ i, i < m → pp i = true → W (f (.int (i : Int))) (fun d => d = g i)) (h : Q (((List.range m).filter pp).map g)) :
    W (filtL t f (((List.range m).map fun (i : Nat) => (i : Int)).map .int)) Q := by
  rw [List.map_map]
  exact M_encf pp g (fun i hi => h1 i (List.mem_range.mp hi)) (fun i hi hp => h2 i (List.mem_range.mp hi) hp) h
theorem B_snoc {r : List Int} {x : Int} {Q : D → Prop} (h1 : r.length + 1 ≤ lim) (h : Q (.list ((r ++ [x]).map .int))) : W (binD .Add (.list (r.map .int)) (.list [.int x])) Q :=
  B_ladd (by rw [List.length_map]; exact h1) (by rw [List.map_append] at h; exact h)
def minL : List Int → Int
  | [] => 0
  | x :: r => minI x r
theorem F_minL {zs : List Int} {Q : D → Prop} (h1 : 0 < zs.length) (h : Q (.int (minL zs))) : W (fnD "min" (.list (zs.map .int))) Q := by
  cases zs with
  | nil => simp at h1
  | cons z zs => exact F_min h
theorem F_abs {a : Int} {Q : D → Prop} (h : Q (.int (if a < 0 then -a else a))) : W (fnD "abs" (.int a)) Q := ⟨_, rfl, h⟩
theorem rev_sorted (xs : List D) : revD "sorted" (.list xs) = (match intsD xs with | some ns => if ns.length < 64 then .ok (.list ((sortI ns).reverse.map .int)) else .bad | none => .bad) := rfl
theorem F_rev {zs : List Int} {Q : D → Prop} (h1 : zs.length < 64) (h : Q (.list ((sortI zs).reverse.map .int))) : W (revD "sorted" (.list (zs.map .int))) Q := ⟨_, by rw [rev_sorted, intsD_map]; exact if_pos h1, h⟩
def downs (a : Int) : List Int := (List.range (a + 1).toNat).map fun (i : Nat) => a - (i : Int)
theorem R_down {a : Int} {Q : List D → Prop} (h1 : -1000000 ≤ a) (h2 : a ≤ 1000000) (h : Q ((downs a).map .int)) : W (rngD [.int a, .int (-1), .int (-1)]) Q := by
  refine ⟨_, ?_, h⟩
  unfold rngD
  dsimp only
  have e1 : inLim a = true := by unfold inLim; rw [Bool.and_eq_true, decide_eq_true_eq, decide_eq_true_eq]; omega
  rw [if_pos (by rw [e1]; rfl)]
  unfold rangeL downs
  rw [List.map_map, show a - -1 = a + 1 by omega]
  refine congrArg Out.ok (List.map_congr_left fun i _ => ?_)
  show PyData.int (a + (i : Int) * (-1)) = .int (a - (i : Int))
  congr 1
  omega
theorem eqv_bool (a b : Bool) : PyData.eqv (.bool a) (.bool b) = (a == b) := by cases a <;> cases b <;> rfl
theorem C_eqb {a b : Bool} {Q : Bool → Prop} (h : Q (a == b)) : W (cmpD .Eq (.bool a) (.bool b)) Q := C_eq rfl rfl (by rw [eqv_bool]; exact h)
theorem eqvAll_rows : ∀ xs ys : List (List Int), PyData.eqvAll (xs.map rowD) (ys.map rowD) = decide (xs = ys)
  | [], [] => rfl
  | [], _ :: _ => rfl
  | _ :: _, [] => rfl
  | x :: xs, y :: ys => by
    show (PyData.eqv (rowD x) (rowD y) && PyData.eqvAll (xs.map rowD) (ys.map rowD)) = _
    rw [eqv_ints, eqvAll_rows xs ys]
    by_cases h1 : x = y <;> by_cases h2 : xs = ys <;> simp [h1, h2]
theorem canLay_rows : ∀ xs : List (List Int), PyData.canLayAll0 (xs.map rowD) = true
  | [] => rfl
  | x :: r => by
    show (PyData.canLay0 (rowD x) && PyData.canLayAll0 (r.map rowD)) = true
    rw [show PyData.canLay0 (rowD x) = PyData.canLayAll0 (x.map .int) from rfl, canLay_ints, canLay_rows r]; rfl
theorem depth_rows : ∀ xs : List (List Int), PyData.depthAll (xs.map rowD) ≤ 2
  | [] => by show 0 ≤ 2; decide
  | x :: r => by
    show max (PyData.depth (rowD x)) (PyData.depthAll (r.map rowD)) ≤ 2
    have h1 := depth_ints x
    have h2 : PyData.depth (rowD x) = PyData.depthAll (x.map .int) + 1 := rfl
    have h3 := depth_rows r
    omega
theorem shp_rows (xs : List (List Int)) : shp (.list (xs.map rowD)) = true := by
  unfold shp
  rw [show PyData.canLay0 (.list (xs.map rowD)) = PyData.canLayAll0 (xs.map rowD) from rfl, canLay_rows, Bool.true_and, decide_eq_true_eq]
  show PyData.depthAll (xs.map rowD) + 1 ≤ 64
  have := depth_rows xs
  omega
theorem C_neR {xs ys : List (List Int)} {Q : Bool → Prop} (h : Q (!decide (xs = ys))) : W (cmpD .NotEq (.list (xs.map rowD)) (.list (ys.map rowD))) Q := C_ne (shp_rows _) (shp_rows _) (by rw [show PyData.eqv (.list (xs.map rowD)) (.list (ys.map rowD)) = PyData.eqvAll (xs.map rowD) (ys.map rowD) from rfl, eqvAll_rows]; exact h)
theorem C_eqR {xs ys : List (List Int)} {Q : Bool → Prop} (h : Q (decide (xs = ys))) : W (cmpD .Eq (.list (xs.map rowD)) (.list (ys.map rowD))) Q := C_eq (shp_rows _) (shp_rows _) (by rw [show PyData.eqv (.list (xs.map rowD)) (.list (ys.map rowD)) = PyData.eqvAll (xs.map rowD) (ys.map rowD) from rfl, eqvAll_rows]; exact h)
theorem seqI_neg {k n : Nat} (h1 : 0 < k) (h2 : k ≤ n) : seqIndex? (-(k : Int)) n = some (n - k) := by
  unfold seqIndex?
  simp only [show (-(k : Int) < 0) from by omega, if_true]
  rw [if_pos (by rw [Bool.and_eq_true, decide_eq_true_eq, decide_eq_true_eq]; omega)]
  congr 1
  omega
theorem X_intsN {xs : List Int} {k : Nat} {z : Int} {Q : D → Prop} (hz : z = -(k : Int)) (h1 : xs.length ≤ lim) (h0 : 0 < k) (h2 : k ≤ xs.length) (h : Q (.int (xs.getD (xs.length - k) 0))) : W (idxD (.list (xs.map .int)) z) Q := by
  subst hz
  refine ⟨_, ?_, h⟩
  unfold idxD
  dsimp only
  rw [if_pos (by rw [List.length_map]; exact h1), List.length_map, seqI_neg h0 h2]
  dsimp only
  rw [getI (by omega)]
theorem insI_len (x : Int) : ∀ l, (insI x l).length = l.length + 1
  | [] => rfl
  | y :: r => by unfold insI; split <;> simp [insI_len x r]
theorem sortI_len : ∀ l, (sortI l).length = l.length
  | [] => rfl
  | x :: r => by unfold sortI; rw [insI_len, sortI_len r]; rfl
end
end Mine

/-! Wp3 -/
namespace Mine
section
variable {n : Nat}
theorem getE {β : Type} {enc : β → D} {xs : List β} (dflt : β) {j : Nat} (h : j < xs.length) : (xs.map enc)[j]? = some (enc (xs.getD j dflt)) := by
  rw [List.getElem?_map, List.getElem?_eq_getElem h, List.getD_eq_getElem?_getD, List.getElem?_eq_getElem h]; rfl
theorem X_enc {β : Type} {enc : β → D} {xs : List β} (dflt : β) {j : Nat} {Q : D → Prop} (h1 : xs.length ≤ lim) (h2 : j < xs.length) (h : Q (enc (xs.getD j dflt))) : W (idxD (.list (xs.map enc)) (j : Int)) Q :=
  X_list (by rw [List.length_map]; exact h1) (getE dflt h2) h
theorem getD_all {a : List Int} {Pr : Int → Prop} (h : ∀ x ∈ a, Pr x) (h0 : Pr 0) (i : Nat) : Pr (a.getD i 0) := by
  rw [List.getD_eq_getElem?_getD]
  by_cases hi : i < a.length
  · rw [List.getElem?_eq_getElem hi]; exact h _ (List.getElem_mem hi)
  · rw [List.getElem?_eq_none (by omega)]; exact h0
theorem exs_app {f : Rho → Stmt → Out (Rho × Option D)} {Q : Rho × Option D → Prop} : ∀ {b1 b2 : List Stmt} {ρ : Rho}, W (exsL f b1 ρ) (fun p => p.2 = none ∧ W (exsL f b2 p.1) Q) → W (exsL f (b1 ++ b2) ρ) Q
  | [], b2, ρ, h => by
    obtain ⟨p, e, h1, h2⟩ := h
    cases e
    exact h2
  | s :: b1, b2, ρ, h => by
    obtain ⟨p, e, h1, h2⟩ := h
    obtain ⟨⟨ρ1, d⟩, e1, e2⟩ := Out.bind_ok e
    cases d with
    | none =>
      obtain ⟨q, e3, h3⟩ := exs_app (b1 := b1) (b2 := b2) (ρ := ρ1) (f := f) (Q := Q) ⟨p, e2, h1, h2⟩
      refine ⟨q, ?_, h3⟩
      show (f ρ s).bind _ = _
      rw [e1]; exact e3
    | some d =>
      cases e2
      cases h1
theorem exs_app2 {f : Rho → Stmt → Out (Rho × Option D)} {Q : Rho × Option D → Prop} {b1 b2 : List Stmt} {ρ : Rho} (I : Rho → Prop) (h1 : W (exsL f b1 ρ) (fun p => p.2 = none ∧ I p.1)) (h2 : ∀ ρ, I ρ → W (exsL f b2 ρ) Q) : W (exsL f (b1 ++ b2) ρ) Q :=
  exs_app (h1.mono fun p h => ⟨h.1, h2 _ h.2⟩)
theorem C_inI {xs : List Int} {a : Int} {Q : Bool → Prop} (h : Q (decide (a ∈ xs))) : W (cmpD .In (.int a) (.list (xs.map .int))) Q := by
  refine ⟨_, ?_, h⟩
  unfold cmpD
  dsimp only
  rw [if_pos (by rw [shp_ints]; rfl)]
  congr 1
  clear h
  induction xs with
  | nil => rfl
  | cons x r ih =>
    rw [List.map_cons, List.any_cons, ih, eqv_int]
    by_cases e : x = a
    · subst e; simp
    · simp [e, Ne.symm e]
theorem foldI_enc {β : Type} {enc : β → D} {f : Rho → Out D} {t y : Str} (g : Int → β → Int) (hty : y ≠ t) : ∀ {xs : List β} {ρ : Rho} {c : Int}, (∀ x ∈ xs, ∀ ρ' c, ρ' y = some (false, .int c) → (∀ z, z ≠ t → z ≠ y → ρ' z = ρ z) → W (f (upd ρ' t false (enc x))) (fun d => d = .int (g c x))) → ρ y = some (false, .int c) →
    ∃ ρ', foldI f t y (xs.map enc) ρ = .ok ρ' ∧ ρ' y = some (false, .int (xs.foldl g c)) ∧ ∀ z, z ≠ t → z ≠ y → ρ' z = ρ z
  | [], ρ, c, _, h => ⟨ρ, rfl, h, fun _ _ _ => rfl⟩
  | x :: xs, ρ, c, hf, h => by
    have h1 := (hf x List.mem_cons_self ρ c h fun _ _ _ => rfl).val
    obtain ⟨ρ', e, hy, ho⟩ := foldI_enc g hty (xs := xs) (ρ := upd (upd ρ t false (enc x)) y false (.int (g c x))) (c := g c x) (fun x' hx' ρ2 c2 h2 h3 => hf x' (List.mem_cons_of_mem _ hx') ρ2 c2 h2 fun z hz1 hz2 => by
      rw [h3 z hz1 hz2]; unfold upd; rw [if_neg hz2, if_neg hz1]) lk_self
    refine ⟨ρ', ?_, hy, fun z hz1 hz2 => ?_⟩
    · show (f (upd ρ t false (enc x))).bind _ = _
      rw [h1]; exact e
    · rw [ho z hz1 hz2]; unfold upd; rw [if_neg hz2, if_neg hz1]
theorem W_forI_enc {K : Frag} {sc : Scope} {ρ : Rho} {p p1 p2 p3 p4 : Pos} {β : Type} {enc : β → D} {t z y : Str} {e : Expr} {xs : List β} {c : Int} {Q : Rho × Option D → Prop} (g : Int → β → Int) (h1 : localOrCell sc t = true) (h2 : (z != t && z != y && localOrCell sc y && localOrCell sc z && nmOk z && notComp e) = true) (hty : y ≠ t)
    (h3 : ρ z = some (true, .list (xs.map enc))) (hl : xs.length < lim) (hy : ρ y = some (false, .int c))
    (hf : ∀ x ∈ xs, ∀ ρ' c, ρ' y = some (false, .int c) → (∀ z, z ≠ t → z ≠ y → ρ' z = ρ z) → W ((It K n).ev sc (upd ρ' t false (enc x)) false e) (fun d => d = .int (g c x)))
    (h : ∀ ρ', ρ' y = some (false, .int (xs.foldl g c)) → (∀ z, z ≠ t → z ≠ y → ρ' z = ρ z) → Q (ρ', none)) : W ((It K (n + 1)).ex sc ρ (.For (.Name t p1) (.Name z p2) [.Assign [.Name y p3] e p4] [] p)) Q := by
  obtain ⟨ρ', e1, e2, e3⟩ := foldI_enc (f := fun ρ => (It K n).ev sc ρ false e) g hty hf hy
  exact W_forI h1 h2 (ownL_of h3 (by rw [List.length_map]; exact hl)) e1 (h ρ' e2 e3)
theorem M_encI {β : Type} {enc : β → D} {xs : List β} {f : D → Out D} {T : D → Expr → Out Bool} {Q : List D → Prop} (g : β → Int) (h2 : ∀ x ∈ xs, W (f (enc x)) (fun d => d = .int (g x))) (h : Q ((xs.map g).map .int)) : W (filtL (fun v => tests (T v) []) f (xs.map enc)) Q :=
  M_enc (fun x => .int (g x)) h2 (by rw [List.map_map] at h; exact h)
theorem txR_inv {f : D → Rho → Out (Rho × Option D)} {g : D → Rho → Option Rho} {m : Nat} (I : Nat → Rho → Prop) (hn : ∀ ρ, ¬ I m ρ) (hs : ∀ j ρ, j < m → I j ρ → (g (.int (j : Int)) ρ).isSome = true ∨ W (f (.int (j : Int)) ρ) fun p => p.2 = none ∧ I (j + 1) p.1) {ρ : Rho} (h : I 0 ρ) :
    (txFor f g (((List.range m).map fun (i : Nat) => (i : Int)).map .int) ρ).isSome = true := by
  rw [List.map_map]
  refine txFor_inv (fun r ρ => ∃ j, j ≤ m ∧ r = (List.range' j (m - j)).map (fun (i : Nat) => PyData.int (i : Int)) ∧ I j ρ) (fun v r ρ h => ?_) (fun ρ h => ?_) _ _ ⟨0, Nat.zero_le _, by rw [List.range_eq_range', Nat.sub_zero]; rfl, h⟩
  · obtain ⟨j, hj, e, h⟩ := h
    by_cases hjm : j < m
    · rw [show m - j = (m - (j + 1)) + 1 by omega, List.range'_succ] at e
      cases e
      exact (hs j ρ hjm h).imp id fun q => q.mono fun p hp => ⟨hp.1, j + 1, hjm, rfl, hp.2⟩
    · rw [show m - j = 0 by omega] at e
      cases e
  · obtain ⟨j, hj, e, h⟩ := h
    have : m - j = 0 := by
      have := congrArg List.length e
      simpa using this.symm
    obtain rfl : j = m := by omega
    exact hn ρ h

theorem W_cut {f : Rho → Stmt → Out (Rho × Option D)} {s : Stmt} {r : List Stmt} {ρ : Rho} {Q : Rho × Option D → Prop} (I : Rho → Prop) (h1 : W (f ρ s) (fun p => p.2 = none ∧ I p.1)) (h2 : ∀ ρ, I ρ → W (exsL f r ρ) Q) : W (exsL f (s :: r) ρ) Q := by
  refine W_cons (h1.mono fun p hp => ?_)
  obtain ⟨ρ', d⟩ := p
  obtain ⟨rfl, hi⟩ := hp
  exact h2 _ hi

theorem txL_app {f : Rho → Stmt → Out (Rho × Option D)} {g : Rho → Stmt → Option Rho} : ∀ {b1 b2 : List Stmt} {ρ : Rho} (I : Rho → Prop), W (exsL f b1 ρ) (fun p => p.2 = none ∧ I p.1) → (∀ ρ, I ρ → (txL f g b2 ρ).isSome = true) → (txL f g (b1 ++ b2) ρ).isSome = true
  | [], b2, ρ, I, h, k => by
    obtain ⟨p, e, h1, h2⟩ := h
    cases e
    exact k _ h2
  | s :: b1, b2, ρ, I, h, k => by
    obtain ⟨p, e, h1, h2⟩ := h
    obtain ⟨⟨ρ1, d⟩, e1, e2⟩ := Out.bind_ok e
    cases d with
    | none =>
      refine TX_on ⟨(ρ1, none), e1, ?_⟩
      exact txL_app (b1 := b1) (b2 := b2) (ρ := ρ1) I ⟨p, e2, h1, h2⟩ k
    | some d =>
      cases e2
      cases h1
theorem forE_inv {enc : Nat → D} {f : D → Rho → Out (Rho × Option D)} {Q : Rho × Option D → Prop} {m : Nat} (I : Nat → Rho → Prop) (hn : ∀ ρ, I m ρ → Q (ρ, none))
    (hs : ∀ j ρ, j < m → I j ρ → W (f (enc j) ρ) fun p => match p.2 with | none => I (j + 1) p.1 | some d => Q (p.1, some d)) {ρ : Rho} (h : I 0 ρ) : W (forL f ((List.range m).map enc) ρ) Q := by
  refine forM_inv (fun r ρ => ∃ j, j ≤ m ∧ r = List.range' j (m - j) ∧ I j ρ) (fun ρ h => ?_) (fun y r ρ h => ?_) ⟨0, Nat.zero_le _, by rw [List.range_eq_range', Nat.sub_zero], h⟩
  · obtain ⟨j, hj, e, h⟩ := h
    have : m - j = 0 := by
      have := congrArg List.length e
      simpa using this.symm
    rw [show m = j by omega] at hn
    exact hn ρ h
  · obtain ⟨j, hj, e, h⟩ := h
    by_cases hjm : j < m
    · rw [show m - j = (m - (j + 1)) + 1 by omega, List.range'_succ] at e
      cases e
      refine (hs y ρ hjm h).mono fun p hp => ?_
      obtain ⟨ρ', o⟩ := p
      cases o with
      | none => exact ⟨y + 1, hjm, rfl, hp⟩
      | some d => exact hp
    · rw [show m - j = 0 by omega] at e
      cases e
theorem R_fromI {a z : Int} {b : Nat} {Q : List D → Prop} (hz : z = a + b) (h0 : -1000000 ≤ a) (h1 : a + b ≤ 1000000) (h : Q ((List.range b).map fun (i : Nat) => .int (a + (i : Int)))) : W (rngD [.int a, .int z]) Q := by
  subst hz
  refine R_two (by unfold inLim; rw [Bool.and_eq_true, decide_eq_true_eq, decide_eq_true_eq]; omega) (by unfold inLim; rw [Bool.and_eq_true, decide_eq_true_eq, decide_eq_true_eq]; omega) ?_
  rw [show (a + (b : Int) - a).toNat = b by omega]
  unfold rangeL
  rw [show (fun (i : Nat) => PyData.int (a + (i : Int) * 1)) = fun (i : Nat) => .int (a + (i : Int)) from funext fun i => by rw [Int.mul_one]]
  exact h
theorem R_from {a b : Int} {Q : List D → Prop} (h0 : -1000000 ≤ a ∧ a ≤ 1000000) (h1 : -1000000 ≤ b ∧ b ≤ 1000000) (h : Q ((List.range (b - a).toNat).map fun (i : Nat) => .int (a + (i : Int)))) : W (rngD [.int a, .int b]) Q := by
  refine R_two (by unfold inLim; rw [Bool.and_eq_true, decide_eq_true_eq, decide_eq_true_eq]; omega) (by unfold inLim; rw [Bool.and_eq_true, decide_eq_true_eq, decide_eq_true_eq]; omega) ?_
  unfold rangeL
  rw [show (fun (i : Nat) => PyData.int (a + (i : Int) * 1)) = fun (i : Nat) => .int (a + (i : Int)) from funext fun i => by rw [Int.mul_one]]
  exact h
theorem flat_len {β : Type} (f : Nat → List β) {j m : Nat} (h : j ≤ m) : ((List.range j).flatMap f).length ≤ ((List.range m).flatMap f).length := by
  induction m with
  | zero => obtain rfl : j = 0 := by omega
            exact Nat.le_refl _
  | succ m ih =>
    by_cases e : j = m + 1
    · subst e; exact Nat.le_refl _
    · rw [List.range_succ, List.flatMap_append, List.length_append]
      have := ih (by omega)
      omega
theorem Tr_list {xs : List D} {Q : Bool → Prop} {b : Bool} (h1 : xs.length ≤ lim) (h0 : xs.isEmpty = !b) (h : Q b) : W (trD (.list xs)) Q := ⟨b, by unfold trD; dsimp only; rw [if_pos h1, h0, Bool.not_not], h⟩
theorem W_iscall {K : Frag} {f : Str} {args : List D} {Q : D → Prop} (h : False) : W ((It K n).call f args) Q := h.elim
/-- strings of the text -/
def constsL : List Expr → Option (List D)
  | [] => some []
  | .Constant (.str s) _ _ :: r => (constsL r).map (.str s :: ·)
  | _ => none
theorem constsL_ok {K : Frag} {sc : Scope} {ρ : Rho} {wk : Bool} : ∀ {es : List Expr} {ds : List D}, constsL es = some ds → evs ((It K (n + 1)).ev sc ρ wk) es = .ok ds
  | [], ds, h => by cases h; rfl
  | e :: r, ds, h => by
    unfold constsL at h
    split at h
    · rename_i heq; cases heq
    · rename_i s kk q r' heq
      cases heq
      obtain ⟨ds', h1, rfl⟩ := Option.map_eq_some_iff.mp h
      have ih := constsL_ok (K := K) (sc := sc) (ρ := ρ) (wk := wk) h1
      show (constD (.str s)).bind (fun v => (evs ((It K (n + 1)).ev sc ρ wk) r).bind fun vs => .ok (v :: vs)) = _
      rw [ih]; rfl
    · cases h
theorem T_instr {K : Frag} {sc : Scope} {ρ : Rho} {x : Str} {p q r : Pos} {es : List Expr} {ds : List D} {nm : Str} (b : Bool) {Q : Bool → Prop} (h1 : (x == ("__debug__" : Str) || x == ("__classdict__" : Str)) = false) (h2 : isVar (sc.names.lookup x) = true) (h3 : ρ x = some (false, .str nm)) (h4 : constsL es = some ds) (h5 : ds.length ≤ lim) (h6 : cmpD .In (.str nm) (.list ds) = .ok b) (h : Q b) :
    W ((It K (n + 3)).tst sc ρ (.Compare (.Name x p) [.In] [.List es q] r)) Q := by
  refine T_cmp rfl (W_name h1 h2 h3 rfl (W_list ?_))
  exact ⟨ds, constsL_ok h4, h5, b, h6, h⟩
theorem M_cat {rows : List (List Int)} {f : D → Out (List D)} {Q : List D → Prop} (h1 : ∀ r ∈ rows, W (f (rowD r)) (fun ds => ds = r.map .int)) (h : Q (rows.flatten.map .int)) : W (catL f (rows.map rowD)) Q := by
  refine ⟨_, ?_, h⟩
  clear h
  induction rows with
  | nil => rfl
  | cons r rows ih =>
    have e1 := (h1 r List.mem_cons_self).val
    have e2 := ih (fun r hr => h1 r (List.mem_cons_of_mem _ hr))
    show (f (rowD r)).bind _ = _
    rw [e1]
    show (catL f (rows.map rowD)).bind _ = _
    rw [e2, List.flatten_cons, List.map_append]; rfl
theorem M_mapI {r : List Int} {g : D → Out D} {Q : List D → Prop} (h1 : ∀ x ∈ r, W (g (.int x)) (fun d => d = .int x)) (h : Q (r.map .int)) : W (mapL g (r.map .int)) Q := by
  refine ⟨_, ?_, h⟩
  clear h
  induction r with
  | nil => rfl
  | cons x r ih =>
    have e1 := (h1 x List.mem_cons_self).val
    have e2 := ih (fun y hy => h1 y (List.mem_cons_of_mem _ hy))
    show (g (.int x)).bind _ = _
    rw [e1]
    show (mapL g (r.map .int)).bind _ = _
    rw [e2]; rfl

end
end Mine

/-! Wp4 -/
namespace Mine
section
variable {K : Frag} {n : Nat} {sc : Scope} {ρ : Rho} {wk : Bool} {p p1 p2 : Pos}
theorem W_drop {x : Str} {e : Expr} {Q : D → Prop} (h : W ((It K n).ev sc ρ true (.Name x p1)) fun o => W ((It K n).ev sc ρ true e) fun k => W (dropD o k) Q) : W ((It K (n + 1)).ev sc ρ wk (.Subscript (.Name x p1) (.Slice (some e) none none p2) p)) Q := by
  obtain ⟨o, e1, k, e2, d, e3, q⟩ := h
  refine ⟨d, ?_, q⟩
  rw [it_ev]
  unfold evN
  dsimp only
  rw [if_neg (by exact Bool.false_ne_true), e1]
  simp only [Out.bind]
  rw [e2]
  exact e3
theorem Tk_row {xs : List Int} {k : Nat} {Q : D → Prop} (h1 : k < xs.length) (h2 : xs.length ≤ lim) (h : Q (tupD (xs.take k))) : W (takeD (tupD xs) (.int k)) Q := by
  refine ⟨_, ?_, h⟩
  unfold takeD
  dsimp only
  rw [if_pos ⟨by omega, by rw [List.length_map]; omega, by rw [List.length_map]; exact h2⟩, ← List.map_take]
  rfl
theorem Dp_row {xs : List Int} {k : Nat} {z : Int} {Q : D → Prop} (hz : z = k) (h0 : 1 ≤ k) (h1 : k ≤ xs.length) (h2 : xs.length ≤ lim) (h : Q (tupD (xs.drop k))) : W (dropD (tupD xs) (.int z)) Q := by
  subst hz
  refine ⟨_, ?_, h⟩
  unfold dropD
  dsimp only
  rw [if_pos ⟨by omega, by rw [List.length_map]; omega, by rw [List.length_map]; exact h2⟩, ← List.map_drop]
  rfl
theorem X_row {xs : List Int} {j : Nat} {Q : D → Prop} (h1 : xs.length ≤ lim) (h2 : j < xs.length) (h : Q (.int (xs.getD j 0))) : W (idxD (tupD xs) (j : Int)) Q :=
  X_tuple (by rw [List.length_map]; exact h1) (by rw [List.getElem?_map, List.getElem?_eq_getElem h2, List.getD_eq_getElem?_getD, List.getElem?_eq_getElem h2]; rfl) h
theorem B_addT {xs ys : List Int} {Q : D → Prop} (h1 : xs.length + ys.length ≤ lim) (h : Q (tupD (xs ++ ys))) : W (binD .Add (tupD xs) (tupD ys)) Q := by
  refine ⟨_, ?_, h⟩
  unfold binD
  dsimp only
  rw [if_pos (by rw [List.length_map, List.length_map]; exact h1), ← List.map_append]
theorem B_addT1 {xs : List Int} {y : Int} {Q : D → Prop} (h1 : xs.length + 1 ≤ lim) (h : Q (tupD (xs ++ [y]))) : W (binD .Add (tupD xs) (.tuple [.int y])) Q := B_addT (ys := [y]) h1 h
theorem B_mulT {n : Nat} {Q : D → Prop} (h1 : 1 ≤ n) (h2 : n ≤ lim) (h : Q (tupD (List.replicate n 0))) : W (binD .Mult (.tuple [.int 0]) (.int n)) Q := by
  refine ⟨_, ?_, h⟩
  unfold binD
  dsimp only
  rw [if_pos ⟨by simp, by simp; exact h2, by omega, by omega⟩]
  unfold rep tupD
  rw [Int.toNat_natCast, List.map_replicate]
  congr 2
  induction n with
  | zero => rfl
  | succ n ih =>
    rw [List.replicate_succ, List.replicate_succ, List.flatten_cons]
    by_cases hn : n = 0
    · subst hn; rfl
    · rw [show (List.replicate n [PyData.int 0]).flatten = List.replicate n (PyData.int 0) by
        clear ih h h1 h2 hn
        induction n with
        | zero => rfl
        | succ n ih => rw [List.replicate_succ, List.replicate_succ, List.flatten_cons, ih]; rfl]
      rfl
theorem C_inD {r : List Int} {rows : List (List Int)} {Q : Bool → Prop} (h : Q (decide (r ∈ rows))) : W (cmpD .In (tupD r) (dictD rows)) Q := by
  refine ⟨_, ?_, h⟩
  unfold dictD cmpD
  dsimp only
  rw [intsD_map, keysI_map]
theorem S_dict {rows : List (List Int)} {Q : List D → Prop} (h1 : rows.length ≤ lim) (h : Q (rows.map tupD)) : W (srcD (dictD rows)) Q := by
  refine ⟨_, ?_, h⟩
  unfold dictD srcD
  dsimp only
  rw [keysI_map]
  exact if_pos h1
theorem revS_dict (kvs : List (D × D)) : revD "sorted" (.dict kvs) = (match keysI kvs with | some ts => if ts.length < 64 ∧ ts.all (fun t => !t.isEmpty) = true then .ok (.list ((sortT ts).reverse.map fun t => .tuple (t.map .int))) else .bad | none => .bad) := rfl
theorem F_revT {rows : List (List Int)} {Q : D → Prop} (h1 : rows.length < 64) (h2 : ∀ r ∈ rows, r ≠ []) (h : Q (.list ((sortT rows).reverse.map tupD))) : W (revD "sorted" (dictD rows)) Q := by
  refine ⟨_, ?_, h⟩
  unfold dictD
  rw [revS_dict, keysI_map]
  exact if_pos ⟨h1, List.all_eq_true.mpr fun r hr => by have := h2 r hr; cases r <;> simp_all⟩
theorem Ty_lt {xs : List Int} {Q : D → Prop} (h1 : xs.length ≤ lim) (h : Q (.list (xs.map .int))) : W (tyD "list" (tupD xs)) Q := ⟨_, if_pos (by rw [List.length_map]; exact h1), h⟩
theorem Ty_tl {xs : List Int} {Q : D → Prop} (h1 : xs.length ≤ lim) (h : Q (tupD xs)) : W (tyD "tuple" (.list (xs.map .int))) Q := ⟨_, if_pos (by rw [List.length_map]; exact h1), h⟩
theorem R_row {r : List Int} {Q : List Int → Prop} (h : Q r) : W (rowI (tupD r)) Q := ⟨_, by unfold rowI tupI; dsimp only; rw [intsD_map], h⟩
theorem O_one {Q : Unit → Prop} (h : Q ()) : W (oneI (.int 1)) Q := ⟨_, rfl, h⟩
end
end Mine

/-! Dvm -/
namespace Mine

/-! the divisor methods, in plain words -/
structure Kd where
  dn : Nat → Int
  dd : Nat → Int
  sq : Bool
/-! the five kinds -/
def kJ : Kd := ⟨fun i => i + 1, fun _ => 1, false⟩
def kW : Kd := ⟨fun i => 2 * i + 1, fun _ => 1, false⟩
def kH : Kd := ⟨fun i => (i + 1) * (i + 2), fun _ => 1, true⟩
def kD : Kd := ⟨fun i => 2 * (i + 1) * (i + 2), fun i => 2 * (i + 1) + 1, false⟩
def Kd.pw (k : Kd) (p : Int) : Int := if k.sq = true then p * p else p
def dvC (k : Kd) (S : Nat) : Int := (List.range S).foldl (fun c i => c * k.dn i) 1
def dvW1 (k : Kd) (S : Nat) (p : Int) (i : Nat) : Int := (k.pw p * k.dd i * dvC k S).fdiv (k.dn i)
def dvWs (k : Kd) (S : Nat) (p : Int) : List Int := (List.range S).map (dvW1 k S p)
def dvW (k : Kd) (S : Nat) (votes : List Int) : List (List Int) := votes.map (dvWs k S)
def dvMin (k : Kd) (S : Nat) (votes r0 : List Int) : Int := (sortI (dvW k S votes).flatten).getD ((dvW k S votes).flatten.length - ((S : Int) - r0.sum).toNat) 0
def dvR1 (k : Kd) (S : Nat) (votes r0 : List Int) : List Int := (List.range votes.length).map fun i => r0.getD i 0 + (((dvW k S votes).getD i []).filter fun w => decide (dvMin k S votes r0 < w)).length
def dvStep (S : Nat) (m : Int) (W : List (List Int)) (i : Nat) (st : List Int × Bool) : List Int × Bool :=
  if st.1.sum = S ∧ m ∈ W.getD i [] then (st.1, true) else
  if st.1.sum < S ∧ m ∈ W.getD i [] then (st.1.set i (st.1.getD i 0 + 1), st.2) else st
def dvLoop (S : Nat) (m : Int) (W : List (List Int)) (r : List Int) : Nat → List Int × Bool
  | 0 => (r, false)
  | j + 1 => dvStep S m W j (dvLoop S m W r j)
def dvF (k : Kd) (S : Nat) (votes r0 : List Int) : List Int × Bool :=
  if r0.sum < S then
    if (dvR1 k S votes r0).sum < S then dvLoop S (dvMin k S votes r0) (dvW k S votes) (dvR1 k S votes r0) votes.length
    else (dvR1 k S votes r0, false)
  else (r0, false)

theorem dvLoop_len {S : Nat} {m : Int} {W : List (List Int)} {r : List Int} : ∀ j, (dvLoop S m W r j).1.length = r.length
  | 0 => rfl
  | j + 1 => by
    have ih := dvLoop_len (S := S) (m := m) (W := W) (r := r) j
    unfold dvLoop dvStep
    split
    · exact ih
    · split
      · simp [ih]
      · exact ih
theorem dvLoop_up {S : Nat} {m : Int} {W : List (List Int)} {r : List Int} {j k : Nat} (h : j ≤ k) (hj : (dvLoop S m W r j).2 = true) : (dvLoop S m W r k).2 = true := by
  induction k with
  | zero => obtain rfl : j = 0 := by omega
            exact hj
  | succ k ih =>
    by_cases hk : j = k + 1
    · subst hk; exact hj
    · have := ih (by omega)
      unfold dvLoop dvStep
      split
      · rfl
      · split <;> exact this
end Mine

/-! Dvc -/
namespace Mine

/-! counting in a sorted list -/
theorem count_sorted {L : List Int} (hs : L.Pairwise (· ≤ ·)) {m : Nat} (h1 : 1 ≤ m) (h2 : m ≤ L.length) :
    (L.filter fun x => decide (L.getD (L.length - m) 0 < x)).length < m ∧ m ≤ (L.filter fun x => decide (L.getD (L.length - m) 0 ≤ x)).length := by
  have hq : L.length - m < L.length := by omega
  generalize hv : L.getD (L.length - m) 0 = v
  have hv' : L[L.length - m] = v := by rw [← hv, List.getD_eq_getElem?_getD, List.getElem?_eq_getElem hq]; rfl
  have e : L = L.take (L.length - m) ++ L.drop (L.length - m) := (List.take_append_drop ..).symm
  have ed : L.drop (L.length - m) = v :: L.drop (L.length - m + 1) := by rw [List.drop_eq_getElem_cons hq, hv']
  have hs' := hs
  rw [e] at hs'
  obtain ⟨s1, s2, s3⟩ := List.pairwise_append.mp hs'
  have low : ∀ x ∈ L.take (L.length - m), x ≤ v := fun x hx => s3 x hx v (by rw [ed]; exact .head _)
  have high : ∀ x ∈ L.drop (L.length - m), v ≤ x := fun x hx => by
    rw [ed] at hx s2
    rcases List.mem_cons.mp hx with rfl | hx
    · exact Int.le_refl _
    · exact (List.pairwise_cons.mp s2).1 x hx
  constructor
  · rw [e, List.filter_append, List.filter_eq_nil_iff.mpr (fun x hx => by have := low x hx; simpa using this), List.nil_append, ed, List.filter_cons, if_neg (by simp)]
    have := List.length_filter_le (fun x => decide (v < x)) (L.drop (L.length - m + 1))
    rw [List.length_drop] at this
    omega
  · have h4 : (L.drop (L.length - m)).filter (fun x => decide (v ≤ x)) = L.drop (L.length - m) := List.filter_eq_self.mpr fun x hx => by simpa using high x hx
    have h3 : ((L.drop (L.length - m)).filter (fun x => decide (v ≤ x))).length = m := by rw [h4, List.length_drop]; omega
    rw [e, List.filter_append, List.length_append, h3]
    omega

/-! a row: the weights of one party -/
theorem count_init {f : Nat → Int} {v : Int} (S : Nat) (hd : ∀ a b, a < b → b < S → f b < f a) : ∃ c, c ≤ S ∧ (((List.range S).map f).filter fun x => decide (v < x)).length = c ∧ (∀ l, l < S → (v < f l ↔ l < c)) := by
  induction S with
  | zero => exact ⟨0, Nat.le_refl _, rfl, fun l h => absurd h (Nat.not_lt_zero _)⟩
  | succ S ih =>
    obtain ⟨c, h1, h2, h3⟩ := ih fun a b hab hb => hd a b hab (by omega)
    rw [List.range_succ, List.map_append, List.filter_append, List.length_append, h2]
    by_cases hv : v < f S
    · have hc : c = S := by
        rcases Nat.lt_or_ge c S with q | q
        · have a1 := hd c S q (by omega)
          have a2 : ¬ v < f c := fun h => Nat.lt_irrefl c ((h3 c q).mp h)
          exact absurd (Int.lt_trans hv a1) a2
        · omega
      refine ⟨S + 1, Nat.le_refl _, ?_, fun l hl => ?_⟩
      · simp [hv, hc]
      · by_cases hlS : l = S
        · subst hlS; simp [hv]
        · have := (h3 l (by omega))
          constructor
          · intro _; omega
          · intro _; exact this.mpr (by omega)
    · refine ⟨c, by omega, ?_, fun l hl => ?_⟩
      · simp [hv]
      · by_cases hlS : l = S
        · subst hlS
          exact ⟨fun q => absurd q hv, fun q => by omega⟩
        · exact h3 l (by omega)
theorem count_eq {f : Nat → Int} {v : Int} (S : Nat) (hd : ∀ a b, a < b → b < S → f b < f a) : (((List.range S).map f).filter fun x => decide (v ≤ x)).length ≤ (((List.range S).map f).filter fun x => decide (v < x)).length + (if v ∈ (List.range S).map f then 1 else 0) := by
  induction S with
  | zero => simp
  | succ S ih =>
    have ih := ih fun a b hab hb => hd a b hab (by omega)
    rw [List.range_succ, List.map_append, List.filter_append, List.length_append, List.filter_append, List.length_append]
    by_cases hm : v ∈ (List.range S).map f
    · rw [if_pos hm] at ih
      rw [if_pos (List.mem_append_left _ hm)]
      obtain ⟨l, hl, e⟩ := List.mem_map.mp hm
      have hlt := hd l S (List.mem_range.mp hl) (by omega)
      have : ¬ v ≤ f S := by omega
      have : ¬ v < f S := by omega
      simp_all
    · rw [if_neg hm] at ih
      by_cases hv : v = f S
      · rw [if_pos (by rw [hv]; simp)]
        simp [← hv]
        omega
      · rw [if_neg (by simp at hm ⊢; exact ⟨hm, fun q => hv q⟩)]
        by_cases hlt : v < f S
        · have : v ≤ f S := by omega
          simp_all
        · have : ¬ v ≤ f S := by omega
          simp_all

/-! weights compared crosswise -/
theorem dvC_succ {k : Kd} {S : Nat} : dvC k (S + 1) = dvC k S * k.dn S := by unfold dvC; rw [List.range_succ, List.foldl_append]; rfl
theorem dvC_dvd {k : Kd} : ∀ {S : Nat}, (∀ i, i < S → 0 < k.dn i) → 0 < dvC k S ∧ ∀ l, l < S → ∃ q, 0 < q ∧ dvC k S = k.dn l * q
  | 0, _ => ⟨(by decide : (0 : Int) < 1), fun l h => absurd h (Nat.not_lt_zero _)⟩
  | S + 1, h => by
    obtain ⟨h1, h2⟩ := dvC_dvd (k := k) (S := S) fun i hi => h i (by omega)
    have h3 := h S (by omega)
    rw [dvC_succ]
    refine ⟨Int.mul_pos h1 h3, fun l hl => ?_⟩
    by_cases hlS : l = S
    · subst hlS; exact ⟨dvC k l, h1, Int.mul_comm ..⟩
    · obtain ⟨q, q1, q2⟩ := h2 l (by omega)
      exact ⟨q * k.dn S, Int.mul_pos q1 h3, by rw [q2, Int.mul_assoc]⟩
theorem dvW1_eq {k : Kd} {S l : Nat} (hdn : ∀ i, i < S → 0 < k.dn i) (hl : l < S) : ∃ q, 0 < q ∧ dvC k S = k.dn l * q ∧ ∀ p, dvW1 k S p l = k.pw p * k.dd l * q := by
  obtain ⟨h1, h2⟩ := dvC_dvd hdn
  obtain ⟨q, q1, q2⟩ := h2 l hl
  refine ⟨q, q1, q2, fun p => ?_⟩
  unfold dvW1
  have hn := hdn l hl
  rw [q2, show k.pw p * k.dd l * (k.dn l * q) = k.pw p * k.dd l * q * k.dn l by ac_rfl]
  exact Int.mul_fdiv_cancel _ (by omega)
/-- the difference of two weights, up to a positive factor -/
def cv (k : Kd) (p : Int) (l : Nat) (p' : Int) (l' : Nat) : Int := k.pw p * k.dd l * k.dn l' - k.pw p' * k.dd l' * k.dn l
theorem cv_sym {k : Kd} {p p' : Int} {l l' : Nat} : cv k p l p' l' = - cv k p' l' p l := by unfold cv; omega
theorem dvW1_cv {k : Kd} {S l l' : Nat} {p p' : Int} (hdn : ∀ i, i < S → 0 < k.dn i) (hl : l < S) (hl' : l' < S) : ∃ q, 0 < q ∧ (dvW1 k S p l - dvW1 k S p' l') * (k.dn l * k.dn l') = cv k p l p' l' * q := by
  obtain ⟨q, q1, q2, q3⟩ := dvW1_eq hdn hl
  obtain ⟨r, r1, r2, r3⟩ := dvW1_eq hdn hl'
  refine ⟨dvC k S, (dvC_dvd hdn).1, ?_⟩
  unfold cv
  rw [q3, r3, Int.sub_mul, Int.sub_mul]
  rw [show k.pw p * k.dd l * q * (k.dn l * k.dn l') = k.pw p * k.dd l * k.dn l' * (k.dn l * q) by ac_rfl, ← q2]
  rw [show k.pw p' * k.dd l' * r * (k.dn l * k.dn l') = k.pw p' * k.dd l' * k.dn l * (k.dn l' * r) by ac_rfl, ← r2]
theorem sign_mul {a b c d : Int} (hb : 0 < b) (hd : 0 < d) (h : a * b = c * d) : (0 < a ↔ 0 < c) ∧ (a = 0 ↔ c = 0) := by
  have p : ∀ {x y : Int}, 0 < y → (0 < x * y ↔ 0 < x) := fun {x y} hy => by
    constructor
    · intro h
      rcases Int.lt_trichotomy x 0 with q | q | q
      · have := Int.mul_neg_of_neg_of_pos q hy; omega
      · rw [q, Int.zero_mul] at h; omega
      · exact q
    · intro h; exact Int.mul_pos h hy
  have z : ∀ {x y : Int}, 0 < y → (x * y = 0 ↔ x = 0) := fun {x y} hy => by
    constructor
    · intro h
      rcases Int.mul_eq_zero.mp h with q | q
      · exact q
      · omega
    · intro h; rw [h, Int.zero_mul]
  exact ⟨by rw [← p hb, h, p hd], by rw [← z hb, h, z hd]⟩
theorem dvW1_sign {k : Kd} {S l l' : Nat} {p p' : Int} (hdn : ∀ i, i < S → 0 < k.dn i) (hl : l < S) (hl' : l' < S) : (dvW1 k S p' l' < dvW1 k S p l ↔ 0 < cv k p l p' l') ∧ (dvW1 k S p l = dvW1 k S p' l' ↔ cv k p l p' l' = 0) := by
  obtain ⟨q, hq, e⟩ := dvW1_cv (p := p) (p' := p') hdn hl hl'
  obtain ⟨h1, h2⟩ := sign_mul (Int.mul_pos (hdn l hl) (hdn l' hl')) hq e
  exact ⟨by rw [← h1]; omega, by rw [← h2]; omega⟩

/-- the divisors of a kind grow -/
structure Kd.Ok (k : Kd) : Prop where
  dn : ∀ i, 0 < k.dn i
  dd : ∀ i, 0 < k.dd i
  dec : ∀ i j, i < j → k.dd j * k.dn i < k.dd i * k.dn j
theorem pw_nn (k : Kd) {p : Int} (h : 0 ≤ p) : 0 ≤ k.pw p := by
  unfold Kd.pw; split
  · exact Int.mul_nonneg h h
  · exact h
theorem pw_pos (k : Kd) {p : Int} (h : 0 < p) : 0 < k.pw p := by
  unfold Kd.pw; split
  · exact Int.mul_pos h h
  · exact h
theorem pw_zero (k : Kd) : k.pw 0 = 0 := by unfold Kd.pw; split <;> rfl
theorem cv_self {k : Kd} (hk : k.Ok) {p : Int} (hp : 0 < p) {i j : Nat} (h : i < j) : 0 < cv k p i p j := by
  unfold cv
  have := Int.mul_lt_mul_of_pos_left (hk.dec i j h) (pw_pos k hp)
  rw [Int.mul_assoc, Int.mul_assoc]
  omega
theorem dvW1_dec {k : Kd} (hk : k.Ok) {S : Nat} {p : Int} (hp : 0 < p) : ∀ a b, a < b → b < S → dvW1 k S p b < dvW1 k S p a := fun a b hab hb =>
  (dvW1_sign (fun i _ => hk.dn i) (by omega) hb).1.mpr (cv_self hk hp hab)
theorem dvW1_pos {k : Kd} (hk : k.Ok) {S : Nat} {p : Int} (hp : 0 < p) {l : Nat} (hl : l < S) : 0 < dvW1 k S p l := by
  obtain ⟨q, q1, q2, q3⟩ := dvW1_eq (k := k) (fun i _ => hk.dn i) hl
  rw [q3]
  exact Int.mul_pos (Int.mul_pos (pw_pos k hp) (hk.dd l)) q1
theorem dvW1_zero {k : Kd} (hk : k.Ok) {S : Nat} {l : Nat} (hl : l < S) : dvW1 k S 0 l = 0 := by
  obtain ⟨q, q1, q2, q3⟩ := dvW1_eq (k := k) (fun i _ => hk.dn i) hl
  rw [q3, pw_zero, Int.zero_mul, Int.zero_mul]

/-! a party's row beside the least weight that is served -/
theorem row_facts {k : Kd} (hk : k.Ok) {S : Nat} {p v : Int} (hp : 0 ≤ p) (hv : 0 < v) : ∃ c, c ≤ S ∧ ((dvWs k S p).filter fun w => decide (v < w)).length = c ∧ (∀ l, l < S → (v < dvW1 k S p l ↔ l < c)) ∧
    ((dvWs k S p).filter fun w => decide (v ≤ w)).length ≤ c + (if v ∈ dvWs k S p then 1 else 0) ∧ (v ∈ dvWs k S p ↔ c < S ∧ dvW1 k S p c = v) := by
  rcases Int.lt_or_eq_of_le hp with hp | hp
  · obtain ⟨c, h1, h2, h3⟩ := count_init (v := v) S (dvW1_dec hk hp)
    refine ⟨c, h1, h2, h3, ?_, ?_⟩
    · have := count_eq (v := v) S (dvW1_dec hk hp)
      rw [h2] at this
      exact this
    · constructor
      · intro hm
        obtain ⟨l, hl, e⟩ := List.mem_map.mp hm
        have hl := List.mem_range.mp hl
        have a1 : ¬ v < dvW1 k S p l := by omega
        have a2 : ¬ l < c := fun q => a1 ((h3 l hl).mpr q)
        rcases Nat.lt_or_ge c l with q | q
        · have := dvW1_dec hk hp c l q hl
          have := (h3 c (by omega)).mp (by omega)
          omega
        · obtain rfl : l = c := by omega
          exact ⟨hl, e⟩
      · rintro ⟨a1, a2⟩
        exact List.mem_map.mpr ⟨c, List.mem_range.mpr a1, a2⟩
  · subst hp
    have z : ∀ x ∈ dvWs k S 0, x = 0 := fun x hx => by
      obtain ⟨l, hl, e⟩ := List.mem_map.mp hx
      rw [← e]; exact dvW1_zero hk (List.mem_range.mp hl)
    have nm : v ∉ dvWs k S 0 := fun h => by have := z v h; omega
    refine ⟨0, Nat.zero_le _, ?_, fun l hl => ?_, ?_, ?_⟩
    · rw [List.filter_eq_nil_iff.mpr fun x hx => ?_]
      · rfl
      · rw [z x hx]; simp; omega
    · rw [dvW1_zero hk hl]; omega
    · rw [List.filter_eq_nil_iff.mpr fun x hx => ?_]
      · simp
      · rw [z x hx]; simp; omega
    · exact ⟨fun h => absurd h nm, fun h => by rw [dvW1_zero hk h.1] at h; omega⟩

/-! the loop that deals the last seats -/
theorem sum_set1 : ∀ {a : List Int} {j : Nat}, j < a.length → (a.set j (a.getD j 0 + 1)).sum = a.sum + 1
  | x :: r, 0, _ => by simp; omega
  | x :: r, j + 1, h => by
    have := sum_set1 (a := r) (j := j) (by simpa using h)
    simp only [List.set_cons_succ, List.sum_cons, List.getD_cons_succ]
    omega
theorem getD_set {a : List Int} {j i : Nat} {v : Int} (hj : j < a.length) : (a.set j v).getD i 0 = if i = j then v else a.getD i 0 := by
  rw [List.getD_eq_getElem?_getD, List.getElem?_set, List.getD_eq_getElem?_getD]
  by_cases h : j = i
  · subst h; simp [hj]
  · simp [h, Ne.symm h]
structure LInv (S : Nat) (m : Int) (W : List (List Int)) (r : List Int) (j : Nat) (a : List Int) (fl : Bool) : Prop where
  len : a.length = r.length
  eq : ∀ i, a.getD i 0 = r.getD i 0 ∨ (i < j ∧ m ∈ W.getD i [] ∧ a.getD i 0 = r.getD i 0 + 1)
  le : a.sum ≤ S
  un : ∀ i, i < j → m ∈ W.getD i [] → a.getD i 0 = r.getD i 0 → fl = true ∧ a.sum = S ∧ ∀ i', a.getD i' 0 = r.getD i' 0 + 1 → i' < i
  fl : fl = true → ∃ i, i < j ∧ m ∈ W.getD i [] ∧ a.getD i 0 = r.getD i 0
  cnt : a.sum < S → a.sum = r.sum + ((List.range j).filter fun i => decide (m ∈ W.getD i [])).length
theorem linv {S : Nat} {m : Int} {W : List (List Int)} {r : List Int} (hr : r.sum ≤ S) : ∀ j, j ≤ r.length → LInv S m W r j (dvLoop S m W r j).1 (dvLoop S m W r j).2
  | 0, _ => ⟨rfl, fun i => .inl rfl, hr, fun i hi => absurd hi (Nat.not_lt_zero _), (fun h => by cases h), fun _ => by show r.sum = r.sum + ((0 : Nat) : Int); omega⟩
  | j + 1, hj => by
    have I := linv (m := m) (W := W) hr j (by omega)
    rw [show dvLoop S m W r (j + 1) = dvStep S m W j (dvLoop S m W r j) from rfl]
    generalize dvLoop S m W r j = st at I ⊢
    obtain ⟨a, fl⟩ := st
    obtain ⟨h1, h2, h3, h4, h5, h6⟩ := I
    dsimp only at h1 h2 h3 h4 h5 h6
    unfold dvStep
    dsimp only
    have hjr : a.getD j 0 = r.getD j 0 := (h2 j).resolve_right fun q => absurd q.1 (Nat.lt_irrefl j)
    have hcnt : ((List.range (j + 1)).filter fun i => decide (m ∈ W.getD i [])).length = ((List.range j).filter fun i => decide (m ∈ W.getD i [])).length + (if m ∈ W.getD j [] then 1 else 0) := by
      rw [List.range_succ, List.filter_append, List.length_append, List.filter_cons]
      split <;> simp_all
    by_cases hA : a.sum = S ∧ m ∈ W.getD j []
    · rw [if_pos hA]
      refine ⟨h1, fun i => (h2 i).imp id fun q => ⟨by omega, q.2⟩, h3, fun i hi hm he => ?_, fun _ => ⟨j, Nat.lt_succ_self j, hA.2, hjr⟩, fun h => absurd h (by show ¬ (a.sum < S); omega)⟩
      refine ⟨rfl, hA.1, fun i' hi' => ?_⟩
      rcases Nat.lt_or_ge i j with q | q
      · exact (h4 i q hm he).2.2 i' hi'
      · obtain rfl : i = j := by omega
        rcases h2 i' with q | q
        · dsimp only at hi'; omega
        · exact q.1
    · rw [if_neg hA]
      by_cases hB : a.sum < S ∧ m ∈ W.getD j []
      · rw [if_pos hB]
        have hfl : fl = false := by
          cases fl with
          | false => rfl
          | true =>
            obtain ⟨i, i1, i2, i3⟩ := h5 rfl
            have := (h4 i i1 i2 i3).2.1
            omega
        have hja : j < a.length := by omega
        have es := sum_set1 hja
        refine ⟨by rw [List.length_set]; exact h1, fun i => ?_, by rw [es]; omega, fun i hi hm he => ?_, (fun h => by rw [hfl] at h; cases h), fun h => ?_⟩
        · rw [getD_set hja]
          by_cases e : i = j
          · subst e; rw [if_pos rfl]; exact .inr ⟨Nat.lt_succ_self i, hB.2, by omega⟩
          · rw [if_neg e]; exact (h2 i).imp id fun q => ⟨by omega, q.2⟩
        · rw [getD_set hja] at he
          by_cases e : i = j
          · subst e; rw [if_pos rfl] at he; omega
          · rw [if_neg e] at he
            have := (h4 i (by omega) hm he).2.1
            omega
        · rw [es] at h ⊢
          have := h6 (by omega)
          rw [hcnt, if_pos hB.2]
          omega
      · rw [if_neg hB]
        have hE : ¬ m ∈ W.getD j [] := fun q => by
          rcases Int.lt_or_eq_of_le h3 with s | s
          · exact hB ⟨s, q⟩
          · exact hA ⟨s, q⟩
        refine ⟨h1, fun i => (h2 i).imp id fun q => ⟨by omega, q.2⟩, h3, fun i hi hm he => ?_, fun h => ?_, fun h => ?_⟩
        · have : i ≠ j := fun e => hE (e ▸ hm)
          exact h4 i (by omega) hm he
        · obtain ⟨i, i1, i2⟩ := h5 h
          exact ⟨i, by omega, i2⟩
        · rw [hcnt, if_neg hE]; exact h6 h

/-! sums over places -/
theorem getD_lt {a : List Int} {i : Nat} (h : i < a.length) : a.getD i 0 = a[i] := by rw [List.getD_eq_getElem?_getD, List.getElem?_eq_getElem h]; rfl
theorem map_getD (a : List Int) : (List.range a.length).map (fun i => a.getD i 0) = a := by
  refine List.ext_getElem (by simp) fun i h1 h2 => ?_
  rw [List.getElem_map, List.getElem_range, getD_lt h2]
theorem sum_add {β : Type} (l : List β) (f g : β → Int) : (l.map fun x => f x + g x).sum = (l.map f).sum + (l.map g).sum := by
  induction l with
  | nil => rfl
  | cons x r ih => simp only [List.map_cons, List.sum_cons, ih]; omega
theorem sum_sub {β : Type} (l : List β) (f g : β → Int) : (l.map fun x => f x - g x).sum = (l.map f).sum - (l.map g).sum := by
  induction l with
  | nil => rfl
  | cons x r ih => simp only [List.map_cons, List.sum_cons, ih]; omega
theorem sum_addN {β : Type} (l : List β) (f g : β → Nat) : (l.map fun x => f x + g x).sum = (l.map f).sum + (l.map g).sum := by
  induction l with
  | nil => rfl
  | cons x r ih => simp only [List.map_cons, List.sum_cons, ih]; omega
theorem sum_castN {β : Type} (l : List β) (f : β → Nat) : (l.map fun x => (f x : Int)).sum = ((l.map f).sum : Nat) := by
  induction l with
  | nil => rfl
  | cons x r ih => simp only [List.map_cons, List.sum_cons, ih]; omega
theorem sum_leN {β : Type} (l : List β) (f g : β → Nat) (h : ∀ x ∈ l, f x ≤ g x) : (l.map f).sum ≤ (l.map g).sum := by
  induction l with
  | nil => exact Nat.le_refl _
  | cons x r ih =>
    have := h x List.mem_cons_self
    have := ih fun y hy => h y (List.mem_cons_of_mem _ hy)
    simp only [List.map_cons, List.sum_cons]; omega
theorem sum_ite {β : Type} (l : List β) (p : β → Bool) : (l.map fun x => if p x = true then 1 else 0).sum = (l.filter p).length := by
  induction l with
  | nil => rfl
  | cons x r ih =>
    simp only [List.map_cons, List.sum_cons, List.filter_cons, ih]
    split <;> simp_all
    omega
theorem one_le_sum : ∀ {t : List Int} {i : Nat}, (∀ x ∈ t, 0 ≤ x) → 0 ≤ t.sum ∧ t.getD i 0 ≤ t.sum
  | [], i, h => by simp
  | x :: r, i, h => by
    have hx := h x List.mem_cons_self
    have ih := fun j => one_le_sum (t := r) (i := j) fun y hy => h y (List.mem_cons_of_mem _ hy)
    rw [List.sum_cons]
    cases i with
    | zero => have := (ih 0).1; simp only [List.getD_cons_zero]; omega
    | succ i => have := ih i; simp only [List.getD_cons_succ]; omega
theorem two_le_sum : ∀ {t : List Int} {i j : Nat}, (∀ x ∈ t, 0 ≤ x) → i ≠ j → t.getD i 0 + t.getD j 0 ≤ t.sum
  | [], i, j, h, hij => by simp
  | x :: r, i, j, h, hij => by
    have hx := h x List.mem_cons_self
    have h' : ∀ y ∈ r, 0 ≤ y := fun y hy => h y (List.mem_cons_of_mem _ hy)
    rw [List.sum_cons]
    cases i with
    | zero =>
      cases j with
      | zero => exact absurd rfl hij
      | succ j => have := (one_le_sum (i := j) h').2; simp only [List.getD_cons_zero, List.getD_cons_succ]; omega
    | succ i =>
      cases j with
      | zero => have := (one_le_sum (i := i) h').2; simp only [List.getD_cons_zero, List.getD_cons_succ]; omega
      | succ j => have := two_le_sum (i := i) (j := j) h' (by omega); simp only [List.getD_cons_succ]; omega
theorem diff_sum {a r : List Int} (hl : a.length = r.length) : ((List.range a.length).map fun i => a.getD i 0 - r.getD i 0).sum = a.sum - r.sum := by
  rw [sum_sub, map_getD, hl, map_getD]
theorem two_diff {a r : List Int} (hl : a.length = r.length) (hge : ∀ i, i < a.length → r.getD i 0 ≤ a.getD i 0) {i j : Nat} (hi : i < a.length) (hj : j < a.length) (hij : i ≠ j) : (a.getD i 0 - r.getD i 0) + (a.getD j 0 - r.getD j 0) ≤ a.sum - r.sum := by
  have h := two_le_sum (t := (List.range a.length).map fun i => a.getD i 0 - r.getD i 0) (i := i) (j := j) (fun x hx => by
    obtain ⟨l, hl, rfl⟩ := List.mem_map.mp hx
    have := hge l (List.mem_range.mp hl); omega) hij
  rw [diff_sum hl] at h
  have e : ∀ i, i < a.length → ((List.range a.length).map fun i => a.getD i 0 - r.getD i 0).getD i 0 = a.getD i 0 - r.getD i 0 := fun i hi => by
    rw [List.getD_eq_getElem?_getD, List.getElem?_map, List.getElem?_range hi]; rfl
  rw [e i hi, e j hj] at h
  exact h

/-! what a divisor method gives -/
def bS (r0 a : List Int) (i : Nat) : Nat := (a.getD i 0 - r0.getD i 0).toNat
def cvA (k : Kd) (votes r0 a : List Int) (i j : Nat) : Int := cv k (votes.getD i 0) (bS r0 a i - 1) (votes.getD j 0) (bS r0 a j)
structure DvC (k : Kd) (votes r0 : List Int) (S : Nat) (a : List Int) : Prop where
  len : a.length = votes.length
  ge : ∀ i, i < votes.length → r0.getD i 0 ≤ a.getD i 0
  sum : a.sum = S
  cmp : ∀ i j, i < votes.length → j < votes.length → i ≠ j → r0.getD i 0 < a.getD i 0 → 0 < cvA k votes r0 a i j ∨ (cvA k votes r0 a i j = 0 ∧ i < j)
/-- two seats weigh the same -/
def DvT (k : Kd) (votes r0 a : List Int) : Prop := ∃ i j, i < votes.length ∧ j < votes.length ∧ i ≠ j ∧ r0.getD i 0 < a.getD i 0 ∧ cvA k votes r0 a i j = 0

theorem flat_count {k : Kd} {S : Nat} {votes : List Int} (p : Int → Bool) : ((dvW k S votes).flatten.filter p).length = ((List.range votes.length).map fun i => ((dvWs k S (votes.getD i 0)).filter p).length).sum := by
  have e : dvW k S votes = (List.range votes.length).map fun i => dvWs k S (votes.getD i 0) := by
    unfold dvW
    have h := congrArg (List.map (dvWs k S)) (map_getD votes)
    rw [List.map_map] at h
    exact h.symm
  rw [e, List.filter_flatten, List.length_flatten, List.map_map, List.map_map]
  rfl
theorem dvW_get {k : Kd} {S : Nat} {votes : List Int} {i : Nat} (hi : i < votes.length) : (dvW k S votes).getD i [] = dvWs k S (votes.getD i 0) := by
  unfold dvW
  rw [List.getD_eq_getElem?_getD, List.getElem?_map, List.getElem?_eq_getElem hi, getD_lt hi]; rfl

set_option maxHeartbeats 1000000 in
theorem dv_char {k : Kd} (hk : k.Ok) {S : Nat} {votes r0 : List Int} (hv : ∀ v ∈ votes, 0 ≤ v) (hl0 : r0.length = votes.length) (h0 : r0.sum ≤ S) (h0n : ∀ x ∈ r0, 0 ≤ x) (hpos : r0.sum < S → ∃ i, i < votes.length ∧ 0 < votes.getD i 0) :
    DvC k votes r0 S (dvF k S votes r0).1 ∧ ((dvF k S votes r0).2 = true ↔ DvT k votes r0 (dvF k S votes r0).1) := by
  by_cases hS : r0.sum < S
  case neg =>
    have e : dvF k S votes r0 = (r0, false) := by unfold dvF; rw [if_neg hS]
    rw [e]
    refine ⟨⟨hl0, fun i _ => Int.le_refl _, by dsimp only; omega, fun i j _ _ _ h => absurd h (Int.lt_irrefl _)⟩, (fun h => by cases h), fun ⟨i, j, _, _, _, h, _⟩ => absurd h (Int.lt_irrefl _)⟩
  obtain ⟨ip, hip, hpp⟩ := hpos hS
  obtain ⟨m, hm⟩ : ∃ m : Nat, (S : Int) - r0.sum = m := ⟨((S : Int) - r0.sum).toNat, by omega⟩
  have hr0 := (one_le_sum (i := 0) h0n).1
  have hmS : m ≤ S := by omega
  have hlen : ∀ i, (dvWs k S (votes.getD i 0)).length = S := fun i => by simp [dvWs]
  have hfl : (dvW k S votes).flatten.length = votes.length * S := by
    have := flat_count (k := k) (S := S) (votes := votes) fun _ => true
    rw [List.filter_eq_self.mpr fun _ _ => rfl] at this
    rw [this, show (fun i => ((dvWs k S (votes.getD i 0)).filter fun _ => true).length) = fun _ => S from funext fun i => by rw [List.filter_eq_self.mpr fun _ _ => rfl, hlen]]
    rw [List.map_const', List.length_range, List.sum_replicate_nat]
  have hSl : S ≤ votes.length * S := Nat.le_mul_of_pos_left S (by omega)
  have hml : m ≤ (sortI (dvW k S votes).flatten).length := by rw [(sortI_perm _).length_eq, hfl]; omega
  obtain ⟨cg, cl⟩ := count_sorted (sortI_sorted (dvW k S votes).flatten) (show 1 ≤ m by omega) hml
  have hmin : (sortI (dvW k S votes).flatten).getD ((sortI (dvW k S votes).flatten).length - m) 0 = dvMin k S votes r0 := by
    unfold dvMin; rw [(sortI_perm _).length_eq, hm]; rfl
  rw [hmin] at cg cl
  rw [((sortI_perm (dvW k S votes).flatten).filter _).length_eq, flat_count] at cg cl
  obtain ⟨mw, hmw⟩ : ∃ mw, mw = dvMin k S votes r0 := ⟨_, rfl⟩
  rw [← hmw] at cg cl
  -- the least weight served is over nought
  have hmw0 : 0 < mw := by
    refine Classical.byContradiction fun hn => ?_
    have h1 : ((dvWs k S (votes.getD ip 0)).filter fun w => decide (mw < w)).length = S := by
      rw [List.filter_eq_self.mpr fun w hw => ?_, hlen]
      obtain ⟨l, hl, rfl⟩ := List.mem_map.mp hw
      have := dvW1_pos hk hpp (List.mem_range.mp hl)
      rw [decide_eq_true_eq]; omega
    have h2 : ((dvWs k S (votes.getD ip 0)).filter fun w => decide (mw < w)).length ≤ ((List.range votes.length).map fun i => ((dvWs k S (votes.getD i 0)).filter fun w => decide (mw < w)).length).sum := by
      have := sum_leN (List.range votes.length) (fun i => if i = ip then ((dvWs k S (votes.getD ip 0)).filter fun w => decide (mw < w)).length else 0) (fun i => ((dvWs k S (votes.getD i 0)).filter fun w => decide (mw < w)).length) (fun i hi => by
        split
        · rename_i e; rw [e]; exact Nat.le_refl _
        · exact Nat.zero_le _)
      refine Nat.le_trans ?_ this
      have hmem : ip ∈ List.range votes.length := List.mem_range.mpr hip
      generalize List.range votes.length = l at hmem
      induction l with
      | nil => cases hmem
      | cons x r ih =>
        rw [List.map_cons, List.sum_cons]
        rcases List.mem_cons.mp hmem with e | e
        · subst e; rw [if_pos rfl]; omega
        · have := ih e; omega
    omega
  have hvn : ∀ i, 0 ≤ votes.getD i 0 := fun i => by
    by_cases hi : i < votes.length
    · rw [getD_lt hi]; exact hv _ (List.getElem_mem hi)
    · rw [List.getD_eq_getElem?_getD, List.getElem?_eq_none (by omega)]; exact Int.le_refl 0
  obtain ⟨c, hc⟩ : ∃ c : Nat → Nat, ∀ i, c i = ((dvWs k S (votes.getD i 0)).filter fun w => decide (mw < w)).length := ⟨_, fun _ => rfl⟩
  have F : ∀ i, c i ≤ S ∧ (∀ l, l < S → (mw < dvW1 k S (votes.getD i 0) l ↔ l < c i)) ∧ ((dvWs k S (votes.getD i 0)).filter fun w => decide (mw ≤ w)).length ≤ c i + (if mw ∈ dvWs k S (votes.getD i 0) then 1 else 0) ∧ (mw ∈ dvWs k S (votes.getD i 0) ↔ c i < S ∧ dvW1 k S (votes.getD i 0) (c i) = mw) := fun i => by
    obtain ⟨c', h1, h2, h3, h4, h5⟩ := row_facts hk (S := S) (hvn i) hmw0
    have e : c i = c' := by rw [hc, h2]
    rw [e]; exact ⟨h1, h3, h4, h5⟩
  simp only [← hc] at cg
  replace cg : ((List.range votes.length).map c).sum < m := cg
  have cl2 : m ≤ ((List.range votes.length).map c).sum + ((List.range votes.length).filter fun i => decide (mw ∈ dvWs k S (votes.getD i 0))).length := by
    refine Nat.le_trans cl ?_
    rw [← sum_ite, ← sum_addN]
    refine sum_leN _ _ _ fun i _ => ?_
    have := (F i).2.2.1
    simpa using this
  have hR : dvR1 k S votes r0 = (List.range votes.length).map fun i => r0.getD i 0 + (c i : Int) := by
    unfold dvR1
    refine List.map_congr_left fun i hi => ?_
    rw [dvW_get (List.mem_range.mp hi), ← hmw, hc]
  have hRl : (dvR1 k S votes r0).length = votes.length := by simp [dvR1]
  have hRg : ∀ i, i < votes.length → (dvR1 k S votes r0).getD i 0 = r0.getD i 0 + (c i : Int) := fun i hi => by
    rw [hR, List.getD_eq_getElem?_getD, List.getElem?_map, List.getElem?_range hi]; rfl
  have hRs : (dvR1 k S votes r0).sum = r0.sum + (((List.range votes.length).map c).sum : Nat) := by
    rw [hR, sum_add, sum_castN, ← hl0, map_getD]
  have hR1 : (dvR1 k S votes r0).sum < S := by omega
  have e : dvF k S votes r0 = dvLoop S mw (dvW k S votes) (dvR1 k S votes r0) votes.length := by unfold dvF; rw [if_pos hS, if_pos hR1, hmw]
  have I := linv (m := mw) (W := dvW k S votes) (Int.le_of_lt hR1) votes.length (by omega)
  rw [← e] at I
  generalize dvF k S votes r0 = st at I
  obtain ⟨a, fl⟩ := st
  obtain ⟨i1, i2, i3, i4, i5, i6⟩ := I
  dsimp only at i1 i2 i3 i4 i5 i6 ⊢
  rw [hRl] at i1
  have hWE : ∀ i, i < votes.length → (mw ∈ (dvW k S votes).getD i [] ↔ c i < S ∧ dvW1 k S (votes.getD i 0) (c i) = mw) := fun i hi => by rw [dvW_get hi]; exact (F i).2.2.2
  have hsum : a.sum = S := by
    rcases Int.lt_or_eq_of_le i3 with q | q
    · have h1 := i6 q
      have h2 : ((List.range votes.length).filter fun i => decide (mw ∈ (dvW k S votes).getD i [])).length = ((List.range votes.length).filter fun i => decide (mw ∈ dvWs k S (votes.getD i 0))).length := by
        congr 1
        refine List.filter_congr fun i hi => ?_
        rw [dvW_get (List.mem_range.mp hi)]
      rw [h2, hRs] at h1
      omega
    · exact q
  -- each party's last seat and its next one
  have B : ∀ i, i < votes.length → (a.getD i 0 = r0.getD i 0 + (c i : Int) ∧ bS r0 a i = c i) ∨ (c i < S ∧ dvW1 k S (votes.getD i 0) (c i) = mw ∧ a.getD i 0 = r0.getD i 0 + (c i : Int) + 1 ∧ bS r0 a i = c i + 1) := fun i hi => by
    have hg := hRg i hi
    rcases i2 i with q | ⟨q1, q2, q3⟩
    · exact .inl ⟨by omega, by unfold bS; omega⟩
    · obtain ⟨w1, w2⟩ := (hWE i hi).mp q2
      exact .inr ⟨w1, w2, by omega, by unfold bS; omega⟩
  have ge : ∀ i, i < votes.length → r0.getD i 0 ≤ a.getD i 0 := fun i hi => by rcases B i hi with q | q <;> omega
  have small : ∀ i j, i < votes.length → j < votes.length → i ≠ j → r0.getD i 0 < a.getD i 0 → bS r0 a j < S ∧ bS r0 a i - 1 < S := fun i j hi hj hij h => by
    have := two_diff (a := a) (r := r0) (by omega) (fun l hl => ge l (by omega)) (i := i) (j := j) (by omega) (by omega) hij
    have := ge j hj
    unfold bS; omega
  have last : ∀ i, i < votes.length → r0.getD i 0 < a.getD i 0 → bS r0 a i - 1 < S → (mw < dvW1 k S (votes.getD i 0) (bS r0 a i - 1) ∧ a.getD i 0 = r0.getD i 0 + (c i : Int)) ∨ (dvW1 k S (votes.getD i 0) (bS r0 a i - 1) = mw ∧ a.getD i 0 = r0.getD i 0 + (c i : Int) + 1) := fun i hi h hs => by
    rcases B i hi with ⟨q1, q2⟩ | ⟨q1, q2, q3, q4⟩
    · exact .inl ⟨((F i).2.1 _ hs).mpr (by omega), q1⟩
    · rw [q4, Nat.add_sub_cancel]; exact .inr ⟨q2, q3⟩
  have next : ∀ j, j < votes.length → bS r0 a j < S → dvW1 k S (votes.getD j 0) (bS r0 a j) < mw ∨ (dvW1 k S (votes.getD j 0) (bS r0 a j) = mw ∧ mw ∈ (dvW k S votes).getD j [] ∧ a.getD j 0 = (dvR1 k S votes r0).getD j 0) := fun j hj hs => by
    rcases B j hj with ⟨q1, q2⟩ | ⟨q1, q2, q3, q4⟩
    · have h1 : ¬ mw < dvW1 k S (votes.getD j 0) (bS r0 a j) := fun q => by have := ((F j).2.1 _ hs).mp q; omega
      by_cases h2 : dvW1 k S (votes.getD j 0) (bS r0 a j) = mw
      · exact .inr ⟨h2, (hWE j hj).mpr ⟨by omega, by rw [← q2]; exact h2⟩, by rw [hRg j hj]; exact q1⟩
      · exact .inl (by omega)
    · have hp : 0 < votes.getD j 0 := by
        rcases Int.lt_or_eq_of_le (hvn j) with q | q
        · exact q
        · rw [← q, dvW1_zero hk q1] at q2; omega
      have := dvW1_dec hk hp (c j) (bS r0 a j) (by omega) hs
      exact .inl (by omega)
  have sg : ∀ i j, i < votes.length → j < votes.length → i ≠ j → r0.getD i 0 < a.getD i 0 → _ := fun i j hi hj hij h =>
    dvW1_sign (k := k) (S := S) (l := bS r0 a i - 1) (l' := bS r0 a j) (p := votes.getD i 0) (p' := votes.getD j 0) (fun l _ => hk.dn l) (small i j hi hj hij h).2 (small i j hi hj hij h).1
  refine ⟨⟨i1, ge, hsum, fun i j hi hj hij h => ?_⟩, fun hf => ?_, fun ⟨i, j, hi, hj, hij, h, hz⟩ => ?_⟩
  · obtain ⟨s1, s2⟩ := small i j hi hj hij h
    obtain ⟨g1, g2⟩ := sg i j hi hj hij h
    have hn := next j hj s1
    rcases last i hi h s2 with ⟨l1, l2⟩ | ⟨l1, l2⟩
    · left
      refine g1.mp ?_
      rcases hn with q | q <;> omega
    · rcases hn with q | ⟨q1, q2, q3⟩
      · exact .inl (g1.mp (by omega))
      · right
        refine ⟨g2.mp (by omega), ?_⟩
        exact (i4 j hj q2 q3).2.2 i (by rw [hRg i hi]; exact l2)
  · obtain ⟨j, hj, j1, j2⟩ := i5 hf
    have hex : ∃ i, i < votes.length ∧ a.getD i 0 = (dvR1 k S votes r0).getD i 0 + 1 := by
      refine Classical.byContradiction fun hn => ?_
      have : a = dvR1 k S votes r0 := by
        rw [← map_getD a, ← map_getD (dvR1 k S votes r0), i1, hRl]
        refine List.map_congr_left fun i hi => ?_
        rcases i2 i with q | q
        · exact q
        · exact absurd ⟨i, List.mem_range.mp hi, q.2.2⟩ hn
      rw [this] at hsum; omega
    obtain ⟨i, hi, hs⟩ := hex
    have hij : i ≠ j := fun q => by subst q; omega
    have hg := hRg i hi
    have h : r0.getD i 0 < a.getD i 0 := by omega
    obtain ⟨s1, s2⟩ := small i j hi hj hij h
    refine ⟨i, j, hi, hj, hij, h, (sg i j hi hj hij h).2.mp ?_⟩
    obtain ⟨w1, w2⟩ := (hWE j hj).mp j1
    have hgj := hRg j hj
    have bj : bS r0 a j = c j := by unfold bS; omega
    rw [bj, w2]
    rcases last i hi h s2 with ⟨l1, l2⟩ | ⟨l1, l2⟩
    · omega
    · exact l1
  · obtain ⟨s1, s2⟩ := small i j hi hj hij h
    have heq := (sg i j hi hj hij h).2.mpr hz
    rcases next j hj s1 with q | ⟨q1, q2, q3⟩
    · rcases last i hi h s2 with ⟨l1, l2⟩ | ⟨l1, l2⟩ <;> omega
    · exact (i4 j hj q2 q3).1
end Mine

/-! Dvu -/
namespace Mine

/-! there is one such apportionment -/
theorem cv_trans {k : Kd} (hk : k.Ok) {p p' p'' : Int} {l l' l'' : Nat} (h1 : 0 ≤ cv k p l p' l') (h2 : 0 ≤ cv k p' l' p'' l'') : 0 ≤ cv k p l p'' l'' := by
  have e : cv k p l p'' l'' * k.dn l' = cv k p l p' l' * k.dn l'' + cv k p' l' p'' l'' * k.dn l := by
    unfold cv
    rw [Int.sub_mul, Int.sub_mul, Int.sub_mul]
    rw [show k.pw p * k.dd l * k.dn l'' * k.dn l' = k.pw p * k.dd l * k.dn l' * k.dn l'' by ac_rfl]
    rw [show k.pw p'' * k.dd l'' * k.dn l * k.dn l' = k.pw p'' * k.dd l'' * k.dn l' * k.dn l by ac_rfl]
    rw [show k.pw p' * k.dd l' * k.dn l'' * k.dn l = k.pw p' * k.dd l' * k.dn l * k.dn l'' by ac_rfl]
    omega
  have := Int.add_nonneg (Int.mul_nonneg h1 (Int.le_of_lt (hk.dn l''))) (Int.mul_nonneg h2 (Int.le_of_lt (hk.dn l)))
  rw [← e] at this
  exact Int.nonneg_of_mul_nonneg_left this (hk.dn l')
theorem cv_mono {k : Kd} (hk : k.Ok) {p : Int} (hp : 0 ≤ p) {i j : Nat} (h : i ≤ j) : 0 ≤ cv k p i p j := by
  rcases Nat.lt_or_eq_of_le h with h | h
  · rcases Int.lt_or_eq_of_le hp with q | q
    · exact Int.le_of_lt (cv_self hk q h)
    · subst q; unfold cv; rw [pw_zero]; omega
  · subst h; unfold cv; omega
/-- as DvC, ties aside -/
structure DvQ (k : Kd) (votes r0 : List Int) (S : Nat) (a : List Int) : Prop where
  len : a.length = votes.length
  ge : ∀ i, i < votes.length → r0.getD i 0 ≤ a.getD i 0
  sum : a.sum = S
  cmp : ∀ i j, i < votes.length → j < votes.length → i ≠ j → r0.getD i 0 < a.getD i 0 → 0 ≤ cvA k votes r0 a i j
theorem DvC.q {k : Kd} {votes r0 a : List Int} {S : Nat} (h : DvC k votes r0 S a) : DvQ k votes r0 S a :=
  ⟨h.len, h.ge, h.sum, fun i j hi hj hij hr => by rcases h.cmp i j hi hj hij hr with q | q <;> omega⟩

theorem ex_more {a a' : List Int} (hl : a.length = a'.length) (hs : a.sum = a'.sum) (hne : a ≠ a') : ∃ i, i < a.length ∧ a'.getD i 0 < a.getD i 0 := by
  refine Classical.byContradiction fun hn => hne ?_
  have hle : ∀ i, i < a.length → 0 ≤ a'.getD i 0 - a.getD i 0 := fun i hi => by
    have : ¬ a'.getD i 0 < a.getD i 0 := fun q => hn ⟨i, hi, q⟩
    omega
  rw [← map_getD a, ← map_getD a', ← hl]
  refine List.map_congr_left fun i hi => ?_
  have hi := List.mem_range.mp hi
  have h1 := (one_le_sum (t := (List.range a'.length).map fun i => a'.getD i 0 - a.getD i 0) (i := i) fun x hx => by
    obtain ⟨l, hl2, rfl⟩ := List.mem_map.mp hx
    exact hle l (by have := List.mem_range.mp hl2; omega)).2
  rw [diff_sum (by omega)] at h1
  have e : ((List.range a'.length).map fun i => a'.getD i 0 - a.getD i 0).getD i 0 = a'.getD i 0 - a.getD i 0 := by
    rw [List.getD_eq_getElem?_getD, List.getElem?_map, List.getElem?_range (by omega)]; rfl
  rw [e] at h1
  have := hle i hi
  omega

theorem two_q {k : Kd} (hk : k.Ok) {votes r0 a a' : List Int} {S : Nat} (hv : ∀ v ∈ votes, 0 ≤ v) (A : DvQ k votes r0 S a) (A' : DvQ k votes r0 S a') (hne : a ≠ a') :
    ∃ i j, i < votes.length ∧ j < votes.length ∧ i ≠ j ∧ r0.getD i 0 < a.getD i 0 ∧ r0.getD j 0 < a'.getD j 0 ∧ cvA k votes r0 a i j = 0 ∧ cvA k votes r0 a' j i = 0 := by
  obtain ⟨i, hi, h1⟩ := ex_more (a := a) (a' := a') (by rw [A.len, A'.len]) (by rw [A.sum, A'.sum]) hne
  obtain ⟨j, hj, h2⟩ := ex_more (a := a') (a' := a) (by rw [A.len, A'.len]) (by rw [A.sum, A'.sum]) (Ne.symm hne)
  rw [A.len] at hi
  rw [A'.len] at hj
  have hvn : ∀ i, i < votes.length → 0 ≤ votes.getD i 0 := fun i hi => by rw [getD_lt hi]; exact hv _ (List.getElem_mem hi)
  have hij : i ≠ j := fun e => by subst e; omega
  have g1 := A.ge i hi
  have g2 := A.ge j hj
  have g3 := A'.ge i hi
  have g4 := A'.ge j hj
  have c1 := A.cmp i j hi hj hij (by omega)
  have c2 := A'.cmp j i hj hi (Ne.symm hij) (by omega)
  have m1 : 0 ≤ cv k (votes.getD j 0) (bS r0 a j) (votes.getD j 0) (bS r0 a' j - 1) := cv_mono hk (hvn j hj) (by unfold bS; omega)
  have m2 : 0 ≤ cv k (votes.getD i 0) (bS r0 a' i) (votes.getD i 0) (bS r0 a i - 1) := cv_mono hk (hvn i hi) (by unfold bS; omega)
  unfold cvA at *
  have t1 := cv_trans hk m1 (cv_trans hk c2 m2)
  have t2 := cv_trans hk m2 (cv_trans hk c1 m1)
  rw [cv_sym] at t1
  rw [cv_sym] at t2
  exact ⟨i, j, hi, hj, hij, by omega, by omega, by omega, by omega⟩
theorem dvC_uniq {k : Kd} (hk : k.Ok) {votes r0 a a' : List Int} {S : Nat} (hv : ∀ v ∈ votes, 0 ≤ v) (A : DvC k votes r0 S a) (A' : DvC k votes r0 S a') : a = a' := by
  refine Classical.byContradiction fun hne => ?_
  obtain ⟨i, j, hi, hj, hij, r1, r2, z1, z2⟩ := two_q hk hv A.q A'.q hne
  have q1 := (A.cmp i j hi hj hij r1).resolve_left (by omega)
  have q2 := (A'.cmp j i hj hi (Ne.symm hij) r2).resolve_left (by omega)
  omega

theorem kJ_ok : kJ.Ok := ⟨fun i => by show (0 : Int) < i + 1; omega, fun i => by show (0 : Int) < 1; decide, fun i j h => by show (1 : Int) * (i + 1) < 1 * (j + 1); omega⟩
theorem kW_ok : kW.Ok := ⟨fun i => by show (0 : Int) < 2 * i + 1; omega, fun i => by show (0 : Int) < 1; decide, fun i j h => by show (1 : Int) * (2 * i + 1) < 1 * (2 * j + 1); omega⟩
end Mine

/-! M01s -/
namespace Mine
/-! the shares -/
def ext1 (t : Int) (row : List Int) : List (List Int) := (downs (t - row.sum)).map fun m => row ++ [m]
def rowsG (t : Int) : Nat → List (List Int)
  | 0 => [[]]
  | k + 1 => (rowsG t k).flatMap (ext1 t)
def sharesF (t : Int) (p : Nat) : List (List Int) := (rowsG t (p - 1)).map fun row => row ++ [t - row.sum]

theorem downs_mem {a m : Int} : m ∈ downs a ↔ 0 ≤ m ∧ m ≤ a := by
  unfold downs
  rw [List.mem_map]
  constructor
  · rintro ⟨i, hi, rfl⟩
    have := List.mem_range.mp hi
    omega
  · rintro ⟨h1, h2⟩
    exact ⟨(a - m).toNat, List.mem_range.mpr (by omega), by omega⟩
theorem rowsG_mem {t : Int} (ht : 0 ≤ t) : ∀ {k : Nat} {row : List Int}, row ∈ rowsG t k → row.length = k ∧ (∀ x ∈ row, 0 ≤ x) ∧ 0 ≤ row.sum ∧ row.sum ≤ t
  | 0, row, h => by
    have : row = [] := by simpa [rowsG] using h
    subst this
    exact ⟨rfl, by simp, by simp, by simpa using ht⟩
  | k + 1, row, h => by
    obtain ⟨r, hr, h⟩ := List.mem_flatMap.mp h
    obtain ⟨m, hm, rfl⟩ := List.mem_map.mp h
    obtain ⟨h1, h2, h3, h4⟩ := rowsG_mem ht hr
    have hm := downs_mem.mp hm
    refine ⟨by simp [h1], fun x hx => ?_, ?_, ?_⟩
    · rcases List.mem_append.mp hx with hx | hx
      · exact h2 x hx
      · have : x = m := by simpa using hx
        omega
    · simp; omega
    · simp; omega
theorem ext1_len {t : Int} {row : List Int} (h : 0 ≤ row.sum) (ht : 0 ≤ t) : (ext1 t row).length ≤ t.toNat + 1 := by
  unfold ext1 downs
  rw [List.length_map, List.length_map, List.length_range]; omega
theorem flat_lenE {t : Int} (ht : 0 ≤ t) : ∀ {l : List (List Int)}, (∀ r ∈ l, 0 ≤ r.sum) → (l.flatMap (ext1 t)).length ≤ l.length * (t.toNat + 1)
  | [], _ => by simp
  | r :: l, h => by
    rw [List.flatMap_cons, List.length_append, List.length_cons, Nat.succ_mul]
    have := ext1_len (h r List.mem_cons_self) ht
    have := flat_lenE ht (l := l) fun x hx => h x (List.mem_cons_of_mem _ hx)
    omega
theorem rowsG_len {t : Int} (ht : 0 ≤ t) : ∀ k, (rowsG t k).length ≤ (t.toNat + 1) ^ k
  | 0 => by simp [rowsG]
  | k + 1 => by
    have h1 := rowsG_len ht k
    have h2 := flat_lenE ht (l := rowsG t k) fun r hr => (rowsG_mem ht hr).2.2.1
    show ((rowsG t k).flatMap (ext1 t)).length ≤ _
    rw [Nat.pow_succ]
    exact Nat.le_trans h2 (Nat.mul_le_mul_right _ h1)
theorem pow_le {b k p : Nat} (h : k ≤ p) : (b + 1) ^ k ≤ (b + 1) ^ p := Nat.pow_le_pow_right (by omega) h

end Mine

/-! M01a -/
namespace Mine
/-! the lottery: what _law_draws and _law_weight tell -/
def drS (x back : Int) : Nat → Int × Int → Int × Int
  | 0, st => st
  | k + 1, st => (((drS x back k st).1 * ((drS x back k st).2 + 1)).fdiv (k + 1) * (x + back * k), (drS x back k st).2 + 1)
def drL (urn tally : List Int) (back : Int) : Nat → Int × Int
  | 0 => (1, 0)
  | i + 1 => drS (urn.getD i 0) back (tally.getD i 0).toNat (drL urn tally back i)
def drawsF (urn tally : List Int) (back : Int) : Int := (drL urn tally back urn.length).1
def weightF (kind : Int) (votes a : List Int) (back : Int) : Int × Int :=
  if kind = 0 then (drawsF (votes.map fun v => v + back) a back, 1) else
  if kind = 3 then (drawsF votes (a.map fun x => 2 * x) 0, drawsF votes a 0) else
  if kind = 1 then (drawsF votes (a.map fun x => x - 1) 0, 1) else
  if kind = 2 then (drawsF votes a 0 * drawsF votes (a.map fun x => x - 1) 0, 1) else
  (drawsF votes a 0 * drawsF votes a 0 * drawsF votes (a.map fun x => x - 1) 0, drawsF votes (a.map fun x => 2 * x) 0)
end Mine

/-! M01b -/
namespace Mine

/-! Pascal's numbers -/
def ch : Nat → Nat → Nat
  | _, 0 => 1
  | 0, _ + 1 => 0
  | n + 1, k + 1 => ch n k + ch n (k + 1)
theorem ch_zero (n : Nat) : ch n 0 = 1 := by cases n <;> rfl
theorem ch_absorb : ∀ n k, (k + 1) * ch (n + 1) (k + 1) = (n + 1) * ch n k
  | 0, 0 => rfl
  | 0, k + 1 => by show (k + 1 + 1) * (ch 0 (k + 1) + ch 0 (k + 2)) = (0 + 1) * ch 0 (k + 1); simp [ch]
  | n + 1, 0 => by
    have ih := ch_absorb n 0
    show (0 + 1) * (ch (n + 1) 0 + ch (n + 1) (0 + 1)) = (n + 1 + 1) * ch (n + 1) 0
    rw [ch_zero] at ih ⊢
    omega
  | n + 1, k + 1 => by
    have i1 := ch_absorb n (k + 1)
    have i2 := ch_absorb n k
    show (k + 1 + 1) * (ch (n + 1) (k + 1) + ch (n + 1) (k + 2)) = (n + 1 + 1) * ch (n + 1) (k + 1)
    have e : ch (n + 1) (k + 1) = ch n k + ch n (k + 1) := rfl
    have e2 : (k + 1 + 1) * ch (n + 1) (k + 1) = (k + 1) * ch (n + 1) (k + 1) + ch (n + 1) (k + 1) := Nat.succ_mul ..
    rw [Nat.mul_add, i1, e2, i2, e, ← Nat.add_assoc]
    have e3 : (n + 1 + 1) * (ch n k + ch n (k + 1)) = (n + 1) * ch n k + (n + 1) * ch n (k + 1) + (ch n k + ch n (k + 1)) := by rw [Nat.succ_mul, Nat.mul_add]
    rw [e3]; omega

/-- what one party's draws give -/
def prodB (x back : Int) : Nat → Int
  | 0 => 1
  | k + 1 => prodB x back k * (x + back * k)
theorem drS_eq {x back w : Int} {D : Nat} : ∀ k, drS x back k (w, (D : Int)) = (w * (ch (D + k) k : Int) * prodB x back k, ((D + k : Nat) : Int))
  | 0 => by unfold drS prodB; rw [ch_zero]; simp
  | k + 1 => by
    have ih := drS_eq (x := x) (back := back) (w := w) (D := D) k
    unfold drS
    rw [ih]
    dsimp only
    have h := ch_absorb (D + k) k
    have h' : ((k : Int) + 1) * (ch (D + (k + 1)) (k + 1) : Int) = ((D + k : Nat) + 1) * (ch (D + k) k : Int) := by
      exact_mod_cast h
    have e : w * (ch (D + k) k : Int) * prodB x back k * (((D + k : Nat) : Int) + 1) = (w * (ch (D + (k + 1)) (k + 1) : Int) * prodB x back k) * ((k : Int) + 1) := by
      rw [show w * (ch (D + k) k : Int) * prodB x back k * (((D + k : Nat) : Int) + 1) = w * prodB x back k * ((((D + k : Nat) : Int) + 1) * (ch (D + k) k : Int)) by ac_rfl, ← h']
      ac_rfl
    rw [e, Int.mul_fdiv_cancel _ (by omega)]
    refine Prod.ext ?_ ?_
    · show w * (ch (D + (k + 1)) (k + 1) : Int) * prodB x back k * (x + back * k) = w * (ch (D + (k + 1)) (k + 1) : Int) * (prodB x back k * (x + back * k))
      exact Int.mul_assoc ..
    · show ((D + k : Nat) : Int) + 1 = ((D + (k + 1) : Nat) : Int); omega
end Mine

/-! M01c -/
namespace Mine
/-! the rows of the greatest weight, in order -/
def bestStep (wt : List Int → Int × Int) (st : List (List Int) × (Int × Int)) (a : List Int) : List (List Int) × (Int × Int) :=
  if st.2.1 * (wt a).2 < (wt a).1 * st.2.2 then ([a], wt a) else
  if (wt a).1 * st.2.2 = st.2.1 * (wt a).2 then (st.1 ++ [a], st.2) else st
def bestF (wt : List Int → Int × Int) (rows : List (List Int)) : List (List Int) × (Int × Int) := rows.foldl (bestStep wt) ([], (0, 1))

structure BInv (wt : List Int → Int × Int) (L : List (List Int)) (st : List (List Int) × (Int × Int)) : Prop where
  td : 0 < st.2.2
  tn : 0 ≤ st.2.1
  le : ∀ r ∈ L, (wt r).1 * st.2.2 ≤ st.2.1 * (wt r).2
  eq : st.1 = L.filter fun r => decide ((wt r).1 * st.2.2 = st.2.1 * (wt r).2)
  ne : L ≠ [] → st.1 ≠ []
  z : L = [] → st.2.1 = 0

theorem cross_lt {a b c d e f : Int} (hb : 0 < b) (hd : 0 < d) (hf : 0 < f) (h1 : a * d ≤ c * b) (h2 : c * f < e * d) : a * f < e * b := by
  have x1 : a * d * f ≤ c * b * f := Int.mul_le_mul_of_nonneg_right h1 (Int.le_of_lt hf)
  have x2 : c * f * b < e * d * b := Int.mul_lt_mul_of_pos_right h2 hb
  have x3 : a * f * d < e * b * d := by
    rw [show a * f * d = a * d * f by ac_rfl, show e * b * d = e * d * b by ac_rfl]
    rw [show c * b * f = c * f * b by ac_rfl] at x1
    omega
  exact Int.lt_of_mul_lt_mul_right x3 (Int.le_of_lt hd)

theorem binv {wt : List Int → Int × Int} : ∀ {R L : List (List Int)} {st : List (List Int) × (Int × Int)}, (∀ r ∈ L, 0 ≤ (wt r).1 ∧ 0 < (wt r).2) → (∀ r ∈ R, 0 ≤ (wt r).1 ∧ 0 < (wt r).2) → BInv wt L st → BInv wt (L ++ R) (R.foldl (bestStep wt) st)
  | [], L, st, hL, h, I => by rw [List.append_nil]; exact I
  | a :: R, L, st, hL, h, I => by
    have ha := h a List.mem_cons_self
    rw [List.foldl_cons, show L ++ a :: R = (L ++ [a]) ++ R by simp]
    refine binv (fun r hr => ?_) (fun r hr => h r (List.mem_cons_of_mem _ hr)) ?_
    · rcases List.mem_append.mp hr with q | q
      · exact hL r q
      · have : r = a := by simpa using q
        rw [this]; exact ha
    obtain ⟨h1, h2, h3, h4, h5, h6⟩ := I
    have hz : L ++ [a] ≠ [] := by simp
    unfold bestStep
    by_cases c1 : st.2.1 * (wt a).2 < (wt a).1 * st.2.2
    · rw [if_pos c1]
      have low : ∀ r ∈ L, (wt r).1 * (wt a).2 < (wt a).1 * (wt r).2 := fun r hr => cross_lt (hL r hr).2 h1 ha.2 (h3 r hr) c1
      refine ⟨ha.2, ha.1, fun r hr => ?_, ?_, fun _ => List.cons_ne_nil _ _, fun q => absurd q hz⟩
      · rcases List.mem_append.mp hr with q | q
        · exact Int.le_of_lt (low r q)
        · have : r = a := by simpa using q
          rw [this]; exact Int.le_refl _
      · rw [List.filter_append, List.filter_eq_nil_iff.mpr fun r hr => ?_]
        · simp
        · have := low r hr
          rw [decide_eq_true_eq]
          show ¬ (wt r).1 * (wt a).2 = (wt a).1 * (wt r).2
          omega
    · rw [if_neg c1]
      by_cases c2 : (wt a).1 * st.2.2 = st.2.1 * (wt a).2
      · rw [if_pos c2]
        refine ⟨h1, h2, fun r hr => ?_, ?_, fun _ => by simp, fun q => absurd q hz⟩
        · rcases List.mem_append.mp hr with q | q
          · exact h3 r q
          · have : r = a := by simpa using q
            rw [this]; exact Int.le_of_eq c2
        · show st.1 ++ [a] = _
          rw [List.filter_append, ← h4, List.filter_cons, if_pos (by rw [decide_eq_true_eq]; exact c2)]; rfl
      · rw [if_neg c2]
        refine ⟨h1, h2, fun r hr => ?_, ?_, fun _ => ?_, fun q => absurd q hz⟩
        · rcases List.mem_append.mp hr with q | q
          · exact h3 r q
          · have : r = a := by simpa using q
            rw [this]; omega
        · rw [List.filter_append, ← h4, List.filter_cons, if_neg (by rw [decide_eq_true_eq]; exact c2)]; simp
        · by_cases e : L = []
          · exfalso
            have z := h6 e
            rw [z, Int.zero_mul] at c1 c2
            have := Int.mul_nonneg ha.1 (Int.le_of_lt h1)
            omega
          · exact h5 e

theorem best_inv {wt : List Int → Int × Int} {R : List (List Int)} (h : ∀ r ∈ R, 0 ≤ (wt r).1 ∧ 0 < (wt r).2) : BInv wt R (bestF wt R) :=
  binv (L := []) (st := ([], (0, 1))) (fun r hr => by cases hr) h ⟨by decide, by decide, (fun r hr => by cases hr), rfl, fun q => absurd rfl q, fun _ => rfl⟩
end Mine

/-! M01d -/
namespace Mine
/-! the draws' closed form -/
def fac : Nat → Nat
  | 0 => 1
  | n + 1 => (n + 1) * fac n
theorem fac_pos : ∀ n, 0 < fac n
  | 0 => Nat.zero_lt_one
  | n + 1 => Nat.mul_pos (Nat.succ_pos n) (fac_pos n)
theorem ch_fac (D : Nat) : ∀ T, ch (D + T) T * (fac D * fac T) = fac (D + T)
  | 0 => by rw [ch_zero]; simp [fac]
  | T + 1 => by
    have ih := ch_fac D T
    have h := ch_absorb (D + T) T
    show ch (D + T + 1) (T + 1) * (fac D * ((T + 1) * fac T)) = (D + T + 1) * fac (D + T)
    rw [← ih, show ch (D + T + 1) (T + 1) * (fac D * ((T + 1) * fac T)) = ((T + 1) * ch (D + T + 1) (T + 1)) * (fac D * fac T) by ac_rfl, h, Nat.mul_assoc]
def tN (tally : List Int) (i : Nat) : Nat := (tally.getD i 0).toNat
def DN (tally : List Int) : Nat → Nat
  | 0 => 0
  | i + 1 => DN tally i + tN tally i
def chs (tally : List Int) : Nat → Nat
  | 0 => 1
  | i + 1 => chs tally i * ch (DN tally i + tN tally i) (tN tally i)
def facs (tally : List Int) : Nat → Nat
  | 0 => 1
  | i + 1 => facs tally i * fac (tN tally i)
def prs (urn tally : List Int) (back : Int) : Nat → Int
  | 0 => 1
  | i + 1 => prs urn tally back i * prodB (urn.getD i 0) back (tN tally i)
theorem chs_fac (tally : List Int) : ∀ i, chs tally i * facs tally i = fac (DN tally i)
  | 0 => rfl
  | i + 1 => by
    have ih := chs_fac tally i
    have h := ch_fac (DN tally i) (tN tally i)
    show chs tally i * ch (DN tally i + tN tally i) (tN tally i) * (facs tally i * fac (tN tally i)) = fac (DN tally i + tN tally i)
    rw [← h, ← ih]; ac_rfl
theorem drL_eq (urn tally : List Int) (back : Int) : ∀ i, drL urn tally back i = ((chs tally i : Int) * prs urn tally back i, (DN tally i : Int))
  | 0 => rfl
  | i + 1 => by
    have ih := drL_eq urn tally back i
    show drS (urn.getD i 0) back (tN tally i) (drL urn tally back i) = _
    rw [ih, drS_eq]
    refine Prod.ext ?_ rfl
    show (chs tally i : Int) * prs urn tally back i * (ch (DN tally i + tN tally i) (tN tally i) : Int) * prodB (urn.getD i 0) back (tN tally i) = ((chs tally i * ch (DN tally i + tN tally i) (tN tally i) : Nat) : Int) * (prs urn tally back i * prodB (urn.getD i 0) back (tN tally i))
    rw [Int.natCast_mul]; ac_rfl
theorem draws_fac (urn tally : List Int) (back : Int) : drawsF urn tally back * (facs tally urn.length : Int) = (fac (DN tally urn.length) : Int) * prs urn tally back urn.length := by
  unfold drawsF
  rw [drL_eq, ← chs_fac, Int.natCast_mul]
  show (chs tally urn.length : Int) * prs urn tally back urn.length * (facs tally urn.length : Int) = _
  ac_rfl
end Mine

/-! M01e -/
namespace Mine
/-! a seat moves -/
def pr (F : Nat → Int) : Nat → Int
  | 0 => 1
  | n + 1 => pr F n * F n
theorem pr_same {F F' : Nat → Int} : ∀ {n}, (∀ l, l < n → F' l = F l) → pr F' n = pr F n
  | 0, _ => rfl
  | n + 1, h => by
    show pr F' n * F' n = pr F n * F n
    rw [pr_same fun l hl => h l (by omega), h n (by omega)]
theorem pr_one {F F' : Nat → Int} {i : Nat} {c d : Int} (hi : F' i * c = F i * d) (ho : ∀ l, l ≠ i → F' l = F l) : ∀ {n}, i < n → pr F' n * c = pr F n * d
  | n + 1, h => by
    show pr F' n * F' n * c = pr F n * F n * d
    by_cases e : i = n
    · subst e
      rw [pr_same fun l hl => ho l (by omega), Int.mul_assoc, hi, Int.mul_assoc]
    · have ih := pr_one (n := n) hi ho (by omega)
      rw [ho n (fun q => e q.symm), show pr F' n * F n * c = pr F' n * c * F n by ac_rfl, ih]
      ac_rfl
theorem facs_pr (tally : List Int) : ∀ n, (facs tally n : Int) = pr (fun l => (fac (tN tally l) : Int)) n
  | 0 => rfl
  | n + 1 => by
    show ((facs tally n * fac (tN tally n) : Nat) : Int) = pr _ n * (fac (tN tally n) : Int)
    rw [Int.natCast_mul, facs_pr tally n]
theorem prs_pr (urn tally : List Int) (back : Int) : ∀ n, prs urn tally back n = pr (fun l => prodB (urn.getD l 0) back (tN tally l)) n
  | 0 => rfl
  | n + 1 => by
    show prs urn tally back n * _ = pr _ n * _
    rw [prs_pr urn tally back n]
theorem DN_sum {tally : List Int} (h : ∀ x ∈ tally, 0 ≤ x) : ∀ {n}, n ≤ tally.length → (DN tally n : Int) = (tally.take n).sum
  | 0, _ => rfl
  | n + 1, hn => by
    have ih := DN_sum h (n := n) (by omega)
    have h0 : 0 ≤ tally.getD n 0 := by rw [getD_lt (by omega)]; exact h _ (List.getElem_mem _)
    show ((DN tally n + tN tally n : Nat) : Int) = _
    rw [List.take_succ_eq_append_getElem (by omega), List.sum_append, List.sum_singleton, ← getD_lt (by omega), ← ih]
    unfold tN; omega
/-- one seat more for j, one less for i -/
def mv (a : List Int) (i j : Nat) : List Int := (a.set i (a.getD i 0 - 1)).set j (a.getD j 0 + 1)
theorem mv_len (a : List Int) (i j : Nat) : (mv a i j).length = a.length := by simp [mv]
theorem mv_get {a : List Int} {i j : Nat} (hi : i < a.length) (hj : j < a.length) (hij : i ≠ j) (l : Nat) : (mv a i j).getD l 0 = if l = j then a.getD j 0 + 1 else if l = i then a.getD i 0 - 1 else a.getD l 0 := by
  unfold mv
  rw [getD_set (by rw [List.length_set]; exact hj)]
  by_cases e : l = j
  · rw [if_pos e, if_pos e]
  · rw [if_neg e, if_neg e, getD_set hi]
theorem set_sum : ∀ {a : List Int} {j : Nat} (v : Int), j < a.length → (a.set j v).sum = a.sum - a.getD j 0 + v
  | x :: r, 0, v, _ => by simp; omega
  | x :: r, j + 1, v, h => by
    have := set_sum (a := r) (j := j) v (by simpa using h)
    simp only [List.set_cons_succ, List.sum_cons, List.getD_cons_succ]
    omega
theorem mv_sum {a : List Int} {i j : Nat} (hi : i < a.length) (hj : j < a.length) (hij : i ≠ j) : (mv a i j).sum = a.sum := by
  unfold mv
  rw [set_sum _ (by rw [List.length_set]; exact hj), set_sum _ hi, getD_set hi, if_neg (Ne.symm hij)]
  omega

theorem draws_mv {urn a : List Int} {back : Int} {i j : Nat} (hl : a.length = urn.length) (ha : ∀ x ∈ a, 0 ≤ x) (hi : i < a.length) (hj : j < a.length) (hij : i ≠ j) (h1 : 1 ≤ a.getD i 0) :
    drawsF urn (mv a i j) back * ((urn.getD i 0 + back * (a.getD i 0 - 1)) * (a.getD j 0 + 1)) = drawsF urn a back * (a.getD i 0 * (urn.getD j 0 + back * a.getD j 0)) := by
  obtain ⟨ti, hti⟩ : ∃ ti : Nat, a.getD i 0 = ti + 1 := ⟨(a.getD i 0 - 1).toNat, by omega⟩
  have hj0 : 0 ≤ a.getD j 0 := by rw [getD_lt hj]; exact ha _ (List.getElem_mem _)
  obtain ⟨tj, htj⟩ : ∃ tj : Nat, a.getD j 0 = tj := ⟨(a.getD j 0).toNat, by omega⟩
  have eT : ∀ l, tN (mv a i j) l = if l = j then tj + 1 else if l = i then ti else tN a l := fun l => by
    unfold tN
    rw [mv_get hi hj hij]
    split
    · omega
    · split
      · omega
      · rfl
  have ei : tN a i = ti + 1 := by unfold tN; omega
  have ej : tN a j = tj := by unfold tN; omega
  have hil : i < urn.length := by omega
  have hjl : j < urn.length := by omega
  -- the factorials
  have f1 := pr_one (F := fun l => (fac (tN a l) : Int)) (F' := fun l => if l = i then (fac ti : Int) else (fac (tN a l) : Int)) (i := i) (c := ti + 1) (d := 1) (by rw [if_pos rfl, ei]; show (fac ti : Int) * (ti + 1) = ((ti + 1) * fac ti : Nat) * 1; rw [Int.natCast_mul, Int.mul_one, Int.mul_comm]; rfl) (fun l hl => if_neg hl) hil
  have f2 := pr_one (F := fun l => if l = i then (fac ti : Int) else (fac (tN a l) : Int)) (F' := fun l => (fac (tN (mv a i j) l) : Int)) (i := j) (c := 1) (d := tj + 1) (by rw [eT, if_pos rfl, if_neg (Ne.symm hij), ej]; show ((tj + 1) * fac tj : Nat) * (1 : Int) = (fac tj : Int) * (tj + 1); rw [Int.natCast_mul, Int.mul_one, Int.mul_comm]; rfl) (fun l hl => by
    rw [eT, if_neg hl]; split <;> rfl) hjl
  -- the products
  have p1 := pr_one (F := fun l => prodB (urn.getD l 0) back (tN a l)) (F' := fun l => if l = i then prodB (urn.getD i 0) back ti else prodB (urn.getD l 0) back (tN a l)) (i := i) (c := urn.getD i 0 + back * ti) (d := 1) (by rw [if_pos rfl, ei, Int.mul_one]; rfl) (fun l hl => if_neg hl) hil
  have p2 := pr_one (F := fun l => if l = i then prodB (urn.getD i 0) back ti else prodB (urn.getD l 0) back (tN a l)) (F' := fun l => prodB (urn.getD l 0) back (tN (mv a i j) l)) (i := j) (c := 1) (d := urn.getD j 0 + back * tj) (by rw [eT, if_pos rfl, if_neg (Ne.symm hij), ej, Int.mul_one]; rfl) (fun l hl => by
    rw [eT, if_neg hl]; split
    · rename_i e; rw [e]
    · rfl) hjl
  rw [← facs_pr] at f1 f2
  rw [← prs_pr] at p1 p2
  rw [Int.mul_one] at f1 f2 p1 p2
  have D0 := draws_fac urn a back
  have D1 := draws_fac urn (mv a i j) back
  have hD : DN (mv a i j) urn.length = DN a urn.length := by
    have hm : ∀ x ∈ mv a i j, 0 ≤ x := fun x hx => by
      obtain ⟨l, hl2, rfl⟩ := List.mem_iff_getElem.mp hx
      rw [← getD_lt, mv_get hi hj hij]
      split
      · omega
      · split
        · omega
        · rw [mv_len] at hl2; rw [getD_lt hl2]; exact ha _ (List.getElem_mem _)
    have s1 := DN_sum hm (n := urn.length) (by rw [mv_len]; omega)
    have s2 := DN_sum ha (n := urn.length) (by omega)
    rw [List.take_of_length_le (by rw [mv_len]; omega), mv_sum hi hj hij] at s1
    rw [List.take_of_length_le (by omega)] at s2
    omega
  rw [hD] at D1
  have fp : ∀ (t : List Int) n, 0 < (facs t n : Int) := fun t n => by
    have : 0 < facs t n := by
      induction n with
      | zero => exact Nat.zero_lt_one
      | succ n ih => exact Nat.mul_pos ih (fac_pos _)
    omega
  have g1 := fp a urn.length
  have g2 := fp (mv a i j) urn.length
  rw [hti, htj, show (ti : Int) + 1 - 1 = ti by omega]
  generalize (facs a urn.length : Int) = A at *
  generalize (facs (mv a i j) urn.length : Int) = A' at *
  generalize prs urn a back urn.length = Pa at *
  generalize prs urn (mv a i j) back urn.length = Pa' at *
  generalize drawsF urn a back = X at *
  generalize drawsF urn (mv a i j) back = X' at *
  generalize (fac (DN a urn.length) : Int) = N at *
  generalize urn.getD i 0 + back * ti = fi at *
  generalize urn.getD j 0 + back * tj = fj at *
  generalize pr _ urn.length = Mf at f1 f2
  generalize pr _ urn.length = Mp at p1 p2
  have hA : A' * (ti + 1) = A * (tj + 1) := by rw [f2, show Mf * (tj + 1) * ((ti : Int) + 1) = Mf * (ti + 1) * (tj + 1) by ac_rfl, f1]
  have hP : Pa' * fi = Pa * fj := by rw [p2, show Mp * fj * fi = Mp * fi * fj by ac_rfl, p1]
  have key : X' * (fi * (tj + 1)) * (A * A') = X * ((ti + 1) * fj) * (A * A') := by
    rw [show X' * (fi * ((tj : Int) + 1)) * (A * A') = X' * A' * fi * (A * (tj + 1)) by ac_rfl, D1, ← hA]
    rw [show N * Pa' * fi * (A' * ((ti : Int) + 1)) = N * (Pa' * fi) * (A' * (ti + 1)) by ac_rfl, hP]
    rw [show X * (((ti : Int) + 1) * fj) * (A * A') = X * A * fj * (A' * (ti + 1)) by ac_rfl, D0]
    ac_rfl
  exact Int.eq_of_mul_eq_mul_right (Int.ne_of_gt (Int.mul_pos g1 g2)) key
end Mine

/-! Hd03 -/
set_option maxHeartbeats 8000000 in
open_top Mine.hd for PySem.Challenge.rw_fh0001_03

/-! Hd03b -/
namespace Mine
def Law03 : Prop := ∀ (P : Params) (zs : List Int), zs.length ≤ 63 → (It (Mine.hd.heap_39 P) 61).call "law" [.list (zs.map .int)] = .ok (.bool true)

set_option maxHeartbeats 8000000 in
theorem T03 (H : Law03) : PySem.Challenge.rw_fh0001_03.Holds := Mine.hd (by
  k_fill
  intro w s₀ s₁ mg mb G Y fa o pm cd doc dV kV ho hd hcd hD hmg hg args vals as hpre hlay hrd hwl hlo
  have KX := kIn_of Y
  refine Ground.open G ?_
  intro T B D TE TW
  clear hD hd hcd
  have hlaw : ∃ a0, nsIn (Mine.hd.heap_39 w.params) mainGlobals "law" = some (some (.ref a0)) := ⟨_, rfl⟩
  obtain ⟨a0, hlaw⟩ := hlaw
  have hfa : fa = a0 := by
    have h1 := mg_of KX T.g hlaw
    have h2 : mg "law" = some (.ref fa) := hmg
    rw [h1] at h2; cases h2; rfl
  subst hfa
  clear hmg ho
  wrow_args hpre hlay hrd hwl hlo
  all_goals (first | refine callC_kw (enter_call ?_) | refine enter_call ?_ | refine callC_kw (enter_callW ?_) | refine enter_callW ?_ | w_how)
  all_goals (try refine codeAny_mono ?_ (fun _ _ g => GoodW.toG g))
  rename_i zs _ _ _ _ _ _ _ _ _ _ hL _ _ _ hI _ hc1 _
  refine law_run (n := 60) (H w.params zs (by omega)) ⟨rfl, by decide, by decide⟩ ⟨KX, T.g, T.b, T.builtins, T.nolimit⟩ hlaw hL hI fun v h' tk F' keep vr => ?_
  cases vr
  refine ⟨.inl ⟨.bool true, .bool true, [], rfl, (raisesW_false ?_), .bool _, ?_, unshared_nil⟩, keep, rfl, hg⟩
  · wrow_none_raised
  · wrow_post)
end Mine

/-! TDv03 -/
namespace Mine
local macro_rules
  | `(tactic| walk_at "lk1") => `(tactic| first | with_reducible assumption | with_reducible exact lk_self | ((with_reducible refine' lk_upd ?hne ?_); (case hne => decide)) | ((with_reducible refine' lk_comp ?hne ?_); (case hne => rfl)) | ((with_reducible refine' lk_frz0 ?hne ?_); (case hne => rfl)) | ((with_reducible apply lk_frz1); (case h => rfl)))
local macro_rules
  | `(tactic| walk_at "lk") => `(tactic| ((repeat walk_at "lk1"); (try rfl)))
local macro_rules
  | `(tactic| walk_at "ex") => `(tactic| first
    | (with_reducible refine' W_nil ?_)
    | (with_reducible refine' W_cons ?_)
    | (with_reducible refine' Nx_n ?_)
    | (with_reducible refine' Nx_s ?_)
    | (with_reducible refine' W_pass ?_)
    | ((with_reducible refine' W_assign0 (fr := false) ?h1 ?h2 ?h3 ?_ ?h4); (case h1 => rfl); (case h2 => rfl); (case h3 => rfl); (case h4 => rfl))
    | ((with_reducible refine' W_assign0 (fr := true) ?h1 ?h2 ?h3 ?_ ?h4); (case h1 => rfl); (case h2 => rfl); (case h3 => rfl); (case h4 => rfl))
    | ((with_reducible refine' W_assign (fr := false) ?h1 ?h3 ?_ ?h4); (case h1 => rfl); (case h3 => rfl); (case h4 => rfl))
    | ((with_reducible refine' W_assign (fr := true) ?h1 ?h3 ?_ ?h4); (case h1 => rfl); (case h3 => rfl); (case h4 => rfl))
    | ((with_reducible refine' W_setsub ?h1 ?_); (case h1 => rfl))
    | ((with_reducible refine' W_aug ?h1 ?h2 ?_); (case h1 => rfl); (case h2 => walk_at "lk"))
    | ((with_reducible refine' W_augsub ?h1 ?h2 ?_); (case h1 => rfl); (case h2 => refine' ownL_of ?ho ?hl; (case ho => walk_at "lk"); (case hl => walk_at "ln")))
    | ((with_reducible refine' W_append0 ?h1 ?h2 ?h3 ?_); (case h1 => rfl); (case h2 => refine' ownL_of ?ho ?hl; (case ho => walk_at "lk"); (case hl => walk_at "ln")); (case h3 => rfl))
    | ((with_reducible refine' W_append ?h1 ?h2 ?h3 ?_); (case h1 => rfl); (case h2 => refine' ownL_of ?ho ?hl; (case ho => walk_at "lk"); (case hl => walk_at "ln")); (case h3 => refine' ownL_of ?ho ?hl; (case ho => walk_at "lk"); (case hl => walk_at "ln")))
    | (with_reducible refine' W_if ?_)
    | (with_reducible refine' W_ret ?_)
    | ((with_reducible refine' W_for0 ?h1 ?h2 ?h3 ?_); (case h1 => rfl); (case h2 => rfl); (case h3 => rfl))
    | ((with_reducible refine' W_for ?h1 ?h2 ?_); (case h1 => rfl); (case h2 => rfl))
    | (with_reducible refine' W_while ?_))
local macro_rules
  | `(tactic| walk_at "ev") => `(tactic| first
    | ((with_reducible refine' W_const ?h1 ?_); (case h1 => rfl))
    | ((with_reducible refine' W_name ?h1 ?h2 ?h3 ?h4 ?_); (case h1 => rfl); (case h2 => rfl); (case h3 => walk_at "lk"); (case h4 => rfl))
    | ((with_reducible refine' W_gname ?h1 ?h2 ?_); (case h1 => rfl); (case h2 => rfl))
    | (with_reducible refine' W_bin ?_)
    | (with_reducible refine' W_un ?_)
    | (with_reducible refine' W_boolop ?_)
    | (with_reducible refine' W_bool1 ?_)
    | (with_reducible refine' W_booland ?_)
    | ((with_reducible refine' W_cmp ?h1 ?_); (case h1 => rfl))
    | (with_reducible refine' W_ifexp ?_)
    | (with_reducible refine' W_list ?_)
    | (with_reducible refine' W_tuple ?_)
    | ((with_reducible refine' W_sub ?h1 ?_); (case h1 => rfl))
    | (with_reducible refine' W_evs0 ?_)
    | ((with_reducible refine' W_evs1 ?h1 ?_); (case h1 => rfl))
    | ((with_reducible refine' W_callf ?h1 ?h2 ?_); (case h1 => rfl); (case h2 => rfl))
    | ((with_reducible refine' W_callb ?h1 ?h2 ?_); (case h1 => rfl); (case h2 => rfl))
    | ((with_reducible refine' W_callt ?h1 ?h2 ?_); (case h1 => rfl); (case h2 => rfl))
    | ((with_reducible refine' W_isinst ?h1 ?h3 ?h2 ?_); (case h1 => rfl); (case h3 => rfl); (case h2 => rfl))
    | ((with_reducible refine' W_callrev ?h1 ?h2 ?h3 ?_); (case h1 => rfl); (case h2 => rfl); (case h3 => rfl))
    | ((with_reducible refine' W_range ?h1 ?h2 ?_); (case h1 => rfl); (case h2 => rfl))
    | ((with_reducible refine' W_srccall ?h1 ?_); (case h1 => rfl))
    | ((with_reducible refine' W_src ?h1 ?_); (case h1 => rfl))
    | ((with_reducible refine' W_comp ?h1 ?h2 ?_); (case h1 => rfl); (case h2 => rfl))
    | (with_reducible refine' W_tests0 ?_)
    | (with_reducible refine' W_tests1 ?_)
    | (with_reducible refine' T_not ?_)
    | (with_reducible refine' T_boolop ?_)
    | (with_reducible refine' T_and0 ?_)
    | (with_reducible refine' T_or0 ?_)
    | (with_reducible refine' T_and ?_)
    | (with_reducible refine' T_or ?_)
    | ((with_reducible refine' T_cmp ?h1 ?_); (case h1 => rfl))
    | ((with_reducible refine' T_val ?h1 ?_); (case h1 => rfl)))
local macro_rules
  | `(tactic| walk_at "ln") => `(tactic| first | decide | ((try simp only [List.length_map, List.length_append, List.length_cons, List.length_nil, List.length_replicate, List.length_range, lim]); omega))
local macro_rules
  | `(tactic| walk_at "vl") => `(tactic| first
    | (with_reducible refine' B_add ?_)
    | (with_reducible refine' B_sub ?_)
    | ((with_reducible refine' B_mod ?hz ?_); (case hz => decide))
    | ((with_reducible refine' B_pow ?hz ?_); (case hz => decide))
    | (with_reducible refine' U_neg ?_)
    | (with_reducible refine' I_int ?_)
    | (with_reducible refine' A_add ?_)
    | (with_reducible refine' A_sub ?_)
    | (with_reducible refine' C_lt ?_)
    | (with_reducible refine' C_le ?_)
    | (with_reducible refine' C_gt ?_)
    | (with_reducible refine' C_ge ?_)
    | (with_reducible refine' C_eqL ?_)
    | (with_reducible refine' C_neL ?_)
    | ((with_reducible refine' P_neg1 ?hl ?_); (case hl => walk_at "ln"))
    | ((refine' Ty_list ?hl ?_); (case hl => walk_at "ln"))
    | (with_reducible refine' C_eqi ?_)
    | (with_reducible refine' C_nei ?_)
    | (with_reducible refine' C_isnot ?_)
    | (with_reducible refine' Ty_int ?_)
    | (with_reducible refine' Is_il ?_)
    | (with_reducible refine' Is_ii ?_)
    | (with_reducible refine' Is_bi ?_)
    | (with_reducible refine' V_tr ?_)
    | (with_reducible refine' V_tri ?_)
    | ((with_reducible refine' X_ints ?hl ?hj ?_); (case hl => walk_at "ln"); (case hj => walk_at "ln"))
    | ((with_reducible refine' R_nat ?hl ?_); (case hl => walk_at "ln"))
    | ((with_reducible refine' S_list ?hl ?_); (case hl => walk_at "ln"))
    | (refine' F_sum ?_)
    | ((refine' F_maxL ?hl ?_); (case hl => walk_at "ln"))
    | ((with_reducible refine' X_rf (d := .tuple _) ?hl ?_); (case hl => rfl))
    | ((with_reducible refine' X_int0 ?hl ?hj ?_); (case hl => walk_at "ln"); (case hj => walk_at "ln"))
    | ((with_reducible refine' O_own ?ho ?_); (case ho => refine' ownL_of ?ha ?hl; (case ha => walk_at "lk"); (case hl => walk_at "ln")))
    | ((with_reducible refine' P_pos ?hl ?_); (case hl => walk_at "ln"))
    | ((with_reducible refine' B_zeros ?hl ?hj ?_); (case hl => walk_at "ln"); (case hj => walk_at "ln"))
    | (refine' L_ok ?hl ?_; (case hl => exact Nat.le_of_ble_eq_true rfl))
    | ((with_reducible refine' C_t ?hl ?_); (case hl => with_unfolding_all rfl))
    | ((with_reducible refine' C_f ?hl ?_); (case hl => with_unfolding_all rfl))
    | (with_reducible refine' K_tt ?_)
    | (with_reducible refine' K_ff ?_)
    | (with_reducible refine' K_tf ?_)
    | (with_reducible refine' K_ft ?_)
    | (with_reducible refine' K_n1 ?_)
    | (with_reducible refine' K_n2 ?_)
    | ((refine' F_len ?hl ?_); (case hl => walk_at "ln"))
    | ((refine' F_lent ?hl ?_); (case hl => walk_at "ln"))
    | ((with_reducible refine' B_mul ?hm ?_); (case hm => first | exact mulB_small (.inl (by decide)) | exact mulB_small (.inr (by decide)) | exact mulB_small (.inl (by omega)) | exact mulB_small (.inr (by omega))))
    | ((with_reducible refine' B_dv ?hm ?hn ?_); (case hm => first | decide | omega); (case hn => first | decide | omega)))
local macro_rules
  | `(tactic| walk_at "w") => `(tactic| (repeat (first | walk_at "ex" | walk_at "ev" | walk_at "vl")))
local macro_rules
  | `(tactic| walk_at "ex") => `(tactic| first
    | ((with_reducible refine' X_st ?h1 ?_); (case h1 => rfl))
    | ((with_reducible refine' X_if0 ?h1 ?_); (case h1 => rfl))
    | (with_reducible refine' X_if ?_)
    | (with_reducible refine' Tx_n ?_))
local macro_rules
  | `(tactic| walk_at "vl") => `(tactic| first
    | ((with_reducible refine' X_rows ?hl ?hj ?_); (case hl => walk_at "ln"); (case hj => walk_at "ln"))
    | ((with_reducible refine' B_snoc ?hl ?_); (case hl => walk_at "ln"))
    | (with_reducible refine' F_abs ?_)
    | ((refine' F_minL ?hl ?_); (case hl => walk_at "ln"))
    | ((refine' F_rev ?hl ?_); (case hl => walk_at "ln"))
    | ((with_reducible refine' R_down ?hl ?hj ?_); (case hl => first | decide | omega); (case hj => first | decide | omega))
    | (with_reducible refine' C_eqb ?_)
    | (with_reducible refine' C_eqR ?_)
    | (with_reducible refine' C_inI ?_)
    | (with_reducible refine' C_neR ?_))
local macro_rules
  | `(tactic| walk_at "ln") => `(tactic| ((try simp only [List.length_map, List.length_append, List.length_cons, List.length_nil, List.length_replicate, List.length_range, List.length_reverse, sortI_len, lim]); omega))
local macro_rules
  | `(tactic| walk_at "ev") => `(tactic| first
    | ((with_reducible refine' W_comp2 ?h1 ?h2 ?_); (case h1 => rfl); (case h2 => rfl))
    | (with_reducible refine' W_slice ?_))
local macro_rules
  | `(tactic| walk_at "ev") => `(tactic| first
    | ((with_reducible refine' W_callb ?h1 ?h2 ?_); (case h1 => rfl); (case h2 => rfl))
    | ((with_reducible refine' T_instr true ?h1 ?h2 ?h3 ?h4 ?h5 ?h6 ?_); (case h1 => rfl); (case h2 => rfl); (case h3 => walk_at "lk"); (case h4 => rfl); (case h5 => exact Nat.le_of_ble_eq_true rfl); (case h6 => with_unfolding_all rfl))
    | ((with_reducible refine' T_instr false ?h1 ?h2 ?h3 ?h4 ?h5 ?h6 ?_); (case h1 => rfl); (case h2 => rfl); (case h3 => walk_at "lk"); (case h4 => rfl); (case h5 => exact Nat.le_of_ble_eq_true rfl); (case h6 => with_unfolding_all rfl)))
local macro_rules
  | `(tactic| walk_at "vl") => `(tactic| first
    | ((with_reducible refine' R_from ?hl ?hj ?_); (case hl => omega); (case hj => omega)))
local macro_rules
  | `(tactic| walk_at "w") => `(tactic| (repeat ((fail_if_success (with_reducible refine' W_iscall ?_)); (first | walk_at "ex" | walk_at "ev" | walk_at "vl"))))

section
variable {P : Params} {n : Nat}

theorem sum_nn0 : ∀ {l : List Int}, (∀ v ∈ l, 0 ≤ v) → 0 ≤ l.sum
  | [], _ => by simp
  | v :: l, h => by
    have h1 := h v List.mem_cons_self
    have h2 := sum_nn0 (l := l) fun u hu => h u (List.mem_cons_of_mem _ hu)
    rw [List.sum_cons]; omega

/-- what is asked of votes and a house -/
structure DOk (k : Kd) (S : Nat) (votes r0 : List Int) : Prop where
  hv : ∀ v ∈ votes, 0 ≤ v ∧ v < 10 ^ 41
  h1 : 1 ≤ votes.length
  h5 : votes.length ≤ 5
  hS : S ≤ 40
  hfl : votes.length * S < 64
  hdn : ∀ i, i < S → 0 < k.dn i ∧ k.dn i < 2 ^ 40
  hdd : ∀ i, i < S → 0 < k.dd i ∧ k.dd i < 2 ^ 40
  hl0 : r0.length = votes.length
  h0 : ∀ x ∈ r0, 0 ≤ x ∧ x ≤ 1
abbrev tup2 (t : Int × Int) : D := .tuple [.int t.1, .int t.2]
def dvDs (k : Kd) (S : Nat) : List (Int × Int) := (List.range S).map fun i => (k.dn i, k.dd i)

/-- the frame when the divisors are laid -/
structure DFr (k : Kd) (S : Nat) (votes r0 : List Int) (m : Str) (bt : Bool) (ρ : Rho) : Prop where
  v : ρ "votes" = some (false, .list (votes.map .int))
  s : ρ "seats" = some (false, .int S)
  m : ρ "method" = some (false, .str m)
  t : ρ "tiesallowed" = some (false, .bool bt)
  r : ρ "representatives" = some (true, .list (r0.map .int))
  d : r0.sum < S → ρ "divisors" = some (true, .list ((dvDs k S).map tup2))

theorem dvC_pos {k : Kd} : ∀ {S : Nat}, (∀ i, i < S → 0 < k.dn i ∧ k.dn i < 2 ^ 40) → 0 < dvC k S ∧ (dvC k S).natAbs ≤ 2 ^ (40 * S)
  | 0, _ => ⟨(by decide : (0 : Int) < 1), Nat.le_refl 1⟩
  | S + 1, h => by
    obtain ⟨h1, h2⟩ := dvC_pos (S := S) fun i hi => h i (by omega)
    have h3 := h S (by omega)
    have e : dvC k (S + 1) = dvC k S * k.dn S := by unfold dvC; rw [List.range_succ, List.foldl_append]; rfl
    rw [e]
    refine ⟨Int.mul_pos h1 h3.1, ?_⟩
    rw [Int.natAbs_mul, Nat.mul_succ, Nat.pow_add]
    exact Nat.mul_le_mul h2 (by omega)

/-- the frame when the weights are told -/
structure DEnd (k : Kd) (S : Nat) (votes r0 : List Int) (bt : Bool) (ρ : Rho) : Prop where
  v : ρ "votes" = some (false, .list (votes.map .int))
  s : ρ "seats" = some (false, .int S)
  t : ρ "tiesallowed" = some (false, .bool bt)
  r : ρ "representatives" = some (true, .list ((if r0.sum < S then dvR1 k S votes r0 else r0).map .int))
  w : r0.sum < S → ρ "weights" = some (true, .list ((dvW k S votes).map rowD))
  m : r0.sum < S → ρ "minweight" = some (false, .int (dvMin k S votes r0))

set_option maxHeartbeats 8000000 in
theorem dv_main {k : Kd} {S : Nat} {votes r0 : List Int} {m : Str} {bt : Bool} {ρ : Rho} {fd : FuncData} {s1 s2 s3 : Stmt} {rest : List Stmt} (h : DOk k S votes r0) (hr : DFr k S votes r0 m bt ρ)
    (hm : (cmpD .In (.str m) (.list [.str (Str.ofString "huntington"), .str (Str.ofString "hill"), .str (Str.ofString "equalproportions")])) = .ok k.sq)
    (hf : fdOf (Mine.hd.heap_39 P) "divisor" = some fd) (hb : fd.body = .stmts (s1 :: s2 :: s3 :: rest)) :
    W ((It (Mine.hd.heap_39 P) (n + 40)).ex fd.scope ρ s3) (fun p => p.2 = none ∧ DEnd k S votes r0 bt p.1) := by
  cases hf
  cases hb
  obtain ⟨r1, r2, r3, r4, r5, r6⟩ := hr
  have hv := h.hv
  have hl5 := h.h5
  have hl1 := h.h1
  have hS := h.hS
  have hl0 := h.hl0
  dsimp only
  walk_at "w"
  refine K_d1 (fun hc => ?_) (fun hc => ?_)
  · have r6 := r6 hc
    have hdl : (dvDs k S).length = S := by simp [dvDs]
    have hdm : ∀ t ∈ dvDs k S, ∃ i, i < S ∧ t = (k.dn i, k.dd i) := fun t ht => by
      obtain ⟨i, hi, rfl⟩ := List.mem_map.mp ht
      exact ⟨i, List.mem_range.mp hi, rfl⟩
    obtain ⟨hcp, hcb⟩ := dvC_pos h.hdn
    have hcb2 : (dvC k S).natAbs < 2 ^ 9000 := Nat.lt_of_le_of_lt hcb (Nat.pow_lt_pow_right (by decide) (by omega))
    walk_at "w"
    refine W_forI_enc (enc := tup2) (xs := dvDs k S) (c := 1) (fun c t => c * t.1) rfl rfl (by decide) (by walk_at "lk") (by walk_at "ln") (by walk_at "lk") (fun t ht ρ' c hy ho => ?_) (fun ρ' hy ho => ?_)
    · obtain ⟨i, hi, rfl⟩ := hdm t ht
      have := h.hdn i hi
      walk_at "w"
      rfl
    have hcc : (dvDs k S).foldl (fun c t => c * t.1) 1 = dvC k S := by unfold dvDs dvC; rw [List.foldl_map]
    rw [hcc] at hy
    have r1' := (ho "votes" (by decide) (by decide)).trans (lk_upd (by decide) r1)
    have r2' := (ho "seats" (by decide) (by decide)).trans (lk_upd (by decide) r2)
    have r3' := (ho "method" (by decide) (by decide)).trans (lk_upd (by decide) r3)
    have r4' := (ho "tiesallowed" (by decide) (by decide)).trans (lk_upd (by decide) r4)
    have r5' := (ho "representatives" (by decide) (by decide)).trans (lk_upd (by decide) r5)
    have r6' := (ho "divisors" (by decide) (by decide)).trans (lk_upd (by decide) r6)
    clear ho
    refine Nx_n (W_cut (fun ρ => ρ "votes" = some (false, .list (votes.map .int)) ∧ ρ "seats" = some (false, .int S) ∧ ρ "tiesallowed" = some (false, .bool bt) ∧ ρ "representatives" = some (true, .list (r0.map .int)) ∧ ρ "weights" = some (true, .list ((dvW k S votes).map rowD))) ?_ ?_)
    · have hwg : ∀ p ∈ votes, ∀ t ∈ dvDs k S, 0 ≤ p ∧ p < 10 ^ 41 ∧ 0 < t.1 ∧ t.1 < 2 ^ 40 ∧ 0 < t.2 ∧ t.2 < 2 ^ 40 := fun p hp t ht => by
        obtain ⟨i, hi, rfl⟩ := hdm t ht
        exact ⟨(hv p hp).1, (hv p hp).2, (h.hdn i hi).1, (h.hdn i hi).2, (h.hdd i hi).1, (h.hdd i hi).2⟩
      have hws : ∀ p, (dvDs k S).map (fun t => ((k.pw p) * t.2 * dvC k S).fdiv t.1) = dvWs k S p := fun p => by
        unfold dvDs dvWs; rw [List.map_map]; rfl
      have p41 : ∀ p : Int, 0 ≤ p ∧ p < 10 ^ 41 → p.natAbs < 2 ^ 9000 := fun p hp => by
        have : p.natAbs < 10 ^ 41 := by omega
        exact Nat.lt_trans this (Nat.lt_trans (show 10 ^ 41 < 2 ^ 140 by decide) (Nat.pow_lt_pow_right (by decide) (by decide)))
      have pq41 : ∀ p q : Int, 0 ≤ p ∧ p < 10 ^ 41 → 0 < q ∧ q < 2 ^ 40 → (p * q).natAbs < 2 ^ 9000 := fun p q hp hq => by
        rw [Int.natAbs_mul]
        have h1 : p.natAbs * q.natAbs < 10 ^ 41 * 2 ^ 40 := Nat.mul_lt_mul'' (by omega) (by omega)
        exact Nat.lt_trans h1 (Nat.lt_trans (show 10 ^ 41 * 2 ^ 40 < 2 ^ 200 by decide) (Nat.pow_lt_pow_right (by decide) (by decide)))
      have ppq41 : ∀ p q : Int, 0 ≤ p ∧ p < 10 ^ 41 → 0 < q ∧ q < 2 ^ 40 → (p * p * q).natAbs < 2 ^ 9000 := fun p q hp hq => by
        rw [Int.natAbs_mul, Int.natAbs_mul]
        have h1 : p.natAbs * p.natAbs < 10 ^ 41 * 10 ^ 41 := Nat.mul_lt_mul'' (by omega) (by omega)
        have h2 : p.natAbs * p.natAbs * q.natAbs < 10 ^ 41 * 10 ^ 41 * 2 ^ 40 := Nat.mul_lt_mul'' h1 (by omega)
        exact Nat.lt_trans h2 (Nat.lt_trans (show 10 ^ 41 * 10 ^ 41 * 2 ^ 40 < 2 ^ 330 by decide) (Nat.pow_lt_pow_right (by decide) (by decide)))
      have hpw : k.sq = true → ∀ p, k.pw p = p * p := fun e p => by unfold Kd.pw; rw [if_pos e]
      have hpw2 : k.sq = false → ∀ p, k.pw p = p := fun e p => by unfold Kd.pw; rw [if_neg (by rw [e]; decide)]
      walk_at "w"
      refine W.eq hm ?_
      refine ⟨fun hq => ?_, fun hq => ?_⟩
      · walk_at "w"
        refine M_enc (enc := .int) (fun p => rowD (dvWs k S p)) (fun p hp => ?_) ?_
        · walk_at "w"
          refine M_encI (enc := tup2) (fun t => (k.pw p * t.2 * dvC k S).fdiv t.1) (fun t ht => ?_) ?_
          · obtain ⟨g1, g2, g3, g4, g5, g6⟩ := hwg p hp t ht
            rw [hpw hq]
            walk_at "w"
            refine B_mul (mulB_big (p41 p ⟨g1, g2⟩) (p41 p ⟨g1, g2⟩)) ?_
            walk_at "w"
            refine B_mul (mulB_big (ppq41 p t.2 ⟨g1, g2⟩ ⟨g5, g6⟩) hcb2) ?_
            walk_at "w"
            rfl
          rw [hws]
          walk_at "w"
        rw [show votes.map (fun p => rowD (dvWs k S p)) = (dvW k S votes).map rowD by unfold dvW; rw [List.map_map]; rfl]
        walk_at "w"
        exact ⟨rfl, by walk_at "lk", by walk_at "lk", by walk_at "lk", by walk_at "lk", by walk_at "lk"⟩
      · walk_at "w"
        refine M_enc (enc := .int) (fun p => rowD (dvWs k S p)) (fun p hp => ?_) ?_
        · walk_at "w"
          refine M_encI (enc := tup2) (fun t => (k.pw p * t.2 * dvC k S).fdiv t.1) (fun t ht => ?_) ?_
          · obtain ⟨g1, g2, g3, g4, g5, g6⟩ := hwg p hp t ht
            rw [hpw2 hq]
            walk_at "w"
            refine B_mul (mulB_big (pq41 p t.2 ⟨g1, g2⟩ ⟨g5, g6⟩) hcb2) ?_
            walk_at "w"
            rfl
          rw [hws]
          walk_at "w"
        rw [show votes.map (fun p => rowD (dvWs k S p)) = (dvW k S votes).map rowD by unfold dvW; rw [List.map_map]; rfl]
        walk_at "w"
        exact ⟨rfl, by walk_at "lk", by walk_at "lk", by walk_at "lk", by walk_at "lk", by walk_at "lk"⟩
    · rintro ρ ⟨q1, q2, q3, q4, q5⟩
      have hWl : (dvW k S votes).length = votes.length := by simp [dvW]
      have hWm : ∀ r ∈ dvW k S votes, r.length = S := fun r hr => by
        unfold dvW at hr
        obtain ⟨p, hp, rfl⟩ := List.mem_map.mp hr
        simp [dvWs]
      have hfl : (dvW k S votes).flatten.length = votes.length * S := by
        rw [List.length_flatten]
        have : (dvW k S votes).map List.length = List.replicate votes.length S := by
          rw [List.eq_replicate_iff]
          exact ⟨by rw [List.length_map, hWl], fun b hb => by obtain ⟨r, hr, rfl⟩ := List.mem_map.mp hb; exact hWm r hr⟩
        rw [this, List.sum_replicate_nat]
      walk_at "w"
      refine M_cat (fun r hr => ?_) ?_
      · have hrl := hWm r hr
        refine W.bind ?_
        walk_at "w"
        refine M_mapI (fun x hx => ?_) rfl
        walk_at "w"
        rfl
      have hfl2 := h.hfl
      refine ⟨by rw [List.length_map]; unfold lim; omega, ?_⟩
      refine F_sorted (by omega) ?_
      walk_at "w"
      obtain ⟨mm, hmm⟩ : ∃ mm : Nat, (S : Int) - r0.sum = mm := ⟨((S : Int) - r0.sum).toNat, by omega⟩
      have hr0 := sum_nn0 (l := r0) fun x hx => (h.h0 x hx).1
      have hSm : S ≤ votes.length * S := Nat.le_mul_of_pos_left S (by omega)
      refine X_intsN (k := mm) (by omega) (by rw [sortI_len]; unfold lim; omega) (by omega) (by rw [sortI_len]; omega) ?_
      rw [show (sortI (dvW k S votes).flatten).getD ((sortI (dvW k S votes).flatten).length - mm) 0 = dvMin k S votes r0 by unfold dvMin; rw [sortI_len, hmm]; rfl]
      walk_at "w"
      refine M_range (fun i => r0.getD i 0 + (((dvW k S votes).getD i []).filter fun w => decide (dvMin k S votes r0 < w)).length) (fun i hi => ?_) ?_
      · rw [List.length_map] at hi
        have hrl : ((dvW k S votes).getD i []).length = S := by
          rw [List.getD_eq_getElem?_getD, List.getElem?_eq_getElem (by omega)]; exact hWm _ (List.getElem_mem _)
        walk_at "w"
        refine M_encf (enc := .int) (fun w => decide (dvMin k S votes r0 < w)) .int (fun x hx => ?_) (fun x hx _ => ?_) ?_
        · walk_at "w"
          rfl
        · walk_at "w"
          rfl
        have hfl3 := List.length_filter_le (fun w => decide (dvMin k S votes r0 < w)) ((dvW k S votes).getD i [])
        walk_at "w"
        rw [List.length_map]
      rw [show (List.range (votes.map PyData.int).length).map (fun i => r0.getD i 0 + (((dvW k S votes).getD i []).filter fun w => decide (dvMin k S votes r0 < w)).length) = dvR1 k S votes r0 by rw [List.length_map]; rfl]
      walk_at "w"
      refine ⟨rfl, by walk_at "lk", by walk_at "lk", by walk_at "lk", ?_, fun _ => by walk_at "lk", fun _ => by walk_at "lk"⟩
      rw [if_pos hc]
      walk_at "lk"
  · walk_at "w"
    refine ⟨rfl, r1, r2, r4, ?_, fun h => absurd h hc, fun h => absurd h hc⟩
    rw [if_neg hc]
    exact r5

theorem dvR1_len {k : Kd} {S : Nat} {votes r0 : List Int} : (dvR1 k S votes r0).length = votes.length := by simp [dvR1]
theorem dvW_at {k : Kd} {S : Nat} {votes : List Int} {i : Nat} (hi : i < votes.length) : ((dvW k S votes).getD i []).length = S := by
  have hWl : (dvW k S votes).length = votes.length := by simp [dvW]
  rw [List.getD_eq_getElem?_getD, List.getElem?_eq_getElem (by omega)]
  have := List.getElem_mem (l := dvW k S votes) (n := i) (by omega)
  obtain ⟨p, hp, e⟩ := List.mem_map.mp (show (dvW k S votes)[i]'(by omega) ∈ votes.map (dvWs k S) from this)
  show ((dvW k S votes)[i]'(by omega)).length = S
  rw [← e]; simp [dvWs]

set_option maxHeartbeats 8000000 in
theorem dv_end {k : Kd} {S : Nat} {votes r0 : List Int} {bt : Bool} {ρ : Rho} {fd : FuncData} {s1 s2 s3 : Stmt} {rest : List Stmt} (h : DOk k S votes r0) (hr : DEnd k S votes r0 bt ρ)
    (hf : fdOf (Mine.hd.heap_39 P) "divisor" = some fd) (hb : fd.body = .stmts (s1 :: s2 :: s3 :: rest)) (hd : (dvF k S votes r0).2 = false ∨ bt = true) :
    W (exsL ((It (Mine.hd.heap_39 P) (n + 40)).ex fd.scope) rest ρ) (fun p => p.2.getD .none = .list ((dvF k S votes r0).1.map .int)) := by
  cases hf
  cases hb
  obtain ⟨r1, r2, r3, r4, r5, r6⟩ := hr
  have hl5 := h.h5
  have hl1 := h.h1
  have hS := h.hS
  have hl0 := h.hl0
  dsimp only
  by_cases h0 : r0.sum < S
  · rw [if_pos h0] at r4
    have r5 := r5 h0
    have r6 := r6 h0
    have hR := dvR1_len (k := k) (S := S) (votes := votes) (r0 := r0)
    by_cases h1 : (dvR1 k S votes r0).sum < S
    · have hF : dvF k S votes r0 = dvLoop S (dvMin k S votes r0) (dvW k S votes) (dvR1 k S votes r0) votes.length := by unfold dvF; rw [if_pos h0, if_pos h1]
      rw [hF] at hd ⊢
      generalize dvMin k S votes r0 = mw at *
      have hWl : (dvW k S votes).length = votes.length := by simp [dvW]
      have hWa : ∀ i, i < votes.length → ((dvW k S votes).getD i []).length = S := fun i hi => dvW_at hi
      generalize dvW k S votes = WW at *
      generalize dvR1 k S votes r0 = R1 at *
      walk_at "w"
      refine K_d1 (fun _ => ?_) (fun hc => absurd h1 hc)
      walk_at "w"
      rw [List.length_map]
      refine forR_inv (fun j ρ => ρ "votes" = some (false, .list (votes.map .int)) ∧ ρ "seats" = some (false, .int S) ∧ ρ "tiesallowed" = some (false, .bool bt) ∧ ρ "representatives" = some (true, .list ((dvLoop S mw WW R1 j).1.map .int)) ∧ ρ "ties" = some (false, .bool (dvLoop S mw WW R1 j).2) ∧ ρ "weights" = some (true, .list (WW.map rowD)) ∧ ρ "minweight" = some (false, .int mw)) (fun ρ hI => ?_) (fun j ρ hj hI => ?_) ⟨?_, ?_, ?_, ?_, ?_, ?_, ?_⟩
      · obtain ⟨q1, q2, q3, q4, q5, q6, q7⟩ := hI
        generalize dvLoop S mw WW R1 votes.length = st at *
        obtain ⟨a, fl⟩ := st
        dsimp only at q4 q5 hd ⊢
        walk_at "w"
        cases fl with
        | false => walk_at "w"; rfl
        | true =>
          obtain rfl : bt = true := hd.resolve_left (by decide)
          walk_at "w"
          rfl
      · obtain ⟨q1, q2, q3, q4, q5, q6, q7⟩ := hI
        have hjw := hWa j hj
        have hll := dvLoop_len (S := S) (m := mw) (W := WW) (r := R1) j
        have hup : (dvLoop S mw WW R1 (j + 1)).2 = true → bt = true := fun h => hd.elim (fun q => by rw [dvLoop_up (show j + 1 ≤ votes.length from hj) h] at q; cases q) id
        rw [show dvLoop S mw WW R1 (j + 1) = dvStep S mw WW j (dvLoop S mw WW R1 j) from rfl] at hup ⊢
        generalize dvLoop S mw WW R1 j = st at *
        obtain ⟨a, fl⟩ := st
        unfold dvStep at hup ⊢
        dsimp only at q4 q5 hll hup ⊢
        by_cases hs : a.sum = S
        · by_cases hm : mw ∈ WW.getD j []
          · rw [if_pos ⟨hs, hm⟩] at hup ⊢
            obtain rfl : bt = true := hup rfl
            walk_at "w"
            refine K_d2 (fun q => absurd hs q) (fun _ => ?_)
            walk_at "w"
            refine K_d2 (fun q => absurd hm q) (fun _ => ?_)
            cases fl with
            | false =>
              walk_at "w"
              refine K_d2 (fun _ => ?_) (fun q => absurd q (by omega))
              walk_at "w"
              exact ⟨by walk_at "lk", by walk_at "lk", by walk_at "lk", by walk_at "lk", by walk_at "lk", by walk_at "lk", by walk_at "lk"⟩
            | true =>
              walk_at "w"
              refine K_d2 (fun _ => ?_) (fun q => absurd q (by omega))
              walk_at "w"
              exact ⟨by walk_at "lk", by walk_at "lk", by walk_at "lk", by walk_at "lk", by walk_at "lk", by walk_at "lk", by walk_at "lk"⟩
          · rw [if_neg (fun q => hm q.2), if_neg (fun q => hm q.2)] at hup ⊢
            walk_at "w"
            refine K_d2 (fun q => absurd hs q) (fun _ => ?_)
            walk_at "w"
            refine K_d2 (fun _ => ?_) (fun q => absurd q hm)
            walk_at "w"
            refine K_d2 (fun _ => ?_) (fun q => absurd q (by omega))
            walk_at "w"
            exact ⟨by walk_at "lk", by walk_at "lk", by walk_at "lk", by walk_at "lk", by walk_at "lk", by walk_at "lk", by walk_at "lk"⟩
        · rw [if_neg (fun q => hs q.1)] at hup ⊢
          walk_at "w"
          refine K_d2 (fun _ => ?_) (fun q => absurd q hs)
          walk_at "w"
          refine K_d2 (fun q => ?_) (fun q => ?_)
          · rw [if_neg (fun h => q h.1)]
            walk_at "w"
            exact ⟨by walk_at "lk", by walk_at "lk", by walk_at "lk", by walk_at "lk", by walk_at "lk", by walk_at "lk", by walk_at "lk"⟩
          · walk_at "w"
            refine K_d2 (fun q2 => ?_) (fun q2 => ?_)
            · rw [if_neg (fun h => q2 h.2)]
              walk_at "w"
              exact ⟨by walk_at "lk", by walk_at "lk", by walk_at "lk", by walk_at "lk", by walk_at "lk", by walk_at "lk", by walk_at "lk"⟩
            · rw [if_pos ⟨q, q2⟩]
              walk_at "w"
              rw [set_ints]
              exact ⟨by walk_at "lk", by walk_at "lk", by walk_at "lk", by walk_at "lk", by walk_at "lk", by walk_at "lk", by walk_at "lk"⟩
      all_goals first | exact r4 | walk_at "lk"
    · have hF : dvF k S votes r0 = (dvR1 k S votes r0, false) := by unfold dvF; rw [if_pos h0, if_neg h1]
      rw [hF]
      generalize dvR1 k S votes r0 = R1 at *
      walk_at "w"
      refine K_d1 (fun hc => absurd hc h1) (fun _ => ?_)
      walk_at "w"
      rfl
  · rw [if_neg h0] at r4
    have hF : dvF k S votes r0 = (r0, false) := by unfold dvF; rw [if_neg h0]
    rw [hF]
    walk_at "w"
    refine K_d1 (fun hc => absurd hc h0) (fun _ => ?_)
    walk_at "w"
    rfl

set_option maxHeartbeats 8000000 in
theorem dv_tie {k : Kd} {S : Nat} {votes r0 : List Int} {ρ : Rho} {fd : FuncData} {s1 s2 s3 : Stmt} {rest : List Stmt} (h : DOk k S votes r0) (hr : DEnd k S votes r0 false ρ)
    (hf : fdOf (Mine.hd.heap_39 P) "divisor" = some fd) (hb : fd.body = .stmts (s1 :: s2 :: s3 :: rest)) (hd : (dvF k S votes r0).2 = true) :
    (txL ((It (Mine.hd.heap_39 P) (n + 40)).ex fd.scope) ((Jt (Mine.hd.heap_39 P) (n + 40)).tx fd.scope) rest ρ).isSome = true := by
  cases hf
  cases hb
  obtain ⟨r1, r2, r3, r4, r5, r6⟩ := hr
  have hl5 := h.h5
  have hl1 := h.h1
  have hS := h.hS
  have hl0 := h.hl0
  dsimp only
  have h0 : r0.sum < S := by
    refine Classical.byContradiction fun h0 => ?_
    unfold dvF at hd; rw [if_neg h0] at hd; cases hd
  have h1 : (dvR1 k S votes r0).sum < S := by
    refine Classical.byContradiction fun h1 => ?_
    unfold dvF at hd; rw [if_pos h0, if_neg h1] at hd; cases hd
  rw [if_pos h0] at r4
  have r5 := r5 h0
  have r6 := r6 h0
  have hR := dvR1_len (k := k) (S := S) (votes := votes) (r0 := r0)
  have hF : dvF k S votes r0 = dvLoop S (dvMin k S votes r0) (dvW k S votes) (dvR1 k S votes r0) votes.length := by unfold dvF; rw [if_pos h0, if_pos h1]
  rw [hF] at hd
  generalize dvMin k S votes r0 = mw at *
  have hWl : (dvW k S votes).length = votes.length := by simp [dvW]
  have hWa : ∀ i, i < votes.length → ((dvW k S votes).getD i []).length = S := fun i hi => dvW_at hi
  generalize dvW k S votes = WW at *
  generalize dvR1 k S votes r0 = R1 at *
  refine TX_on ?_
  walk_at "w"
  refine TX_here (TX_if ?_)
  walk_at "w"
  refine K_d1 (fun _ => ?_) (fun hc => absurd h1 hc)
  refine TX_here (TX_for rfl ?_)
  walk_at "w"
  rw [List.length_map]
  refine txR_inv (fun j ρ => ρ "votes" = some (false, .list (votes.map .int)) ∧ ρ "seats" = some (false, .int S) ∧ ρ "tiesallowed" = some (false, .bool false) ∧ ρ "representatives" = some (true, .list ((dvLoop S mw WW R1 j).1.map .int)) ∧ ρ "ties" = some (false, .bool false) ∧ ρ "weights" = some (true, .list (WW.map rowD)) ∧ ρ "minweight" = some (false, .int mw) ∧ (dvLoop S mw WW R1 j).2 = false) (fun ρ hI => ?_) (fun j ρ hj hI => ?_) ⟨?_, ?_, ?_, ?_, ?_, ?_, ?_, ?_⟩
  · obtain ⟨q1, q2, q3, q4, q5, q6, q7, q8⟩ := hI
    rw [q8] at hd; cases hd
  · obtain ⟨q1, q2, q3, q4, q5, q6, q7, q8⟩ := hI
    have hjw := hWa j hj
    have hll := dvLoop_len (S := S) (m := mw) (W := WW) (r := R1) j
    rw [show dvLoop S mw WW R1 (j + 1) = dvStep S mw WW j (dvLoop S mw WW R1 j) from rfl]
    generalize dvLoop S mw WW R1 j = st at *
    obtain ⟨a, fl⟩ := st
    unfold dvStep
    dsimp only at q4 q8 hll ⊢
    subst q8
    by_cases hA : a.sum = S ∧ mw ∈ WW.getD j []
    · left
      obtain ⟨hs, hm⟩ := hA
      refine TX_here (TX_if ?_)
      walk_at "w"
      refine K_d2 (fun q => absurd hs q) (fun _ => ?_)
      walk_at "w"
      refine K_d2 (fun q => absurd hm q) (fun _ => ?_)
      walk_at "w"
      refine TX_here (TX_if ?_)
      walk_at "w"
      refine TX_here (TX_if ?_)
      walk_at "w"
      exact TX_here (TX_raise rfl)
    · right
      rw [if_neg hA]
      walk_at "w"
      by_cases hs : a.sum = S
      · have hm : ¬ mw ∈ WW.getD j [] := fun q => hA ⟨hs, q⟩
        refine K_d2 (fun q => absurd hs q) (fun _ => ?_)
        walk_at "w"
        refine K_d2 (fun _ => ?_) (fun q => absurd q hm)
        walk_at "w"
        refine K_d2 (fun _ => ?_) (fun q => absurd q (by omega))
        rw [if_neg (fun h => hm h.2)]
        walk_at "w"
        exact ⟨rfl, by walk_at "lk", by walk_at "lk", by walk_at "lk", by walk_at "lk", by walk_at "lk", by walk_at "lk", by walk_at "lk", rfl⟩
      · refine K_d2 (fun _ => ?_) (fun q => absurd q hs)
        walk_at "w"
        refine K_d2 (fun q => ?_) (fun q => ?_)
        · rw [if_neg (fun h => q h.1)]
          walk_at "w"
          exact ⟨rfl, by walk_at "lk", by walk_at "lk", by walk_at "lk", by walk_at "lk", by walk_at "lk", by walk_at "lk", by walk_at "lk", rfl⟩
        · walk_at "w"
          refine K_d2 (fun q2 => ?_) (fun q2 => ?_)
          · rw [if_neg (fun h => q2 h.2)]
            walk_at "w"
            exact ⟨rfl, by walk_at "lk", by walk_at "lk", by walk_at "lk", by walk_at "lk", by walk_at "lk", by walk_at "lk", by walk_at "lk", rfl⟩
          · rw [if_pos ⟨q, q2⟩]
            walk_at "w"
            rw [set_ints]
            exact ⟨rfl, by walk_at "lk", by walk_at "lk", by walk_at "lk", by walk_at "lk", by walk_at "lk", by walk_at "lk", by walk_at "lk", rfl⟩
  all_goals first | exact r4 | rfl | walk_at "lk"
end
end Mine

/-! TDw03 -/
namespace Mine
local macro_rules
  | `(tactic| walk_at "lk1") => `(tactic| first | with_reducible assumption | with_reducible exact lk_self | ((with_reducible refine' lk_upd ?hne ?_); (case hne => decide)) | ((with_reducible refine' lk_comp ?hne ?_); (case hne => rfl)) | ((with_reducible refine' lk_frz0 ?hne ?_); (case hne => rfl)) | ((with_reducible apply lk_frz1); (case h => rfl)))
local macro_rules
  | `(tactic| walk_at "lk") => `(tactic| ((repeat walk_at "lk1"); (try rfl)))
local macro_rules
  | `(tactic| walk_at "ex") => `(tactic| first
    | (with_reducible refine' W_nil ?_)
    | (with_reducible refine' W_cons ?_)
    | (with_reducible refine' Nx_n ?_)
    | (with_reducible refine' Nx_s ?_)
    | (with_reducible refine' W_pass ?_)
    | ((with_reducible refine' W_assign0 (fr := false) ?h1 ?h2 ?h3 ?_ ?h4); (case h1 => rfl); (case h2 => rfl); (case h3 => rfl); (case h4 => rfl))
    | ((with_reducible refine' W_assign0 (fr := true) ?h1 ?h2 ?h3 ?_ ?h4); (case h1 => rfl); (case h2 => rfl); (case h3 => rfl); (case h4 => rfl))
    | ((with_reducible refine' W_assign (fr := false) ?h1 ?h3 ?_ ?h4); (case h1 => rfl); (case h3 => rfl); (case h4 => rfl))
    | ((with_reducible refine' W_assign (fr := true) ?h1 ?h3 ?_ ?h4); (case h1 => rfl); (case h3 => rfl); (case h4 => rfl))
    | ((with_reducible refine' W_setsub ?h1 ?_); (case h1 => rfl))
    | ((with_reducible refine' W_aug ?h1 ?h2 ?_); (case h1 => rfl); (case h2 => walk_at "lk"))
    | ((with_reducible refine' W_augsub ?h1 ?h2 ?_); (case h1 => rfl); (case h2 => refine' ownL_of ?ho ?hl; (case ho => walk_at "lk"); (case hl => walk_at "ln")))
    | ((with_reducible refine' W_append0 ?h1 ?h2 ?h3 ?_); (case h1 => rfl); (case h2 => refine' ownL_of ?ho ?hl; (case ho => walk_at "lk"); (case hl => walk_at "ln")); (case h3 => rfl))
    | ((with_reducible refine' W_append ?h1 ?h2 ?h3 ?_); (case h1 => rfl); (case h2 => refine' ownL_of ?ho ?hl; (case ho => walk_at "lk"); (case hl => walk_at "ln")); (case h3 => refine' ownL_of ?ho ?hl; (case ho => walk_at "lk"); (case hl => walk_at "ln")))
    | (with_reducible refine' W_if ?_)
    | (with_reducible refine' W_ret ?_)
    | ((with_reducible refine' W_for0 ?h1 ?h2 ?h3 ?_); (case h1 => rfl); (case h2 => rfl); (case h3 => rfl))
    | ((with_reducible refine' W_for ?h1 ?h2 ?_); (case h1 => rfl); (case h2 => rfl))
    | (with_reducible refine' W_while ?_))
local macro_rules
  | `(tactic| walk_at "ev") => `(tactic| first
    | ((with_reducible refine' W_const ?h1 ?_); (case h1 => rfl))
    | ((with_reducible refine' W_name ?h1 ?h2 ?h3 ?h4 ?_); (case h1 => rfl); (case h2 => rfl); (case h3 => walk_at "lk"); (case h4 => rfl))
    | ((with_reducible refine' W_gname ?h1 ?h2 ?_); (case h1 => rfl); (case h2 => rfl))
    | (with_reducible refine' W_bin ?_)
    | (with_reducible refine' W_un ?_)
    | (with_reducible refine' W_boolop ?_)
    | (with_reducible refine' W_bool1 ?_)
    | (with_reducible refine' W_booland ?_)
    | ((with_reducible refine' W_cmp ?h1 ?_); (case h1 => rfl))
    | (with_reducible refine' W_ifexp ?_)
    | (with_reducible refine' W_list ?_)
    | (with_reducible refine' W_tuple ?_)
    | ((with_reducible refine' W_sub ?h1 ?_); (case h1 => rfl))
    | (with_reducible refine' W_evs0 ?_)
    | ((with_reducible refine' W_evs1 ?h1 ?_); (case h1 => rfl))
    | ((with_reducible refine' W_callf ?h1 ?h2 ?_); (case h1 => rfl); (case h2 => rfl))
    | ((with_reducible refine' W_callb ?h1 ?h2 ?_); (case h1 => rfl); (case h2 => rfl))
    | ((with_reducible refine' W_callt ?h1 ?h2 ?_); (case h1 => rfl); (case h2 => rfl))
    | ((with_reducible refine' W_isinst ?h1 ?h3 ?h2 ?_); (case h1 => rfl); (case h3 => rfl); (case h2 => rfl))
    | ((with_reducible refine' W_callrev ?h1 ?h2 ?h3 ?_); (case h1 => rfl); (case h2 => rfl); (case h3 => rfl))
    | ((with_reducible refine' W_range ?h1 ?h2 ?_); (case h1 => rfl); (case h2 => rfl))
    | ((with_reducible refine' W_srccall ?h1 ?_); (case h1 => rfl))
    | ((with_reducible refine' W_src ?h1 ?_); (case h1 => rfl))
    | ((with_reducible refine' W_comp ?h1 ?h2 ?_); (case h1 => rfl); (case h2 => rfl))
    | (with_reducible refine' W_tests0 ?_)
    | (with_reducible refine' W_tests1 ?_)
    | (with_reducible refine' T_not ?_)
    | (with_reducible refine' T_boolop ?_)
    | (with_reducible refine' T_and0 ?_)
    | (with_reducible refine' T_or0 ?_)
    | (with_reducible refine' T_and ?_)
    | (with_reducible refine' T_or ?_)
    | ((with_reducible refine' T_cmp ?h1 ?_); (case h1 => rfl))
    | ((with_reducible refine' T_val ?h1 ?_); (case h1 => rfl)))
local macro_rules
  | `(tactic| walk_at "ln") => `(tactic| first | decide | ((try simp only [List.length_map, List.length_append, List.length_cons, List.length_nil, List.length_replicate, List.length_range, lim]); omega))
local macro_rules
  | `(tactic| walk_at "vl") => `(tactic| first
    | (with_reducible refine' B_add ?_)
    | (with_reducible refine' B_sub ?_)
    | ((with_reducible refine' B_mod ?hz ?_); (case hz => decide))
    | ((with_reducible refine' B_pow ?hz ?_); (case hz => decide))
    | (with_reducible refine' U_neg ?_)
    | (with_reducible refine' I_int ?_)
    | (with_reducible refine' A_add ?_)
    | (with_reducible refine' A_sub ?_)
    | (with_reducible refine' C_lt ?_)
    | (with_reducible refine' C_le ?_)
    | (with_reducible refine' C_gt ?_)
    | (with_reducible refine' C_ge ?_)
    | (with_reducible refine' C_eqL ?_)
    | (with_reducible refine' C_neL ?_)
    | ((with_reducible refine' P_neg1 ?hl ?_); (case hl => walk_at "ln"))
    | ((refine' Ty_list ?hl ?_); (case hl => walk_at "ln"))
    | (with_reducible refine' C_eqi ?_)
    | (with_reducible refine' C_nei ?_)
    | (with_reducible refine' C_isnot ?_)
    | (with_reducible refine' Ty_int ?_)
    | (with_reducible refine' Is_il ?_)
    | (with_reducible refine' Is_ii ?_)
    | (with_reducible refine' Is_bi ?_)
    | (with_reducible refine' V_tr ?_)
    | (with_reducible refine' V_tri ?_)
    | ((with_reducible refine' X_ints ?hl ?hj ?_); (case hl => walk_at "ln"); (case hj => walk_at "ln"))
    | ((with_reducible refine' R_nat ?hl ?_); (case hl => walk_at "ln"))
    | ((with_reducible refine' S_list ?hl ?_); (case hl => walk_at "ln"))
    | (refine' F_sum ?_)
    | ((refine' F_maxL ?hl ?_); (case hl => walk_at "ln"))
    | ((with_reducible refine' X_rf (d := .tuple _) ?hl ?_); (case hl => rfl))
    | ((with_reducible refine' X_int0 ?hl ?hj ?_); (case hl => walk_at "ln"); (case hj => walk_at "ln"))
    | ((with_reducible refine' O_own ?ho ?_); (case ho => refine' ownL_of ?ha ?hl; (case ha => walk_at "lk"); (case hl => walk_at "ln")))
    | ((with_reducible refine' P_pos ?hl ?_); (case hl => walk_at "ln"))
    | ((with_reducible refine' B_zeros ?hl ?hj ?_); (case hl => walk_at "ln"); (case hj => walk_at "ln"))
    | (refine' L_ok ?hl ?_; (case hl => exact Nat.le_of_ble_eq_true rfl))
    | ((with_reducible refine' C_t ?hl ?_); (case hl => with_unfolding_all rfl))
    | ((with_reducible refine' C_f ?hl ?_); (case hl => with_unfolding_all rfl))
    | (with_reducible refine' K_tt ?_)
    | (with_reducible refine' K_ff ?_)
    | (with_reducible refine' K_tf ?_)
    | (with_reducible refine' K_ft ?_)
    | (with_reducible refine' K_n1 ?_)
    | (with_reducible refine' K_n2 ?_)
    | ((refine' F_len ?hl ?_); (case hl => walk_at "ln"))
    | ((refine' F_lent ?hl ?_); (case hl => walk_at "ln"))
    | ((with_reducible refine' B_mul ?hm ?_); (case hm => first | exact mulB_small (.inl (by decide)) | exact mulB_small (.inr (by decide)) | exact mulB_small (.inl (by omega)) | exact mulB_small (.inr (by omega))))
    | ((with_reducible refine' B_dv ?hm ?hn ?_); (case hm => first | decide | omega); (case hn => first | decide | omega)))
local macro_rules
  | `(tactic| walk_at "w") => `(tactic| (repeat (first | walk_at "ex" | walk_at "ev" | walk_at "vl")))
local macro_rules
  | `(tactic| walk_at "ex") => `(tactic| first
    | ((with_reducible refine' X_st ?h1 ?_); (case h1 => rfl))
    | ((with_reducible refine' X_if0 ?h1 ?_); (case h1 => rfl))
    | (with_reducible refine' X_if ?_)
    | (with_reducible refine' Tx_n ?_))
local macro_rules
  | `(tactic| walk_at "vl") => `(tactic| first
    | ((with_reducible refine' X_rows ?hl ?hj ?_); (case hl => walk_at "ln"); (case hj => walk_at "ln"))
    | ((with_reducible refine' B_snoc ?hl ?_); (case hl => walk_at "ln"))
    | (with_reducible refine' F_abs ?_)
    | ((refine' F_minL ?hl ?_); (case hl => walk_at "ln"))
    | ((refine' F_rev ?hl ?_); (case hl => walk_at "ln"))
    | ((with_reducible refine' R_down ?hl ?hj ?_); (case hl => first | decide | omega); (case hj => first | decide | omega))
    | (with_reducible refine' C_eqb ?_)
    | (with_reducible refine' C_eqR ?_)
    | (with_reducible refine' C_inI ?_)
    | (with_reducible refine' C_neR ?_))
local macro_rules
  | `(tactic| walk_at "ln") => `(tactic| ((try simp only [List.length_map, List.length_append, List.length_cons, List.length_nil, List.length_replicate, List.length_range, List.length_reverse, sortI_len, lim]); omega))
local macro_rules
  | `(tactic| walk_at "ev") => `(tactic| first
    | ((with_reducible refine' W_comp2 ?h1 ?h2 ?_); (case h1 => rfl); (case h2 => rfl))
    | (with_reducible refine' W_slice ?_))
local macro_rules
  | `(tactic| walk_at "ev") => `(tactic| first
    | ((with_reducible refine' W_callb ?h1 ?h2 ?_); (case h1 => rfl); (case h2 => rfl))
    | ((with_reducible refine' T_instr true ?h1 ?h2 ?h3 ?h4 ?h5 ?h6 ?_); (case h1 => rfl); (case h2 => rfl); (case h3 => walk_at "lk"); (case h4 => rfl); (case h5 => exact Nat.le_of_ble_eq_true rfl); (case h6 => with_unfolding_all rfl))
    | ((with_reducible refine' T_instr false ?h1 ?h2 ?h3 ?h4 ?h5 ?h6 ?_); (case h1 => rfl); (case h2 => rfl); (case h3 => walk_at "lk"); (case h4 => rfl); (case h5 => exact Nat.le_of_ble_eq_true rfl); (case h6 => with_unfolding_all rfl)))
local macro_rules
  | `(tactic| walk_at "vl") => `(tactic| first
    | ((with_reducible refine' R_from ?hl ?hj ?_); (case hl => omega); (case hj => omega)))
local macro_rules
  | `(tactic| walk_at "w") => `(tactic| (repeat ((fail_if_success (with_reducible refine' W_iscall ?_)); (first | walk_at "ex" | walk_at "ev" | walk_at "vl"))))

section
variable {P : Params} {n : Nat}

def jNames : List Str := [Str.ofString "dhondt", Str.ofString "jefferson", Str.ofString "greatestdivisors"]
def wNames : List Str := [Str.ofString "saintelague", Str.ofString "webster", Str.ofString "majorfractions"]
def hNames : List Str := [Str.ofString "huntington", Str.ofString "hill", Str.ofString "equalproportions"]
def aNames : List Str := [Str.ofString "adams", Str.ofString "smallestdivisor"]
def dNames : List Str := [Str.ofString "dean", Str.ofString "harmonicmean"]
def zeroR (votes : List Int) : List Int := List.replicate votes.length 0
def oneR (votes : List Int) : List Int := votes.map fun p => if 0 < p then 1 else 0
theorem oneR_le : ∀ votes : List Int, (oneR votes).sum ≤ votes.length
  | [] => by simp [oneR]
  | v :: r => by
    have := oneR_le r
    show (oneR (v :: r)).sum ≤ _
    unfold oneR at this ⊢
    rw [List.map_cons, List.sum_cons, List.length_cons]
    split <;> omega
theorem oneR_len (votes : List Int) : (oneR votes).length = votes.length := by simp [oneR]
theorem zeroR_len (votes : List Int) : (zeroR votes).length = votes.length := by simp [zeroR]

/-- a method's name, its kind, where each party starts -/
inductive Mth : Str → Kd → List Int → Nat → List Int → Prop
  | j {nm votes S} : nm ∈ jNames → Mth nm kJ votes S (zeroR votes)

theorem mth_sq {nm : Str} {k : Kd} {votes r0 : List Int} {S : Nat} (h : Mth nm k votes S r0) : (cmpD .In (.str nm) (.list [.str (Str.ofString "huntington"), .str (Str.ofString "hill"), .str (Str.ofString "equalproportions")])) = .ok k.sq := by
  cases h with
  | j h => simp only [jNames, List.mem_cons, List.not_mem_nil, or_false] at h; rcases h with rfl | rfl | rfl <;> with_unfolding_all rfl

set_option maxHeartbeats 16000000 in
theorem dv_start {nm : Str} {k : Kd} {votes r0 : List Int} {S : Nat} {bt : Bool} {fd : FuncData} {s1 s2 : Stmt} {rest : List Stmt} (hM : Mth nm k votes S r0) (h5 : votes.length ≤ 5) (hS : S ≤ 40)
    (hf : fdOf (Mine.hd.heap_39 P) "divisor" = some fd) (hb : fd.body = .stmts (s1 :: s2 :: rest)) :
    W (exsL ((It (Mine.hd.heap_39 P) (n + 40)).ex fd.scope) [s1, s2] (rhoOf [("votes", .list (votes.map .int)), ("seats", .int S), ("method", .str nm), ("tiesallowed", .bool bt)])) (fun p => p.2 = none ∧ DFr k S votes r0 nm bt p.1) := by
  cases hf
  cases hb
  dsimp only
  have hz : List.replicate ((votes.map PyData.int).length : Int).toNat (0 : Int) = zeroR votes := by rw [List.length_map]; rfl
  cases hM with
  | j h =>
    walk_at "w"
    simp only [jNames, List.mem_cons, List.not_mem_nil, or_false] at h
    rcases h with rfl | rfl | rfl
    all_goals
      walk_at "w"
      refine M_rangeD (fun i => tup2 (kJ.dn i, kJ.dd i)) (fun i hi => ?_) ?_
      · walk_at "w"
        rfl
      walk_at "w"
      refine ⟨rfl, by walk_at "lk", by walk_at "lk", by walk_at "lk", by walk_at "lk", by rw [← hz]; walk_at "lk", fun _ => ?_⟩
      rw [show (dvDs kJ S).map tup2 = (List.range S).map fun i => tup2 (kJ.dn i, kJ.dd i) by unfold dvDs; rw [List.map_map]; rfl]
      walk_at "lk"

theorem dv_body {nm : Str} {k : Kd} {votes r0 : List Int} {S : Nat} {bt : Bool} {fd : FuncData} {b : List Stmt} (hM : Mth nm k votes S r0) (h : DOk k S votes r0) (hd : (dvF k S votes r0).2 = false ∨ bt = true)
    (hf : fdOf (Mine.hd.heap_39 P) "divisor" = some fd) (hb : fd.body = .stmts b) :
    W (exsL ((It (Mine.hd.heap_39 P) (n + 40)).ex fd.scope) b (rhoOf [("votes", .list (votes.map .int)), ("seats", .int S), ("method", .str nm), ("tiesallowed", .bool bt)])) (fun p => p.2.getD .none = .list ((dvF k S votes r0).1.map .int)) := by
  have hf' := hf
  cases hf
  cases hb
  refine exs_app2 (b1 := [_, _]) (b2 := _ :: _) (fun ρ => DFr k S votes r0 nm bt ρ) (dv_start hM h.h5 h.hS hf' rfl) (fun ρ hr => ?_)
  refine W_cons ((dv_main h hr (mth_sq hM) hf' rfl).mono fun p hp => ?_)
  obtain ⟨ρ', d⟩ := p
  obtain ⟨rfl, hp⟩ := hp
  exact dv_end h hp hf' rfl hd
theorem dv_call4 {nm : Str} {k : Kd} {votes r0 : List Int} {S : Nat} {bt : Bool} (hM : Mth nm k votes S r0) (h : DOk k S votes r0) (hd : (dvF k S votes r0).2 = false ∨ bt = true) :
    (It (Mine.hd.heap_39 P) (n + 41)).call "divisor" [.list (votes.map .int), .int S, .str nm, .bool bt] = .ok (.list ((dvF k S votes r0).1.map .int)) := by
  refine W.val ?_
  refine W_call (binds := [("votes", .list (votes.map .int)), ("seats", .int S), ("method", .str nm), ("tiesallowed", .bool bt)]) rfl rfl rfl rfl rfl ?_
  exact dv_body hM h hd rfl rfl
theorem dv_call3 {nm : Str} {k : Kd} {votes r0 : List Int} {S : Nat} (hM : Mth nm k votes S r0) (h : DOk k S votes r0) :
    (It (Mine.hd.heap_39 P) (n + 41)).call "divisor" [.list (votes.map .int), .int S, .str nm] = .ok (.list ((dvF k S votes r0).1.map .int)) := by
  refine W.val ?_
  refine W_call (binds := [("votes", .list (votes.map .int)), ("seats", .int S), ("method", .str nm), ("tiesallowed", .bool true)]) rfl rfl rfl rfl rfl ?_
  exact dv_body hM h (.inr rfl) rfl rfl
theorem dv_tieC {nm : Str} {k : Kd} {votes r0 : List Int} {S : Nat} (hM : Mth nm k votes S r0) (h : DOk k S votes r0) (hd : (dvF k S votes r0).2 = true) :
    (Jt (Mine.hd.heap_39 P) (n + 41)).tc "divisor" [.list (votes.map .int), .int S, .str nm, .bool false] = true := by
  have go : ∀ {fd : FuncData} {b : List Stmt}, fdOf (Mine.hd.heap_39 P) "divisor" = some fd → fd.body = .stmts b → (txL ((It (Mine.hd.heap_39 P) (n + 40)).ex fd.scope) ((Jt (Mine.hd.heap_39 P) (n + 40)).tx fd.scope) b (rhoOf [("votes", .list (votes.map .int)), ("seats", .int S), ("method", .str nm), ("tiesallowed", .bool false)])).isSome = true := by
    intro fd b hf hb
    have hf' := hf
    cases hf
    cases hb
    refine txL_app (b1 := [_, _]) (b2 := _ :: _) (fun ρ => DFr k S votes r0 nm false ρ) (dv_start hM h.h5 h.hS hf' rfl) (fun ρ hr => ?_)
    refine TX_on ((dv_main h hr (mth_sq hM) hf' rfl).mono fun p hp => ?_)
    obtain ⟨ρ', d⟩ := p
    obtain ⟨rfl, hp⟩ := hp
    exact dv_tie h hp hf' rfl hd
  refine TC_call (binds := [("votes", .list (votes.map .int)), ("seats", .int S), ("method", .str nm), ("tiesallowed", .bool false)]) rfl rfl rfl rfl rfl ?_
  exact go rfl rfl

theorem apply_ok {vs : List D} : (It (Mine.hd.heap_39 P) (n + 20)).call "apply_threshold" [.list vs, .none] = .ok (.list vs) := by
  refine W.val ?_
  refine W_call (binds := [("votes", .list vs), ("threshold", .none)]) rfl rfl rfl rfl rfl ?_
  dsimp only
  walk_at "w"
  rfl

def allN : List Str := jNames
theorem mth_name {nm : Str} {k : Kd} {votes r0 : List Int} {S : Nat} (h : Mth nm k votes S r0) : nm ∈ allN := by
  cases h with
  | j h => simp [allN, h]
set_option maxHeartbeats 16000000 in
theorem compute_body {nm : Str} {k : Kd} {votes r0 : List Int} {S : Nat} {bt : Bool} {fd : FuncData} {b : List Stmt} (hM : Mth nm k votes S r0) (h : DOk k S votes r0) (hd : (dvF k S votes r0).2 = false ∨ bt = true)
    (hf : fdOf (Mine.hd.heap_39 P) "compute" = some fd) (hb : fd.body = .stmts b) :
    W (exsL ((It (Mine.hd.heap_39 P) (n + 50)).ex fd.scope) b (rhoOf [("method", .str nm), ("votes", .list (votes.map .int)), ("seats", .int S), ("threshold", .none), ("tiesallowed", .bool bt)])) (fun p => p.2.getD .none = .list ((dvF k S votes r0).1.map .int)) := by
  cases hf
  cases hb
  dsimp only
  walk_at "w"
  refine W.eq apply_ok ?_
  have hn := mth_name hM
  simp only [allN, List.mem_append, jNames, wNames, hNames, aNames, dNames, List.mem_cons, List.not_mem_nil, or_false, or_assoc] at hn
  rcases hn with rfl | rfl | rfl
  all_goals
    walk_at "w"
    refine W.eq (dv_call4 hM h hd) ?_
    walk_at "w"
    rfl
theorem compute3 {nm : Str} {k : Kd} {votes r0 : List Int} {S : Nat} (hM : Mth nm k votes S r0) (h : DOk k S votes r0) :
    (It (Mine.hd.heap_39 P) (n + 51)).call "compute" [.str nm, .list (votes.map .int), .int S] = .ok (.list ((dvF k S votes r0).1.map .int)) := by
  refine W.val ?_
  refine W_call (binds := [("method", .str nm), ("votes", .list (votes.map .int)), ("seats", .int S), ("threshold", .none), ("tiesallowed", .bool true)]) rfl rfl rfl rfl rfl ?_
  exact compute_body hM h (.inr rfl) rfl rfl
theorem compute5 {nm : Str} {k : Kd} {votes r0 : List Int} {S : Nat} (hM : Mth nm k votes S r0) (h : DOk k S votes r0) (hd : (dvF k S votes r0).2 = false) :
    (It (Mine.hd.heap_39 P) (n + 51)).call "compute" [.str nm, .list (votes.map .int), .int S, .none, .bool false] = .ok (.list ((dvF k S votes r0).1.map .int)) := by
  refine W.val ?_
  refine W_call (binds := [("method", .str nm), ("votes", .list (votes.map .int)), ("seats", .int S), ("threshold", .none), ("tiesallowed", .bool false)]) rfl rfl rfl rfl rfl ?_
  exact compute_body hM h (.inl hd) rfl rfl
set_option maxHeartbeats 16000000 in
theorem compute_tie {nm : Str} {k : Kd} {votes r0 : List Int} {S : Nat} (hM : Mth nm k votes S r0) (h : DOk k S votes r0) (hd : (dvF k S votes r0).2 = true) :
    (Jt (Mine.hd.heap_39 P) (n + 51)).tc "compute" [.str nm, .list (votes.map .int), .int S, .none, .bool false] = true := by
  refine TC_call (binds := [("method", .str nm), ("votes", .list (votes.map .int)), ("seats", .int S), ("threshold", .none), ("tiesallowed", .bool false)]) rfl rfl rfl rfl rfl ?_
  dsimp only
  refine TX_on ?_
  walk_at "w"
  refine W.eq apply_ok ?_
  have hn := mth_name hM
  simp only [allN, List.mem_append, jNames, wNames, hNames, aNames, dNames, List.mem_cons, List.not_mem_nil, or_false, or_assoc] at hn
  rcases hn with rfl | rfl | rfl
  all_goals
    walk_at "w"
    refine TX_here (TX_if ?_)
    walk_at "w"
    refine TX_here (TX_if ?_)
    walk_at "w"
    refine TX_here (TX_if ?_)
    walk_at "w"
    refine TX_here (TX_ret rfl rfl ?_)
    walk_at "w"
    exact dv_tieC hM h hd
end
end Mine

/-! M03q -/
namespace Mine
/-! quota -/
def qCommon (a : List Int) : Int := a.foldl (fun c r => c * (r + 1)) 1
def qOne (votes a : List Int) : List Int := (List.range votes.length).map fun i => (votes.getD i 0 * qCommon a).fdiv (a.getD i 0 + 1)
def qUp (votes : List Int) (s : Int) : List Int := votes.map fun p => -((-p * (s + 1)).fdiv votes.sum)
def qTwo (votes a : List Int) : List Int := (List.range votes.length).map fun i => if (qUp votes a.sum).getD i 0 ≤ a.getD i 0 then 0 else (qOne votes a).getD i 0
def qPick (votes a : List Int) : Nat := ((List.range votes.length).filter fun i => decide ((qTwo votes a).getD i 0 = maxL (qTwo votes a))).headD 0
def qNext (votes a : List Int) : List Int := a.set (qPick votes a) (a.getD (qPick votes a) 0 + 1)
def qIter (votes : List Int) : Nat → List Int
  | 0 => List.replicate votes.length 0
  | k + 1 => qNext votes (qIter votes k)

theorem maxI_mem : ∀ (r : List Int) (x : Int), maxI x r ∈ x :: r
  | [], x => by simp [maxI]
  | y :: r, x => by
    have := maxI_mem r (if x < y then y else x)
    unfold maxI
    rcases List.mem_cons.mp this with h | h
    · rw [h]; split <;> simp
    · exact List.mem_cons_of_mem _ (List.mem_cons_of_mem _ h)
theorem maxL_mem {xs : List Int} (h : 0 < xs.length) : maxL xs ∈ xs := by
  cases xs with
  | nil => simp at h
  | cons x r => exact maxI_mem r x
theorem qTwo_len {votes a : List Int} : (qTwo votes a).length = votes.length := by simp [qTwo]
theorem qPick_ne {votes a : List Int} (h : 0 < votes.length) : 0 < ((List.range votes.length).filter fun i => decide ((qTwo votes a).getD i 0 = maxL (qTwo votes a))).length := by
  have hm := maxL_mem (xs := qTwo votes a) (by rw [qTwo_len]; exact h)
  obtain ⟨i, hi, e⟩ := List.mem_iff_getElem.mp hm
  rw [qTwo_len] at hi
  refine List.length_pos_of_mem (a := i) (List.mem_filter.mpr ⟨List.mem_range.mpr hi, ?_⟩)
  rw [decide_eq_true_eq, List.getD_eq_getElem?_getD, List.getElem?_eq_getElem (by rw [qTwo_len]; exact hi)]
  exact e
theorem headD_mem {l : List Nat} (h : 0 < l.length) : l.headD 0 ∈ l := by
  cases l with
  | nil => simp at h
  | cons x r => simp
theorem qPick_lt {votes a : List Int} (h : 0 < votes.length) : qPick votes a < votes.length := by
  have := headD_mem (qPick_ne (a := a) h)
  exact List.mem_range.mp (List.mem_filter.mp this).1
theorem sum_set : ∀ {a : List Int} {j : Nat}, j < a.length → (a.set j (a.getD j 0 + 1)).sum = a.sum + 1
  | x :: r, 0, _ => by simp; omega
  | x :: r, j + 1, h => by
    have := sum_set (a := r) (j := j) (by simpa using h)
    simp only [List.set_cons_succ, List.sum_cons, List.getD_cons_succ]
    omega
theorem qIter_len {votes : List Int} : ∀ k, (qIter votes k).length = votes.length
  | 0 => by simp [qIter]
  | k + 1 => by simp [qIter, qNext, qIter_len k]
theorem qIter_sum {votes : List Int} (h : 0 < votes.length) : ∀ k, (qIter votes k).sum = k
  | 0 => by
    show (List.replicate votes.length (0 : Int)).sum = 0
    generalize votes.length = n
    induction n with
    | zero => rfl
    | succ n ih => rw [List.replicate_succ, List.sum_cons, ih]; rfl
  | k + 1 => by
    show (qNext votes (qIter votes k)).sum = _
    unfold qNext
    rw [sum_set (by rw [qIter_len]; exact qPick_lt h), qIter_sum h k]; omega
theorem qIter_nn {votes : List Int} : ∀ k, ∀ x ∈ qIter votes k, 0 ≤ x
  | 0, x, hx => by rw [List.eq_of_mem_replicate hx]; exact Int.le_refl 0
  | k + 1, x, hx => by
    have ih := qIter_nn (votes := votes) k
    rcases List.mem_or_eq_of_mem_set hx with h | h
    · exact ih x h
    · rw [h]
      by_cases hl : qPick votes (qIter votes k) < (qIter votes k).length
      · have := ih _ (List.getElem_mem hl)
        rw [List.getD_eq_getElem?_getD, List.getElem?_eq_getElem hl]
        show 0 ≤ (qIter votes k)[qPick votes (qIter votes k)] + 1
        omega
      · rw [List.getD_eq_getElem?_getD, List.getElem?_eq_none (by omega)]; decide
theorem le_sum_of_nn : ∀ {a : List Int}, (∀ x ∈ a, 0 ≤ x) → ∀ x ∈ a, x ≤ a.sum
  | y :: r, h, x, hx => by
    have hr : 0 ≤ r.sum := by
      clear hx
      have h' : ∀ z ∈ r, 0 ≤ z := fun z hz => h z (List.mem_cons_of_mem _ hz)
      clear h
      induction r with
      | nil => decide
      | cons z r ih => rw [List.sum_cons]; have := h' z List.mem_cons_self; have := ih fun u hu => h' u (List.mem_cons_of_mem _ hu); omega
    rw [List.sum_cons]
    have := h y List.mem_cons_self
    rcases List.mem_cons.mp hx with rfl | hx
    · omega
    · have := le_sum_of_nn (fun z hz => h z (List.mem_cons_of_mem _ hz)) x hx; omega
theorem getD_le {a : List Int} {b : Int} (h : ∀ x ∈ a, 0 ≤ x ∧ x ≤ b) (hb : 0 ≤ b) (i : Nat) : 0 ≤ a.getD i 0 ∧ a.getD i 0 ≤ b := by
  rw [List.getD_eq_getElem?_getD]
  by_cases hi : i < a.length
  · rw [List.getElem?_eq_getElem hi]; exact h _ (List.getElem_mem hi)
  · rw [List.getElem?_eq_none (by omega)]; exact ⟨Int.le_refl 0, hb⟩

theorem getD_cast (l : List Nat) : (l.map fun (i : Nat) => (i : Int)).getD 0 0 = ((l.headD 0 : Nat) : Int) := by cases l <;> rfl
theorem foldl_bd : ∀ {a : List Int} {c : Int}, (∀ x ∈ a, 0 ≤ x ∧ x ≤ 20) → 0 < c → 0 < a.foldl (fun c r => c * (r + 1)) c ∧ a.foldl (fun c r => c * (r + 1)) c ≤ c * 21 ^ a.length
  | [], c, _, hc => by simp; exact hc
  | x :: r, c, h, hc => by
    have hx := h x List.mem_cons_self
    have h1 : 0 < c * (x + 1) := Int.mul_pos hc (by omega)
    obtain ⟨h2, h3⟩ := foldl_bd (a := r) (c := c * (x + 1)) (fun y hy => h y (List.mem_cons_of_mem _ hy)) h1
    refine ⟨h2, Int.le_trans h3 ?_⟩
    rw [List.length_cons, Int.pow_succ, Int.mul_comm (21 ^ r.length) 21, ← Int.mul_assoc]
    exact Int.mul_le_mul_of_nonneg_right (Int.mul_le_mul_of_nonneg_left (by omega) (by omega)) (Int.le_of_lt (Int.pow_pos (by decide)))
theorem qCommon_le {a : List Int} (hl : a.length ≤ 4) (h : ∀ x ∈ a, 0 ≤ x ∧ x ≤ 20) : 0 < qCommon a ∧ qCommon a ≤ 21 ^ 4 := by
  obtain ⟨h1, h2⟩ := foldl_bd (a := a) (c := 1) h (by decide)
  refine ⟨h1, Int.le_trans h2 ?_⟩
  rw [Int.one_mul]
  have : ∀ k, k ≤ 4 → (21 : Int) ^ k ≤ 21 ^ 4 := by decide
  exact this _ hl


/-! The quota method picks, at each house, the best seat that is free to be dealt. -/
theorem maxI_ge : ∀ (r : List Int) (x : Int), x ≤ maxI x r ∧ ∀ y ∈ r, y ≤ maxI x r
  | [], x => ⟨Int.le_refl _, fun _ h => by cases h⟩
  | z :: r, x => by
    obtain ⟨h1, h2⟩ := maxI_ge r (if x < z then z else x)
    unfold maxI
    have hb : x ≤ maxI (if x < z then z else x) r ∧ z ≤ maxI (if x < z then z else x) r := by
      by_cases e : x < z
      · rw [if_pos e] at h1 ⊢; omega
      · rw [if_neg e] at h1 ⊢; omega
    refine ⟨hb.1, fun y hy => ?_⟩
    rcases List.mem_cons.mp hy with rfl | hy
    · exact hb.2
    · exact h2 y hy
theorem maxL_ge {xs : List Int} {y : Int} (h : y ∈ xs) : y ≤ maxL xs := by
  cases xs with
  | nil => cases h
  | cons x r =>
    rcases List.mem_cons.mp h with rfl | h
    · exact (maxI_ge r y).1
    · exact (maxI_ge r x).2 y h

theorem head_min {n : Nat} {p : Nat → Bool} {j : Nat} (hj : j < n) (hp : p j = true) : ((List.range n).filter p).headD 0 ≤ j ∧ p (((List.range n).filter p).headD 0) = true ∧ ((List.range n).filter p).headD 0 < n := by
  have hm : j ∈ (List.range n).filter p := List.mem_filter.mpr ⟨List.mem_range.mpr hj, hp⟩
  have hs : ((List.range n).filter p).Pairwise (· < ·) := List.Pairwise.filter _ List.pairwise_lt_range
  generalize hl : (List.range n).filter p = l at hm hs
  cases l with
  | nil => cases hm
  | cons x r =>
    have hx : x ∈ (List.range n).filter p := by rw [hl]; exact List.mem_cons_self
    refine ⟨?_, (List.mem_filter.mp hx).2, List.mem_range.mp (List.mem_filter.mp hx).1⟩
    rcases List.mem_cons.mp hm with rfl | hm
    · exact Nat.le_refl _
    · exact Nat.le_of_lt ((List.pairwise_cons.mp hs).1 _ hm)

theorem getD_get {xs : List Int} {j : Nat} (h : j < xs.length) : xs.getD j 0 = xs[j] := by
  rw [List.getD_eq_getElem?_getD, List.getElem?_eq_getElem h]; rfl
theorem getD_map {f : Nat → Int} {n j : Nat} (h : j < n) : ((List.range n).map f).getD j 0 = f j := by
  rw [getD_get (by simpa using h)]; simp
theorem getD_map' {f : Int → Int} {xs : List Int} {j : Nat} (h : j < xs.length) : (xs.map f).getD j 0 = f (xs.getD j 0) := by
  rw [getD_get (by simpa using h), getD_get h]; simp

theorem dvd_foldl : ∀ (a : List Int) (c : Int), c ∣ a.foldl (fun c r => c * (r + 1)) c
  | [], c => Int.dvd_refl c
  | x :: r, c => Int.dvd_trans (Int.dvd_mul_right c (x + 1)) (dvd_foldl r (c * (x + 1)))
theorem dvd_common {a : List Int} : ∀ {c : Int} {x : Int}, x ∈ a → (x + 1) ∣ a.foldl (fun c r => c * (r + 1)) c := by
  induction a with
  | nil => intro c x h; cases h
  | cons y r ih =>
    intro c x h
    rcases List.mem_cons.mp h with rfl | h
    · exact Int.dvd_trans (Int.dvd_mul_left c (x + 1)) (dvd_foldl r (c * (x + 1)))
    · exact ih h

theorem sum_le_of {V c : Int} : ∀ {vs a : List Int}, vs.length = a.length → (∀ j, j < vs.length → vs.getD j 0 * c ≤ a.getD j 0 * V) → vs.sum * c ≤ a.sum * V
  | [], [], _, _ => by simp
  | v :: vs, x :: a, hl, h => by
    have h0 := h 0 (by simp)
    have ih := sum_le_of (vs := vs) (a := a) (by simpa using hl) (fun j hj => by have := h (j + 1) (by simpa using hj); simpa using this)
    rw [List.sum_cons, List.sum_cons, Int.add_mul, Int.add_mul]
    have h0' : v * c ≤ x * V := by simpa using h0
    omega

section
variable {votes : List Int}

theorem up_iff (hV : 0 < votes.sum) {s c : Int} {j : Nat} (hj : j < votes.length) : (qUp votes s).getD j 0 ≤ c ↔ votes.getD j 0 * (s + 1) ≤ c * votes.sum := by
  unfold qUp
  rw [getD_map' hj, Int.fdiv_eq_ediv_of_nonneg _ (Int.le_of_lt hV)]
  have := Int.le_ediv_iff_mul_le (a := -c) (b := -votes.getD j 0 * (s + 1)) hV
  rw [Int.neg_mul, Int.neg_mul] at this
  rw [Int.neg_mul]
  omega

structure St (votes a : List Int) (t : Nat) : Prop where
  len : a.length = votes.length
  nn : ∀ x ∈ a, 0 ≤ x
  sum : a.sum = t

theorem a_nn {a : List Int} {t : Nat} (S : St votes a t) (j : Nat) : 0 ≤ a.getD j 0 := by
  by_cases hj : j < a.length
  · rw [getD_get hj]; exact S.nn _ (List.getElem_mem hj)
  · rw [List.getD_eq_getElem?_getD, List.getElem?_eq_none (by omega)]; exact Int.le_refl _

theorem common_pos {a : List Int} (h : ∀ x ∈ a, 0 ≤ x) : 0 < qCommon a := by
  have : ∀ (a : List Int) (c : Int), (∀ x ∈ a, 0 ≤ x) → 0 < c → 0 < a.foldl (fun c r => c * (r + 1)) c := fun a => by
    induction a with
    | nil => intro c _ hc; exact hc
    | cons x r ih =>
      intro c hx hc
      exact ih _ (fun y hy => hx y (List.mem_cons_of_mem _ hy)) (Int.mul_pos hc (by have := hx x List.mem_cons_self; omega))
  exact this a 1 h (by decide)

theorem qOne_mul {a : List Int} {t : Nat} (S : St votes a t) {j : Nat} (hj : j < votes.length) : (qOne votes a).getD j 0 * (a.getD j 0 + 1) = votes.getD j 0 * qCommon a := by
  unfold qOne
  rw [getD_map hj]
  have h0 := a_nn S j
  have hd : (a.getD j 0 + 1) ∣ qCommon a := by
    have hj' : j < a.length := by rw [S.len]; exact hj
    rw [getD_get hj']; exact dvd_common (List.getElem_mem hj')
  rw [Int.fdiv_eq_ediv_of_nonneg _ (by omega)]
  exact Int.ediv_mul_cancel (Int.dvd_trans hd (Int.dvd_mul_left _ _))

theorem qTwo_at {a : List Int} {t : Nat} (S : St votes a t) (hV : 0 < votes.sum) {j : Nat} (hj : j < votes.length) :
    (qTwo votes a).getD j 0 = if votes.getD j 0 * ((t : Int) + 1) ≤ a.getD j 0 * votes.sum then 0 else (qOne votes a).getD j 0 := by
  unfold qTwo
  rw [getD_map hj]
  have := up_iff (votes := votes) hV (s := a.sum) (c := a.getD j 0) hj
  rw [S.sum] at this
  rw [S.sum]
  by_cases h : votes.getD j 0 * ((t : Int) + 1) ≤ a.getD j 0 * votes.sum
  · rw [if_pos h, if_pos (this.mpr h)]
  · rw [if_neg h, if_neg fun q => h (this.mp q)]

theorem v_nn (hv : ∀ v ∈ votes, 0 ≤ v) (j : Nat) : 0 ≤ votes.getD j 0 := by
  by_cases hj : j < votes.length
  · rw [getD_get hj]; exact hv _ (List.getElem_mem hj)
  · rw [List.getD_eq_getElem?_getD, List.getElem?_eq_none (by omega)]; exact Int.le_refl _

theorem elig_pos (hv : ∀ v ∈ votes, 0 ≤ v) {a : List Int} {t : Nat} (S : St votes a t) (hV : 0 < votes.sum) {j : Nat} (h : a.getD j 0 * votes.sum < votes.getD j 0 * ((t : Int) + 1)) : 0 < votes.getD j 0 := by
  have h1 := a_nn S j
  have h2 := v_nn hv j
  have h3 : 0 ≤ a.getD j 0 * votes.sum := Int.mul_nonneg h1 (Int.le_of_lt hV)
  by_cases e : votes.getD j 0 = 0
  · rw [e, Int.zero_mul] at h; omega
  · omega

theorem pick_spec (hv : ∀ v ∈ votes, 0 ≤ v) {a : List Int} {t : Nat} (S : St votes a t) (hV : 0 < votes.sum) (hn : 0 < votes.length) :
    qPick votes a < votes.length ∧ a.getD (qPick votes a) 0 * votes.sum < votes.getD (qPick votes a) 0 * ((t : Int) + 1) ∧
    ∀ j, j < votes.length → a.getD j 0 * votes.sum < votes.getD j 0 * ((t : Int) + 1) →
      (a.getD (qPick votes a) 0 + 1) * votes.getD j 0 < (a.getD j 0 + 1) * votes.getD (qPick votes a) 0 ∨ ((a.getD (qPick votes a) 0 + 1) * votes.getD j 0 = (a.getD j 0 + 1) * votes.getD (qPick votes a) 0 ∧ qPick votes a ≤ j) := by
  have hC := common_pos S.nn
  have qpos : ∀ j, j < votes.length → a.getD j 0 * votes.sum < votes.getD j 0 * ((t : Int) + 1) → 0 < (qTwo votes a).getD j 0 := fun j hj he => by
    rw [qTwo_at S hV hj, if_neg (by omega)]
    have h1 := qOne_mul S hj
    have h2 := elig_pos hv S hV he
    have h3 : 0 < votes.getD j 0 * qCommon a := Int.mul_pos h2 hC
    rw [← h1] at h3
    have h4 := a_nn S j
    exact Int.pos_of_mul_pos_left h3 (by omega)
  -- somebody may be served
  have hex : ∃ j, j < votes.length ∧ a.getD j 0 * votes.sum < votes.getD j 0 * ((t : Int) + 1) := by
    refine Classical.byContradiction fun hno => ?_
    have := sum_le_of (V := votes.sum) (c := (t : Int) + 1) (vs := votes) (a := a) S.len.symm fun j hj => by
      refine Int.not_lt.mp fun q => hno ⟨j, hj, q⟩
    rw [S.sum, Int.mul_comm (t : Int), Int.mul_add] at this
    omega
  obtain ⟨j0, hj0, he0⟩ := hex
  have hlen2 : (qTwo votes a).length = votes.length := qTwo_len
  have hmem := maxL_mem (xs := qTwo votes a) (by omega)
  obtain ⟨m, hm, em⟩ := List.mem_iff_getElem.mp hmem
  have hmax : 0 < maxL (qTwo votes a) := by
    have h1 := qpos j0 hj0 he0
    have h2 : (qTwo votes a).getD j0 0 ≤ maxL (qTwo votes a) := by rw [getD_get (by omega)]; exact maxL_ge (List.getElem_mem _)
    omega
  obtain ⟨_, hp, hlt⟩ := head_min (n := votes.length) (p := fun i => decide ((qTwo votes a).getD i 0 = maxL (qTwo votes a))) (j := m) (by omega) (decide_eq_true (by rw [getD_get hm, em]))
  have hpk : (qTwo votes a).getD (qPick votes a) 0 = maxL (qTwo votes a) := of_decide_eq_true hp
  have hlt : qPick votes a < votes.length := hlt
  have he : a.getD (qPick votes a) 0 * votes.sum < votes.getD (qPick votes a) 0 * ((t : Int) + 1) := by
    refine Int.not_le.mp fun q => ?_
    rw [qTwo_at S hV hlt, if_pos q] at hpk
    omega
  refine ⟨hlt, he, fun j hj hej => ?_⟩
  have hle : (qTwo votes a).getD j 0 ≤ maxL (qTwo votes a) := by rw [getD_get (by omega)]; exact maxL_ge (List.getElem_mem _)
  have e1 := qOne_mul S hlt
  have e2 := qOne_mul S hj
  have f1 : (qTwo votes a).getD (qPick votes a) 0 = (qOne votes a).getD (qPick votes a) 0 := by rw [qTwo_at S hV hlt, if_neg (by omega)]
  have f2 : (qTwo votes a).getD j 0 = (qOne votes a).getD j 0 := by rw [qTwo_at S hV hj, if_neg (by omega)]
  have n1 := a_nn S (qPick votes a)
  have n2 := a_nn S j
  rw [← hpk, f1, f2] at hle
  generalize (qOne votes a).getD (qPick votes a) 0 = q1 at *
  generalize (qOne votes a).getD j 0 = q2 at *
  generalize hx : a.getD (qPick votes a) 0 + 1 = x at *
  generalize hy : a.getD j 0 + 1 = y at *
  generalize hvi : votes.getD (qPick votes a) 0 = vi at *
  generalize hvj : votes.getD j 0 = vj at *
  have hx0 : 0 < x := by omega
  have hy0 : 0 < y := by omega
  have hxy : 0 < x * y := Int.mul_pos hx0 hy0
  have k1 : x * vj * qCommon a = q2 * (x * y) := by
    rw [Int.mul_assoc, ← e2, ← Int.mul_assoc, Int.mul_comm x q2, Int.mul_assoc]
  have k2 : y * vi * qCommon a = q1 * (x * y) := by
    rw [Int.mul_assoc, ← e1, ← Int.mul_assoc, Int.mul_comm y q1, Int.mul_assoc, Int.mul_comm y x]
  have k3 : x * vj * qCommon a ≤ y * vi * qCommon a := by
    rw [k1, k2]; exact Int.mul_le_mul_of_nonneg_right hle (Int.le_of_lt hxy)
  have k4 : x * vj ≤ y * vi := Int.le_of_mul_le_mul_right k3 hC
  by_cases heq : x * vj = y * vi
  · refine .inr ⟨heq, ?_⟩
    have hq : q2 = q1 := by
      have : q2 * (x * y) = q1 * (x * y) := by rw [← k1, ← k2, heq]
      exact Int.eq_of_mul_eq_mul_right (by omega) this
    have : (qTwo votes a).getD j 0 = maxL (qTwo votes a) := by rw [f2, hq, ← f1, hpk]
    exact (head_min (n := votes.length) (p := fun i => decide ((qTwo votes a).getD i 0 = maxL (qTwo votes a))) hj (decide_eq_true this)).1
  · exact .inl (by omega)
end
end Mine

/-! Q103 -/
namespace Mine
local macro_rules
  | `(tactic| walk_at "lk1") => `(tactic| first | with_reducible assumption | with_reducible exact lk_self | ((with_reducible refine' lk_upd ?hne ?_); (case hne => decide)) | ((with_reducible refine' lk_comp ?hne ?_); (case hne => rfl)) | ((with_reducible refine' lk_frz0 ?hne ?_); (case hne => rfl)) | ((with_reducible apply lk_frz1); (case h => rfl)))
local macro_rules
  | `(tactic| walk_at "lk") => `(tactic| ((repeat walk_at "lk1"); (try rfl)))
local macro_rules
  | `(tactic| walk_at "ex") => `(tactic| first
    | (with_reducible refine' W_nil ?_)
    | (with_reducible refine' W_cons ?_)
    | (with_reducible refine' Nx_n ?_)
    | (with_reducible refine' Nx_s ?_)
    | (with_reducible refine' W_pass ?_)
    | ((with_reducible refine' W_assign0 (fr := false) ?h1 ?h2 ?h3 ?_ ?h4); (case h1 => rfl); (case h2 => rfl); (case h3 => rfl); (case h4 => rfl))
    | ((with_reducible refine' W_assign0 (fr := true) ?h1 ?h2 ?h3 ?_ ?h4); (case h1 => rfl); (case h2 => rfl); (case h3 => rfl); (case h4 => rfl))
    | ((with_reducible refine' W_assign (fr := false) ?h1 ?h3 ?_ ?h4); (case h1 => rfl); (case h3 => rfl); (case h4 => rfl))
    | ((with_reducible refine' W_assign (fr := true) ?h1 ?h3 ?_ ?h4); (case h1 => rfl); (case h3 => rfl); (case h4 => rfl))
    | ((with_reducible refine' W_setsub ?h1 ?_); (case h1 => rfl))
    | ((with_reducible refine' W_aug ?h1 ?h2 ?_); (case h1 => rfl); (case h2 => walk_at "lk"))
    | ((with_reducible refine' W_augsub ?h1 ?h2 ?_); (case h1 => rfl); (case h2 => refine' ownL_of ?ho ?hl; (case ho => walk_at "lk"); (case hl => walk_at "ln")))
    | ((with_reducible refine' W_append0 ?h1 ?h2 ?h3 ?_); (case h1 => rfl); (case h2 => refine' ownL_of ?ho ?hl; (case ho => walk_at "lk"); (case hl => walk_at "ln")); (case h3 => rfl))
    | ((with_reducible refine' W_append ?h1 ?h2 ?h3 ?_); (case h1 => rfl); (case h2 => refine' ownL_of ?ho ?hl; (case ho => walk_at "lk"); (case hl => walk_at "ln")); (case h3 => refine' ownL_of ?ho ?hl; (case ho => walk_at "lk"); (case hl => walk_at "ln")))
    | (with_reducible refine' W_if ?_)
    | (with_reducible refine' W_ret ?_)
    | ((with_reducible refine' W_for0 ?h1 ?h2 ?h3 ?_); (case h1 => rfl); (case h2 => rfl); (case h3 => rfl))
    | ((with_reducible refine' W_for ?h1 ?h2 ?_); (case h1 => rfl); (case h2 => rfl))
    | (with_reducible refine' W_while ?_))
local macro_rules
  | `(tactic| walk_at "ev") => `(tactic| first
    | ((with_reducible refine' W_const ?h1 ?_); (case h1 => rfl))
    | ((with_reducible refine' W_name ?h1 ?h2 ?h3 ?h4 ?_); (case h1 => rfl); (case h2 => rfl); (case h3 => walk_at "lk"); (case h4 => rfl))
    | ((with_reducible refine' W_gname ?h1 ?h2 ?_); (case h1 => rfl); (case h2 => rfl))
    | (with_reducible refine' W_bin ?_)
    | (with_reducible refine' W_un ?_)
    | (with_reducible refine' W_boolop ?_)
    | (with_reducible refine' W_bool1 ?_)
    | (with_reducible refine' W_booland ?_)
    | ((with_reducible refine' W_cmp ?h1 ?_); (case h1 => rfl))
    | (with_reducible refine' W_ifexp ?_)
    | (with_reducible refine' W_list ?_)
    | (with_reducible refine' W_tuple ?_)
    | ((with_reducible refine' W_sub ?h1 ?_); (case h1 => rfl))
    | (with_reducible refine' W_evs0 ?_)
    | ((with_reducible refine' W_evs1 ?h1 ?_); (case h1 => rfl))
    | ((with_reducible refine' W_callf ?h1 ?h2 ?_); (case h1 => rfl); (case h2 => rfl))
    | ((with_reducible refine' W_callb ?h1 ?h2 ?_); (case h1 => rfl); (case h2 => rfl))
    | ((with_reducible refine' W_callt ?h1 ?h2 ?_); (case h1 => rfl); (case h2 => rfl))
    | ((with_reducible refine' W_isinst ?h1 ?h3 ?h2 ?_); (case h1 => rfl); (case h3 => rfl); (case h2 => rfl))
    | ((with_reducible refine' W_callrev ?h1 ?h2 ?h3 ?_); (case h1 => rfl); (case h2 => rfl); (case h3 => rfl))
    | ((with_reducible refine' W_range ?h1 ?h2 ?_); (case h1 => rfl); (case h2 => rfl))
    | ((with_reducible refine' W_srccall ?h1 ?_); (case h1 => rfl))
    | ((with_reducible refine' W_src ?h1 ?_); (case h1 => rfl))
    | ((with_reducible refine' W_comp ?h1 ?h2 ?_); (case h1 => rfl); (case h2 => rfl))
    | (with_reducible refine' W_tests0 ?_)
    | (with_reducible refine' W_tests1 ?_)
    | (with_reducible refine' T_not ?_)
    | (with_reducible refine' T_boolop ?_)
    | (with_reducible refine' T_and0 ?_)
    | (with_reducible refine' T_or0 ?_)
    | (with_reducible refine' T_and ?_)
    | (with_reducible refine' T_or ?_)
    | ((with_reducible refine' T_cmp ?h1 ?_); (case h1 => rfl))
    | ((with_reducible refine' T_val ?h1 ?_); (case h1 => rfl)))
local macro_rules
  | `(tactic| walk_at "ln") => `(tactic| first | decide | ((try simp only [List.length_map, List.length_append, List.length_cons, List.length_nil, List.length_replicate, List.length_range, lim]); omega))
local macro_rules
  | `(tactic| walk_at "vl") => `(tactic| first
    | (with_reducible refine' B_add ?_)
    | (with_reducible refine' B_sub ?_)
    | ((with_reducible refine' B_mod ?hz ?_); (case hz => decide))
    | ((with_reducible refine' B_pow ?hz ?_); (case hz => decide))
    | (with_reducible refine' U_neg ?_)
    | (with_reducible refine' I_int ?_)
    | (with_reducible refine' A_add ?_)
    | (with_reducible refine' A_sub ?_)
    | (with_reducible refine' C_lt ?_)
    | (with_reducible refine' C_le ?_)
    | (with_reducible refine' C_gt ?_)
    | (with_reducible refine' C_ge ?_)
    | (with_reducible refine' C_eqL ?_)
    | (with_reducible refine' C_neL ?_)
    | ((with_reducible refine' P_neg1 ?hl ?_); (case hl => walk_at "ln"))
    | ((refine' Ty_list ?hl ?_); (case hl => walk_at "ln"))
    | (with_reducible refine' C_eqi ?_)
    | (with_reducible refine' C_nei ?_)
    | (with_reducible refine' C_isnot ?_)
    | (with_reducible refine' Ty_int ?_)
    | (with_reducible refine' Is_il ?_)
    | (with_reducible refine' Is_ii ?_)
    | (with_reducible refine' Is_bi ?_)
    | (with_reducible refine' V_tr ?_)
    | (with_reducible refine' V_tri ?_)
    | ((with_reducible refine' X_ints ?hl ?hj ?_); (case hl => walk_at "ln"); (case hj => walk_at "ln"))
    | ((with_reducible refine' R_nat ?hl ?_); (case hl => walk_at "ln"))
    | ((with_reducible refine' S_list ?hl ?_); (case hl => walk_at "ln"))
    | (refine' F_sum ?_)
    | ((refine' F_maxL ?hl ?_); (case hl => walk_at "ln"))
    | ((with_reducible refine' X_rf (d := .tuple _) ?hl ?_); (case hl => rfl))
    | ((with_reducible refine' X_int0 ?hl ?hj ?_); (case hl => walk_at "ln"); (case hj => walk_at "ln"))
    | ((with_reducible refine' O_own ?ho ?_); (case ho => refine' ownL_of ?ha ?hl; (case ha => walk_at "lk"); (case hl => walk_at "ln")))
    | ((with_reducible refine' P_pos ?hl ?_); (case hl => walk_at "ln"))
    | ((with_reducible refine' B_zeros ?hl ?hj ?_); (case hl => walk_at "ln"); (case hj => walk_at "ln"))
    | (refine' L_ok ?hl ?_; (case hl => exact Nat.le_of_ble_eq_true rfl))
    | ((with_reducible refine' C_t ?hl ?_); (case hl => with_unfolding_all rfl))
    | ((with_reducible refine' C_f ?hl ?_); (case hl => with_unfolding_all rfl))
    | (with_reducible refine' K_tt ?_)
    | (with_reducible refine' K_ff ?_)
    | (with_reducible refine' K_tf ?_)
    | (with_reducible refine' K_ft ?_)
    | (with_reducible refine' K_n1 ?_)
    | (with_reducible refine' K_n2 ?_)
    | ((refine' F_len ?hl ?_); (case hl => walk_at "ln"))
    | ((refine' F_lent ?hl ?_); (case hl => walk_at "ln"))
    | ((with_reducible refine' B_mul ?hm ?_); (case hm => first | exact mulB_small (.inl (by decide)) | exact mulB_small (.inr (by decide)) | exact mulB_small (.inl (by omega)) | exact mulB_small (.inr (by omega))))
    | ((with_reducible refine' B_dv ?hm ?hn ?_); (case hm => first | decide | omega); (case hn => first | decide | omega)))
local macro_rules
  | `(tactic| walk_at "w") => `(tactic| (repeat (first | walk_at "ex" | walk_at "ev" | walk_at "vl")))
local macro_rules
  | `(tactic| walk_at "ex") => `(tactic| first
    | ((with_reducible refine' X_st ?h1 ?_); (case h1 => rfl))
    | ((with_reducible refine' X_if0 ?h1 ?_); (case h1 => rfl))
    | (with_reducible refine' X_if ?_)
    | (with_reducible refine' Tx_n ?_))
local macro_rules
  | `(tactic| walk_at "vl") => `(tactic| first
    | ((with_reducible refine' X_rows ?hl ?hj ?_); (case hl => walk_at "ln"); (case hj => walk_at "ln"))
    | ((with_reducible refine' B_snoc ?hl ?_); (case hl => walk_at "ln"))
    | (with_reducible refine' F_abs ?_)
    | ((refine' F_minL ?hl ?_); (case hl => walk_at "ln"))
    | ((refine' F_rev ?hl ?_); (case hl => walk_at "ln"))
    | ((with_reducible refine' R_down ?hl ?hj ?_); (case hl => first | decide | omega); (case hj => first | decide | omega))
    | (with_reducible refine' C_eqb ?_)
    | (with_reducible refine' C_eqR ?_)
    | (with_reducible refine' C_inI ?_)
    | (with_reducible refine' C_neR ?_))
local macro_rules
  | `(tactic| walk_at "ln") => `(tactic| ((try simp only [List.length_map, List.length_append, List.length_cons, List.length_nil, List.length_replicate, List.length_range, List.length_reverse, sortI_len, lim]); omega))
local macro_rules
  | `(tactic| walk_at "ev") => `(tactic| first
    | ((with_reducible refine' W_comp2 ?h1 ?h2 ?_); (case h1 => rfl); (case h2 => rfl))
    | (with_reducible refine' W_slice ?_))
local macro_rules
  | `(tactic| walk_at "ev") => `(tactic| first
    | ((with_reducible refine' W_callb ?h1 ?h2 ?_); (case h1 => rfl); (case h2 => rfl))
    | ((with_reducible refine' T_instr true ?h1 ?h2 ?h3 ?h4 ?h5 ?h6 ?_); (case h1 => rfl); (case h2 => rfl); (case h3 => walk_at "lk"); (case h4 => rfl); (case h5 => exact Nat.le_of_ble_eq_true rfl); (case h6 => with_unfolding_all rfl))
    | ((with_reducible refine' T_instr false ?h1 ?h2 ?h3 ?h4 ?h5 ?h6 ?_); (case h1 => rfl); (case h2 => rfl); (case h3 => walk_at "lk"); (case h4 => rfl); (case h5 => exact Nat.le_of_ble_eq_true rfl); (case h6 => with_unfolding_all rfl)))
local macro_rules
  | `(tactic| walk_at "vl") => `(tactic| first
    | ((with_reducible refine' R_from ?hl ?hj ?_); (case hl => omega); (case hj => omega)))
local macro_rules
  | `(tactic| walk_at "w") => `(tactic| (repeat ((fail_if_success (with_reducible refine' W_iscall ?_)); (first | walk_at "ex" | walk_at "ev" | walk_at "vl"))))
local macro_rules
  | `(tactic| walk_at "ex") => `(tactic| first
    | ((with_reducible refine' W_dict0 ?h1 ?_); (case h1 => rfl))
    | ((with_reducible refine' W_dict1 ?h1 ?_); (case h1 => rfl))
    | ((with_reducible refine' W_setdict ?h1 ?h2 ?h3 ?_); (case h1 => rfl); (case h2 => walk_at "lk"); (case h3 => walk_at "ln")))
local macro_rules
  | `(tactic| walk_at "ev") => `(tactic| first
    | (with_reducible refine' W_drop ?_))
local macro_rules
  | `(tactic| walk_at "vl") => `(tactic| first
    | ((with_reducible refine' Tk_row ?hl ?hj ?_); (case hl => walk_at "ln"); (case hj => walk_at "ln"))
    | ((with_reducible refine' Dp_row ?hz ?hi ?hl ?hj ?_); (case hz => first | omega | rfl); (case hi => first | omega | walk_at "ln"); (case hl => walk_at "ln"); (case hj => walk_at "ln"))
    | ((with_reducible refine' X_row ?hl ?hj ?_); (case hl => walk_at "ln"); (case hj => walk_at "ln"))
    | ((with_reducible refine' B_addT ?hl ?_); (case hl => walk_at "ln"))
    | ((with_reducible refine' B_addT1 ?hl ?_); (case hl => walk_at "ln"))
    | ((with_reducible refine' B_mulT ?hl ?hj ?_); (case hl => omega); (case hj => walk_at "ln"))
    | (with_reducible refine' C_inD ?_)
    | ((with_reducible refine' S_dict ?hl ?_); (case hl => walk_at "ln"))
    | ((with_reducible refine' Ty_lt ?hl ?_); (case hl => walk_at "ln"))
    | ((with_reducible refine' Ty_tl ?hl ?_); (case hl => walk_at "ln"))
    | (with_reducible refine' R_row ?_)
    | (with_reducible refine' O_one ?_))

section
variable {P : Params} {n : Nat}
def atI (zs : List Int) (k : Nat) (c : Int) : Int := if k < zs.length then zs.getD k 0 else 5 * k + c

theorem at_ok {zs : List Int} {k : Nat} (hz : zs.length ≤ 63) (hk : k < 100) : (It (Mine.hd.heap_39 P) (n + 20)).call "_law_at" [.list (zs.map .int), .int k] = .ok (.int (atI zs k 3)) := by
  refine W.val ?_
  refine W_call (binds := [("script", .list (zs.map .int)), ("place", .int k)]) rfl rfl rfl rfl rfl ?_
  dsimp only
  walk_at "w"
  refine K_d1 (fun hc => ?_) (fun hc => ?_)
  · rw [List.length_map] at hc
    walk_at "w"
    unfold atI; rw [if_pos (by omega)]
    walk_at "w"
    rfl
  · rw [List.length_map] at hc
    walk_at "w"
    unfold atI; rw [if_neg (by omega)]; rfl

theorem plain_ok {xs : List Int} {parts : Nat} (hz : xs.length ≤ 63) : (It (Mine.hd.heap_39 P) (n + 20)).call "_law_plain" [.list (xs.map .int), .int parts] = .ok (.bool (decide (xs.length = parts))) := by
  refine W.val ?_
  refine W_call (binds := [("answer", .list (xs.map .int)), ("parts", .int parts)]) rfl rfl rfl rfl rfl ?_
  dsimp only
  walk_at "w"
  refine K_d2 (fun hc => ?_) (fun hc => ?_)
  · walk_at "w"
    rw [List.length_map] at hc
    rw [decide_eq_false (by omega)]; rfl
  · walk_at "w"
    rw [List.length_map] at hc
    refine forL_inv (fun r _ => ∃ ys : List Int, r = ys.map .int) (fun ρ _ => ?_) (fun v r ρ h => ?_) _ _ ⟨xs, rfl⟩
    · walk_at "w"
      rw [decide_eq_true (by omega)]; rfl
    · obtain ⟨ys, h⟩ := h
      obtain ⟨y, ys, rfl⟩ : ∃ y zs, ys = y :: zs := by cases ys with | nil => cases h | cons y zs => exact ⟨y, zs, rfl⟩
      cases h
      walk_at "w"
      exact ⟨ys, rfl⟩

set_option maxHeartbeats 4000000 in
theorem quota_body {votes : List Int} {seats : Nat} {fd : FuncData} {b : List Stmt} (hv : ∀ v ∈ votes, 0 ≤ v ∧ v < 10 ^ 40) (h1 : 1 ≤ votes.length) (h4 : votes.length ≤ 4) (hV : 0 < votes.sum) (hV2 : votes.sum < 10 ^ 41) (hs : seats ≤ 20) (hf : fdOf (Mine.hd.heap_39 P) "quota" = some fd) (hb : fd.body = .stmts b) :
    W (exsL ((It (Mine.hd.heap_39 P) (n + 30)).ex fd.scope) b (rhoOf [("votes", .list (votes.map .int)), ("seats", .int seats), ("tiesallowed", .bool true)])) (fun p => p.2.getD .none = .list ((qIter votes seats).map .int)) := by
  cases hf
  cases hb
  dsimp only
  walk_at "w"
  refine whileL_inv (fun m ρ => m ≤ seats ∧ ρ "votes" = some (false, .list (votes.map .int)) ∧ ρ "seats" = some (false, .int seats) ∧ ρ "representatives" = some (true, .list ((qIter votes (seats - m)).map .int))) ?_ seats _ _ (by omega) ?_
  · rintro m ρ ⟨hm, r1, r2, r3⟩
    have hlen := qIter_len (votes := votes) (seats - m)
    have hsum := qIter_sum (votes := votes) (by omega) (seats - m)
    have hnn := qIter_nn (votes := votes) (seats - m)
    have hb : ∀ x ∈ qIter votes (seats - m), 0 ≤ x ∧ x ≤ 20 := fun x hx => ⟨hnn x hx, by have := le_sum_of_nn hnn x hx; omega⟩
    have hnx : m ≠ 0 → qIter votes (seats - (m - 1)) = qNext votes (qIter votes (seats - m)) := fun h => by
      rw [show seats - (m - 1) = seats - m + 1 by omega]; rfl
    generalize ha : qIter votes (seats - m) = a at *
    walk_at "w"
    rw [hsum]
    refine K_d1 (fun hc => ⟨by omega, ?_⟩) (fun hc => ?_)
    · have hnx := hnx (by omega)
      have hge := fun i => getD_le hb (by decide) i
      have hvg : ∀ i, 0 ≤ votes.getD i 0 ∧ votes.getD i 0 ≤ 10 ^ 40 := fun i => getD_le (fun x hx => ⟨(hv x hx).1, by have := (hv x hx).2; omega⟩) (by decide) i
      walk_at "w"
      refine W_forI_ints (xs := a) (c := 1) (fun c r => c * (r + 1)) rfl rfl (by decide) (by walk_at "lk") (by walk_at "ln") (by walk_at "lk") (fun x hx ρ' c hy ho => ?_) (fun ρ' hy ho => ?_)
      · have hx := hb x hx
        walk_at "w"
        rfl
      have r1' := (ho "votes" (by decide) (by decide)).trans (lk_upd (by decide) r1)
      have r2' := (ho "seats" (by decide) (by decide)).trans (lk_upd (by decide) r2)
      have r3' := (ho "representatives" (by decide) (by decide)).trans (lk_upd (by decide) r3)
      clear ho
      have hcm : 0 < qCommon a ∧ qCommon a ≤ 21 ^ 4 := qCommon_le (by omega) hb
      walk_at "w"
      rw [List.length_map]
      walk_at "w"
      refine M_range (fun i => (votes.getD i 0 * qCommon a).fdiv (a.getD i 0 + 1)) (fun i hi => ?_) ?_
      · have h3 := hge i
        have h5 := hvg i
        walk_at "w"
        refine B_mul (mulB_small (.inr ?_)) ?_
        · show (qCommon a).natAbs < _
          omega
        walk_at "w"
        rfl
      walk_at "w"
      refine K_d2 (fun _ => ?_) (fun h => by omega)
      walk_at "w"
      refine M_ints (fun p => -((-p * (a.sum + 1)).fdiv votes.sum)) (fun x hx => ?_) ?_
      · walk_at "w"
        rfl
      walk_at "w"
      rw [List.length_map]
      walk_at "w"
      refine M_range (fun i => if (qUp votes a.sum).getD i 0 ≤ a.getD i 0 then 0 else (qOne votes a).getD i 0) (fun i hi => ?_) ?_
      · walk_at "w"
        refine K_d1 (fun hq => ?_) (fun hq => ?_)
        · walk_at "w"
          exact congrArg PyData.int (if_pos (c := (qUp votes a.sum).getD i 0 ≤ a.getD i 0) hq).symm
        · walk_at "w"
          exact congrArg PyData.int (if_neg (c := (qUp votes a.sum).getD i 0 ≤ a.getD i 0) hq).symm
      walk_at "w"
      rw [List.length_map]
      walk_at "w"
      refine M_rfilt (fun i => decide ((qTwo votes a).getD i 0 = maxL (qTwo votes a))) (fun i => (i : Int)) (fun i hi => ?_) (fun i hi => ?_) ?_
      · walk_at "w"
        rfl
      · walk_at "w"
        rfl
      walk_at "w"
      refine X_int0 (by simp only [List.length_map]; have := List.length_filter_le (fun i => decide ((qTwo votes a).getD i 0 = maxL (qTwo votes a))) (List.range votes.length); rw [List.length_range] at this; unfold lim; omega) (by simp only [List.length_map]; exact qPick_ne (by omega)) ?_
      rw [getD_cast]
      obtain ⟨pk, hpk⟩ : ∃ pk, pk = qPick votes a := ⟨_, rfl⟩
      have hpl : pk < a.length := by rw [hlen, hpk]; exact qPick_lt (by omega)
      have hqn : qNext votes a = a.set pk (a.getD pk 0 + 1) := by rw [hpk]; rfl
      have hpk2 : ((List.range votes.length).filter fun i => decide ((qTwo votes a).getD i 0 = maxL (qTwo votes a))).headD 0 = pk := hpk.symm
      rw [hpk2]
      walk_at "w"
      refine ⟨by omega, ?_, ?_, ?_⟩
      · walk_at "lk"
      · walk_at "lk"
      · rw [hnx, hqn, ← set_ints]; walk_at "lk"
    · walk_at "w"
      rw [← ha, show m = 0 by omega]; rfl
  · refine ⟨Nat.le_refl _, ?_, ?_, ?_⟩ <;> walk_at "lk"
    rw [Nat.sub_self]; rw [qIter]; refine lk_self.trans ?_; rw [List.length_map]; rfl

theorem quota2 {votes : List Int} {seats : Nat} (hv : ∀ v ∈ votes, 0 ≤ v ∧ v < 10 ^ 40) (h1 : 1 ≤ votes.length) (h4 : votes.length ≤ 4) (hV : 0 < votes.sum) (hV2 : votes.sum < 10 ^ 41) (hs : seats ≤ 20) :
    (It (Mine.hd.heap_39 P) (n + 31)).call "quota" [.list (votes.map .int), .int seats] = .ok (.list ((qIter votes seats).map .int)) := by
  refine W.val ?_
  refine W_call (binds := [("votes", .list (votes.map .int)), ("seats", .int seats), ("tiesallowed", .bool true)]) rfl rfl rfl rfl rfl ?_
  exact quota_body hv h1 h4 hV hV2 hs rfl rfl
theorem quota3 {votes : List Int} {seats : Nat} (hv : ∀ v ∈ votes, 0 ≤ v ∧ v < 10 ^ 40) (h1 : 1 ≤ votes.length) (h4 : votes.length ≤ 4) (hV : 0 < votes.sum) (hV2 : votes.sum < 10 ^ 41) (hs : seats ≤ 20) :
    (It (Mine.hd.heap_39 P) (n + 31)).call "quota" [.list (votes.map .int), .int seats, .bool true] = .ok (.list ((qIter votes seats).map .int)) := by
  refine W.val ?_
  refine W_call (binds := [("votes", .list (votes.map .int)), ("seats", .int seats), ("tiesallowed", .bool true)]) rfl rfl rfl rfl rfl ?_
  exact quota_body hv h1 h4 hV hV2 hs rfl rfl
theorem compute_quota {votes : List Int} {seats : Nat} (hv : ∀ v ∈ votes, 0 ≤ v ∧ v < 10 ^ 40) (h1 : 1 ≤ votes.length) (h4 : votes.length ≤ 4) (hV : 0 < votes.sum) (hV2 : votes.sum < 10 ^ 41) (hs : seats ≤ 20) :
    (It (Mine.hd.heap_39 P) (n + 40)).call "compute" [.str "quota", .list (votes.map .int), .int seats] = .ok (.list ((qIter votes seats).map .int)) := by
  refine W.val ?_
  refine W_call (binds := [("method", .str "quota"), ("votes", .list (votes.map .int)), ("seats", .int seats), ("threshold", .none), ("tiesallowed", .bool true)]) rfl rfl rfl rfl rfl ?_
  dsimp only
  walk_at "w"
  refine W.eq apply_ok ?_
  walk_at "w"
  refine W.eq (quota3 hv h1 h4 hV hV2 hs) ?_
  walk_at "w"
  rfl
end
end Mine

/-! Ro03 -/
namespace Mine
local macro_rules
  | `(tactic| walk_at "lk1") => `(tactic| first | with_reducible assumption | with_reducible exact lk_self | ((with_reducible refine' lk_upd ?hne ?_); (case hne => decide)) | ((with_reducible refine' lk_comp ?hne ?_); (case hne => rfl)) | ((with_reducible refine' lk_frz0 ?hne ?_); (case hne => rfl)) | ((with_reducible apply lk_frz1); (case h => rfl)))
local macro_rules
  | `(tactic| walk_at "lk") => `(tactic| ((repeat walk_at "lk1"); (try rfl)))
local macro_rules
  | `(tactic| walk_at "ex") => `(tactic| first
    | (with_reducible refine' W_nil ?_)
    | (with_reducible refine' W_cons ?_)
    | (with_reducible refine' Nx_n ?_)
    | (with_reducible refine' Nx_s ?_)
    | (with_reducible refine' W_pass ?_)
    | ((with_reducible refine' W_assign0 (fr := false) ?h1 ?h2 ?h3 ?_ ?h4); (case h1 => rfl); (case h2 => rfl); (case h3 => rfl); (case h4 => rfl))
    | ((with_reducible refine' W_assign0 (fr := true) ?h1 ?h2 ?h3 ?_ ?h4); (case h1 => rfl); (case h2 => rfl); (case h3 => rfl); (case h4 => rfl))
    | ((with_reducible refine' W_assign (fr := false) ?h1 ?h3 ?_ ?h4); (case h1 => rfl); (case h3 => rfl); (case h4 => rfl))
    | ((with_reducible refine' W_assign (fr := true) ?h1 ?h3 ?_ ?h4); (case h1 => rfl); (case h3 => rfl); (case h4 => rfl))
    | ((with_reducible refine' W_setsub ?h1 ?_); (case h1 => rfl))
    | ((with_reducible refine' W_aug ?h1 ?h2 ?_); (case h1 => rfl); (case h2 => walk_at "lk"))
    | ((with_reducible refine' W_augsub ?h1 ?h2 ?_); (case h1 => rfl); (case h2 => refine' ownL_of ?ho ?hl; (case ho => walk_at "lk"); (case hl => walk_at "ln")))
    | ((with_reducible refine' W_append0 ?h1 ?h2 ?h3 ?_); (case h1 => rfl); (case h2 => refine' ownL_of ?ho ?hl; (case ho => walk_at "lk"); (case hl => walk_at "ln")); (case h3 => rfl))
    | ((with_reducible refine' W_append ?h1 ?h2 ?h3 ?_); (case h1 => rfl); (case h2 => refine' ownL_of ?ho ?hl; (case ho => walk_at "lk"); (case hl => walk_at "ln")); (case h3 => refine' ownL_of ?ho ?hl; (case ho => walk_at "lk"); (case hl => walk_at "ln")))
    | (with_reducible refine' W_if ?_)
    | (with_reducible refine' W_ret ?_)
    | ((with_reducible refine' W_for0 ?h1 ?h2 ?h3 ?_); (case h1 => rfl); (case h2 => rfl); (case h3 => rfl))
    | ((with_reducible refine' W_for ?h1 ?h2 ?_); (case h1 => rfl); (case h2 => rfl))
    | (with_reducible refine' W_while ?_))
local macro_rules
  | `(tactic| walk_at "ev") => `(tactic| first
    | ((with_reducible refine' W_const ?h1 ?_); (case h1 => rfl))
    | ((with_reducible refine' W_name ?h1 ?h2 ?h3 ?h4 ?_); (case h1 => rfl); (case h2 => rfl); (case h3 => walk_at "lk"); (case h4 => rfl))
    | ((with_reducible refine' W_gname ?h1 ?h2 ?_); (case h1 => rfl); (case h2 => rfl))
    | (with_reducible refine' W_bin ?_)
    | (with_reducible refine' W_un ?_)
    | (with_reducible refine' W_boolop ?_)
    | (with_reducible refine' W_bool1 ?_)
    | (with_reducible refine' W_booland ?_)
    | ((with_reducible refine' W_cmp ?h1 ?_); (case h1 => rfl))
    | (with_reducible refine' W_ifexp ?_)
    | (with_reducible refine' W_list ?_)
    | (with_reducible refine' W_tuple ?_)
    | ((with_reducible refine' W_sub ?h1 ?_); (case h1 => rfl))
    | (with_reducible refine' W_evs0 ?_)
    | ((with_reducible refine' W_evs1 ?h1 ?_); (case h1 => rfl))
    | ((with_reducible refine' W_callf ?h1 ?h2 ?_); (case h1 => rfl); (case h2 => rfl))
    | ((with_reducible refine' W_callb ?h1 ?h2 ?_); (case h1 => rfl); (case h2 => rfl))
    | ((with_reducible refine' W_callt ?h1 ?h2 ?_); (case h1 => rfl); (case h2 => rfl))
    | ((with_reducible refine' W_isinst ?h1 ?h3 ?h2 ?_); (case h1 => rfl); (case h3 => rfl); (case h2 => rfl))
    | ((with_reducible refine' W_callrev ?h1 ?h2 ?h3 ?_); (case h1 => rfl); (case h2 => rfl); (case h3 => rfl))
    | ((with_reducible refine' W_range ?h1 ?h2 ?_); (case h1 => rfl); (case h2 => rfl))
    | ((with_reducible refine' W_srccall ?h1 ?_); (case h1 => rfl))
    | ((with_reducible refine' W_src ?h1 ?_); (case h1 => rfl))
    | ((with_reducible refine' W_comp ?h1 ?h2 ?_); (case h1 => rfl); (case h2 => rfl))
    | (with_reducible refine' W_tests0 ?_)
    | (with_reducible refine' W_tests1 ?_)
    | (with_reducible refine' T_not ?_)
    | (with_reducible refine' T_boolop ?_)
    | (with_reducible refine' T_and0 ?_)
    | (with_reducible refine' T_or0 ?_)
    | (with_reducible refine' T_and ?_)
    | (with_reducible refine' T_or ?_)
    | ((with_reducible refine' T_cmp ?h1 ?_); (case h1 => rfl))
    | ((with_reducible refine' T_val ?h1 ?_); (case h1 => rfl)))
local macro_rules
  | `(tactic| walk_at "ln") => `(tactic| first | decide | ((try simp only [List.length_map, List.length_append, List.length_cons, List.length_nil, List.length_replicate, List.length_range, lim]); omega))
local macro_rules
  | `(tactic| walk_at "vl") => `(tactic| first
    | (with_reducible refine' B_add ?_)
    | (with_reducible refine' B_sub ?_)
    | ((with_reducible refine' B_mod ?hz ?_); (case hz => decide))
    | ((with_reducible refine' B_pow ?hz ?_); (case hz => decide))
    | (with_reducible refine' U_neg ?_)
    | (with_reducible refine' I_int ?_)
    | (with_reducible refine' A_add ?_)
    | (with_reducible refine' A_sub ?_)
    | (with_reducible refine' C_lt ?_)
    | (with_reducible refine' C_le ?_)
    | (with_reducible refine' C_gt ?_)
    | (with_reducible refine' C_ge ?_)
    | (with_reducible refine' C_eqL ?_)
    | (with_reducible refine' C_neL ?_)
    | ((with_reducible refine' P_neg1 ?hl ?_); (case hl => walk_at "ln"))
    | ((refine' Ty_list ?hl ?_); (case hl => walk_at "ln"))
    | (with_reducible refine' C_eqi ?_)
    | (with_reducible refine' C_nei ?_)
    | (with_reducible refine' C_isnot ?_)
    | (with_reducible refine' Ty_int ?_)
    | (with_reducible refine' Is_il ?_)
    | (with_reducible refine' Is_ii ?_)
    | (with_reducible refine' Is_bi ?_)
    | (with_reducible refine' V_tr ?_)
    | (with_reducible refine' V_tri ?_)
    | ((with_reducible refine' X_ints ?hl ?hj ?_); (case hl => walk_at "ln"); (case hj => walk_at "ln"))
    | ((with_reducible refine' R_nat ?hl ?_); (case hl => walk_at "ln"))
    | ((with_reducible refine' S_list ?hl ?_); (case hl => walk_at "ln"))
    | (refine' F_sum ?_)
    | ((refine' F_maxL ?hl ?_); (case hl => walk_at "ln"))
    | ((with_reducible refine' X_rf (d := .tuple _) ?hl ?_); (case hl => rfl))
    | ((with_reducible refine' X_int0 ?hl ?hj ?_); (case hl => walk_at "ln"); (case hj => walk_at "ln"))
    | ((with_reducible refine' O_own ?ho ?_); (case ho => refine' ownL_of ?ha ?hl; (case ha => walk_at "lk"); (case hl => walk_at "ln")))
    | ((with_reducible refine' P_pos ?hl ?_); (case hl => walk_at "ln"))
    | ((with_reducible refine' B_zeros ?hl ?hj ?_); (case hl => walk_at "ln"); (case hj => walk_at "ln"))
    | (refine' L_ok ?hl ?_; (case hl => exact Nat.le_of_ble_eq_true rfl))
    | ((with_reducible refine' C_t ?hl ?_); (case hl => with_unfolding_all rfl))
    | ((with_reducible refine' C_f ?hl ?_); (case hl => with_unfolding_all rfl))
    | (with_reducible refine' K_tt ?_)
    | (with_reducible refine' K_ff ?_)
    | (with_reducible refine' K_tf ?_)
    | (with_reducible refine' K_ft ?_)
    | (with_reducible refine' K_n1 ?_)
    | (with_reducible refine' K_n2 ?_)
    | ((refine' F_len ?hl ?_); (case hl => walk_at "ln"))
    | ((refine' F_lent ?hl ?_); (case hl => walk_at "ln"))
    | ((with_reducible refine' B_mul ?hm ?_); (case hm => first | exact mulB_small (.inl (by decide)) | exact mulB_small (.inr (by decide)) | exact mulB_small (.inl (by omega)) | exact mulB_small (.inr (by omega))))
    | ((with_reducible refine' B_dv ?hm ?hn ?_); (case hm => first | decide | omega); (case hn => first | decide | omega)))
local macro_rules
  | `(tactic| walk_at "w") => `(tactic| (repeat (first | walk_at "ex" | walk_at "ev" | walk_at "vl")))
local macro_rules
  | `(tactic| walk_at "ex") => `(tactic| first
    | ((with_reducible refine' X_st ?h1 ?_); (case h1 => rfl))
    | ((with_reducible refine' X_if0 ?h1 ?_); (case h1 => rfl))
    | (with_reducible refine' X_if ?_)
    | (with_reducible refine' Tx_n ?_))
local macro_rules
  | `(tactic| walk_at "vl") => `(tactic| first
    | ((with_reducible refine' X_rows ?hl ?hj ?_); (case hl => walk_at "ln"); (case hj => walk_at "ln"))
    | ((with_reducible refine' B_snoc ?hl ?_); (case hl => walk_at "ln"))
    | (with_reducible refine' F_abs ?_)
    | ((refine' F_minL ?hl ?_); (case hl => walk_at "ln"))
    | ((refine' F_rev ?hl ?_); (case hl => walk_at "ln"))
    | ((with_reducible refine' R_down ?hl ?hj ?_); (case hl => first | decide | omega); (case hj => first | decide | omega))
    | (with_reducible refine' C_eqb ?_)
    | (with_reducible refine' C_eqR ?_)
    | (with_reducible refine' C_inI ?_)
    | (with_reducible refine' C_neR ?_))
local macro_rules
  | `(tactic| walk_at "ln") => `(tactic| ((try simp only [List.length_map, List.length_append, List.length_cons, List.length_nil, List.length_replicate, List.length_range, List.length_reverse, sortI_len, lim]); omega))
local macro_rules
  | `(tactic| walk_at "ev") => `(tactic| first
    | ((with_reducible refine' W_comp2 ?h1 ?h2 ?_); (case h1 => rfl); (case h2 => rfl))
    | (with_reducible refine' W_slice ?_))
local macro_rules
  | `(tactic| walk_at "ev") => `(tactic| first
    | ((with_reducible refine' W_callb ?h1 ?h2 ?_); (case h1 => rfl); (case h2 => rfl))
    | ((with_reducible refine' T_instr true ?h1 ?h2 ?h3 ?h4 ?h5 ?h6 ?_); (case h1 => rfl); (case h2 => rfl); (case h3 => walk_at "lk"); (case h4 => rfl); (case h5 => exact Nat.le_of_ble_eq_true rfl); (case h6 => with_unfolding_all rfl))
    | ((with_reducible refine' T_instr false ?h1 ?h2 ?h3 ?h4 ?h5 ?h6 ?_); (case h1 => rfl); (case h2 => rfl); (case h3 => walk_at "lk"); (case h4 => rfl); (case h5 => exact Nat.le_of_ble_eq_true rfl); (case h6 => with_unfolding_all rfl)))
local macro_rules
  | `(tactic| walk_at "vl") => `(tactic| first
    | ((with_reducible refine' R_from ?hl ?hj ?_); (case hl => omega); (case hj => omega)))
local macro_rules
  | `(tactic| walk_at "w") => `(tactic| (repeat ((fail_if_success (with_reducible refine' W_iscall ?_)); (first | walk_at "ex" | walk_at "ev" | walk_at "vl"))))
local macro_rules
  | `(tactic| walk_at "ex") => `(tactic| first
    | ((with_reducible refine' W_dict0 ?h1 ?_); (case h1 => rfl))
    | ((with_reducible refine' W_dict1 ?h1 ?_); (case h1 => rfl))
    | ((with_reducible refine' W_setdict ?h1 ?h2 ?h3 ?_); (case h1 => rfl); (case h2 => walk_at "lk"); (case h3 => walk_at "ln")))
local macro_rules
  | `(tactic| walk_at "ev") => `(tactic| first
    | (with_reducible refine' W_drop ?_))
local macro_rules
  | `(tactic| walk_at "vl") => `(tactic| first
    | ((with_reducible refine' Tk_row ?hl ?hj ?_); (case hl => walk_at "ln"); (case hj => walk_at "ln"))
    | ((with_reducible refine' Dp_row ?hz ?hi ?hl ?hj ?_); (case hz => first | omega | rfl); (case hi => first | omega | walk_at "ln"); (case hl => walk_at "ln"); (case hj => walk_at "ln"))
    | ((with_reducible refine' X_row ?hl ?hj ?_); (case hl => walk_at "ln"); (case hj => walk_at "ln"))
    | ((with_reducible refine' B_addT ?hl ?_); (case hl => walk_at "ln"))
    | ((with_reducible refine' B_addT1 ?hl ?_); (case hl => walk_at "ln"))
    | ((with_reducible refine' B_mulT ?hl ?hj ?_); (case hl => omega); (case hj => walk_at "ln"))
    | (with_reducible refine' C_inD ?_)
    | ((with_reducible refine' S_dict ?hl ?_); (case hl => walk_at "ln"))
    | ((with_reducible refine' Ty_lt ?hl ?_); (case hl => walk_at "ln"))
    | ((with_reducible refine' Ty_tl ?hl ?_); (case hl => walk_at "ln"))
    | (with_reducible refine' R_row ?_)
    | (with_reducible refine' O_one ?_))

/-! the roads -/
def rdRow (votes : List Int) (V h : Int) (row : List Int) : Nat → List (List Int) → List (List Int)
  | 0, acc => acc
  | i + 1, acc => if row.getD i 0 * V < h * votes.getD i 0 then putT (row.set i (row.getD i 0 + 1)) (rdRow votes V h row i acc) else rdRow votes V h row i acc
def rdHouse (votes : List Int) (h : Int) (ends : List (List Int)) : List (List Int) := ends.foldl (fun acc row => rdRow votes votes.sum h row votes.length acc) []
def roadsF (votes : List Int) : Nat → List (List Int)
  | 0 => [List.replicate votes.length 0]
  | h + 1 => rdHouse votes ((h : Int) + 1) (roadsF votes h)
theorem putT_len {r : List Int} {rows : List (List Int)} : (putT r rows).length ≤ rows.length + 1 := by
  unfold putT; split <;> simp
theorem rdRow_len {votes : List Int} {V h : Int} {row : List Int} {acc : List (List Int)} : ∀ i, (rdRow votes V h row i acc).length ≤ acc.length + i
  | 0 => Nat.le_refl _
  | i + 1 => by
    have ih := rdRow_len (votes := votes) (V := V) (h := h) (row := row) (acc := acc) i
    unfold rdRow
    split
    · have := putT_len (r := row.set i (row.getD i 0 + 1)) (rows := rdRow votes V h row i acc)
      omega
    · omega
theorem foldl_len {votes : List Int} {V h : Int} {n : Nat} : ∀ (rest acc : List (List Int)), (rest.foldl (fun acc row => rdRow votes V h row n acc) acc).length ≤ acc.length + rest.length * n
  | [], acc => by simp
  | r :: rest, acc => by
    rw [List.foldl_cons]
    have h1 := foldl_len (votes := votes) (V := V) (h := h) (n := n) rest (rdRow votes V h r n acc)
    have h2 := rdRow_len (votes := votes) (V := V) (h := h) (row := r) (acc := acc) n
    rw [List.length_cons, Nat.succ_mul]
    omega
theorem roadsF_len {votes : List Int} : ∀ h, (roadsF votes h).length ≤ votes.length ^ h
  | 0 => by simp [roadsF]
  | h + 1 => by
    have ih := roadsF_len (votes := votes) h
    have := foldl_len (votes := votes) (V := votes.sum) (h := (h : Int) + 1) (n := votes.length) (roadsF votes h) []
    show (rdHouse votes ((h : Int) + 1) (roadsF votes h)).length ≤ _
    unfold rdHouse
    refine Nat.le_trans this ?_
    rw [List.length_nil, Nat.zero_add, Nat.pow_succ]
    exact Nat.mul_le_mul_right _ ih
theorem putT_mem {r x : List Int} {rows : List (List Int)} : x ∈ putT r rows ↔ x ∈ rows ∨ x = r := by
  unfold putT
  split
  · constructor
    · exact .inl
    · rintro (q | q)
      · exact q
      · rw [q]; assumption
  · simp
theorem rdRow_mem {votes : List Int} {V h : Int} {row x : List Int} {acc : List (List Int)} : ∀ {i}, x ∈ rdRow votes V h row i acc ↔ x ∈ acc ∨ ∃ j, j < i ∧ row.getD j 0 * V < h * votes.getD j 0 ∧ x = row.set j (row.getD j 0 + 1)
  | 0 => ⟨.inl, fun q => q.elim id fun ⟨j, hj, _⟩ => absurd hj (Nat.not_lt_zero _)⟩
  | i + 1 => by
    have ih := rdRow_mem (votes := votes) (V := V) (h := h) (row := row) (x := x) (acc := acc) (i := i)
    unfold rdRow
    by_cases hc : row.getD i 0 * V < h * votes.getD i 0
    · rw [if_pos hc, putT_mem, ih]
      constructor
      · rintro ((q | ⟨j, h1, h2, h3⟩) | q)
        · exact .inl q
        · exact .inr ⟨j, by omega, h2, h3⟩
        · exact .inr ⟨i, by omega, hc, q⟩
      · rintro (q | ⟨j, h1, h2, h3⟩)
        · exact .inl (.inl q)
        · by_cases e : j = i
          · subst e; exact .inr h3
          · exact .inl (.inr ⟨j, by omega, h2, h3⟩)
    · rw [if_neg hc, ih]
      constructor
      · rintro (q | ⟨j, h1, h2, h3⟩)
        · exact .inl q
        · exact .inr ⟨j, by omega, h2, h3⟩
      · rintro (q | ⟨j, h1, h2, h3⟩)
        · exact .inl q
        · by_cases e : j = i
          · subst e; exact absurd h2 hc
          · exact .inr ⟨j, by omega, h2, h3⟩
theorem foldl_mem {votes : List Int} {V h : Int} {n : Nat} {x : List Int} : ∀ {rest acc : List (List Int)}, x ∈ rest.foldl (fun acc row => rdRow votes V h row n acc) acc ↔ x ∈ acc ∨ ∃ row ∈ rest, ∃ j, j < n ∧ row.getD j 0 * V < h * votes.getD j 0 ∧ x = row.set j (row.getD j 0 + 1)
  | [], acc => ⟨.inl, fun q => q.elim id fun ⟨r, hr, _⟩ => by cases hr⟩
  | r :: rest, acc => by
    rw [List.foldl_cons, foldl_mem (rest := rest), rdRow_mem]
    constructor
    · rintro ((q | q) | ⟨row, hr, q⟩)
      · exact .inl q
      · exact .inr ⟨r, .head _, q⟩
      · exact .inr ⟨row, .tail _ hr, q⟩
    · rintro (q | ⟨row, hr, q⟩)
      · exact .inl (.inl q)
      · rcases List.mem_cons.mp hr with e | e
        · subst e; exact .inl (.inr q)
        · exact .inr ⟨row, e, q⟩
theorem roads_succ {votes x : List Int} {h : Nat} : x ∈ roadsF votes (h + 1) ↔ ∃ row ∈ roadsF votes h, ∃ j, j < votes.length ∧ row.getD j 0 * votes.sum < ((h : Int) + 1) * votes.getD j 0 ∧ x = row.set j (row.getD j 0 + 1) := by
  show x ∈ rdHouse votes ((h : Int) + 1) (roadsF votes h) ↔ _
  unfold rdHouse
  rw [foldl_mem]
  simp
theorem roads_len {votes x : List Int} : ∀ {h}, x ∈ roadsF votes h → x.length = votes.length
  | 0, hx => by
    have : x = List.replicate votes.length 0 := by simpa [roadsF] using hx
    rw [this, List.length_replicate]
  | h + 1, hx => by
    obtain ⟨row, hr, j, _, _, rfl⟩ := roads_succ.mp hx
    rw [List.length_set]; exact roads_len hr

theorem roads_bd {votes x : List Int} : ∀ {h : Nat}, x ∈ roadsF votes h → ∀ e ∈ x, 0 ≤ e ∧ e ≤ h
  | 0, hx, e, he => by
    have : x = List.replicate votes.length 0 := by simpa [roadsF] using hx
    rw [this] at he
    rw [List.eq_of_mem_replicate he]; decide
  | h + 1, hx, e, he => by
    obtain ⟨row, hr, j, hj, _, rfl⟩ := roads_succ.mp hx
    have ih := roads_bd hr
    rcases List.mem_or_eq_of_mem_set he with q | q
    · have := ih e q; omega
    · have hl := roads_len hr
      have : row.getD j 0 ∈ row := by rw [List.getD_eq_getElem?_getD, List.getElem?_eq_getElem (by omega)]; exact List.getElem_mem _
      have := ih _ this; omega
theorem getD_bd {a : List Int} {b : Int} (h : ∀ x ∈ a, 0 ≤ x ∧ x ≤ b) (hb : 0 ≤ b) (i : Nat) : 0 ≤ a.getD i 0 ∧ a.getD i 0 ≤ b := by
  rw [List.getD_eq_getElem?_getD]
  by_cases hi : i < a.length
  · rw [List.getElem?_eq_getElem hi]; exact h _ (List.getElem_mem hi)
  · rw [List.getElem?_eq_none (by omega)]; exact ⟨Int.le_refl 0, hb⟩
theorem set_take {row : List Int} {i : Nat} {x : Int} (hi : i < row.length) : row.take i ++ [x] ++ row.drop (i + 1) = row.set i x := by
  rw [List.set_eq_take_append_cons_drop, if_pos hi, List.append_assoc]; rfl

section
variable {P : Params} {n : Nat}
set_option maxHeartbeats 4000000 in
theorem roads_ok {votes : List Int} {S : Nat} (h1 : 1 ≤ votes.length) (h4 : votes.length ≤ 4) (hS : S ≤ 12) (hb : ∀ h, h ≤ S → votes.length ^ h ≤ 20000) (hv : ∀ v ∈ votes, 0 ≤ v ∧ v ≤ 10 ^ 40) (hV : 0 ≤ votes.sum ∧ votes.sum ≤ 10 ^ 41) :
    (It (Mine.hd.heap_39 P) (n + 40)).call "_law_roads" [.list (votes.map .int), .int S] = .ok (dictD (roadsF votes S)) := by
  have hlen : ∀ h, h ≤ S → (roadsF votes h).length ≤ 20000 := fun h hh => Nat.le_trans (roadsF_len h) (hb h hh)
  refine W.val ?_
  refine W_call (binds := [("votes", .list (votes.map .int)), ("seats", .int S)]) rfl rfl rfl rfl rfl ?_
  dsimp only
  walk_at "w"
  rw [List.length_map]
  refine B_mulT h1 (by unfold lim; omega) ?_
  walk_at "w"
  rw [show ((S : Int) + 1 - 1).toNat = S by omega]
  refine forE_inv (fun h ρ => (∃ o, ρ "ends" = some (o, dictD (roadsF votes h))) ∧ ρ "votes" = some (false, .list (votes.map .int)) ∧ ρ "voters" = some (false, .int votes.sum)) (fun ρ hI => ?_) (fun h ρ hh hI => ?_) ⟨⟨true, ?_⟩, by walk_at "lk", by walk_at "lk"⟩
  · obtain ⟨⟨o, r1⟩, r2, r3⟩ := hI
    cases o
    all_goals
      walk_at "w"
      rfl
  · obtain ⟨⟨o, r1⟩, r2, r3⟩ := hI
    have hl := hlen h (by omega)
    have hl2 := hlen (h + 1) (by omega)
    have hr0 : ∀ r ∈ roadsF votes h, r.length = votes.length := fun r hr => roads_len hr
    cases o
    all_goals
      walk_at "w"
      refine forM_inv (fun rest ρ => ∃ acc, ρ "longer" = some (true, dictD acc) ∧ rest.foldl (fun acc row => rdRow votes votes.sum ((h : Int) + 1) row votes.length acc) acc = roadsF votes (h + 1) ∧ (∀ r ∈ rest, r ∈ roadsF votes h) ∧ acc.length + rest.length * 4 ≤ 80000 ∧ ρ "house" = some (false, .int (1 + h)) ∧ ρ "votes" = some (false, .list (votes.map .int)) ∧ ρ "voters" = some (false, .int votes.sum)) (fun ρ hI => ?_) (fun row rest ρ hI => ?_) ⟨[], by walk_at "lk", rfl, fun _ h => h, by rw [List.length_nil]; omega, by walk_at "lk", by walk_at "lk", by walk_at "lk"⟩
      · obtain ⟨acc, q1, q2, q3, q4, q5, q6, q7⟩ := hI
        have q2 : acc = roadsF votes (h + 1) := q2
        subst q2
        walk_at "w"
        exact ⟨⟨false, by walk_at "lk"⟩, by walk_at "lk", by walk_at "lk"⟩
      · obtain ⟨acc, q1, q2, q3, q4, q5, q6, q7⟩ := hI
        have hrl := hr0 row (q3 row List.mem_cons_self)
        have hrb := roads_bd (q3 row List.mem_cons_self)
        have hvg : ∀ i, 0 ≤ votes.getD i 0 ∧ votes.getD i 0 ≤ 10 ^ 40 := fun i => getD_bd hv (by decide) i
        have hrg : ∀ i, 0 ≤ row.getD i 0 ∧ row.getD i 0 ≤ h := fun i => getD_bd hrb (by omega) i
        rw [List.length_cons] at q4
        rw [List.foldl_cons] at q2
        walk_at "w"
        rw [List.length_map]
        refine forR_inv (fun i ρ => ρ "longer" = some (true, dictD (rdRow votes votes.sum ((h : Int) + 1) row i acc)) ∧ ρ "row" = some (false, tupD row) ∧ ρ "house" = some (false, .int (1 + h)) ∧ ρ "votes" = some (false, .list (votes.map .int)) ∧ ρ "voters" = some (false, .int votes.sum)) (fun ρ hI => ?_) (fun i ρ hi hI => ?_) ⟨by show _ = some (true, dictD acc); walk_at "lk", by walk_at "lk", by walk_at "lk", by walk_at "lk", by walk_at "lk"⟩
        · obtain ⟨t1, t2, t3, t4, t5⟩ := hI
          have hal := rdRow_len (votes := votes) (V := votes.sum) (h := (h : Int) + 1) (row := row) (acc := acc) votes.length
          walk_at "w"
          exact ⟨_, by walk_at "lk", q2, fun r hr => q3 r (List.mem_cons_of_mem _ hr), by omega, by walk_at "lk", by walk_at "lk", by walk_at "lk"⟩
        · obtain ⟨t1, t2, t3, t4, t5⟩ := hI
          have hal := rdRow_len (votes := votes) (V := votes.sum) (h := (h : Int) + 1) (row := row) (acc := acc) i
          have hst : rdRow votes votes.sum ((h : Int) + 1) row (i + 1) acc = if row.getD i 0 * votes.sum < ((h : Int) + 1) * votes.getD i 0 then putT (row.set i (row.getD i 0 + 1)) (rdRow votes votes.sum ((h : Int) + 1) row i acc) else rdRow votes votes.sum ((h : Int) + 1) row i acc := rfl
          have hri := hrg i
          have hvi := hvg i
          generalize rdRow votes votes.sum ((h : Int) + 1) row i acc = ac at *
          rw [show ((h : Int) + 1) = 1 + h by omega] at hst
          walk_at "w"
          refine K_d1 (fun hc => ?_) (fun hc => ?_)
          · rw [if_pos hc] at hst
            walk_at "w"
            refine B_addT1 (by rw [List.length_take]; unfold lim; omega) ?_
            walk_at "w"
            refine B_addT (by rw [List.length_append, List.length_take, List.length_drop]; unfold lim; show min i row.length + 1 + (row.length - (i + 1)) ≤ 1048576; omega) ?_
            walk_at "w"
            rw [set_take (by omega)]
            exact ⟨by rw [show ((h : Int) + 1) = 1 + h by omega, hst]; walk_at "lk", by walk_at "lk", by walk_at "lk", by walk_at "lk", by walk_at "lk"⟩
          · rw [if_neg hc] at hst
            walk_at "w"
            exact ⟨by rw [show ((h : Int) + 1) = 1 + h by omega, hst]; walk_at "lk", by walk_at "lk", by walk_at "lk", by walk_at "lk", by walk_at "lk"⟩
  · show _ = some (true, dictD [List.replicate votes.length 0])
    walk_at "lk"
end
end Mine

/-! M03r -/
namespace Mine
/-! Hall's condition for the ends of roads -/
def uq (votes : List Int) (j : Int) (i : Nat) : Int := (qUp votes (j - 1)).getD i 0
theorem uq_iff {votes : List Int} (hV : 0 < votes.sum) {j c : Int} {i : Nat} (hi : i < votes.length) : uq votes j i ≤ c ↔ votes.getD i 0 * j ≤ c * votes.sum := by
  have := up_iff (votes := votes) hV (s := j - 1) (c := c) hi
  unfold uq
  rw [this, show j - 1 + 1 = j by omega]
def minS (votes a : List Int) (j : Int) : Int := ((List.range votes.length).map fun i => min (a.getD i 0) (uq votes j i)).sum
structure Hall (votes : List Int) (h : Nat) (a : List Int) : Prop where
  len : a.length = votes.length
  nn : ∀ i, i < votes.length → 0 ≤ a.getD i 0
  sum : a.sum = h
  cap : ∀ i, i < votes.length → a.getD i 0 ≤ uq votes h i
  hall : ∀ j : Nat, j ≤ h → (j : Int) ≤ minS votes a j

theorem sum_le_map {l : List Nat} {f g : Nat → Int} (h : ∀ i ∈ l, f i ≤ g i) : (l.map f).sum ≤ (l.map g).sum := by
  induction l with
  | nil => exact Int.le_refl _
  | cons x r ih =>
    have h1 := h x List.mem_cons_self
    have h2 := ih fun i hi => h i (List.mem_cons_of_mem _ hi)
    rw [List.map_cons, List.map_cons, List.sum_cons, List.sum_cons]; omega
theorem sum_le_eq {l : List Nat} {f g : Nat → Int} (h : ∀ i ∈ l, f i ≤ g i) (hs : (l.map g).sum ≤ (l.map f).sum) : ∀ i ∈ l, f i = g i := by
  induction l with
  | nil => intro i hi; cases hi
  | cons x r ih =>
    have h1 := h x List.mem_cons_self
    have h2 := sum_le_map (l := r) fun i hi => h i (List.mem_cons_of_mem _ hi)
    rw [List.map_cons, List.map_cons, List.sum_cons, List.sum_cons] at hs
    intro i hi
    rcases List.mem_cons.mp hi with q | q
    · rw [q]; omega
    · exact ih (fun i hi => h i (List.mem_cons_of_mem _ hi)) (by omega) i q
theorem sum_ex_lt {l : List Nat} {f g : Nat → Int} (hs : (l.map f).sum < (l.map g).sum) : ∃ i ∈ l, f i < g i := by
  refine Classical.byContradiction fun hn => ?_
  have := sum_le_map (l := l) (f := g) (g := f) fun i hi => by
    have : ¬ f i < g i := fun q => hn ⟨i, hi, q⟩
    omega
  omega
theorem sum_one {l : List Nat} (hn : l.Nodup) {f g : Nat → Int} {i : Nat} (hi : i ∈ l) (h : ∀ k, k ≠ i → f k = g k) : (l.map f).sum - f i = (l.map g).sum - g i := by
  induction l with
  | nil => cases hi
  | cons x r ih =>
    rw [List.map_cons, List.map_cons, List.sum_cons, List.sum_cons]
    obtain ⟨n1, n2⟩ := List.nodup_cons.mp hn
    rcases List.mem_cons.mp hi with q | q
    · subst q
      have : r.map f = r.map g := List.map_congr_left fun k hk => h k fun e => n1 (e ▸ hk)
      rw [this]; omega
    · have hx : x ≠ i := fun e => n1 (e ▸ q)
      have := ih n2 q
      rw [h x hx]; omega

section
variable {votes : List Int}
theorem uq_mono (hV : 0 < votes.sum) (hv : ∀ v ∈ votes, 0 ≤ v) {j j' : Int} (h : j ≤ j') {i : Nat} (hi : i < votes.length) : uq votes j i ≤ uq votes j' i := by
  have h1 := (uq_iff hV hi).mp (Int.le_refl (uq votes j' i))
  refine (uq_iff hV hi).mpr (Int.le_trans (Int.mul_le_mul_of_nonneg_left h (v_nn hv i)) h1)
theorem uq_zero (hV : 0 < votes.sum) {i : Nat} (hi : i < votes.length) : uq votes 0 i = 0 := by
  have h1 : uq votes 0 i ≤ 0 := (uq_iff hV hi).mpr (by simp)
  have h2 : ¬ uq votes 0 i ≤ -1 := fun q => by
    have := (uq_iff hV hi).mp q
    rw [Int.mul_zero] at this
    omega
  omega
theorem sum_range (a : List Int) (hl : a.length = votes.length) : ((List.range votes.length).map fun i => a.getD i 0).sum = a.sum := by rw [← hl, map_getD]

theorem hall_zero (hV : 0 < votes.sum) : Hall votes 0 (List.replicate votes.length 0) := by
  have g : ∀ i, i < votes.length → (List.replicate votes.length (0 : Int)).getD i 0 = 0 := fun i hi => by
    rw [List.getD_eq_getElem?_getD, List.getElem?_replicate, if_pos hi]; rfl
  refine ⟨by simp, fun i hi => by rw [g i hi]; exact Int.le_refl _, ?_, fun i hi => ?_, fun j hj => ?_⟩
  · have := sum_range (votes := votes) (List.replicate votes.length 0) (by simp)
    rw [← this, List.map_congr_left (g := fun _ => (0 : Int)) fun i hi => g i (List.mem_range.mp hi)]
    generalize List.range votes.length = l
    induction l with
    | nil => rfl
    | cons x r ih => rw [List.map_cons, List.sum_cons, ih]; rfl
  · rw [g i hi, show ((0 : Nat) : Int) = 0 from rfl, uq_zero hV hi]; exact Int.le_refl _
  · obtain rfl : j = 0 := by omega
    unfold minS
    rw [List.map_congr_left (g := fun _ => (0 : Int)) fun i hi => by rw [g i (List.mem_range.mp hi), show ((0 : Nat) : Int) = 0 from rfl, uq_zero hV (List.mem_range.mp hi)]; rfl]
    generalize List.range votes.length = l
    induction l with
    | nil => exact Int.le_refl _
    | cons x r ih => rw [List.map_cons, List.sum_cons]; omega

theorem set_get {a : List Int} {i : Nat} {x : Int} (hi : i < a.length) (k : Nat) : (a.set i x).getD k 0 = if k = i then x else a.getD k 0 := by
  rw [List.getD_eq_getElem?_getD, List.getElem?_set, List.getD_eq_getElem?_getD]
  by_cases e : i = k
  · subst e; simp [hi]
  · rw [if_neg e, if_neg (Ne.symm e)]

/-- a road's end has Hall's condition -/
theorem roads_hall (hV : 0 < votes.sum) (hv : ∀ v ∈ votes, 0 ≤ v) : ∀ {h : Nat} {a : List Int}, a ∈ roadsF votes h → Hall votes h a
  | 0, a, ha => by
    have : a = List.replicate votes.length 0 := by simpa [roadsF] using ha
    rw [this]; exact hall_zero hV
  | h + 1, a, ha => by
    obtain ⟨row, hr, k, hk, hc, rfl⟩ := roads_succ.mp ha
    obtain ⟨h1, h2, h3, h4, h5⟩ := roads_hall hV hv hr
    have hkr : k < row.length := by omega
    have cap : ∀ i, i < votes.length → (row.set k (row.getD k 0 + 1)).getD i 0 ≤ uq votes ((h + 1 : Nat) : Int) i := fun i hi => by
      rw [set_get hkr]
      split
      · rename_i e
        subst e
        have : ¬ uq votes ((h + 1 : Nat) : Int) i ≤ row.getD i 0 := fun q => by
          have := (uq_iff hV hi).mp q
          rw [Int.mul_comm] at this
          push_cast at this
          omega
        omega
      · exact Int.le_trans (h4 i hi) (uq_mono hV hv (by omega) hi)
    have hs : (row.set k (row.getD k 0 + 1)).sum = ((h + 1 : Nat) : Int) := by rw [set_sum _ hkr, h3]; omega
    have hl : (row.set k (row.getD k 0 + 1)).length = votes.length := by rw [List.length_set]; exact h1
    refine ⟨hl, fun i hi => ?_, hs, cap, fun j hj => ?_⟩
    · rw [set_get hkr]
      have := h2 i hi
      have := h2 k hk
      split <;> omega
    · by_cases e : j = h + 1
      · subst e
        have : minS votes (row.set k (row.getD k 0 + 1)) ((h + 1 : Nat) : Int) = (row.set k (row.getD k 0 + 1)).sum := by
          unfold minS
          rw [← sum_range (votes := votes) _ hl]
          refine congrArg List.sum (List.map_congr_left fun i hi => ?_)
          have := cap i (List.mem_range.mp hi)
          omega
        rw [this, hs]; exact Int.le_refl _
      · refine Int.le_trans (h5 j (by omega)) ?_
        unfold minS
        refine sum_le_map fun i hi => ?_
        rw [set_get hkr]
        split
        · rename_i e; subst e; omega
        · omega
end
end Mine

/-! M03t -/
namespace Mine
/-- the last place where P holds -/
theorem last_at {Pr : Nat → Prop} (h0 : Pr 0) : ∀ h : Nat, ∃ m, m ≤ h ∧ Pr m ∧ ∀ j, m < j → j ≤ h → ¬ Pr j
  | 0 => ⟨0, Nat.le_refl _, h0, fun j h1 h2 => by omega⟩
  | h + 1 => by
    by_cases q : Pr (h + 1)
    · exact ⟨h + 1, Nat.le_refl _, q, fun j h1 h2 => by omega⟩
    · obtain ⟨m, h1, h2, h3⟩ := last_at h0 h
      exact ⟨m, by omega, h2, fun j g1 g2 => by
        by_cases e : j = h + 1
        · rw [e]; exact q
        · exact h3 j g1 (by omega)⟩
section
variable {votes : List Int}
/-- a seat that the other end has not can be taken off -/
theorem hall_off (hV : 0 < votes.sum) (hv : ∀ v ∈ votes, 0 ≤ v) {h : Nat} {a b : List Int} (A : Hall votes (h + 1) a) (B : Hall votes h b) :
    ∃ i, i < votes.length ∧ b.getD i 0 < a.getD i 0 ∧ Hall votes h (a.set i (a.getD i 0 - 1)) := by
  have hz : minS votes a ((0 : Nat) : Int) = ((0 : Nat) : Int) := by
    unfold minS
    rw [List.map_congr_left (g := fun _ => (0 : Int)) fun i hi => by
      have h1 := A.nn i (List.mem_range.mp hi)
      rw [show ((0 : Nat) : Int) = 0 from rfl, uq_zero hV (List.mem_range.mp hi)]; omega]
    generalize List.range votes.length = l
    induction l with
    | nil => rfl
    | cons x r ih => rw [List.map_cons, List.sum_cons, ih]; rfl
  obtain ⟨m, hm, ht, hnt⟩ := last_at (Pr := fun j => minS votes a j = (j : Int)) hz h
  have e1 : ((List.range votes.length).map fun i => a.getD i 0 - min (a.getD i 0) (uq votes m i)).sum = (h : Int) + 1 - m := by
    rw [sum_sub, sum_range a A.len, A.sum]
    have : ((List.range votes.length).map fun i => min (a.getD i 0) (uq votes m i)).sum = m := ht
    rw [this]; omega
  have e2 : ((List.range votes.length).map fun i => b.getD i 0 - min (b.getD i 0) (uq votes m i)).sum ≤ (h : Int) - m := by
    rw [sum_sub, sum_range b B.len, B.sum]
    have : (m : Int) ≤ ((List.range votes.length).map fun i => min (b.getD i 0) (uq votes m i)).sum := B.hall m hm
    omega
  obtain ⟨i, hi, hlt⟩ := sum_ex_lt (l := List.range votes.length) (f := fun i => b.getD i 0 - min (b.getD i 0) (uq votes m i)) (g := fun i => a.getD i 0 - min (a.getD i 0) (uq votes m i)) (by omega)
  have hi := List.mem_range.mp hi
  have hil : i < a.length := by rw [A.len]; exact hi
  have hbi := B.nn i hi
  have hgt : b.getD i 0 < a.getD i 0 := by omega
  have hu : uq votes m i < a.getD i 0 := by omega
  have hsum : (a.set i (a.getD i 0 - 1)).sum = (h : Int) := by rw [set_sum _ hil, A.sum]; omega
  have hlen : (a.set i (a.getD i 0 - 1)).length = votes.length := by rw [List.length_set]; exact A.len
  have hall : ∀ j : Nat, j ≤ h → (j : Int) ≤ minS votes (a.set i (a.getD i 0 - 1)) j := fun j hj => by
    have hA := A.hall j (by omega)
    have one : minS votes (a.set i (a.getD i 0 - 1)) j - min (a.getD i 0 - 1) (uq votes j i) = minS votes a j - min (a.getD i 0) (uq votes j i) := by
      have := sum_one (l := List.range votes.length) List.nodup_range (f := fun k => min ((a.set i (a.getD i 0 - 1)).getD k 0) (uq votes j k)) (g := fun k => min (a.getD k 0) (uq votes j k)) (i := i) (List.mem_range.mpr hi) (fun k hk => by rw [set_get hil, if_neg hk])
      rw [set_get hil, if_pos rfl] at this
      exact this
    by_cases hjm : j ≤ m
    · have := uq_mono hV hv (show (j : Int) ≤ m by omega) hi
      omega
    · have := hnt j (by omega) hj
      omega
  refine ⟨i, hi, hgt, hlen, fun k hk => ?_, hsum, fun k hk => ?_, hall⟩
  · rw [set_get hil]
    have := A.nn k hk
    split <;> omega
  · have hh := hall h (Nat.le_refl _)
    have := sum_le_eq (l := List.range votes.length) (f := fun k => min ((a.set i (a.getD i 0 - 1)).getD k 0) (uq votes h k)) (g := fun k => (a.set i (a.getD i 0 - 1)).getD k 0) (fun k _ => Int.min_le_left _ _) (by rw [sum_range _ hlen, hsum]; exact hh) k (List.mem_range.mpr hk)
    omega

/-- what an apportionment costs -/
def cost (c a : List Int) : Int := ((List.range a.length).map fun i => a.getD i 0 * (a.getD i 0 + 1) * c.getD i 0).sum
theorem cost_set {c a : List Int} {i : Nat} (hi : i < a.length) (x : Int) : cost c (a.set i x) = cost c a - a.getD i 0 * (a.getD i 0 + 1) * c.getD i 0 + x * (x + 1) * c.getD i 0 := by
  unfold cost
  rw [List.length_set]
  have := sum_one (l := List.range a.length) List.nodup_range (f := fun k => (a.set i x).getD k 0 * ((a.set i x).getD k 0 + 1) * c.getD k 0) (g := fun k => a.getD k 0 * (a.getD k 0 + 1) * c.getD k 0) (i := i) (List.mem_range.mpr hi) (fun k hk => by rw [set_get hi, if_neg hk])
  rw [set_get hi, if_pos rfl] at this
  omega
/-- a costs more than q, or as much and stands behind it -/
def Worse (c q a : List Int) : Prop := cost c q < cost c a ∨ (cost c q = cost c a ∧ ltL q a = false)

theorem ltL_set : ∀ {x y : List Int} {i : Nat}, x.length = y.length → i < x.length → ltL (x.set i (x.getD i 0 + 1)) (y.set i (y.getD i 0 + 1)) = ltL x y
  | [], _, i, _, h => absurd h (Nat.not_lt_zero _)
  | x :: xs, [], i, h, _ => by cases h
  | x :: xs, y :: ys, 0, h, _ => by
    show (if x + 1 = y + 1 then ltL xs ys else decide (x + 1 < y + 1)) = if x = y then ltL xs ys else decide (x < y)
    by_cases e : x = y
    · rw [if_pos e, if_pos (by omega)]
    · rw [if_neg e, if_neg (by omega)]
      exact decide_eq_decide.mpr (by omega)
  | x :: xs, y :: ys, i + 1, h, hi => by
    show (if x = y then ltL (xs.set i (xs.getD i 0 + 1)) (ys.set i (ys.getD i 0 + 1)) else decide (x < y)) = if x = y then ltL xs ys else decide (x < y)
    rw [ltL_set (by simpa using h) (by simpa using hi)]
theorem ltL_of : ∀ {a b : List Int} {j : Nat}, a.length = b.length → j < a.length → (∀ l, l < j → a.getD l 0 = b.getD l 0) → a.getD j 0 < b.getD j 0 → ltL a b = true
  | [], _, j, _, h, _, _ => absurd h (Nat.not_lt_zero _)
  | x :: a, [], j, h, _, _, _ => by cases h
  | x :: a, y :: b, 0, hl, hj, he, h => by
    have h : x < y := h
    show (if x = y then ltL a b else decide (x < y)) = true
    rw [if_neg (by omega), decide_eq_true h]
  | x :: a, y :: b, j + 1, hl, hj, he, h => by
    have e : x = y := he 0 (by omega)
    show (if x = y then ltL a b else decide (x < y)) = true
    rw [if_pos e]
    exact ltL_of (by simpa using hl) (by simpa using hj) (fun l hl => by simpa using he (l + 1) (by omega)) (by simpa using h)
theorem ltL_two {q a : List Int} {m i : Nat} (hl : q.length = a.length) (hm : m ≤ i) (hi : i < q.length) (h : ltL q a = false) : ltL (q.set m (q.getD m 0 + 1)) (a.set i (a.getD i 0 + 1)) = false := by
  have h1 : ltL (q.set i (q.getD i 0 + 1)) (a.set i (a.getD i 0 + 1)) = false := by rw [ltL_set hl hi]; exact h
  have h2 : ltL (q.set m (q.getD m 0 + 1)) (q.set i (q.getD i 0 + 1)) = false := by
    by_cases e : m = i
    · subst e; exact ltL_irr _
    · refine ltL_asym _ _ (ltL_of (j := m) (by rw [List.length_set, List.length_set]) (by rw [List.length_set]; omega) (fun l hl => ?_) ?_)
      · rw [set_get hi, set_get (by omega), if_neg (by omega), if_neg (by omega)]
      · rw [set_get hi, set_get (by omega), if_neg e, if_pos rfl]; omega
  exact ltL_trans _ _ _ h1 h2

/-- the weights of the seats -/
structure Cst (votes c : List Int) (W : Int) : Prop where
  w : 0 < W
  eq : ∀ i, i < votes.length → 0 < votes.getD i 0 → votes.getD i 0 * c.getD i 0 = W
theorem Cst.pos {c : List Int} {W : Int} (C : Cst votes c W) {i : Nat} (hi : i < votes.length) (h : 0 < votes.getD i 0) : 0 < c.getD i 0 := by
  have := C.eq i hi h
  have hw := C.w
  refine Classical.byContradiction fun q => ?_
  have := Int.mul_le_mul_of_nonneg_left (show c.getD i 0 ≤ 0 by omega) (Int.le_of_lt h)
  rw [Int.mul_zero] at this
  omega
/-- x seats at i cost no more than y at j -/
theorem Cst.le {c : List Int} {W : Int} (C : Cst votes c W) {i j : Nat} (hi : i < votes.length) (hj : j < votes.length) (pi : 0 < votes.getD i 0) (pj : 0 < votes.getD j 0) {x y : Int} :
    (x * c.getD i 0 ≤ y * c.getD j 0 ↔ x * votes.getD j 0 ≤ y * votes.getD i 0) ∧ (x * c.getD i 0 = y * c.getD j 0 ↔ x * votes.getD j 0 = y * votes.getD i 0) := by
  have e1 := C.eq i hi pi
  have e2 := C.eq j hj pj
  have hw := C.w
  generalize votes.getD i 0 = vi at *
  generalize votes.getD j 0 = vj at *
  generalize c.getD i 0 = ci at *
  generalize c.getD j 0 = cj at *
  have k1 : x * ci * (vi * vj) = x * vj * W := by rw [← e1]; grind
  have k2 : y * cj * (vi * vj) = y * vi * W := by rw [← e2]; grind
  have hp : 0 < vi * vj := Int.mul_pos pi pj
  constructor
  · constructor
    · intro h
      refine Int.le_of_mul_le_mul_right (a := W) ?_ hw
      rw [← k1, ← k2]; exact Int.mul_le_mul_of_nonneg_right h (Int.le_of_lt hp)
    · intro h
      refine Int.le_of_mul_le_mul_right (a := vi * vj) ?_ hp
      rw [k1, k2]; exact Int.mul_le_mul_of_nonneg_right h (Int.le_of_lt hw)
  · constructor
    · intro h
      refine Int.eq_of_mul_eq_mul_right (Int.ne_of_gt hw) ?_
      rw [← k1, ← k2, h]
    · intro h
      refine Int.eq_of_mul_eq_mul_right (Int.ne_of_gt hp) ?_
      rw [k1, k2, h]
end
end Mine

/-! M03u -/
namespace Mine
section
variable {votes : List Int}
theorem q_st (hn : 0 < votes.length) (h : Nat) : St votes (qIter votes h) h := ⟨qIter_len h, qIter_nn h, qIter_sum hn h⟩
theorem q_road (hV : 0 < votes.sum) (hv : ∀ v ∈ votes, 0 ≤ v) (hn : 0 < votes.length) : ∀ h, qIter votes h ∈ roadsF votes h
  | 0 => by simp [qIter, roadsF]
  | h + 1 => by
    obtain ⟨p1, p2, _⟩ := pick_spec hv (q_st hn h) hV hn
    exact roads_succ.mpr ⟨qIter votes h, q_road hV hv hn h, qPick votes (qIter votes h), p1, by rw [Int.mul_comm ((h : Int) + 1)]; exact p2, rfl⟩
theorem set_back {a : List Int} {i : Nat} (hi : i < a.length) : (a.set i (a.getD i 0 - 1)).set i ((a.set i (a.getD i 0 - 1)).getD i 0 + 1) = a := by
  rw [set_get hi, if_pos rfl, List.set_set, show a.getD i 0 - 1 + 1 = a.getD i 0 by omega]
  refine List.ext_getElem (by simp) fun k h1 h2 => ?_
  rw [List.getElem_set]
  split
  · rename_i e; subst e; rw [getD_lt h2]
  · rfl
theorem cost_up {c a : List Int} {i : Nat} (hi : i < a.length) : cost c (a.set i (a.getD i 0 + 1)) = cost c a + 2 * ((a.getD i 0 + 1) * c.getD i 0) := by
  rw [cost_set hi]
  generalize a.getD i 0 = x
  generalize c.getD i 0 = y
  grind
/-- the quota method's answer costs least, of such it stands first -/
theorem q_best {c : List Int} {W : Int} (C : Cst votes c W) (hV : 0 < votes.sum) (hv : ∀ v ∈ votes, 0 ≤ v) (hn : 0 < votes.length) : ∀ {h : Nat} {a : List Int}, Hall votes h a → Worse c (qIter votes h) a
  | 0, a, A => by
    have e : a = qIter votes 0 := by
      have e2 : qIter votes 0 = List.replicate votes.length 0 := rfl
      rw [e2]
      refine List.eq_replicate_iff.mpr ⟨A.len, fun x hx => ?_⟩
      obtain ⟨i, hi, rfl⟩ := List.mem_iff_getElem.mp hx
      have hi' : i < votes.length := by rw [← A.len]; exact hi
      have h1 := A.nn i hi'
      have h2 := A.cap i hi'
      rw [show ((0 : Nat) : Int) = 0 from rfl, uq_zero hV hi'] at h2
      rw [← getD_lt]; omega
    rw [e]
    exact .inr ⟨rfl, ltL_irr _⟩
  | h + 1, a, A => by
    have hq := roads_hall hV hv (q_road hV hv hn h)
    obtain ⟨i, hi, hgt, A'⟩ := hall_off hV hv A hq
    have ih := q_best C hV hv hn A'
    obtain ⟨p1, p2, p3⟩ := pick_spec hv (q_st hn h) hV hn
    have hnx : qIter votes (h + 1) = (qIter votes h).set (qPick votes (qIter votes h)) ((qIter votes h).getD (qPick votes (qIter votes h)) 0 + 1) := rfl
    rw [hnx]
    have hql := qIter_len (votes := votes) h
    have hal := A.len
    have hil : i < a.length := by rw [A.len]; exact hi
    have hcap : ¬ uq votes ((h + 1 : Nat) : Int) i ≤ (qIter votes h).getD i 0 := by have := A.cap i hi; omega
    have hel : (qIter votes h).getD i 0 * votes.sum < votes.getD i 0 * ((h : Int) + 1) := by
      have h9 : ¬ votes.getD i 0 * ((h + 1 : Nat) : Int) ≤ (qIter votes h).getD i 0 * votes.sum := fun q => hcap ((uq_iff hV hi).mpr q)
      push_cast at h9
      omega
    have hvi := elig_pos hv (q_st hn h) hV hel
    have hvm := elig_pos hv (q_st hn h) hV p2
    have hp3 := p3 i hi hel
    have hqi := hq.nn i hi
    generalize qIter votes h = Q at *
    generalize qPick votes Q = m at *
    have ci := C.pos hi hvi
    have hle := C.le p1 hi hvm hvi (x := Q.getD m 0 + 1) (y := Q.getD i 0 + 1)
    have hmono : (Q.getD i 0 + 1) * c.getD i 0 ≤ a.getD i 0 * c.getD i 0 := Int.mul_le_mul_of_nonneg_right (by omega) (Int.le_of_lt ci)
    have ca : cost c a = cost c (a.set i (a.getD i 0 - 1)) + 2 * (a.getD i 0 * c.getD i 0) := by
      have := cost_up (c := c) (a := a.set i (a.getD i 0 - 1)) (i := i) (by rw [List.length_set]; exact hil)
      rw [set_back hil, set_get hil, if_pos rfl, show a.getD i 0 - 1 + 1 = a.getD i 0 by omega] at this
      exact this
    have cq := cost_up (c := c) (a := Q) (i := m) (by omega)
    have hl1 : (Q.getD m 0 + 1) * c.getD m 0 ≤ (Q.getD i 0 + 1) * c.getD i 0 := hle.1.mpr (by rcases hp3 with q | ⟨q, _⟩ <;> omega)
    rcases ih with q | ⟨q1, q2⟩
    · exact .inl (by omega)
    · by_cases e : (Q.getD m 0 + 1) * c.getD m 0 = a.getD i 0 * c.getD i 0
      · have e1 : (Q.getD i 0 + 1) * c.getD i 0 = a.getD i 0 * c.getD i 0 := by omega
        have e2 : (Q.getD m 0 + 1) * c.getD m 0 = (Q.getD i 0 + 1) * c.getD i 0 := by omega
        have e3 := hle.2.mp e2
        have hmi : m ≤ i := by rcases hp3 with q | ⟨_, q⟩ <;> omega
        refine .inr ⟨by omega, ?_⟩
        have := ltL_two (q := Q) (a := a.set i (a.getD i 0 - 1)) (m := m) (i := i) (by rw [List.length_set]; omega) hmi (by omega) q2
        rw [set_back hil] at this
        exact this
      · exact .inl (by omega)
end
end Mine

/-! M03v -/
namespace Mine
/-- Jefferson's answer, by its claims -/
structure DvJ (votes : List Int) (S : Nat) (J : List Int) : Prop where
  len : J.length = votes.length
  nn : ∀ i, i < votes.length → 0 ≤ J.getD i 0
  sum : J.sum = S
  cmp : ∀ i j, i < votes.length → j < votes.length → i ≠ j → 0 < J.getD i 0 → votes.getD j 0 * J.getD i 0 < votes.getD i 0 * (J.getD j 0 + 1) ∨ (votes.getD j 0 * J.getD i 0 = votes.getD i 0 * (J.getD j 0 + 1) ∧ i < j)
theorem rep0_get {n i : Nat} : (List.replicate n (0 : Int)).getD i 0 = 0 := by
  rw [List.getD_eq_getElem?_getD, List.getElem?_replicate]
  split <;> rfl
theorem cv_J3 (p q : Int) (x y : Nat) : cv kJ p x q y = p * ((y : Int) + 1) - q * ((x : Int) + 1) := by
  unfold cv
  show p * 1 * ((y : Int) + 1) - q * 1 * ((x : Int) + 1) = _
  rw [Int.mul_one, Int.mul_one]
theorem dvj_of {votes J : List Int} {S : Nat} (A : DvC kJ votes (List.replicate votes.length 0) S J) : DvJ votes S J := by
  obtain ⟨a1, a2, a3, a4⟩ := A
  simp only [rep0_get] at a2 a4
  refine ⟨a1, a2, a3, fun i j hi hj hij h => ?_⟩
  have := a4 i j hi hj hij h
  unfold cvA at this
  rw [cv_J3] at this
  unfold bS at this
  rw [rep0_get, rep0_get] at this
  have e1 : (((J.getD i 0 - 0).toNat - 1 : Nat) : Int) + 1 = J.getD i 0 := by omega
  have e2 : (((J.getD j 0 - 0).toNat : Nat) : Int) = J.getD j 0 := by have := a2 j hj; omega
  rw [e1, e2] at this
  omega
section
variable {votes : List Int}
def exc (votes a J : List Int) : Int := ((List.range votes.length).map fun i => max (a.getD i 0 - J.getD i 0) 0).sum
theorem exc_nn {a J : List Int} : 0 ≤ exc votes a J := by
  unfold exc
  generalize List.range votes.length = l
  induction l with
  | nil => exact Int.le_refl _
  | cons x r ih => rw [List.map_cons, List.sum_cons]; omega
theorem j_best {c J : List Int} {W : Int} {S : Nat} (C : Cst votes c W) (A : DvJ votes S J) : ∀ (d : Nat) {a : List Int}, a.length = votes.length → (∀ i, i < votes.length → 0 ≤ a.getD i 0) → a.sum = S → (∀ i, i < votes.length → 0 < a.getD i 0 → 0 < votes.getD i 0) → (∀ v ∈ votes, 0 ≤ v) → exc votes a J < d → Worse c J a
  | 0, a, _, _, _, _, _, hd => absurd hd (by have := exc_nn (votes := votes) (a := a) (J := J); omega)
  | d + 1, a, hl, hnn, hs, hz, hv, hd => by
    by_cases e : a = J
    · subst e; exact .inr ⟨rfl, ltL_irr _⟩
    obtain ⟨i, hi, h1⟩ := ex_more (a := a) (a' := J) (by rw [hl, A.len]) (by rw [hs, A.sum]) e
    obtain ⟨j, hj, h2⟩ := ex_more (a := J) (a' := a) (by rw [hl, A.len]) (by rw [hs, A.sum]) (Ne.symm e)
    rw [hl] at hi
    rw [A.len] at hj
    have hij : i ≠ j := fun q => by subst q; omega
    have jn := A.nn i hi
    have an := hnn j hj
    have vi := hz i hi (by omega)
    have hc := A.cmp j i hj hi (Ne.symm hij) (by omega)
    have vj : 0 < votes.getD j 0 := by
      have hvj : 0 ≤ votes.getD j 0 := v_nn hv j
      refine Classical.byContradiction fun q => ?_
      have hz : votes.getD j 0 = 0 := by omega
      rw [hz, Int.zero_mul] at hc
      have := Int.mul_pos vi (show 0 < J.getD j 0 by omega)
      omega
    have hil : i < a.length := by omega
    have hjl : j < a.length := by omega
    have ci := C.pos hi vi
    have cj := C.pos hj vj
    have g := mv_get hil hjl hij
    -- the row with the seat moved
    have hl' : (mv a i j).length = votes.length := by rw [mv_len]; exact hl
    have hs' : (mv a i j).sum = S := by rw [mv_sum hil hjl hij]; exact hs
    have hd' : exc votes (mv a i j) J < d := by
      have hle : ∀ k ∈ List.range votes.length, max ((mv a i j).getD k 0 - J.getD k 0) 0 ≤ max (a.getD k 0 - J.getD k 0) 0 := fun k _ => by
        rw [g]
        split
        · rename_i q; subst q; omega
        · split
          · rename_i q; subst q; omega
          · omega
      have hlt : exc votes (mv a i j) J < exc votes a J := by
        refine Classical.byContradiction fun q => ?_
        have := sum_le_eq (l := List.range votes.length) hle (by unfold exc at q; omega) i (List.mem_range.mpr hi)
        rw [g, if_neg hij, if_pos rfl] at this
        omega
      omega
    have ih := j_best C A d hl' (fun k hk => by
      have := hnn k hk
      rw [g]
      split
      · omega
      · split
        · rename_i q; subst q; omega
        · exact this) hs' (fun k hk => by
      rw [g]
      split
      · rename_i q; subst q; intro _; exact vj
      · split
        · rename_i q; subst q; intro _; exact vi
        · exact hz k hk) hv hd'
    have cm : cost c (mv a i j) = cost c a - 2 * (a.getD i 0 * c.getD i 0) + 2 * ((a.getD j 0 + 1) * c.getD j 0) := by
      have e1 : (a.set i (a.getD i 0 - 1)).getD j 0 = a.getD j 0 := by rw [set_get hil, if_neg (Ne.symm hij)]
      have e2 : mv a i j = (a.set i (a.getD i 0 - 1)).set j ((a.set i (a.getD i 0 - 1)).getD j 0 + 1) := by rw [e1]; rfl
      rw [e2, cost_up (by rw [List.length_set]; exact hjl), e1]
      have := cost_up (c := c) (a := a.set i (a.getD i 0 - 1)) (i := i) (by rw [List.length_set]; exact hil)
      rw [set_back hil, set_get hil, if_pos rfl, show a.getD i 0 - 1 + 1 = a.getD i 0 by omega] at this
      omega
    have hle := C.le hj hi vj vi (x := J.getD j 0) (y := J.getD i 0 + 1)
    have m1 : (a.getD j 0 + 1) * c.getD j 0 ≤ J.getD j 0 * c.getD j 0 := Int.mul_le_mul_of_nonneg_right (by omega) (Int.le_of_lt cj)
    have m2 : (J.getD i 0 + 1) * c.getD i 0 ≤ a.getD i 0 * c.getD i 0 := Int.mul_le_mul_of_nonneg_right (by omega) (Int.le_of_lt ci)
    rw [Int.mul_comm (votes.getD i 0) (J.getD j 0), Int.mul_comm (votes.getD j 0) (J.getD i 0 + 1)] at hc
    have m3 : J.getD j 0 * c.getD j 0 ≤ (J.getD i 0 + 1) * c.getD i 0 := hle.1.mpr (by rcases hc with q | ⟨q, _⟩ <;> omega)
    rcases ih with q | ⟨q1, q2⟩
    · exact .inl (by omega)
    · by_cases e : (a.getD j 0 + 1) * c.getD j 0 = a.getD i 0 * c.getD i 0
      · have e3 := hle.2.mp (show J.getD j 0 * c.getD j 0 = (J.getD i 0 + 1) * c.getD i 0 by omega)
        have hji : j < i := by rcases hc with q | ⟨_, q⟩ <;> omega
        refine .inr ⟨by omega, ?_⟩
        have up : ltL a (mv a i j) = true := ltL_of (j := j) (by rw [mv_len]) hjl (fun l hl => by
          rw [g, if_neg (by omega), if_neg (by omega)]) (by rw [g, if_pos rfl]; omega)
        exact ltL_trans _ _ _ (ltL_asym _ _ up) q2
      · exact .inl (by omega)
/-- Jefferson's answer is the quota method's just where a road leads to it -/
theorem j_road {c J : List Int} {W : Int} {S : Nat} (C : Cst votes c W) (A : DvJ votes S J) (hV : 0 < votes.sum) (hv : ∀ v ∈ votes, 0 ≤ v) (hn : 0 < votes.length) : J = qIter votes S ↔ J ∈ roadsF votes S := by
  constructor
  · intro e; rw [e]; exact q_road hV hv hn S
  · intro h
    have hq := roads_hall hV hv (q_road hV hv hn S)
    have h1 := q_best C hV hv hn (roads_hall hV hv h)
    have h2 : Worse c J (qIter votes S) := by
      refine j_best C A ((exc votes (qIter votes S) J).toNat + 1) hq.len hq.nn hq.sum (fun i hi h => ?_) hv (by have := exc_nn (votes := votes) (a := qIter votes S) (J := J); omega)
      refine Classical.byContradiction fun q => ?_
      have hvi := v_nn hv i
      have hz : votes.getD i 0 = 0 := by omega
      have := hq.cap i hi
      have h3 : uq votes S i ≤ 0 := (uq_iff hV hi).mpr (by rw [hz]; simp)
      omega
    have k : cost c (qIter votes S) = cost c J := by
      rcases h1 with q | ⟨q, _⟩ <;> rcases h2 with q' | ⟨q', _⟩ <;> omega
    rcases h1 with q | ⟨_, q⟩
    · omega
    · rcases h2 with q' | ⟨_, q'⟩
      · omega
      · exact ltL_anti _ _ q' q
end
end Mine

/-! M03w -/
namespace Mine
/-! the law's loop over the ends -/
abbrev Down (l : List (List Int)) : Prop := l.Pairwise fun a b => ltL b a = true
def farStep (f : List Int → Int) (st : List Int × Int) (row : List Int) : List Int × Int := if st.2 < 0 ∨ f row < st.2 then (row, f row) else st
theorem far_after {f : List Int → Int} {Q : List Int} : ∀ {L : List (List Int)}, 0 ≤ f Q → (∀ r ∈ L, f Q ≤ f r) → L.foldl (farStep f) (Q, f Q) = (Q, f Q)
  | [], _, _ => rfl
  | r :: L, h0, h => by
    have h1 := h r List.mem_cons_self
    rw [List.foldl_cons, show farStep f (Q, f Q) r = (Q, f Q) by unfold farStep; rw [if_neg (by dsimp only; omega)]]
    exact far_after h0 fun r hr => h r (List.mem_cons_of_mem _ hr)
theorem far_fold {f : List Int → Int} {Q : List Int} : ∀ {L : List (List Int)} {st : List Int × Int}, Down L → Q ∈ L → (∀ r ∈ L, f Q < f r ∨ (f Q = f r ∧ ltL Q r = false)) → 0 ≤ f Q → (st.2 < 0 ∨ f Q < st.2) → L.foldl (farStep f) st = (Q, f Q)
  | [], _, _, hQ, _, _, _ => by cases hQ
  | r :: L, st, hd, hQ, hw, h0, hst => by
    obtain ⟨d1, d2⟩ := List.pairwise_cons.mp hd
    rw [List.foldl_cons]
    by_cases e : r = Q
    · subst e
      rw [show farStep f st r = (r, f r) by unfold farStep; rw [if_pos hst]]
      exact far_after h0 fun s hs => by rcases hw s (List.mem_cons_of_mem _ hs) with q | ⟨q, _⟩ <;> omega
    · have hQL : Q ∈ L := by
        rcases List.mem_cons.mp hQ with q | q
        · exact absurd q.symm e
        · exact q
      have hlt := d1 Q hQL
      have hf : f Q < f r := by
        rcases hw r List.mem_cons_self with q | ⟨_, q⟩
        · exact q
        · rw [hlt] at q; cases q
      refine far_fold d2 hQL (fun s hs => hw s (List.mem_cons_of_mem _ hs)) h0 ?_
      unfold farStep
      split
      · exact .inr hf
      · exact hst
theorem sort_down {rows : List (List Int)} (hn : rows.Nodup) : Down (sortT rows).reverse := by
  rw [Down, List.pairwise_reverse]
  have h1 := sortT_sorted rows
  have h2 : (sortT rows).Nodup := (sortT_perm rows).nodup_iff.mpr hn
  have h3 : (sortT rows).Pairwise fun a b => a ≠ b := h2
  refine (h1.and h3).imp fun {a b} h => ?_
  cases q : ltL a b with
  | true => rfl
  | false => exact absurd (ltL_anti _ _ q h.1) h.2
theorem putT_nodup {r : List Int} {rows : List (List Int)} (h : rows.Nodup) : (putT r rows).Nodup := by
  unfold putT
  split
  · exact h
  · rename_i hr
    refine List.nodup_append.mpr ⟨h, by simp, fun a ha b hb => ?_⟩
    rw [List.mem_singleton.mp hb]
    exact fun e => hr (e ▸ ha)
theorem rdRow_nodup {votes : List Int} {V h : Int} {row : List Int} {acc : List (List Int)} (hn : acc.Nodup) : ∀ i, (rdRow votes V h row i acc).Nodup
  | 0 => hn
  | i + 1 => by
    have ih := rdRow_nodup (votes := votes) (V := V) (h := h) (row := row) hn i
    unfold rdRow
    split
    · exact putT_nodup ih
    · exact ih
theorem roads_nodup {votes : List Int} : ∀ h, (roadsF votes h).Nodup
  | 0 => by simp [roadsF]
  | h + 1 => by
    show (rdHouse votes ((h : Int) + 1) (roadsF votes h)).Nodup
    unfold rdHouse
    have go : ∀ (rest acc : List (List Int)), acc.Nodup → (rest.foldl (fun acc row => rdRow votes votes.sum ((h : Int) + 1) row votes.length acc) acc).Nodup := fun rest => by
      induction rest with
      | nil => intro acc ha; exact ha
      | cons r rest ih => intro acc ha; exact ih _ (rdRow_nodup ha _)
    exact go _ _ List.nodup_nil

/-! how many ends there are -/
theorem nodup_le {α : Type} [DecidableEq α] : ∀ {l m : List α}, l.Nodup → (∀ x ∈ l, x ∈ m) → l.length ≤ m.length
  | [], _, _, _ => Nat.zero_le _
  | x :: l, m, hn, hs => by
    obtain ⟨h1, h2⟩ := List.nodup_cons.mp hn
    have hx := hs x List.mem_cons_self
    have ih := nodup_le (l := l) (m := m.erase x) h2 fun y hy => (List.mem_erase_of_ne (fun e => h1 (by rw [← e]; exact hy))).mpr (hs y (List.mem_cons_of_mem _ hy))
    rw [List.length_erase_of_mem hx] at ih
    have := List.length_pos_of_mem hx
    rw [List.length_cons]; omega
theorem snoc_of {l : List Int} {k : Nat} (h : l.length = k + 1) : ∃ r x, l = r ++ [x] ∧ r.length = k :=
  ⟨l.take k, l.getD k 0, by
    have e := (List.take_append_drop k l).symm
    rw [List.drop_eq_getElem_cons (by omega), List.drop_of_length_le (by omega)] at e
    rw [getD_lt (by omega)]; exact e, by rw [List.length_take]; omega⟩
theorem rowsG_all {t : Int} : ∀ {k : Nat} {row : List Int}, row.length = k → (∀ x ∈ row, 0 ≤ x) → row.sum ≤ t → row ∈ rowsG t k
  | 0, row, h, _, _ => by rw [List.length_eq_zero_iff.mp h]; exact .head _
  | k + 1, row, h, hn, hs => by
    obtain ⟨r, x, rfl, hr⟩ := snoc_of h
    have hx := hn x (by simp)
    rw [List.sum_append, List.sum_singleton] at hs
    exact List.mem_flatMap.mpr ⟨r, rowsG_all hr (fun y hy => hn y (List.mem_append_left _ hy)) (by omega), List.mem_map.mpr ⟨x, downs_mem.mpr (by omega), rfl⟩⟩
theorem shares_all {t : Int} {p : Nat} {row : List Int} (hp : 1 ≤ p) (h : row.length = p) (hn : ∀ x ∈ row, 0 ≤ x) (hs : row.sum = t) : row ∈ sharesF t p := by
  obtain ⟨r, x, rfl, hr⟩ := snoc_of (k := p - 1) (l := row) (by omega)
  have hx := hn x (by simp)
  rw [List.sum_append, List.sum_singleton] at hs
  exact List.mem_map.mpr ⟨r, rowsG_all hr (fun y hy => hn y (List.mem_append_left _ hy)) (by omega), by rw [show t - r.sum = x by omega]⟩
theorem few (p : Nat) (hp : 1 ≤ p ∧ p ≤ 4) (t : Nat) (ht : t < p) : (sharesF t p).length < 64 := by
  obtain rfl | rfl | rfl | rfl : p = 1 ∨ p = 2 ∨ p = 3 ∨ p = 4 := by omega
  · obtain rfl : t = 0 := by omega
    decide +kernel
  · obtain rfl | rfl : t = 0 ∨ t = 1 := by omega
    all_goals decide +kernel
  · obtain rfl | rfl | rfl : t = 0 ∨ t = 1 ∨ t = 2 := by omega
    all_goals decide +kernel
  · obtain rfl | rfl | rfl | rfl : t = 0 ∨ t = 1 ∨ t = 2 ∨ t = 3 := by omega
    all_goals decide +kernel
section
variable {votes : List Int}
theorem uq_top (hV : 0 < votes.sum) {j : Int} {i : Nat} (hi : i < votes.length) : uq votes j i * votes.sum < votes.getD i 0 * j + votes.sum := by
  have : ¬ uq votes j i ≤ uq votes j i - 1 := by omega
  rw [uq_iff hV hi, Int.sub_mul] at this
  omega
theorem sum_mulR (l : List Nat) (f : Nat → Int) (c : Int) : (l.map fun i => f i * c).sum = (l.map f).sum * c := by
  induction l with
  | nil => simp
  | cons x r ih => rw [List.map_cons, List.map_cons, List.sum_cons, List.sum_cons, ih, Int.add_mul]
theorem sum_le_add (l : List Nat) {f g : Nat → Int} {c : Int} (h : ∀ i ∈ l, f i + 1 ≤ g i + c) : (l.map f).sum + l.length ≤ (l.map g).sum + l.length * c := by
  induction l with
  | nil => simp
  | cons x r ih =>
    have h1 := h x List.mem_cons_self
    have h2 := ih fun i hi => h i (List.mem_cons_of_mem _ hi)
    rw [List.map_cons, List.map_cons, List.sum_cons, List.sum_cons, List.length_cons, Int.natCast_add, Int.add_mul]
    omega
theorem roads_few (hV : 0 < votes.sum) (hv : ∀ v ∈ votes, 0 ≤ v) (h1 : 1 ≤ votes.length) (h4 : votes.length ≤ 4) {S : Nat} : (roadsF votes S).length < 64 := by
  have hq := roads_hall hV hv (q_road hV hv h1 S)
  -- the room above the ends
  have t0 : (S : Int) ≤ ((List.range votes.length).map fun i => uq votes S i).sum := by
    have := sum_le_map (l := List.range votes.length) (f := fun i => (qIter votes S).getD i 0) (g := fun i => uq votes S i) fun i hi => hq.cap i (List.mem_range.mp hi)
    rw [sum_range _ hq.len, hq.sum] at this
    exact this
  have t1 : ((List.range votes.length).map fun i => uq votes S i).sum < S + votes.length := by
    have hb := sum_le_add (List.range votes.length) (f := fun i => uq votes S i * votes.sum) (g := fun i => votes.getD i 0 * S) (c := votes.sum) fun i hi => by
      have := uq_top (j := S) hV (List.mem_range.mp hi)
      omega
    rw [sum_mulR, sum_mulR, sum_range votes rfl, List.length_range] at hb
    have hb2 : ((List.range votes.length).map fun i => uq votes S i).sum * votes.sum + votes.length ≤ votes.sum * S + votes.length * votes.sum := hb
    refine Int.lt_of_mul_lt_mul_right (a := votes.sum) ?_ (Int.le_of_lt hV)
    rw [Int.add_mul, Int.mul_comm (S : Int)]
    omega
  obtain ⟨t, ht⟩ : ∃ t : Nat, ((List.range votes.length).map fun i => uq votes S i).sum - S = t := ⟨(((List.range votes.length).map fun i => uq votes S i).sum - S).toNat, by omega⟩
  let φ : List Int → List Int := fun a => (List.range votes.length).map fun i => uq votes S i - a.getD i 0
  have inj : ((roadsF votes S).map φ).Nodup := by
    rw [List.Nodup, List.pairwise_map]
    refine (List.Pairwise.and_mem.mp (roads_nodup S)).imp fun {a b} h e => h.2.2 ?_
    have ha := roads_len h.1
    have hb := roads_len h.2.1
    refine List.ext_getElem (by omega) fun i h1 h2 => ?_
    have := congrArg (fun l : List Int => l.getD i 0) e
    have g : ∀ a : List Int, (φ a).getD i 0 = uq votes S i - a.getD i 0 := fun a => getD_map (f := fun i => uq votes S i - a.getD i 0) (by omega)
    have := (g a).symm.trans (this.trans (g b))
    rw [← getD_lt h1, ← getD_lt h2]; omega
  have sub : ∀ x ∈ (roadsF votes S).map φ, x ∈ sharesF t votes.length := fun x hx => by
    obtain ⟨a, ha, rfl⟩ := List.mem_map.mp hx
    have A := roads_hall hV hv ha
    refine shares_all h1 (by simp [φ]) (fun y hy => ?_) ?_
    · obtain ⟨i, hi, rfl⟩ := List.mem_map.mp hy
      have := A.cap i (List.mem_range.mp hi)
      omega
    · show ((List.range votes.length).map fun i => uq votes S i - a.getD i 0).sum = _
      rw [sum_sub, sum_range a A.len, A.sum]; exact ht
  have := nodup_le inj sub
  rw [List.length_map] at this
  exact Nat.lt_of_le_of_lt this (few votes.length ⟨h1, h4⟩ t (by omega))
end
end Mine

/-! M03x -/
namespace Mine
def whStep (w v : Int) : Int := if 0 < v then w * v else w
def wholeF (votes : List Int) : Int := votes.foldl whStep 1
theorem wh_pos : ∀ {votes : List Int} {w : Int}, 0 < w → 0 < votes.foldl whStep w
  | [], w, h => h
  | v :: r, w, h => by
    rw [List.foldl_cons]
    refine wh_pos ?_
    unfold whStep
    split
    · exact Int.mul_pos h (by assumption)
    · exact h
theorem wh_dvd0 : ∀ {votes : List Int} {w : Int}, w ∣ votes.foldl whStep w
  | [], w => Int.dvd_refl w
  | v :: r, w => by
    rw [List.foldl_cons]
    refine Int.dvd_trans ?_ (wh_dvd0 (votes := r))
    unfold whStep
    split
    · exact Int.dvd_mul_right w v
    · exact Int.dvd_refl w
theorem wh_dvd : ∀ {votes : List Int} {w v : Int}, v ∈ votes → 0 < v → v ∣ votes.foldl whStep w
  | [], w, v, h, _ => by cases h
  | u :: r, w, v, h, hp => by
    rw [List.foldl_cons]
    rcases List.mem_cons.mp h with q | q
    · subst q
      refine Int.dvd_trans ?_ (wh_dvd0 (votes := r))
      unfold whStep
      rw [if_pos hp]
      exact Int.dvd_mul_left w v
    · exact wh_dvd q hp
def cstL (votes : List Int) : List Int := votes.map fun v => (wholeF votes).fdiv v
theorem cst_ok {votes : List Int} : Cst votes (cstL votes) (wholeF votes) := by
  refine ⟨wh_pos (by decide), fun i hi h => ?_⟩
  unfold cstL
  rw [getD_map' (f := fun v => (wholeF votes).fdiv v) hi]
  have hd : votes.getD i 0 ∣ wholeF votes := wh_dvd (by rw [getD_lt hi]; exact List.getElem_mem _) h
  rw [Int.fdiv_eq_ediv_of_nonneg _ (Int.le_of_lt h)]
  exact Int.mul_ediv_cancel' hd
def farP (votes row : List Int) : Nat → Int
  | 0 => 0
  | i + 1 => farP votes row i + (if 0 < row.getD i 0 then row.getD i 0 * (row.getD i 0 + 1) * (wholeF votes).fdiv (votes.getD i 0) else 0)
theorem farP_eq {votes row : List Int} (hnn : ∀ i, i < votes.length → 0 ≤ row.getD i 0) : ∀ m, m ≤ votes.length → farP votes row m = ((List.range m).map fun i => row.getD i 0 * (row.getD i 0 + 1) * (cstL votes).getD i 0).sum
  | 0, _ => rfl
  | m + 1, h => by
    have ih := farP_eq hnn m (by omega)
    have h0 := hnn m (by omega)
    unfold farP
    rw [ih, List.range_succ, List.map_append, List.sum_append]
    have e : (cstL votes).getD m 0 = (wholeF votes).fdiv (votes.getD m 0) := getD_map' (f := fun v => (wholeF votes).fdiv v) (by omega)
    rw [List.map_cons, List.map_nil, List.sum_singleton, e]
    split
    · rfl
    · rw [show row.getD m 0 = 0 by omega]; simp
def farF (votes row : List Int) : Int := farP votes row votes.length
theorem farF_cost {votes row : List Int} (hl : row.length = votes.length) (hnn : ∀ i, i < votes.length → 0 ≤ row.getD i 0) : farF votes row = cost (cstL votes) row := by
  unfold farF cost
  rw [farP_eq hnn _ (Nat.le_refl _), hl]
theorem farF_nn {votes row : List Int} (hv : ∀ v ∈ votes, 0 ≤ v) (hnn : ∀ i, i < votes.length → 0 ≤ row.getD i 0) : 0 ≤ farF votes row := by
  unfold farF
  have go : ∀ m, m ≤ votes.length → 0 ≤ farP votes row m := fun m => by
    induction m with
    | zero => intro _; exact Int.le_refl _
    | succ m ih =>
      intro h
      have h0 := hnn m (by omega)
      have h1 := ih (by omega)
      have hw : 0 < wholeF votes := wh_pos (by decide)
      unfold farP
      split
      · have : 0 ≤ (wholeF votes).fdiv (votes.getD m 0) := by
          rw [Int.fdiv_eq_ediv_of_nonneg _ (v_nn hv m)]
          exact Int.ediv_nonneg (Int.le_of_lt hw) (v_nn hv m)
        have := Int.mul_nonneg (Int.mul_nonneg h0 (show 0 ≤ row.getD m 0 + 1 by omega)) this
        omega
      · omega
  exact go _ (Nat.le_refl _)
theorem ends_fold {votes : List Int} (hV : 0 < votes.sum) (hv : ∀ v ∈ votes, 0 ≤ v) (hn : 0 < votes.length) (S : Nat) :
    (sortT (roadsF votes S)).reverse.foldl (farStep (farF votes)) ([], -1) = (qIter votes S, farF votes (qIter votes S)) := by
  have hm : ∀ r, r ∈ (sortT (roadsF votes S)).reverse ↔ r ∈ roadsF votes S := fun r => by rw [List.mem_reverse, (sortT_perm _).mem_iff]
  have hq := roads_hall hV hv (q_road hV hv hn S)
  refine far_fold (sort_down (roads_nodup S)) ((hm _).mpr (q_road hV hv hn S)) (fun r hr => ?_) (farF_nn hv hq.nn) (.inl (by decide))
  have A := roads_hall hV hv ((hm r).mp hr)
  rw [farF_cost hq.len hq.nn, farF_cost A.len A.nn]
  exact q_best cst_ok hV hv hn A
end Mine

/-! L103 -/
namespace Mine
local macro_rules
  | `(tactic| walk_at "lk1") => `(tactic| first | with_reducible assumption | with_reducible exact lk_self | ((with_reducible refine' lk_upd ?hne ?_); (case hne => decide)) | ((with_reducible refine' lk_comp ?hne ?_); (case hne => rfl)) | ((with_reducible refine' lk_frz0 ?hne ?_); (case hne => rfl)) | ((with_reducible apply lk_frz1); (case h => rfl)))
local macro_rules
  | `(tactic| walk_at "lk") => `(tactic| ((repeat walk_at "lk1"); (try rfl)))
local macro_rules
  | `(tactic| walk_at "ex") => `(tactic| first
    | (with_reducible refine' W_nil ?_)
    | (with_reducible refine' W_cons ?_)
    | (with_reducible refine' Nx_n ?_)
    | (with_reducible refine' Nx_s ?_)
    | (with_reducible refine' W_pass ?_)
    | ((with_reducible refine' W_assign0 (fr := false) ?h1 ?h2 ?h3 ?_ ?h4); (case h1 => rfl); (case h2 => rfl); (case h3 => rfl); (case h4 => rfl))
    | ((with_reducible refine' W_assign0 (fr := true) ?h1 ?h2 ?h3 ?_ ?h4); (case h1 => rfl); (case h2 => rfl); (case h3 => rfl); (case h4 => rfl))
    | ((with_reducible refine' W_assign (fr := false) ?h1 ?h3 ?_ ?h4); (case h1 => rfl); (case h3 => rfl); (case h4 => rfl))
    | ((with_reducible refine' W_assign (fr := true) ?h1 ?h3 ?_ ?h4); (case h1 => rfl); (case h3 => rfl); (case h4 => rfl))
    | ((with_reducible refine' W_setsub ?h1 ?_); (case h1 => rfl))
    | ((with_reducible refine' W_aug ?h1 ?h2 ?_); (case h1 => rfl); (case h2 => walk_at "lk"))
    | ((with_reducible refine' W_augsub ?h1 ?h2 ?_); (case h1 => rfl); (case h2 => refine' ownL_of ?ho ?hl; (case ho => walk_at "lk"); (case hl => walk_at "ln")))
    | ((with_reducible refine' W_append0 ?h1 ?h2 ?h3 ?_); (case h1 => rfl); (case h2 => refine' ownL_of ?ho ?hl; (case ho => walk_at "lk"); (case hl => walk_at "ln")); (case h3 => rfl))
    | ((with_reducible refine' W_append ?h1 ?h2 ?h3 ?_); (case h1 => rfl); (case h2 => refine' ownL_of ?ho ?hl; (case ho => walk_at "lk"); (case hl => walk_at "ln")); (case h3 => refine' ownL_of ?ho ?hl; (case ho => walk_at "lk"); (case hl => walk_at "ln")))
    | (with_reducible refine' W_if ?_)
    | (with_reducible refine' W_ret ?_)
    | ((with_reducible refine' W_for0 ?h1 ?h2 ?h3 ?_); (case h1 => rfl); (case h2 => rfl); (case h3 => rfl))
    | ((with_reducible refine' W_for ?h1 ?h2 ?_); (case h1 => rfl); (case h2 => rfl))
    | (with_reducible refine' W_while ?_))
local macro_rules
  | `(tactic| walk_at "ev") => `(tactic| first
    | ((with_reducible refine' W_const ?h1 ?_); (case h1 => rfl))
    | ((with_reducible refine' W_name ?h1 ?h2 ?h3 ?h4 ?_); (case h1 => rfl); (case h2 => rfl); (case h3 => walk_at "lk"); (case h4 => rfl))
    | ((with_reducible refine' W_gname ?h1 ?h2 ?_); (case h1 => rfl); (case h2 => rfl))
    | (with_reducible refine' W_bin ?_)
    | (with_reducible refine' W_un ?_)
    | (with_reducible refine' W_boolop ?_)
    | (with_reducible refine' W_bool1 ?_)
    | (with_reducible refine' W_booland ?_)
    | ((with_reducible refine' W_cmp ?h1 ?_); (case h1 => rfl))
    | (with_reducible refine' W_ifexp ?_)
    | (with_reducible refine' W_list ?_)
    | (with_reducible refine' W_tuple ?_)
    | ((with_reducible refine' W_sub ?h1 ?_); (case h1 => rfl))
    | (with_reducible refine' W_evs0 ?_)
    | ((with_reducible refine' W_evs1 ?h1 ?_); (case h1 => rfl))
    | ((with_reducible refine' W_callf ?h1 ?h2 ?_); (case h1 => rfl); (case h2 => rfl))
    | ((with_reducible refine' W_callb ?h1 ?h2 ?_); (case h1 => rfl); (case h2 => rfl))
    | ((with_reducible refine' W_callt ?h1 ?h2 ?_); (case h1 => rfl); (case h2 => rfl))
    | ((with_reducible refine' W_isinst ?h1 ?h3 ?h2 ?_); (case h1 => rfl); (case h3 => rfl); (case h2 => rfl))
    | ((with_reducible refine' W_callrev ?h1 ?h2 ?h3 ?_); (case h1 => rfl); (case h2 => rfl); (case h3 => rfl))
    | ((with_reducible refine' W_range ?h1 ?h2 ?_); (case h1 => rfl); (case h2 => rfl))
    | ((with_reducible refine' W_srccall ?h1 ?_); (case h1 => rfl))
    | ((with_reducible refine' W_src ?h1 ?_); (case h1 => rfl))
    | ((with_reducible refine' W_comp ?h1 ?h2 ?_); (case h1 => rfl); (case h2 => rfl))
    | (with_reducible refine' W_tests0 ?_)
    | (with_reducible refine' W_tests1 ?_)
    | (with_reducible refine' T_not ?_)
    | (with_reducible refine' T_boolop ?_)
    | (with_reducible refine' T_and0 ?_)
    | (with_reducible refine' T_or0 ?_)
    | (with_reducible refine' T_and ?_)
    | (with_reducible refine' T_or ?_)
    | ((with_reducible refine' T_cmp ?h1 ?_); (case h1 => rfl))
    | ((with_reducible refine' T_val ?h1 ?_); (case h1 => rfl)))
local macro_rules
  | `(tactic| walk_at "ln") => `(tactic| first | decide | ((try simp only [List.length_map, List.length_append, List.length_cons, List.length_nil, List.length_replicate, List.length_range, lim]); omega))
local macro_rules
  | `(tactic| walk_at "vl") => `(tactic| first
    | (with_reducible refine' B_add ?_)
    | (with_reducible refine' B_sub ?_)
    | ((with_reducible refine' B_mod ?hz ?_); (case hz => decide))
    | ((with_reducible refine' B_pow ?hz ?_); (case hz => decide))
    | (with_reducible refine' U_neg ?_)
    | (with_reducible refine' I_int ?_)
    | (with_reducible refine' A_add ?_)
    | (with_reducible refine' A_sub ?_)
    | (with_reducible refine' C_lt ?_)
    | (with_reducible refine' C_le ?_)
    | (with_reducible refine' C_gt ?_)
    | (with_reducible refine' C_ge ?_)
    | (with_reducible refine' C_eqL ?_)
    | (with_reducible refine' C_neL ?_)
    | ((with_reducible refine' P_neg1 ?hl ?_); (case hl => walk_at "ln"))
    | ((refine' Ty_list ?hl ?_); (case hl => walk_at "ln"))
    | (with_reducible refine' C_eqi ?_)
    | (with_reducible refine' C_nei ?_)
    | (with_reducible refine' C_isnot ?_)
    | (with_reducible refine' Ty_int ?_)
    | (with_reducible refine' Is_il ?_)
    | (with_reducible refine' Is_ii ?_)
    | (with_reducible refine' Is_bi ?_)
    | (with_reducible refine' V_tr ?_)
    | (with_reducible refine' V_tri ?_)
    | ((with_reducible refine' X_ints ?hl ?hj ?_); (case hl => walk_at "ln"); (case hj => walk_at "ln"))
    | ((with_reducible refine' R_nat ?hl ?_); (case hl => walk_at "ln"))
    | ((with_reducible refine' S_list ?hl ?_); (case hl => walk_at "ln"))
    | (refine' F_sum ?_)
    | ((refine' F_maxL ?hl ?_); (case hl => walk_at "ln"))
    | ((with_reducible refine' X_rf (d := .tuple _) ?hl ?_); (case hl => rfl))
    | ((with_reducible refine' X_int0 ?hl ?hj ?_); (case hl => walk_at "ln"); (case hj => walk_at "ln"))
    | ((with_reducible refine' O_own ?ho ?_); (case ho => refine' ownL_of ?ha ?hl; (case ha => walk_at "lk"); (case hl => walk_at "ln")))
    | ((with_reducible refine' P_pos ?hl ?_); (case hl => walk_at "ln"))
    | ((with_reducible refine' B_zeros ?hl ?hj ?_); (case hl => walk_at "ln"); (case hj => walk_at "ln"))
    | (refine' L_ok ?hl ?_; (case hl => exact Nat.le_of_ble_eq_true rfl))
    | ((with_reducible refine' C_t ?hl ?_); (case hl => with_unfolding_all rfl))
    | ((with_reducible refine' C_f ?hl ?_); (case hl => with_unfolding_all rfl))
    | (with_reducible refine' K_tt ?_)
    | (with_reducible refine' K_ff ?_)
    | (with_reducible refine' K_tf ?_)
    | (with_reducible refine' K_ft ?_)
    | (with_reducible refine' K_n1 ?_)
    | (with_reducible refine' K_n2 ?_)
    | ((refine' F_len ?hl ?_); (case hl => walk_at "ln"))
    | ((refine' F_lent ?hl ?_); (case hl => walk_at "ln"))
    | ((with_reducible refine' B_mul ?hm ?_); (case hm => first | exact mulB_small (.inl (by decide)) | exact mulB_small (.inr (by decide)) | exact mulB_small (.inl (by omega)) | exact mulB_small (.inr (by omega))))
    | ((with_reducible refine' B_dv ?hm ?hn ?_); (case hm => first | decide | omega); (case hn => first | decide | omega)))
local macro_rules
  | `(tactic| walk_at "w") => `(tactic| (repeat (first | walk_at "ex" | walk_at "ev" | walk_at "vl")))
local macro_rules
  | `(tactic| walk_at "ex") => `(tactic| first
    | ((with_reducible refine' X_st ?h1 ?_); (case h1 => rfl))
    | ((with_reducible refine' X_if0 ?h1 ?_); (case h1 => rfl))
    | (with_reducible refine' X_if ?_)
    | (with_reducible refine' Tx_n ?_))
local macro_rules
  | `(tactic| walk_at "vl") => `(tactic| first
    | ((with_reducible refine' X_rows ?hl ?hj ?_); (case hl => walk_at "ln"); (case hj => walk_at "ln"))
    | ((with_reducible refine' B_snoc ?hl ?_); (case hl => walk_at "ln"))
    | (with_reducible refine' F_abs ?_)
    | ((refine' F_minL ?hl ?_); (case hl => walk_at "ln"))
    | ((refine' F_rev ?hl ?_); (case hl => walk_at "ln"))
    | ((with_reducible refine' R_down ?hl ?hj ?_); (case hl => first | decide | omega); (case hj => first | decide | omega))
    | (with_reducible refine' C_eqb ?_)
    | (with_reducible refine' C_eqR ?_)
    | (with_reducible refine' C_inI ?_)
    | (with_reducible refine' C_neR ?_))
local macro_rules
  | `(tactic| walk_at "ln") => `(tactic| ((try simp only [List.length_map, List.length_append, List.length_cons, List.length_nil, List.length_replicate, List.length_range, List.length_reverse, sortI_len, lim]); omega))
local macro_rules
  | `(tactic| walk_at "ev") => `(tactic| first
    | ((with_reducible refine' W_comp2 ?h1 ?h2 ?_); (case h1 => rfl); (case h2 => rfl))
    | (with_reducible refine' W_slice ?_))
local macro_rules
  | `(tactic| walk_at "ev") => `(tactic| first
    | ((with_reducible refine' W_callb ?h1 ?h2 ?_); (case h1 => rfl); (case h2 => rfl))
    | ((with_reducible refine' T_instr true ?h1 ?h2 ?h3 ?h4 ?h5 ?h6 ?_); (case h1 => rfl); (case h2 => rfl); (case h3 => walk_at "lk"); (case h4 => rfl); (case h5 => exact Nat.le_of_ble_eq_true rfl); (case h6 => with_unfolding_all rfl))
    | ((with_reducible refine' T_instr false ?h1 ?h2 ?h3 ?h4 ?h5 ?h6 ?_); (case h1 => rfl); (case h2 => rfl); (case h3 => walk_at "lk"); (case h4 => rfl); (case h5 => exact Nat.le_of_ble_eq_true rfl); (case h6 => with_unfolding_all rfl)))
local macro_rules
  | `(tactic| walk_at "vl") => `(tactic| first
    | ((with_reducible refine' R_from ?hl ?hj ?_); (case hl => omega); (case hj => omega)))
local macro_rules
  | `(tactic| walk_at "w") => `(tactic| (repeat ((fail_if_success (with_reducible refine' W_iscall ?_)); (first | walk_at "ex" | walk_at "ev" | walk_at "vl"))))
local macro_rules
  | `(tactic| walk_at "ex") => `(tactic| first
    | ((with_reducible refine' W_dict0 ?h1 ?_); (case h1 => rfl))
    | ((with_reducible refine' W_dict1 ?h1 ?_); (case h1 => rfl))
    | ((with_reducible refine' W_setdict ?h1 ?h2 ?h3 ?_); (case h1 => rfl); (case h2 => walk_at "lk"); (case h3 => walk_at "ln")))
local macro_rules
  | `(tactic| walk_at "ev") => `(tactic| first
    | (with_reducible refine' W_drop ?_))
local macro_rules
  | `(tactic| walk_at "vl") => `(tactic| first
    | ((with_reducible refine' Tk_row ?hl ?hj ?_); (case hl => walk_at "ln"); (case hj => walk_at "ln"))
    | ((with_reducible refine' Dp_row ?hz ?hi ?hl ?hj ?_); (case hz => first | omega | rfl); (case hi => first | omega | walk_at "ln"); (case hl => walk_at "ln"); (case hj => walk_at "ln"))
    | ((with_reducible refine' X_row ?hl ?hj ?_); (case hl => walk_at "ln"); (case hj => walk_at "ln"))
    | ((with_reducible refine' B_addT ?hl ?_); (case hl => walk_at "ln"))
    | ((with_reducible refine' B_addT1 ?hl ?_); (case hl => walk_at "ln"))
    | ((with_reducible refine' B_mulT ?hl ?hj ?_); (case hl => omega); (case hj => walk_at "ln"))
    | (with_reducible refine' C_inD ?_)
    | ((with_reducible refine' S_dict ?hl ?_); (case hl => walk_at "ln"))
    | ((with_reducible refine' Ty_lt ?hl ?_); (case hl => walk_at "ln"))
    | ((with_reducible refine' Ty_tl ?hl ?_); (case hl => walk_at "ln"))
    | (with_reducible refine' R_row ?_)
    | (with_reducible refine' O_one ?_))

section
variable {P : Params} {n : Nat}
theorem at_okI {zs : List Int} {k : Nat} {kz : Int} (e : kz = k) (hz : zs.length ≤ 63) (hk : k < 100) : (It (Mine.hd.heap_39 P) (n + 20)).call "_law_at" [.list (zs.map .int), .int kz] = .ok (.int (atI zs k 3)) := by
  rw [e]; exact at_ok hz hk
theorem fmod_bd (a : Int) {b : Int} (hb : 0 < b) : 0 ≤ a.fmod b ∧ a.fmod b < b := by
  rw [Int.fmod_eq_emod_of_nonneg _ (Int.le_of_lt hb)]
  exact ⟨Int.emod_nonneg _ (by omega), Int.emod_lt_of_pos _ hb⟩
def room03 (p : Nat) : Int := if p = 2 then 13 else if p = 3 then 10 else 7
def vote03 (zs : List Int) (i : Nat) : Int :=
  if (atI zs 2 3).fmod 2 = 0 then (atI zs (3 + i) 3).fmod (10 ^ 30) else (atI zs (3 + i) 3).fmod 12 * (1 + ((atI zs 2 3).fdiv 2).fmod (10 ^ 20))
def votes30 (zs : List Int) (p : Nat) : List Int := (List.range p).map (vote03 zs)
def votes03 (zs : List Int) (p : Nat) : List Int := if (votes30 zs p).sum = 0 then (votes30 zs p).set (p - 1) 1 else votes30 zs p

set_option maxHeartbeats 16000000 in
theorem lawA {zs : List Int} {p S : Nat} {fd : FuncData} {s1 s2 s3 s4 s5 s6 : Stmt} {rest : List Stmt} (hz : zs.length ≤ 63) (hp : 1 + (atI zs 0 3).fmod 4 = p) (hS : (atI zs 1 3).fmod (room03 p) = S)
    (hf : fdOf (Mine.hd.heap_39 P) "law" = some fd) (hb : fd.body = .stmts (s1 :: s2 :: s3 :: s4 :: s5 :: s6 :: rest)) :
    W (exsL ((It (Mine.hd.heap_39 P) (n + 60)).ex fd.scope) [s1, s2, s3, s4, s5, s6] (rhoOf [("script", .list (zs.map .int))])) (fun p' => p'.2 = none ∧ p'.1 "parts" = some (false, .int p) ∧ p'.1 "seats" = some (false, .int S) ∧ p'.1 "third" = some (false, .int (atI zs 2 3)) ∧ p'.1 "votes" = some (true, .list ((votes03 zs p).map .int))) := by
  cases hf
  cases hb
  dsimp only
  have hpb := fmod_bd (atI zs 0 3) (b := 4) (by decide)
  have hp4 : 1 ≤ p ∧ p ≤ 4 := by omega
  have hroom : 7 ≤ room03 p ∧ room03 p ≤ 13 := by unfold room03; split <;> (try split) <;> omega
  walk_at "w"
  refine W.eq (at_okI (k := 0) rfl hz (by decide)) ?_
  walk_at "w"
  rw [hp]
  walk_at "w"
  refine W.eq (at_okI (k := 1) rfl hz (by decide)) ?_
  walk_at "w"
  refine X_rf (v := .int (room03 p)) ?_ ?_
  · obtain rfl | rfl | rfl | rfl : p = 1 ∨ p = 2 ∨ p = 3 ∨ p = 4 := by omega
    all_goals rfl
  refine B_mod (by omega) ?_
  rw [hS]
  walk_at "w"
  refine W.eq (at_okI (k := 2) rfl hz (by decide)) ?_
  walk_at "w"
  refine forR_inv (fun j ρ => ρ "votes" = some (true, .list (((List.range j).map (vote03 zs)).map .int)) ∧ ρ "script" = some (false, .list (zs.map .int)) ∧ ρ "third" = some (false, .int (atI zs 2 3)) ∧ ρ "parts" = some (false, .int p) ∧ ρ "seats" = some (false, .int S)) (fun ρ hI => ?_) (fun j ρ hj hI => ?_) ⟨?_, ?_, ?_, ?_, ?_⟩
  · obtain ⟨r1, r2, r3, r4, r5⟩ := hI
    replace r1 : ρ "votes" = some (true, .list ((votes30 zs p).map .int)) := r1
    have hl0 : (votes30 zs p).length = p := by simp [votes30]
    walk_at "w"
    refine K_d1 (fun hc => ?_) (fun hc => ?_)
    · have hvF : votes03 zs p = (votes30 zs p).set (p - 1) 1 := by unfold votes03; rw [if_pos hc]
      walk_at "w"
      rw [set_ints, List.length_map, hl0, ← hvF]
      exact ⟨rfl, by walk_at "lk", by walk_at "lk", by walk_at "lk", by walk_at "lk"⟩
    · have hvF : votes03 zs p = votes30 zs p := by unfold votes03; rw [if_neg hc]
      rw [← hvF] at r1
      walk_at "w"
      exact ⟨rfl, r4, r5, r3, r1⟩
  · obtain ⟨r1, r2, r3, r4, r5⟩ := hI
    have hrs : (List.range (j + 1)).map (vote03 zs) = (List.range j).map (vote03 zs) ++ [vote03 zs j] := by rw [List.range_succ, List.map_append]; rfl
    walk_at "w"
    refine W.eq (at_okI (k := 3 + j) (by omega) hz (by omega)) ?_
    walk_at "w"
    refine K_d1 (fun hc => ?_) (fun hc => ?_)
    · have hvF : vote03 zs j = (atI zs (3 + j) 3).fmod (10 ^ 30) := by unfold vote03; rw [if_pos hc]
      walk_at "w"
      refine ⟨?_, by walk_at "lk", by walk_at "lk", by walk_at "lk", by walk_at "lk"⟩
      rw [hrs, hvF, List.map_append (f := PyData.int)]; walk_at "lk"
    · have hvF : vote03 zs j = (atI zs (3 + j) 3).fmod 12 * (1 + ((atI zs 2 3).fdiv 2).fmod (10 ^ 20)) := by unfold vote03; rw [if_neg hc]
      have h12 := fmod_bd (atI zs (3 + j) 3) (b := 12) (by decide)
      walk_at "w"
      refine ⟨?_, by walk_at "lk", by walk_at "lk", by walk_at "lk", by walk_at "lk"⟩
      rw [hrs, hvF, List.map_append (f := PyData.int)]; walk_at "lk"
  all_goals walk_at "lk"
end
end Mine

/-! L203 -/
namespace Mine
local macro_rules
  | `(tactic| walk_at "lk1") => `(tactic| first | with_reducible assumption | with_reducible exact lk_self | ((with_reducible refine' lk_upd ?hne ?_); (case hne => decide)) | ((with_reducible refine' lk_comp ?hne ?_); (case hne => rfl)) | ((with_reducible refine' lk_frz0 ?hne ?_); (case hne => rfl)) | ((with_reducible apply lk_frz1); (case h => rfl)))
local macro_rules
  | `(tactic| walk_at "lk") => `(tactic| ((repeat walk_at "lk1"); (try rfl)))
local macro_rules
  | `(tactic| walk_at "ex") => `(tactic| first
    | (with_reducible refine' W_nil ?_)
    | (with_reducible refine' W_cons ?_)
    | (with_reducible refine' Nx_n ?_)
    | (with_reducible refine' Nx_s ?_)
    | (with_reducible refine' W_pass ?_)
    | ((with_reducible refine' W_assign0 (fr := false) ?h1 ?h2 ?h3 ?_ ?h4); (case h1 => rfl); (case h2 => rfl); (case h3 => rfl); (case h4 => rfl))
    | ((with_reducible refine' W_assign0 (fr := true) ?h1 ?h2 ?h3 ?_ ?h4); (case h1 => rfl); (case h2 => rfl); (case h3 => rfl); (case h4 => rfl))
    | ((with_reducible refine' W_assign (fr := false) ?h1 ?h3 ?_ ?h4); (case h1 => rfl); (case h3 => rfl); (case h4 => rfl))
    | ((with_reducible refine' W_assign (fr := true) ?h1 ?h3 ?_ ?h4); (case h1 => rfl); (case h3 => rfl); (case h4 => rfl))
    | ((with_reducible refine' W_setsub ?h1 ?_); (case h1 => rfl))
    | ((with_reducible refine' W_aug ?h1 ?h2 ?_); (case h1 => rfl); (case h2 => walk_at "lk"))
    | ((with_reducible refine' W_augsub ?h1 ?h2 ?_); (case h1 => rfl); (case h2 => refine' ownL_of ?ho ?hl; (case ho => walk_at "lk"); (case hl => walk_at "ln")))
    | ((with_reducible refine' W_append0 ?h1 ?h2 ?h3 ?_); (case h1 => rfl); (case h2 => refine' ownL_of ?ho ?hl; (case ho => walk_at "lk"); (case hl => walk_at "ln")); (case h3 => rfl))
    | ((with_reducible refine' W_append ?h1 ?h2 ?h3 ?_); (case h1 => rfl); (case h2 => refine' ownL_of ?ho ?hl; (case ho => walk_at "lk"); (case hl => walk_at "ln")); (case h3 => refine' ownL_of ?ho ?hl; (case ho => walk_at "lk"); (case hl => walk_at "ln")))
    | (with_reducible refine' W_if ?_)
    | (with_reducible refine' W_ret ?_)
    | ((with_reducible refine' W_for0 ?h1 ?h2 ?h3 ?_); (case h1 => rfl); (case h2 => rfl); (case h3 => rfl))
    | ((with_reducible refine' W_for ?h1 ?h2 ?_); (case h1 => rfl); (case h2 => rfl))
    | (with_reducible refine' W_while ?_))
local macro_rules
  | `(tactic| walk_at "ev") => `(tactic| first
    | ((with_reducible refine' W_const ?h1 ?_); (case h1 => rfl))
    | ((with_reducible refine' W_name ?h1 ?h2 ?h3 ?h4 ?_); (case h1 => rfl); (case h2 => rfl); (case h3 => walk_at "lk"); (case h4 => rfl))
    | ((with_reducible refine' W_gname ?h1 ?h2 ?_); (case h1 => rfl); (case h2 => rfl))
    | (with_reducible refine' W_bin ?_)
    | (with_reducible refine' W_un ?_)
    | (with_reducible refine' W_boolop ?_)
    | (with_reducible refine' W_bool1 ?_)
    | (with_reducible refine' W_booland ?_)
    | ((with_reducible refine' W_cmp ?h1 ?_); (case h1 => rfl))
    | (with_reducible refine' W_ifexp ?_)
    | (with_reducible refine' W_list ?_)
    | (with_reducible refine' W_tuple ?_)
    | ((with_reducible refine' W_sub ?h1 ?_); (case h1 => rfl))
    | (with_reducible refine' W_evs0 ?_)
    | ((with_reducible refine' W_evs1 ?h1 ?_); (case h1 => rfl))
    | ((with_reducible refine' W_callf ?h1 ?h2 ?_); (case h1 => rfl); (case h2 => rfl))
    | ((with_reducible refine' W_callb ?h1 ?h2 ?_); (case h1 => rfl); (case h2 => rfl))
    | ((with_reducible refine' W_callt ?h1 ?h2 ?_); (case h1 => rfl); (case h2 => rfl))
    | ((with_reducible refine' W_isinst ?h1 ?h3 ?h2 ?_); (case h1 => rfl); (case h3 => rfl); (case h2 => rfl))
    | ((with_reducible refine' W_callrev ?h1 ?h2 ?h3 ?_); (case h1 => rfl); (case h2 => rfl); (case h3 => rfl))
    | ((with_reducible refine' W_range ?h1 ?h2 ?_); (case h1 => rfl); (case h2 => rfl))
    | ((with_reducible refine' W_srccall ?h1 ?_); (case h1 => rfl))
    | ((with_reducible refine' W_src ?h1 ?_); (case h1 => rfl))
    | ((with_reducible refine' W_comp ?h1 ?h2 ?_); (case h1 => rfl); (case h2 => rfl))
    | (with_reducible refine' W_tests0 ?_)
    | (with_reducible refine' W_tests1 ?_)
    | (with_reducible refine' T_not ?_)
    | (with_reducible refine' T_boolop ?_)
    | (with_reducible refine' T_and0 ?_)
    | (with_reducible refine' T_or0 ?_)
    | (with_reducible refine' T_and ?_)
    | (with_reducible refine' T_or ?_)
    | ((with_reducible refine' T_cmp ?h1 ?_); (case h1 => rfl))
    | ((with_reducible refine' T_val ?h1 ?_); (case h1 => rfl)))
local macro_rules
  | `(tactic| walk_at "ln") => `(tactic| first | decide | ((try simp only [List.length_map, List.length_append, List.length_cons, List.length_nil, List.length_replicate, List.length_range, lim]); omega))
local macro_rules
  | `(tactic| walk_at "vl") => `(tactic| first
    | (with_reducible refine' B_add ?_)
    | (with_reducible refine' B_sub ?_)
    | ((with_reducible refine' B_mod ?hz ?_); (case hz => decide))
    | ((with_reducible refine' B_pow ?hz ?_); (case hz => decide))
    | (with_reducible refine' U_neg ?_)
    | (with_reducible refine' I_int ?_)
    | (with_reducible refine' A_add ?_)
    | (with_reducible refine' A_sub ?_)
    | (with_reducible refine' C_lt ?_)
    | (with_reducible refine' C_le ?_)
    | (with_reducible refine' C_gt ?_)
    | (with_reducible refine' C_ge ?_)
    | (with_reducible refine' C_eqL ?_)
    | (with_reducible refine' C_neL ?_)
    | ((with_reducible refine' P_neg1 ?hl ?_); (case hl => walk_at "ln"))
    | ((refine' Ty_list ?hl ?_); (case hl => walk_at "ln"))
    | (with_reducible refine' C_eqi ?_)
    | (with_reducible refine' C_nei ?_)
    | (with_reducible refine' C_isnot ?_)
    | (with_reducible refine' Ty_int ?_)
    | (with_reducible refine' Is_il ?_)
    | (with_reducible refine' Is_ii ?_)
    | (with_reducible refine' Is_bi ?_)
    | (with_reducible refine' V_tr ?_)
    | (with_reducible refine' V_tri ?_)
    | ((with_reducible refine' X_ints ?hl ?hj ?_); (case hl => walk_at "ln"); (case hj => walk_at "ln"))
    | ((with_reducible refine' R_nat ?hl ?_); (case hl => walk_at "ln"))
    | ((with_reducible refine' S_list ?hl ?_); (case hl => walk_at "ln"))
    | (refine' F_sum ?_)
    | ((refine' F_maxL ?hl ?_); (case hl => walk_at "ln"))
    | ((with_reducible refine' X_rf (d := .tuple _) ?hl ?_); (case hl => rfl))
    | ((with_reducible refine' X_int0 ?hl ?hj ?_); (case hl => walk_at "ln"); (case hj => walk_at "ln"))
    | ((with_reducible refine' O_own ?ho ?_); (case ho => refine' ownL_of ?ha ?hl; (case ha => walk_at "lk"); (case hl => walk_at "ln")))
    | ((with_reducible refine' P_pos ?hl ?_); (case hl => walk_at "ln"))
    | ((with_reducible refine' B_zeros ?hl ?hj ?_); (case hl => walk_at "ln"); (case hj => walk_at "ln"))
    | (refine' L_ok ?hl ?_; (case hl => exact Nat.le_of_ble_eq_true rfl))
    | ((with_reducible refine' C_t ?hl ?_); (case hl => with_unfolding_all rfl))
    | ((with_reducible refine' C_f ?hl ?_); (case hl => with_unfolding_all rfl))
    | (with_reducible refine' K_tt ?_)
    | (with_reducible refine' K_ff ?_)
    | (with_reducible refine' K_tf ?_)
    | (with_reducible refine' K_ft ?_)
    | (with_reducible refine' K_n1 ?_)
    | (with_reducible refine' K_n2 ?_)
    | ((refine' F_len ?hl ?_); (case hl => walk_at "ln"))
    | ((refine' F_lent ?hl ?_); (case hl => walk_at "ln"))
    | ((with_reducible refine' B_mul ?hm ?_); (case hm => first | exact mulB_small (.inl (by decide)) | exact mulB_small (.inr (by decide)) | exact mulB_small (.inl (by omega)) | exact mulB_small (.inr (by omega))))
    | ((with_reducible refine' B_dv ?hm ?hn ?_); (case hm => first | decide | omega); (case hn => first | decide | omega)))
local macro_rules
  | `(tactic| walk_at "w") => `(tactic| (repeat (first | walk_at "ex" | walk_at "ev" | walk_at "vl")))
local macro_rules
  | `(tactic| walk_at "ex") => `(tactic| first
    | ((with_reducible refine' X_st ?h1 ?_); (case h1 => rfl))
    | ((with_reducible refine' X_if0 ?h1 ?_); (case h1 => rfl))
    | (with_reducible refine' X_if ?_)
    | (with_reducible refine' Tx_n ?_))
local macro_rules
  | `(tactic| walk_at "vl") => `(tactic| first
    | ((with_reducible refine' X_rows ?hl ?hj ?_); (case hl => walk_at "ln"); (case hj => walk_at "ln"))
    | ((with_reducible refine' B_snoc ?hl ?_); (case hl => walk_at "ln"))
    | (with_reducible refine' F_abs ?_)
    | ((refine' F_minL ?hl ?_); (case hl => walk_at "ln"))
    | ((refine' F_rev ?hl ?_); (case hl => walk_at "ln"))
    | ((with_reducible refine' R_down ?hl ?hj ?_); (case hl => first | decide | omega); (case hj => first | decide | omega))
    | (with_reducible refine' C_eqb ?_)
    | (with_reducible refine' C_eqR ?_)
    | (with_reducible refine' C_inI ?_)
    | (with_reducible refine' C_neR ?_))
local macro_rules
  | `(tactic| walk_at "ln") => `(tactic| ((try simp only [List.length_map, List.length_append, List.length_cons, List.length_nil, List.length_replicate, List.length_range, List.length_reverse, sortI_len, lim]); omega))
local macro_rules
  | `(tactic| walk_at "ev") => `(tactic| first
    | ((with_reducible refine' W_comp2 ?h1 ?h2 ?_); (case h1 => rfl); (case h2 => rfl))
    | (with_reducible refine' W_slice ?_))
local macro_rules
  | `(tactic| walk_at "ev") => `(tactic| first
    | ((with_reducible refine' W_callb ?h1 ?h2 ?_); (case h1 => rfl); (case h2 => rfl))
    | ((with_reducible refine' T_instr true ?h1 ?h2 ?h3 ?h4 ?h5 ?h6 ?_); (case h1 => rfl); (case h2 => rfl); (case h3 => walk_at "lk"); (case h4 => rfl); (case h5 => exact Nat.le_of_ble_eq_true rfl); (case h6 => with_unfolding_all rfl))
    | ((with_reducible refine' T_instr false ?h1 ?h2 ?h3 ?h4 ?h5 ?h6 ?_); (case h1 => rfl); (case h2 => rfl); (case h3 => walk_at "lk"); (case h4 => rfl); (case h5 => exact Nat.le_of_ble_eq_true rfl); (case h6 => with_unfolding_all rfl)))
local macro_rules
  | `(tactic| walk_at "vl") => `(tactic| first
    | ((with_reducible refine' R_from ?hl ?hj ?_); (case hl => omega); (case hj => omega)))
local macro_rules
  | `(tactic| walk_at "w") => `(tactic| (repeat ((fail_if_success (with_reducible refine' W_iscall ?_)); (first | walk_at "ex" | walk_at "ev" | walk_at "vl"))))
local macro_rules
  | `(tactic| walk_at "ex") => `(tactic| first
    | ((with_reducible refine' W_dict0 ?h1 ?_); (case h1 => rfl))
    | ((with_reducible refine' W_dict1 ?h1 ?_); (case h1 => rfl))
    | ((with_reducible refine' W_setdict ?h1 ?h2 ?h3 ?_); (case h1 => rfl); (case h2 => walk_at "lk"); (case h3 => walk_at "ln")))
local macro_rules
  | `(tactic| walk_at "ev") => `(tactic| first
    | (with_reducible refine' W_drop ?_))
local macro_rules
  | `(tactic| walk_at "vl") => `(tactic| first
    | ((with_reducible refine' Tk_row ?hl ?hj ?_); (case hl => walk_at "ln"); (case hj => walk_at "ln"))
    | ((with_reducible refine' Dp_row ?hz ?hi ?hl ?hj ?_); (case hz => first | omega | rfl); (case hi => first | omega | walk_at "ln"); (case hl => walk_at "ln"); (case hj => walk_at "ln"))
    | ((with_reducible refine' X_row ?hl ?hj ?_); (case hl => walk_at "ln"); (case hj => walk_at "ln"))
    | ((with_reducible refine' B_addT ?hl ?_); (case hl => walk_at "ln"))
    | ((with_reducible refine' B_addT1 ?hl ?_); (case hl => walk_at "ln"))
    | ((with_reducible refine' B_mulT ?hl ?hj ?_); (case hl => omega); (case hj => walk_at "ln"))
    | (with_reducible refine' C_inD ?_)
    | ((with_reducible refine' S_dict ?hl ?_); (case hl => walk_at "ln"))
    | ((with_reducible refine' Ty_lt ?hl ?_); (case hl => walk_at "ln"))
    | ((with_reducible refine' Ty_tl ?hl ?_); (case hl => walk_at "ln"))
    | (with_reducible refine' R_row ?_)
    | (with_reducible refine' O_one ?_))

section
variable {P : Params} {n : Nat}
theorem mulB_bits {a b : Int} {e f : Nat} (h1 : a.natAbs < 2 ^ e) (h2 : b.natAbs < 2 ^ f) (h3 : e + f ≤ 100000) : mulB a b = true := by
  unfold mulB Builtin.Int.intBits Builtin.Int.intTooBig
  have key : ∀ (c : Int) (e : Nat), c.natAbs < 2 ^ e → (if (c == 0) = true then 0 else c.natAbs.log2 + 1) ≤ e := fun c e hc => by
    split
    · omega
    · rename_i h0
      have hn : c.natAbs ≠ 0 := by simpa using h0
      have := (Nat.log2_lt hn).mpr hc
      omega
  have k1 := key a e h1
  have k2 := key b f h2
  have : ¬ ((if (a == 0) = true then 0 else a.natAbs.log2 + 1 : Nat) : Int) + ((if (b == 0) = true then 0 else b.natAbs.log2 + 1 : Nat) : Int) > bitsLine := by
    have : (100000 : Int) ≤ bitsLine := by decide
    omega
  simp only [decide_eq_false this, Bool.and_false, Bool.not_false]
/-- what is known of the votes -/
structure L03 (votes : List Int) (S : Nat) : Prop where
  hv : ∀ v ∈ votes, 0 ≤ v ∧ v ≤ 10 ^ 30
  h1 : 1 ≤ votes.length
  h4 : votes.length ≤ 4
  hV : 0 < votes.sum
  hV2 : votes.sum < 10 ^ 40
  hS : S ≤ 12
  fl : votes.length * S < 64
  hb : ∀ h, h ≤ S → votes.length ^ h ≤ 20000

set_option maxHeartbeats 16000000 in
theorem lawB {votes : List Int} {S : Nat} {t : Int} {ρ : Rho} {fd : FuncData} {s1 s2 s3 s4 s5 s6 s7 s8 s9 s10 s11 s12 : Stmt} {rest : List Stmt} (L : L03 votes S)
    (r1 : ρ "parts" = some (false, .int votes.length)) (r2 : ρ "seats" = some (false, .int S)) (r3 : ρ "third" = some (false, .int t)) (r4 : ρ "votes" = some (true, .list (votes.map .int)))
    (hf : fdOf (Mine.hd.heap_39 P) "law" = some fd) (hb : fd.body = .stmts (s1 :: s2 :: s3 :: s4 :: s5 :: s6 :: s7 :: s8 :: s9 :: s10 :: s11 :: s12 :: rest)) :
    W (exsL ((It (Mine.hd.heap_39 P) (n + 60)).ex fd.scope) [s7, s8, s9, s10, s11, s12] ρ) (fun p' => p'.2 = none ∧ p'.1 "parts" = some (false, .int votes.length) ∧ p'.1 "seats" = some (false, .int S) ∧ p'.1 "third" = some (false, .int t) ∧ p'.1 "votes" = some (false, .list (votes.map .int)) ∧ p'.1 "ends" = some (false, dictD (roadsF votes S)) ∧ ∃ o, p'.1 "best" = some (o, .list ((qIter votes S).map .int))) := by
  cases hf
  cases hb
  dsimp only
  have h1 := L.h1
  have h4 := L.h4
  have hvn : ∀ v ∈ votes, 0 ≤ v := fun v hv => (L.hv v hv).1
  have hfew := roads_few (S := S) L.hV hvn L.h1 L.h4
  have hfold := ends_fold L.hV hvn L.h1 S
  refine exs_app2 (b1 := [_, _, _, _, _]) (b2 := _ :: _) (fun ρ => ρ "parts" = some (false, .int votes.length) ∧ ρ "seats" = some (false, .int S) ∧ ρ "third" = some (false, .int t) ∧ ρ "votes" = some (false, .list (votes.map .int)) ∧ ρ "ends" = some (false, dictD (roadsF votes S)) ∧ ρ "whole" = some (false, .int (wholeF votes)) ∧ ρ "best" = some (true, .list (([] : List Int).map .int)) ∧ ρ "least" = some (false, .int (-1))) ?_ ?_
  · walk_at "w"
    refine forM_inv (fun vs ρ => ∃ w : Int, ρ "whole" = some (false, .int w) ∧ vs.foldl whStep w = wholeF votes ∧ (∀ v ∈ vs, v ∈ votes) ∧ (0 < w ∧ w * (10 ^ 30) ^ vs.length ≤ (10 ^ 30) ^ 4) ∧ ρ "parts" = some (false, .int votes.length) ∧ ρ "seats" = some (false, .int S) ∧ ρ "third" = some (false, .int t) ∧ ρ "votes" = some (false, .list (votes.map .int))) (fun ρ hI => ?_) (fun v vs ρ hI => ?_) ⟨1, by walk_at "lk", rfl, fun _ h => h, ?_, by walk_at "lk", by walk_at "lk", by walk_at "lk", by walk_at "lk"⟩
    · obtain ⟨w, q1, q2, q3, q4, q5, q6, q7, q8⟩ := hI
      have q2 : w = wholeF votes := q2
      subst q2
      walk_at "w"
      refine W.eq (roads_ok h1 h4 L.hS L.hb (fun v hv => ⟨(L.hv v hv).1, by have := (L.hv v hv).2; omega⟩) ⟨by have := L.hV; omega, by have := L.hV2; omega⟩) ?_
      walk_at "w"
      exact ⟨rfl, by walk_at "lk", by walk_at "lk", by walk_at "lk", by walk_at "lk", by walk_at "lk", by walk_at "lk", by walk_at "lk", by walk_at "lk"⟩
    · obtain ⟨w, q1, q2, q3, ⟨q4, q4b⟩, q5, q6, q7, q8⟩ := hI
      have hvv := L.hv v (q3 v List.mem_cons_self)
      rw [List.foldl_cons] at q2
      rw [List.length_cons, Int.pow_succ] at q4b
      have hX : 0 < ((10 : Int) ^ 30) ^ vs.length := Int.pow_pos (by decide)
      generalize ((10 : Int) ^ 30) ^ vs.length = X at *
      have hwX : 0 < w * X := Int.mul_pos q4 hX
      have hw : w * 1 ≤ w * (X * 10 ^ 30) := Int.mul_le_mul_of_nonneg_left (by omega) (Int.le_of_lt q4)
      have hB : ((10 : Int) ^ 30) ^ 4 < 10 ^ 121 := by decide
      walk_at "w"
      refine K_d1 (fun hp => ?_) (fun hp => ?_)
      · have hst : whStep w v = w * v := by unfold whStep; rw [if_pos hp]
        rw [hst] at q2
        walk_at "w"
        refine B_mul (mulB_big (lt9000' ?_) (lt9000' ?_)) ?_
        · have : 10 ^ 121 < 2 ^ 250 * 2 ^ 250 * 2 ^ 250 := by decide
          omega
        · have : 10 ^ 31 < 2 ^ 250 * 2 ^ 250 * 2 ^ 250 := by decide
          omega
        walk_at "w"
        refine ⟨w * v, by walk_at "lk", q2, fun u hu => q3 u (List.mem_cons_of_mem _ hu), ⟨Int.mul_pos q4 hp, ?_⟩, by walk_at "lk", by walk_at "lk", by walk_at "lk", by walk_at "lk"⟩
        have h9 := Int.mul_le_mul_of_nonneg_left hvv.2 (Int.le_of_lt hwX)
        rw [show w * v * X = w * X * v by ac_rfl]
        rw [Int.mul_assoc w X (10 ^ 30)] at h9
        omega
      · have hst : whStep w v = w := by unfold whStep; rw [if_neg hp]
        rw [hst] at q2
        walk_at "w"
        refine ⟨w, by walk_at "lk", q2, fun u hu => q3 u (List.mem_cons_of_mem _ hu), ⟨q4, ?_⟩, by walk_at "lk", by walk_at "lk", by walk_at "lk", by walk_at "lk"⟩
        have h9 := Int.mul_le_mul_of_nonneg_left (show (1 : Int) ≤ 10 ^ 30 by decide) (Int.le_of_lt hwX)
        rw [Int.mul_assoc w X (10 ^ 30)] at h9
        omega
    · refine ⟨by decide, ?_⟩
      rw [Int.one_mul]
      have : ∀ k, k ≤ 4 → ((10 : Int) ^ 30) ^ k ≤ (10 ^ 30) ^ 4 := by decide
      exact this _ h4
  · clear r1 r2 r3 r4
    rintro ρ ⟨r1, r2, r3, r4, r5, r6, r7, r8⟩
    have hmem : ∀ r, r ∈ (sortT (roadsF votes S)).reverse → r ∈ roadsF votes S := fun r hr => (sortT_perm _).mem_iff.mp (List.mem_reverse.mp hr)
    have hne : ∀ r ∈ roadsF votes S, r ≠ [] := fun r hr e => by
      have := roads_len hr
      rw [e] at this
      simp at this; omega
    have hsl : (sortT (roadsF votes S)).reverse.length < 64 := by rw [List.length_reverse, (sortT_perm _).length_eq]; exact hfew
    walk_at "w"
    refine F_revT hfew hne ?_
    generalize (sortT (roadsF votes S)).reverse = RL at *
    walk_at "w"
    refine forM_inv (fun rs ρ => ∃ st : List Int × Int, (∃ o, ρ "best" = some (o, .list (st.1.map .int))) ∧ ρ "least" = some (false, .int st.2) ∧ rs.foldl (farStep (farF votes)) st = (qIter votes S, farF votes (qIter votes S)) ∧ (∀ r ∈ rs, r ∈ roadsF votes S) ∧ ρ "parts" = some (false, .int votes.length) ∧ ρ "seats" = some (false, .int S) ∧ ρ "third" = some (false, .int t) ∧ ρ "votes" = some (false, .list (votes.map .int)) ∧ ρ "ends" = some (false, dictD (roadsF votes S)) ∧ ρ "whole" = some (false, .int (wholeF votes))) (fun ρ hI => ?_) (fun row rs ρ hI => ?_) ⟨([], -1), ⟨true, by walk_at "lk"⟩, by walk_at "lk", hfold, hmem, by walk_at "lk", by walk_at "lk", by walk_at "lk", by walk_at "lk", by walk_at "lk", by walk_at "lk"⟩
    · obtain ⟨st, ⟨o, q1⟩, q2, q3, q4, q5, q6, q7, q8, q9, q10⟩ := hI
      have q3 : st = (qIter votes S, farF votes (qIter votes S)) := q3
      subst q3
      walk_at "w"
      exact ⟨rfl, q5, q6, q7, q8, q9, o, q1⟩
    · obtain ⟨⟨best, least⟩, ⟨o, q1⟩, q2, q3, q4, q5, q6, q7, q8, q9, q10⟩ := hI
      have hr := q4 row List.mem_cons_self
      have hrl := roads_len hr
      have A := roads_hall L.hV hvn hr
      have hrb := roads_bd hr
      have hrg : ∀ i, 0 ≤ row.getD i 0 ∧ row.getD i 0 ≤ S := fun i => getD_bd hrb (by omega) i
      have hvp : ∀ i, i < votes.length → 0 < row.getD i 0 → 0 < votes.getD i 0 ∧ votes.getD i 0 ≤ 10 ^ 30 := fun i hi h => by
        have hvi : 0 ≤ votes.getD i 0 ∧ votes.getD i 0 ≤ 10 ^ 30 := getD_bd (fun x hx => L.hv x hx) (by decide) i
        refine ⟨Classical.byContradiction fun q => ?_, hvi.2⟩
        have hz : votes.getD i 0 = 0 := by omega
        have := A.cap i hi
        have h3 : uq votes S i ≤ 0 := (uq_iff L.hV hi).mpr (by rw [hz]; simp)
        omega
      have hS12 := L.hS
      rw [List.foldl_cons] at q3
      dsimp only at q1 q2
      walk_at "w"
      refine forR_inv (fun i ρ => ρ "far" = some (false, .int (farP votes row i)) ∧ (∃ o, ρ "best" = some (o, .list (best.map .int))) ∧ ρ "least" = some (false, .int least) ∧ ρ "row" = some (false, tupD row) ∧ ρ "parts" = some (false, .int votes.length) ∧ ρ "seats" = some (false, .int S) ∧ ρ "third" = some (false, .int t) ∧ ρ "votes" = some (false, .list (votes.map .int)) ∧ ρ "ends" = some (false, dictD (roadsF votes S)) ∧ ρ "whole" = some (false, .int (wholeF votes))) (fun ρ hI => ?_) (fun i ρ hi hI => ?_) ⟨?_, ?_, ?_, ?_, ?_, ?_, ?_, ?_, ?_, ?_⟩
      · obtain ⟨t1, ⟨o, t2⟩, t3, t4, t5, t6, t7, t8, t9, t10⟩ := hI
        replace t1 : ρ "far" = some (false, .int (farF votes row)) := t1
        have hst : farStep (farF votes) (best, least) row = if least < 0 ∨ farF votes row < least then (row, farF votes row) else (best, least) := rfl
        generalize farF votes row = fr at *
        walk_at "w"
        by_cases c1 : least < 0
        · rw [if_pos (.inl c1)] at hst
          rw [hst] at q3
          rw [decide_eq_true c1]
          walk_at "w"
          exact ⟨(row, fr), ⟨false, by walk_at "lk"⟩, by walk_at "lk", q3, fun r hr => q4 r (List.mem_cons_of_mem _ hr), by walk_at "lk", by walk_at "lk", by walk_at "lk", by walk_at "lk", by walk_at "lk", by walk_at "lk"⟩
        · rw [decide_eq_false c1]
          walk_at "w"
          by_cases c2 : fr < least
          · rw [if_pos (.inr c2)] at hst
            rw [hst] at q3
            rw [decide_eq_true c2]
            walk_at "w"
            exact ⟨(row, fr), ⟨false, by walk_at "lk"⟩, by walk_at "lk", q3, fun r hr => q4 r (List.mem_cons_of_mem _ hr), by walk_at "lk", by walk_at "lk", by walk_at "lk", by walk_at "lk", by walk_at "lk", by walk_at "lk"⟩
          · rw [if_neg (fun q => q.elim c1 c2)] at hst
            rw [hst] at q3
            rw [decide_eq_false c2]
            walk_at "w"
            exact ⟨(best, least), ⟨o, by walk_at "lk"⟩, by walk_at "lk", q3, fun r hr => q4 r (List.mem_cons_of_mem _ hr), by walk_at "lk", by walk_at "lk", by walk_at "lk", by walk_at "lk", by walk_at "lk", by walk_at "lk"⟩
      · obtain ⟨t1, ⟨o, t2⟩, t3, t4, t5, t6, t7, t8, t9, t10⟩ := hI
        have hri := hrg i
        have hst : farP votes row (i + 1) = farP votes row i + (if 0 < row.getD i 0 then row.getD i 0 * (row.getD i 0 + 1) * (wholeF votes).fdiv (votes.getD i 0) else 0) := rfl
        rw [hst]
        generalize farP votes row i = fp at *
        walk_at "w"
        refine K_d1 (fun hp => ?_) (fun hp => ?_)
        · rw [if_pos hp]
          have hvi := hvp i hi hp
          have h156 : 0 ≤ row.getD i 0 * (row.getD i 0 + 1) ∧ row.getD i 0 * (row.getD i 0 + 1) ≤ 12 * 13 := ⟨Int.mul_nonneg (by omega) (by omega), Int.mul_le_mul (by omega) (by omega) (by omega) (by omega)⟩
          walk_at "w"
          exact ⟨by walk_at "lk", ⟨o, by walk_at "lk"⟩, by walk_at "lk", by walk_at "lk", by walk_at "lk", by walk_at "lk", by walk_at "lk", by walk_at "lk", by walk_at "lk", by walk_at "lk"⟩
        · rw [if_neg hp, Int.add_zero]
          walk_at "w"
          exact ⟨by walk_at "lk", ⟨o, by walk_at "lk"⟩, by walk_at "lk", by walk_at "lk", by walk_at "lk", by walk_at "lk", by walk_at "lk", by walk_at "lk", by walk_at "lk", by walk_at "lk"⟩
      all_goals (first | (walk_at "lk"; done) | (show _ = some (false, PyData.int 0); walk_at "lk"; done) | exact ⟨o, by walk_at "lk"⟩)
end
end Mine

/-! L303 -/
namespace Mine
local macro_rules
  | `(tactic| walk_at "lk1") => `(tactic| first | with_reducible assumption | with_reducible exact lk_self | ((with_reducible refine' lk_upd ?hne ?_); (case hne => decide)) | ((with_reducible refine' lk_comp ?hne ?_); (case hne => rfl)) | ((with_reducible refine' lk_frz0 ?hne ?_); (case hne => rfl)) | ((with_reducible apply lk_frz1); (case h => rfl)))
local macro_rules
  | `(tactic| walk_at "lk") => `(tactic| ((repeat walk_at "lk1"); (try rfl)))
local macro_rules
  | `(tactic| walk_at "ex") => `(tactic| first
    | (with_reducible refine' W_nil ?_)
    | (with_reducible refine' W_cons ?_)
    | (with_reducible refine' Nx_n ?_)
    | (with_reducible refine' Nx_s ?_)
    | (with_reducible refine' W_pass ?_)
    | ((with_reducible refine' W_assign0 (fr := false) ?h1 ?h2 ?h3 ?_ ?h4); (case h1 => rfl); (case h2 => rfl); (case h3 => rfl); (case h4 => rfl))
    | ((with_reducible refine' W_assign0 (fr := true) ?h1 ?h2 ?h3 ?_ ?h4); (case h1 => rfl); (case h2 => rfl); (case h3 => rfl); (case h4 => rfl))
    | ((with_reducible refine' W_assign (fr := false) ?h1 ?h3 ?_ ?h4); (case h1 => rfl); (case h3 => rfl); (case h4 => rfl))
    | ((with_reducible refine' W_assign (fr := true) ?h1 ?h3 ?_ ?h4); (case h1 => rfl); (case h3 => rfl); (case h4 => rfl))
    | ((with_reducible refine' W_setsub ?h1 ?_); (case h1 => rfl))
    | ((with_reducible refine' W_aug ?h1 ?h2 ?_); (case h1 => rfl); (case h2 => walk_at "lk"))
    | ((with_reducible refine' W_augsub ?h1 ?h2 ?_); (case h1 => rfl); (case h2 => refine' ownL_of ?ho ?hl; (case ho => walk_at "lk"); (case hl => walk_at "ln")))
    | ((with_reducible refine' W_append0 ?h1 ?h2 ?h3 ?_); (case h1 => rfl); (case h2 => refine' ownL_of ?ho ?hl; (case ho => walk_at "lk"); (case hl => walk_at "ln")); (case h3 => rfl))
    | ((with_reducible refine' W_append ?h1 ?h2 ?h3 ?_); (case h1 => rfl); (case h2 => refine' ownL_of ?ho ?hl; (case ho => walk_at "lk"); (case hl => walk_at "ln")); (case h3 => refine' ownL_of ?ho ?hl; (case ho => walk_at "lk"); (case hl => walk_at "ln")))
    | (with_reducible refine' W_if ?_)
    | (with_reducible refine' W_ret ?_)
    | ((with_reducible refine' W_for0 ?h1 ?h2 ?h3 ?_); (case h1 => rfl); (case h2 => rfl); (case h3 => rfl))
    | ((with_reducible refine' W_for ?h1 ?h2 ?_); (case h1 => rfl); (case h2 => rfl))
    | (with_reducible refine' W_while ?_))
local macro_rules
  | `(tactic| walk_at "ev") => `(tactic| first
    | ((with_reducible refine' W_const ?h1 ?_); (case h1 => rfl))
    | ((with_reducible refine' W_name ?h1 ?h2 ?h3 ?h4 ?_); (case h1 => rfl); (case h2 => rfl); (case h3 => walk_at "lk"); (case h4 => rfl))
    | ((with_reducible refine' W_gname ?h1 ?h2 ?_); (case h1 => rfl); (case h2 => rfl))
    | (with_reducible refine' W_bin ?_)
    | (with_reducible refine' W_un ?_)
    | (with_reducible refine' W_boolop ?_)
    | (with_reducible refine' W_bool1 ?_)
    | (with_reducible refine' W_booland ?_)
    | ((with_reducible refine' W_cmp ?h1 ?_); (case h1 => rfl))
    | (with_reducible refine' W_ifexp ?_)
    | (with_reducible refine' W_list ?_)
    | (with_reducible refine' W_tuple ?_)
    | ((with_reducible refine' W_sub ?h1 ?_); (case h1 => rfl))
    | (with_reducible refine' W_evs0 ?_)
    | ((with_reducible refine' W_evs1 ?h1 ?_); (case h1 => rfl))
    | ((with_reducible refine' W_callf ?h1 ?h2 ?_); (case h1 => rfl); (case h2 => rfl))
    | ((with_reducible refine' W_callb ?h1 ?h2 ?_); (case h1 => rfl); (case h2 => rfl))
    | ((with_reducible refine' W_callt ?h1 ?h2 ?_); (case h1 => rfl); (case h2 => rfl))
    | ((with_reducible refine' W_isinst ?h1 ?h3 ?h2 ?_); (case h1 => rfl); (case h3 => rfl); (case h2 => rfl))
    | ((with_reducible refine' W_callrev ?h1 ?h2 ?h3 ?_); (case h1 => rfl); (case h2 => rfl); (case h3 => rfl))
    | ((with_reducible refine' W_range ?h1 ?h2 ?_); (case h1 => rfl); (case h2 => rfl))
    | ((with_reducible refine' W_srccall ?h1 ?_); (case h1 => rfl))
    | ((with_reducible refine' W_src ?h1 ?_); (case h1 => rfl))
    | ((with_reducible refine' W_comp ?h1 ?h2 ?_); (case h1 => rfl); (case h2 => rfl))
    | (with_reducible refine' W_tests0 ?_)
    | (with_reducible refine' W_tests1 ?_)
    | (with_reducible refine' T_not ?_)
    | (with_reducible refine' T_boolop ?_)
    | (with_reducible refine' T_and0 ?_)
    | (with_reducible refine' T_or0 ?_)
    | (with_reducible refine' T_and ?_)
    | (with_reducible refine' T_or ?_)
    | ((with_reducible refine' T_cmp ?h1 ?_); (case h1 => rfl))
    | ((with_reducible refine' T_val ?h1 ?_); (case h1 => rfl)))
local macro_rules
  | `(tactic| walk_at "ln") => `(tactic| first | decide | ((try simp only [List.length_map, List.length_append, List.length_cons, List.length_nil, List.length_replicate, List.length_range, lim]); omega))
local macro_rules
  | `(tactic| walk_at "vl") => `(tactic| first
    | (with_reducible refine' B_add ?_)
    | (with_reducible refine' B_sub ?_)
    | ((with_reducible refine' B_mod ?hz ?_); (case hz => decide))
    | ((with_reducible refine' B_pow ?hz ?_); (case hz => decide))
    | (with_reducible refine' U_neg ?_)
    | (with_reducible refine' I_int ?_)
    | (with_reducible refine' A_add ?_)
    | (with_reducible refine' A_sub ?_)
    | (with_reducible refine' C_lt ?_)
    | (with_reducible refine' C_le ?_)
    | (with_reducible refine' C_gt ?_)
    | (with_reducible refine' C_ge ?_)
    | (with_reducible refine' C_eqL ?_)
    | (with_reducible refine' C_neL ?_)
    | ((with_reducible refine' P_neg1 ?hl ?_); (case hl => walk_at "ln"))
    | ((refine' Ty_list ?hl ?_); (case hl => walk_at "ln"))
    | (with_reducible refine' C_eqi ?_)
    | (with_reducible refine' C_nei ?_)
    | (with_reducible refine' C_isnot ?_)
    | (with_reducible refine' Ty_int ?_)
    | (with_reducible refine' Is_il ?_)
    | (with_reducible refine' Is_ii ?_)
    | (with_reducible refine' Is_bi ?_)
    | (with_reducible refine' V_tr ?_)
    | (with_reducible refine' V_tri ?_)
    | ((with_reducible refine' X_ints ?hl ?hj ?_); (case hl => walk_at "ln"); (case hj => walk_at "ln"))
    | ((with_reducible refine' R_nat ?hl ?_); (case hl => walk_at "ln"))
    | ((with_reducible refine' S_list ?hl ?_); (case hl => walk_at "ln"))
    | (refine' F_sum ?_)
    | ((refine' F_maxL ?hl ?_); (case hl => walk_at "ln"))
    | ((with_reducible refine' X_rf (d := .tuple _) ?hl ?_); (case hl => rfl))
    | ((with_reducible refine' X_int0 ?hl ?hj ?_); (case hl => walk_at "ln"); (case hj => walk_at "ln"))
    | ((with_reducible refine' O_own ?ho ?_); (case ho => refine' ownL_of ?ha ?hl; (case ha => walk_at "lk"); (case hl => walk_at "ln")))
    | ((with_reducible refine' P_pos ?hl ?_); (case hl => walk_at "ln"))
    | ((with_reducible refine' B_zeros ?hl ?hj ?_); (case hl => walk_at "ln"); (case hj => walk_at "ln"))
    | (refine' L_ok ?hl ?_; (case hl => exact Nat.le_of_ble_eq_true rfl))
    | ((with_reducible refine' C_t ?hl ?_); (case hl => with_unfolding_all rfl))
    | ((with_reducible refine' C_f ?hl ?_); (case hl => with_unfolding_all rfl))
    | (with_reducible refine' K_tt ?_)
    | (with_reducible refine' K_ff ?_)
    | (with_reducible refine' K_tf ?_)
    | (with_reducible refine' K_ft ?_)
    | (with_reducible refine' K_n1 ?_)
    | (with_reducible refine' K_n2 ?_)
    | ((refine' F_len ?hl ?_); (case hl => walk_at "ln"))
    | ((refine' F_lent ?hl ?_); (case hl => walk_at "ln"))
    | ((with_reducible refine' B_mul ?hm ?_); (case hm => first | exact mulB_small (.inl (by decide)) | exact mulB_small (.inr (by decide)) | exact mulB_small (.inl (by omega)) | exact mulB_small (.inr (by omega))))
    | ((with_reducible refine' B_dv ?hm ?hn ?_); (case hm => first | decide | omega); (case hn => first | decide | omega)))
local macro_rules
  | `(tactic| walk_at "w") => `(tactic| (repeat (first | walk_at "ex" | walk_at "ev" | walk_at "vl")))
local macro_rules
  | `(tactic| walk_at "ex") => `(tactic| first
    | ((with_reducible refine' X_st ?h1 ?_); (case h1 => rfl))
    | ((with_reducible refine' X_if0 ?h1 ?_); (case h1 => rfl))
    | (with_reducible refine' X_if ?_)
    | (with_reducible refine' Tx_n ?_))
local macro_rules
  | `(tactic| walk_at "vl") => `(tactic| first
    | ((with_reducible refine' X_rows ?hl ?hj ?_); (case hl => walk_at "ln"); (case hj => walk_at "ln"))
    | ((with_reducible refine' B_snoc ?hl ?_); (case hl => walk_at "ln"))
    | (with_reducible refine' F_abs ?_)
    | ((refine' F_minL ?hl ?_); (case hl => walk_at "ln"))
    | ((refine' F_rev ?hl ?_); (case hl => walk_at "ln"))
    | ((with_reducible refine' R_down ?hl ?hj ?_); (case hl => first | decide | omega); (case hj => first | decide | omega))
    | (with_reducible refine' C_eqb ?_)
    | (with_reducible refine' C_eqR ?_)
    | (with_reducible refine' C_inI ?_)
    | (with_reducible refine' C_neR ?_))
local macro_rules
  | `(tactic| walk_at "ln") => `(tactic| ((try simp only [List.length_map, List.length_append, List.length_cons, List.length_nil, List.length_replicate, List.length_range, List.length_reverse, sortI_len, lim]); omega))
local macro_rules
  | `(tactic| walk_at "ev") => `(tactic| first
    | ((with_reducible refine' W_comp2 ?h1 ?h2 ?_); (case h1 => rfl); (case h2 => rfl))
    | (with_reducible refine' W_slice ?_))
local macro_rules
  | `(tactic| walk_at "ev") => `(tactic| first
    | ((with_reducible refine' W_callb ?h1 ?h2 ?_); (case h1 => rfl); (case h2 => rfl))
    | ((with_reducible refine' T_instr true ?h1 ?h2 ?h3 ?h4 ?h5 ?h6 ?_); (case h1 => rfl); (case h2 => rfl); (case h3 => walk_at "lk"); (case h4 => rfl); (case h5 => exact Nat.le_of_ble_eq_true rfl); (case h6 => with_unfolding_all rfl))
    | ((with_reducible refine' T_instr false ?h1 ?h2 ?h3 ?h4 ?h5 ?h6 ?_); (case h1 => rfl); (case h2 => rfl); (case h3 => walk_at "lk"); (case h4 => rfl); (case h5 => exact Nat.le_of_ble_eq_true rfl); (case h6 => with_unfolding_all rfl)))
local macro_rules
  | `(tactic| walk_at "vl") => `(tactic| first
    | ((with_reducible refine' R_from ?hl ?hj ?_); (case hl => omega); (case hj => omega)))
local macro_rules
  | `(tactic| walk_at "w") => `(tactic| (repeat ((fail_if_success (with_reducible refine' W_iscall ?_)); (first | walk_at "ex" | walk_at "ev" | walk_at "vl"))))
local macro_rules
  | `(tactic| walk_at "ex") => `(tactic| first
    | ((with_reducible refine' W_dict0 ?h1 ?_); (case h1 => rfl))
    | ((with_reducible refine' W_dict1 ?h1 ?_); (case h1 => rfl))
    | ((with_reducible refine' W_setdict ?h1 ?h2 ?h3 ?_); (case h1 => rfl); (case h2 => walk_at "lk"); (case h3 => walk_at "ln")))
local macro_rules
  | `(tactic| walk_at "ev") => `(tactic| first
    | (with_reducible refine' W_drop ?_))
local macro_rules
  | `(tactic| walk_at "vl") => `(tactic| first
    | ((with_reducible refine' Tk_row ?hl ?hj ?_); (case hl => walk_at "ln"); (case hj => walk_at "ln"))
    | ((with_reducible refine' Dp_row ?hz ?hi ?hl ?hj ?_); (case hz => first | omega | rfl); (case hi => first | omega | walk_at "ln"); (case hl => walk_at "ln"); (case hj => walk_at "ln"))
    | ((with_reducible refine' X_row ?hl ?hj ?_); (case hl => walk_at "ln"); (case hj => walk_at "ln"))
    | ((with_reducible refine' B_addT ?hl ?_); (case hl => walk_at "ln"))
    | ((with_reducible refine' B_addT1 ?hl ?_); (case hl => walk_at "ln"))
    | ((with_reducible refine' B_mulT ?hl ?hj ?_); (case hl => omega); (case hj => walk_at "ln"))
    | (with_reducible refine' C_inD ?_)
    | ((with_reducible refine' S_dict ?hl ?_); (case hl => walk_at "ln"))
    | ((with_reducible refine' Ty_lt ?hl ?_); (case hl => walk_at "ln"))
    | ((with_reducible refine' Ty_tl ?hl ?_); (case hl => walk_at "ln"))
    | (with_reducible refine' R_row ?_)
    | (with_reducible refine' O_one ?_))

section
variable {P : Params} {n : Nat}
def Jf (votes : List Int) (S : Nat) : List Int := (dvF kJ S votes (zeroR votes)).1
theorem L03.dok {votes : List Int} {S : Nat} (L : L03 votes S) : DOk kJ S votes (zeroR votes) := by
  have h4 := L.h4
  have hS := L.hS
  refine ⟨fun v hv => by have := L.hv v hv; omega, L.h1, by omega, by omega, L.fl, fun i hi => ?_, fun i hi => ⟨show (0 : Int) < 1 by decide, show (1 : Int) < 2 ^ 40 by decide⟩, zeroR_len votes, fun x hx => ?_⟩
  · show 0 < (i : Int) + 1 ∧ (i : Int) + 1 < 2 ^ 40
    omega
  · unfold zeroR at hx
    rw [List.eq_of_mem_replicate hx]; decide
theorem L03.dvj {votes : List Int} {S : Nat} (L : L03 votes S) : DvJ votes S (Jf votes S) := by
  have hvn : ∀ v ∈ votes, 0 ≤ v := fun v hv => (L.hv v hv).1
  refine dvj_of (dv_char kJ_ok hvn (zeroR_len votes) ?_ (fun x hx => by
    unfold zeroR at hx
    rw [List.eq_of_mem_replicate hx]; exact Int.le_refl 0) (fun _ => ?_)).1
  · have : (zeroR votes).sum = 0 := by
      unfold zeroR
      generalize votes.length = n
      induction n with
      | zero => rfl
      | succ n ih => rw [List.replicate_succ, List.sum_cons, ih]; rfl
    rw [this]; omega
  · refine Classical.byContradiction fun q => ?_
    have hle : ∀ l : List Int, (∀ v ∈ l, v ≤ 0) → l.sum ≤ 0 := fun l => by
      induction l with
      | nil => intro _; exact Int.le_refl _
      | cons x r ih =>
        intro h
        have h1 := h x List.mem_cons_self
        have h2 := ih fun v hv => h v (List.mem_cons_of_mem _ hv)
        rw [List.sum_cons]; omega
    have := hle votes fun v hv => by
      obtain ⟨i, hi, rfl⟩ := List.mem_iff_getElem.mp hv
      have : ¬ 0 < votes.getD i 0 := fun h => q ⟨i, hi, h⟩
      rw [getD_lt hi] at this
      omega
    have := L.hV
    omega

theorem C_neb {a b : Bool} {Q : Bool → Prop} (h : Q (!(a == b))) : W (cmpD .NotEq (.bool a) (.bool b)) Q := by
  refine ⟨_, ?_, h⟩
  cases a <;> cases b <;> rfl
theorem minI_nn : ∀ {r : List Int} {m : Int}, 0 ≤ m → (∀ x ∈ r, 0 ≤ x) → 0 ≤ minI m r
  | [], m, h, _ => h
  | x :: r, m, h, hr => by
    unfold minI
    have hx := hr x List.mem_cons_self
    refine minI_nn ?_ fun y hy => hr y (List.mem_cons_of_mem _ hy)
    split <;> omega
theorem minL_nn {r : List Int} (h : ∀ x ∈ r, 0 ≤ x) : 0 ≤ minL r := by
  cases r with
  | nil => exact Int.le_refl 0
  | cons x r => exact minI_nn (h x List.mem_cons_self) fun y hy => h y (List.mem_cons_of_mem _ hy)
set_option maxHeartbeats 16000000 in
theorem lawC {votes : List Int} {S : Nat} {t : Int} {ρ : Rho} {fd : FuncData} {s1 s2 s3 s4 s5 s6 s7 s8 s9 s10 s11 s12 : Stmt} {rest : List Stmt} (L : L03 votes S)
    (r1 : ρ "parts" = some (false, .int votes.length)) (r2 : ρ "seats" = some (false, .int S)) (r3 : ρ "third" = some (false, .int t)) (r4 : ρ "votes" = some (false, .list (votes.map .int)))
    (r5 : ρ "ends" = some (false, dictD (roadsF votes S))) (r6 : ∃ o, ρ "best" = some (o, .list ((qIter votes S).map .int)))
    (hf : fdOf (Mine.hd.heap_39 P) "law" = some fd) (hb : fd.body = .stmts (s1 :: s2 :: s3 :: s4 :: s5 :: s6 :: s7 :: s8 :: s9 :: s10 :: s11 :: s12 :: rest)) :
    W (exsL ((It (Mine.hd.heap_39 P) (n + 60)).ex fd.scope) rest ρ) (fun p' => p'.2.getD .none = .bool true) := by
  cases hf
  cases hb
  dsimp only
  have h1 := L.h1
  have h4 := L.h4
  have hS := L.hS
  have hv41 : ∀ v ∈ votes, 0 ≤ v ∧ v < 10 ^ 40 := fun v hv => by have := L.hv v hv; omega
  have hV := L.hV
  have hV2 : votes.sum < 10 ^ 41 := by have := L.hV2; omega
  have hvn : ∀ v ∈ votes, 0 ≤ v := fun v hv => (L.hv v hv).1
  have hq2 := fun n' => quota2 (P := P) (n := n') hv41 h1 h4 hV hV2 (show S ≤ 20 by omega)
  have hq2' := fun n' => quota2 (P := P) (n := n') (seats := S + 1) hv41 h1 h4 hV hV2 (show S + 1 ≤ 20 by omega)
  have hcq := fun n' => compute_quota (P := P) (n := n') hv41 h1 h4 hV hV2 (show S ≤ 20 by omega)
  have hql := qIter_len (votes := votes) S
  have hql' := qIter_len (votes := votes) (S + 1)
  have hqs' := qIter_sum (votes := votes) h1 (S + 1)
  have J := L.dvj
  have hjr := j_road cst_ok J hV hvn h1
  have hjl := J.len
  have hjs := J.sum
  have hjn : ∀ x ∈ Jf votes S, 0 ≤ x := fun x hx => by
    obtain ⟨i, hi, rfl⟩ := List.mem_iff_getElem.mp hx
    have := J.nn i (by omega)
    rw [getD_lt hi] at this; exact this
  have hjg : ∀ i, 0 ≤ (Jf votes S).getD i 0 ∧ (Jf votes S).getD i 0 ≤ 12 := fun i => getD_bd (fun x hx => ⟨hjn x hx, by have := le_sum_of_nn hjn x hx; omega⟩) (by decide) i
  have hc3 := fun n' (nm : Str) (h : nm ∈ jNames) => compute3 (P := P) (n := n') (Mth.j h) L.dok
  have hJf : (dvF kJ S votes (zeroR votes)).1 = Jf votes S := rfl
  simp only [hJf] at hc3
  generalize Jf votes S = jf at *
  generalize qIter votes (S + 1) = qw at *
  generalize qIter votes S = q at *
  obtain ⟨o, r6⟩ := r6
  refine exs_app2 (b1 := [_, _, _, _, _, _, _]) (b2 := _ :: _) (fun ρ => ρ "parts" = some (false, .int votes.length) ∧ ρ "seats" = some (false, .int S) ∧ ρ "third" = some (false, .int t) ∧ ρ "votes" = some (false, .list (votes.map .int)) ∧ ρ "ends" = some (false, dictD (roadsF votes S)) ∧ ρ "handed" = some (false, .list (votes.map .int)) ∧ ρ "answer" = some (false, .list (q.map .int))) ?_ ?_
  · cases o
    all_goals
      walk_at "w"
      refine W.eq (hq2 _) ?_
      walk_at "w"
      refine W.eq (plain_ok (by omega)) ?_
      rw [decide_eq_true hql]
      walk_at "w"
      rw [decide_eq_true (rfl : q = q)]
      walk_at "w"
      rw [show ((S : Int) + 1) = ((S + 1 : Nat) : Int) by omega]
      refine W.eq (hq2' _) ?_
      walk_at "w"
      refine W.eq (plain_ok (by omega)) ?_
      rw [decide_eq_true hql']
      walk_at "w"
      rw [decide_eq_true (show qw.sum = (S : Int) + 1 by omega)]
      walk_at "w"
      refine W.eq (hcq _) ?_
      walk_at "w"
      refine W.eq (plain_ok (by omega)) ?_
      rw [decide_eq_true hql]
      walk_at "w"
      rw [decide_eq_true (rfl : q = q)]
      walk_at "w"
      exact ⟨rfl, by walk_at "lk", by walk_at "lk", by walk_at "lk", by walk_at "lk", by walk_at "lk", by walk_at "lk", by walk_at "lk"⟩
  clear r1 r2 r3 r4 r5 r6
  rintro ρ ⟨r1, r2, r3, r4, r5, r6, r7⟩
  have ht3 := fmod_bd (t.fdiv 3) (b := 3) (by decide)
  walk_at "w"
  refine W.mono (Q := fun d => ∃ nm, nm ∈ jNames ∧ d = .str nm) ?_ ?_
  · generalize (t.fdiv 3).fmod 3 = z at ht3 ⊢
    obtain rfl | rfl | rfl : z = 0 ∨ z = 1 ∨ z = 2 := by omega
    · exact X_rf rfl ⟨_, .head _, rfl⟩
    · exact X_rf rfl ⟨_, .tail _ (.head _), rfl⟩
    · exact X_rf rfl ⟨_, .tail _ (.tail _ (.head _)), rfl⟩
  rintro _ ⟨nm, hnm, rfl⟩
  walk_at "w"
  refine W.eq (hc3 _ nm hnm) ?_
  walk_at "w"
  refine W.eq (plain_ok (by have := J.len; omega)) ?_
  rw [decide_eq_true J.len]
  walk_at "w"
  rw [decide_eq_true (rfl : votes = votes)]
  walk_at "w"
  refine C_neb ?_
  rw [show decide (jf ∈ roadsF votes S) = decide (jf = q) from decide_eq_decide.mpr hjr.symm, show (!(decide (jf = q) == decide (jf = q))) = false by simp]
  walk_at "w"
  rw [decide_eq_true hjs]
  walk_at "w"
  rw [decide_eq_false (show ¬ minL jf < 0 by have := minL_nn hjn; omega)]
  walk_at "w"
  refine forR_inv (fun i ρ => ρ "passed" = some (true, .list (([] : List Int).map .int)) ∧ ρ "freely" = some (false, .list (jf.map .int)) ∧ ρ "votes" = some (false, .list (votes.map .int)) ∧ ρ "parts" = some (false, .int votes.length)) (fun ρ hI => ?_) (fun i ρ hi hI => ?_) ⟨by walk_at "lk", by walk_at "lk", by walk_at "lk", by walk_at "lk"⟩
  · obtain ⟨q1, q2, q3, q4⟩ := hI
    walk_at "w"
    rfl
  · obtain ⟨q1, q2, q3, q4⟩ := hI
    walk_at "w"
    refine forR_inv (fun j ρ => ρ "passed" = some (true, .list (([] : List Int).map .int)) ∧ ρ "freely" = some (false, .list (jf.map .int)) ∧ ρ "votes" = some (false, .list (votes.map .int)) ∧ ρ "parts" = some (false, .int votes.length) ∧ ρ "i" = some (false, .int i)) (fun ρ hI => ?_) (fun j ρ hj hI => ?_) ⟨by walk_at "lk", by walk_at "lk", by walk_at "lk", by walk_at "lk", by walk_at "lk"⟩
    · obtain ⟨q1, q2, q3, q4, q5⟩ := hI
      walk_at "w"
      exact ⟨by walk_at "lk", by walk_at "lk", by walk_at "lk", by walk_at "lk"⟩
    · obtain ⟨q1, q2, q3, q4, q5⟩ := hI
      have hgi := hjg i
      have hgj := hjg j
      walk_at "w"
      by_cases hp : 0 < jf.getD i 0
      · rw [decide_eq_true hp]
        walk_at "w"
        by_cases e : (j : Int) = i
        · rw [decide_eq_true e]
          walk_at "w"
          exact ⟨by walk_at "lk", by walk_at "lk", by walk_at "lk", by walk_at "lk", by walk_at "lk"⟩
        · rw [decide_eq_false e]
          have hc := J.cmp i j hi hj (by omega) hp
          walk_at "w"
          have hlt : ¬ votes.getD i 0 * (jf.getD j 0 + 1) < votes.getD j 0 * jf.getD i 0 := by rcases hc with q | ⟨q, _⟩ <;> omega
          rw [decide_eq_false hlt]
          walk_at "w"
          by_cases he : votes.getD i 0 * (jf.getD j 0 + 1) = votes.getD j 0 * jf.getD i 0
          · have hij : ¬ (j : Int) < i := by rcases hc with q | ⟨_, q⟩ <;> omega
            rw [decide_eq_true he]
            walk_at "w"
            rw [decide_eq_false hij]
            walk_at "w"
            exact ⟨by walk_at "lk", by walk_at "lk", by walk_at "lk", by walk_at "lk", by walk_at "lk"⟩
          · rw [decide_eq_false he]
            walk_at "w"
            exact ⟨by walk_at "lk", by walk_at "lk", by walk_at "lk", by walk_at "lk", by walk_at "lk"⟩
      · rw [decide_eq_false hp]
        walk_at "w"
        exact ⟨by walk_at "lk", by walk_at "lk", by walk_at "lk", by walk_at "lk", by walk_at "lk"⟩
end
end Mine

/-! F03 -/
namespace Mine
theorem sum_le_len3 {B : Int} : ∀ {l : List Int}, (∀ v ∈ l, v ≤ B) → l.sum ≤ l.length * B
  | [], _ => by simp
  | v :: l, h => by
    have h1 := h v List.mem_cons_self
    have h2 := sum_le_len3 (l := l) fun u hu => h u (List.mem_cons_of_mem _ hu)
    rw [List.sum_cons, List.length_cons]
    have : ((l.length + 1 : Nat) : Int) * B = l.length * B + B := by rw [Int.natCast_add, Int.add_mul]; simp
    omega
theorem sum_nn3 : ∀ {l : List Int}, (∀ v ∈ l, 0 ≤ v) → 0 ≤ l.sum
  | [], _ => by simp
  | v :: l, h => by
    have h1 := h v List.mem_cons_self
    have h2 := sum_nn3 (l := l) fun u hu => h u (List.mem_cons_of_mem _ hu)
    rw [List.sum_cons]; omega
theorem vote03_bd (zs : List Int) (i : Nat) : 0 ≤ vote03 zs i ∧ vote03 zs i ≤ 10 ^ 30 := by
  unfold vote03
  split
  · have := fmod_bd (atI zs (3 + i) 3) (b := 10 ^ 30) (by decide)
    omega
  · have h1 := fmod_bd (atI zs (3 + i) 3) (b := 12) (by decide)
    have h2 := fmod_bd ((atI zs 2 3).fdiv 2) (b := 10 ^ 20) (by decide)
    generalize (atI zs (3 + i) 3).fmod 12 = a at *
    generalize ((atI zs 2 3).fdiv 2).fmod (10 ^ 20) = b at *
    have h3 : a * (1 + b) ≤ 11 * (1 + b) := Int.mul_le_mul_of_nonneg_right (by omega) (by omega)
    exact ⟨Int.mul_nonneg h1.1 (by omega), by omega⟩
theorem votes03_bd (zs : List Int) (p : Nat) : ∀ v ∈ votes03 zs p, 0 ≤ v ∧ v ≤ 10 ^ 30 := by
  have h0 : ∀ v ∈ votes30 zs p, 0 ≤ v ∧ v ≤ 10 ^ 30 := fun v hv => by
    unfold votes30 at hv
    obtain ⟨i, _, rfl⟩ := List.mem_map.mp hv
    exact vote03_bd zs i
  intro v hv
  unfold votes03 at hv
  split at hv
  · rcases List.mem_or_eq_of_mem_set hv with h | h
    · exact h0 v h
    · rw [h]; decide
  · exact h0 v hv
theorem L03_of {zs : List Int} {p S : Nat} (hp : 1 ≤ p ∧ p ≤ 4) (hS : (atI zs 1 3).fmod (room03 p) = S) : L03 (votes03 zs p) S := by
  have hl0 : (votes30 zs p).length = p := by simp [votes30]
  have hl : (votes03 zs p).length = p := by unfold votes03; split <;> simp [hl0]
  have hbd := votes03_bd zs p
  have hnn : ∀ v ∈ votes03 zs p, 0 ≤ v := fun v hv => (hbd v hv).1
  have hV : 0 < (votes03 zs p).sum := by
    by_cases h : (votes30 zs p).sum = 0
    · have e : votes03 zs p = (votes30 zs p).set (p - 1) 1 := by unfold votes03; rw [if_pos h]
      have hm : (1 : Int) ∈ votes03 zs p := by
        rw [e]
        exact List.mem_set (by omega) 1
      have := le_sum_of_nn hnn 1 hm
      omega
    · have e : votes03 zs p = votes30 zs p := by unfold votes03; rw [if_neg h]
      have := sum_nn3 hnn
      rw [e] at this ⊢
      omega
  have hV2 : (votes03 zs p).sum < 10 ^ 40 := by
    have := sum_le_len3 (l := votes03 zs p) (B := 10 ^ 30) fun v hv => (hbd v hv).2
    rw [hl] at this
    have h4 : (p : Int) * 10 ^ 30 ≤ 4 * 10 ^ 30 := Int.mul_le_mul_of_nonneg_right (by omega) (by decide)
    omega
  have hroom : 0 < room03 p := by unfold room03; split <;> (try split) <;> omega
  have hsb := fmod_bd (atI zs 1 3) hroom
  rw [hS] at hsb
  have hSm : (p = 1 → S ≤ 6) ∧ (p = 2 → S ≤ 12) ∧ (p = 3 → S ≤ 9) ∧ (p = 4 → S ≤ 6) := by
    refine ⟨fun e => ?_, fun e => ?_, fun e => ?_, fun e => ?_⟩
    all_goals
      subst e
      simp only [room03] at hsb
      omega
  obtain ⟨m1, m2, m3, m4⟩ := hSm
  have hp' : p = 1 ∨ p = 2 ∨ p = 3 ∨ p = 4 := by omega
  refine ⟨hbd, by omega, by omega, hV, hV2, by omega, ?_, fun h hh => ?_⟩
  · rw [hl]
    obtain rfl | rfl | rfl | rfl := hp' <;> omega
  · rw [hl]
    obtain rfl | rfl | rfl | rfl := hp'
    · rw [Nat.one_pow]; omega
    · exact Nat.le_trans (Nat.pow_le_pow_right (by decide) (show h ≤ 12 by omega)) (by decide)
    · exact Nat.le_trans (Nat.pow_le_pow_right (by decide) (show h ≤ 9 by omega)) (by decide)
    · exact Nat.le_trans (Nat.pow_le_pow_right (by decide) (show h ≤ 6 by omega)) (by decide)

set_option maxHeartbeats 4000000 in
theorem law03 : Law03 := fun P zs hz => by
  have hpb := fmod_bd (atI zs 0 3) (b := 4) (by decide)
  obtain ⟨p, hp⟩ : ∃ p : Nat, 1 + (atI zs 0 3).fmod 4 = p := ⟨(1 + (atI zs 0 3).fmod 4).toNat, by omega⟩
  have hp4 : 1 ≤ p ∧ p ≤ 4 := by omega
  have hroom : 0 < room03 p := by unfold room03; split <;> (try split) <;> omega
  have hsb := fmod_bd (atI zs 1 3) hroom
  obtain ⟨S, hS⟩ : ∃ S : Nat, (atI zs 1 3).fmod (room03 p) = S := ⟨((atI zs 1 3).fmod (room03 p)).toNat, by omega⟩
  have L := L03_of hp4 hS
  have hl0 : (votes30 zs p).length = p := by simp [votes30]
  have hl : (votes03 zs p).length = p := by unfold votes03; split <;> simp [hl0]
  refine W.val ?_
  refine W_call (binds := [("script", .list (zs.map .int))]) rfl rfl rfl rfl rfl ?_
  refine exs_app2 (b1 := [_, _, _, _, _, _]) (b2 := _ :: _) (fun ρ => ρ "parts" = some (false, .int p) ∧ ρ "seats" = some (false, .int S) ∧ ρ "third" = some (false, .int (atI zs 2 3)) ∧ ρ "votes" = some (true, .list ((votes03 zs p).map .int))) (lawA (n := 0) hz hp hS rfl rfl) ?_
  rintro ρ ⟨r1, r2, r3, r4⟩
  refine exs_app2 (b1 := [_, _, _, _, _, _]) (b2 := _ :: _) (fun ρ => ρ "parts" = some (false, .int (votes03 zs p).length) ∧ ρ "seats" = some (false, .int S) ∧ ρ "third" = some (false, .int (atI zs 2 3)) ∧ ρ "votes" = some (false, .list ((votes03 zs p).map .int)) ∧ ρ "ends" = some (false, dictD (roadsF (votes03 zs p) S)) ∧ ∃ o, ρ "best" = some (o, .list ((qIter (votes03 zs p) S).map .int))) (lawB (n := 0) L (by rw [hl]; exact r1) r2 r3 r4 rfl rfl) ?_
  clear r1 r2 r3 r4
  rintro ρ ⟨r1, r2, r3, r4, r5, r6⟩
  exact lawC (n := 0) L r1 r2 r3 r4 r5 r6 rfl rfl
end Mine

/-! End03 -/
set_option maxHeartbeats 4000000 in
theorem PySem.Challenge.cw_fh0001_03_holds : PySem.Challenge.rw_fh0001_03.Holds :=
  Mine.T03 Mine.law03
