import PyProof.Rows.All
import Wide.All
import OpenK.AllK
import Wide.FinOn
import KE.KSortTup
import PySem.Challenge.RW_fh0001_05
set_option Elab.async false
set_option linter.unusedVariables false
set_option linter.unusedSimpArgs false
set_option linter.unusedSectionVars false
set_option maxRecDepth 100000
open PySem PySem.W PyProof.Rows

/-! Core -/
/-! An interpreter of plain values (no heap) for the subset of Python that the laws use. -/
namespace Mine

abbrev D := PyData

inductive Out (α : Type) where
  | ok (a : α)
  | tie
  | bad

def Out.bind {α β : Type} (x : Out α) (f : α → Out β) : Out β :=
  match x with
  | .ok a => f a
  | .tie => .tie
  | .bad => .bad

theorem Out.bind_ok {α β : Type} {x : Out α} {f : α → Out β} {b : β} (h : x.bind f = .ok b) : ∃ a, x = .ok a ∧ f a = .ok b := by
  cases x with
  | ok a => exact ⟨a, rfl, h⟩
  | tie => cases h
  | bad => cases h

/-- a frame: for each name, whether this frame alone holds the list there, and the value -/
abbrev Rho := Str → Option (Bool × D)
def upd (ρ : Rho) (x : Str) (o : Bool) (v : D) : Rho := fun y => if y = x then some (o, v) else ρ y
/-- the names of xs are handed on: nobody stores into their lists from now on -/
def frz (ρ : Rho) : List Str → Rho
  | [] => ρ
  | xs => fun y => if xs.contains y then (ρ y).map (fun p => (false, p.2)) else ρ y

def lim : Nat := 1048576

def mulB (a b : Int) : Bool := !(decide (Builtin.Int.intBits a > shortFactorBits) && decide (Builtin.Int.intBits b > shortFactorBits) && Builtin.Int.intTooBig (Builtin.Int.intBits a + Builtin.Int.intBits b))
def powB (a n : Int) : Bool := decide (0 ≤ n) && decide ((Builtin.Int.intBits a : Int) * n ≤ 2 ^ 27)

def rep (n : Nat) (xs : List D) : List D := (List.replicate n xs).flatten

def binD : Operator → D → D → Out D
  | .Add, .int a, .int b => .ok (.int (a + b))
  | .Sub, .int a, .int b => .ok (.int (a - b))
  | .Mult, .int a, .int b => if mulB a b then .ok (.int (a * b)) else .bad
  | .FloorDiv, .int a, .int b => if b = 0 ∨ 2 ^ 9000 ≤ b.natAbs then .bad else .ok (.int (a.fdiv b))
  | .Mod, .int a, .int b => if b = 0 then .bad else .ok (.int (a.fmod b))
  | .Pow, .int a, .int n => if powB a n then .ok (.int (a ^ n.toNat)) else .bad
  | .Add, .list xs, .list ys => if xs.length + ys.length ≤ lim then .ok (.list (xs ++ ys)) else .bad
  | .Mult, .list xs, .int n => if 0 < xs.length ∧ xs.length * n.toNat ≤ lim ∧ n ≤ lim ∧ -1 ≤ n then .ok (.list (rep n.toNat xs)) else .bad
  | _, _, _ => .bad

def shp (d : D) : Bool := d.canLay0 && decide (d.depth ≤ 64)

def cmpD : CmpOp → D → D → Out Bool
  | .Eq, a, b => if shp a && shp b then .ok (PyData.eqv a b) else .bad
  | .NotEq, a, b => if shp a && shp b then .ok (!PyData.eqv a b) else .bad
  | .Lt, .int a, .int b => .ok (decide (a < b))
  | .LtE, .int a, .int b => .ok (decide (a ≤ b))
  | .Gt, .int a, .int b => .ok (decide (b < a))
  | .GtE, .int a, .int b => .ok (decide (b ≤ a))
  | .In, a, .list xs => if shp a && shp (.list xs) then .ok (xs.any fun y => PyData.eqv y a) else .bad
  | .In, a, .tuple xs => if shp a && shp (.tuple xs) then .ok (xs.any fun y => PyData.eqv y a) else .bad
  | .IsNot, .none, .none => .ok false
  | _, _, _ => .bad

def trD : D → Out Bool
  | .none => .ok false
  | .bool b => .ok b
  | .int i => .ok (i != 0)
  | .list xs => if xs.length ≤ lim then .ok (!xs.isEmpty) else .bad
  | _ => .bad

def unD : UnaryOp → D → Out D
  | .USub, .int a => .ok (.int (-a))
  | .Not, d => (trD d).bind fun b => .ok (.bool !b)
  | _, _ => .bad

def intsD : List D → Option (List Int)
  | [] => some []
  | .int i :: r => (intsD r).map (i :: ·)
  | _ => none

def insI (x : Int) : List Int → List Int
  | [] => [x]
  | y :: r => if x ≤ y then x :: y :: r else y :: insI x r
def sortI : List Int → List Int
  | [] => []
  | x :: r => insI x (sortI r)

def maxI : Int → List Int → Int
  | m, [] => m
  | m, x :: r => maxI (if m < x then x else m) r
def minI : Int → List Int → Int
  | m, [] => m
  | m, x :: r => minI (if x < m then x else m) r

def tupI : D → Option (List Int)
  | .tuple ds => intsD ds
  | _ => none
def tupsI : List D → Option (List (List Int))
  | [] => some []
  | d :: r => (tupI d).bind fun t => (tupsI r).map (t :: ·)
/-- in the dictionary's order -/
def ltL : List Int → List Int → Bool
  | [], [] => false
  | [], _ :: _ => true
  | _ :: _, [] => false
  | x :: xs, y :: ys => if x = y then ltL xs ys else decide (x < y)
def insT (x : List Int) : List (List Int) → List (List Int)
  | [] => [x]
  | y :: r => if ltL y x then y :: insT x r else x :: y :: r
def sortT : List (List Int) → List (List Int)
  | [] => []
  | x :: r => insT x (sortT r)
def sortD (xs : List D) : Out D :=
  match tupsI xs with
  | some ts => if 2 ≤ ts.length ∧ ts.length < 64 ∧ ts.all (fun t => !t.isEmpty) = true then .ok (.list ((sortT ts).map fun t => .tuple (t.map .int))) else .bad
  | none => .bad

/-- built-in functions of one argument -/
def fnD (id : String) (d : D) : Out D :=
  match id, d with
  | "len", .list xs => if xs.length ≤ lim then .ok (.int xs.length) else .bad
  | "len", .tuple xs => if xs.length ≤ lim then .ok (.int xs.length) else .bad
  | "sum", .list xs => (match intsD xs with | some ns => .ok (.int ns.sum) | none => .bad)
  | "abs", .int a => .ok (.int (if a < 0 then -a else a))
  | "max", .list xs => (match intsD xs with | some (n :: ns) => .ok (.int (maxI n ns)) | _ => .bad)
  | "min", .list xs => (match intsD xs with | some (n :: ns) => .ok (.int (minI n ns)) | _ => .bad)
  | "sorted", .list xs => (match intsD xs with | some ns => if ns.length < 64 then .ok (.list ((sortI ns).map .int)) else .bad | none => sortD xs)
  | _, _ => .bad
/-- the sorted with reverse=True -/
def revD (id : String) (d : D) : Out D :=
  match id, d with
  | "sorted", .list xs => (match intsD xs with | some ns => if ns.length < 64 then .ok (.list ((sortI ns).reverse.map .int)) else .bad | none => .bad)
  | _, _ => .bad
/-- a built-in type, called with one argument -/
def tyD (T : String) (d : D) : Out D :=
  match T, d with
  | "int", .int a => .ok (.int a)
  | "list", .list xs => if xs.length ≤ lim then .ok (.list xs) else .bad
  | _, _ => .bad

def isD (T : String) (d : D) : Out Bool :=
  match T, d with
  | "list", .list _ => .ok true
  | "int", .int _ => .ok true
  | "bool", .int _ => .ok false
  | _, _ => .bad

def idxD (d : D) (k : Int) : Out D :=
  match d with
  | .list xs => if xs.length ≤ lim then (match seqIndex? k xs.length with | some j => (match xs[j]? with | some v => .ok v | none => .bad) | none => .bad) else .bad
  | .tuple xs => if xs.length ≤ lim then (match seqIndex? k xs.length with | some j => (match xs[j]? with | some v => .ok v | none => .bad) | none => .bad) else .bad
  | _ => .bad

def rangeL (a : Int) (c : Int) (n : Nat) : List D := (List.range n).map fun (i : Nat) => .int (a + i * c)
/-- range(..) as a source of a loop -/
def inLim (a : Int) : Bool := decide (-1048576 ≤ a) && decide (a ≤ 1048576)
def rngD : List D → Out (List D)
  | [.int b] => if inLim b then .ok (rangeL 0 1 b.toNat) else .bad
  | [.int a, .int b] => if inLim a && inLim b then .ok (rangeL a 1 (b - a).toNat) else .bad
  | [.int a, .int b, .int c] => if inLim a && inLim b && c == -1 then .ok (rangeL a (-1) (a - b).toNat) else .bad
  | _ => .bad
def srcD : D → Out (List D)
  | .list xs => if xs.length ≤ lim then .ok xs else .bad
  | .tuple xs => if xs.length ≤ lim then .ok xs else .bad
  | _ => .bad

def constD : Const → Out D
  | .none => .ok .none
  | .bool b => .ok (.bool b)
  | .int i => .ok (.int i)
  | .str s => .ok (.str s)
  | _ => .bad

/-- a value of the top's, out of the written part -/
def topD (K : Frag) : Nat → Value → Option D
  | _, .none => some .none
  | _, .bool b => some (.bool b)
  | _, .int i _ => some (.int i)
  | _, .str s _ => some (.str s)
  | n + 1, .ref a => (match K.lookup a with
    | some ⟨.type "tuple", _, .seq xs _, _⟩ => ((xs.toList.map (topD K n)).foldr (fun o r => o.bind fun x => r.map (x :: ·)) (some [])).map .tuple
    | _ => none)
  | _, _ => none

/-- a function of the top's -/
def fdOf (K : Frag) (f : Str) : Option FuncData :=
  match nsIn K mainGlobals f with
  | some (some (.ref a)) => (match K.lookup a with
    | some ⟨_, _, .func fd, _⟩ => some fd
    | _ => none)
  | _ => none

def isVar : Option NameKind → Bool
  | some .local | some .cell | some .free => true
  | _ => false

structure In where
  ev : Scope → Rho → Bool → Expr → Out D
  tst : Scope → Rho → Expr → Out Bool
  ex : Scope → Rho → Stmt → Out (Rho × Option D)
  call : Str → List D → Out D

def evs (f : Expr → Out D) : List Expr → Out (List D)
  | [] => .ok []
  | .Starred .. :: _ => .bad
  | e :: r => (f e).bind fun v => (evs f r).bind fun vs => .ok (v :: vs)

def exsL (f : Rho → Stmt → Out (Rho × Option D)) : List Stmt → Rho → Out (Rho × Option D)
  | [], ρ => .ok (ρ, none)
  | s :: r, ρ => (f ρ s).bind fun p => match p.2 with | none => exsL f r p.1 | some d => .ok (p.1, some d)

def forL (f : D → Rho → Out (Rho × Option D)) : List D → Rho → Out (Rho × Option D)
  | [], ρ => .ok (ρ, none)
  | v :: r, ρ => (f v ρ).bind fun p => match p.2 with | none => forL f r p.1 | some d => .ok (p.1, some d)

def whileL (t : Rho → Out Bool) (f : Rho → Out (Rho × Option D)) : Nat → Rho → Out (Rho × Option D)
  | 0, _ => .bad
  | n + 1, ρ => (t ρ).bind fun b => if b then (f ρ).bind fun p => (match p.2 with | none => whileL t f n p.1 | some d => .ok (p.1, some d)) else .ok (ρ, none)

def mapL {α β : Type} (f : α → Out β) : List α → Out (List β)
  | [] => .ok []
  | a :: r => (f a).bind fun b => (mapL f r).bind fun bs => .ok (b :: bs)

def filtL {α β : Type} (t : α → Out Bool) (f : α → Out β) : List α → Out (List β)
  | [] => .ok []
  | a :: r => (t a).bind fun c => if c then (f a).bind fun b => (filtL t f r).bind fun bs => .ok (b :: bs) else filtL t f r

def catL {α β : Type} (f : α → Out (List β)) : List α → Out (List β)
  | [] => .ok []
  | a :: r => (f a).bind fun b => (catL f r).bind fun bs => .ok (b ++ bs)

def tests (f : Expr → Out Bool) : List Expr → Out Bool
  | [] => .ok true
  | e :: r => (f e).bind fun b => if b then tests f r else .ok false

def notSet : Expr → Bool
  | .Set .. => false
  | _ => true
def notSlice : Expr → Bool
  | .Slice .. => false
  | _ => true

/-- the clauses of and | or as a value -/
def boolL (f : Expr → Out D) (op : BoolOp) : List Expr → Out D
  | [] => .bad
  | [e] => f e
  | e :: r => (f e).bind fun v => (trD v).bind fun t => match op, t with
    | .And, false | .Or, true => .ok v
    | _, _ => boolL f op r
/-- .. as a test -/
def boolT (f : Expr → Out Bool) (op : BoolOp) : List Expr → Out Bool
  | [] => .ok (op == .And)
  | e :: r => (f e).bind fun t => match op, t with
    | .And, false => .ok false
    | .Or, true => .ok true
    | _, _ => boolT f op r

def nameD (K : Frag) (sc : Scope) (ρ : Rho) (wk : Bool) (x : Str) : Out D :=
  if x == ("__debug__" : Str) || x == ("__classdict__" : Str) then .bad else
  if isVar (sc.names.lookup x) then
    match ρ x with
    | some (o, d) => if o && !wk then .bad else .ok d
    | none => .bad
  else if sc.names.lookup x == some .globalImplicit then
    match nsIn K mainGlobals x with
    | some (some v) => (match topD K 4 v with | some d => .ok d | none => .bad)
    | _ => .bad
  else .bad

/-- what a global name of a called thing stands for -/
inductive Callee where
  | fn | built (id : String) | ty (T : String)
def calleeD (K : Frag) (sc : Scope) (f : Str) : Option Callee :=
  if f == ("__debug__" : Str) || f == ("__name__" : Str) then none else
  if sc.names.lookup f == some .globalImplicit then
    match nsIn K mainGlobals f with
    | some (some (.ref _)) => some .fn
    | some none => (match bootBuiltins f with
      | some (.builtin id) => some (.built id)
      | some (.type T) => some (.ty T)
      | _ => none)
    | _ => none
  else none

def callD (K : Frag) (i : In) (sc : Scope) (ρ : Rho) (f : Str) (args : List Expr) (kws : List Keyword) : Out D :=
  match calleeD K sc f with
  | some .fn => (match kws with
    | [] => if args.isEmpty || (fdOf K f).isNone then .bad else (evs (i.ev sc ρ false) args).bind (i.call f)
    | _ => .bad)
  | some (.built id) => (match args, kws with
    | [.Starred ..], _ => .bad
    | [e], [] => (i.ev sc ρ true e).bind (fnD id)
    | [e], [⟨some k, .Constant (.bool true) _ _, _⟩] => if k == ("reverse" : Str) then (i.ev sc ρ true e).bind (revD id) else .bad
    | [.Starred .., _], _ => .bad
    | [e, .Name T _], [] => if id == "isinstance" then (match calleeD K sc T with
      | some (.ty T) => (i.ev sc ρ true e).bind fun d => (isD T d).bind fun b => .ok (.bool b)
      | _ => .bad) else .bad
    | _, _ => .bad)
  | some (.ty T) => (match args, kws with
    | [.Starred ..], _ => .bad
    | [e], [] => (i.ev sc ρ true e).bind (tyD T)
    | _, _ => .bad)
  | none => .bad

/-- the items of a loop's source -/
def srcE (K : Frag) (i : In) (sc : Scope) (ρ : Rho) (wk : Bool) : Expr → Out (List D)
  | .Call (.Name f p) args [] q => (match calleeD K sc f with
    | some (.ty T) => if T == "range" && !args.isEmpty then (evs (i.ev sc ρ true) args).bind rngD else .bad
    | _ => (i.ev sc ρ wk (.Call (.Name f p) args [] q)).bind srcD)
  | .Set .. => .bad
  | e => (i.ev sc ρ wk e).bind srcD

def freeOk (sc csc : Scope) : Bool := csc.names.all fun p => p.2 != .free || sc.names.lookup p.1 == some .cell || sc.names.lookup p.1 == some .free
def namesOk (csc : Scope) : Bool := csc.kind == .function && csc.names.all fun p => csc.names.lookup p.1 == some p.2
/-- the frame that a comprehension sees -/
def compRho (csc : Scope) (ρ : Rho) : Rho := fun y => match csc.names.lookup y with | some .free => ρ y | _ => none

def localOrCell (csc : Scope) (x : Str) : Bool := csc.names.lookup x == some .local || csc.names.lookup x == some .cell

def compE (K : Frag) (i : In) (sc : Scope) (ρ : Rho) (elt : Expr) (gens : List Comprehension) (csc : Scope) : Out (List D) :=
  if freeOk sc csc && namesOk csc then
    match gens with
    | [⟨.Name x _, it, ifs, 0⟩] => if localOrCell csc x then
        (srcE K i sc ρ true it).bind fun vs =>
          filtL (fun v => tests (i.tst csc (upd (compRho csc ρ) x false v)) ifs) (fun v => i.ev csc (upd (compRho csc ρ) x false v) false elt) vs
      else .bad
    | _ => .bad
  else .bad

def evN (K : Frag) (i : In) (sc : Scope) (ρ : Rho) (wk : Bool) : Expr → Out D
  | .Constant c _ _ => constD c
  | .Name x _ => nameD K sc ρ wk x
  | .BinOp l op r _ => (i.ev sc ρ true l).bind fun a => (i.ev sc ρ true r).bind fun b => binD op a b
  | .UnaryOp op x _ => (i.ev sc ρ true x).bind (unD op)
  | .BoolOp op vs _ => boolL (i.ev sc ρ false) op vs
  | .Compare l [op] [r] _ => if notSet r then (i.ev sc ρ true l).bind fun a => (i.ev sc ρ true r).bind fun b => (cmpD op a b).bind fun c => .ok (.bool c) else .bad
  | .IfExp t b o _ => (i.tst sc ρ t).bind fun c => if c then i.ev sc ρ false b else i.ev sc ρ false o
  | .List es _ => (evs (i.ev sc ρ false) es).bind fun vs => if vs.length ≤ lim then .ok (.list vs) else .bad
  | .Tuple es _ _ => (evs (i.ev sc ρ false) es).bind fun vs => if vs.length ≤ lim then .ok (.tuple vs) else .bad
  | .Subscript v s _ => if notSlice s then (i.ev sc ρ true v).bind fun o => (i.ev sc ρ true s).bind fun k => (match k with | .int k => idxD o k | _ => .bad) else .bad
  | .Call (.Name f _) args kws _ => callD K i sc ρ f args kws
  | .ListComp elt gens csc _ => (compE K i sc ρ elt gens csc).bind fun vs => .ok (.list vs)
  | _ => .bad

def tstN (_ : Frag) (i : In) (sc : Scope) (ρ : Rho) : Expr → Out Bool
  | .UnaryOp .Not x _ => (i.tst sc ρ x).bind fun b => .ok (!b)
  | .BoolOp op vs _ => boolT (i.tst sc ρ) op vs
  | .IfExp .. => .bad
  | .Compare l [op] [r] _ => if notSet r then (i.ev sc ρ true l).bind fun a => (i.ev sc ρ true r).bind fun b => cmpD op a b else .bad
  | .Compare .. => .bad
  | e => (i.ev sc ρ true e).bind trD

/-- a display or a comprehension: its list is new and nobody else's -/
def freshE : Expr → Bool
  | .List .. | .ListComp .. => true
  | .BinOp (.List ..) .Mult _ _ => true
  | _ => false

/-- the names that an expression hands on (wk: the place itself hands nothing on) -/
def al (K : Frag) : Nat → Bool → Expr → List Str
  | n + 1, wk, e => (match e with
    | .Name x _ => if wk then [] else [x]
    | .BinOp l _ r _ => al K n true l ++ al K n true r
    | .UnaryOp _ x _ => al K n true x
    | .BoolOp _ vs _ => vs.flatMap (al K n false)
    | .Compare l _ rs _ => al K n true l ++ rs.flatMap (al K n true)
    | .IfExp t b o _ => al K n true t ++ al K n false b ++ al K n false o
    | .List es _ => es.flatMap (al K n false)
    | .Tuple es _ _ => es.flatMap (al K n false)
    | .Subscript v s _ => al K n true v ++ al K n true s
    | .Call (.Name f _) args _ _ => args.flatMap (al K n (fdOf K f).isNone)
    | .ListComp elt gens _ _ => al K n false elt ++ gens.flatMap fun g => al K n true g.iter ++ g.ifs.flatMap (al K n true)
    | _ => [])
  | 0, _, _ => []

def alE (K : Frag) (e : Expr) : List Str := al K 30 (freshE e) e

def notStar : Expr → Bool
  | .Starred .. => false
  | _ => true

def nmOk (x : Str) : Bool := !(x == ("__debug__" : Str) || x == ("__classdict__" : Str))
def notComp : Expr → Bool
  | .ListComp .. | .SetComp .. | .DictComp .. => false
  | _ => true

def augI : Operator → Int → Int → Out D
  | .Add, a, b => .ok (.int (a + b))
  | .Sub, a, b => .ok (.int (a - b))
  | _, _, _ => .bad

def ownL (ρ : Rho) (x : Str) : Out (List D) :=
  match ρ x with
  | some (true, .list xs) => if xs.length < lim then .ok xs else .bad
  | _ => .bad
def intD : D → Out Int
  | .int k => .ok k
  | _ => .bad
def posL (k : Int) (n : Nat) : Out Nat :=
  match seqIndex? k n with
  | some j => .ok j
  | none => .bad

/-- a loop over an own list that hands nothing on: its body is one store -/
def foldI (f : Rho → Out D) (t y : Str) : List D → Rho → Out Rho
  | [], ρ => .ok ρ
  | d :: r, ρ => (f (upd ρ t false d)).bind fun c => foldI f t y r (upd (upd ρ t false d) y false c)

def exN (K : Frag) (i : In) (sc : Scope) (ρ : Rho) : Stmt → Out (Rho × Option D)
  | .Pass _ => .ok (ρ, none)
  | .Assign [.Name x _] e _ => if localOrCell sc x && (freshE e || notComp e) then
      (i.ev sc (frz ρ (alE K e)) (freshE e) e).bind fun d => .ok (upd (frz ρ (alE K e)) x (freshE e) d, none)
    else .bad
  | .Assign [.Subscript (.Name x _) ix _] e _ => if notSlice ix && localOrCell sc x && nmOk x && notComp e then
      (i.ev sc (frz ρ (al K 30 false e)) false e).bind fun d => (i.ev sc (frz ρ (al K 30 false e)) true ix).bind fun k => (intD k).bind fun k =>
        (ownL (frz ρ (al K 30 false e)) x).bind fun xs => (posL k xs.length).bind fun j => .ok (upd (frz ρ (al K 30 false e)) x true (.list (xs.set j d)), none)
    else .bad
  | .AugAssign (.Name x _) op e _ => if localOrCell sc x then
      match ρ x with
      | some (false, .int a) => (i.ev sc ρ true e).bind fun d => (intD d).bind fun b => (augI op a b).bind fun c => .ok (upd ρ x false c, none)
      | _ => .bad
    else .bad
  | .AugAssign (.Subscript (.Name x _) ix _) op e _ => if notSlice ix && localOrCell sc x && nmOk x then
      (i.ev sc ρ true ix).bind fun k => (intD k).bind fun k => (ownL ρ x).bind fun xs => (idxD (.list xs) k).bind fun old => (intD old).bind fun a =>
        (i.ev sc ρ true e).bind fun d => (intD d).bind fun b => (augI op a b).bind fun c => (posL k xs.length).bind fun j => .ok (upd ρ x true (.list (xs.set j c)), none)
    else .bad
  | .Expr (.Call (.Attribute (.Name x _) nm ap) [e] [] cp) _ => if nm == ("append" : Str) && localOrCell sc x && nmOk x && notStar e && ap.endLine == cp.line then
      (ownL ρ x).bind fun _ => (i.ev sc (frz ρ (al K 30 false e)) false e).bind fun d => (ownL (frz ρ (al K 30 false e)) x).bind fun xs =>
          .ok (upd (frz ρ (al K 30 false e)) x true (.list (xs ++ [d])), none)
    else .bad
  | .If t b o _ => (i.tst sc ρ t).bind fun c => if c then exsL (i.ex sc) b ρ else exsL (i.ex sc) o ρ
  | .For (.Name t _) it b [] _ => if localOrCell sc t then
      match it, b with
      | .Name z _, [.Assign [.Name y _] e _] => if z != t && z != y && localOrCell sc y && localOrCell sc z && nmOk z && notComp e then
          (ownL ρ z).bind fun xs => (foldI (fun ρ => i.ev sc ρ false e) t y xs ρ).bind fun ρ' => .ok (ρ', none)
        else .bad
      | _, _ => (srcE K i sc (frz ρ (al K 30 false it)) false it).bind fun vs => forL (fun v ρ => exsL (i.ex sc) b (upd ρ t false v)) vs (frz ρ (al K 30 false it))
    else .bad
  | .While t b [] _ => whileL (fun ρ => i.tst sc ρ t) (fun ρ => exsL (i.ex sc) b ρ) 200 ρ
  | .Return (some e) _ => (i.ev sc (frz ρ (al K 30 false e)) false e).bind fun d => .ok (frz ρ (al K 30 false e), some d)
  | _ => .bad

/-- the values of a def's parameters -/
def bindP {α : Type} (names : List Str) (vals dflts : List α) : Option (List (Str × α)) :=
  if vals.length ≤ names.length ∧ dflts.length ≤ names.length ∧ names.length ≤ vals.length + dflts.length then
    some (names.zip (vals ++ dflts.drop (vals.length + dflts.length - names.length)))
  else none

def dfltsD (K : Frag) (fd : FuncData) : Option (List D) :=
  match fd.defaults with
  | .none => some []
  | v => (match topD K 1 v with | some (.tuple ds) => some ds | _ => none)

def nodupS : List Str → Bool
  | [] => true
  | x :: r => !r.contains x && nodupS r

def fdOk (K : Frag) (fd : FuncData) : Bool :=
  codeIn K fd.code fd.qualname && fd.closure.isEmpty && fd.globals == mainGlobals && fd.builtins == builtinsNs &&
  fd.params.posonlyargs.isEmpty && fd.params.vararg.isNone && fd.params.kwonlyargs.isEmpty && fd.params.kwarg.isNone &&
  nodupS (fd.params.args.map (·.arg)) && (fd.params.args.all fun a => localOrCell fd.scope a.arg) &&
  fd.scope.kind == .function && !fd.scope.isGenerator && !fd.scope.isCoroutine && fd.scope.names.all fun p => fd.scope.names.lookup p.1 == some p.2 && p.2 != .free

def rhoOf (binds : List (Str × D)) : Rho := fun y => (binds.lookup y).map fun d => (false, d)

def callN (K : Frag) (i : In) (f : Str) (args : List D) : Out D :=
  match fdOf K f with
  | some fd => if fdOk K fd then
      (match fd.body, dfltsD K fd with
      | .stmts b, some ds => (match bindP (fd.params.args.map (·.arg)) args ds with
        | some binds => (exsL (i.ex fd.scope) b (rhoOf binds)).bind fun p => .ok (p.2.getD .none)
        | none => .bad)
      | _, _ => .bad)
    else .bad
  | none => .bad

def nxt (K : Frag) (i : In) : In where
  ev := evN K i
  tst := tstN K i
  ex := exN K i
  call := callN K i

def It (K : Frag) : Nat → In
  | 0 => ⟨fun _ _ _ _ => .bad, fun _ _ _ => .bad, fun _ _ _ => .bad, fun _ _ => .bad⟩
  | n + 1 => nxt K (It K n)

end Mine

/-! Rel -/
namespace Mine

abbrev Fz := Addr → Option Obj

mutual
/-- v is the plain value d; its lists and tuples stand in F, never to be changed -/
inductive VR (F : Fz) : Value → D → Prop
  | none : VR F .none .none
  | bool (b) : VR F (.bool b) (.bool b)
  | int (i t) : VR F (.int i t) (.int i)
  | str (x t) : VR F (.str x t) (.str x)
  | list {a o items n xs} : F a = some o → o.cls = .type "list" → o.data = .seq items n → VRs F items.toList xs → VR F (.ref a) (.list xs)
  | tuple {a o items n xs} : F a = some o → o.cls = .type "tuple" → o.data = .seq items n → VRs F items.toList xs → VR F (.ref a) (.tuple xs)
inductive VRs (F : Fz) : List Value → List D → Prop
  | nil : VRs F [] []
  | cons {v d vs ds} : VR F v d → VRs F vs ds → VRs F (v :: vs) (d :: ds)
end

mutual
theorem VR.mono {F F' : Fz} (h : ∀ a o, F a = some o → F' a = some o) : ∀ {v d}, VR F v d → VR F' v d
  | _, _, .none => .none
  | _, _, .bool b => .bool b
  | _, _, .int i t => .int i t
  | _, _, .str x t => .str x t
  | _, _, .list ha c d r => .list (h _ _ ha) c d (VRs.mono h r)
  | _, _, .tuple ha c d r => .tuple (h _ _ ha) c d (VRs.mono h r)
theorem VRs.mono {F F' : Fz} (h : ∀ a o, F a = some o → F' a = some o) : ∀ {vs ds}, VRs F vs ds → VRs F' vs ds
  | _, _, .nil => .nil
  | _, _, .cons x r => .cons (VR.mono h x) (VRs.mono h r)
end

mutual
theorem VR.reads {F : Fz} {hp : Heap} (h : ∀ a o, F a = some o → hp.get? a = some o) : ∀ {v d}, VR F v d → ∃ as, Reads hp v d as
  | _, _, .none => ⟨_, .none⟩
  | _, _, .bool b => ⟨_, .bool b⟩
  | _, _, .int i t => ⟨_, .int i t⟩
  | _, _, .str x t => ⟨_, .str x t⟩
  | _, _, .list ha c d r => let ⟨_, q⟩ := VRs.reads h r; ⟨_, .list (h _ _ ha) c d q⟩
  | _, _, .tuple ha c d r => let ⟨_, q⟩ := VRs.reads h r; ⟨_, .tuple (h _ _ ha) c d q⟩
theorem VRs.reads {F : Fz} {hp : Heap} (h : ∀ a o, F a = some o → hp.get? a = some o) : ∀ {vs ds}, VRs F vs ds → ∃ as, ReadsAll hp vs ds as
  | _, _, .nil => ⟨_, .nil⟩
  | _, _, .cons x r => let ⟨_, p⟩ := VR.reads h x; let ⟨_, q⟩ := VRs.reads h r; ⟨_, .cons p q⟩
end

theorem VRs.length {F : Fz} : ∀ {vs ds}, VRs F vs ds → vs.length = ds.length
  | _, _, .nil => rfl
  | _, _, .cons _ r => by rw [List.length_cons, List.length_cons, VRs.length r]
theorem VRs.append {F : Fz} : ∀ {vs ds ws es}, VRs F vs ds → VRs F ws es → VRs F (vs ++ ws) (ds ++ es)
  | _, _, _, _, .nil, k => k
  | _, _, _, _, .cons x r, k => .cons x (VRs.append r k)
theorem VRs.one {F : Fz} {v d} (h : VR F v d) : VRs F [v] [d] := .cons h .nil
theorem VRs.get {F : Fz} : ∀ {vs : List Value} {ds : List D}, VRs F vs ds → ∀ {j : Nat} {d : D}, ds[j]? = some d → ∃ v, vs[j]? = some v ∧ VR F v d
  | _, _, .nil, _, _, h => by simp at h
  | _, _, .cons x r, 0, _, h => by simp at h; subst h; exact ⟨_, by simp, x⟩
  | _, _, .cons x r, j + 1, _, h => by
    obtain ⟨v, h1, h2⟩ := VRs.get r (j := j) (by simpa using h)
    exact ⟨v, by simpa using h1, h2⟩
theorem VRs.set {F : Fz} : ∀ {vs : List Value} {ds : List D}, VRs F vs ds → ∀ {j : Nat} {v : Value} {d : D}, VR F v d → VRs F (vs.set j v) (ds.set j d)
  | _, _, .nil, _, _, _, _ => .nil
  | _, _, .cons x r, 0, _, _, h => .cons h r
  | _, _, .cons x r, j + 1, _, _, h => .cons x (VRs.set r h)
theorem VRs.reverse {F : Fz} : ∀ {vs ds}, VRs F vs ds → VRs F vs.reverse ds.reverse
  | _, _, .nil => .nil
  | _, _, .cons x r => by rw [List.reverse_cons, List.reverse_cons]; exact (VRs.reverse r).append (.one x)

theorem intsD_are {F : Fz} : ∀ {vs ds ns}, VRs F vs ds → intsD ds = some ns → IntsAre vs ns
  | _, _, _, .nil, h => by simp [intsD] at h; subst h; exact .nil
  | _, _, ns, .cons (d := d) (ds := ds) x r, h => by
    cases d with
    | int i =>
      cases x
      simp only [intsD, Option.map_eq_some_iff] at h
      obtain ⟨ms, hm, rfl⟩ := h
      exact .cons _ _ (intsD_are r hm)
    | _ => simp [intsD] at h
theorem vrs_ints {F : Fz} : ∀ {vs ns}, IntsAre vs ns → VRs F vs (ns.map .int)
  | _, _, .nil => .nil
  | _, _, .cons _ _ r => .cons (.int _ _) (vrs_ints r)

abbrev plainL (items : Array Value) (n : Nat) : Obj := { cls := .type "list", data := .seq items n }

/-- .. or a list that stands in the heap and nowhere in F (its frame's own) -/
inductive VW (F : Fz) (h : Heap) : Value → D → Prop
  | frz {v d} : VR F v d → VW F h v d
  | own {a items n xs} : h.get? a = some (plainL items n) → VRs F items.toList xs → VW F h (.ref a) (.list xs)

/-- what an expression does to the world: it makes new things alone -/
structure Ext (F : Fz) (h : Heap) (F' : Fz) (h' : Heap) : Prop where
  keep : ∀ b o, h.get? b = some o → h'.get? b = some o
  mono : ∀ b o, F b = some o → F' b = some o
  fin : ∀ b o, F' b = some o → h'.get? b = some o
  new : ∀ b o, F' b = some o → F b = some o ∨ h.get? b = none

theorem Ext.refl {F : Fz} {h : Heap} (k : ∀ b o, F b = some o → h.get? b = some o) : Ext F h F h := ⟨fun _ _ e => e, fun _ _ e => e, k, fun _ _ e => .inl e⟩
theorem none_back {h h' : Heap} (k : ∀ b o, h.get? b = some o → h'.get? b = some o) {b : Addr} (e : h'.get? b = none) : h.get? b = none := by
  cases q : h.get? b with
  | none => rfl
  | some o => rw [k b o q] at e; cases e
theorem Ext.trans {F F' F'' : Fz} {h h' h'' : Heap} (x : Ext F h F' h') (y : Ext F' h' F'' h'') : Ext F h F'' h'' :=
  ⟨fun b o e => y.keep b o (x.keep b o e), fun b o e => y.mono b o (x.mono b o e), y.fin,
    fun b o e => (y.new b o e).elim (fun q => x.new b o q) fun q => .inr (none_back x.keep q)⟩

theorem VW.mono {F F' : Fz} {h h' : Heap} (hf : ∀ a o, F a = some o → F' a = some o) (hk : ∀ b o, h.get? b = some o → h'.get? b = some o) {v d} (x : VW F h v d) : VW F' h' v d := by
  cases x with
  | frz r => exact .frz (r.mono hf)
  | own ha r => exact .own (hk _ _ ha) (r.mono hf)
theorem VW.ext {F F' : Fz} {h h' : Heap} (e : Ext F h F' h') {v d} (x : VW F h v d) : VW F' h' v d := x.mono e.mono e.keep

def LO (h : Heap) (a : Addr) (items : Array Value) (n : Nat) : Prop := ∃ o, h.get? a = some o ∧ o.cls = .type "list" ∧ o.data = .seq items n
theorem LO.plain {h : Heap} {a items n} (e : h.get? a = some (plainL items n)) : LO h a items n := ⟨_, e, rfl, rfl⟩
theorem LO.isl {h : Heap} {a items n} (x : LO h a items n) : h.IsList a items := let ⟨o, e, c, d⟩ := x; ⟨o, e, c, _, d⟩
theorem LO.keep {h h' : Heap} {a items n} (x : LO h a items n) (k : ∀ b o, h.get? b = some o → h'.get? b = some o) : LO h' a items n := let ⟨o, e, c, d⟩ := x; ⟨o, k _ _ e, c, d⟩
theorem LO.lt {h : Heap} {a items n} (x : LO h a items n) : a < h.objs.size := let ⟨_, e, _, _⟩ := x; Heap.lt_size e
theorem LO.parts {h : Heap} {a items n} (x : LO h a items n) : ∃ dd sl, h.get? a = some { cls := .type "list", dict := dd, data := .seq items n, slots := sl } := by
  obtain ⟨⟨c, dd, d, sl⟩, e, hc, hd⟩ := x
  simp only at hc hd
  subst hc hd
  exact ⟨dd, sl, e⟩

theorem VW.list {F : Fz} {h : Heap} (hf : ∀ b o, F b = some o → h.get? b = some o) {v xs} (x : VW F h v (.list xs)) : ∃ a items n, v = .ref a ∧ LO h a items n ∧ VRs F items.toList xs := by
  cases x with
  | frz r => cases r with | list ha c d r => exact ⟨_, _, _, rfl, ⟨_, hf _ _ ha, c, d⟩, r⟩
  | own ha r => exact ⟨_, _, _, rfl, .plain ha, r⟩
theorem VW.tup {F : Fz} {h : Heap} (hf : ∀ b o, F b = some o → h.get? b = some o) {v xs} (x : VW F h v (.tuple xs)) : ∃ a o items n, v = .ref a ∧ h.get? a = some o ∧ o.cls = .type "tuple" ∧ o.data = .seq items n ∧ VRs F items.toList xs := by
  cases x with
  | frz r => cases r with | tuple ha c d r => exact ⟨_, _, _, _, rfl, hf _ _ ha, c, d, r⟩
theorem VW.intv {F : Fz} {h : Heap} {v i} (x : VW F h v (.int i)) : ∃ t, v = .int i t := by
  cases x with
  | frz r => cases r; exact ⟨_, rfl⟩
theorem VW.boolv {F : Fz} {h : Heap} {v b} (x : VW F h v (.bool b)) : v = .bool b := by
  cases x with
  | frz r => cases r; rfl
theorem VW.strv {F : Fz} {h : Heap} {v b} (x : VW F h v (.str b)) : ∃ t, v = .str b t := by
  cases x with
  | frz r => cases r; exact ⟨_, rfl⟩
theorem VW.nonev {F : Fz} {h : Heap} {v} (x : VW F h v .none) : v = .none := by
  cases x with
  | frz r => cases r; rfl
theorem VW.reads {F : Fz} {h : Heap} (hf : ∀ b o, F b = some o → h.get? b = some o) {v d} (x : VW F h v d) : ∃ as, Reads h v d as := by
  cases x with
  | frz r => exact r.reads hf
  | own ha r => obtain ⟨_, q⟩ := r.reads hf; exact ⟨_, .list ha rfl rfl q⟩

theorem isList_of {h : Heap} {a items n} (e : h.get? a = some (plainL items n)) : h.IsList a items := ⟨_, e, rfl, n, rfl⟩

/-- what a name of the frame holds -/
def Slot (env : Env) (h : Heap) (x : Str) (v : Value) : Prop :=
  (env.kindOf x = some .local ∧ ∃ m, h.Ns env.locals m ∧ m x = some v) ∨
  ((env.kindOf x = some .cell ∨ env.kindOf x = some .free) ∧ ∃ c, env.cells.lookup x = some c ∧ h.IsCell c (some v))

theorem Slot.keeps {env : Env} {h h' : Heap} {x v} (s : Slot env h x v) (hk : ∀ b o, h.get? b = some o → h'.get? b = some o) : Slot env h' x v := by
  rcases s with ⟨a, m, b, c⟩ | ⟨a, c, b, d⟩
  · exact .inl ⟨a, m, b.keeps hk, c⟩
  · exact .inr ⟨a, c, b, d.keeps hk⟩

/-- the top, as the walk left it -/
structure Glb (K : Frag) (mg mb : Str → Option Value) (h : Heap) : Prop where
  kin : K.In h
  g : h.Ns mainGlobals mg
  b : h.Ns builtinsNs mb
  built : ∀ x : Str, x ≠ "__name__" → mb x = bootBuiltins x
  nolimit : h.NoLimit
theorem Glb.keeps {K : Frag} {mg mb} {h h' : Heap} (G : Glb K mg mb h) (hk : ∀ b o, h.get? b = some o → h'.get? b = some o) : Glb K mg mb h' :=
  ⟨fun a o e => hk _ _ (G.kin a o e), G.g.keeps hk, G.b.keeps hk, G.built, G.nolimit.keeps hk⟩

/-- the things of the top that a global name may give -/
def KF (K : Frag) (F : Fz) : Prop := ∀ a o, K.lookup a = some o → (o.cls = .type "tuple") → F a = some o

structure ER (K : Frag) (mg mb : Str → Option Value) (sc : Scope) (env : Env) (F : Fz) (ρ : Rho) (h : Heap) : Prop where
  glb : Glb K mg mb h
  kf : KF K F
  fin : ∀ b o, F b = some o → h.get? b = some o
  kind : env.scope.kind = .function
  gl : env.globals = mainGlobals
  bu : env.builtins = builtinsNs
  kinds : ∀ x, env.kindOf x = sc.names.lookup x ∨ (sc.names.lookup x = some .free ∧ env.kindOf x = some .cell)
  cells : ∀ x, (sc.names.lookup x = some .cell ∨ sc.names.lookup x = some .free) → ∃ c, env.cells.lookup x = some c
  vars : ∀ x o d, ρ x = some (o, d) → isVar (sc.names.lookup x) = true → ∃ v, Slot env h x v ∧ VW F h v d ∧ (o = false → VR F v d)

theorem ER.ext {K : Frag} {mg mb} {sc env} {F F' : Fz} {ρ} {h h' : Heap} (R : ER K mg mb sc env F ρ h) (e : Ext F h F' h') : ER K mg mb sc env F' ρ h' :=
  ⟨R.glb.keeps e.keep, fun a o k c => e.mono _ _ (R.kf a o k c), e.fin, R.kind, R.gl, R.bu, R.kinds, R.cells, fun x o d hx hv => by
    obtain ⟨v, s, w, f⟩ := R.vars x o d hx hv
    exact ⟨v, s.keeps e.keep, w.ext e, fun q => (f q).mono e.mono⟩⟩

structure AOk (A : Around) (n : Nat) : Prop where
  handled : A.handled = none
  depth : A.depth + n < recursionLimit
  units : A.units + 8 * n + 200 < cLine

theorem AOk.less {A : Around} {n m : Nat} (h : AOk A n) (hm : m ≤ n) : AOk A m := ⟨h.handled, by have := h.depth; omega, by have := h.units; omega⟩
theorem AOk.succ {A : Around} {n : Nat} (h : AOk A (n + 1)) : AOk A n := h.less (Nat.le_succ n)

/-- the answer of an expression -/
def EOk (prog : Program) (w : World) (A : Around) (F : Fz) (s : Shared) (wk : Bool) (d : D) (t : Sem Value) : Prop :=
  ∀ (Q : Value → Shared → Prop) (E : Value → Shared → Prop), (∀ v h' tk F', Ext F s.heap F' h' → VW F' h' v d → (wk = false → VR F' v d) → Q v { s with heap := h', toks := tk }) → wpAny (model prog w) A t Q E s
def TOk (prog : Program) (w : World) (A : Around) (F : Fz) (s : Shared) (b : Bool) (t : Sem Bool) : Prop :=
  ∀ (Q : Bool → Shared → Prop) (E : Value → Shared → Prop), (∀ h' tk F', Ext F s.heap F' h' → Q b { s with heap := h', toks := tk }) → wpAny (model prog w) A t Q E s

def SoundE (K : Frag) (mg mb : Str → Option Value) (prog : Program) (w : World) (i : In) (n : Nat) : Prop :=
  ∀ sc ρ wk e d, i.ev sc ρ wk e = .ok d → ∀ A env F s, AOk A n → ER K mg mb sc env F ρ s.heap → EOk prog w A F s wk d (eval e env)
def SoundT (K : Frag) (mg mb : Str → Option Value) (prog : Program) (w : World) (i : In) (n : Nat) : Prop :=
  ∀ sc ρ e b, i.tst sc ρ e = .ok b → ∀ A env F s, AOk A n → ER K mg mb sc env F ρ s.heap → TOk prog w A F s b (isTrue e env (eval e env))

end Mine

/-! Ops -/
namespace Mine

theorem ipow9000 : ∀ b : Int, ¬ 2 ^ 9000 ≤ b.natAbs → b.natAbs.log2 < 9000 := fun b h => by
  by_cases h0 : b.natAbs = 0
  · rw [h0]; decide
  · exact (Nat.log2_lt h0).mpr (Nat.not_le.mp h)

def addF (F : Fz) (a : Addr) (o : Obj) : Fz := fun b => if b = a then some o else F b
theorem addF_self {F : Fz} {a o} : addF F a o a = some o := by simp [addF]

theorem fresh_F {F : Fz} {h : Heap} (fin : ∀ b o, F b = some o → h.get? b = some o) {a} (ha : h.get? a = none) : F a = none := by
  cases e : F a with
  | none => rfl
  | some o => rw [fin _ _ e] at ha; cases ha
theorem none_size (h : Heap) : h.get? h.objs.size = none := Heap.get?_none_of_le (Nat.le_refl _)

theorem Ext.add {F F' : Fz} {h h' : Heap} (x : Ext F h F' h') {a o} (ha : h.get? a = none) (hF : F' a = none) (e : h'.get? a = some o) : Ext F h (addF F' a o) h' := by
  refine ⟨x.keep, fun b q hb => ?_, fun b q hb => ?_, fun b q hb => ?_⟩
  · have := x.mono b q hb
    unfold addF; split
    · rename_i eq; subst eq; rw [hF] at this; cases this
    · exact this
  · unfold addF at hb; split at hb
    · rename_i eq; subst eq; cases hb; exact e
    · exact x.fin _ _ hb
  · unfold addF at hb; split at hb
    · rename_i eq; subst eq; exact .inr ha
    · exact x.new _ _ hb

theorem Ext.of_keep {F : Fz} {h h' : Heap} (fin : ∀ b o, F b = some o → h.get? b = some o) (k : ∀ b o, h.get? b = some o → h'.get? b = some o) : Ext F h F h' :=
  ⟨k, fun _ _ e => e, fun b o e => k b o (fin b o e), fun b o e => .inl e⟩

theorem Ext.newL {F : Fz} {h h' : Heap} (fin : ∀ b o, F b = some o → h.get? b = some o) (k : ∀ b o, h.get? b = some o → h'.get? b = some o) {a items n}
    (ha : h.get? a = none) (e : h'.get? a = some (plainL items n)) : Ext F h (addF F a (plainL items n)) h' :=
  (Ext.of_keep fin k).add ha (fresh_F fin ha) e

section
variable {prog : Program} {w : World} {A : Around} {F : Fz} {s : Shared}

/-- an answer that is no list -/
theorem EOk.now {wk : Bool} {d : D} {t : Sem Value} (fin : ∀ b o, F b = some o → s.heap.get? b = some o)
    (h : ∀ Q E, (∀ v h' tk, (∀ b o, s.heap.get? b = some o → h'.get? b = some o) → VR F v d → Q v { s with heap := h', toks := tk }) → wpAny (model prog w) A t Q E s) : EOk prog w A F s wk d t :=
  fun Q E k => h Q E fun v h' tk hk r => k v h' tk F (Ext.of_keep fin hk) (.frz r) fun _ => r

theorem EOk.newList {wk : Bool} {ds : List D} {t : Sem Value} (fin : ∀ b o, F b = some o → s.heap.get? b = some o)
    (h : ∀ Q E, (∀ a h' tk items n, (∀ b o, s.heap.get? b = some o → h'.get? b = some o) → s.heap.get? a = none → h'.get? a = some (plainL items n) → VRs F items.toList ds → Q (.ref a) { s with heap := h', toks := tk }) → wpAny (model prog w) A t Q E s) :
    EOk prog w A F s wk (.list ds) t :=
  fun Q E k => h Q E fun a h' tk items n hk ha e r => by
    have x := Ext.newL fin hk ha e
    have r' : VR (addF F a (plainL items n)) (.ref a) (.list ds) := .list addF_self rfl rfl (r.mono x.mono)
    exact k _ _ _ _ x (.frz r') fun _ => r'
end

section
variable {prog : Program} {w : World} {A : Around} {F : Fz} {s : Shared} {E : Value → Shared → Prop}

theorem list_mulG (l : Addr) (items : Array Value) (n : Nat) (dd : Option Addr) (sl : Array (Option Value)) (x : Int) (u : Tok) (hc0 : ¬(!Builtin.List.listFitsIndex x) = true) (hc1 : ¬items.size * x.toNat > (2 ^ 63 - 1) / 8) (hc2 : ¬Builtin.List.listTooLong (items.size * x.toNat) = true) :
    Meets (Builtin.«list.__mul__» ⟨[.ref l, .int x u], []⟩) (fun _ R s => s.heap.get? l = some { cls := .type "list", dict := dd, data := .seq items n, slots := sl } ∧ R (.ok (.ret (Value.ref s.heap.objs.size))) { s with heap := s.heap.push { cls := Value.type "list", data := Data.seq (List.foldl (fun x1 x2 => x1 ++ x2) #[] (List.replicate (if items.isEmpty = true then 0 else x.toNat) items)) }, toks := s.toks }) :=
  .of_wp fun prog w A R s h => by
    obtain ⟨hp, g, d, tk, os⟩ := s; obtain ⟨hl, h⟩ := h
    have hz := AutoListH.joined_fits hc2
    wp_walk; refine wpAny_ite_false (decide_eq_false (Nat.not_lt.mpr hz)) ?_; wp_walk; exact ⟨_, rfl, h⟩

theorem int_rmulG (a : Int) (t : Tok) (l : Addr) (items : Array Value) (n : Nat) (dd : Option Addr) (sl : Array (Option Value)) :
    Meets (Builtin.«int.__rmul__» ⟨[.int a t, .ref l], []⟩) (fun _ R s => s.heap.get? l = some { cls := .type "list", dict := dd, data := .seq items n, slots := sl } ∧ R (.ok (.ret Value.notImplemented)) s) :=
  .of_wp fun prog w A R s h => by obtain ⟨hp, g, d, tk, os⟩ := s; obtain ⟨hl, h⟩ := h; wp_walk; exact ⟨_, rfl, h⟩

theorem mul_list_raw {l : Addr} {items : Array Value} {k : Nat} {x : Int} {u : Tok} {Q : Value → Shared → Prop}
    (hl : LO s.heap l items k) (hlo : -(2 ^ 63 : Int) ≤ x) (hhi : x < 2 ^ 63) (hsz : items.size * x.toNat ≤ 2 ^ 24)
    (h : Q (.ref s.heap.objs.size) { s with heap := s.heap.push { cls := .type "list", data := .seq (List.foldl (fun x1 x2 => x1 ++ x2) #[] (List.replicate (if items.isEmpty = true then 0 else x.toNat) items)) } }) :
    wpAny (model prog w) A (binaryOp .Mult (.ref l) (.int x u)) Q E s := by
  obtain ⟨dd, sl, el⟩ := hl.parts
  exact wpAny_binaryOp_repeat_ref (T := "list") (U := "int") (by decide) ⟨_, el, rfl⟩ (fun s' => typeIs_int s' x u) noFill_list_mul F.fills_int_mul F.slot_int_rmul repeat_list F.slot_int_index.lookup
    (call_meets F.slot_int_rmul (typeIs_int s x u) F.entry_int_rmul (F.args_int_rmul_2 _ _) (int_rmulG x u l items k dd sl)
      ⟨el, rfl, ⟨_, el, rfl⟩, call_meets F.slot_list_mul ⟨_, el, rfl⟩ F.entry_list_mul (F.args_list_mul_2 _ _)
        (list_mulG l items k dd sl x u (by simp [Builtin.List.listFitsIndex]; omega) (by omega) (by simp [Builtin.List.listTooLong, sizeLine]; omega))
        ⟨el, h⟩⟩)

theorem add_list_raw {a b : Addr} {ia ib : Array Value} {na nb : Nat} {Q : Value → Shared → Prop} (ha : LO s.heap a ia na) (hb : LO s.heap b ib nb)
    (h : Q (.ref s.heap.objs.size) { s with heap := s.heap.push { cls := .type "list", data := .seq (ia ++ ib) } }) (hsz : ia.size + ib.size ≤ sizeLine) : wpAny (model prog w) A (binaryOp .Add (.ref a) (.ref b)) Q E s := by
  obtain ⟨dd, sl, ea⟩ := ha.parts
  obtain ⟨dd2, sl2, eb⟩ := hb.parts
  exact concat_meets ⟨_, ea, rfl⟩ ⟨_, eb, rfl⟩ noFill_list_add seq_list_add PySem.F.slot_list_add PySem.F.entry_list_add (PySem.F.args_list_add_2 _ _) (list_addW a b ia ib na nb dd dd2 sl sl2 hsz) ⟨ea, eb, h⟩


theorem foldl_cat (items : Array Value) : ∀ (n : Nat) (acc : Array Value), (List.foldl (fun x1 x2 => x1 ++ x2) acc (List.replicate n items)).toList = acc.toList ++ (List.replicate n items.toList).flatten
  | 0, acc => by simp
  | n + 1, acc => by
    rw [List.replicate_succ, List.foldl_cons, foldl_cat items n, List.replicate_succ, List.flatten_cons, Array.toList_append, List.append_assoc]
theorem VRs.rep {vs ds} (h : VRs F vs ds) : ∀ n, VRs F (List.replicate n vs).flatten (Mine.rep n ds)
  | 0 => by simpa [Mine.rep] using VRs.nil
  | n + 1 => by
    have := VRs.rep h n
    rw [Mine.rep] at this ⊢
    rw [List.replicate_succ, List.replicate_succ, List.flatten_cons, List.flatten_cons]
    exact h.append this

end

section
variable {prog : Program} {w : World} {A : Around} {F : Fz} {s : Shared}

theorem lim_eq : lim = 1048576 := rfl

theorem bin_ok {op : Operator} {a b d : D} {va vb : Value} (h : binD op a b = .ok d) (fin : ∀ b o, F b = some o → s.heap.get? b = some o) (ra : VW F s.heap va a) (rb : VW F s.heap vb b) (wk : Bool) :
    EOk prog w A F s wk d (binaryOp op va vb) := by
  unfold binD at h
  split at h
  · cases h; obtain ⟨t, rfl⟩ := ra.intv; obtain ⟨u, rfl⟩ := rb.intv
    exact .now fin fun Q E k => add_int (k _ _ _ (fun _ _ e => e) (.int _ _))
  · cases h; obtain ⟨t, rfl⟩ := ra.intv; obtain ⟨u, rfl⟩ := rb.intv
    exact .now fin fun Q E k => sub_int' (k _ _ _ (fun _ _ e => e) (.int _ _))
  · split at h
    · rename_i x y hm
      cases h; obtain ⟨t, rfl⟩ := ra.intv; obtain ⟨u, rfl⟩ := rb.intv
      exact .now fin fun Q E k => mul_int (k _ _ _ (fun _ _ e => e) (.int _ _)) (by
        unfold IntMulOk; unfold mulB at hm; rw [Bool.not_eq_true'] at hm; rw [hm]; exact Bool.false_ne_true)
    · cases h
  · split at h
    · cases h
    · rename_i x y hm
      rw [not_or] at hm
      cases h; obtain ⟨t, rfl⟩ := ra.intv; obtain ⟨u, rfl⟩ := rb.intv
      exact .now fin fun Q E k => floordiv_int hm.1 (k _ _ _ (fun _ _ e => e) (.int _ _)) (.inl (PyProof.noPylong_of_log2 (ipow9000 _ hm.2)))
  · split at h
    · cases h
    · rename_i x y hm
      cases h; obtain ⟨t, rfl⟩ := ra.intv; obtain ⟨u, rfl⟩ := rb.intv
      exact .now fin fun Q E k => mod_int' hm (k _ _ _ (fun _ _ e => e) (.int _ _))
  · split at h
    · rename_i x y hm
      unfold powB at hm
      rw [Bool.and_eq_true, decide_eq_true_eq, decide_eq_true_eq] at hm
      cases h; obtain ⟨t, rfl⟩ := ra.intv; obtain ⟨u, rfl⟩ := rb.intv
      exact .now fin fun Q E k => pow_int hm.1 hm.2 (k _ _ _ (fun _ _ e => e) (.int _ _))
    · cases h
  · split at h
    · rename_i xs ys hm
      cases h
      obtain ⟨a, ia, na, rfl, ea, qa⟩ := ra.list fin
      obtain ⟨b, ib, nb, rfl, eb, qb⟩ := rb.list fin
      have l1 := qa.length; have l2 := qb.length
      rw [Array.length_toList] at l1 l2
      refine .newList fin fun Q E k => add_list_raw ea eb (k _ _ s.toks _ _ (fun _ _ e => Heap.get?_push_of_some _ e) (none_size _) (Heap.get?_push_size _ rfl) ?_) (by rw [sizeLine_eq]; rw [lim_eq] at hm; omega)
      rw [Array.toList_append]; exact qa.append qb
    · cases h
  · split at h
    · rename_i xs n hm
      cases h
      obtain ⟨a, ia, na, rfl, ea, qa⟩ := ra.list fin
      obtain ⟨u, rfl⟩ := rb.intv
      have l1 := qa.length
      rw [Array.length_toList] at l1
      rw [lim_eq] at hm
      refine .newList fin fun Q E k => mul_list_raw ea (by omega) (by omega) (by rw [l1]; omega) (k _ _ s.toks _ _ (fun _ _ e => Heap.get?_push_of_some _ e) (none_size _) (Heap.get?_push_size _ rfl) ?_)
      have hne : ia.isEmpty = false := by rw [Array.isEmpty_eq_false_iff_exists_mem]; have : 0 < ia.size := by omega
                                          exact ⟨ia[0], Array.getElem_mem _⟩
      rw [hne, foldl_cat]
      simpa using qa.rep n.toNat
    · cases h
  · cases h

theorem shp_ok {d : D} (h : shp d = true) : d.canLay0 = true ∧ d.depth ≤ 64 := by
  unfold shp at h; rw [Bool.and_eq_true, decide_eq_true_eq] at h; exact h

theorem cmp_ok {op : CmpOp} {a b : D} {c : Bool} {va vb : Value} (h : cmpD op a b = .ok c) (fin : ∀ b o, F b = some o → s.heap.get? b = some o) (ra : VW F s.heap va a) (rb : VW F s.heap vb b) (wk : Bool)
    (hu : A.units + 200 < cLine) : EOk prog w A F s wk (.bool c) (compareOp op va vb) := by
  unfold cmpD at h
  split at h
  · split at h
    · rename_i hs; rw [Bool.and_eq_true] at hs
      obtain ⟨⟨a1, a2⟩, b1, b2⟩ := And.intro (shp_ok hs.1) (shp_ok hs.2)
      cases h; obtain ⟨_, pa⟩ := ra.reads fin; obtain ⟨_, pb⟩ := rb.reads fin
      exact .now fin fun Q E k => SeqAt.compareEq_reads pa pb a1 b1 (by have := Nat.min_le_left a.depth b.depth; omega) (k _ _ s.toks (fun _ _ e => e) (.bool _))
    · cases h
  · split at h
    · rename_i hs; rw [Bool.and_eq_true] at hs
      obtain ⟨⟨a1, a2⟩, b1, b2⟩ := And.intro (shp_ok hs.1) (shp_ok hs.2)
      cases h; obtain ⟨_, pa⟩ := ra.reads fin; obtain ⟨_, pb⟩ := rb.reads fin
      exact .now fin fun Q E k => SeqAt.compareNe_reads pa pb a1 b1 (by have := Nat.min_le_left a.depth b.depth; omega) (k _ _ s.toks (fun _ _ e => e) (.bool _))
    · cases h
  · cases h; obtain ⟨t, rfl⟩ := ra.intv; obtain ⟨u, rfl⟩ := rb.intv
    exact .now fin fun Q E k => lt_int (k _ _ s.toks (fun _ _ e => e) (.bool _))
  · cases h; obtain ⟨t, rfl⟩ := ra.intv; obtain ⟨u, rfl⟩ := rb.intv
    exact .now fin fun Q E k => le_int (k _ _ s.toks (fun _ _ e => e) (.bool _))
  · cases h; obtain ⟨t, rfl⟩ := ra.intv; obtain ⟨u, rfl⟩ := rb.intv
    exact .now fin fun Q E k => gt_int (k _ _ s.toks (fun _ _ e => e) (.bool _))
  · cases h; obtain ⟨t, rfl⟩ := ra.intv; obtain ⟨u, rfl⟩ := rb.intv
    exact .now fin fun Q E k => ge_int (k _ _ s.toks (fun _ _ e => e) (.bool _))
  · split at h
    · rename_i xs hs; rw [Bool.and_eq_true] at hs
      obtain ⟨⟨a1, a2⟩, b1, b2⟩ := And.intro (shp_ok hs.1) (shp_ok hs.2)
      cases h; obtain ⟨_, pa⟩ := ra.reads fin; obtain ⟨_, pb⟩ := rb.reads fin
      exact .now fin fun Q E k => SeqAt.in_list_reads pb pa (by simpa [PyData.canLay0] using b1) a1 (by have := Nat.min_le_right (PyData.depthAll xs) a.depth; omega) (k _ _ s.toks (fun _ _ e => e) (.bool _))
    · cases h
  · split at h
    · rename_i xs hs; rw [Bool.and_eq_true] at hs
      obtain ⟨⟨a1, a2⟩, b1, b2⟩ := And.intro (shp_ok hs.1) (shp_ok hs.2)
      cases h; obtain ⟨_, pa⟩ := ra.reads fin; obtain ⟨_, pb⟩ := rb.reads fin
      exact .now fin fun Q E k => SeqAt.in_tuple_reads pb pa (by simpa [PyData.canLay0] using b1) a1 (by have := Nat.min_le_right (PyData.depthAll xs) a.depth; omega) (k _ _ s.toks (fun _ _ e => e) (.bool _))
    · cases h
  · cases h
    obtain rfl := ra.nonev; obtain rfl := rb.nonev
    exact .now fin fun Q E k => PySem.isNot_none (k _ _ s.toks (fun _ _ e => e) (.bool _))
  · cases h

theorem tr_ok {d : D} {b : Bool} {v : Value} (h : trD d = .ok b) (fin : ∀ b o, F b = some o → s.heap.get? b = some o) (r : VW F s.heap v d) :
    TOk prog w A F s b (truthy v) := fun Q E k => by
  unfold trD at h
  split at h
  · cases h; obtain rfl := r.nonev
    exact truthy_none (k _ s.toks _ (Ext.refl fin))
  · cases h; obtain rfl := r.boolv
    exact wpAny_truthy_bool (k _ s.toks _ (Ext.refl fin))
  · cases h; obtain ⟨t, rfl⟩ := r.intv
    exact P.truthy_int (k _ s.toks _ (Ext.refl fin))
  · split at h
    · rename_i xs hm
      cases h
      obtain ⟨a, ia, na, rfl, ea, qa⟩ := r.list fin
      have l1 := qa.length
      rw [Array.length_toList] at l1
      rw [lim_eq] at hm
      refine wpAny_truthy_list ea.isl (by omega) ?_
      have : ia.isEmpty = xs.isEmpty := by
        rw [Array.isEmpty]; cases xs <;> simp_all
      rw [this]
      exact k _ _ _ (Ext.refl fin)
    · cases h
  · cases h

theorem un_ok {op : UnaryOp} {d c : D} {v : Value} (h : unD op d = .ok c) (fin : ∀ b o, F b = some o → s.heap.get? b = some o) (r : VW F s.heap v d) (wk : Bool) :
    EOk prog w A F s wk c (unaryOp op v) := by
  unfold unD at h
  split at h
  · cases h; obtain ⟨t, rfl⟩ := r.intv
    exact .now fin fun Q E k => P.neg_int (k _ _ _ (fun _ _ e => e) (.int _ _))
  · obtain ⟨b, hb, hc⟩ := Out.bind_ok h
    cases hc
    exact fun Q E k => not_of (tr_ok hb fin r _ _ fun h' tk F' x => k _ _ _ _ x (.frz (.bool _)) fun _ => .bool _)
  · cases h
end

end Mine

/-! Srt -/
namespace Mine

/-! The comparison tree of sort, run by a weak order: the result is in order. -/
def runT {α : Type} (lt : Nat → Nat → Bool) : KasT α → α
  | .ret a => a
  | .ask i j k => runT lt (k (lt i j))
theorem runT_bind {α β : Type} {lt : Nat → Nat → Bool} {f : α → KasT β} : ∀ t : KasT α, runT lt (t.bind f) = runT lt (f (runT lt t))
  | .ret a => rfl
  | .ask i j k => runT_bind (k (lt i j))

def Asks {α : Type} (R : Nat → Prop) : KasT α → (α → Prop) → Prop
  | .ret a, P => P a
  | .ask i j k, P => R i ∧ R j ∧ ∀ b, Asks R (k b) P
theorem Asks.bind {α β : Type} {R : Nat → Prop} {f : α → KasT β} {P : β → Prop} : ∀ {t : KasT α}, Asks R t (fun a => Asks R (f a) P) → Asks R (t.bind f) P
  | .ret a, h => h
  | .ask i j k, h => ⟨h.1, h.2.1, fun b => Asks.bind (h.2.2 b)⟩
theorem Asks.mono {α : Type} {R : Nat → Prop} {P P' : α → Prop} (hp : ∀ a, P a → P' a) : ∀ {t : KasT α}, Asks R t P → Asks R t P'
  | .ret a, h => hp a h
  | .ask i j k, h => ⟨h.1, h.2.1, fun b => Asks.mono hp (h.2.2 b)⟩

theorem kasWp_run {α : Type} {cmp : Nat → Nat → (Bool → Shared → Prop) → Shared → Prop} {lt : Nat → Nat → Bool} {Inv : Shared → Prop} {R : Nat → Prop} {P : α → Prop} (h : ∀ i j C s, R i → R j → Inv s → (∀ s', Inv s' → C (lt i j) s') → cmp i j C s) :
    ∀ (t : KasT α) (Q : α → Shared → Prop) (s : Shared), Asks R t P → Inv s → (∀ s', Inv s' → Q (runT lt t) s') → t.kasWp cmp Q s
  | .ret a, Q, s, _, hi, hq => hq s hi
  | .ask i j k, Q, s, hR, hi, hq => h i j _ s hR.1 hR.2.1 hi fun s' hi' => kasWp_run h (k (lt i j)) Q s' (hR.2.2 _) hi' hq

/-! what the tree asks for -/
def PR (R : Nat → Prop) (p : Array Nat) : Prop := (∀ x ∈ p, R x) ∧ R 0
theorem PR.at {R : Nat → Prop} {p : Array Nat} (h : PR R p) (i : Nat) : R (p.getD i 0) := by
  unfold Array.getD
  split
  · exact h.1 _ (Array.getElem_mem _)
  · exact h.2
theorem PR.perm {R : Nat → Prop} {p q : Array Nat} (h : PR R p) (e : q.Perm p) : PR R q := ⟨fun x hx => h.1 x (e.mem_iff.mp hx), h.2⟩
theorem PR.rev {R : Nat → Prop} {p : Array Nat} (h : PR R p) (i j : Nat) : PR R (kas_rev p i j) := h.perm (mirror_perm _ _ _ _)
theorem asks_asc {R : Nat → Prop} {p : Array Nat} (h : PR R p) : ∀ (f n : Nat), Asks R (kas_asc p f n) (fun _ => True)
  | 0, n => trivial
  | f + 1, n => ⟨h.at _, h.at _, fun b => by cases b <;> first | trivial | exact asks_asc h f (n + 1)⟩
theorem asks_desc {R : Nat → Prop} : ∀ (f : Nat) (p : Array Nat) (n q : Nat), PR R p → Asks R (kas_desc f p n q) (fun r => PR R r.1)
  | 0, p, n, q, h => h
  | f + 1, p, n, q, h => ⟨h.at _, h.at _, fun b => by
    cases b with
    | true =>
      show Asks R (if q > 0 then kas_desc f (kas_rev p (n - (q + 1)) n) (n + 1) 0 else kas_desc f p (n + 1) 0) _
      split
      · exact asks_desc f _ _ _ (h.rev _ _)
      · exact asks_desc f _ _ _ h
    | false => exact ⟨h.at _, h.at _, fun d => by
        cases d with
        | true => exact h
        | false => exact asks_desc f _ _ _ h⟩⟩
theorem asks_tail3 {R : Nat → Prop} {p : Array Nat} (h : PR R p) (n nrem : Nat) : Asks R (kas_tail3 n nrem p) (fun r => PR R r.2) :=
  Asks.bind ((asks_asc (h.rev 0 n) _ _).mono fun _ _ => h.rev 0 n)
theorem asks_descPart {R : Nat → Prop} {p : Array Nat} (h : PR R p) (n nrem : Nat) : Asks R (kas_descPart n nrem p) (fun r => PR R r.2) :=
  Asks.bind ((asks_desc _ _ _ _ h).mono fun r hr => by
    split
    · exact asks_tail3 (hr.rev _ _) _ _
    · exact asks_tail3 hr _ _)
theorem asks_count {R : Nat → Prop} {p : Array Nat} (h : PR R p) (nrem : Nat) : Asks R (kas_count nrem p) (fun r => PR R r.2) :=
  Asks.bind ((asks_asc h _ _).mono fun n _ => by
    split
    · exact h
    · split
      · refine ⟨h.at _, h.at _, fun b => ?_⟩
        cases b with
        | true => exact h
        | false => exact asks_descPart (h.rev _ _) _ _
      · exact asks_descPart h _ _)
theorem asks_place {R : Nat → Prop} {p : Array Nat} (h : PR R p) (k : Nat) : ∀ f l r, Asks R (kas_place p k f l r) (fun _ => True)
  | 0, l, r => trivial
  | f + 1, l, r => by
    unfold kas_place
    split
    · trivial
    · exact ⟨h.at _, h.at _, fun b => by cases b <;> exact asks_place h k f _ _⟩
theorem asks_bin {R : Nat → Prop} : ∀ (f : Nat) (p : Array Nat) (k : Nat), PR R p → Asks R (kas_bin f p k) (fun _ => True)
  | 0, p, k, h => trivial
  | f + 1, p, k, h => Asks.bind ((asks_place h k k 0 k).mono fun l _ => asks_bin f _ _ (h.perm (bubble_perm _ _ _)))
theorem asks_sort {n : Nat} (hn : 0 < n) : Asks (· < n) (kas_sort n) (fun _ => True) :=
  Asks.bind ((asks_count ⟨fun x hx => by simpa using hx, hn⟩ n).mono fun r hr => by
    split
    · exact asks_bin _ _ _ hr
    · trivial)

structure WO (lt : Nat → Nat → Bool) : Prop where
  asym : ∀ a b, lt a b = true → lt b a = false
  trans : ∀ a b c, lt b a = false → lt c b = false → lt c a = false

section
variable {lt : Nat → Nat → Bool}
abbrev at' (p : Array Nat) (i : Nat) : Nat := p.getD i 0
/-- the first m are in order -/
def Up (lt : Nat → Nat → Bool) (p : Array Nat) (m : Nat) : Prop := ∀ i j, i < j → j < m → lt (at' p j) (at' p i) = false
def Dn (lt : Nat → Nat → Bool) (p : Array Nat) (m : Nat) : Prop := ∀ i j, i < j → j < m → lt (at' p i) (at' p j) = false

theorem at'_of {p : Array Nat} {i x : Nat} (h : p[i]? = some x) : at' p i = x := by
  unfold at'; rw [Array.getD_eq_getD_getElem?, h]; rfl
theorem at'_eq {p q : Array Nat} {i j : Nat} (h : p[i]? = q[j]?) : at' p i = at' q j := by
  unfold at'; rw [Array.getD_eq_getD_getElem?, Array.getD_eq_getD_getElem?, h]

theorem rev_at {p : Array Nat} {i j k : Nat} (hij : i ≤ j) (hj : j ≤ p.size) : at' (kas_rev p i j) k = if i ≤ k ∧ k < j then at' p (i + j - 1 - k) else at' p k := by
  unfold kas_rev
  split
  · rename_i hk
    by_cases hm : k = i + j - 1 - k
    · rw [← hm]
      refine at'_eq ?_
      rw [getElem?_mirror hj _ (by omega)]
      rw [if_neg (by omega)]
    · refine at'_eq ?_
      rw [getElem?_mirror hj _ (by omega)]
      rw [if_pos (by omega)]
  · refine at'_eq ?_
    rw [getElem?_mirror hj _ (by omega)]
    rw [if_neg (by omega)]
theorem rev_size {p : Array Nat} {i j : Nat} : (kas_rev p i j).size = p.size := mirror_size _ _ _ _
theorem rev_perm {p : Array Nat} {i j : Nat} : (kas_rev p i j).Perm p := mirror_perm _ _ _ _

theorem Up.snoc (o : WO lt) {p : Array Nat} {m : Nat} (h : Up lt p m) (hm : 0 < m) (hl : lt (at' p m) (at' p (m - 1)) = false) : Up lt p (m + 1) := fun i j hij hj => by
  by_cases e : j = m
  · subst e
    by_cases e2 : i = j - 1
    · rw [e2]; exact hl
    · exact o.trans _ _ _ (h i (j - 1) (by omega) (by omega)) hl
  · exact h i j hij (by omega)
theorem Dn.snoc (o : WO lt) {p : Array Nat} {m : Nat} (h : Dn lt p m) (hm : 0 < m) (hl : lt (at' p (m - 1)) (at' p m) = false) : Dn lt p (m + 1) := fun i j hij hj => by
  by_cases e : j = m
  · subst e
    by_cases e2 : i = j - 1
    · rw [e2]; exact hl
    · exact o.trans _ _ _ hl (h i (j - 1) (by omega) (by omega))
  · exact h i j hij (by omega)

theorem asc_ok (o : WO lt) {p : Array Nat} : ∀ (f n : Nat), 0 < n → Up lt p n → n ≤ runT lt (kas_asc p f n) ∧ runT lt (kas_asc p f n) ≤ n + f ∧ Up lt p (runT lt (kas_asc p f n)) ∧
    (runT lt (kas_asc p f n) < n + f → lt (at' p (runT lt (kas_asc p f n))) (at' p (runT lt (kas_asc p f n) - 1)) = true)
  | 0, n, _, h => ⟨Nat.le_refl _, Nat.le_refl _, h, fun q => absurd q (by show ¬ n < n + 0; omega)⟩
  | f + 1, n, hn, h => by
    unfold kas_asc
    show n ≤ runT lt (if lt (at' p n) (at' p (n - 1)) = true then KasT.ret n else kas_asc p f (n + 1)) ∧ _
    cases hc : lt (at' p n) (at' p (n - 1)) with
    | true =>
      simp only [runT, hc, if_true]
      exact ⟨Nat.le_refl _, by omega, h, fun _ => trivial⟩
    | false =>
      simp only [runT, hc, Bool.false_eq_true, if_false]
      obtain ⟨h1, h2, h3, h4⟩ := asc_ok o f (n + 1) (by omega) (h.snoc o hn hc)
      exact ⟨by omega, by omega, h3, fun q => h4 (by omega)⟩

/-- the last q + 1 of the first n are alike -/
def Eqs (lt : Nat → Nat → Bool) (p : Array Nat) (n q : Nat) : Prop := ∀ i j, n ≤ i + (q + 1) → n ≤ j + (q + 1) → i < n → j < n → lt (at' p i) (at' p j) = false

theorem Dn.rev {p : Array Nat} {n q : Nat} (hn : n ≤ p.size) (hq : q + 1 ≤ n) (h : Dn lt p n) (he : Eqs lt p n q) : Dn lt (kas_rev p (n - (q + 1)) n) n := fun i j hij hj => by
  rw [rev_at (by omega) hn, rev_at (by omega) hn]
  split
  · split
    · exact he _ _ (by omega) (by omega) (by omega) (by omega)
    · omega
  · split
    · exact h _ _ (by omega) (by omega)
    · exact h _ _ hij hj
theorem Dn.up {p : Array Nat} {n : Nat} (hn : n ≤ p.size) (h : Dn lt p n) : Up lt (kas_rev p 0 n) n := fun i j hij hj => by
  rw [rev_at (by omega) hn, rev_at (by omega) hn, if_pos (by omega), if_pos (by omega)]
  exact h _ _ (by omega) (by omega)

theorem desc_ok (o : WO lt) : ∀ (f : Nat) (p : Array Nat) (n q : Nat), q + 1 ≤ n → n + f ≤ p.size → Dn lt p n → Eqs lt p n q → ∀ r, r = runT lt (kas_desc f p n q) →
    r.1.size = p.size ∧ r.1.Perm p ∧ n ≤ r.2.1 ∧ r.2.1 ≤ n + f ∧ Dn lt r.1 r.2.1 ∧ r.2.2 + 1 ≤ r.2.1 ∧ Eqs lt r.1 r.2.1 r.2.2
  | 0, p, n, q, hq, hs, h, he, r, hr => by
    subst hr
    exact ⟨rfl, .refl _, Nat.le_refl _, Nat.le_refl _, h, hq, he⟩
  | f + 1, p, n, q, hq, hs, h, he, r, hr => by
    unfold kas_desc at hr
    have irr : ∀ a, lt a a = false := fun a => by
      cases e : lt a a with
      | false => rfl
      | true => rw [o.asym _ _ e] at e; cases e
    cases hc : lt (at' p n) (at' p (n - 1)) with
    | true =>
      have hd : Dn lt p (n + 1) := h.snoc o (by omega) (o.asym _ _ hc)
      have e1 : ∀ p' : Array Nat, Eqs lt p' (n + 1) 0 := fun p' i j hi hj hi2 hj2 => by
        rw [show i = j by omega]; exact irr _
      by_cases hq0 : q > 0
      · have hr' : r = runT lt (kas_desc f (kas_rev p (n - (q + 1)) n) (n + 1) 0) := by
          rw [hr]; show runT lt (if lt (at' p n) (at' p (n - 1)) = true then _ else _) = _
          rw [if_pos hc, if_pos hq0]
        have hdr : Dn lt (kas_rev p (n - (q + 1)) n) (n + 1) := by
          have h1 := h.rev (by omega) hq he
          refine h1.snoc o (by omega) ?_
          rw [rev_at (by omega) (by omega), rev_at (by omega) (by omega), if_pos (by omega), if_neg (by omega)]
          exact o.trans _ _ _ (o.asym _ _ hc) (he _ _ (by omega) (by omega) (by omega) (by omega))
        obtain ⟨a1, a2, a3, a4, a5, a6, a7⟩ := desc_ok o f _ (n + 1) 0 (by omega) (by rw [rev_size]; omega) hdr (e1 _) r hr'
        exact ⟨a1.trans rev_size, a2.trans rev_perm, by omega, by omega, a5, a6, a7⟩
      · have hr' : r = runT lt (kas_desc f p (n + 1) 0) := by
          rw [hr]; show runT lt (if lt (at' p n) (at' p (n - 1)) = true then _ else _) = _
          rw [if_pos hc, if_neg hq0]
        obtain ⟨a1, a2, a3, a4, a5, a6, a7⟩ := desc_ok o f _ (n + 1) 0 (by omega) (by omega) hd (e1 _) r hr'
        exact ⟨a1, a2, by omega, by omega, a5, a6, a7⟩
    | false =>
      cases hc2 : lt (at' p (n - 1)) (at' p n) with
      | true =>
        have hr' : r = (p, n, q) := by
          rw [hr]; show runT lt (if lt (at' p n) (at' p (n - 1)) = true then _ else _) = _
          rw [if_neg (by rw [hc]; decide)]
          show runT lt (if lt (at' p (n - 1)) (at' p n) = true then _ else _) = _
          rw [if_pos hc2]; rfl
        subst hr'
        exact ⟨rfl, .refl _, Nat.le_refl _, by show n ≤ n + (f + 1); omega, h, hq, he⟩
      | false =>
        have hr' : r = runT lt (kas_desc f p (n + 1) (q + 1)) := by
          rw [hr]; show runT lt (if lt (at' p n) (at' p (n - 1)) = true then _ else _) = _
          rw [if_neg (by rw [hc]; decide)]
          show runT lt (if lt (at' p (n - 1)) (at' p n) = true then _ else _) = _
          rw [if_neg (by rw [hc2]; decide)]
        have he' : Eqs lt p (n + 1) (q + 1) := fun i j hi hj hi2 hj2 => by
          by_cases ei : i = n
          · by_cases ej : j = n
            · rw [ei, ej]; exact irr _
            · subst ei
              exact o.trans _ _ _ (he _ _ (by omega) (by omega) (by omega) (by omega)) hc
          · by_cases ej : j = n
            · subst ej
              exact o.trans _ _ _ hc2 (he _ _ (by omega) (by omega) (by omega) (by omega))
            · exact he _ _ (by omega) (by omega) (by omega) (by omega)
        obtain ⟨a1, a2, a3, a4, a5, a6, a7⟩ := desc_ok o f _ (n + 1) (q + 1) (by omega) (by omega) (h.snoc o (by omega) hc2) he' r hr'
        exact ⟨a1, a2, by omega, by omega, a5, a6, a7⟩

theorem tail3_ok (o : WO lt) {p : Array Nat} {n nrem : Nat} (hn : 0 < n) (hr : n ≤ nrem) (hs : nrem ≤ p.size) (h : Dn lt p n) : ∀ r, r = runT lt (kas_tail3 n nrem p) → r.2.size = p.size ∧ r.2.Perm p ∧ 0 < r.1 ∧ r.1 ≤ nrem ∧ Up lt r.2 r.1 := fun r hr' => by
  unfold kas_tail3 at hr'
  rw [runT_bind] at hr'
  obtain ⟨h1, h2, h3, _⟩ := asc_ok o (p := kas_rev p 0 n) (nrem - n) n hn (h.up (by omega))
  subst hr'
  exact ⟨rev_size, rev_perm, by show 0 < runT lt _; omega, by show runT lt _ ≤ _; omega, h3⟩

theorem descPart_ok (o : WO lt) {p : Array Nat} {n nrem : Nat} (hn : 0 < n) (hr : n + 1 ≤ nrem) (hs : nrem ≤ p.size) (h : Dn lt p (n + 1)) : ∀ r, r = runT lt (kas_descPart n nrem p) → r.2.size = p.size ∧ r.2.Perm p ∧ 0 < r.1 ∧ r.1 ≤ nrem ∧ Up lt r.2 r.1 := fun r hr' => by
  have irr : ∀ a, lt a a = false := fun a => by
    cases e : lt a a with
    | false => rfl
    | true => rw [o.asym _ _ e] at e; cases e
  unfold kas_descPart at hr'
  rw [runT_bind] at hr'
  obtain ⟨a1, a2, a3, a4, a5, a6, a7⟩ := desc_ok o (nrem - (n + 1)) p (n + 1) 0 (by omega) (by omega) h (fun i j hi hj hi2 hj2 => by rw [show i = j by omega]; exact irr _) _ rfl
  generalize runT lt (kas_desc (nrem - (n + 1)) p (n + 1) 0) = t at *
  by_cases hq : t.2.2 > 0
  · rw [if_pos hq] at hr'
    obtain ⟨b1, b2, b3, b4, b5⟩ := tail3_ok o (by omega) (by omega) (by rw [rev_size, a1]; exact hs) (a5.rev (by rw [a1]; omega) a6 a7) r hr'
    exact ⟨b1.trans (rev_size.trans a1), b2.trans (rev_perm.trans a2), b3, b4, b5⟩
  · rw [if_neg hq] at hr'
    obtain ⟨b1, b2, b3, b4, b5⟩ := tail3_ok o (by omega) (by omega) (by rw [a1]; exact hs) a5 r hr'
    exact ⟨b1.trans a1, b2.trans a2, b3, b4, b5⟩

theorem count_ok (o : WO lt) {p : Array Nat} {nrem : Nat} (h1 : 1 ≤ nrem) (hs : nrem ≤ p.size) : ∀ r, r = runT lt (kas_count nrem p) → r.2.size = p.size ∧ r.2.Perm p ∧ 0 < r.1 ∧ r.1 ≤ nrem ∧ Up lt r.2 r.1 := fun r hr => by
  unfold kas_count at hr
  rw [runT_bind] at hr
  obtain ⟨a1, a2, a3, a4⟩ := asc_ok o (p := p) (nrem - 1) 1 (by omega) (fun i j hij hj => by omega)
  generalize runT lt (kas_asc p (nrem - 1) 1) = m at *
  by_cases hm : (m == nrem) = true
  · rw [if_pos hm] at hr
    have : m = nrem := by simpa using hm
    subst hr
    exact ⟨rfl, .refl _, by show 0 < m; omega, by show m ≤ nrem; omega, a3⟩
  · rw [if_neg hm] at hr
    have hne : m ≠ nrem := by simpa using hm
    have hlast := a4 (by omega)
    by_cases hm1 : m > 1
    · rw [if_pos hm1] at hr
      replace hr : r = runT lt (if lt (at' p 0) (at' p (m - 1)) = true then KasT.ret (m, p) else kas_descPart m nrem (kas_rev p 0 m)) := hr
      cases hc : lt (at' p 0) (at' p (m - 1)) with
      | true =>
        rw [hc, if_pos rfl] at hr
        subst hr
        exact ⟨rfl, .refl _, by show 0 < m; omega, by show m ≤ nrem; omega, a3⟩
      | false =>
        rw [hc, if_neg (by decide)] at hr
        -- all of the first m are alike
        have alike : ∀ i j, i < m → j < m → lt (at' p i) (at' p j) = false := fun i j hi hj => by
          have lo : ∀ k, k < m → lt (at' p k) (at' p 0) = false := fun k hk => by
            by_cases e : k = 0
            · rw [e]
              cases q : lt (at' p 0) (at' p 0) with
              | false => rfl
              | true => rw [o.asym _ _ q] at q; cases q
            · exact a3 0 k (by omega) hk
          have hi' : ∀ k, k < m → lt (at' p (m - 1)) (at' p k) = false := fun k hk => by
            by_cases e : k = m - 1
            · rw [e]
              cases q : lt (at' p (m - 1)) (at' p (m - 1)) with
              | false => rfl
              | true => rw [o.asym _ _ q] at q; cases q
            · exact a3 k (m - 1) (by omega) (by omega)
          exact o.trans _ _ _ (o.trans _ _ _ (hi' j hj) hc) (lo i hi)
        have hd : Dn lt (kas_rev p 0 m) (m + 1) := by
          have h1 : Dn lt (kas_rev p 0 m) m := fun i j hij hj => by
            rw [rev_at (by omega) (by omega), rev_at (by omega) (by omega), if_pos (by omega), if_pos (by omega)]
            exact alike _ _ (by omega) (by omega)
          refine h1.snoc o (by omega) ?_
          rw [rev_at (by omega) (by omega), rev_at (by omega) (by omega), if_pos (by omega), if_neg (by omega)]
          exact o.trans _ _ _ (o.asym _ _ hlast) (alike _ _ (by omega) (by omega))
        obtain ⟨b1, b2, b3, b4, b5⟩ := descPart_ok o (by omega) (by omega) (by rw [rev_size]; exact hs) hd r hr
        exact ⟨b1.trans rev_size, b2.trans rev_perm, b3, b4, b5⟩
    · rw [if_neg hm1] at hr
      have hm' : m = 1 := by omega
      subst hm'
      refine descPart_ok o (by omega) (by omega) hs (fun i j hij hj => ?_) r hr
      rw [show i = 0 by omega, show j = 1 by omega]
      exact o.asym _ _ hlast

theorem place_ok (o : WO lt) {p : Array Nat} {k : Nat} : ∀ (f l r : Nat), l ≤ r → r ≤ l + f → r ≤ k → (∀ i, i < l → lt (at' p k) (at' p i) = false) → (∀ i, r ≤ i → i < k → lt (at' p k) (at' p i) = true) → Up lt p k → ∀ m, m = runT lt (kas_place p k f l r) →
    l ≤ m ∧ m ≤ r ∧ (∀ i, i < m → lt (at' p k) (at' p i) = false) ∧ (∀ i, m ≤ i → i < k → lt (at' p k) (at' p i) = true)
  | 0, l, r, hlr, hf, hr, h1, h2, hu, m, hm => by
    have : m = l := hm
    subst this
    exact ⟨Nat.le_refl _, hlr, h1, fun i hi hk => h2 i (by omega) hk⟩
  | f + 1, l, r, hlr, hf, hr, h1, h2, hu, m, hm => by
    unfold kas_place at hm
    by_cases hge : l ≥ r
    · rw [if_pos hge] at hm
      have : m = l := hm
      subst this
      exact ⟨Nat.le_refl _, hlr, h1, fun i hi hk => h2 i (by omega) hk⟩
    · rw [if_neg hge] at hm
      replace hm : m = runT lt (if lt (at' p k) (at' p ((l + r) / 2)) = true then kas_place p k f l ((l + r) / 2) else kas_place p k f ((l + r) / 2 + 1) r) := hm
      cases hc : lt (at' p k) (at' p ((l + r) / 2)) with
      | true =>
        rw [hc, if_pos rfl] at hm
        obtain ⟨b1, b2, b3, b4⟩ := place_ok o f l ((l + r) / 2) (by omega) (by omega) (by omega) h1 (fun i hi hk => by
          by_cases e : i = (l + r) / 2
          · rw [e]; exact hc
          · cases q : lt (at' p k) (at' p i) with
            | true => rfl
            | false =>
              have := o.trans _ _ _ (hu ((l + r) / 2) i (by omega) hk) q
              rw [hc] at this; cases this) hu m hm
        exact ⟨b1, by omega, b3, b4⟩
      | false =>
        rw [hc, if_neg (by decide)] at hm
        obtain ⟨b1, b2, b3, b4⟩ := place_ok o f ((l + r) / 2 + 1) r (by omega) (by omega) hr (fun i hi => by
          by_cases e : i = (l + r) / 2
          · rw [e]; exact hc
          · exact o.trans _ _ _ (hu i ((l + r) / 2) (by omega) (by omega)) hc) h2 hu m hm
        exact ⟨by omega, b2, b3, b4⟩

theorem bub_at {p : Array Nat} {k l i : Nat} (hl : l ≤ k) (hk : k < p.size) : at' (bubble p k (k - l)) i = if i = l then at' p k else if l < i ∧ i ≤ k then at' p (i - 1) else at' p i := by
  have e := getElem?_bubble hk (k - l) (by omega) i
  rw [show k - (k - l) = l by omega] at e
  by_cases h : i = l
  · rw [if_pos h] at e ⊢; exact at'_eq e
  · rw [if_neg h] at e ⊢
    by_cases h2 : l < i ∧ i ≤ k
    · rw [if_pos h2] at e ⊢; exact at'_eq e
    · rw [if_neg h2] at e ⊢; exact at'_eq e

theorem bin_ok' (o : WO lt) : ∀ (f : Nat) (p : Array Nat) (k : Nat), k + f ≤ p.size → Up lt p k → ∀ r, r = runT lt (kas_bin f p k) → r.size = p.size ∧ r.Perm p ∧ Up lt r (k + f)
  | 0, p, k, _, h, r, hr => by
    have : r = p := hr
    subst this
    exact ⟨rfl, .refl _, h⟩
  | f + 1, p, k, hs, h, r, hr => by
    unfold kas_bin at hr
    rw [runT_bind] at hr
    obtain ⟨b1, b2, b3, b4⟩ := place_ok o k 0 k (by omega) (by omega) (Nat.le_refl _) (fun i hi => by omega) (fun i hi hk => by omega) h _ rfl
    generalize runT lt (kas_place p k k 0 k) = l at *
    have hu : Up lt (bubble p k (k - l)) (k + 1) := fun i j hij hj => by
      rw [bub_at b2 (by omega), bub_at b2 (by omega)]
      by_cases ej : j = l
      · rw [if_pos ej, if_neg (by omega), if_neg (by omega)]
        exact b3 _ (by omega)
      · rw [if_neg ej]
        by_cases ei : i = l
        · rw [if_pos ei, if_pos (by omega)]
          exact o.asym _ _ (b4 _ (by omega) (by omega))
        · rw [if_neg ei]
          by_cases hj2 : l < j ∧ j ≤ k
          · rw [if_pos hj2]
            by_cases hi2 : l < i ∧ i ≤ k
            · rw [if_pos hi2]; exact h _ _ (by omega) (by omega)
            · rw [if_neg hi2]; exact h _ _ (by omega) (by omega)
          · rw [if_neg hj2, if_neg (by omega)]; exact h _ _ (by omega) (by omega)
    obtain ⟨c1, c2, c3⟩ := bin_ok' o f _ (k + 1) (by rw [bubble_size]; omega) hu r hr
    exact ⟨c1.trans (bubble_size _ _ _), c2.trans (bubble_perm _ _ _), by rw [show k + (f + 1) = k + 1 + f by omega]; exact c3⟩

theorem sort_ok (o : WO lt) {n : Nat} (h1 : 1 ≤ n) : ∀ r, r = runT lt (kas_sort n) → r.size = n ∧ r.Perm (List.toArray (List.range n)) ∧ Up lt r n := fun r hr => by
  unfold kas_sort at hr
  rw [runT_bind] at hr
  have hsz : (List.toArray (List.range n)).size = n := by simp
  obtain ⟨a1, a2, a3, a4, a5⟩ := count_ok o (p := List.toArray (List.range n)) h1 (by rw [hsz]; exact Nat.le_refl _) _ rfl
  generalize runT lt (kas_count n (List.toArray (List.range n))) = t at *
  by_cases ht : t.1 < n
  · rw [if_pos ht] at hr
    rw [Nat.max_eq_left (by omega)] at hr
    obtain ⟨b1, b2, b3⟩ := bin_ok' o (n - t.1) t.2 t.1 (by rw [a1, hsz]; omega) a5 r hr
    exact ⟨b1.trans (a1.trans hsz), b2.trans a2, by rw [show t.1 + (n - t.1) = n by omega] at b3; exact b3⟩
  · rw [if_neg ht] at hr
    have : r = t.2 := hr
    subst this
    exact ⟨a1.trans hsz, a2, by rw [show n = t.1 by omega]; exact a5⟩
end
end Mine

/-! Srt2 -/
namespace Mine

section
variable {prog : Program} {w : World} {A : Around} {E : Value → Shared → Prop} {s : Shared} {vs : List Value} {κ : SortKind} {lt : Nat → Nat → Bool}

def outOf (lt : Nat → Nat → Bool) (vs : List Value) : List Value := (runT lt (kas_sort vs.length)).toList.map fun i => vs.getD i Value.none

theorem lsort_own {n : Nat} {a : Addr} {P : PySem.Fin → Shared → Prop} (ho : s.heap.get? a = some (seqObj "list" vs.toArray n)) (h2 : 2 ≤ vs.length) (h64 : vs.length < 64)
    (hk : ∀ (s1 : Shared) (Q : SortKind → Shared → Prop), (∀ b o, b ≠ a → s.heap.get? b = some o → s1.heap.get? b = some o) → (∀ tk, Q κ { s1 with toks := tk }) → wpAny (model prog w) A (keyKind' vs.toArray) Q (fun _ _ => False) s1)
    (hc : ∀ i j (C : Bool → Shared → Prop) (s1 : Shared), i < vs.length → j < vs.length → (∀ b o, b ≠ a → s.heap.get? b = some o → s1.heap.get? b = some o) → (∀ tk, C (lt i j) { s1 with toks := tk }) → kas_ask prog w A κ vs i j C s1)
    (o : WO lt) (k : ∀ h' tk c, (∀ b o, b ≠ a → s.heap.get? b = some o → h'.get? b = some o) → h'.get? a = some (seqObj "list" (List.toArray (outOf lt vs)) c) → P (.done (.ret .none)) { s with heap := h', toks := tk }) :
    wpAny (model prog w) A (Builtin.«list.sort» ⟨[.ref a], []⟩) P E s := by
  have ha : a < s.heap.objs.size := Heap.lt_size ho
  obtain ⟨e1, ho1⟩ : ∃ e1, (s.heap.update a (Obj.mapSeq fun _ => (#[] : Array Value))).get? a = some (seqObj "list" #[] e1) := ⟨_, get?_update_seq ho fun _ => #[]⟩
  have k1 : ∀ b o, b ≠ a → s.heap.get? b = some o → (((s.heap.update a (Obj.mapSeq fun _ => (#[] : Array Value))).push (seqObj "tuple" vs.toArray 0)).push (seqObj "list" #[] 0)).get? b = some o := fun b o hb e =>
    Heap.get?_push_of_some _ (Heap.get?_push_of_some _ ((Heap.SameBut.update s.heap a _).extBut b o hb e))
  have ha1 : (((s.heap.update a (Obj.mapSeq fun _ => (#[] : Array Value))).push (seqObj "tuple" vs.toArray 0)).push (seqObj "list" #[] 0)).get? a = some (seqObj "list" #[] e1) := Heap.get?_push_of_some _ (Heap.get?_push_of_some _ ho1)
  rw [list_sort_plain]
  refine wpAny_bind (listItems_at ho rfl ?_)
  refine wpAny_bind (listUpdate_at ho rfl ?_ (by rw [List.size_toArray, sizeLine_eq]; omega) (Nat.zero_le _))
  refine wpAny_bind (seqEpoch_at ho1 rfl ?_)
  refine wpAny_bind (wpAny_newTuple ?_ (by show vs.length ≤ _; rw [sizeLine_eq]; omega))
  refine wpAny_bind (wpAny_newList ?_ (Nat.zero_le _))
  refine wpAny_holding ?_
  show wpAny (model prog w) A _ P E { s with heap := ((s.heap.update a (Obj.mapSeq fun _ => (#[] : Array Value))).push (seqObj "tuple" vs.toArray 0)).push (seqObj "list" #[] 0) }
  generalize ((s.heap.update a (Obj.mapSeq fun _ => (#[] : Array Value))).push (seqObj "tuple" vs.toArray 0)).push (seqObj "list" #[] 0) = H at k1 ha1 ⊢
  dsimp only
  have hn2 : ¬ vs.toArray.size < 2 := by rw [List.size_toArray]; omega
  rw [if_neg hn2, if_neg hn2]
  refine wpAny_bind (wpAny_mono (hk { s with heap := H } _ k1 fun tk => ?_) (fun _ _ x => x) fun _ _ x => x.elim)
  obtain ⟨hsz, hpm, hup⟩ := sort_ok o (n := vs.length) (by omega) _ rfl
  have run : (kas_sort vs.length).kasWp (kas_ask prog w A κ vs) (fun p s' => p = runT lt (kas_sort vs.length) ∧ ∃ t, s' = { s with heap := H, toks := t }) { s with heap := H, toks := tk } :=
    kasWp_run (R := (· < vs.length)) (lt := lt) (Inv := fun s' => ∃ t, s' = { s with heap := H, toks := t }) (fun i j C s1 hi hj hinv hC => by
      obtain ⟨t, rfl⟩ := hinv
      exact hc i j C _ hi hj k1 fun tk' => hC _ ⟨tk', rfl⟩) _ _ _ (asks_sort (by omega)) ⟨tk, rfl⟩ fun s' hs' => ⟨rfl, hs'⟩
  refine wpAny_bind (wpAny_mono (kat_run (ks := vs) (vs := vs) (E := fun _ _ => False) (Q := fun st' s' => arrOf st' = (runT lt (kas_sort vs.length)).map (kas_item (vs.toArray.zip vs.toArray)) ∧ failedOf st' = none ∧ ∃ t, s' = { s with heap := H, toks := t })
    rfl h2 h64 (fun p' st' s' a1 a2 a3 a4 => ⟨by rw [a2, a4.1], a3, a4.2⟩) run) ?_ fun _ _ e => e.elim)
  rintro ⟨⟨⟩, st'⟩ s' ⟨har, hf, t, rfl⟩
  dsimp only
  have hout := kat_snds (ks := vs) (vs := vs) rfl har
  have hsz2 : (List.toArray (outOf lt vs)).size = vs.length := by rw [List.size_toArray]; unfold outOf; rw [List.length_map, Array.length_toList, hsz]
  rw [hout]
  change wpAny (model prog w) A (do let _ ← _; _) P E _
  obtain ⟨c2, hc2⟩ : ∃ c2, (H.update a (Obj.mapSeq fun _ => List.toArray (outOf lt vs))).get? a = some (seqObj "list" (List.toArray (outOf lt vs)) c2) := ⟨_, get?_update_seq ha1 fun _ => List.toArray (outOf lt vs)⟩
  refine wpAny_bind (seqEpoch_at ha1 rfl ?_)
  refine wpAny_bind (listUpdate_at ha1 rfl ?_ (Nat.zero_le _) (Nat.le_trans (Nat.le_of_eq hsz2) (by rw [sizeLine_eq]; omega)))
  rw [hf]
  simp only [bne_self_eq_false, Bool.false_eq_true, if_false]
  exact wpAny_pure (k _ _ c2 (fun b o hb e => (Heap.SameBut.update H a _).extBut b o hb (k1 b o hb e)) hc2)

theorem sorted_own {l : Addr} {Q : Value → Shared → Prop} (hl : s.heap.IsList l vs.toArray) (h2 : 2 ≤ vs.length) (h64 : vs.length < 64)
    (hk : ∀ (s1 : Shared) (Q : SortKind → Shared → Prop), (∀ b o, s.heap.get? b = some o → s1.heap.get? b = some o) → (∀ tk, Q κ { s1 with toks := tk }) → wpAny (model prog w) A.in1.in1 (keyKind' vs.toArray) Q (fun _ _ => False) s1)
    (hc : ∀ i j (C : Bool → Shared → Prop) (s1 : Shared), i < vs.length → j < vs.length → (∀ b o, s.heap.get? b = some o → s1.heap.get? b = some o) → (∀ tk, C (lt i j) { s1 with toks := tk }) → kas_ask prog w A.in1.in1 κ vs i j C s1)
    (o : WO lt) (k : ∀ D h' tk c, (∀ b o, s.heap.get? b = some o → h'.get? b = some o) → s.heap.get? D = none → h'.get? D = some (plainL (List.toArray (outOf lt vs)) c) → Q (.ref D) { s with heap := h', toks := tk }) :
    wpAny (model prog w) A (call (.builtin "sorted") [.ref l]) Q E s := by
  refine Calls.call_function_entry kind_sorted plain_sorted entry_sorted (args_sorted1 _) ?_
  unfold Builtin.«sorted»
  refine wpAny_bind (m := checkCount "sorted" 1 1 _) (wpAny_pure ?_)
  refine wpAny_bind (collect_list hl ?_ (by rw [sizeLine_eq]; omega))
  refine wpAny_bind (wpAny_newList ?_ (by rw [sizeLine_eq]; omega))
  have hsz : ((s.heap.push (seqObj "list" #[] 0)).update s.heap.objs.size (Obj.mapSeq (· ++ vs.toArray))).objs.size = s.heap.objs.size + 1 := by
    rw [Heap.size_update, size_push']
  have hoL : (((s.heap.push (seqObj "list" #[] 0)).update s.heap.objs.size (Obj.mapSeq (· ++ vs.toArray))).push (seqObj "list" vs.toArray 0)).get? (s.heap.objs.size + 1) = some (seqObj "list" vs.toArray 0) := by
    rw [← hsz]; exact Heap.get?_push_size _ rfl
  have keep : ∀ b o, s.heap.get? b = some o → (((s.heap.push (seqObj "list" #[] 0)).update s.heap.objs.size (Obj.mapSeq (· ++ vs.toArray))).push (seqObj "list" vs.toArray 0)).get? b = some o := fun b o q => by
    have hlt : b < s.heap.objs.size := Heap.lt_size q
    rw [Heap.get?_push_ne _ _ _ (by rw [hsz]; exact Nat.ne_of_lt (Nat.lt_succ_of_lt hlt)), Heap.get?_update_ne _ _ _ _ (Nat.ne_of_lt hlt), Heap.get?_push_ne _ _ _ (Nat.ne_of_lt hlt)]
    exact q
  show wpAny _ _ _ _ _ { s with heap := ((s.heap.push (seqObj "list" #[] 0)).update s.heap.objs.size (Obj.mapSeq (· ++ vs.toArray))).push (seqObj "list" vs.toArray 0) }
  rw [hsz]
  generalize ((s.heap.push (seqObj "list" #[] 0)).update s.heap.objs.size (Obj.mapSeq (· ++ vs.toArray))).push (seqObj "list" vs.toArray 0) = H at hoL keep ⊢
  have off : ∀ b o, s.heap.get? b = some o → b ≠ s.heap.objs.size + 1 := fun b o e => Nat.ne_of_lt (Nat.lt_succ_of_lt (Heap.lt_size e))
  refine wpAny_bind (wpAny_holding (wpAny_call_entry slot_list_sort ⟨_, hoL, rfl⟩ entry_list_sort ?body (args_list_sort _)))
  case body =>
    refine lsort_own (s := { s with heap := H }) hoL h2 h64 (fun s1 Q hg hq => hk s1 Q (fun b o e => hg b o (off b o e) (keep b o e)) hq) (fun i j C s1 hi hj hg hC => hc i j C s1 hi hj (fun b o e => hg b o (off b o e) (keep b o e)) hC) o fun h' tk c hg he => ?_
    exact ⟨_, rfl, wpAny_pure ⟨_, rfl, k _ h' tk c (fun b o e => hg b o (off b o e) (keep b o e)) (Heap.get?_none_of_le (Nat.le_succ _)) he⟩⟩
end
end Mine

/-! Srt3 -/
namespace Mine

theorem ltL_irr : ∀ a, ltL a a = false
  | [] => rfl
  | x :: r => by unfold ltL; rw [if_pos rfl]; exact ltL_irr r
theorem ltL_asym : ∀ a b, ltL a b = true → ltL b a = false
  | [], [], h => by cases h
  | [], _ :: _, _ => rfl
  | _ :: _, [], h => by cases h
  | x :: xs, y :: ys, h => by
    unfold ltL at h ⊢
    by_cases e : x = y
    · rw [if_pos e] at h; rw [if_pos e.symm]; exact ltL_asym xs ys h
    · rw [if_neg e] at h; rw [if_neg (Ne.symm e)]
      rw [decide_eq_true_eq] at h; exact decide_eq_false (by omega)
theorem ltL_trans : ∀ a b c, ltL b a = false → ltL c b = false → ltL c a = false
  | [], b, [], _, _ => rfl
  | [], b, _ :: _, _, _ => rfl
  | _ :: _, [], _, h, _ => by cases h
  | _ :: _, _ :: _, [], _, h => by cases h
  | x :: xs, y :: ys, z :: zs, h1, h2 => by
    unfold ltL at h1 h2 ⊢
    by_cases e1 : y = x
    · rw [if_pos e1] at h1
      by_cases e2 : z = y
      · rw [if_pos e2] at h2
        rw [if_pos (e2.trans e1)]; exact ltL_trans xs ys zs h1 h2
      · rw [if_neg e2] at h2
        rw [if_neg (by omega)]
        have := of_decide_eq_false h2
        exact decide_eq_false (by omega)
    · rw [if_neg e1] at h1
      have k1 := of_decide_eq_false h1
      by_cases e2 : z = y
      · rw [if_neg (by omega)]; exact decide_eq_false (by omega)
      · rw [if_neg e2] at h2
        have k2 := of_decide_eq_false h2
        rw [if_neg (by omega)]; exact decide_eq_false (by omega)
theorem ltL_anti : ∀ a b, ltL a b = false → ltL b a = false → a = b
  | [], [], _, _ => rfl
  | [], _ :: _, h, _ => by cases h
  | _ :: _, [], _, h => by cases h
  | x :: xs, y :: ys, h1, h2 => by
    unfold ltL at h1 h2
    by_cases e : x = y
    · rw [if_pos e] at h1; rw [if_pos e.symm] at h2
      rw [e, ltL_anti xs ys h1 h2]
    · rw [if_neg e] at h1; rw [if_neg (Ne.symm e)] at h2
      have := of_decide_eq_false h1; have := of_decide_eq_false h2
      omega

theorem insT_perm (x : List Int) : ∀ l, (insT x l).Perm (x :: l)
  | [] => .refl _
  | y :: r => by
    unfold insT; split
    · exact ((insT_perm x r).cons y).trans (.swap x y r)
    · exact .refl _
theorem sortT_perm : ∀ l, (sortT l).Perm l
  | [] => .refl _
  | x :: r => (insT_perm x (sortT r)).trans ((sortT_perm r).cons x)
abbrev SrtT (l : List (List Int)) : Prop := l.Pairwise fun a b => ltL b a = false
theorem insT_sorted (x : List Int) : ∀ l, SrtT l → SrtT (insT x l)
  | [], _ => by simp [insT, SrtT]
  | y :: r, h => by
    obtain ⟨h1, h2⟩ := List.pairwise_cons.mp h
    unfold insT; split
    · rename_i hyx
      refine List.pairwise_cons.mpr ⟨fun z hz => ?_, insT_sorted x r h2⟩
      rcases List.mem_cons.mp ((insT_perm x r).mem_iff.mp hz) with rfl | hz
      · exact ltL_asym _ _ hyx
      · exact h1 z hz
    · rename_i hyx
      have hyx : ltL y x = false := by simpa using hyx
      refine List.pairwise_cons.mpr ⟨fun z hz => ?_, h⟩
      rcases List.mem_cons.mp hz with rfl | hz
      · exact hyx
      · exact ltL_trans _ _ _ hyx (h1 z hz)
theorem sortT_sorted : ∀ l, SrtT (sortT l)
  | [] => .nil
  | x :: r => insT_sorted x _ (sortT_sorted r)
theorem srtT_uniq : ∀ {a b : List (List Int)}, a.Perm b → SrtT a → SrtT b → a = b
  | [], b, p, _, _ => (List.nil_perm.mp p).symm
  | x :: a, [], p, _, _ => absurd p.length_eq (by simp)
  | x :: a, y :: b, p, ha, hb => by
    obtain ⟨ha1, ha2⟩ := List.pairwise_cons.mp ha
    obtain ⟨hb1, hb2⟩ := List.pairwise_cons.mp hb
    have h1 : x = y := by
      have hx : x ∈ y :: b := p.mem_iff.mp (.head _)
      have hy : y ∈ x :: a := p.mem_iff.mpr (.head _)
      rcases List.mem_cons.mp hx with h | hx
      · exact h
      · rcases List.mem_cons.mp hy with h | hy
        · exact h.symm
        · exact ltL_anti _ _ (hb1 x hx |> fun q => by
            have := ha1 y hy; exact this |> fun _ => by
              exact (ltL_anti x y (by
                cases e : ltL x y with
                | false => rfl
                | true => rw [hb1 x hx] at e; cases e) (ha1 y hy)) ▸ ltL_irr _) (by
            have e := ltL_anti x y (by
              cases e : ltL x y with
              | false => rfl
              | true => rw [hb1 x hx] at e; cases e) (ha1 y hy)
            rw [e]; exact ltL_irr _)
    subst h1
    rw [srtT_uniq (List.Perm.cons_inv p) ha2 hb2]

/-! ### the tuples of a list -/
theorem tupsI_eq : ∀ {xs : List D} {ts : List (List Int)}, tupsI xs = some ts → xs = ts.map fun t => .tuple (t.map .int)
  | [], ts, h => by cases h; rfl
  | d :: r, ts, h => by
    unfold tupsI at h
    rw [Option.bind_eq_some_iff] at h
    obtain ⟨t, ht, h⟩ := h
    rw [Option.map_eq_some_iff] at h
    obtain ⟨us, hu, rfl⟩ := h
    rw [List.map_cons, ← tupsI_eq hu]
    congr 1
    unfold tupI at ht
    split at ht
    · rename_i ds
      congr 1
      have go : ∀ {ds : List D} {t : List Int}, intsD ds = some t → ds = t.map .int := by
        intro ds
        induction ds with
        | nil => intro t h; cases h; rfl
        | cons d r ih =>
          intro t h
          cases d with
          | int i =>
            simp only [intsD, Option.map_eq_some_iff] at h
            obtain ⟨u, hu, rfl⟩ := h
            rw [List.map_cons, ← ih hu]
          | _ => simp [intsD] at h
      exact go ht
    · cases ht

theorem VRs.idx {F : Fz} {vs : List Value} {ds : List D} (h : VRs F vs ds) : ∀ {l : List Nat}, (∀ i ∈ l, i < vs.length) → VRs F (l.map fun i => vs.getD i Value.none) (l.map fun i => ds.getD i .none)
  | [], _ => .nil
  | i :: l, hl => by
    rw [List.map_cons, List.map_cons]
    refine .cons ?_ (VRs.idx h fun j hj => hl j (List.mem_cons_of_mem _ hj))
    have hi := hl i List.mem_cons_self
    have hi2 : i < ds.length := by rw [← h.length]; exact hi
    obtain ⟨v, h1, h2⟩ := h.get (j := i) (d := ds[i]) (by simp [hi2])
    rw [List.getD_eq_getElem?_getD, h1, List.getD_eq_getElem?_getD, List.getElem?_eq_getElem hi2]
    exact h2

section
variable {prog : Program} {w : World} {A : Around} {s : Shared}

theorem tup_at {F : Fz} {v : Value} {t : List Int} (h : VR F v (.tuple (t.map .int))) : ∃ a o items n, v = .ref a ∧ F a = some o ∧ o.cls = .type "tuple" ∧ o.data = .seq items n ∧ IntsAre items.toList t := by
  cases h with
  | tuple ha hc hd hr => exact ⟨_, _, _, _, rfl, ha, hc, hd, intsD_are hr (by
      clear hr hc hd ha
      induction t with
      | nil => rfl
      | cons x r ih => show (intsD (r.map .int)).map (x :: ·) = _; rw [ih]; rfl)⟩

theorem katTups_of {F : Fz} {hp : Heap} (fin : ∀ b o, F b = some o → hp.get? b = some o) : ∀ {vs : List Value} {ts : List (List Int)}, VRs F vs (ts.map fun t => .tuple (t.map .int)) → ts.all (fun t => !t.isEmpty) = true →
    ∃ fs, KatTups hp vs fs ∧ fs.length = vs.length ∧ ∀ v ∈ fs, ∃ i t, v = .int i t
  | [], [], _, _ => ⟨[], .nil, rfl, fun _ h => by cases h⟩
  | [], _ :: _, h, _ => by cases h
  | v :: vs, [], h, _ => by cases h
  | v :: vs, t :: ts, h, hne => by
    rw [List.map_cons] at h
    cases h with
    | cons r rs =>
      rw [List.all_cons, Bool.and_eq_true] at hne
      obtain ⟨fs, h1, h2, h3⟩ := katTups_of fin rs hne.2
      obtain ⟨a, o, items, n, rfl, hF, hc, hd, hi⟩ := tup_at r
      cases t with
      | nil => simp at hne
      | cons x t =>
        generalize hl : items.toList = l at hi
        cases hi with
        | cons i tk hr =>
          have h0 : items[0]? = some (.int x tk) := by rw [← Array.getElem?_toList, hl]; rfl
          exact ⟨.int x tk :: fs, .cons (fin _ _ hF) hc hd h0 h1, by simp [h2], fun u hu => by
            rcases List.mem_cons.mp hu with rfl | hu
            · exact ⟨_, _, rfl⟩
            · exact h3 u hu⟩

theorem katLex_ints {b : Bool} {Q : Bool → Shared → Prop} {ps : List Value} {xs : List Int} (h1 : IntsAre ps xs) : ∀ {qs : List Value} {ys : List Int} {i : Nat} {s : Shared}, IntsAre qs ys → (∀ tk, Q (ltL xs ys) { s with toks := tk }) → KatLex prog w A b (decide (ps.length < qs.length)) Q (ps.zip qs) i s := by
  induction h1 with
  | nil =>
    intro qs ys i s h2 h
    cases h2 with
    | nil => exact h s.toks
    | cons _ _ _ => exact h s.toks
  | cons x t r ih =>
    intro qs ys i s h2 h
    cases h2 with
    | nil => exact h s.toks
    | cons y u r' =>
      rw [List.zip_cons_cons]
      refine kat_cons (wpAny_eqBool_int ?_)
      by_cases e : x = y
      · subst e
        have : (x == x) = true := by simp
        rw [this]
        refine kat_yes ?_
        rw [List.length_cons, List.length_cons]
        have hd : ∀ m k : Nat, decide (m + 1 < k + 1) = decide (m < k) := fun m k => by simp
        rw [hd]
        refine ih r' fun tk => ?_
        have := h tk
        unfold ltL at this
        rwa [if_pos rfl] at this
      · have : (x == y) = false := by simpa using e
        rw [this]
        refine kat_no ?_
        have hq : ∀ tk, Q (decide (x < y)) { s with toks := tk } := fun tk => by
          have := h tk
          unfold ltL at this
          rwa [if_neg e] at this
        cases hb : (b && i == 0) with
        | true => exact oneLt_int (hq s.toks)
        | false => exact kat_one _ _ (lt_int (hq s.toks))

theorem ltL_wo (ts : List (List Int)) : WO fun i j => ltL (ts.getD i []) (ts.getD j []) := ⟨fun a b h => ltL_asym _ _ h, fun a b c h1 h2 => ltL_trans _ _ _ h1 h2⟩

theorem sortD_ok {xs : List D} {c : D} {v : Value} {F : Fz} (h : sortD xs = .ok c) (fin : ∀ b o, F b = some o → s.heap.get? b = some o) (r : VW F s.heap v (.list xs)) (wk : Bool) : EOk prog w A F s wk c (call (.builtin "sorted") [v]) := by
  unfold sortD at h
  split at h
  case h_2 => cases h
  rename_i ts hts
  split at h
  case isFalse => cases h
  rename_i hl
  cases h
  have hxs := tupsI_eq hts
  obtain ⟨a, ia, na, rfl, ea, qa⟩ := r.list fin
  have hlen : ia.toList.length = ts.length := by rw [qa.length, hxs, List.length_map]
  rw [hxs] at qa
  have hl' : s.heap.IsList a ia.toList.toArray := by
    have : ia.toList.toArray = ia := by simp
    rw [this]; exact ea.isl
  obtain ⟨fs, hf1, hf2, hf3⟩ := katTups_of fin qa hl.2.2
  refine .newList fin fun Q E k => sorted_own (κ := tuples' (Value.type "int" != Value.type "tuple")) (lt := fun i j => ltL (ts.getD i []) (ts.getD j [])) hl' (by omega) (by omega) (fun s1 Q1 hg hq => ?_) (fun i j C s1 hi hj hg hC => ?_) (ltL_wo ts) fun D h' tk cc hk h0 hD => ?_
  · obtain ⟨fs, hf1, hf2, hf3⟩ := katTups_of (hp := s1.heap) (fun b o e => hg b o (fin b o e)) qa hl.2.2
    exact kat_kind (T := .type "int") hf1 (by omega) (fun v hv => by obtain ⟨i, t, rfl⟩ := hf3 v hv; exact Looks.of_pure rfl) (by decide) (hq s1.toks)
  · unfold kas_ask
    have get : ∀ i, i < ia.toList.length → ∃ a o items n, ia.toList.getD i Value.none = .ref a ∧ s1.heap.get? a = some o ∧ o.cls = .type "tuple" ∧ o.data = .seq items n ∧ IntsAre items.toList (ts.getD i []) := fun i hi => by
      have hi2 : i < ts.length := by omega
      obtain ⟨v, h1, h2⟩ := qa.get (j := i) (d := .tuple ((ts.getD i []).map .int)) (by
        rw [List.getElem?_map, List.getElem?_eq_getElem hi2, List.getD_eq_getElem?_getD, List.getElem?_eq_getElem hi2]; rfl)
      obtain ⟨a, o, items, n, rfl, hF, hc, hd, hI⟩ := tup_at h2
      exact ⟨a, o, items, n, by rw [List.getD_eq_getElem?_getD, h1]; rfl, hg _ _ (fin _ _ hF), hc, hd, hI⟩
    obtain ⟨a1, o1, i1, n1, e1, g1, c1, d1, I1⟩ := get i hi
    obtain ⟨a2, o2, i2, n2, e2, g2, c2, d2, I2⟩ := get j hj
    rw [e1, e2]
    refine kat_lt g1 d1 g2 d2 ?_
    have := katLex_ints (prog := prog) (w := w) (A := A.in1.in1) (b := (Value.type "int" != Value.type "tuple")) (Q := C) (i := 0) (s := s1) I1 I2 hC
    rw [Array.length_toList, Array.length_toList] at this
    exact this
  · have o := ltL_wo ts
    obtain ⟨hsz, hpm, hup⟩ := sort_ok o (n := ts.length) (by omega) _ rfl
    have hmem : ∀ i ∈ (runT (fun i j => ltL (ts.getD i []) (ts.getD j [])) (kas_sort ts.length)).toList, i < ts.length := fun i hi => by
      have := hpm.mem_iff.mp (Array.mem_toList_iff.mp hi)
      simpa using this
    have hsrt : ((runT (fun i j => ltL (ts.getD i []) (ts.getD j [])) (kas_sort ts.length)).toList.map fun i => ts.getD i []) = sortT ts := by
      refine srtT_uniq ?_ ?_ (sortT_sorted ts)
      · have h1 : (runT (fun i j => ltL (ts.getD i []) (ts.getD j [])) (kas_sort ts.length)).toList.Perm (List.range ts.length) := by
          have := hpm.toList; simpa using this
        have h2 := h1.map fun i => ts.getD i []
        refine h2.trans ?_
        have : ((List.range ts.length).map fun i => ts.getD i []) = ts := by
          refine List.ext_getElem (by simp) fun i h1 h2 => ?_
          rw [List.getElem_map, List.getElem_range, List.getD_eq_getElem?_getD, List.getElem?_eq_getElem h2]; rfl
        rw [this]; exact (sortT_perm ts).symm
      · rw [SrtT, List.pairwise_map, List.pairwise_iff_getElem]
        intro i j hi hj hij
        have := hup i j hij (by rw [← hsz]; simpa using hj)
        rw [Array.length_toList] at hi hj
        have e : ∀ m, (hm : m < (runT (fun i j => ltL (ts.getD i []) (ts.getD j [])) (kas_sort ts.length)).size) → at' (runT (fun i j => ltL (ts.getD i []) (ts.getD j [])) (kas_sort ts.length)) m = (runT (fun i j => ltL (ts.getD i []) (ts.getD j [])) (kas_sort ts.length)).toList[m]'(by simpa using hm) := fun m hm => by
          unfold at'; rw [Array.getD_eq_getD_getElem?, Array.getElem?_eq_getElem hm]; simp
        rw [e i hi, e j hj] at this
        exact this
    refine k D h' tk _ cc hk h0 hD ?_
    show VRs F (outOf _ ia.toList) _
    unfold outOf
    rw [hlen]
    have hv := qa.idx (l := (runT (fun i j => ltL (ts.getD i []) (ts.getD j [])) (kas_sort ts.length)).toList) (fun i hi => by rw [hlen]; exact hmem i hi)
    have hd : ((runT (fun i j => ltL (ts.getD i []) (ts.getD j [])) (kas_sort ts.length)).toList.map fun i => (ts.map fun t => PyData.tuple (t.map .int)).getD i .none) = (sortT ts).map fun t => .tuple (t.map .int) := by
      rw [← hsrt, List.map_map]
      refine List.map_congr_left fun i hi => ?_
      have hi2 := hmem i hi
      show (ts.map fun t => PyData.tuple (t.map .int)).getD i .none = .tuple ((ts.getD i []).map .int)
      rw [List.getD_eq_getElem?_getD, List.getElem?_map, List.getD_eq_getElem?_getD, List.getElem?_eq_getElem hi2]; rfl
    rw [hd] at hv
    exact hv
end
end Mine

/-! Fns -/
namespace Mine

theorem insI_perm (x : Int) : ∀ l, (insI x l).Perm (x :: l)
  | [] => .refl _
  | y :: r => by
    unfold insI; split
    · exact .refl _
    · exact ((insI_perm x r).cons y).trans (.swap x y r)
theorem sortI_perm : ∀ l, (sortI l).Perm l
  | [] => .refl _
  | x :: r => (insI_perm x (sortI r)).trans ((sortI_perm r).cons x)
theorem insI_sorted (x : Int) : ∀ l : List Int, l.Pairwise (· ≤ ·) → (insI x l).Pairwise (· ≤ ·)
  | [], _ => by simp [insI]
  | y :: r, h => by
    unfold insI; split
    · rename_i hxy
      refine List.pairwise_cons.mpr ⟨fun z hz => ?_, h⟩
      rcases List.mem_cons.mp hz with rfl | hz
      · exact hxy
      · exact Int.le_trans hxy ((List.pairwise_cons.mp h).1 z hz)
    · rename_i hxy
      refine List.pairwise_cons.mpr ⟨fun z hz => ?_, insI_sorted x r (List.pairwise_cons.mp h).2⟩
      rcases List.mem_cons.mp ((insI_perm x r).mem_iff.mp hz) with rfl | hz
      · omega
      · exact (List.pairwise_cons.mp h).1 z hz
theorem sortI_sorted : ∀ l, (sortI l).Pairwise (· ≤ ·)
  | [] => .nil
  | x :: r => insI_sorted x _ (sortI_sorted r)
theorem sorted_uniq : ∀ {a b : List Int}, a.Perm b → a.Pairwise (· ≤ ·) → b.Pairwise (· ≤ ·) → a = b
  | [], b, p, _, _ => (List.nil_perm.mp p).symm
  | x :: a, [], p, _, _ => absurd p.length_eq (by simp)
  | x :: a, y :: b, p, ha, hb => by
    have h1 : x = y := by
      have hx : x ∈ y :: b := p.mem_iff.mp (.head _)
      have hy : y ∈ x :: a := p.mem_iff.mpr (.head _)
      rcases List.mem_cons.mp hx with h | hx
      · exact h
      · rcases List.mem_cons.mp hy with h | hy
        · exact h.symm
        · have := (List.pairwise_cons.mp hb).1 x hx
          have := (List.pairwise_cons.mp ha).1 y hy
          omega
    subst h1
    rw [sorted_uniq ((List.perm_cons x).mp p) (List.pairwise_cons.mp ha).2 (List.pairwise_cons.mp hb).2]

theorem maxI_spec : ∀ (ns : List Int) (m : Int), (maxI m ns = m ∨ maxI m ns ∈ ns) ∧ m ≤ maxI m ns ∧ ∀ a ∈ ns, a ≤ maxI m ns
  | [], m => ⟨.inl rfl, Int.le_refl _, by simp⟩
  | x :: r, m => by
    unfold maxI
    by_cases hc : m < x
    · rw [if_pos hc]
      obtain ⟨h1, h2, h3⟩ := maxI_spec r x
      refine ⟨.inr (h1.elim (fun q => by rw [q]; exact .head _) fun q => .tail _ q), by omega, fun a ha => ?_⟩
      rcases List.mem_cons.mp ha with rfl | ha
      · exact h2
      · exact h3 a ha
    · rw [if_neg hc]
      obtain ⟨h1, h2, h3⟩ := maxI_spec r m
      refine ⟨h1.elim .inl fun q => .inr (.tail _ q), h2, fun a ha => ?_⟩
      rcases List.mem_cons.mp ha with rfl | ha
      · omega
      · exact h3 a ha
theorem minI_spec : ∀ (ns : List Int) (m : Int), (minI m ns = m ∨ minI m ns ∈ ns) ∧ minI m ns ≤ m ∧ ∀ a ∈ ns, minI m ns ≤ a
  | [], m => ⟨.inl rfl, Int.le_refl _, by simp⟩
  | x :: r, m => by
    unfold minI
    by_cases hc : x < m
    · rw [if_pos hc]
      obtain ⟨h1, h2, h3⟩ := minI_spec r x
      refine ⟨.inr (h1.elim (fun q => by rw [q]; exact .head _) fun q => .tail _ q), by omega, fun a ha => ?_⟩
      rcases List.mem_cons.mp ha with rfl | ha
      · exact h2
      · exact h3 a ha
    · rw [if_neg hc]
      obtain ⟨h1, h2, h3⟩ := minI_spec r m
      refine ⟨h1.elim .inl fun q => .inr (.tail _ q), h2, fun a ha => ?_⟩
      rcases List.mem_cons.mp ha with rfl | ha
      · omega
      · exact h3 a ha

theorem ints_items {vs : List Value} {ns : List Int} (h : IntsAre vs ns) : ∃ xs : Array (Int × Tok), vs.toArray = intItems xs ∧ xs.toList.map (·.1) = ns := by
  induction h with
  | nil => exact ⟨#[], by simp [intItems], rfl⟩
  | @cons n t vs ns r ih =>
    obtain ⟨xs, e, q⟩ := ih
    refine ⟨((n, t) :: xs.toList).toArray, ?_, by simp [q]⟩
    have e' := congrArg Array.toList e
    simp only [intItems, Array.toList_map] at e' ⊢
    apply Array.toList_inj.mp
    simp [e']

section
variable {prog : Program} {w : World} {A : Around} {F : Fz} {s : Shared}

theorem plain_toArray {a items n} {h : Heap} (e : LO h a items n) : h.IsList a items.toList.toArray := by
  have : items.toList.toArray = items := by simp
  rw [this]; exact e.isl

theorem max_any {l : Addr} {items : Array Value} {n : Int} {ns : List Int} {Q : Value → Shared → Prop} {E : Value → Shared → Prop} (hh : A.handled = none) (hl : s.heap.IsList l items) (hi : IntsAre items.toList (n :: ns))
    (h : ∀ h' tk t, (∀ b o, s.heap.get? b = some o → h'.get? b = some o) → Q (.int (maxI n ns) t) { s with heap := h', toks := tk }) : wpAny (model prog w) A (call (.builtin "max") [.ref l]) Q E s := by
  obtain ⟨xs, hx, hn⟩ := ints_items hi
  have hx' : items = intItems xs := by rw [← hx]
  subst hx'
  have hlen : xs.size = ns.length + 1 := by have := congrArg List.length hn; simpa using this
  refine max_intList hh hl (by omega) fun v h' tk hv hk => ?_
  obtain ⟨t, rfl⟩ := intItems_at hv
  obtain ⟨h1, h2⟩ := argBest_gt (numAt xs) (xs.size - 1)
  have m1 : numAt xs (argBest (fun i j => decide (numAt xs i > numAt xs j)) (xs.size - 1)) ∈ n :: ns := by
    rw [numAt_eq, ← hn]; exact getD_mem (by rw [List.length_map, Array.length_toList]; omega)
  have m2 : ∀ a ∈ n :: ns, a ≤ numAt xs (argBest (fun i j => decide (numAt xs i > numAt xs j)) (xs.size - 1)) := fun a ha => by
    rw [← hn] at ha
    obtain ⟨j, hj, rfl⟩ := mem_getD ha
    rw [List.length_map, Array.length_toList] at hj
    rw [← numAt_eq]; exact h2 j (by omega)
  obtain ⟨p1, p2, p3⟩ := maxI_spec ns n
  have e : numAt xs (argBest (fun i j => decide (numAt xs i > numAt xs j)) (xs.size - 1)) = maxI n ns := by
    have q1 : numAt xs (argBest (fun i j => decide (numAt xs i > numAt xs j)) (xs.size - 1)) ≤ maxI n ns := by
      rcases List.mem_cons.mp m1 with e | e
      · rw [e]; exact p2
      · exact p3 _ e
    have q2 := m2 (maxI n ns) (p1.elim (fun q => by rw [q]; exact .head _) fun q => .tail _ q)
    omega
  rw [e]
  exact h h' tk t hk
theorem min_any {l : Addr} {items : Array Value} {n : Int} {ns : List Int} {Q : Value → Shared → Prop} {E : Value → Shared → Prop} (hh : A.handled = none) (hl : s.heap.IsList l items) (hi : IntsAre items.toList (n :: ns))
    (h : ∀ h' tk t, (∀ b o, s.heap.get? b = some o → h'.get? b = some o) → Q (.int (minI n ns) t) { s with heap := h', toks := tk }) : wpAny (model prog w) A (call (.builtin "min") [.ref l]) Q E s := by
  obtain ⟨xs, hx, hn⟩ := ints_items hi
  have hx' : items = intItems xs := by rw [← hx]
  subst hx'
  have hlen : xs.size = ns.length + 1 := by have := congrArg List.length hn; simpa using this
  refine min_intList hh hl (by omega) fun v h' tk hv hk => ?_
  obtain ⟨t, rfl⟩ := intItems_at hv
  obtain ⟨h1, h2⟩ := argBest_lt (numAt xs) (xs.size - 1)
  have m1 : numAt xs (argBest (fun i j => decide (numAt xs i < numAt xs j)) (xs.size - 1)) ∈ n :: ns := by
    rw [numAt_eq, ← hn]; exact getD_mem (by rw [List.length_map, Array.length_toList]; omega)
  have m2 : ∀ a ∈ n :: ns, numAt xs (argBest (fun i j => decide (numAt xs i < numAt xs j)) (xs.size - 1)) ≤ a := fun a ha => by
    rw [← hn] at ha
    obtain ⟨j, hj, rfl⟩ := mem_getD ha
    rw [List.length_map, Array.length_toList] at hj
    rw [← numAt_eq]; exact h2 j (by omega)
  obtain ⟨p1, p2, p3⟩ := minI_spec ns n
  have e : numAt xs (argBest (fun i j => decide (numAt xs i < numAt xs j)) (xs.size - 1)) = minI n ns := by
    have q1 : minI n ns ≤ numAt xs (argBest (fun i j => decide (numAt xs i < numAt xs j)) (xs.size - 1)) := by
      rcases List.mem_cons.mp m1 with e | e
      · rw [e]; exact p2
      · exact p3 _ e
    have q2 := m2 (minI n ns) (p1.elim (fun q => by rw [q]; exact .head _) fun q => .tail _ q)
    omega
  rw [e]
  exact h h' tk t hk

theorem fn_ok {id : String} {d c : D} {v : Value} (h : fnD id d = .ok c) (fin : ∀ b o, F b = some o → s.heap.get? b = some o) (r : VW F s.heap v d) (hh : A.handled = none) (wk : Bool) :
    EOk prog w A F s wk c (call (.builtin id) [v]) := by
  unfold fnD at h
  split at h
  · split at h
    · rename_i xs hm
      cases h
      obtain ⟨a, ia, na, rfl, ea, qa⟩ := r.list fin
      have l1 := qa.length
      rw [Array.length_toList] at l1
      rw [lim_eq] at hm
      rw [← l1]
      exact .now fin fun Q E k => len_list ea.isl (by omega) (k _ _ _ (fun _ _ e => e) (.int _ _))
    · cases h
  · split at h
    · rename_i xs hm
      cases h
      obtain ⟨a, o, ia, na, rfl, ea, ca, da, qa⟩ := r.tup fin
      have l1 := qa.length
      rw [Array.length_toList] at l1
      rw [lim_eq] at hm
      rw [← l1]
      exact .now fin fun Q E k => len_tuple ⟨_, ea, ca, _, da⟩ (by omega) (k _ _ _ (fun _ _ e => e) (.int _ _))
    · cases h
  · split at h
    · rename_i ns hi
      cases h
      obtain ⟨a, ia, na, rfl, ea, qa⟩ := r.list fin
      obtain ⟨xs, hx, hn⟩ := ints_items (intsD_are qa hi)
      have hl := plain_toArray ea
      rw [hx] at hl
      refine fun Q E k => sum_intListG hh hl fun h' tk t' hk => ?_
      have e : preSum (numAt xs) xs.size = ns.sum := by
        rw [preSum_eq, ← hn, List.take_of_length_le (by simp)]
      rw [e]
      exact k _ _ tk _ (Ext.of_keep fin hk) (.frz (.int _ _)) fun _ => .int _ _
    · cases h
  · cases h; obtain ⟨t, rfl⟩ := r.intv
    exact .now fin fun Q E k => call_abs_int fun u tk => k _ _ _ (fun _ _ e => e) (.int _ _)
  · split at h
    · rename_i n ns hi
      cases h
      obtain ⟨a, ia, na, rfl, ea, qa⟩ := r.list fin
      refine fun Q E k => max_any hh ea.isl (intsD_are qa hi) fun h' tk t hk => ?_
      exact k _ _ tk _ (Ext.of_keep fin hk) (.frz (.int _ _)) fun _ => .int _ _
    · cases h
  · split at h
    · rename_i n ns hi
      cases h
      obtain ⟨a, ia, na, rfl, ea, qa⟩ := r.list fin
      refine fun Q E k => min_any hh ea.isl (intsD_are qa hi) fun h' tk t hk => ?_
      exact k _ _ tk _ (Ext.of_keep fin hk) (.frz (.int _ _)) fun _ => .int _ _
    · cases h
  · split at h
    · rename_i ns hi
      split at h
      · rename_i h64
        cases h
        obtain ⟨a, ia, na, rfl, ea, qa⟩ := r.list fin
        have hI := intsD_are qa hi
        refine .newList fin fun Q E k => sorted_ints (plain_toArray ea) hI (by rw [hI.length]; exact h64) fun out ns' ho hp hs => ?_
        obtain ⟨e, he⟩ := sortedAll_at s.heap ia.toList out
        have : ns' = sortI ns := sorted_uniq (hp.trans (sortI_perm ns).symm) hs (sortI_sorted ns)
        subst this
        exact k _ _ s.toks _ _ (fun _ _ => sortedAll_old) (Heap.get?_none_of_le (Nat.le_succ _)) he (vrs_ints ho)
      · cases h
    · exact sortD_ok h fin r wk
  · cases h

theorem rev_ok {id : String} {d c : D} {v : Value} (h : revD id d = .ok c) (fin : ∀ b o, F b = some o → s.heap.get? b = some o) (r : VW F s.heap v d) (wk : Bool) :
    EOk prog w A F s wk c (call (.builtin id) [v] [(Str.ofString "reverse", .bool true)]) := by
  unfold revD at h
  split at h
  · split at h
    · rename_i ns hi
      split at h
      · rename_i h64
        cases h
        obtain ⟨a, ia, na, rfl, ea, qa⟩ := r.list fin
        have hI := intsD_are qa hi
        refine .newList fin fun Q E k => sorted_ints_rev (plain_toArray ea) hI (by rw [hI.length]; exact h64) fun out ns' ho hp hs => ?_
        obtain ⟨e, he⟩ := sortedAll_at s.heap ia.toList out
        have hs' : ns'.Pairwise (· ≥ ·) := hs
        have : ns'.reverse = sortI ns := sorted_uniq (((List.reverse_perm ns').trans hp).trans (sortI_perm ns).symm) (List.pairwise_reverse.mpr hs') (sortI_sorted ns)
        have : ns' = (sortI ns).reverse := by rw [← this, List.reverse_reverse]
        subst this
        exact k _ _ s.toks _ _ (fun _ _ => sortedAll_old) (Heap.get?_none_of_le (Nat.le_succ _)) he (vrs_ints ho)
      · cases h
    · cases h
  · cases h

theorem ty_ok {T : String} {d c : D} {v : Value} (h : tyD T d = .ok c) (fin : ∀ b o, F b = some o → s.heap.get? b = some o) (r : VW F s.heap v d) (wk : Bool) :
    EOk prog w A F s wk c (call (.type T) [v]) := by
  unfold tyD at h
  split at h
  · cases h; obtain ⟨t, rfl⟩ := r.intv
    exact .now fin fun Q E k => call_int_int (k _ _ s.toks (fun _ _ e => e) (.int _ _))
  · split at h
    · rename_i xs hm
      cases h
      obtain ⟨a, ia, na, rfl, ea, qa⟩ := r.list fin
      have l1 := qa.length
      rw [Array.length_toList] at l1
      rw [lim_eq] at hm
      obtain ⟨oo, eo, co, dd⟩ := ea
      exact .newList fin fun Q E k => call_list_seq a (.inl rfl) eo co dd (fun h' c' hk he => k _ _ s.toks _ _ hk (none_size _) he qa) (by rw [sizeLine_eq]; omega)
    · cases h
  · cases h

theorem is_ok {T : String} {d : D} {c : Bool} {v : Value} (h : isD T d = .ok c) (fin : ∀ b o, F b = some o → s.heap.get? b = some o) (r : VW F s.heap v d) (wk : Bool) :
    EOk prog w A F s wk (.bool c) (call (.builtin "isinstance") [v, .type T]) := by
  unfold isD at h
  split at h
  · cases h
    obtain ⟨a, ia, na, rfl, ea, qa⟩ := r.list fin
    obtain ⟨oo, eo, co, dd⟩ := ea
    exact .now fin fun Q E k => IsiPair.list_list eo co (k _ _ s.toks (fun _ _ e => e) (.bool _))
  · cases h; obtain ⟨t, rfl⟩ := r.intv
    exact .now fin fun Q E k => IsiPair.int_int (k _ _ s.toks (fun _ _ e => e) (.bool _))
  · cases h; obtain ⟨t, rfl⟩ := r.intv
    exact .now fin fun Q E k => IsiPair.int_bool (k _ _ _ (fun _ _ e => e) (.bool _))
  · cases h

theorem seqIndex_bound {k : Int} {n j : Nat} (h : seqIndex? k n = some j) (hn : n ≤ 1048576) : -(2 ^ 63) ≤ k ∧ k < 2 ^ 63 := by
  unfold seqIndex? at h
  dsimp only at h
  by_cases hk : k < 0
  · simp only [hk, if_true] at h
    split at h
    · rename_i hc
      rw [Bool.and_eq_true, decide_eq_true_eq, decide_eq_true_eq] at hc
      omega
    · cases h
  · simp only [hk, if_false] at h
    split at h
    · rename_i hc
      rw [Bool.and_eq_true, decide_eq_true_eq, decide_eq_true_eq] at hc
      omega
    · cases h

theorem idx_ok {d c : D} {k : Int} {t : Tok} {v : Value} (h : idxD d k = .ok c) (fin : ∀ b o, F b = some o → s.heap.get? b = some o) (r : VW F s.heap v d) (wk : Bool) :
    EOk prog w A F s wk c (getItem v (.int k t)) := by
  unfold idxD at h
  split at h
  · split at h
    · rename_i xs hm
      rw [lim_eq] at hm
      split at h
      · rename_i j hj
        split at h
        · rename_i x hx
          cases h
          obtain ⟨a, ia, na, rfl, ea, qa⟩ := r.list fin
          have l1 := qa.length
          rw [Array.length_toList] at l1
          have hb := seqIndex_bound hj hm
          obtain ⟨y, hy, ry⟩ := qa.get hx
          rw [Array.getElem?_toList] at hy
          refine .now fin fun Q E kk => ?_
          unfold seqIndex? at hj
          dsimp only at hj
          by_cases hk : k < 0
          · rw [if_pos hk] at hj
            split at hj
            · rename_i hc
              rw [Bool.and_eq_true, decide_eq_true_eq, decide_eq_true_eq] at hc
              cases hj
              exact wpAny_getItem_list_neg ea.isl hk (by omega) hb.1 (by rw [l1]; exact hy) (kk _ _ s.toks (fun _ _ e => e) ry)
            · cases hj
          · rw [if_neg hk] at hj
            split at hj
            · rename_i hc
              cases hj
              exact wpAny_getItem_list ea.isl (by omega) hb.2 hy (kk _ _ s.toks (fun _ _ e => e) ry)
            · cases hj
        · cases h
      · cases h
    · cases h
  · split at h
    · rename_i xs hm
      rw [lim_eq] at hm
      split at h
      · rename_i j hj
        split at h
        · rename_i x hx
          cases h
          obtain ⟨a, o, ia, na, rfl, ea, ca, da, qa⟩ := r.tup fin
          have l1 := qa.length
          rw [Array.length_toList] at l1
          have hb := seqIndex_bound hj hm
          obtain ⟨y, hy, ry⟩ := qa.get hx
          rw [Array.getElem?_toList] at hy
          exact .now fin fun Q E kk => PyProof.Rows.getItem_tuple ⟨_, ea, ca, _, da⟩ hb.1 hb.2 (by rw [l1]; exact hj) hy (kk _ _ s.toks (fun _ _ e => e) ry)
        · cases h
      · cases h
    · cases h
  · cases h
end
end Mine

/-! Ex1 -/
namespace Mine

theorem evs_cons {f : Expr → Out D} {e : Expr} {r : List Expr} {ds : List D} (h : evs f (e :: r) = .ok ds) : (∀ x p, e ≠ .Starred x p) ∧ ∃ d ds', f e = .ok d ∧ evs f r = .ok ds' ∧ ds = d :: ds' := by
  unfold evs at h
  split at h
  · rename_i heq; cases heq
  · cases h
  · rename_i e' r' hns heq
    cases heq
    obtain ⟨d, hd, h2⟩ := Out.bind_ok h
    obtain ⟨ds', hds, h3⟩ := Out.bind_ok h2
    cases h3
    exact ⟨fun x p q => hns x p q, d, ds', hd, hds, rfl⟩

theorem starEach_cons {e : Expr} {r : List Expr} {env : Env} (h : ∀ x p, e ≠ .Starred x p) : starEach (e :: r) env = (false, eval e env) :: starEach r env := by
  cases e <;> first | rfl | exact absurd rfl (h _ _)

inductive VWs (F : Fz) (h : Heap) : List Value → List D → Prop
  | nil : VWs F h [] []
  | cons {v d vs ds} : VW F h v d → VWs F h vs ds → VWs F h (v :: vs) (d :: ds)
theorem VWs.ext {F F' : Fz} {h h' : Heap} (x : Ext F h F' h') : ∀ {vs ds}, VWs F h vs ds → VWs F' h' vs ds
  | _, _, .nil => .nil
  | _, _, .cons a r => .cons (a.ext x) (VWs.ext x r)

theorem ext_ER {K mg mb sc env} {F F' : Fz} {ρ} {s : Shared} {h' : Heap} {tk} (R : ER K mg mb sc env F ρ s.heap) (x : Ext F s.heap F' h') : ER K mg mb sc env F' ρ ({ s with heap := h', toks := tk } : Shared).heap := R.ext x

theorem topD_vr {K : Frag} {F : Fz} (kf : KF K F) : ∀ (n : Nat) {v : Value} {d : D}, topD K n v = some d → VR F v d
  | n, v, d, h => by
    unfold topD at h
    split at h
    · cases h; exact .none
    · cases h; exact .bool _
    · cases h; exact .int _ _
    · cases h; exact .str _ _
    · rename_i m a
      split at h
      · rename_i dd xs nn sl hk
        obtain ⟨ds, hds, rfl⟩ := Option.map_eq_some_iff.mp h
        have all : ∀ (l : List Value) (ds : List D), (l.map (topD K m)).foldr (fun o r => o.bind fun x => r.map (x :: ·)) (some []) = some ds → VRs F l ds := by
          intro l
          induction l with
          | nil => intro ds h; cases h; exact .nil
          | cons y l ih =>
            intro ds h
            rw [List.map_cons, List.foldr_cons] at h
            obtain ⟨d1, h1, h2⟩ := Option.bind_eq_some_iff.mp h
            obtain ⟨d2, h3, rfl⟩ := Option.map_eq_some_iff.mp h2
            exact .cons (topD_vr kf m h1) (ih _ h3)
        exact .tuple (kf _ _ hk rfl) rfl rfl (all _ _ hds)
      · cases h
    · cases h
termination_by n => n

section
variable {prog : Program} {w : World} {A : Around} {F : Fz} {s : Shared} {K : Frag} {mg mb : Str → Option Value} {sc : Scope} {env : Env} {ρ : Rho}

theorem kind_of {x : Str} {k : NameKind} (R : ER K mg mb sc env F ρ s.heap) (h : sc.names.lookup x = some k) (hk : k ≠ .free) : env.kindOf x = some k := by
  rcases R.kinds x with e | ⟨e, _⟩
  · rw [e, h]
  · rw [h] at e; cases e; exact absurd rfl hk

theorem name_ok {x : Str} {pos : Pos} {wk : Bool} {d : D} (h : nameD K sc ρ wk x = .ok d) (R : ER K mg mb sc env F ρ s.heap) : EOk prog w A F s wk d (eval (.Name x pos) env) := by
  unfold nameD at h
  split at h
  · cases h
  · rename_i hdb
    rw [Bool.or_eq_true, not_or] at hdb
    have hdb' : (x == ("__debug__" : Str)) = false := by simpa using hdb.1
    have hcd' : (x == ("__classdict__" : Str)) = false := by simpa using hdb.2
    split at h
    · rename_i hv
      split at h
      · rename_i o d' hρ
        split at h
        · cases h
        · rename_i how
          cases h
          obtain ⟨v, sl, vw, vr⟩ := R.vars _ _ _ hρ hv
          refine fun Q E k => ?_
          have fin : Q v s := k v s.heap s.toks F (Ext.refl R.fin) vw (fun hw => vr (by subst hw; simpa using how))
          rcases sl with ⟨hk, m, hn, hm⟩ | ⟨hk, c, hc, hi⟩
          · exact wpAny_Name (wpAny_loadName_local R.kind hk hn hm fin) hdb'
          · rcases hk with hk | hk
            · exact wpAny_Name (wpAny_loadName_cell R.kind hk hc hi fin) hdb'
            · exact wpAny_Name (wpAny_loadName_free R.kind hk hc hi fin hcd') hdb'
      · cases h
    · split at h
      · rename_i hg
        have hg' : sc.names.lookup x = some .globalImplicit := by simpa using hg
        split at h
        · rename_i v hn
          split at h
          · rename_i d' ht
            cases h
            have vr := topD_vr R.kf 4 ht
            refine fun Q E k => PySem.Calls.Name_function_global R.kind (kind_of R hg' (by decide)) ?_ hdb'
            refine PySem.Calls.loadGlobal_global (mg := mg) (by rw [R.gl]; exact R.glb.g) (mg_of R.glb.kin R.glb.g hn) ?_
            exact k v s.heap s.toks F (Ext.refl R.fin) (.frz vr) fun _ => vr
          · cases h
        · cases h
      · cases h

theorem callee_ok {f : Str} {pos : Pos} {c : Callee} (h : calleeD K sc f = some c) (R : ER K mg mb sc env F ρ s.heap) {Q : Value → Shared → Prop} {E : Value → Shared → Prop}
    (k : ∀ v, (match c with
      | .fn => ∃ a, v = .ref a ∧ nsIn K mainGlobals f = some (some (.ref a))
      | .built id => v = .builtin id
      | .ty T => v = .type T) → Q v s) : wpAny (model prog w) A (eval (.Name f pos) env) Q E s := by
  unfold calleeD at h
  split at h
  · cases h
  · rename_i hnd
    rw [Bool.or_eq_true, not_or] at hnd
    have hdb' : (f == ("__debug__" : Str)) = false := by simpa using hnd.1
    have hnm : f ≠ "__name__" := by simpa using hnd.2
    split at h
    · rename_i hg
      have hg' : sc.names.lookup f = some .globalImplicit := by simpa using hg
      refine PySem.Calls.Name_function_global R.kind (kind_of R hg' (by decide)) ?_ hdb'
      split at h
      · rename_i a hn
        cases h
        exact PySem.Calls.loadGlobal_global (mg := mg) (by rw [R.gl]; exact R.glb.g) (mg_of R.glb.kin R.glb.g hn) (k _ ⟨a, rfl, hn⟩)
      · rename_i hn
        have hmb : ∀ v, bootBuiltins f = some v → mb f = some v := fun v e => (R.glb.built f hnm).trans e
        split at h
        · rename_i id hb
          cases h
          exact PySem.Calls.loadGlobal_builtin (mg := mg) (mb := mb) (by rw [R.gl]; exact R.glb.g) (mg_none_of R.glb.kin R.glb.g hn) (by rw [R.bu]; exact R.glb.b) (hmb _ hb) (k _ rfl)
        · rename_i T hb
          cases h
          exact PySem.Calls.loadGlobal_builtin (mg := mg) (mb := mb) (by rw [R.gl]; exact R.glb.g) (mg_none_of R.glb.kin R.glb.g hn) (by rw [R.bu]; exact R.glb.b) (hmb _ hb) (k _ rfl)
        · cases h
      · cases h
    · cases h
end

section
variable {prog : Program} {w : World} {K : Frag} {mg mb : Str → Option Value} {i : In} {n : Nat}

/-- arguments, displays -/
theorem evs_ok (hi : SoundE K mg mb prog w i n) {sc : Scope} {ρ : Rho} {wk : Bool} : ∀ {es : List Expr} {ds : List D}, evs (i.ev sc ρ wk) es = .ok ds → ∀ {A : Around} {env : Env} {F : Fz} {s : Shared} {pos : Pos} {Q : List Value → Shared → Prop} {E : Value → Shared → Prop},
    AOk A n → ER K mg mb sc env F ρ s.heap →
    (∀ vs h' tk F', Ext F s.heap F' h' → VWs F' h' vs ds → (wk = false → VRs F' vs ds) → Q vs { s with heap := h', toks := tk }) → wpAny (model prog w) A (spliced (backTo pos (starEach es env))) Q E s
  | [], ds, h, A, env, F, s, pos, Q, E, hA, R, k => by
    cases h
    exact PySem.Calls.spliced_nil (k [] s.heap s.toks F (Ext.refl R.fin) .nil fun _ => .nil)
  | e :: r, ds, h, A, env, F, s, pos, Q, E, hA, R, k => by
    obtain ⟨hns, d, ds', hd, hds, rfl⟩ := evs_cons h
    rw [starEach_cons hns]
    refine PySem.Calls.spliced_cons (hi _ _ _ _ _ hd A env F s hA R _ _ fun v h₁ tk₁ F₁ x₁ w₁ r₁ => ?_)
    refine evs_ok hi hds hA (ext_ER R x₁) fun vs h₂ tk₂ F₂ x₂ w₂ r₂ => ?_
    exact k _ h₂ tk₂ F₂ (x₁.trans x₂) (.cons (w₁.ext x₂) w₂) fun hw => .cons ((r₁ hw).mono x₂.mono) (r₂ hw)
end

end Mine

/-! Ex2 -/
namespace Mine

section
variable {prog : Program} {w : World} {A : Around} {F : Fz} {s : Shared}

def SrcOk (prog : Program) (w : World) (A : Around) (F : Fz) (s : Shared) (wk : Bool) (ds : List D) (t : Sem Value) : Prop :=
  ∀ (Q : Value → Shared → Prop) (E : Value → Shared → Prop),
    (∀ I fp wr P St h' tk F', Ext F s.heap F' h' → Walks prog w A I fp wr ds.length P St → St 0 h' → (∀ b ∈ fp, b < h'.objs.size) → (∀ b ∈ wr, b = I) → F' I = none → s.heap.get? I = none → (∀ j h, St j h → ∃ o, h.get? I = some o) →
      (∀ b ∈ fp, b = I ∨ ((∃ o, h'.get? b = some o) ∧ (wk = false → ∃ o, F' b = some o))) → (∀ j v, P j v → ∃ d, ds[j]? = some d ∧ VR F' v d) →
      Q (.ref I) { s with heap := h', toks := tk }) → wpAny (model prog w) A t (fun x s₁ => wpAny (model prog w) A (pyIter x) Q E s₁) E s

theorem src_list {wk : Bool} {ds : List D} {t : Sem Value} (hh : A.handled = none) (h : EOk prog w A F s wk (.list ds) t) : SrcOk prog w A F s wk ds t := fun Q E k => by
  refine h _ _ fun v h' tk F' x vw vr => ?_
  obtain ⟨a, items, n, rfl, ea, qa⟩ := vw.list x.fin
  have l1 := qa.length
  rw [Array.length_toList] at l1
  have ha : a ≠ h'.objs.size := Nat.ne_of_lt ea.lt
  refine wpAny_pyIter_list ea.isl ?_
  have x' : Ext F' h' F' (h'.push { cls := .type "list_iterator", data := .fields #[.ref a, .int 0 0] }) := Ext.of_keep x.fin fun _ _ e => Heap.get?_push_of_some _ e
  refine k h'.objs.size [h'.objs.size, a] [h'.objs.size] _ _ _ tk F' (x.trans x') (l1 ▸ Walks.list hh _ a ha items) ⟨⟨_, Heap.get?_push_size _ rfl, rfl, rfl⟩, ea.isl.push _⟩ ?_ ?_ (fresh_F x.fin (none_size _)) (none_back x.keep (none_size _)) (fun _ _ st => by obtain ⟨⟨o, ho, _⟩, _⟩ := st; exact ⟨o, ho⟩) ?_ ?_
  · intro b hb
    rw [Heap.size_push]
    rcases List.mem_cons.mp hb with rfl | hb
    · exact Nat.lt_succ_self _
    · rw [List.mem_singleton.mp hb]; exact Nat.lt_succ_of_lt ea.lt
  · intro b hb; exact List.mem_singleton.mp hb
  · intro b hb
    rcases List.mem_cons.mp hb with rfl | hb
    · exact .inl rfl
    · rw [List.mem_singleton.mp hb]
      refine .inr ⟨(by obtain ⟨oo, eo, _⟩ := ea; exact ⟨_, Heap.get?_push_of_some _ eo⟩), fun hw => ?_⟩
      cases vr hw with
      | list hF _ _ _ => exact ⟨_, hF⟩
  · intro j v hj
    have hjl : j < ds.length := by
      rw [← l1]; exact (Array.getElem?_eq_some_iff.mp hj).1
    obtain ⟨v', hv', r⟩ := qa.get (j := j) (d := ds[j]) (by simp [hjl])
    rw [Array.getElem?_toList, hj] at hv'
    cases hv'
    exact ⟨ds[j], by simp [hjl], r⟩

theorem src_tuple {wk : Bool} {ds : List D} {t : Sem Value} (hh : A.handled = none) (h : EOk prog w A F s wk (.tuple ds) t) : SrcOk prog w A F s wk ds t := fun Q E k => by
  refine h _ _ fun v h' tk F' x vw vr => ?_
  obtain ⟨a, o, items, n, rfl, ea, ca, da, qa⟩ := vw.tup x.fin
  have l1 := qa.length
  rw [Array.length_toList] at l1
  have ha : a ≠ h'.objs.size := Nat.ne_of_lt (Heap.lt_size ea)
  have ht : h'.IsTuple a items := ⟨_, ea, ca, _, da⟩
  refine wpAny_pyIter_tuple ht ?_
  have x' : Ext F' h' F' (h'.push { cls := .type "tuple_iterator", data := .fields #[.ref a, .int 0 0] }) := Ext.of_keep x.fin fun _ _ e => Heap.get?_push_of_some _ e
  refine k h'.objs.size [h'.objs.size, a] [h'.objs.size] _ _ _ tk F' (x.trans x') (l1 ▸ Walks.tuple hh _ a ha items) ⟨⟨_, Heap.get?_push_size _ rfl, rfl, rfl⟩, ht.push _⟩ ?_ ?_ (fresh_F x.fin (none_size _)) (none_back x.keep (none_size _)) (fun _ _ st => by obtain ⟨⟨o, ho, _⟩, _⟩ := st; exact ⟨o, ho⟩) ?_ ?_
  · intro b hb
    rw [Heap.size_push]
    rcases List.mem_cons.mp hb with rfl | hb
    · exact Nat.lt_succ_self _
    · rw [List.mem_singleton.mp hb]; exact Nat.lt_succ_of_lt (Heap.lt_size ea)
  · intro b hb; exact List.mem_singleton.mp hb
  · intro b hb
    rcases List.mem_cons.mp hb with rfl | hb
    · exact .inl rfl
    · rw [List.mem_singleton.mp hb]
      refine .inr ⟨⟨_, Heap.get?_push_of_some _ ea⟩, fun hw => ?_⟩
      cases vr hw with
      | tuple hF _ _ _ => exact ⟨_, hF⟩
  · intro j v hj
    have hjl : j < ds.length := by
      rw [← l1]; exact (Array.getElem?_eq_some_iff.mp hj).1
    obtain ⟨v', hv', r⟩ := qa.get (j := j) (d := ds[j]) (by simp [hjl])
    rw [Array.getElem?_toList, hj] at hv'
    cases hv'
    exact ⟨ds[j], by simp [hjl], r⟩

theorem src_of {wk : Bool} {d : D} {ds : List D} {t : Sem Value} (hd : srcD d = .ok ds) (hh : A.handled = none) (h : EOk prog w A F s wk d t) : SrcOk prog w A F s wk ds t := by
  unfold srcD at hd
  split at hd
  · split at hd
    · cases hd; exact src_list hh h
    · cases hd
  · split at hd
    · cases hd; exact src_tuple hh h
    · cases hd
  · cases hd

theorem src_range {wk : Bool} {r : Addr} {a b c : Int} {t u v : Tok} {n : Nat} {h' : Heap} {tk : Nat} {F' : Fz} (hh : A.handled = none) (x : Ext F s.heap F' h') (hr : IsRange h' r a b c t u v) (hsm : Builtin.Range.small a b c = true) (hn : Builtin.Range.rangeSize a b c = (n : Int))
    {Q : Value → Shared → Prop} {E : Value → Shared → Prop}
    (k : ∀ I fp wr P St h' tk F', Ext F s.heap F' h' → Walks prog w A I fp wr (rangeL a c n).length P St → St 0 h' → (∀ b ∈ fp, b < h'.objs.size) → (∀ b ∈ wr, b = I) → F' I = none → s.heap.get? I = none → (∀ j h, St j h → ∃ o, h.get? I = some o) →
      (∀ b ∈ fp, b = I ∨ ((∃ o, h'.get? b = some o) ∧ (wk = false → ∃ o, F' b = some o))) → (∀ j v, P j v → ∃ d, (rangeL a c n)[j]? = some d ∧ VR F' v d) →
      Q (.ref I) { s with heap := h', toks := tk }) : wpAny (model prog w) A (pyIter (.ref r)) Q E { s with heap := h', toks := tk } := by
  refine wpAny_pyIter_range hr hsm ?_
  have x' : Ext F' h' F' (h'.push { cls := .type "range_iterator", data := .fields #[rawInt a, rawInt (Builtin.Range.rangeSize a b c), rawInt c] }) := Ext.of_keep x.fin fun _ _ e => Heap.get?_push_of_some _ e
  have hlen : (rangeL a c n).length = n := by simp [rangeL]
  have W := (Walks.range (prog := prog) (w := w) hh h'.objs.size a c n).bound
  have st : IsRangeIter (h'.push { cls := .type "range_iterator", data := .fields #[rawInt a, rawInt (Builtin.Range.rangeSize a b c), rawInt c] }) h'.objs.size (a + ((0 : Nat) : Int) * c) ((n : Int) - ((0 : Nat) : Int)) c := by
    rw [hn]; simpa using Heap.get?_push_size h' (o := { cls := .type "range_iterator", data := .fields #[rawInt a, rawInt (n : Int), rawInt c] }) rfl
  refine k h'.objs.size [h'.objs.size] [h'.objs.size] _ (fun (i : Nat) h => IsRangeIter h h'.objs.size (a + (i : Int) * c) ((n : Int) - (i : Int)) c) _ tk F' (x.trans x') (by rw [hlen]; exact W) st ?_ ?_ (fresh_F x.fin (none_size _)) (none_back x.keep (none_size _)) (fun _ _ st => ⟨_, st⟩) ?_ ?_
  · intro b hb
    rw [Heap.size_push, List.mem_singleton.mp hb]; exact Nat.lt_succ_self _
  · intro b hb; exact List.mem_singleton.mp hb
  · intro b hb; exact .inl (List.mem_singleton.mp hb)
  · rintro j v ⟨hj, tk', rfl⟩
    exact ⟨.int (a + j * c), by unfold rangeL; rw [List.getElem?_map, List.getElem?_range hj]; rfl, .int _ _⟩

theorem inLim_ok {a : Int} (h : inLim a = true) : -1048576 ≤ a ∧ a ≤ 1048576 := by
  unfold inLim at h; rw [Bool.and_eq_true, decide_eq_true_eq, decide_eq_true_eq] at h; exact h
theorem rangeSize_down (a b : Int) : Builtin.Range.rangeSize a b (-1) = ((a - b).toNat : Int) := by
  unfold Builtin.Range.rangeSize
  simp only [show ¬ ((-1 : Int) > 0) by decide, if_false]
  split
  · simp only [Int.neg_neg, Int.ediv_one]; omega
  · omega
theorem small_down {a b : Int} (ha : -(2 ^ 62) ≤ a) (ha' : a < 2 ^ 62) (hb : -(2 ^ 62) ≤ b) (hb' : b < 2 ^ 62) : Builtin.Range.small a b (-1) = true := by
  unfold Builtin.Range.small
  rw [rangeSize_down]
  simp only [Builtin.Range.rangeFitsLong, Bool.and_eq_true, Bool.or_eq_true, decide_eq_true_eq, beq_iff_eq, show ¬ ((-1 : Int) > 0) by decide, if_false]
  omega
theorem small_any {a b : Int} (ha : -(2 ^ 62) ≤ a) (ha' : a < 2 ^ 62) (hb : b < 2 ^ 62) (hb' : -(2 ^ 63) ≤ b) : Builtin.Range.small a b 1 = true := by
  unfold Builtin.Range.small
  rw [rangeSize_one]
  simp only [Builtin.Range.rangeFitsLong, Bool.and_eq_true, Bool.or_eq_true, decide_eq_true_eq, beq_iff_eq, show (1 : Int) > 0 by decide, if_true]
  split <;> omega
end

section
variable {prog : Program} {w : World} {K : Frag} {mg mb : Str → Option Value} {i : In} {n : Nat}

theorem evs_ne {f : Expr → Out D} {e : Expr} {r : List Expr} {ds : List D} (h : evs f (e :: r) = .ok ds) {env : Env} {pos : Pos} : backTo pos (starEach (e :: r) env) = (false, eval e env) :: backTo pos (starEach r env) := by
  rw [starEach_cons (evs_cons h).1]; rfl
theorem evs_plain {f : Expr → Out D} : ∀ {es : List Expr} {ds : List D}, evs f es = .ok ds → ∀ {env : Env} {pos : Pos}, (backTo pos (starEach es env)).any (·.1) = false
  | [], _, _, _, _ => rfl
  | e :: r, ds, h, env, pos => by
    obtain ⟨hns, _, _, _, hr, _⟩ := evs_cons h
    rw [starEach_cons hns]
    show (false || _) = false
    rw [Bool.false_or]
    exact evs_plain hr

/-- the call of a type by positional arguments -/
theorem call_type_ok (hi : SoundE K mg mb prog w i n) {sc : Scope} {ρ : Rho} {wk : Bool} {f : Str} {fp pos : Pos} {T : String} {es : List Expr} {ds : List D} (hc : calleeD K sc f = some (.ty T)) (hne : es ≠ []) (h : evs (i.ev sc ρ wk) es = .ok ds)
    {A : Around} {env : Env} {F : Fz} {s : Shared} (hA : AOk A n) (R : ER K mg mb sc env F ρ s.heap) {Q : Value → Shared → Prop} {E : Value → Shared → Prop}
    (k : ∀ vs h' tk F', Ext F s.heap F' h' → VWs F' h' vs ds → (wk = false → VRs F' vs ds) → wpAny (model prog w) A (call (.type T) vs) Q E { s with heap := h', toks := tk }) :
    wpAny (model prog w) A (eval (.Call (.Name f fp) es [] pos) env) Q E s := by
  obtain ⟨e, r, rfl⟩ := List.exists_cons_of_ne_nil hne
  refine wpAny_Call_Name_kw (callee_ok hc R fun v hv => ?_)
  obtain rfl : v = .type T := hv
  refine PyProof.Rows.callWith_type (evs_plain h) ?_
  rw [evs_ne h]
  refine PySem.Calls.evalArgs_plain ?_
  rw [← evs_ne h]
  exact evs_ok hi h hA R fun vs h' tk F' x v r => k vs h' tk F' x v r

theorem call_built_ok (hi : SoundE K mg mb prog w i n) {sc : Scope} {ρ : Rho} {wk : Bool} {f : Str} {fp pos : Pos} {id : String} {es : List Expr} {ds : List D} (hc : calleeD K sc f = some (.built id)) (hne : es ≠ []) (h : evs (i.ev sc ρ wk) es = .ok ds)
    {A : Around} {env : Env} {F : Fz} {s : Shared} (hA : AOk A n) (R : ER K mg mb sc env F ρ s.heap) {Q : Value → Shared → Prop} {E : Value → Shared → Prop}
    (k : ∀ vs h' tk F', Ext F s.heap F' h' → VWs F' h' vs ds → (wk = false → VRs F' vs ds) → wpAny (model prog w) A (call (.builtin id) vs) Q E { s with heap := h', toks := tk }) :
    wpAny (model prog w) A (eval (.Call (.Name f fp) es [] pos) env) Q E s := by
  obtain ⟨e, r, rfl⟩ := List.exists_cons_of_ne_nil hne
  refine wpAny_Call_Name_kw (callee_ok hc R fun v hv => ?_)
  obtain rfl : v = .builtin id := hv
  refine PySem.Calls.callWith_builtin (evs_plain h) ?_
  rw [evs_ne h]
  refine PySem.Calls.evalArgs_plain ?_
  rw [← evs_ne h]
  exact evs_ok hi h hA R fun vs h' tk F' x v r => k vs h' tk F' x v r

/-- a def of the top's -/
def SoundC (K : Frag) (mg mb : Str → Option Value) (prog : Program) (w : World) (i : In) (n : Nat) : Prop :=
  ∀ f args d, i.call f args = .ok d → ∀ A F s a vs, AOk A n → Glb K mg mb s.heap → KF K F → (∀ b o, F b = some o → s.heap.get? b = some o) → nsIn K mainGlobals f = some (some (.ref a)) → VRs F vs args →
    EOk prog w A F s false d (call (.ref a) vs)

theorem call_fn_ok (hi : SoundE K mg mb prog w i n) {sc : Scope} {ρ : Rho} {f : Str} {fp pos : Pos} {es : List Expr} {ds : List D} (hc : calleeD K sc f = some .fn) (hne : es ≠ []) (h : evs (i.ev sc ρ false) es = .ok ds) {fd : FuncData} (hf : fdOf K f = some fd)
    {A : Around} {env : Env} {F : Fz} {s : Shared} (hA : AOk A n) (R : ER K mg mb sc env F ρ s.heap) {Q : Value → Shared → Prop} {E : Value → Shared → Prop}
    (k : ∀ a vs h' tk F', nsIn K mainGlobals f = some (some (.ref a)) → Ext F s.heap F' h' → VRs F' vs ds → wpAny (model prog w) A (call (.ref a) vs) Q E { s with heap := h', toks := tk }) :
    wpAny (model prog w) A (eval (.Call (.Name f fp) es [] pos) env) Q E s := by
  obtain ⟨e, r, rfl⟩ := List.exists_cons_of_ne_nil hne
  refine wpAny_Call_Name_kw (callee_ok hc R fun v hv => ?_)
  obtain ⟨a, rfl, hn⟩ := hv
  unfold fdOf at hf
  rw [hn] at hf
  dsimp only at hf
  split at hf
  · rename_i c dd fd' sl hk
    cases hf
    refine PySem.Calls.callWith_function (o := ⟨c, dd, .func fd, sl⟩) (fd := fd) ?_
    rw [evs_ne h]
    refine PySem.Calls.evalArgs_plain ?_
    rw [← evs_ne h]
    refine evs_ok hi h hA R fun vs h' tk F' x v r => ⟨⟨x.keep _ _ (R.glb.kin _ _ hk), rfl⟩, k a vs h' tk F' hn x (r rfl)⟩
  · cases hf

theorem src_ok (hi : SoundE K mg mb prog w i n) {sc : Scope} {ρ : Rho} {wk : Bool} {e : Expr} {ds : List D} (h : srcE K i sc ρ wk e = .ok ds) {A : Around} {env : Env} {F : Fz} {s : Shared} (hA : AOk A n) (R : ER K mg mb sc env F ρ s.heap) :
    SrcOk prog w A F s wk ds (eval e env) ∧ ∀ x, foldedSetIterable e env x = pure x := by
  unfold srcE at h
  split at h
  · rename_i f fp args pos
    refine ⟨?_, fun _ => rfl⟩
    split at h
    · rename_i T hc
      split at h
      · rename_i hT
        rw [Bool.and_eq_true] at hT
        obtain rfl : T = "range" := by simpa using hT.1
        have hne : args ≠ [] := by simpa using hT.2
        obtain ⟨as, has, hr⟩ := Out.bind_ok h
        refine fun Q E k => call_type_ok hi hc hne has hA R fun vs h' tk F' x vw vrs => ?_
        clear vrs
        unfold rngD at hr
        split at hr
        · rename_i b0
          split at hr
          · rename_i hb
            have hb' := inLim_ok hb
            cases hr
            cases vw with
            | cons v1 r =>
              cases r
              obtain ⟨t, rfl⟩ := v1.intv
              refine call_range_1 ?_
              have x' : Ext F' h' F' _ := Ext.of_keep x.fin fun _ _ e => Heap.get?_push_of_some { cls := .type "range", data := .fields #[.int 0 tk, .int b0 t, .int 1 (tk + 1)] } e
              exact src_range hA.handled (x.trans x') (Heap.get?_push_size _ rfl) (small_any (by decide) (by decide) (by omega) (by omega)) (by rw [rangeSize_one]; split <;> omega) k
          · cases hr
        · rename_i a0 b0
          split at hr
          · rename_i hb
            rw [Bool.and_eq_true] at hb
            have ha' := inLim_ok hb.1
            have hb' := inLim_ok hb.2
            cases hr
            cases vw with
            | cons v1 r =>
              cases r with
              | cons v2 r =>
                cases r
                obtain ⟨t, rfl⟩ := v1.intv
                obtain ⟨u, rfl⟩ := v2.intv
                refine call_range_2 ?_
                have x' : Ext F' h' F' _ := Ext.of_keep x.fin fun _ _ e => Heap.get?_push_of_some { cls := .type "range", data := .fields #[.int a0 t, .int b0 u, .int 1 tk] } e
                exact src_range hA.handled (x.trans x') (Heap.get?_push_size _ rfl) (small_any (by omega) (by omega) (by omega) (by omega)) (by rw [rangeSize_one]; split <;> omega) k
          · cases hr
        · rename_i a0 b0 c0
          split at hr
          · rename_i hb
            rw [Bool.and_eq_true, Bool.and_eq_true, beq_iff_eq] at hb
            have ha' := inLim_ok hb.1.1
            have hb' := inLim_ok hb.1.2
            obtain rfl := hb.2
            cases hr
            cases vw with
            | cons v1 r =>
              cases r with
              | cons v2 r =>
                cases r with
                | cons v3 r =>
                  cases r
                  obtain ⟨t, rfl⟩ := v1.intv
                  obtain ⟨u, rfl⟩ := v2.intv
                  obtain ⟨q, rfl⟩ := v3.intv
                  refine call_range_3 (by decide) ?_ (.inl (PyProof.noPylong_of_log2 (by decide)))
                  have x' : Ext F' h' F' _ := Ext.of_keep x.fin fun _ _ e => Heap.get?_push_of_some { cls := .type "range", data := .fields #[.int a0 t, .int b0 u, .int (-1) q] } e
                  exact src_range hA.handled (x.trans x') (Heap.get?_push_size _ rfl) (small_down (by omega) (by omega) (by omega) (by omega)) (rangeSize_down _ _) k
          · cases hr
        · cases hr
      · cases h
    · obtain ⟨d, hd, h2⟩ := Out.bind_ok h
      exact src_of h2 hA.handled (hi _ _ _ _ _ hd A env F s hA R)
  · cases h
  · rename_i hns1 hns2
    obtain ⟨d, hd, hs⟩ := Out.bind_ok h
    refine ⟨src_of hs hA.handled (hi _ _ _ _ _ hd A env F s hA R), fun x => ?_⟩
    cases e <;> first | rfl | exact absurd rfl (hns2 _ _ _)
end

end Mine

/-! Ex3 -/
namespace Mine

section
variable {prog : Program} {w : World} {K : Frag} {mg mb : Str → Option Value} {i : In} {n : Nat}

theorem evs_one {f : Expr → Out D} {e : Expr} {d : D} (hns : ∀ x p, e ≠ .Starred x p) (h : f e = .ok d) : evs f [e] = .ok [d] := by
  unfold evs
  split
  · rename_i heq; cases heq
  · rename_i heq; cases heq; exact absurd rfl (hns _ _)
  · rename_i heq; cases heq; rw [h]; rfl

theorem call_rev_ok (hi : SoundE K mg mb prog w i n) {sc : Scope} {ρ : Rho} {wk : Bool} {f : Str} {fp pos cp kp : Pos} {ck : Nat} {id : String} {e : Expr} {d : D} (hc : calleeD K sc f = some (.built id)) (hns : ∀ x p, e ≠ .Starred x p) (h : i.ev sc ρ wk e = .ok d)
    {A : Around} {env : Env} {F : Fz} {s : Shared} (hA : AOk A n) (R : ER K mg mb sc env F ρ s.heap) {Q : Value → Shared → Prop} {E : Value → Shared → Prop}
    (k : ∀ v h' tk F', Ext F s.heap F' h' → VW F' h' v d → wpAny (model prog w) A (call (.builtin id) [v] [(Str.ofString "reverse", .bool true)]) Q E { s with heap := h', toks := tk }) :
    wpAny (model prog w) A (eval (.Call (.Name f fp) [e] [⟨some (Str.ofString "reverse"), .Constant (.bool true) ck cp, kp⟩] pos) env) Q E s := by
  have hes := evs_one (f := i.ev sc ρ wk) hns h
  refine wpAny_Call_Name_kw (callee_ok hc R fun v hv => ?_)
  obtain rfl : v = .builtin id := hv
  refine callWith_kw ?_ (evs_ne hes) (evs_plain hes) rfl rfl
  refine evs_ok hi hes hA R fun vs h' tk F' x vw _ => ?_
  cases vw with
  | cons v1 r =>
    cases r
    show wpAny (model prog w) A (evalAll [do let v ← eval (.Constant (.bool true) ck cp) env; standAt pos; pure v]) _ E _
    refine wpAny_evalAll_cons ?_
    refine wpAny_bind (wpAny_Constant_bool (wpAny_bind (wpAny_standAt (wpAny_pure ?_))))
    refine wpAny_evalAll_nil ?_
    exact k _ h' tk F' x v1

theorem call_ok (hi : SoundE K mg mb prog w i n) (hc : SoundC K mg mb prog w i n) {sc : Scope} {ρ : Rho} {wk : Bool} {f : Str} {fp pos : Pos} {args : List Expr} {kws : List Keyword} {d : D} (h : callD K i sc ρ f args kws = .ok d)
    {A : Around} {env : Env} {F : Fz} {s : Shared} (hA : AOk A n) (R : ER K mg mb sc env F ρ s.heap) : EOk prog w A F s wk d (eval (.Call (.Name f fp) args kws pos) env) := by
  have hu : A.units + 200 < cLine := by have := hA.units; omega
  unfold callD at h
  split at h
  · rename_i hcal
    split at h
    · split at h
      · cases h
      · rename_i hne
        rw [Bool.or_eq_true, not_or] at hne
        have hne' : args ≠ [] := by simpa using hne.1
        obtain ⟨ds, hds, hcall⟩ := Out.bind_ok h
        have hfd : ∃ a, nsIn K mainGlobals f = some (some (.ref a)) := by
          unfold calleeD at hcal
          split at hcal
          · cases hcal
          · split at hcal
            · split at hcal
              · rename_i a hn; exact ⟨a, hn⟩
              · split at hcal <;> cases hcal
              · cases hcal
            · cases hcal
        refine fun Q E k => ?_
        cases hfo : fdOf K f with
        | none => rw [hfo] at hne; exact absurd rfl hne.2
        | some fd =>
          refine call_fn_ok hi hcal hne' hds hfo hA R fun a vs h' tk F' hn x vr => ?_
          exact hc f ds d hcall A F' _ a vs hA (R.glb.keeps x.keep) (fun b o e c => x.mono _ _ (R.kf b o e c)) x.fin hn vr _ _ fun v h'' tk' F'' x' vw' vr' => k v h'' tk' F'' (x.trans x') vw' fun hw => vr' rfl
    · cases h
  · rename_i id hcal
    split at h
    · cases h
    · rename_i e hns
      obtain ⟨a, ha, hf⟩ := Out.bind_ok h
      have hns' : ∀ x p, e ≠ .Starred x p := fun x p q => hns x p q
      refine fun Q E k => call_built_ok hi hcal (by simp) (evs_one hns' ha) hA R fun vs h' tk F' x vw _ => ?_
      cases vw with
      | cons v1 r =>
        cases r
        exact fn_ok hf x.fin v1 hA.handled wk _ _ fun v h'' tk' F'' x' vw' vr' => k v h'' tk' F'' (x.trans x') vw' vr'
    · rename_i e kk ck cp kp hns
      split at h
      · rename_i hk
        obtain rfl := eq_of_beq hk
        obtain ⟨a, ha, hf⟩ := Out.bind_ok h
        have hns' : ∀ x p, e ≠ .Starred x p := fun x p q => hns x p q
        refine fun Q E k => call_rev_ok hi hcal hns' ha hA R fun v h' tk F' x vw => ?_
        exact rev_ok hf x.fin vw wk _ _ fun v h'' tk' F'' x' vw' vr' => k v h'' tk' F'' (x.trans x') vw' vr'
      · cases h
    · cases h
    · rename_i e T Tp hns
      split at h
      · rename_i hid
        obtain rfl := eq_of_beq hid
        split at h
        · rename_i T' hT
          obtain ⟨a, ha, hf⟩ := Out.bind_ok h
          obtain ⟨b, hb, he⟩ := Out.bind_ok hf
          cases he
          have hns' : ∀ x p, e ≠ .Starred x p := fun x p q => hns x p q
          refine fun Q E k => wpAny_Call_Name_kw (callee_ok hcal R fun v hv => ?_)
          obtain rfl : v = .builtin "isinstance" := hv
          refine PySem.Calls.callWith_builtin (by rw [starEach_cons hns']; rfl) ?_
          rw [starEach_cons hns']
          refine PySem.Calls.evalArgs_plain ?_
          refine PySem.Calls.spliced_cons (hi _ _ _ _ _ ha A env F s hA R _ _ fun v h' tk F' x vw _ => ?_)
          show wpAny (model prog w) A (spliced [(false, eval (.Name T Tp) env)]) _ E _
          refine PySem.Calls.spliced_cons (callee_ok hT (ext_ER R x) fun u hu' => ?_)
          obtain rfl : u = .type T' := hu'
          refine PySem.Calls.spliced_nil ?_
          exact is_ok hb x.fin vw wk _ _ fun v h'' tk' F'' x' vw' vr' => k v h'' tk' F'' (x.trans x') vw' vr'
        · cases h
      · cases h
    · cases h
  · rename_i T hcal
    split at h
    · cases h
    · rename_i e hns
      obtain ⟨a, ha, hf⟩ := Out.bind_ok h
      have hns' : ∀ x p, e ≠ .Starred x p := fun x p q => hns x p q
      refine fun Q E k => call_type_ok hi hcal (by simp) (evs_one hns' ha) hA R fun vs h' tk F' x vw _ => ?_
      cases vw with
      | cons v1 r =>
        cases r
        exact ty_ok hf x.fin v1 wk _ _ fun v h'' tk' F'' x' vw' vr' => k v h'' tk' F'' (x.trans x') vw' vr'
    · cases h
  · cases h

theorem boolT_ok (hi : SoundT K mg mb prog w i n) {sc : Scope} {ρ : Rho} (op : BoolOp) : ∀ {es : List Expr} {b : Bool}, boolT (i.tst sc ρ) op es = .ok b → ∀ {A : Around} {env : Env} {F : Fz} {s : Shared}, AOk A n → ER K mg mb sc env F ρ s.heap → TOk prog w A F s b (allTrue op es env)
  | [], b, h, A, env, F, s, hA, R => by
    cases h
    exact fun Q E k => wpAny_pure (k s.heap s.toks F (Ext.refl R.fin))
  | e :: r, b, h, A, env, F, s, hA, R => by
    obtain ⟨t, ht, h2⟩ := Out.bind_ok h
    refine fun Q E k => ?_
    cases op with
    | And =>
      refine wpAny_allTrue_And_cons (hi _ _ _ _ ht A env F s hA R _ _ fun h' tk F' x => ?_)
      cases t with
      | false => cases h2; exact k _ _ _ x
      | true => exact boolT_ok hi .And h2 hA (ext_ER R x) _ _ fun h'' tk' F'' x' => k _ _ _ (x.trans x')
    | Or =>
      refine wpAny_allTrue_Or_cons (hi _ _ _ _ ht A env F s hA R _ _ fun h' tk F' x => ?_)
      cases t with
      | true => cases h2; exact k _ _ _ x
      | false => exact boolT_ok hi .Or h2 hA (ext_ER R x) _ _ fun h'' tk' F'' x' => k _ _ _ (x.trans x')

theorem boolL_ok (hi : SoundE K mg mb prog w i n) {sc : Scope} {ρ : Rho} {wk : Bool} (op : BoolOp) {pos : Pos} : ∀ {es : List Expr} {d : D}, boolL (i.ev sc ρ false) op es = .ok d → ∀ {A : Around} {env : Env} {F : Fz} {s : Shared}, AOk A n → ER K mg mb sc env F ρ s.heap → EOk prog w A F s wk d (eval (.BoolOp op es pos) env)
  | [], d, h, A, env, F, s, hA, R => by cases h
  | [e], d, h, A, env, F, s, hA, R => fun Q E k => BoolOp_one (hi _ _ _ _ _ h A env F s hA R _ _ fun v h' tk F' x vw vr => k v h' tk F' x vw fun _ => vr rfl)
  | e :: e2 :: r, d, h, A, env, F, s, hA, R => by
    obtain ⟨v0, hv, h2⟩ := Out.bind_ok h
    obtain ⟨t, ht, h3⟩ := Out.bind_ok h2
    refine fun Q E k => ?_
    cases op with
    | And =>
      refine BoolOp_and (hi _ _ _ _ _ hv A env F s hA R _ _ fun v h' tk F' x vw vr => ?_)
      refine tr_ok ht x.fin vw _ _ fun h'' tk' F'' x' => ?_
      cases t with
      | false => cases h3; exact k _ _ _ _ (x.trans x') (vw.ext x') fun _ => (vr rfl).mono x'.mono
      | true => exact boolL_ok hi (wk := wk) .And h3 hA (ext_ER R (x.trans x')) _ _ fun v h'' tk' F'' x'' vw vr => k _ _ _ _ ((x.trans x').trans x'') vw vr
    | Or =>
      refine BoolOp_or (hi _ _ _ _ _ hv A env F s hA R _ _ fun v h' tk F' x vw vr => ?_)
      refine tr_ok ht x.fin vw _ _ fun h'' tk' F'' x' => ?_
      cases t with
      | true => cases h3; exact k _ _ _ _ (x.trans x') (vw.ext x') fun _ => (vr rfl).mono x'.mono
      | false => exact boolL_ok hi (wk := wk) .Or h3 hA (ext_ER R (x.trans x')) _ _ fun v h'' tk' F'' x'' vw vr => k _ _ _ _ ((x.trans x').trans x'') vw vr

def SoundL (K : Frag) (mg mb : Str → Option Value) (prog : Program) (w : World) (i : In) (n : Nat) : Prop :=
  ∀ sc ρ elt gens csc pos ds, compE K i sc ρ elt gens csc = .ok ds → ∀ A env F s wk, AOk A n → ER K mg mb sc env F ρ s.heap → EOk prog w A F s wk (.list ds) (eval (.ListComp elt gens csc pos) env)

theorem notSet_mark {op : CmpOp} {r : Expr} (h : notSet r = true) : behindInMarks op r = false := by
  cases r <;> first | rfl | cases h
theorem notSlice_sub {s : Expr} {o k : Value} (h : notSlice s = true) : subscripted s false o k = operate [o, k] (getItem o k) := by
  cases s <;> first | rfl | cases h

theorem addF_mono {F : Fz} {a : Addr} {q : Obj} (h : F a = none) : ∀ b o, F b = some o → addF F a q b = some o := fun b o e => by
  unfold addF; split
  · rename_i eq; subst eq; rw [h] at e; cases e
  · exact e
theorem tup_new {F : Fz} {s : Shared} {vs : List Value} {ds : List D} {h' : Heap} {tk : Nat} {F' : Fz} (x : Ext F s.heap F' h') (r : VRs F' vs ds) :
    ∃ F'', Ext F s.heap F'' (h'.push { cls := .type "tuple", data := .seq vs.toArray }) ∧ VR F'' (.ref h'.objs.size) (.tuple ds) := by
  have x' : Ext F' h' F' (h'.push { cls := .type "tuple", data := .seq vs.toArray }) := Ext.of_keep x.fin fun _ _ e => Heap.get?_push_of_some _ e
  have x2 := (x.trans x').add (a := h'.objs.size) (o := { cls := .type "tuple", data := .seq vs.toArray }) (none_back x.keep (none_size _)) (fresh_F x.fin (none_size _)) (Heap.get?_push_size _ rfl)
  refine ⟨_, x2, .tuple addF_self rfl rfl (by rw [show vs.toArray.toList = vs from rfl]; exact r.mono (addF_mono (fresh_F x.fin (none_size _))))⟩
theorem lst_new {F : Fz} {s : Shared} {vs : List Value} {ds : List D} {h' : Heap} {tk : Nat} {F' : Fz} (x : Ext F s.heap F' h') (r : VRs F' vs ds) :
    ∃ F'', Ext F s.heap F'' (h'.push { cls := .type "list", data := .seq vs.toArray }) ∧ VR F'' (.ref h'.objs.size) (.list ds) := by
  have x' : Ext F' h' F' (h'.push { cls := .type "list", data := .seq vs.toArray }) := Ext.of_keep x.fin fun _ _ e => Heap.get?_push_of_some _ e
  have x2 := (x.trans x').add (a := h'.objs.size) (o := { cls := .type "list", data := .seq vs.toArray }) (none_back x.keep (none_size _)) (fresh_F x.fin (none_size _)) (Heap.get?_push_size _ rfl)
  refine ⟨_, x2, .list addF_self rfl rfl (by rw [show vs.toArray.toList = vs from rfl]; exact r.mono (addF_mono (fresh_F x.fin (none_size _))))⟩

theorem evN_ok (hi : SoundE K mg mb prog w i n) (ht : SoundT K mg mb prog w i n) (hc : SoundC K mg mb prog w i n) (hl : SoundL K mg mb prog w i n) : SoundE K mg mb prog w (nxt K i) n := by
  intro sc ρ wk e d h A env F s hA R
  have hu : A.units + 200 < cLine := by have := hA.units; omega
  replace h : evN K i sc ρ wk e = .ok d := h
  unfold evN at h
  split at h
  · rename_i c ck cp
    unfold constD at h
    split at h
    · cases h; exact .now R.fin fun Q E k => wpAny_Constant_none (k _ _ s.toks (fun _ _ e => e) .none)
    · cases h; exact .now R.fin fun Q E k => wpAny_Constant_bool (k _ _ s.toks (fun _ _ e => e) (.bool _))
    · cases h; exact .now R.fin fun Q E k => wpAny_Constant_int (k _ _ _ (fun _ _ e => e) (.int _ _))
    · cases h; exact .now R.fin fun Q E k => wpAny_Constant_str (k _ _ _ (fun _ _ e => e) (.str _ _))
    · cases h
  · exact name_ok h R
  · obtain ⟨a, ha, h2⟩ := Out.bind_ok h
    obtain ⟨b, hb, h3⟩ := Out.bind_ok h2
    refine fun Q E k => wpAny_BinOp (hi _ _ _ _ _ ha A env F s hA R _ _ fun v₁ h₁ tk₁ F₁ x₁ w₁ _ => ?_)
    refine hi _ _ _ _ _ hb A env F₁ _ hA (ext_ER R x₁) _ _ fun v₂ h₂ tk₂ F₂ x₂ w₂ _ => ?_
    exact bin_ok h3 x₂.fin (w₁.ext x₂) w₂ wk _ _ fun v₃ h₃ tk₃ F₃ x₃ w₃ r₃ => k v₃ h₃ tk₃ F₃ ((x₁.trans x₂).trans x₃) w₃ r₃
  · obtain ⟨a, ha, h2⟩ := Out.bind_ok h
    refine fun Q E k => UnaryOp_ (hi _ _ _ _ _ ha A env F s hA R _ _ fun v₁ h₁ tk₁ F₁ x₁ w₁ _ => ?_)
    exact un_ok h2 x₁.fin w₁ wk _ _ fun v₃ h₃ tk₃ F₃ x₃ w₃ r₃ => k v₃ h₃ tk₃ F₃ (x₁.trans x₃) w₃ r₃
  · exact boolL_ok hi _ h hA R
  · split at h
    · rename_i hns
      obtain ⟨a, ha, h2⟩ := Out.bind_ok h
      obtain ⟨b, hb, h3⟩ := Out.bind_ok h2
      obtain ⟨c, hcc, h4⟩ := Out.bind_ok h3
      cases h4
      refine fun Q E k => wpAny_Compare1 (hi _ _ _ _ _ ha A env F s hA R _ _ fun v₁ h₁ tk₁ F₁ x₁ w₁ _ => ?_) (notSet_mark hns)
      refine hi _ _ _ _ _ hb A env F₁ _ hA (ext_ER R x₁) _ _ fun v₂ h₂ tk₂ F₂ x₂ w₂ _ => ?_
      exact cmp_ok hcc x₂.fin (w₁.ext x₂) w₂ wk hu _ _ fun v₃ h₃ tk₃ F₃ x₃ w₃ r₃ => k v₃ h₃ tk₃ F₃ ((x₁.trans x₂).trans x₃) w₃ r₃
    · cases h
  · obtain ⟨c, hcc, h2⟩ := Out.bind_ok h
    refine fun Q E k => IfExp_ (ht _ _ _ _ hcc A env F s hA R _ _ fun h₁ tk₁ F₁ x₁ => ?_)
    cases c with
    | true =>
      simp only [if_true] at h2 ⊢
      exact hi _ _ _ _ _ h2 A env F₁ _ hA (ext_ER R x₁) _ _ fun v₃ h₃ tk₃ F₃ x₃ w₃ r₃ => k v₃ h₃ tk₃ F₃ (x₁.trans x₃) w₃ fun _ => r₃ rfl
    | false =>
      simp only [Bool.false_eq_true, if_false] at h2 ⊢
      exact hi _ _ _ _ _ h2 A env F₁ _ hA (ext_ER R x₁) _ _ fun v₃ h₃ tk₃ F₃ x₃ w₃ r₃ => k v₃ h₃ tk₃ F₃ (x₁.trans x₃) w₃ fun _ => r₃ rfl
  · obtain ⟨ds, hds, h2⟩ := Out.bind_ok h
    split at h2
    · rename_i hlen
      cases h2
      rw [lim_eq] at hlen
      refine fun Q E k => wpAny_List (evs_ok hi hds hA R fun vs h' tk F' x vw vr => ?_)
      have l1 := (vr rfl).length
      obtain ⟨F'', x', r'⟩ := lst_new (tk := tk) x (vr rfl)
      exact ⟨by rw [sizeLine_eq]; omega, k _ _ tk F'' x' (.frz r') fun _ => r'⟩
    · cases h2
  · obtain ⟨ds, hds, h2⟩ := Out.bind_ok h
    split at h2
    · rename_i hlen
      cases h2
      rw [lim_eq] at hlen
      refine fun Q E k => wpAny_Tuple (evs_ok hi hds hA R fun vs h' tk F' x vw vr => ?_)
      have l1 := (vr rfl).length
      obtain ⟨F'', x', r'⟩ := tup_new (tk := tk) x (vr rfl)
      exact ⟨by rw [sizeLine_eq]; omega, k _ _ tk F'' x' (.frz r') fun _ => r'⟩
    · cases h2
  · split at h
    · rename_i hns
      obtain ⟨a, ha, h2⟩ := Out.bind_ok h
      obtain ⟨b, hb, h3⟩ := Out.bind_ok h2
      split at h3
      · rename_i kk
        refine fun Q E k => Subscript_ (hi _ _ _ _ _ ha A env F s hA R _ _ fun v₁ h₁ tk₁ F₁ x₁ w₁ _ => ?_)
        refine hi _ _ _ _ _ hb A env F₁ _ hA (ext_ER R x₁) _ _ fun v₂ h₂ tk₂ F₂ x₂ w₂ _ => ?_
        obtain ⟨t, rfl⟩ := w₂.intv
        have go := idx_ok (prog := prog) (w := w) (A := A) (t := t) (s := { s with heap := h₂, toks := tk₂ }) h3 x₂.fin (w₁.ext x₂) wk Q E fun v₃ h₃ tk₃ F₃ x₃ w₃ r₃ => k v₃ h₃ tk₃ F₃ ((x₁.trans x₂).trans x₃) w₃ r₃
        unfold idxD at h3
        split at h3
        · obtain ⟨q, items, nn, rfl, eq, qq⟩ := (w₁.ext x₂).list x₂.fin
          exact tail_any eq.isl.typeIs slot_list_getitem.lookup go (notSlice_sub hns)
        · obtain ⟨q, o, items, nn, rfl, eq, cq, dq, qq⟩ := (w₁.ext x₂).tup x₂.fin
          exact tail_any (T := "tuple") ⟨_, eq, cq⟩ PySem.F.slot_tuple_getitem.lookup go (notSlice_sub hns)
        · cases h3
      · cases h3
    · cases h
  · exact call_ok hi hc h hA R
  · obtain ⟨ds, hds, h2⟩ := Out.bind_ok h
    cases h2
    exact hl _ _ _ _ _ _ _ hds A env F s wk hA R
  · cases h

theorem tstN_ok (hi : SoundE K mg mb prog w i n) (ht : SoundT K mg mb prog w i n) : SoundT K mg mb prog w (nxt K i) n := by
  intro sc ρ e b h A env F s hA R
  have hu : A.units + 200 < cLine := by have := hA.units; omega
  replace h : tstN K i sc ρ e = .ok b := h
  unfold tstN at h
  split at h
  · obtain ⟨c, hc, h2⟩ := Out.bind_ok h
    cases h2
    exact fun Q E k => isTrue_not (ht _ _ _ _ hc A env F s hA R _ _ fun h₁ tk₁ F₁ x₁ => k _ _ _ x₁)
  · exact fun Q E k => wpAny_isTrue_BoolOp (boolT_ok ht _ h hA R _ _ k)
  · cases h
  · split at h
    · rename_i hns
      obtain ⟨a, ha, h2⟩ := Out.bind_ok h
      obtain ⟨c, hb, h3⟩ := Out.bind_ok h2
      refine fun Q E k => wpAny_isTrue_Compare1 (hi _ _ _ _ _ ha A env F s hA R _ _ fun v₁ h₁ tk₁ F₁ x₁ w₁ _ => ?_) (notSet_mark hns)
      refine hi _ _ _ _ _ hb A env F₁ _ hA (ext_ER R x₁) _ _ fun v₂ h₂ tk₂ F₂ x₂ w₂ _ => ?_
      refine cmp_ok h3 x₂.fin (w₁.ext x₂) w₂ true hu _ _ fun v₃ h₃ tk₃ F₃ x₃ w₃ r₃ => ?_
      obtain rfl := w₃.boolv
      exact wpAny_truthy_bool (k _ _ _ ((x₁.trans x₂).trans x₃))
    · cases h
  · cases h
  · rename_i hn1 hn2 hn3 hn4 hn5
    obtain ⟨a, ha, h2⟩ := Out.bind_ok h
    have key : isTrue e env (eval e env) = (do let v ← eval e env; standAt e.pos; holding [v] (truthy v)) := by
      cases e <;> first | rfl | (exact absurd rfl (hn2 _ _ _)) | (exact absurd rfl (hn3 _ _ _ _)) | (exact absurd rfl (hn5 _ _ _ _)) | skip
      rename_i op x p
      cases op <;> first | rfl | exact absurd rfl (hn1 _ _)
    rw [key]
    refine fun Q E k => wpAny_bind (hi _ _ _ _ _ ha A env F s hA R _ _ fun v₁ h₁ tk₁ F₁ x₁ w₁ _ => ?_)
    refine wpAny_bind (wpAny_standAt (wpAny_holding ?_))
    exact tr_ok h2 x₁.fin w₁ _ _ fun h₃ tk₃ F₃ x₃ => k _ _ _ (x₁.trans x₃)
end
end Mine

/-! Ex4 -/
namespace Mine

/-! ### the closure and the cells of a comprehension's frame -/
def cloF (env : Env) : List (Str × NameKind) → List (Str × Addr) → List (Str × Addr)
  | [], acc => acc
  | (n, k) :: r, acc => if k == .free then cloF env r ((n, (env.cells.lookup n).getD 0) :: acc) else cloF env r acc

theorem forIn_clo {env : Env} (f : Str × NameKind → List (Str × Addr) → Sem (ForInStep (List (Str × Addr))))
    (hf : ∀ n k c, f (n, k) c = if k == .free then (do let a ← cellOf env n; pure (.yield ((n, a) :: c))) else pure (.yield c)) :
    ∀ (names : List (Str × NameKind)) (acc : List (Str × Addr)), (∀ p ∈ names, p.2 = .free → ∃ c, env.cells.lookup p.1 = some c) → forIn names acc f = pure (cloF env names acc)
  | [], acc, _ => rfl
  | (n, k) :: r, acc, h => by
    rw [List.forIn_cons, hf]
    unfold cloF
    cases hk : k == NameKind.free with
    | true =>
      obtain ⟨c, hc⟩ := h (n, k) List.mem_cons_self (by simpa using hk)
      have e : cellOf env n = pure c := by unfold cellOf; rw [hc]
      simp only [if_true, e, hc, Option.getD_some]
      exact forIn_clo f hf r _ fun p hp => h p (List.mem_cons_of_mem _ hp)
    | false =>
      simp only [Bool.false_eq_true, if_false]
      exact forIn_clo f hf r _ fun p hp => h p (List.mem_cons_of_mem _ hp)

theorem closureFor_eq {scope : Scope} {env : Env} (h : ∀ p ∈ scope.names, p.2 = .free → ∃ c, env.cells.lookup p.1 = some c) : closureFor scope env = pure (cloF env scope.names []) := by
  simp only [closureFor]
  rw [forIn_clo (env := env) _ (fun n k c => by cases k <;> rfl) scope.names [] h]
  rfl

theorem cloF_old {env : Env} {y : Str} {c : Addr} : ∀ {names : List (Str × NameKind)} {acc : List (Str × Addr)}, env.cells.lookup y = some c → acc.lookup y = some c → (cloF env names acc).lookup y = some c
  | [], acc, _, h => h
  | (n, k) :: r, acc, hc, h => by
    unfold cloF
    split
    · refine cloF_old hc ?_
      rw [List.lookup_cons]
      cases hy : y == n with
      | true => rw [← beq_iff_eq.mp hy, hc]; rfl
      | false => exact h
    · exact cloF_old hc h
theorem cloF_free {env : Env} {y : Str} {c : Addr} : ∀ {names : List (Str × NameKind)} {acc : List (Str × Addr)}, (y, NameKind.free) ∈ names → env.cells.lookup y = some c → (cloF env names acc).lookup y = some c
  | (n, k) :: r, acc, hm, hc => by
    unfold cloF
    rcases List.mem_cons.mp hm with e | hm
    · cases e
      rw [if_pos (by decide)]
      exact cloF_old hc (by rw [List.lookup_cons, beq_self_eq_true, hc]; rfl)
    · split
      · exact cloF_free hm hc
      · exact cloF_free hm hc

theorem cellsFrom_other {y : Str} : ∀ {names : List (Str × NameKind)} {n : Nat} {acc : List (Str × Addr)}, (∀ p ∈ names, p.2 = .cell → p.1 ≠ y) → (cellsFrom n names acc).lookup y = acc.lookup y
  | [], n, acc, _ => rfl
  | (m, k) :: r, n, acc, h => by
    unfold cellsFrom
    split
    · rename_i hk
      rw [cellsFrom_other fun p hp => h p (List.mem_cons_of_mem _ hp), List.lookup_cons]
      have : (y == m) = false := beq_eq_false_iff_ne.mpr (Ne.symm (h (m, k) List.mem_cons_self (by simpa using hk)))
      rw [this]
    · exact cellsFrom_other fun p hp => h p (List.mem_cons_of_mem _ hp)

theorem cellsFrom_mem {y : Str} : ∀ {names : List (Str × NameKind)} {h : Heap} {acc : List (Str × Addr)} {lo : Nat}, lo ≤ h.objs.size → ((y, NameKind.cell) ∈ names ∨ ∃ c, acc.lookup y = some c ∧ h.IsCell c none ∧ lo ≤ c) →
    ∃ c, (cellsFrom h.objs.size names acc).lookup y = some c ∧ (pushCells h names).IsCell c none ∧ lo ≤ c
  | [], h, acc, lo, hl, hm => by
    rcases hm with hm | hm
    · cases hm
    · exact hm
  | (m, k) :: r, h, acc, lo, hl, hm => by
    unfold cellsFrom pushCells
    cases hk : k == NameKind.cell with
    | true =>
      simp only [if_true]
      have hsz : (h.push { cls := .type "cell", data := .cell none }).objs.size = h.objs.size + 1 := Heap.size_push ..
      have := cellsFrom_mem (y := y) (names := r) (h := h.push { cls := .type "cell", data := .cell none }) (acc := (m, h.objs.size) :: acc) (lo := lo) (by rw [hsz]; omega) ?_
      · rwa [hsz] at this
      · have hy : y = m ∨ y ≠ m := Classical.em _
        rcases hy with rfl | hy
        · exact .inr ⟨h.objs.size, by rw [List.lookup_cons, beq_self_eq_true], ⟨_, Heap.get?_push_size _ rfl, rfl⟩, hl⟩
        · rcases hm with hm | ⟨c, hc, hx, hlo⟩
          · rcases List.mem_cons.mp hm with e | hm
            · cases e; exact absurd rfl hy
            · exact .inl hm
          · refine .inr ⟨c, ?_, hx.keeps fun b o e => Heap.get?_push_of_some _ e, hlo⟩
            rw [List.lookup_cons, beq_eq_false_iff_ne.mpr hy]; exact hc
    | false =>
      simp only [Bool.false_eq_true, if_false]
      refine cellsFrom_mem hl ?_
      rcases hm with hm | hm
      · rcases List.mem_cons.mp hm with e | hm
        · cases e; cases hk
        · exact .inl hm
      · exact .inr hm

section
variable {M : Model} {A : Around} {E : Value → Shared → Prop} {s : Shared}
theorem newFunctionEnv_comp {scope : Scope} {globals : Addr} {cl : List (Str × Addr)} {qual : Str} {env : Env} {Q : Env → Shared → Prop}
    (h : Q (newEnv scope s.heap.objs.size globals (cellsFrom (s.heap.objs.size + 1) scope.names cl) qual none .none (some env) builtinsNs) { s with heap := pushCells (s.heap.push { cls := .type "dict", data := .dict #[] }) scope.names }) :
    wpAny M A (newFunctionEnv scope globals cl [] qual none .none (some env)) Q E s := by
  simp only [newFunctionEnv, Option.isSome_some, if_true]
  refine wpAny_bind (wpAny_alloc ?_)
  refine wpAny_bind (wpAny_layCells _ (fun name kind cells => by cases hkc : kind == NameKind.cell <;> simp [hkc]) _ _ _ _ ?_)
  rw [show ({ s with heap := s.heap.push { cls := .type "dict", data := .dict #[] } } : Shared).heap.objs.size = s.heap.objs.size + 1 from Heap.size_push ..]
  rw [List.forIn_nil]
  exact wpAny_bind (wpAny_pure (wpAny_pure h))
end

/-! ### where a name is stored -/
def Place (env : Env) (h : Heap) (x : Str) (a : Addr) : Prop :=
  (env.kindOf x = some .local ∧ a = env.locals ∧ ∃ m, h.Ns a m) ∨ (env.kindOf x = some .cell ∧ env.cells.lookup x = some a ∧ ∃ v, h.IsCell a v)

theorem Place.keeps {env : Env} {h h' : Heap} {x a} (p : Place env h x a) (hk : ∀ o, h.get? a = some o → h'.get? a = some o) : Place env h' x a := by
  rcases p with ⟨k, e, m, n⟩ | ⟨k, e, v, o, ho, c⟩
  · exact .inl ⟨k, e, m, n.at' fun o => hk o⟩
  · exact .inr ⟨k, e, v, o, hk _ ho, c⟩
theorem Place.some {env : Env} {h : Heap} {x a} (p : Place env h x a) : ∃ o, h.get? a = some o := by
  rcases p with ⟨k, e, m, n⟩ | ⟨k, e, v, o, ho, c⟩
  · obtain ⟨o, _, _, ho, _⟩ := n; exact ⟨o, ho⟩
  · exact ⟨o, ho⟩

theorem place_store {M : Model} {A : Around} {E : Value → Shared → Prop} {s : Shared} {env : Env} {x : Str} {a : Addr} {v : Value} {Q : Unit → Shared → Prop} (hk : env.scope.kind = .function) (p : Place env s.heap x a)
    (h : ∀ h' tk, Place env h' x a → Slot env h' x v → Heap.SameBut a s.heap h' → Q () { s with heap := h', toks := tk }) : wpAny M A (storeName env x v) Q E s := by
  rcases p with ⟨k, rfl, m, n⟩ | ⟨k, e, v0, c⟩
  · exact wpAny_storeName_local k n (fun h' hn hs => h h' _ (.inl ⟨k, rfl, _, hn⟩) (.inl ⟨k, _, hn, by simp⟩) hs) (by rw [hk]; rfl)
  · exact wpAny_storeName_cell hk k e c fun h' hc hs => h h' s.toks (.inr ⟨k, e, _, hc⟩) (.inr ⟨.inl k, a, e, hc⟩) hs

theorem Ext.but {F F' : Fz} {h h' h'' : Heap} (x : Ext F h F' h') {a : Addr} (hs : ∀ b o, b ≠ a → h'.get? b = some o → h''.get? b = some o) (h0 : h.get? a = none) (h1 : F' a = none) : Ext F h F' h'' :=
  ⟨fun b o e => hs b o (fun q => by subst q; rw [h0] at e; cases e) (x.keep b o e), x.mono, fun b o e => hs b o (fun q => by subst q; rw [h1] at e; cases e) (x.fin b o e), x.new⟩

theorem relabel_kinds {env : Env} : ∀ {names : List (Str × NameKind)} {x : Str},
    (names.map fun (n, k) => if (k == NameKind.free && env.scope.kind == .function && env.kindOf n == some .cell) then (n, NameKind.cell) else (n, k)).lookup x = names.lookup x ∨
    (names.lookup x = some .free ∧ (names.map fun (n, k) => if (k == NameKind.free && env.scope.kind == .function && env.kindOf n == some .cell) then (n, NameKind.cell) else (n, k)).lookup x = some .cell)
  | [], x => .inl rfl
  | (n, k) :: r, x => by
    have ih := @relabel_kinds env r x
    rw [List.map_cons]
    dsimp only
    by_cases hc : (k == NameKind.free && env.scope.kind == .function && env.kindOf n == some .cell) = true
    · rw [if_pos hc]
      rw [Bool.and_eq_true, Bool.and_eq_true] at hc
      obtain rfl : k = .free := by simpa using hc.1.1
      simp only [List.lookup_cons]
      cases x == n with
      | true => exact .inr ⟨rfl, rfl⟩
      | false => exact ih
    · rw [if_neg hc]
      simp only [List.lookup_cons]
      cases x == n with
      | true => exact .inl rfl
      | false => exact ih

theorem cenv_kinds {scope : Scope} {cl : List (Str × Addr)} {C : Addr} {env : Env} (x : Str) :
    (compEnvC scope cl C env).kindOf x = scope.names.lookup x ∨ (scope.names.lookup x = some .free ∧ (compEnvC scope cl C env).kindOf x = some .cell) := relabel_kinds

section
variable {K : Frag} {mg mb : Str → Option Value} {prog : Program} {w : World} {i : In} {n : Nat}

theorem tests_ok (ht : SoundT K mg mb prog w i n) {csc : Scope} {ρ : Rho} : ∀ {ifs : List Expr} {b : Bool}, tests (i.tst csc ρ) ifs = .ok b → ∀ {A : Around} {cenv : Env} {F : Fz} {s : Shared}, AOk A n → ER K mg mb csc cenv F ρ s.heap →
    TOk prog w A F s b (forIn ifs true fun c r => if r = true then do let ok ← isTrue c cenv (eval c cenv); pure (ForInStep.yield ok) else pure (ForInStep.yield r))
  | [], b, h, A, cenv, F, s, hA, R => by
    cases h
    exact fun Q E k => wpAny_pure (k s.heap s.toks F (Ext.refl R.fin))
  | e :: r, b, h, A, cenv, F, s, hA, R => by
    obtain ⟨t, ht1, h2⟩ := Out.bind_ok h
    refine fun Q E k => ?_
    rw [List.forIn_cons]
    simp only [if_true]
    refine wpAny_bind (wpAny_bind (ht _ _ _ _ ht1 A cenv F s hA R _ _ fun h' tk F' x => wpAny_pure ?_))
    dsimp only
    cases t with
    | true => exact tests_ok ht h2 hA (ext_ER R x) _ _ fun h'' tk' F'' x' => k _ _ _ (x.trans x')
    | false =>
      cases h2
      have go : ∀ l : List Expr, wpAny (model prog w) A (forIn l false fun c r => if r = true then do let ok ← isTrue c cenv (eval c cenv); pure (ForInStep.yield ok) else pure (ForInStep.yield r)) Q E { s with heap := h', toks := tk } := fun l => by
        induction l with
        | nil => exact wpAny_pure (k _ _ _ x)
        | cons e' r' ih =>
          rw [List.forIn_cons]
          simp only [Bool.false_eq_true, if_false]
          exact wpAny_bind (wpAny_pure ih)
      exact go r

theorem filtL_length {α β : Type} {t : α → Out Bool} {f : α → Out β} : ∀ {l : List α} {r : List β}, filtL t f l = .ok r → r.length ≤ l.length
  | [], r, h => by cases h; exact Nat.le_refl _
  | a :: l, r, h => by
    obtain ⟨c, hc, h2⟩ := Out.bind_ok h
    cases c with
    | false => exact Nat.le_succ_of_le (filtL_length (l := l) h2)
    | true =>
      simp only [if_true] at h2
      obtain ⟨b, _, h3⟩ := Out.bind_ok h2
      obtain ⟨bs, h4, h5⟩ := Out.bind_ok h3
      cases h5
      exact Nat.succ_le_succ (filtL_length h4)

/-- the frame of a comprehension, at a turn -/
theorem comp_ER {sc csc : Scope} {env : Env} {F F' : Fz} {ρ : Rho} {h h' : Heap} {cells : List (Str × Addr)} {C : Addr} {x : Str} {v : Value} {d : D} (R : ER K mg mb sc env F ρ h) (hf : freeOk sc csc = true) (hn : namesOk csc = true)
    (hfree : ∀ y c, csc.names.lookup y = some .free → env.cells.lookup y = some c → cells.lookup y = some c) (hcell : ∀ y, csc.names.lookup y = some .cell → ∃ c, cells.lookup y = some c)
    (e : Ext F h F' h') (hs : Slot (compEnvC csc cells C env) h' x v) (hv : VR F' v d) (hx : localOrCell csc x = true) : ER K mg mb csc (compEnvC csc cells C env) F' (upd (compRho csc ρ) x false d) h' := by
  have R' := R.ext e
  unfold namesOk at hn
  rw [Bool.and_eq_true] at hn
  refine ⟨R'.glb, R'.kf, R'.fin, (by show csc.kind = .function; simpa using hn.1), R'.gl, R'.bu, cenv_kinds, fun y hy => ?_, fun y o dd hy hv' => ?_⟩
  · rcases hy with hy | hy
    · exact hcell y hy
    · have hm := mem_of_lookup hy
      unfold freeOk at hf
      have := List.all_eq_true.mp hf _ hm
      simp only [bne_self_eq_false, Bool.false_or, Bool.or_eq_true, beq_iff_eq] at this
      obtain ⟨c, hc⟩ := R.cells y this
      exact ⟨c, hfree y c hy hc⟩
  · unfold upd at hy
    split at hy
    · rename_i hyx
      cases hy
      subst hyx
      exact ⟨v, hs, .frz hv, fun _ => hv⟩
    · unfold compRho at hy
      split at hy
      · rename_i hfr
        have hm := mem_of_lookup hfr
        unfold freeOk at hf
        have ho := List.all_eq_true.mp hf _ hm
        simp only [bne_self_eq_false, Bool.false_or, Bool.or_eq_true, beq_iff_eq] at ho
        obtain ⟨u, su, wu, fu⟩ := R'.vars y o dd hy (by unfold isVar; rcases ho with q | q <;> rw [q])
        refine ⟨u, ?_, wu, fu⟩
        have hkind := R.kinds y
        have hkc : env.kindOf y = some .cell ∨ env.kindOf y = some .free := by
          rcases hkind with q | q
          · rw [q]; exact ho
          · exact .inl q.2
        rcases su with ⟨a, _⟩ | ⟨_, c, hc, hcv⟩
        · rcases hkc with q | q <;> rw [q] at a <;> cases a
        · refine .inr ⟨?_, c, hfree y c hfr hc, hcv⟩
          rcases cenv_kinds (scope := csc) (cl := cells) (C := C) (env := env) y with q | q
          · rw [q, hfr]; exact .inr rfl
          · exact .inl q.2
      · cases hy

theorem VRs.snoc {F : Fz} {items : Array Value} {us : List D} {y : Value} {b : D} (h : VRs F items.toList us) (r : VR F y b) : VRs F (items.push y).toList (us ++ [b]) := by
  rw [Array.toList_push]; exact h.append (.one r)

theorem filtL_cons {α β : Type} {t : α → Out Bool} {f : α → Out β} {a : α} {l : List α} {r : List β} (h : filtL t f (a :: l) = .ok r) : ∃ c, t a = .ok c ∧ ((c = false ∧ filtL t f l = .ok r) ∨ (c = true ∧ ∃ b bs, f a = .ok b ∧ filtL t f l = .ok bs ∧ r = b :: bs)) := by
  obtain ⟨c, hc, h2⟩ := Out.bind_ok h
  refine ⟨c, hc, ?_⟩
  cases c with
  | false => exact .inl ⟨rfl, h2⟩
  | true =>
    simp only [if_true] at h2
    obtain ⟨b, hb, h3⟩ := Out.bind_ok h2
    obtain ⟨bs, h4, h5⟩ := Out.bind_ok h3
    cases h5
    exact .inr ⟨rfl, b, bs, hb, h4, rfl⟩

theorem comp_loop (hi : SoundE K mg mb prog w i n) (ht : SoundT K mg mb prog w i n) {sc csc : Scope} {ρ : Rho} {elt iter : Expr} {x : Str} {px : Pos} {ifs : List Expr} {pos : Pos} {vs ds : List D}
    (hres : filtL (fun v => tests (i.tst csc (upd (compRho csc ρ) x false v)) ifs) (fun v => i.ev csc (upd (compRho csc ρ) x false v) false elt) vs = .ok ds)
    {A : Around} {env : Env} {F : Fz} {s : Shared} {cells : List (Str × Addr)} {C D I pl : Addr} {fp wr : List Addr} {P : Nat → Value → Prop} {St : Nat → Heap → Prop} {R : Result → Shared → Prop}
    (hA : AOk A n) (hER : ER K mg mb sc env F ρ s.heap) (hf : freeOk sc csc = true) (hn : namesOk csc = true) (hx : localOrCell csc x = true)
    (hfree : ∀ y c, csc.names.lookup y = some .free → env.cells.lookup y = some c → cells.lookup y = some c) (hcell : ∀ y, csc.names.lookup y = some .cell → ∃ c, cells.lookup y = some c)
    (W : Walks prog w A I fp wr vs.length P St) (hwr : ∀ b ∈ wr, b = I) (hlen : vs.length ≤ 2 * lim)
    (hDf : D ∉ fp) (hpf : pl ∉ fp) (hDI : D ≠ I) (hDp : D ≠ pl) (hDC : D ≠ C) (hCI : C ≠ I) (hpI : pl ≠ I)
    (h0 : ∀ b, b = C ∨ b = D ∨ b = I ∨ b = pl → s.heap.get? b = none)
    {h₁ : Heap} {tk₁ : Nat} {F₁ : Fz} (hext : Ext F s.heap F₁ h₁) (h01 : ∀ b, b = C ∨ b = D ∨ b = I ∨ b = pl → F₁ b = none) (hSI : ∀ j h, St j h → ∃ o, h.get? I = some o) (hst : St 0 h₁)
    (hD : h₁.get? D = some (plainL #[] 0)) (hpl : Place (compEnvC csc cells C env) h₁ x pl) (hC : ∃ m, h₁.Ns C m) (hP : ∀ j v, P j v → ∃ d, vs[j]? = some d ∧ VR F₁ v d)
    (hR : ∀ h' tk F' items k m', Ext F s.heap F' h' → F' D = none → F' C = none → h'.get? D = some (plainL items k) → VRs F' items.toList ds → h'.Ns C m' → R (.ok .next) { s with heap := h', toks := tk }) :
    codeAny (model prog w) A (.compLoop (.ListComp elt [⟨.Name x px, iter, ifs, 0⟩] csc pos) 0 (.ref I) (.ref D) (compEnvC csc cells C env)) R { s with heap := h₁, toks := tk₁ } := by
  have hkind : (compEnvC csc cells C env).scope.kind = .function := by
    unfold namesOk at hn; rw [Bool.and_eq_true] at hn; show csc.kind = .function; simpa using hn.1
  refine codeAny_compLoop_tests
    (fun k s' => ∃ h' tk F' items nn us rest, ∃ j : Nat, s' = { s with heap := h', toks := tk } ∧ Ext F s.heap F' h' ∧ (∀ b o, F₁ b = some o → F' b = some o) ∧ (∀ b, b = C ∨ b = D ∨ b = I ∨ b = pl → F' b = none) ∧
      St j h' ∧ h'.get? D = some (plainL items nn) ∧ VRs F' items.toList us ∧ Place (compEnvC csc cells C env) h' x pl ∧ (∃ m, h'.Ns C m) ∧
      filtL (fun v => tests (i.tst csc (upd (compRho csc ρ) x false v)) ifs) (fun v => i.ev csc (upd (compRho csc ρ) x false v) false elt) (vs.drop j) = .ok rest ∧ us ++ rest = ds ∧ j ≤ vs.length ∧ us.length ≤ j ∧ k = vs.length + 1 - j) ?_ (vs.length + 1)
    ⟨h₁, tk₁, F₁, #[], 0, [], ds, 0, rfl, hext, fun _ _ e => e, h01, hst, hD, .nil, hpl, hC, by simpa using hres, rfl, Nat.zero_le _, Nat.le_refl _, rfl⟩
  rintro k s' ⟨h', tk, F', items, nn, us, rest, j, rfl, x', mono, hnF, hst', hD', hus, hpl', hC', hrest, hsum, hj, huj, rfl⟩
  have offI : ∀ {h a : Heap}, (∀ b o, b ∉ wr → h.get? b = some o → a.get? b = some o) → ∀ b o, b ≠ I → h.get? b = some o → a.get? b = some o := fun hk b o hb e => hk b o (fun q => hb (hwr b q)) e
  have hI0 := h0 I (.inr (.inr (.inl rfl)))
  have hIF := hnF I (.inr (.inr (.inl rfl)))
  by_cases hjl : j < vs.length
  · refine W.item j _ _ _ hjl hst' fun v a₁ t₁ hPv hst₁ hk₁ => ?_
    have x₁ : Ext F s.heap F' a₁ := x'.but (offI hk₁) hI0 hIF
    obtain ⟨d, hd, hv⟩ := hP j v hPv
    have hv' := hv.mono mono
    have hdrop : vs.drop j = d :: vs.drop (j + 1) := by
      obtain ⟨hlt, e⟩ := List.getElem?_eq_some_iff.mp hd
      rw [← e]; exact List.drop_eq_getElem_cons hlt
    rw [hdrop] at hrest
    obtain ⟨c, hc, hcase⟩ := filtL_cons hrest
    refine wpAny_assign_Name (place_store hkind (hpl'.keeps fun o e => offI hk₁ _ o hpI e) fun a₂ t₂ hp₂ hs₂ hsb₂ => ?_)
    have hp0 := h0 pl (.inr (.inr (.inr rfl)))
    have hpF := hnF pl (.inr (.inr (.inr rfl)))
    have x₂ : Ext F s.heap F' a₂ := x₁.but hsb₂.extBut hp0 hpF
    have R₂ := comp_ER hER hf hn hfree hcell x₂ hs₂ hv' hx
    have hst₂ : St (j + 1) a₂ := W.frame _ _ _ hst₁ fun b hb o e => hsb₂.extBut b o (fun q => hpf (q ▸ hb)) e
    have hD₂ : a₂.get? D = some (plainL items nn) := hsb₂.extBut D _ hDp (offI hk₁ D _ hDI hD')
    have hC₂ : ∃ m, a₂.Ns C m := by
      obtain ⟨m, hm⟩ := hC'
      by_cases hbp : C = pl
      · rcases hp₂ with ⟨_, e, m, hn⟩ | ⟨hkc, _⟩
        · exact ⟨m, hbp ▸ hn⟩
        · exfalso
          rcases hpl' with ⟨q, _⟩ | ⟨_, _, _, o', ho', hco'⟩
          · rw [q] at hkc; cases hkc
          · subst hbp
            obtain ⟨o2, _, _, ho2, hd2, _⟩ := hm
            rw [ho'] at ho2; cases ho2
            rw [hco'] at hd2; cases hd2
      · exact ⟨m, hm.at' fun o e => hsb₂.extBut _ o hbp (offI hk₁ _ o hCI e)⟩
    have stay : ∀ {F₃ a₃}, Ext F' a₂ F₃ a₃ → ∀ b, b = C ∨ b = D ∨ b = I ∨ b = pl → F₃ b = none := fun {F₃ a₃} x₃ b hb => by
      have hs : ∃ o, a₂.get? b = some o := by
        rcases hb with rfl | rfl | rfl | rfl
        · obtain ⟨m, o, _, _, ho, _⟩ := hC₂; exact ⟨o, ho⟩
        · exact ⟨_, hD₂⟩
        · exact hSI _ _ hst₂
        · exact hp₂.some
      cases q : F₃ b with
      | none => rfl
      | some o =>
        rcases x₃.new b o q with q | q
        · rw [hnF b hb] at q; cases q
        · obtain ⟨o', e⟩ := hs; rw [q] at e; cases e
    refine tests_ok ht hc hA R₂ _ _ fun a₃ t₃ F₃ x₃ => ?_
    have hst₃ : St (j + 1) a₃ := W.frame _ _ _ hst₂ fun b _ o e => x₃.keep b o e
    rcases hcase with ⟨rfl, hr⟩ | ⟨rfl, b, bs, hb, hr, rfl⟩
    · simp only [Bool.false_eq_true, if_false]
      refine ⟨_, Nat.sub_lt_sub_left (by omega) (Nat.lt_succ_self j), a₃, t₃, F₃, items, nn, us, rest, j + 1, rfl, x₂.trans x₃, fun b o e => x₃.mono b o (mono b o e), stay x₃, hst₃, x₃.keep _ _ hD₂, hus.mono x₃.mono, hp₂.keeps (fun o e => x₃.keep _ o e), ?_, hr, hsum, hjl, by omega, rfl⟩
      obtain ⟨m, hm⟩ := hC₂; exact ⟨m, hm.keeps x₃.keep⟩
    · simp only [if_true]
      refine hi _ _ _ _ _ hb A _ F₃ _ hA (ext_ER R₂ x₃) _ _ fun y a₄ t₄ F₄ x₄ _ vr => ?_
      have x34 := x₃.trans x₄
      refine wpAny_list_append_plain (items := items) ⟨nn, x34.keep _ _ hD₂⟩ (fun a₅ hD₅ hs₅ => ?_) (by
        have := hus.length; rw [Array.length_toList] at this; rw [sizeLine_eq]; unfold lim at hlen; omega)
      obtain ⟨n5, hD₅⟩ := hD₅
      have hD4 := stay x34 D (.inr (.inl rfl))
      refine ⟨_, Nat.sub_lt_sub_left (by omega) (Nat.lt_succ_self j), a₅, t₄, F₄, items.push y, n5, us ++ [b], bs, j + 1, rfl, (x₂.trans x34).but hs₅.extBut (h0 D (.inr (.inl rfl))) hD4, fun b o e => x34.mono b o (mono b o e), stay x34,
        W.frame _ _ _ hst₃ fun b hb o e => hs₅.extBut b o (fun q => hDf (q ▸ hb)) (x₄.keep b o e), hD₅, (hus.mono x34.mono).snoc (vr rfl), hp₂.keeps (fun o e => hs₅.extBut _ o (Ne.symm hDp) (x34.keep _ o e)), ?_, hr, by rw [List.append_assoc]; exact hsum, hjl, by rw [List.length_append, List.length_singleton]; omega, rfl⟩
      obtain ⟨m, hm⟩ := hC₂
      exact ⟨m, (hm.keeps x34.keep).sameBut hs₅ (Ne.symm hDC)⟩
  · obtain rfl : j = vs.length := by omega
    refine W.done _ _ _ hst' fun a₁ t₁ hk₁ => ?_
    rw [List.drop_length] at hrest
    cases hrest
    rw [List.append_nil] at hsum
    subst hsum
    obtain ⟨m, hm⟩ := hC'
    exact hR a₁ t₁ F' items nn m (x'.but (offI hk₁) hI0 hIF) (hnF D (.inr (.inl rfl))) (hnF C (.inl rfl)) (offI hk₁ _ _ hDI hD') hus (hm.at' fun o e => offI hk₁ _ o hCI e)

theorem srcE_len {sc : Scope} {ρ : Rho} {wk : Bool} {e : Expr} {vs : List D} (h : srcE K i sc ρ wk e = .ok vs) : vs.length ≤ 2 * lim := by
  have go : ∀ d : D, srcD d = .ok vs → vs.length ≤ 2 * lim := fun d hd => by
    unfold srcD at hd
    split at hd
    · split at hd
      · cases hd; omega
      · cases hd
    · split at hd
      · cases hd; omega
      · cases hd
    · cases hd
  unfold srcE at h
  split at h
  · split at h
    · split at h
      · obtain ⟨as, ha, h2⟩ := Out.bind_ok h
        unfold rngD at h2
        split at h2
        · split at h2
          · rename_i hb
            have := inLim_ok hb
            cases h2; simp only [rangeL, List.length_map, List.length_range, lim]; omega
          · cases h2
        · split at h2
          · rename_i hb
            rw [Bool.and_eq_true] at hb
            have h1 := inLim_ok hb.1
            have h3 := inLim_ok hb.2
            cases h2; simp only [rangeL, List.length_map, List.length_range, lim]; omega
          · cases h2
        · split at h2
          · rename_i hb
            rw [Bool.and_eq_true, Bool.and_eq_true] at hb
            have h1 := inLim_ok hb.1.1
            have h3 := inLim_ok hb.1.2
            cases h2; simp only [rangeL, List.length_map, List.length_range, lim]; omega
          · cases h2
        · cases h2
      · cases h
    · obtain ⟨d, _, h2⟩ := Out.bind_ok h
      exact go d h2
  · cases h
  · obtain ⟨d, _, h2⟩ := Out.bind_ok h
    exact go d h2

theorem pushCells_size : ∀ (names : List (Str × NameKind)) (h : Heap), h.objs.size ≤ (pushCells h names).objs.size
  | [], h => Nat.le_refl _
  | (_, k) :: r, h => by
    unfold pushCells
    split
    · have := pushCells_size r (h.push { cls := .type "cell", data := .cell none })
      rw [Heap.size_push] at this; omega
    · exact pushCells_size r h

theorem comp_core (hi : SoundE K mg mb prog w i n) (ht : SoundT K mg mb prog w i n) {sc csc : Scope} {ρ : Rho} {elt : Expr} {gens : List Comprehension} {pos p : Pos} {ds : List D} (h : compE K i sc ρ elt gens csc = .ok ds)
    {A : Around} {env : Env} {F : Fz} {s : Shared} {use : Option (Value → Sem Unit)} {Q E : Value → Shared → Prop} (hA : AOk A n) (R : ER K mg mb sc env F ρ s.heap)
    (hRR : ∀ D C h' tk F' items k m', Ext F s.heap F' h' → F' D = none → s.heap.get? D = none → h'.get? D = some (plainL items k) → VRs F' items.toList ds → h'.Ns C m' → F' C = none → s.heap.get? C = none → D ≠ C →
      compPost (model prog w) A E use Q (.ref D) C (.ok .next) { s with heap := h', toks := tk }) :
    wpAny (model prog w) A (comprehension (.ListComp elt gens csc pos) csc env p (newList []) (firstAsync gens) (firstIter gens env) use) Q E s := by
  unfold compE at h
  split at h
  case isFalse => cases h
  rename_i hok
  rw [Bool.and_eq_true] at hok
  obtain ⟨hf, hn⟩ := hok
  split at h
  case h_2 => cases h
  rename_i x px it ifs
  split at h
  case isFalse => cases h
  rename_i hx
  obtain ⟨vs, hvs, hres⟩ := Out.bind_ok h
  obtain ⟨hsrc, hfold⟩ := src_ok hi hvs hA R
  have hlen := srcE_len hvs
  have hn' := hn
  unfold namesOk at hn'
  rw [Bool.and_eq_true] at hn'
  have hkind : csc.kind = .function := by simpa using hn'.1
  have hname : ∀ q ∈ csc.names, csc.names.lookup q.1 = some q.2 := fun q hq => by simpa using List.all_eq_true.mp hn'.2 q hq
  have hcl : ∀ q ∈ csc.names, q.2 = .free → ∃ c, env.cells.lookup q.1 = some c := fun q hq hqf => by
    unfold freeOk at hf
    have := List.all_eq_true.mp hf q hq
    rw [hqf] at this
    simp only [bne_self_eq_false, Bool.false_or, Bool.or_eq_true, beq_iff_eq] at this
    exact R.cells _ this
  refine wpAny_comprehension_free (cl := cloF env csc.names []) rfl (hfold ·) (closureFor_eq hcl) hkind (fun q hq hql => by rw [hname q hq, hql]) ?_
  refine hsrc _ _ fun I fp wr P St a₁ t₁ F₁ x₁ W st hfp hwr hIF hI0 hSI hfpx hP => ?_
  refine wpAny_newObj_type ?_
  refine newFunctionEnv_comp ?_
  dsimp only
  have hD0 : a₁.get? a₁.objs.size = none := none_size _
  generalize hH2 : a₁.push { cls := .type "list", dict := none, data := .seq ([] : List Value).toArray } = H2
  have hC : H2.objs.size = a₁.objs.size + 1 := by rw [← hH2, Heap.size_push]
  generalize hH3 : H2.push { cls := .type "dict", data := .dict #[] } = H3
  have hC3 : H3.objs.size = a₁.objs.size + 2 := by rw [← hH3, Heap.size_push, hC]
  have up2 : ∀ b o, a₁.get? b = some o → H2.get? b = some o := fun b o e => hH2 ▸ Heap.get?_push_of_some _ e
  have up3 : ∀ b o, H2.get? b = some o → (pushCells H3 csc.names).get? b = some o := fun b o e => pushCells_keeps _ _ b o (hH3 ▸ Heap.get?_push_of_some _ e)
  have hCn : a₁.get? H2.objs.size = none := by rw [hC]; exact Heap.get?_none_of_le (Nat.le_succ _)
  have hIlt : I < a₁.objs.size := by obtain ⟨o, e⟩ := hSI _ _ st; exact Heap.lt_size e
  -- the cells
  have hother : ∀ y c, csc.names.lookup y = some .free → env.cells.lookup y = some c → (cellsFrom (H2.objs.size + 1) csc.names (cloF env csc.names [])).lookup y = some c := fun y c hy hc => by
    rw [cellsFrom_other fun q hq hqc hqy => ?_]
    · exact cloF_free (mem_of_lookup hy) hc
    · have := hname q hq
      rw [hqy, hy, hqc] at this
      cases this
  have hmem : ∀ y, csc.names.lookup y = some .cell → ∃ c, (cellsFrom (H2.objs.size + 1) csc.names (cloF env csc.names [])).lookup y = some c ∧ (pushCells H3 csc.names).IsCell c none ∧ H2.objs.size + 1 ≤ c := fun y hy => by
    have e3 : H3.objs.size = H2.objs.size + 1 := by rw [hC3, hC]
    have := cellsFrom_mem (h := H3) (acc := cloF env csc.names []) (lo := H3.objs.size) (Nat.le_refl _) (.inl (mem_of_lookup hy))
    rwa [e3] at this
  -- where x is stored
  obtain ⟨pl, hpl, hple⟩ : ∃ pl, Place (compEnvC csc (cellsFrom (H2.objs.size + 1) csc.names (cloF env csc.names [])) H2.objs.size env) (pushCells H3 csc.names) x pl ∧ H2.objs.size ≤ pl := by
    unfold localOrCell at hx
    rw [Bool.or_eq_true] at hx
    rcases hx with hx | hx
    · replace hx : csc.names.lookup x = some .local := by simpa using hx
      refine ⟨H2.objs.size, .inl ⟨lookup_relabel_local hx, rfl, fun _ => none, ?_⟩, Nat.le_refl _⟩
      exact (hH3 ▸ Heap.Ns.new H2 (.type "dict") : H3.Ns H2.objs.size _).keeps fun b o e => pushCells_keeps _ _ b o e
    · replace hx : csc.names.lookup x = some .cell := by simpa using hx
      obtain ⟨c, hc, hcell, hlo⟩ := hmem x hx
      refine ⟨c, .inr ⟨?_, hc, _, hcell⟩, Nat.le_of_succ_le hlo⟩
      rcases cenv_kinds (scope := csc) (cl := cellsFrom (H2.objs.size + 1) csc.names (cloF env csc.names [])) (C := H2.objs.size) (env := env) x with q | q
      · rw [q]; exact hx
      · exact q.2
  have xH : Ext F s.heap F₁ (pushCells H3 csc.names) := x₁.trans (Ext.of_keep x₁.fin fun b o e => up3 b o (up2 b o e))
  have nn : ∀ b, a₁.objs.size ≤ b → a₁.get? b = none := fun b hb => Heap.get?_none_of_le hb
  have all0 : ∀ b, b = H2.objs.size ∨ b = a₁.objs.size ∨ b = I ∨ b = pl → s.heap.get? b = none ∧ F₁ b = none := fun b hb => by
    have big : ∀ b, a₁.objs.size ≤ b → s.heap.get? b = none ∧ F₁ b = none := fun b hb => ⟨none_back x₁.keep (nn b hb), fresh_F x₁.fin (nn b hb)⟩
    rcases hb with rfl | rfl | rfl | rfl
    · exact big _ (by omega)
    · exact big _ (Nat.le_refl _)
    · exact ⟨hI0, hIF⟩
    · exact big _ (by omega)
  have loop : ∀ tk, codeAny (model prog w) A (.compLoop (.ListComp elt [⟨.Name x px, it, ifs, 0⟩] csc pos) 0 (.ref I) (.ref a₁.objs.size) (compEnvC csc (cellsFrom (H2.objs.size + 1) csc.names (cloF env csc.names [])) H2.objs.size env))
      (compPost (model prog w) A E use Q (.ref a₁.objs.size) H2.objs.size) { s with heap := pushCells H3 csc.names, toks := tk } := fun tk => by
    refine comp_loop hi ht hres (F₁ := F₁) (C := H2.objs.size) (pl := pl) hA R hf hn hx hother (fun y hy => (hmem y hy).imp fun c hc => hc.1) W hwr hlen (fun q => ?_) (fun q => ?_) ?_ ?_ ?_ ?_ ?_ (fun b hb => (all0 b hb).1) xH (fun b hb => (all0 b hb).2) hSI ?_ ?_ hpl ?_ hP ?_
    · exact Nat.lt_irrefl _ (hfp _ q)
    · have := hfp _ q; exact Nat.lt_irrefl _ (Nat.lt_of_lt_of_le this (Nat.le_trans (by rw [hC]; exact Nat.le_succ _) hple))
    · exact (Nat.ne_of_lt hIlt).symm
    · exact Nat.ne_of_lt (Nat.lt_of_lt_of_le (by rw [hC]; exact Nat.lt_succ_self _) hple)
    · exact Nat.ne_of_lt (by rw [hC]; exact Nat.lt_succ_self _)
    · exact (Nat.ne_of_lt (Nat.lt_of_lt_of_le hIlt (by rw [hC]; exact Nat.le_succ _))).symm
    · exact (Nat.ne_of_lt (Nat.lt_of_lt_of_le hIlt (Nat.le_trans (by rw [hC]; exact Nat.le_succ _) hple))).symm
    · exact W.frame _ _ _ st fun b _ o e => up3 b o (up2 b o e)
    · exact up3 _ _ (hH2 ▸ Heap.get?_push_size _ rfl)
    · exact ⟨_, (hH3 ▸ Heap.Ns.new H2 (.type "dict") : H3.Ns H2.objs.size _).keeps fun b o e => pushCells_keeps _ _ b o e⟩
    · intro a₂ t₂ F₂ items k m x₂ hD hCC hDo hit hm
      exact hRR _ _ _ _ _ _ _ _ x₂ hD (all0 _ (.inr (.inl rfl))).1 hDo hit hm hCC (all0 _ (.inl rfl)).1 (Nat.ne_of_lt (by rw [hC]; exact Nat.lt_succ_self _))
  have st3 : St 0 (pushCells H3 csc.names) := W.frame _ _ _ st fun b _ o e => up3 b o (up2 b o e)
  exact codeAny_compStart_list (loop _) (W.self 0 _ _ _ st3 (loop _))
end
end Mine

/-! St1 -/
namespace Mine

theorem seqIndex_cases {k : Int} {n j : Nat} (h : seqIndex? k n = some j) : (0 ≤ k ∧ k < n ∧ j = k.toNat) ∨ (k < 0 ∧ 0 ≤ k + n ∧ j = (k + n).toNat) := by
  unfold seqIndex? at h
  by_cases hk : k < 0
  · simp only [if_pos hk] at h
    split at h
    · rename_i hc
      rw [Bool.and_eq_true, decide_eq_true_eq, decide_eq_true_eq] at hc
      cases h
      exact .inr ⟨hk, hc.1, rfl⟩
    · cases h
  · simp only [if_neg hk] at h
    split at h
    · rename_i hc
      rw [Bool.and_eq_true, decide_eq_true_eq, decide_eq_true_eq] at hc
      cases h
      exact .inl ⟨hc.1, hc.2, rfl⟩
    · cases h

section
variable {prog : Program} {w : World} {A : Around} {E : Value → Shared → Prop} {s : Shared}
theorem set_ok {l : Addr} {items : Array Value} {n : Nat} {k : Int} {t : Tok} {v : Value} {j : Nat} {Q : Unit → Shared → Prop} (ho : s.heap.get? l = some (plainL items n)) (hj : seqIndex? k items.size = some j) (hm : items.size ≤ lim)
    (hQ : ∀ h' n', h'.get? l = some (plainL (items.setIfInBounds j v) n') → Heap.SameBut l s.heap h' → Q () { s with heap := h' }) :
    wpAny (model prog w) A (setItem (.ref l) (.int k t) v) Q E s := by
  have hl : s.heap.IsList l items := isList_of ho
  have hj' := seqIndex_cases hj
  unfold lim at hm
  have hfit : Builtin.List.listFitsIndex k = true := by
    unfold Builtin.List.listFitsIndex
    simp only [Bool.and_eq_true, decide_eq_true_eq]
    omega
  have hjl : j < items.size := by omega
  have hx' : items[j]? = some items[j] := Array.getElem?_eq_getElem hjl
  have hfin : ∃ n', (s.heap.update l (Obj.mapSeq (·.setIfInBounds j v))).get? l = some (plainL (items.setIfInBounds j v) n') := by
    have e : Obj.mapSeq (·.setIfInBounds j v) (plainL items n) = plainL (items.setIfInBounds j v) n ∨ ∃ n', Obj.mapSeq (·.setIfInBounds j v) (plainL items n) = plainL (items.setIfInBounds j v) n' := by
      right
      exact ⟨_, by simp only [Obj.mapSeq, plainL]; rfl⟩
    obtain ⟨n', e⟩ : ∃ n', Obj.mapSeq (·.setIfInBounds j v) (plainL items n) = plainL (items.setIfInBounds j v) n' := e.elim (fun q => ⟨n, q⟩) id
    refine ⟨n', ?_⟩
    rw [Heap.get?_update_self _ ho (by rw [e]; rfl), e]
  obtain ⟨n', hfin⟩ := hfin
  unfold setItem
  try with_reducible refine wpAny_holding ?_
  first | refine wpAny_bind (wpAny_pure ?_) | skip
  refine wpAny_bind (wpAny_sequenceKey hl.typeIs (by decide) ?_)
  refine wpAny_bind (wpAny_callSpecial?_slot (name := Str.ofString "__setitem__") hl.typeIs slot_list_setitem
    (wpAny_call_entry slot_list_setitem hl.typeIs entry_list_setitem ?_ (args_list_setitem _ _ _)))
  show wpAny _ _ (Builtin.List.listSubscript? (.int k t) >>= _) _ _ s
  refine wpAny_bind (wpAny_listSubscript_int hfit ?_)
  clear hfit
  cases k with
  | ofNat m =>
    have hmj : m = j := by
      rcases hj' with ⟨_, _, q⟩ | ⟨q, _⟩
      · rw [q]; rfl
      · exact absurd q (by simp)
    subst hmj
    show wpAny _ _ ((seqItemAt l m >>= fun r => pure (r.map (m, ·))) >>= _) _ _ s
    refine wpAny_bind (wpAny_bind (wpAny_seqItemAt ho rfl (wpAny_pure ?_)))
    rw [hx']
    show wpAny _ _ (setSeqItemAt l m v >>= _) _ _ s
    refine wpAny_bind (wpAny_setSeqItemAt ho rfl ?_)
    first
      | exact wpAny_bind (wpAny_pure (wpAny_pure ⟨.none, rfl, wpAny_pure (hQ _ _ hfin (Heap.SameBut.update ..))⟩))
      | exact wpAny_pure ⟨.none, rfl, wpAny_pure (hQ _ _ hfin (Heap.SameBut.update ..))⟩
  | negSucc m =>
    show wpAny _ _ ((Builtin.List.listItems (.ref l) >>= fun xs => pure ((seqIndex? (Int.negSucc m) xs.size).bind fun i => xs[i]?.map (i, ·))) >>= _) _ _ s
    refine wpAny_bind (wpAny_bind ?_)
    show wpAny _ _ (seqItems? (.ref l) >>= _) _ _ s
    refine wpAny_bind (wpAny_seqItems ho rfl (wpAny_pure (wpAny_pure ?_)))
    rw [hj]
    simp only [Option.bind_some, hx', Option.map_some]
    show wpAny _ _ (setSeqItemAt l j v >>= _) _ _ s
    refine wpAny_bind (wpAny_setSeqItemAt ho rfl ?_)
    first
      | exact wpAny_bind (wpAny_pure (wpAny_pure ⟨.none, rfl, wpAny_pure (hQ _ _ hfin (Heap.SameBut.update ..))⟩))
      | exact wpAny_pure ⟨.none, rfl, wpAny_pure (hQ _ _ hfin (Heap.SameBut.update ..))⟩
end
end Mine

/-! St2 -/
namespace Mine

/-- an address that this frame alone writes to -/
structure Priv (h0 : Heap) (F : Fz) (RS : Addr → Prop) (a : Addr) : Prop where
  old : h0.get? a = none
  frz : F a = none
  res : ¬ RS a

/-- a frame's state -/
structure FR (K : Frag) (mg mb : Str → Option Value) (sc : Scope) (env : Env) (h0 : Heap) (RS : Addr → Prop) (F : Fz) (ρ : Rho) (val : Str → Option Value) (h : Heap) : Prop where
  glb : Glb K mg mb h
  kf : KF K F
  fin : ∀ b o, F b = some o → h.get? b = some o
  kind : env.scope.kind = .function
  gl : env.globals = mainGlobals
  bu : env.builtins = builtinsNs
  kinds : ∀ x, env.kindOf x = sc.names.lookup x
  nofree : ∀ x, sc.names.lookup x ≠ some .free
  keep : ∀ b o, h0.get? b = some o → h.get? b = some o
  ns : ∃ m, h.Ns env.locals m ∧ ∀ x, sc.names.lookup x = some .local → m x = val x
  privL : Priv h0 F RS env.locals
  cells : ∀ x, sc.names.lookup x = some .cell → ∃ c, env.cells.lookup x = some c ∧ h.IsCell c (val x) ∧ Priv h0 F RS c
  inj : ∀ x y c, env.cells.lookup x = some c → env.cells.lookup y = some c → x = y
  dom : ∀ x p, ρ x = some p → localOrCell sc x = true
  vars : ∀ x d, ρ x = some (false, d) → ∃ v, val x = some v ∧ VR F v d
  own : ∀ x d, ρ x = some (true, d) → ∃ a items n xs, val x = some (.ref a) ∧ d = .list xs ∧ h.get? a = some (plainL items n) ∧ VRs F items.toList xs ∧ Priv h0 F RS a
  sep : ∀ x y dx dy v, ρ x = some (true, dx) → ρ y = some (true, dy) → val x = some v → val y = some v → x = y
  res : ∀ b, RS b → F b = none ∧ h0.get? b = none ∧ ∃ o, h.get? b = some o

section
variable {K : Frag} {mg mb : Str → Option Value} {sc : Scope} {env : Env} {h0 : Heap} {RS : Addr → Prop} {F : Fz} {ρ : Rho} {val : Str → Option Value} {h : Heap}

theorem localOrCell_iff {x : Str} : localOrCell sc x = true ↔ sc.names.lookup x = some .local ∨ sc.names.lookup x = some .cell := by
  unfold localOrCell; rw [Bool.or_eq_true, beq_iff_eq, beq_iff_eq]

theorem FR.slot (R : FR K mg mb sc env h0 RS F ρ val h) {x : Str} {v : Value} (hx : localOrCell sc x = true) (hv : val x = some v) : Slot env h x v := by
  rcases localOrCell_iff.mp hx with q | q
  · obtain ⟨m, hm, e⟩ := R.ns
    exact .inl ⟨by rw [R.kinds, q], m, hm, by rw [e x q, hv]⟩
  · obtain ⟨c, hc, hcell, _⟩ := R.cells x q
    exact .inr ⟨.inl (by rw [R.kinds, q]), c, hc, hv ▸ hcell⟩

theorem FR.er (R : FR K mg mb sc env h0 RS F ρ val h) : ER K mg mb sc env F ρ h :=
  ⟨R.glb, R.kf, R.fin, R.kind, R.gl, R.bu, fun x => .inl (R.kinds x), fun x hx => by
      rcases hx with q | q
      · obtain ⟨c, hc, _⟩ := R.cells x q; exact ⟨c, hc⟩
      · exact absurd q (R.nofree x),
    fun x o d hx hv => by
      have hd := R.dom x _ hx
      cases o with
      | false =>
        obtain ⟨v, hv, r⟩ := R.vars x d hx
        exact ⟨v, R.slot hd hv, .frz r, fun _ => r⟩
      | true =>
        obtain ⟨a, items, n, xs, hv, rfl, ha, r, p⟩ := R.own x d hx
        exact ⟨_, R.slot hd hv, .own ha r, fun q => by cases q⟩⟩

theorem FR.exL (R : FR K mg mb sc env h0 RS F ρ val h) : ∃ o, h.get? env.locals = some o := by
  obtain ⟨m, ⟨o, _, _, ho, _⟩, _⟩ := R.ns; exact ⟨o, ho⟩

theorem Priv.ext {a : Addr} {F' : Fz} {h' : Heap} (p : Priv h0 F RS a) (x : Ext F h F' h') (ha : ∃ o, h.get? a = some o) : Priv h0 F' RS a :=
  ⟨p.old, (by
    cases q : F' a with
    | none => rfl
    | some o =>
      rcases x.new _ _ q with q | q
      · rw [p.frz] at q; cases q
      · obtain ⟨o', e⟩ := ha; rw [q] at e; cases e), p.res⟩

theorem FR.ext (R : FR K mg mb sc env h0 RS F ρ val h) {F' : Fz} {h' : Heap} (x : Ext F h F' h') : FR K mg mb sc env h0 RS F' ρ val h' :=
  ⟨R.glb.keeps x.keep, fun a o k c => x.mono _ _ (R.kf a o k c), x.fin, R.kind, R.gl, R.bu, R.kinds, R.nofree, fun b o e => x.keep _ _ (R.keep b o e),
    (by obtain ⟨m, hm, e⟩ := R.ns; exact ⟨m, hm.keeps x.keep, e⟩), R.privL.ext x R.exL,
    fun y hy => by obtain ⟨c, hc, hcell, p⟩ := R.cells y hy; exact ⟨c, hc, hcell.keeps x.keep, p.ext x (by obtain ⟨o, ho, _⟩ := hcell; exact ⟨o, ho⟩)⟩,
    R.inj, R.dom, fun y d hy => by obtain ⟨v, hv, r⟩ := R.vars y d hy; exact ⟨v, hv, r.mono x.mono⟩,
    fun y d hy => by obtain ⟨a, items, n, xs, hv, hd, ha, r, p⟩ := R.own y d hy; exact ⟨a, items, n, xs, hv, hd, x.keep _ _ ha, r.mono x.mono, p.ext x ⟨_, ha⟩⟩,
    R.sep, fun b hb => by
      obtain ⟨h1, h2, h3⟩ := R.res b hb
      refine ⟨?_, h2, h3.imp fun o e => x.keep _ _ e⟩
      cases q : F' b with
      | none => rfl
      | some o =>
        rcases x.new _ _ q with q | q
        · rw [h1] at q; cases q
        · obtain ⟨o', e⟩ := h3; rw [q] at e; cases e⟩

/-- more is frozen: nothing that stood when the frame began -/
structure Grow (h0 : Heap) (F F' : Fz) : Prop where
  mono : ∀ b o, F b = some o → F' b = some o
  new : ∀ b o, F' b = some o → F b = some o ∨ h0.get? b = none
theorem Grow.refl (h0 : Heap) (F : Fz) : Grow h0 F F := ⟨fun _ _ e => e, fun _ _ e => .inl e⟩
theorem Grow.trans {F F' F'' : Fz} (a : Grow h0 F F') (b : Grow h0 F' F'') : Grow h0 F F'' :=
  ⟨fun x o e => b.mono x o (a.mono x o e), fun x o e => (b.new x o e).elim (fun q => a.new x o q) .inr⟩
theorem FR.grow (R : FR K mg mb sc env h0 RS F ρ val h) {F' : Fz} {h' : Heap} (x : Ext F h F' h') : Grow h0 F F' :=
  ⟨x.mono, fun b o e => (x.new b o e).imp id (none_back R.keep)⟩

open Classical in
/-- the names' lists, now frozen -/
noncomputable def frzF (F : Fz) (ρ : Rho) (val : Str → Option Value) (h : Heap) (xs : List Str) : Fz :=
  fun b => if ∃ x d, x ∈ xs ∧ ρ x = some (true, d) ∧ val x = some (.ref b) then h.get? b else F b

theorem frz_some {xs : List Str} {x : Str} {o : Bool} {d : D} (hx : frz ρ xs x = some (o, d)) : (x ∉ xs ∧ ρ x = some (o, d)) ∨ (x ∈ xs ∧ o = false ∧ ∃ o', ρ x = some (o', d)) := by
  cases xs with
  | nil => exact .inl ⟨by simp, hx⟩
  | cons y r =>
    unfold frz at hx
    dsimp only at hx
    split at hx
    · rename_i hc
      rw [Option.map_eq_some_iff] at hx
      obtain ⟨⟨o', d'⟩, h1, h2⟩ := hx
      cases h2
      exact .inr ⟨by simpa using hc, rfl, o', h1⟩
    · rename_i hc
      exact .inl ⟨by simpa using hc, hx⟩

theorem FR.frz (R : FR K mg mb sc env h0 RS F ρ val h) (xs : List Str) : Grow h0 F (frzF F ρ val h xs) ∧ FR K mg mb sc env h0 RS (frzF F ρ val h xs) (Mine.frz ρ xs) val h := by
  have mono : ∀ b o, F b = some o → frzF F ρ val h xs b = some o := fun b o e => by
    unfold frzF
    split
    · exact R.fin _ _ e
    · exact e
  have notown : ∀ {b : Addr} {v : Data}, (∃ o, h.get? b = some o ∧ o.data = v) → (∀ items n, v ≠ .seq items n) → F b = none → frzF F ρ val h xs b = none := fun {b v} hb hv hF => by
    unfold frzF
    split
    · rename_i hc
      obtain ⟨x, d, _, hx, hvx⟩ := hc
      obtain ⟨a, items, n, xs', hv', _, ha, _⟩ := R.own x d hx
      rw [hvx] at hv'; cases hv'
      obtain ⟨o, ho, hd⟩ := hb
      rw [ha] at ho; cases ho
      exact absurd hd.symm (hv _ _)
    · exact hF
  have new : ∀ b o, frzF F ρ val h xs b = some o → F b = some o ∨ h0.get? b = none := fun b o e => by
    unfold frzF at e
    split at e
    · rename_i hc
      obtain ⟨x, d, _, hx, hvx⟩ := hc
      obtain ⟨a, _, _, _, hv', _, _, _, p⟩ := R.own x d hx
      rw [hvx] at hv'; cases hv'
      exact .inr p.old
    · exact .inl e
  refine ⟨⟨mono, new⟩, R.glb, fun a o k c => mono _ _ (R.kf a o k c), fun b o e => ?_, R.kind, R.gl, R.bu, R.kinds, R.nofree, R.keep, R.ns, ?_, fun x hx => ?_, R.inj, fun x p hx => ?_, fun x d hx => ?_, fun x d hx => ?_, fun x y dx dy v hx hy hvx hvy => ?_, fun b hb => ?_⟩
  · unfold frzF at e
    split at e
    · exact e
    · exact R.fin _ _ e
  · refine ⟨R.privL.old, ?_, R.privL.res⟩
    obtain ⟨m, ⟨o, es, ep, ho, hd, _⟩, _⟩ := R.ns
    exact notown ⟨o, ho, hd⟩ (fun _ _ q => by cases q) R.privL.frz
  · obtain ⟨c, hc, hcell, p⟩ := R.cells x hx
    exact ⟨c, hc, hcell, p.old, by obtain ⟨o, ho, hd⟩ := hcell; exact notown ⟨o, ho, hd⟩ (fun _ _ q => by cases q) p.frz, p.res⟩
  · obtain ⟨o, d⟩ := p
    rcases frz_some hx with ⟨_, q⟩ | ⟨_, _, o', q⟩ <;> exact R.dom x _ q
  · rcases frz_some hx with ⟨_, q⟩ | ⟨hm, _, o', q⟩
    · obtain ⟨v, hv, r⟩ := R.vars x d q; exact ⟨v, hv, r.mono mono⟩
    · cases o' with
      | false => obtain ⟨v, hv, r⟩ := R.vars x d q; exact ⟨v, hv, r.mono mono⟩
      | true =>
        obtain ⟨a, items, n, ys, hv, rfl, ha, r, p⟩ := R.own x d q
        refine ⟨_, hv, .list (o := plainL items n) (items := items) (n := n) ?_ rfl rfl (r.mono mono)⟩
        unfold frzF
        rw [if_pos ⟨x, _, hm, q, hv⟩, ha]
  · rcases frz_some hx with ⟨hm, q⟩ | ⟨_, q, _⟩
    · obtain ⟨a, items, n, ys, hv, rfl, ha, r, p⟩ := R.own x d q
      refine ⟨a, items, n, ys, hv, rfl, ha, r.mono mono, p.old, ?_, p.res⟩
      unfold frzF
      rw [if_neg]
      · exact p.frz
      · rintro ⟨y, dy, hy, hy2, hvy⟩
        exact hm ((R.sep _ _ _ _ _ hy2 q hvy hv) ▸ hy)
    · cases q
  · rcases frz_some hx with ⟨_, q⟩ | ⟨_, q, _⟩
    · rcases frz_some hy with ⟨_, q'⟩ | ⟨_, q', _⟩
      · exact R.sep _ _ _ _ _ q q' hvx hvy
      · cases q'
    · cases q
  · obtain ⟨h1, h2, h3⟩ := R.res b hb
    refine ⟨?_, h2, h3⟩
    unfold frzF
    rw [if_neg]
    · exact h1
    · rintro ⟨y, dy, hy, hy2, hvy⟩
      obtain ⟨a, items, n, ys, hv, _, ha, _, p⟩ := R.own y dy hy2
      rw [hvy] at hv; cases hv
      exact p.res hb

/-- what a store into a name needs of the value -/
def Stor (h0 : Heap) (RS : Addr → Prop) (F : Fz) (ρ : Rho) (val : Str → Option Value) (h : Heap) (x : Str) (o : Bool) (v : Value) (d : D) : Prop :=
  (o = false ∧ VR F v d) ∨ (o = true ∧ ∃ a items n xs, v = .ref a ∧ d = .list xs ∧ h.get? a = some (plainL items n) ∧ VRs F items.toList xs ∧ Priv h0 F RS a ∧ ∀ y dy, ρ y = some (true, dy) → val y ≠ some (.ref a))

theorem IsCell_ne {h : Heap} {c a : Addr} {v items n} (hc : h.IsCell c v) (ha : h.get? a = some (plainL items n)) : a ≠ c := by
  rintro rfl
  obtain ⟨o, ho, hd⟩ := hc
  rw [ha] at ho; cases ho; cases hd
theorem Ns_ne {h : Heap} {c a : Addr} {m items n} (hc : h.Ns c m) (ha : h.get? a = some (plainL items n)) : a ≠ c := by
  rintro rfl
  obtain ⟨o, _, _, ho, hd, _⟩ := hc
  rw [ha] at ho; cases ho; cases hd
theorem Ns_IsCell {h : Heap} {c a : Addr} {m v} (hc : h.IsCell c v) (ha : h.Ns a m) : a ≠ c := by
  rintro rfl
  obtain ⟨o, _, _, ho, hd, _⟩ := ha
  obtain ⟨o', ho', hd'⟩ := hc
  rw [ho] at ho'; cases ho'
  rw [hd] at hd'; cases hd'

theorem Glb.offp (G : Glb K mg mb h) {h' : Heap} (hk : ∀ b o, h0.get? b = some o → h'.get? b = some o) (G0 : Glb K mg mb h0) : Glb K mg mb h' := G0.keeps hk

theorem FR.store {M : Model} {A : Around} {E : Value → Shared → Prop} {s : Shared} (G0 : Glb K mg mb h0) (R : FR K mg mb sc env h0 RS F ρ val s.heap) {x : Str} (hx : localOrCell sc x = true) {o : Bool} {v : Value} {d : D} (st : Stor h0 RS F ρ val s.heap x o v d)
    {Q : Unit → Shared → Prop} (k : ∀ h' tk, FR K mg mb sc env h0 RS F (upd ρ x o d) (fun y => if y = x then some v else val y) h' → (∀ b, RS b → h'.get? b = s.heap.get? b) → Q () { s with heap := h', toks := tk }) :
    wpAny M A (storeName env x v) Q E s := by
  -- what holds whatever the place is
  have gen : ∀ (p : Addr) (h' : Heap), Heap.SameBut p s.heap h' → Priv h0 F RS p → (∀ a items n, s.heap.get? a = some (plainL items n) → a ≠ p) →
      (∃ m, h'.Ns env.locals m ∧ ∀ y, sc.names.lookup y = some .local → m y = if y = x then some v else val y) →
      (∀ y, sc.names.lookup y = some .cell → ∃ c, env.cells.lookup y = some c ∧ h'.IsCell c (if y = x then some v else val y) ∧ Priv h0 F RS c) → (∃ o, h'.get? p = some o) →
      FR K mg mb sc env h0 RS F (upd ρ x o d) (fun y => if y = x then some v else val y) h' ∧ (∀ b, RS b → h'.get? b = s.heap.get? b) := fun p h' hs hp hpl hns hcl hex => by
    have off : ∀ b o, b ≠ p → s.heap.get? b = some o → h'.get? b = some o := hs.extBut
    have keep : ∀ b o, h0.get? b = some o → h'.get? b = some o := fun b o e => off b o (fun q => by rw [q, hp.old] at e; cases e) (R.keep b o e)
    have sameR : ∀ b, RS b → h'.get? b = s.heap.get? b := fun b hb => hs.2 b (fun q => hp.res (q ▸ hb))
    refine ⟨⟨G0.keeps keep, R.kf, fun b o e => off b o (fun q => by rw [q, hp.frz] at e; cases e) (R.fin b o e), R.kind, R.gl, R.bu, R.kinds, R.nofree, keep, hns, R.privL, hcl, R.inj, fun y q hy => ?_, fun y d' hy => ?_, fun y d' hy => ?_, fun y z dy dz u hy hz hvy hvz => ?_, fun b hb => ?_⟩, sameR⟩
    · unfold upd at hy; split at hy
      · rename_i e; rw [e]; exact hx
      · exact R.dom _ _ hy
    · unfold upd at hy; split at hy
      · rename_i e
        cases hy
        rcases st with ⟨_, r⟩ | ⟨q, _⟩
        · exact ⟨v, if_pos e, r⟩
        · cases q
      · rename_i e
        obtain ⟨u, hu, r⟩ := R.vars _ _ hy
        exact ⟨u, by rw [if_neg e]; exact hu, r⟩
    · unfold upd at hy; split at hy
      · rename_i e
        cases hy
        rcases st with ⟨q, _⟩ | ⟨_, a, items, n, xs, rfl, rfl, ha, r, p', _⟩
        · cases q
        · exact ⟨a, items, n, xs, if_pos e, rfl, off _ _ (hpl _ _ _ ha) ha, r, p'⟩
      · rename_i e
        obtain ⟨a, items, n, xs, hu, rfl, ha, r, p'⟩ := R.own _ _ hy
        exact ⟨a, items, n, xs, by rw [if_neg e]; exact hu, rfl, off _ _ (hpl _ _ _ ha) ha, r, p'⟩
    · unfold upd at hy hz
      by_cases ey : y = x
      · by_cases ez : z = x
        · rw [ey, ez]
        · exfalso
          rw [if_pos ey] at hy hvy
          rw [if_neg ez] at hz hvz
          cases hy; cases hvy
          rcases st with ⟨q, _⟩ | ⟨_, a, items, n, xs, rfl, rfl, ha, r, p', hne⟩
          · cases q
          · exact hne z _ hz hvz
      · by_cases ez : z = x
        · exfalso
          rw [if_pos ez] at hz hvz
          rw [if_neg ey] at hy hvy
          cases hz; cases hvz
          rcases st with ⟨q, _⟩ | ⟨_, a, items, n, xs, rfl, rfl, ha, r, p', hne⟩
          · cases q
          · exact hne y _ hy hvy
        · rw [if_neg ey] at hy hvy
          rw [if_neg ez] at hz hvz
          exact R.sep _ _ _ _ _ hy hz hvy hvz
    · obtain ⟨h1, h2, h3⟩ := R.res b hb
      exact ⟨h1, h2, by rw [sameR b hb]; exact h3⟩
  obtain ⟨m, hm, em⟩ := R.ns
  rcases localOrCell_iff.mp hx with q | q
  · refine wpAny_storeName_local (by rw [R.kinds, q]) hm (fun h' hn hs => ?_) (by rw [R.kind]; rfl)
    obtain ⟨h1, h2⟩ := gen env.locals h' hs R.privL (fun a items n e => Ns_ne hm e) ⟨_, hn, fun y hy => by
      split
      · rfl
      · exact em y hy⟩ (fun y hy => by
        obtain ⟨c, hc, hcell, p⟩ := R.cells y hy
        have hyx : y ≠ x := fun e => by rw [e, q] at hy; cases hy
        exact ⟨c, hc, by rw [if_neg hyx]; exact hcell.sameBut hs (Ns_IsCell hcell hm).symm, p⟩) (by obtain ⟨o, _, _, ho, _⟩ := hn; exact ⟨o, ho⟩)
    exact k h' _ h1 h2
  · obtain ⟨c, hc, hcell, p⟩ := R.cells x q
    refine wpAny_storeName_cell R.kind (by rw [R.kinds, q]) hc hcell fun h' hcell' hs => ?_
    obtain ⟨h1, h2⟩ := gen c h' hs p (fun a items n e => IsCell_ne hcell e) ⟨m, hm.sameBut hs (Ns_IsCell hcell hm), fun y hy => by
      have hyx : y ≠ x := fun e => by rw [e, q] at hy; cases hy
      rw [if_neg hyx]; exact em y hy⟩ (fun y hy => by
        by_cases hyx : y = x
        · subst hyx; exact ⟨c, hc, by rw [if_pos rfl]; exact hcell', p⟩
        · obtain ⟨c', hc', hcell'', p'⟩ := R.cells y hy
          exact ⟨c', hc', by rw [if_neg hyx]; exact hcell''.sameBut hs (fun e => hyx (R.inj _ _ _ hc' (e ▸ hc))), p'⟩) (by obtain ⟨o, ho, _⟩ := hcell'; exact ⟨o, ho⟩)
    exact k h' s.toks h1 h2

/-- an own list is changed in place -/
theorem FR.mut (G0 : Glb K mg mb h0) (R : FR K mg mb sc env h0 RS F ρ val h) {x : Str} {d : D} (hx : ρ x = some (true, d)) {a : Addr} (hv : val x = some (.ref a)) {h' : Heap} (hs : Heap.SameBut a h h') {items : Array Value} {n : Nat} {xs : List D}
    (ha : h'.get? a = some (plainL items n)) (r : VRs F items.toList xs) : FR K mg mb sc env h0 RS F (upd ρ x true (.list xs)) val h' ∧ (∀ b, RS b → h'.get? b = h.get? b) := by
  obtain ⟨a', items', n', xs', hv', hd, ha', r', p⟩ := R.own x d hx
  rw [hv] at hv'; cases hv'
  have off : ∀ b o, b ≠ a → h.get? b = some o → h'.get? b = some o := hs.extBut
  have keep : ∀ b o, h0.get? b = some o → h'.get? b = some o := fun b o e => off b o (fun q => by rw [q, p.old] at e; cases e) (R.keep b o e)
  have sameR : ∀ b, RS b → h'.get? b = h.get? b := fun b hb => hs.2 b (fun q => p.res (q ▸ hb))
  obtain ⟨m, hm, em⟩ := R.ns
  refine ⟨⟨G0.keeps keep, R.kf, fun b o e => off b o (fun q => by rw [q, p.frz] at e; cases e) (R.fin b o e), R.kind, R.gl, R.bu, R.kinds, R.nofree, keep, ⟨m, hm.sameBut hs (Ne.symm (Ns_ne hm ha')), em⟩, R.privL, fun y hy => ?_, R.inj, fun y q hy => ?_, fun y d' hy => ?_, fun y d' hy => ?_, fun y z dy dz u hy hz hvy hvz => ?_, fun b hb => ?_⟩, sameR⟩
  · obtain ⟨c, hc, hcell, p'⟩ := R.cells y hy
    exact ⟨c, hc, hcell.sameBut hs (Ne.symm (IsCell_ne hcell ha')), p'⟩
  · unfold upd at hy; split at hy
    · rename_i e; rw [e]; exact R.dom _ _ hx
    · exact R.dom _ _ hy
  · unfold upd at hy; split at hy
    · cases hy
    · exact R.vars _ _ hy
  · unfold upd at hy; split at hy
    · rename_i e
      cases hy
      exact ⟨a, items, n, xs, by rw [e]; exact hv, rfl, ha, r, p⟩
    · rename_i e
      obtain ⟨a2, items2, n2, xs2, hv2, hd2, ha2, r2, p2⟩ := R.own _ _ hy
      refine ⟨a2, items2, n2, xs2, hv2, hd2, off _ _ (fun q => e ?_) ha2, r2, p2⟩
      exact R.sep _ _ _ _ _ hy hx hv2 (q ▸ hv)
  · have back : ∀ y d, upd ρ x true (.list xs) y = some (true, d) → ∃ d', ρ y = some (true, d') := fun y d hy => by
      unfold upd at hy; split at hy
      · rename_i e; rw [e]; exact ⟨_, hx⟩
      · exact ⟨_, hy⟩
    obtain ⟨d1, h1⟩ := back y dy hy
    obtain ⟨d2, h2⟩ := back z dz hz
    exact R.sep _ _ _ _ _ h1 h2 hvy hvz
  · obtain ⟨h1, h2, h3⟩ := R.res b hb
    exact ⟨h1, h2, by rw [sameR b hb]; exact h3⟩
end
end Mine

/-! St3 -/
namespace Mine

def FreshOk (prog : Program) (w : World) (A : Around) (F : Fz) (s : Shared) (ds : List D) (t : Sem Value) : Prop :=
  ∀ (Q : Value → Shared → Prop) (E : Value → Shared → Prop), (∀ a items n h' tk F', Ext F s.heap F' h' → F' a = none → s.heap.get? a = none → h'.get? a = some (plainL items n) → VRs F' items.toList ds → Q (.ref a) { s with heap := h', toks := tk }) → wpAny (model prog w) A t Q E s

def SoundU (K : Frag) (mg mb : Str → Option Value) (prog : Program) (w : World) (i : In) (n : Nat) : Prop :=
  ∀ sc ρ wk elt gens csc pos d, i.ev sc ρ wk (.ListComp elt gens csc pos) = .ok d → ∃ ds, d = .list ds ∧ ∀ A env F s use Q E p, AOk A n → ER K mg mb sc env F ρ s.heap →
    (∀ D C h' tk F' items k m', Ext F s.heap F' h' → F' D = none → s.heap.get? D = none → h'.get? D = some (plainL items k) → VRs F' items.toList ds → h'.Ns C m' → F' C = none → s.heap.get? C = none → D ≠ C →
      compPost (model prog w) A E use Q (.ref D) C (.ok .next) { s with heap := h', toks := tk }) →
    wpAny (model prog w) A (comprehension (.ListComp elt gens csc pos) csc env p (newList []) (firstAsync gens) (firstIter gens env) use) Q E s

def SoundF (K : Frag) (mg mb : Str → Option Value) (prog : Program) (w : World) (i : In) (n : Nat) : Prop :=
  ∀ sc ρ wk e d, freshE e = true → i.ev sc ρ wk e = .ok d → ∃ ds, d = .list ds ∧ ∀ A env F s, AOk A n → ER K mg mb sc env F ρ s.heap → FreshOk prog w A F s ds (eval e env)

section
variable {K : Frag} {mg mb : Str → Option Value} {prog : Program} {w : World} {i : In} {n : Nat}

theorem compE_soundU (hi : SoundE K mg mb prog w i n) (ht : SoundT K mg mb prog w i n) : SoundU K mg mb prog w (nxt K i) n := by
  intro sc ρ wk elt gens csc pos d h
  replace h : evN K i sc ρ wk (.ListComp elt gens csc pos) = .ok d := h
  unfold evN at h
  dsimp only at h
  obtain ⟨ds, hds, h2⟩ := Out.bind_ok h
  cases h2
  exact ⟨ds, rfl, fun A env F s use Q E p hA R k => comp_core hi ht hds hA R k⟩

theorem soundU_fresh (hu : SoundU K mg mb prog w i n) {sc : Scope} {ρ : Rho} {wk : Bool} {elt : Expr} {gens : List Comprehension} {csc : Scope} {pos : Pos} {d : D} (h : i.ev sc ρ wk (.ListComp elt gens csc pos) = .ok d) :
    ∃ ds, d = .list ds ∧ ∀ A env F s, AOk A n → ER K mg mb sc env F ρ s.heap → firstAsync gens = false → FreshOk prog w A F s ds (eval (.ListComp elt gens csc pos) env) := by
  obtain ⟨ds, rfl, go⟩ := hu _ _ _ _ _ _ _ _ h
  refine ⟨ds, rfl, fun A env F s hA R hfa Q E k => ?_⟩
  rw [eval_ListComp]
  refine go A env F s none Q E _ hA R fun D C h' tk F' items kk m' x hD hD0 hget hit hns hC hC0 hDC => ⟨m', hns, fun h'' hs => ?_⟩
  exact k D items kk h'' tk F' (x.but hs.extBut hC0 hC) hD hD0 (hs.extBut D _ hDC hget) hit

theorem FreshOk.eok {A : Around} {F : Fz} {s : Shared} {wk : Bool} {ds : List D} {t : Sem Value} (h : FreshOk prog w A F s ds t) : EOk prog w A F s wk (.list ds) t := fun Q E k =>
  h Q E fun a items n h' tk F' x ha h0 hg r => by
    have x' := x.add h0 ha hg
    have r' : VR (addF F' a (plainL items n)) (.ref a) (.list ds) := .list addF_self rfl rfl (r.mono fun b o e => by
      unfold addF; split
      · rename_i q; rw [q, ha] at e; cases e
      · exact e)
    exact k _ _ _ _ x' (.frz r') fun _ => r'

theorem soundL_of (hi : SoundE K mg mb prog w i n) (ht : SoundT K mg mb prog w i n) : SoundL K mg mb prog w i n := by
  intro sc ρ elt gens csc pos ds hds A env F s wk hA R
  refine FreshOk.eok fun Q E k => ?_
  rw [eval_ListComp]
  refine comp_core hi ht hds hA R fun D C h' tk F' items kk m' x hD hD0 hget hit hns hC hC0 hDC => ⟨m', hns, fun h'' hs => ?_⟩
  exact k D items kk h'' tk F' (x.but hs.extBut hC0 hC) hD hD0 (hs.extBut D _ hDC hget) hit

theorem mul_fresh {A : Around} {F : Fz} {s : Shared} {xs : List D} {b d : D} {va vb : Value} (h : binD .Mult (.list xs) b = .ok d) (fin : ∀ b o, F b = some o → s.heap.get? b = some o) (ra : VW F s.heap va (.list xs)) (rb : VW F s.heap vb b) :
    ∃ ds, d = .list ds ∧ FreshOk prog w A F s ds (binaryOp .Mult va vb) := by
  cases b with
  | int n =>
    unfold binD at h
    dsimp only at h
    split at h
    · rename_i hm
      cases h
      obtain ⟨a, ia, na, rfl, ea, qa⟩ := ra.list fin
      obtain ⟨u, rfl⟩ := rb.intv
      have l1 := qa.length
      rw [Array.length_toList] at l1
      rw [lim_eq] at hm
      refine ⟨_, rfl, fun Q E k => mul_list_raw ea (by omega) (by omega) (by rw [l1]; omega) (k _ _ _ _ s.toks F (Ext.of_keep fin fun _ _ e => Heap.get?_push_of_some _ e) (fresh_F fin (none_size _)) (none_size _) (Heap.get?_push_size _ rfl) ?_)⟩
      have hne : ia.isEmpty = false := by rw [Array.isEmpty_eq_false_iff_exists_mem]; have : 0 < ia.size := by omega
                                          exact ⟨ia[0], Array.getElem_mem _⟩
      rw [hne, foldl_cat]
      simpa using qa.rep n.toNat
    · cases h
  | _ => unfold binD at h; cases h

theorem fresh_ok (hi : SoundE K mg mb prog w i n) (ht : SoundT K mg mb prog w i n) (hfr : SoundF K mg mb prog w i n) : SoundF K mg mb prog w (nxt K i) n := by
  intro sc ρ wk e d hfe h
  replace h : evN K i sc ρ wk e = .ok d := h
  unfold freshE at hfe
  split at hfe
  · rename_i es pos
    unfold evN at h
    dsimp only at h
    obtain ⟨ds, hds, h2⟩ := Out.bind_ok h
    split at h2
    · rename_i hlen
      cases h2
      unfold lim at hlen
      refine ⟨ds, rfl, fun A env F s hA R Q E k => wpAny_List (evs_ok hi hds hA R fun vs h' tk F' x vw vr => ?_)⟩
      have l1 := (vr rfl).length
      refine ⟨by rw [sizeLine_eq]; omega, k h'.objs.size vs.toArray 0 _ tk F' (x.trans (Ext.of_keep x.fin fun _ _ e => Heap.get?_push_of_some _ e)) (fresh_F x.fin (none_size _)) (none_back x.keep (none_size _)) (Heap.get?_push_size _ rfl) (vr rfl)⟩
    · cases h2
  · rename_i elt gens csc pos
    obtain ⟨ds, rfl, go⟩ := compE_soundU hi ht sc ρ wk elt gens csc pos d h
    refine ⟨ds, rfl, fun A env F s hA R Q E k => ?_⟩
    rw [eval_ListComp]
    refine go A env F s none Q E _ hA R fun D C h' tk F' items kk m' x hD hD0 hget hit hns hC hC0 hDC => ⟨m', hns, fun h'' hs => ?_⟩
    exact k D items kk h'' tk F' (x.but hs.extBut hC0 hC) hD hD0 (hs.extBut D _ hDC hget) hit
  · rename_i es p1 r p2
    unfold evN at h
    dsimp only at h
    obtain ⟨a, ha, h2⟩ := Out.bind_ok h
    obtain ⟨b, hb, h3⟩ := Out.bind_ok h2
    obtain ⟨as, rfl, _⟩ := hfr _ _ _ _ _ rfl ha
    have hd : ∃ ds, d = .list ds := by
      cases b with
      | int n =>
        unfold binD at h3
        dsimp only at h3
        split at h3
        · cases h3; exact ⟨_, rfl⟩
        · cases h3
      | _ => unfold binD at h3; cases h3
    obtain ⟨ds, rfl⟩ := hd
    refine ⟨ds, rfl, fun A env F s hA R Q E k => wpAny_BinOp (hi _ _ _ _ _ ha A env F s hA R _ _ fun v₁ h₁ tk₁ F₁ x₁ w₁ _ => ?_)⟩
    refine hi _ _ _ _ _ hb A env F₁ _ hA (ext_ER R x₁) _ _ fun v₂ h₂ tk₂ F₂ x₂ w₂ _ => ?_
    obtain ⟨ds', e, go⟩ := mul_fresh (prog := prog) (w := w) (A := A) (s := { s with heap := h₂, toks := tk₂ }) h3 x₂.fin (w₁.ext x₂) w₂
    cases e
    exact go _ _ fun a items nn h₃ tk₃ F₃ x₃ ha h0 hg r => k a items nn h₃ tk₃ F₃ ((x₁.trans x₂).trans x₃) ha (none_back (x₁.trans x₂).keep h0) hg r
  · cases hfe
end
end Mine

/-! St4 -/
namespace Mine

section
variable {K : Frag} {mg mb : Str → Option Value} {sc : Scope} {env : Env} {h0 : Heap} {RS : Addr → Prop} {F : Fz} {ρ : Rho} {val : Str → Option Value} {h : Heap}

theorem FR.same (R : FR K mg mb sc env h0 RS F ρ val h) {F' : Fz} {h' : Heap} (x : Ext F h F' h') : ∀ b, RS b → h'.get? b = h.get? b := fun b hb => by
  obtain ⟨_, _, o, e⟩ := R.res b hb
  rw [e, x.keep _ _ e]

theorem Priv.more {a I : Addr} (p : Priv h0 F RS a) (hne : a ≠ I) : Priv h0 F (fun b => RS b ∨ b = I) a := ⟨p.old, p.frz, fun q => q.elim p.res hne⟩
theorem Priv.less {a I : Addr} (p : Priv h0 F (fun b => RS b ∨ b = I) a) : Priv h0 F RS a := ⟨p.old, p.frz, fun q => p.res (.inl q)⟩

theorem FR.reserve (R : FR K mg mb sc env h0 RS F ρ val h) {F' : Fz} {h' : Heap} (x : Ext F h F' h') {I : Addr} (hI0 : h.get? I = none) (hIF : F' I = none) (hI : ∃ o, h'.get? I = some o) : FR K mg mb sc env h0 (fun b => RS b ∨ b = I) F' ρ val h' := by
  have R' := R.ext x
  have ne : ∀ {a o}, h.get? a = some o → a ≠ I := fun e q => by rw [q, hI0] at e; cases e
  refine ⟨R'.glb, R'.kf, R'.fin, R'.kind, R'.gl, R'.bu, R'.kinds, R'.nofree, R'.keep, R'.ns, R'.privL.more ?_, fun y hy => ?_, R'.inj, R'.dom, R'.vars, fun y d hy => ?_, R'.sep, fun b hb => ?_⟩
  · obtain ⟨o, e⟩ := R.exL; exact ne e
  · obtain ⟨c, hc, hcell, p⟩ := R'.cells y hy
    obtain ⟨c', hc', ⟨o, ho, _⟩, _⟩ := R.cells y hy
    rw [hc] at hc'; cases hc'
    exact ⟨c, hc, hcell, p.more (ne ho)⟩
  · obtain ⟨a, items, n, xs, hv, hd, ha, r, p⟩ := R'.own y d hy
    obtain ⟨a', _, _, _, hv', _, ha', _⟩ := R.own y d hy
    rw [hv] at hv'; cases hv'
    exact ⟨a, items, n, xs, hv, hd, ha, r, p.more (ne ha')⟩
  · rcases hb with hb | rfl
    · exact R'.res b hb
    · exact ⟨hIF, none_back R.keep hI0, hI⟩

theorem FR.release {I : Addr} (R : FR K mg mb sc env h0 (fun b => RS b ∨ b = I) F ρ val h) : FR K mg mb sc env h0 RS F ρ val h :=
  ⟨R.glb, R.kf, R.fin, R.kind, R.gl, R.bu, R.kinds, R.nofree, R.keep, R.ns, R.privL.less, fun y hy => by obtain ⟨c, hc, hcell, p⟩ := R.cells y hy; exact ⟨c, hc, hcell, p.less⟩, R.inj, R.dom, R.vars,
    fun y d hy => by obtain ⟨a, items, n, xs, hv, hd, ha, r, p⟩ := R.own y d hy; exact ⟨a, items, n, xs, hv, hd, ha, r, p.less⟩, R.sep, fun b hb => R.res b (.inl hb)⟩

/-- a change at a reserved place alone -/
theorem FR.tick (G0 : Glb K mg mb h0) {I : Addr} (hI : RS I) (R : FR K mg mb sc env h0 RS F ρ val h) {h' : Heap} (hk : ∀ b o, b ≠ I → h.get? b = some o → h'.get? b = some o) (he : ∃ o, h'.get? I = some o) :
    FR K mg mb sc env h0 RS F ρ val h' ∧ ∀ b, RS b → b ≠ I → h'.get? b = h.get? b := by
  have keep : ∀ b o, h0.get? b = some o → h'.get? b = some o := fun b o e => hk b o (fun q => by rw [q, (R.res I hI).2.1] at e; cases e) (R.keep b o e)
  have sameR : ∀ b, RS b → b ≠ I → h'.get? b = h.get? b := fun b hb hne => by
    obtain ⟨_, _, o, e⟩ := R.res b hb
    rw [e, hk _ _ hne e]
  refine ⟨⟨G0.keeps keep, R.kf, fun b o e => hk b o (fun q => by rw [q, (R.res I hI).1] at e; cases e) (R.fin b o e), R.kind, R.gl, R.bu, R.kinds, R.nofree, keep, ?_, R.privL, fun y hy => ?_, R.inj, R.dom, R.vars, fun y d hy => ?_, R.sep, fun b hb => ?_⟩, sameR⟩
  · obtain ⟨m, hm, em⟩ := R.ns
    exact ⟨m, hm.at' fun o e => hk _ o (fun q => R.privL.res (q ▸ hI)) e, em⟩
  · obtain ⟨c, hc, ⟨o, ho, hd⟩, p⟩ := R.cells y hy
    exact ⟨c, hc, ⟨o, hk _ _ (fun q => p.res (q ▸ hI)) ho, hd⟩, p⟩
  · obtain ⟨a, items, n, xs, hv, hd, ha, r, p⟩ := R.own y d hy
    exact ⟨a, items, n, xs, hv, hd, hk _ _ (fun q => p.res (q ▸ hI)) ha, r, p⟩
  · by_cases q : b = I
    · subst q; exact ⟨(R.res b hb).1, (R.res b hb).2.1, he⟩
    · obtain ⟨h1, h2, h3⟩ := R.res b hb
      exact ⟨h1, h2, by rw [sameR b hb q]; exact h3⟩

/-- .. and the place is given up -/
theorem FR.tickOff (G0 : Glb K mg mb h0) {I : Addr} (hI : ¬ RS I) (R : FR K mg mb sc env h0 (fun b => RS b ∨ b = I) F ρ val h) {h' : Heap} (hk : ∀ b o, b ≠ I → h.get? b = some o → h'.get? b = some o) :
    FR K mg mb sc env h0 RS F ρ val h' ∧ ∀ b, RS b → h'.get? b = h.get? b := by
  have hRI := R.res I (.inr rfl)
  have keep : ∀ b o, h0.get? b = some o → h'.get? b = some o := fun b o e => hk b o (fun q => by rw [q, hRI.2.1] at e; cases e) (R.keep b o e)
  have sameR : ∀ b, RS b → h'.get? b = h.get? b := fun b hb => by
    obtain ⟨_, _, o, e⟩ := R.res b (.inl hb)
    rw [e, hk _ _ (fun q => hI (q ▸ hb)) e]
  refine ⟨⟨G0.keeps keep, R.kf, fun b o e => hk b o (fun q => by rw [q, hRI.1] at e; cases e) (R.fin b o e), R.kind, R.gl, R.bu, R.kinds, R.nofree, keep, ?_, R.privL.less, fun y hy => ?_, R.inj, R.dom, R.vars, fun y d hy => ?_, R.sep, fun b hb => ?_⟩, sameR⟩
  · obtain ⟨m, hm, em⟩ := R.ns
    exact ⟨m, hm.at' fun o e => hk _ o (fun q => R.privL.res (.inr q)) e, em⟩
  · obtain ⟨c, hc, ⟨o, ho, hd⟩, p⟩ := R.cells y hy
    exact ⟨c, hc, ⟨o, hk _ _ (fun q => p.res (.inr q)) ho, hd⟩, p.less⟩
  · obtain ⟨a, items, n, xs, hv, hd, ha, r, p⟩ := R.own y d hy
    exact ⟨a, items, n, xs, hv, hd, hk _ _ (fun q => p.res (.inr q)) ha, r, p.less⟩
  · obtain ⟨h1, h2, h3⟩ := R.res b (.inl hb)
    exact ⟨h1, h2, by rw [sameR b hb]; exact h3⟩

theorem FR.load {M : Model} {A : Around} {E : Value → Shared → Prop} {s : Shared} (R : FR K mg mb sc env h0 RS F ρ val s.heap) {x : Str} {v : Value} (hx : localOrCell sc x = true) (hv : val x = some v) {Q : Value → Shared → Prop} (k : Q v s) : wpAny M A (loadName env x) Q E s := by
  rcases R.slot hx hv with ⟨hk, m, hn, hm⟩ | ⟨hk, c, hc, hi⟩
  · exact wpAny_loadName_local R.kind hk hn hm k
  · rcases hk with hk | hk
    · exact wpAny_loadName_cell R.kind hk hc hi k
    · rw [R.kinds] at hk; exact absurd hk (R.nofree x)

theorem FR.name {M : Model} {A : Around} {E : Value → Shared → Prop} {s : Shared} (R : FR K mg mb sc env h0 RS F ρ val s.heap) {x : Str} {p : Pos} {v : Value} (hx : localOrCell sc x = true) (hn : nmOk x = true) (hv : val x = some v) {Q : Value → Shared → Prop} (k : Q v s) :
    wpAny M A (eval (.Name x p) env) Q E s := wpAny_Name (R.load hx hv k) (by
  unfold nmOk at hn
  cases q : x == ("__debug__" : Str)
  · rfl
  · rw [q] at hn; cases hn)
end

def StOk (K : Frag) (mg mb : Str → Option Value) (prog : Program) (w : World) (A : Around) (sc : Scope) (env : Env) (h0 : Heap) (RS : Addr → Prop) (F : Fz) (s : Shared) (ρ' : Rho) (r : Option D) (t : Sem Flow) : Prop :=
  ∀ (Q : Flow → Shared → Prop) (E : Value → Shared → Prop), (∀ h' tk F' val' fl, FR K mg mb sc env h0 RS F' ρ' val' h' → Grow h0 F F' → (∀ b, RS b → h'.get? b = s.heap.get? b) →
    (match r with | none => fl = .next | some d => ∃ v, fl = .ret v ∧ VR F' v d) → Q fl { s with heap := h', toks := tk }) → wpAny (model prog w) A t Q E s

def SoundS (K : Frag) (mg mb : Str → Option Value) (prog : Program) (w : World) (i : In) (n : Nat) : Prop :=
  ∀ sc ρ st ρ' r, i.ex sc ρ st = .ok (ρ', r) → ∀ A env h0 RS F val s, AOk A n → Glb K mg mb h0 → FR K mg mb sc env h0 RS F ρ val s.heap → StOk K mg mb prog w A sc env h0 RS F s ρ' r (exec st env)

section
variable {K : Frag} {mg mb : Str → Option Value} {prog : Program} {w : World} {i : In} {n : Nat} {A : Around} {sc : Scope} {env : Env} {h0 : Heap} {RS : Addr → Prop} {F : Fz} {ρ ρ' : Rho} {val : Str → Option Value} {s : Shared} {r : Option D}

theorem execs_ok (hs : SoundS K mg mb prog w i n) : ∀ {b : List Stmt} {ρ ρ' : Rho} {r : Option D}, exsL (i.ex sc) b ρ = .ok (ρ', r) → ∀ {RS : Addr → Prop} {F : Fz} {val : Str → Option Value} {s : Shared}, AOk A n → Glb K mg mb h0 → FR K mg mb sc env h0 RS F ρ val s.heap → StOk K mg mb prog w A sc env h0 RS F s ρ' r (execs b env)
  | [], ρ, ρ', r, h, RS, F, val, s, hA, G0, R => by
    cases h
    exact fun Q E k => wpAny_execs_nil (k s.heap s.toks F val .next R (.refl _ _) (fun _ _ => rfl) rfl)
  | st :: b, ρ, ρ', r, h, RS, F, val, s, hA, G0, R => by
    obtain ⟨⟨ρ1, r1⟩, h1, h2⟩ := Out.bind_ok h
    refine fun Q E k => wpAny_execs_cons (hs _ _ _ _ _ h1 A env h0 RS F val s hA G0 R _ _ fun h' tk F' val' fl R' mono same hfl => ?_)
    cases r1 with
    | none =>
      cases hfl
      dsimp only at h2 ⊢
      exact execs_ok hs h2 (s := { s with heap := h', toks := tk }) hA G0 R' _ _ fun h'' tk' F'' val'' fl' R'' mono' same' hfl' => k _ _ _ _ _ R'' (mono.trans mono') (fun b hb => (same' b hb).trans (same b hb)) hfl'
    | some d =>
      cases h2
      obtain ⟨v, rfl, vr⟩ := hfl
      exact k _ _ _ _ _ R' mono same ⟨v, rfl, vr⟩

theorem fpk {F₁ F₂ : Fz} {h₁ h₂ : Heap} {b : Addr} {o : Obj} (hF : F₁ b = some o) (f1 : ∀ b o, F₁ b = some o → h₁.get? b = some o) (m : ∀ b o, F₁ b = some o → F₂ b = some o) (f2 : ∀ b o, F₂ b = some o → h₂.get? b = some o) {o' : Obj} (e : h₁.get? b = some o') : h₂.get? b = some o' := by
  rw [f1 _ _ hF] at e; cases e; exact f2 _ _ (m _ _ hF)

theorem for_ok (hi : SoundE K mg mb prog w i n) (hs : SoundS K mg mb prog w i n) {t : Str} {tp pos : Pos} {it : Expr} {b : List Stmt} {vs : List D} (hx : localOrCell sc t = true)
    (hv : srcE K i sc (frz ρ (al K 30 false it)) false it = .ok vs) (h : forL (fun v ρ => exsL (i.ex sc) b (upd ρ t false v)) vs (frz ρ (al K 30 false it)) = .ok (ρ', r))
    (hA : AOk A n) (G0 : Glb K mg mb h0) (R : FR K mg mb sc env h0 RS F ρ val s.heap) : StOk K mg mb prog w A sc env h0 RS F s ρ' r (exec (.For (.Name t tp) it b [] pos) env) := by
  intro Q E k
  obtain ⟨m1, R1⟩ := R.frz (al K 30 false it)
  obtain ⟨hsrc, hfold⟩ := src_ok hi hv hA R1.er
  refine wpAny_For (hsrc _ _ fun I fp wr P St a₁ t₁ F₁ x₁ W st hfp hwr hIF hI0 hSI hfpx hP => ?_) hfold
  have R2 := R1.reserve x₁ hI0 hIF (hSI _ _ st)
  have same1 := R1.same x₁
  refine codeAny_forLoop
    (fun k s' => ∃ h' tk F' val' ρj, ∃ j : Nat, s' = { s with heap := h', toks := tk } ∧ FR K mg mb sc env h0 (fun b => RS b ∨ b = I) F' ρj val' h' ∧ Grow h0 F₁ F' ∧ (∀ b, RS b → h'.get? b = s.heap.get? b) ∧ St j h' ∧
      forL (fun v ρ => exsL (i.ex sc) b (upd ρ t false v)) (vs.drop j) ρj = .ok (ρ', r) ∧ j ≤ vs.length ∧ k = vs.length + 1 - j) ?_ (vs.length + 1)
    ⟨a₁, t₁, F₁, val, _, 0, rfl, R2, .refl _ _, same1, st, h, Nat.zero_le _, rfl⟩
  rintro kk s' ⟨h', tk, F', val', ρj, j, rfl, R', mono, same, st', hrest, hj, rfl⟩
  have hRI : (fun b => RS b ∨ b = I) I := .inr rfl
  have offI : ∀ {h a : Heap}, (∀ b o, b ∉ wr → h.get? b = some o → a.get? b = some o) → ∀ b o, b ≠ I → h.get? b = some o → a.get? b = some o := fun hk b o hb e => hk b o (fun q => hb (hwr b q)) e
  have monoF : Grow h0 F F₁ := m1.trans (R1.grow x₁)
  by_cases hjl : j < vs.length
  · refine W.item j _ _ _ hjl st' fun v a₂ t₂ hPv st₂ hk₂ => ?_
    obtain ⟨R₂, same₂⟩ := R'.tick G0 hRI (offI hk₂) (hSI _ _ st₂)
    obtain ⟨d, hd, hv⟩ := hP j v hPv
    have hdrop : vs.drop j = d :: vs.drop (j + 1) := by
      obtain ⟨hlt, e⟩ := List.getElem?_eq_some_iff.mp hd
      rw [← e]; exact List.drop_eq_getElem_cons hlt
    rw [hdrop] at hrest
    obtain ⟨⟨ρ2, r2⟩, hb2, hr2⟩ := Out.bind_ok hrest
    refine wpAny_assign_Name (FR.store (s := { s with heap := a₂, toks := t₂ }) G0 R₂ hx (o := false) (d := d) (.inl ⟨rfl, hv.mono mono.mono⟩) fun a₃ t₃ R₃ same₃ => ?_)
    refine execs_ok hs hb2 (s := { s with heap := a₃, toks := t₃ }) hA G0 R₃ _ _ fun a₄ t₄ F₄ val₄ fl R₄ mono₄ same₄ hfl => ?_
    have sR : ∀ b, RS b → a₄.get? b = s.heap.get? b := fun b hb => by
      have hne : b ≠ I := fun q => by
        obtain ⟨_, _, o, e⟩ := R.res b hb
        rw [q, hI0] at e; cases e
      exact (same₄ b (.inl hb)).trans ((same₃ b (.inl hb)).trans ((same₂ b (.inl hb) hne).trans (same b hb)))
    have st₄ : St (j + 1) a₄ := W.frame _ _ _ st₂ fun b hb o e => by
      rcases hfpx b hb with rfl | ⟨_, hF⟩
      · rw [same₄ b (.inr rfl), same₃ b (.inr rfl)]; exact e
      · obtain ⟨q, hq⟩ := hF rfl
        exact fpk (mono.mono _ _ hq) R₂.fin mono₄.mono R₄.fin e
    cases r2 with
    | none =>
      obtain rfl : fl = .next := hfl
      exact ⟨_, Nat.sub_lt_sub_left (by omega) (Nat.lt_succ_self j), a₄, t₄, F₄, val₄, ρ2, j + 1, rfl, R₄, mono.trans mono₄, sR, st₄, hr2, hjl, rfl⟩
    | some d2 =>
      obtain ⟨v2, rfl, vr2⟩ := hfl
      cases hr2
      exact k a₄ t₄ F₄ val₄ _ R₄.release (monoF.trans (mono.trans mono₄)) sR ⟨v2, rfl, vr2⟩
  · obtain rfl : j = vs.length := by omega
    refine W.done _ _ _ st' fun a₂ t₂ hk₂ => wpAny_execs_nil ?_
    rw [List.drop_length] at hrest
    cases hrest
    have hnI : ¬ RS I := fun hb => by
      obtain ⟨_, _, o, e⟩ := R.res I hb
      rw [hI0] at e; cases e
    obtain ⟨R₂, same₂⟩ := R'.tickOff G0 hnI (offI hk₂)
    exact k a₂ t₂ F' val' _ R₂ (monoF.trans mono) (fun b hb => (same₂ b hb).trans (same b hb)) rfl

theorem while_ok (ht : SoundT K mg mb prog w i n) (hs : SoundS K mg mb prog w i n) {t : Expr} {pos : Pos} {b : List Stmt} {fuel : Nat} (h : whileL (fun ρ => i.tst sc ρ t) (fun ρ => exsL (i.ex sc) b ρ) fuel ρ = .ok (ρ', r))
    (hA : AOk A n) (G0 : Glb K mg mb h0) (R : FR K mg mb sc env h0 RS F ρ val s.heap) : StOk K mg mb prog w A sc env h0 RS F s ρ' r (exec (.While t b [] pos) env) := by
  intro Q E k
  refine wpAny_While ?_
  refine codeAny_whileLoop
    (fun kk s' => ∃ h' tk F' val' ρj, s' = { s with heap := h', toks := tk } ∧ FR K mg mb sc env h0 RS F' ρj val' h' ∧ Grow h0 F F' ∧ (∀ b, RS b → h'.get? b = s.heap.get? b) ∧
      whileL (fun ρ => i.tst sc ρ t) (fun ρ => exsL (i.ex sc) b ρ) kk ρj = .ok (ρ', r)) ?_ fuel
    ⟨s.heap, s.toks, F, val, ρ, rfl, R, .refl _ _, fun _ _ => rfl, h⟩
  rintro kk s' ⟨h', tk, F', val', ρj, rfl, R', mono, same, hrest⟩
  cases kk with
  | zero => cases hrest
  | succ m =>
    obtain ⟨c, hc, h2⟩ := Out.bind_ok hrest
    refine ht _ _ _ _ hc A env F' _ hA R'.er _ _ fun a₁ t₁ F₁ x₁ => ?_
    have R1 := R'.ext x₁
    cases c with
    | false =>
      simp only [Bool.false_eq_true, if_false] at h2 ⊢
      cases h2
      exact wpAny_execs_nil (k a₁ t₁ F₁ val' _ R1 (mono.trans (R'.grow x₁)) (fun b hb => (R'.same x₁ b hb).trans (same b hb)) rfl)
    | true =>
      simp only [if_true] at h2 ⊢
      obtain ⟨⟨ρ2, r2⟩, hb2, hr2⟩ := Out.bind_ok h2
      refine execs_ok hs hb2 (s := { s with heap := a₁, toks := t₁ }) hA G0 R1 _ _ fun a₄ t₄ F₄ val₄ fl R₄ mono₄ same₄ hfl => ?_
      have sR : ∀ b, RS b → a₄.get? b = s.heap.get? b := fun b hb => (same₄ b hb).trans ((R'.same x₁ b hb).trans (same b hb))
      cases r2 with
      | none =>
        obtain rfl : fl = .next := hfl
        exact ⟨m, Nat.lt_succ_self m, a₄, t₄, F₄, val₄, ρ2, rfl, R₄, mono.trans ((R'.grow x₁).trans mono₄), sR, hr2⟩
      | some d2 =>
        obtain ⟨v2, rfl, vr2⟩ := hfl
        cases hr2
        exact k a₄ t₄ F₄ val₄ _ R₄ (mono.trans ((R'.grow x₁).trans mono₄)) sR ⟨v2, rfl, vr2⟩

theorem swaps_not {e : Expr} (h : notComp e = true) (t : Option Expr) (line : Nat) : swapsWith e t line env = pure false := by
  cases e <;> first | rfl | cases h

theorem foldI_dom {f : Rho → Out D} {t y : Str} : ∀ {xs : List D} {ρ ρ' : Rho}, foldI f t y xs ρ = .ok ρ' → ∀ z, z ≠ t → z ≠ y → ρ' z = ρ z
  | [], ρ, ρ', h, z, _, _ => by cases h; rfl
  | d :: r, ρ, ρ', h, z, h1, h2 => by
    obtain ⟨c, hc, h3⟩ := Out.bind_ok h
    rw [foldI_dom h3 z h1 h2]
    unfold upd
    rw [if_neg h2, if_neg h1]

/-- a loop over an own list -/
theorem forI_ok (hi : SoundE K mg mb prog w i n) {t y z : Str} {tp zp yp pos apos : Pos} {e : Expr} {xs : List D} (hx : localOrCell sc t = true) (hy : localOrCell sc y = true) (hz : localOrCell sc z = true) (hzt : z ≠ t) (hzy : z ≠ y) (hn : nmOk z = true) (hc : notComp e = true)
    (ho : ownL ρ z = .ok xs) (h : foldI (fun ρ => i.ev sc ρ false e) t y xs ρ = .ok ρ')
    (hA : AOk A n) (G0 : Glb K mg mb h0) (R : FR K mg mb sc env h0 RS F ρ val s.heap) : StOk K mg mb prog w A sc env h0 RS F s ρ' none (exec (.For (.Name t tp) (.Name z zp) [.Assign [.Name y yp] e apos] [] pos) env) := by
  intro Q E k
  unfold ownL at ho
  split at ho
  case h_2 => cases ho
  rename_i xs' hρ
  split at ho
  case isFalse => cases ho
  rename_i hlen
  cases ho
  obtain ⟨a, items, nn, xs', hv, hd, ha, hit, hp⟩ := R.own z _ hρ
  cases hd
  have l1 := hit.length
  rw [Array.length_toList] at l1
  refine wpAny_For (R.name hz hn hv ?_) (fun _ => rfl)
  refine wpAny_pyIter_list (isList_of ha) ?_
  have x₁ : Ext F s.heap F (s.heap.push { cls := .type "list_iterator", data := .fields #[.ref a, .int 0 0] }) := Ext.of_keep R.fin fun _ _ e => Heap.get?_push_of_some _ e
  have R2 := R.reserve x₁ (I := s.heap.objs.size) (none_size _) (fresh_F R.fin (none_size _)) ⟨_, Heap.get?_push_size _ rfl⟩
  have hI0 : s.heap.get? s.heap.objs.size = none := none_size _
  have hit0 : (s.heap.push { cls := .type "list_iterator", data := .fields #[.ref a, .int 0 0] }).IsListIter s.heap.objs.size a 0 := ⟨_, Heap.get?_push_size _ rfl, rfl, rfl⟩
  have same1 := R.same x₁
  generalize s.heap.objs.size = I at R2 hI0 hit0 ⊢
  generalize s.heap.push { cls := .type "list_iterator", data := .fields #[.ref a, .int 0 0] } = H1 at R2 x₁ hit0 same1 ⊢
  refine codeAny_forLoop
    (fun k s' => ∃ h' tk F' val' ρj, ∃ j : Nat, s' = { s with heap := h', toks := tk } ∧ FR K mg mb sc env h0 (fun b => RS b ∨ b = I) F' ρj val' h' ∧ Grow h0 F F' ∧ (∀ b, RS b → h'.get? b = s.heap.get? b) ∧ h'.IsListIter I a j ∧
      val' z = some (.ref a) ∧ ρj z = some (true, .list xs) ∧ foldI (fun ρ => i.ev sc ρ false e) t y (xs.drop j) ρj = .ok ρ' ∧ j ≤ xs.length ∧ k = xs.length + 1 - j) ?_ (xs.length + 1)
    ⟨H1, s.toks, F, val, ρ, 0, rfl, R2, .refl _ _, same1, hit0, hv, hρ, h, Nat.zero_le _, rfl⟩
  rintro kk s' ⟨h', tk, F', val', ρj, j, rfl, R', mono, same, hit', hv', hρ', hrest, hj, rfl⟩
  have hRI : (fun b => RS b ∨ b = I) I := .inr rfl
  obtain ⟨a', items', n', xs', hva', hd', ha', hitm', hp'⟩ := R'.own z _ hρ'
  rw [hv'] at hva'; cases hva'; cases hd'
  have l2 := hitm'.length
  rw [Array.length_toList] at l2
  by_cases hjl : j < xs.length
  · have hvj : items'[j]? = some (items'[j]'(by omega)) := Array.getElem?_eq_getElem _
    refine wpAny_pyNext_list_item hit' (isList_of ha') hvj fun a₂ hit₂ hs₂ => ?_
    obtain ⟨R₂, same₂⟩ := R'.tick G0 hRI (fun b o hb e => hs₂.extBut b o hb e) (by obtain ⟨o, ho, _⟩ := hit₂; exact ⟨o, ho⟩)
    have hdrop : xs.drop j = xs[j] :: xs.drop (j + 1) := List.drop_eq_getElem_cons hjl
    rw [hdrop] at hrest
    obtain ⟨c, hc2, hr2⟩ := Out.bind_ok hrest
    have hvr : VR F' (items'[j]'(by omega)) xs[j] := by
      obtain ⟨v, h1, h2⟩ := hitm'.get (j := j) (d := xs[j]) (by simp [hjl])
      rw [Array.getElem?_toList, hvj] at h1; cases h1; exact h2
    refine wpAny_assign_Name (FR.store (s := { s with heap := a₂, toks := tk }) G0 R₂ hx (o := false) (d := xs[j]) (.inl ⟨rfl, hvr⟩) fun a₃ t₃ R₃ same₃ => ?_)
    refine wpAny_execs_cons (wpAny_Assign_Name (hi _ _ _ _ _ hc2 A env F' _ hA R₃.er _ _ fun v h₄ t₄ F₄ x₄ _ vr => ?_) (swaps_not hc _ _))
    refine FR.store (s := { s with heap := h₄, toks := t₄ }) G0 (R₃.ext x₄) hy (o := false) (d := c) (.inl ⟨rfl, vr rfl⟩) fun a₅ t₅ R₅ same₅ => wpAny_execs_nil ?_
    have sR : ∀ b, RS b → a₅.get? b = s.heap.get? b := fun b hb => by
      have hne : b ≠ I := fun q => by
        obtain ⟨_, _, o, e⟩ := R.res b hb
        rw [q, hI0] at e; cases e
      exact (same₅ b (.inl hb)).trans ((R₃.same x₄ b (.inl hb)).trans ((same₃ b (.inl hb)).trans ((same₂ b (.inl hb) hne).trans (same b hb))))
    refine ⟨_, Nat.sub_lt_sub_left (by omega) (Nat.lt_succ_self j), a₅, t₅, F₄, _, _, j + 1, rfl, R₅, mono.trans (R₃.grow x₄), sR, hit₂.at fun o e => ?_, ?_, ?_, hr2, hjl, rfl⟩
    · rw [same₅ I hRI, R₃.same x₄ I hRI, same₃ I hRI]; exact e
    · rw [if_neg hzy, if_neg hzt]; exact hv'
    · unfold upd; rw [if_neg hzy, if_neg hzt]; exact hρ'
  · obtain rfl : j = xs.length := by omega
    have hnone : items'[xs.length]? = none := by rw [Array.getElem?_eq_none_iff]; omega
    refine wpAny_pyNext_list_end hA.handled hit' (isList_of ha') hnone fun a₂ hk₂ => wpAny_execs_nil ?_
    rw [List.drop_length] at hrest
    cases hrest
    have hnI : ¬ RS I := fun hb => by
      obtain ⟨_, _, o, e⟩ := R.res I hb
      rw [hI0] at e; cases e
    obtain ⟨R₂, same₂⟩ := R'.tickOff G0 hnI (fun b o hb e => hk₂ b o hb e)
    exact k a₂ tk F' val' _ R₂ mono (fun b hb => (same₂ b hb).trans (same b hb)) rfl
end
end Mine

/-! St5 -/
namespace Mine

section
variable {K : Frag} {mg mb : Str → Option Value} {prog : Program} {w : World} {i : In} {n : Nat} {A : Around} {sc : Scope} {env : Env} {h0 : Heap} {RS : Addr → Prop} {F : Fz} {ρ ρ' : Rho} {val : Str → Option Value} {s : Shared} {r : Option D} {h : Heap}

theorem FR.stor_new (R : FR K mg mb sc env h0 RS F ρ val h) {F' : Fz} {h' : Heap} (x : Ext F h F' h') {a : Addr} {items : Array Value} {k : Nat} {ds : List D} {y : Str} (ha : F' a = none) (h0a : h.get? a = none) (hg : h'.get? a = some (plainL items k)) (hr : VRs F' items.toList ds) :
    Stor h0 RS F' ρ val h' y true (.ref a) (.list ds) := by
  refine .inr ⟨rfl, a, items, k, ds, rfl, rfl, hg, hr, ⟨none_back R.keep h0a, ha, fun hb => ?_⟩, fun z dz hz hv => ?_⟩
  · obtain ⟨_, _, o, e⟩ := R.res a hb
    rw [h0a] at e; cases e
  · obtain ⟨a', _, _, _, hv', _, e, _⟩ := R.own z dz hz
    rw [hv] at hv'; cases hv'
    rw [h0a] at e; cases e

theorem assign_ok (hi : SoundE K mg mb prog w i n) (hfr : SoundF K mg mb prog w i n) (hu : SoundU K mg mb prog w i n) {x : Str} {xp pos : Pos} {e : Expr} {d : D} (hx : localOrCell sc x = true) (hc : freshE e || notComp e)
    (h : i.ev sc (frz ρ (alE K e)) (freshE e) e = .ok d) (hA : AOk A n) (G0 : Glb K mg mb h0) (R : FR K mg mb sc env h0 RS F ρ val s.heap) :
    StOk K mg mb prog w A sc env h0 RS F s (upd (frz ρ (alE K e)) x (freshE e) d) none (exec (.Assign [.Name x xp] e pos) env) := by
  intro Q E k
  obtain ⟨m1, R1⟩ := R.frz (alE K e)
  cases hf : freshE e with
  | false =>
    rw [hf] at hc h k
    refine wpAny_Assign_Name (hi _ _ _ _ _ h A env _ s hA R1.er _ _ fun v h₁ tk₁ F₁ x₁ vw vr => ?_) (swaps_not (by simpa using hc) _ _)
    exact FR.store (s := { s with heap := h₁, toks := tk₁ }) G0 (R1.ext x₁) hx (o := false) (d := d) (.inl ⟨rfl, vr rfl⟩) fun h' tk R' same => k h' tk _ _ _ R' (m1.trans (R1.grow x₁)) (fun b hb => (same b hb).trans (R1.same x₁ b hb)) rfl
  | true =>
    rw [hf] at h k
    obtain ⟨ds, rfl, go⟩ := hfr _ _ _ _ _ hf h
    have plain : swapsWith e (some (.Name x xp)) pos.line env = pure false → wpAny (model prog w) A (exec (.Assign [.Name x xp] e pos) env) Q E s := fun hsw => by
      refine wpAny_Assign_Name (go A env _ s hA R1.er _ _ fun a items nn h₁ tk₁ F₁ x₁ ha h0a hg hr => ?_) hsw
      exact FR.store (s := { s with heap := h₁, toks := tk₁ }) G0 (R1.ext x₁) hx (o := true) (d := .list ds) (R1.stor_new x₁ ha h0a hg hr) fun h' tk R' same => k h' tk _ _ _ R' (m1.trans (R1.grow x₁)) (fun b hb => (same b hb).trans (R1.same x₁ b hb)) rfl
    by_cases hnc : notComp e = true
    · exact plain (swaps_not hnc _ _)
    · cases e with
      | ListComp elt gens csc cp =>
        obtain ⟨bb, hbb⟩ : ∃ bb, swapsWith (.ListComp elt gens csc cp) (some (.Name x xp)) pos.line env = pure bb := ⟨_, rfl⟩
        cases bb with
        | false => exact plain hbb
        | true =>
          obtain ⟨ds', e', hcomp⟩ := hu _ _ _ _ _ _ _ _ h
          cases e'
          rw [exec_Assign_Name_used _ _ _ _ hbb]
          refine wpAny_bind (wpAny_standAt (wpAny_bind ?_))
          show wpAny _ A (do let _ ← comprehension (.ListComp elt gens csc cp) csc env (firstIterPos gens cp) (newList []) (firstAsync gens) (firstIter gens env) (some (assign (.Name x xp) env))) _ _ s
          refine wpAny_bind (wpAny_mono (hcomp A env _ s (some (assign (.Name x xp) env)) (fun _ s' => Q .next s') E _ hA R1.er fun D C h₁ tk₁ F₁ items kk m' x₁ hD hD0 hget hit hns hC hC0 hDC => ?_) (fun _ s' hq => wpAny_pure (wpAny_pure hq)) fun _ _ e => e)
          show wpAny _ A (assign (.Name x xp) env (.ref D)) _ _ _
          have R2 := R1.reserve x₁ hC0 hC (by obtain ⟨o, _, _, ho, _⟩ := hns; exact ⟨o, ho⟩)
          have hnC : ¬ RS C := fun hb => by
            obtain ⟨_, _, o, e⟩ := R1.res C hb
            rw [hC0] at e; cases e
          have st : Stor h0 (fun b => RS b ∨ b = C) F₁ (frz ρ (alE K (.ListComp elt gens csc cp))) val h₁ x true (.ref D) (.list ds) := by
            rcases R1.stor_new (y := x) x₁ hD hD0 hget hit with ⟨q, _⟩ | ⟨_, a, its, nn, xs, q1, q2, q3, q4, q5, q6⟩
            · cases q
            · cases q1
              exact .inr ⟨rfl, _, its, nn, xs, rfl, q2, q3, q4, q5.more hDC, q6⟩
          refine wpAny_assign_Name (FR.store (s := { s with heap := h₁, toks := tk₁ }) G0 R2 hx st fun h₂ tk₂ R₃ same₃ => ?_)
          obtain ⟨oC, esC, epC, hoC, hdC, hkC, hfC⟩ := hns
          refine ⟨m', ⟨oC, esC, epC, (same₃ C (.inr rfl)).trans hoC, hdC, hkC, hfC⟩, fun h₃ hs₃ => ?_⟩
          obtain ⟨R₄, same₄⟩ := R₃.tickOff G0 hnC (fun b o hb e => hs₃.extBut b o hb e)
          exact k h₃ _ _ _ _ R₄ (m1.trans (R1.grow x₁)) (fun b hb => (same₄ b hb).trans ((same₃ b (.inl hb)).trans (R1.same x₁ b hb))) rfl
      | List => exact absurd rfl hnc
      | BinOp => exact absurd rfl hnc
      | _ => cases hf

theorem ownL_ok {x : Str} {xs : List D} (h : ownL ρ x = .ok xs) : ρ x = some (true, .list xs) ∧ xs.length < lim := by
  unfold ownL at h
  split at h
  · rename_i ys hy
    split at h
    · rename_i hl
      cases h; exact ⟨hy, hl⟩
    · cases h
  · cases h
theorem intD_ok {d : D} {k : Int} (h : intD d = .ok k) : d = .int k := by
  unfold intD at h
  split at h
  · cases h; rfl
  · cases h
theorem posL_ok {k : Int} {n j : Nat} (h : posL k n = .ok j) : seqIndex? k n = some j := by
  unfold posL at h
  split at h
  · rename_i q; cases h; exact q
  · cases h

theorem VRs.setArr {F : Fz} {items : Array Value} {xs : List D} (r : VRs F items.toList xs) {j : Nat} {v : Value} {d : D} (hv : VR F v d) : VRs F (items.setIfInBounds j v).toList (xs.set j d) := by
  rw [Array.toList_setIfInBounds]; exact r.set hv

theorem setSub_ok (hi : SoundE K mg mb prog w i n) {x : Str} {ix e : Expr} {p1 p2 pos : Pos} {d : D} {k : Int} {xs : List D} {j : Nat} {ρ : Rho} (hx : localOrCell sc x = true) (hn : nmOk x = true) (hc : notComp e = true)
    (hd : i.ev sc (frz ρ (al K 30 false e)) false e = .ok d) (hk : i.ev sc (frz ρ (al K 30 false e)) true ix = .ok (.int k)) (ho : ownL (frz ρ (al K 30 false e)) x = .ok xs) (hj : posL k xs.length = .ok j)
    (hA : AOk A n) (G0 : Glb K mg mb h0) (R : FR K mg mb sc env h0 RS F ρ val s.heap) :
    StOk K mg mb prog w A sc env h0 RS F s (upd (frz ρ (al K 30 false e)) x true (.list (xs.set j d))) none (exec (.Assign [.Subscript (.Name x p1) ix p2] e pos) env) := by
  intro Q E kk
  obtain ⟨m1, R1⟩ := R.frz (al K 30 false e)
  obtain ⟨hρ, hlen⟩ := ownL_ok ho
  refine wpAny_Assign_Subscript (hi _ _ _ _ _ hd A env _ s hA R1.er _ _ fun v h₁ tk₁ F₁ x₁ vw vr => ?_) (swaps_not hc _ _)
  have R2 := R1.ext x₁
  obtain ⟨a, items, nn, xs', hv, hd', ha, hit, hp⟩ := R2.own x _ hρ
  cases hd'
  refine FR.name (s := { s with heap := h₁, toks := tk₁ }) R2 hx hn hv ?_
  refine hi _ _ _ _ _ hk A env F₁ _ hA R2.er _ _ fun kv h₂ tk₂ F₂ x₂ kw _ => ?_
  obtain ⟨t, rfl⟩ := kw.intv
  have R3 := R2.ext x₂
  have l1 := hit.length
  rw [Array.length_toList] at l1
  refine set_ok (s := { s with heap := h₂, toks := tk₂ }) (x₂.keep _ _ ha) (by rw [l1]; exact posL_ok hj) (by omega) fun h₃ n' hg hs₃ => ?_
  obtain ⟨R4, same4⟩ := R3.mut G0 hρ hv hs₃ hg ((hit.mono x₂.mono).setArr ((vr rfl).mono x₂.mono))
  exact kk h₃ tk₂ F₂ val _ R4 (m1.trans ((R1.grow x₁).trans (R2.grow x₂))) (fun b hb => (same4 b hb).trans ((R2.same x₂ b hb).trans (R1.same x₁ b hb))) rfl

theorem augI_ok {op : Operator} {a b : Int} {c : D} (h : augI op a b = .ok c) {t u : Tok} {Q : Value → Shared → Prop} {E : Value → Shared → Prop} (k : ∀ t' tk, ∃ x, c = .int x ∧ Q (.int x t') { s with toks := tk }) : wpAny (model prog w) A (inplaceOp op (.int a t) (.int b u)) Q E s := by
  unfold augI at h
  split at h
  · cases h
    refine P.iadd_int ?_
    obtain ⟨x, e, q⟩ := k s.toks (s.toks + 1)
    cases e; exact q
  · cases h
    refine P.isub_int ?_
    obtain ⟨x, e, q⟩ := k s.toks (s.toks + 1)
    cases e; exact q
  · cases h
theorem augI_int {op : Operator} {a b : Int} {c : D} (h : augI op a b = .ok c) : ∃ x, c = .int x := by
  unfold augI at h
  split at h <;> cases h <;> exact ⟨_, rfl⟩

theorem augName_ok (hi : SoundE K mg mb prog w i n) {x : Str} {p1 pos : Pos} {op : Operator} {e : Expr} {a b : Int} {c : D} (hx : localOrCell sc x = true) (hρ : ρ x = some (false, .int a)) (he : i.ev sc ρ true e = .ok (.int b)) (ho : augI op a b = .ok c)
    (hA : AOk A n) (G0 : Glb K mg mb h0) (R : FR K mg mb sc env h0 RS F ρ val s.heap) :
    StOk K mg mb prog w A sc env h0 RS F s (upd ρ x false c) none (exec (.AugAssign (.Name x p1) op e pos) env) := by
  intro Q E kk
  obtain ⟨v, hv, hr⟩ := R.vars x _ hρ
  cases hr
  rename_i t
  refine wpAny_AugAssign_Name (FR.load R hx hv ?_)
  refine hi _ _ _ _ _ he A env F s hA R.er _ _ fun bv h₁ tk₁ F₁ x₁ bw _ => ?_
  obtain ⟨u, rfl⟩ := bw.intv
  refine augI_ok (s := { s with heap := h₁, toks := tk₁ }) ho fun t' tk' => ?_
  obtain ⟨y, rfl⟩ := augI_int ho
  refine ⟨y, rfl, ?_⟩
  exact FR.store (s := { s with heap := h₁, toks := tk' }) G0 (R.ext x₁) hx (o := false) (d := .int y) (.inl ⟨rfl, .int _ _⟩) fun h' tk R' same => kk h' tk _ _ _ R' (R.grow x₁) (fun b hb => (same b hb).trans (R.same x₁ b hb)) rfl

theorem augSub_ok (hi : SoundE K mg mb prog w i n) {x : Str} {ix e : Expr} {p1 p2 pos : Pos} {op : Operator} {k a b : Int} {xs : List D} {j : Nat} {c : D} (hs : notSlice ix = true) (hx : localOrCell sc x = true) (hn : nmOk x = true)
    (hk : i.ev sc ρ true ix = .ok (.int k)) (ho : ownL ρ x = .ok xs) (hold : idxD (.list xs) k = .ok (.int a)) (he : i.ev sc ρ true e = .ok (.int b)) (hc : augI op a b = .ok c) (hj : posL k xs.length = .ok j)
    (hA : AOk A n) (G0 : Glb K mg mb h0) (R : FR K mg mb sc env h0 RS F ρ val s.heap) :
    StOk K mg mb prog w A sc env h0 RS F s (upd ρ x true (.list (xs.set j c))) none (exec (.AugAssign (.Subscript (.Name x p1) ix p2) op e pos) env) := by
  intro Q E kk
  obtain ⟨hρ, hlen⟩ := ownL_ok ho
  obtain ⟨ad, items, nn, xs', hv, hd', ha, hit, hp⟩ := R.own x _ hρ
  cases hd'
  refine wpAny_AugAssign_SubscriptAny (FR.name R hx hn hv ?_) (by intros; cases ix <;> first | rfl | cases hs)
  refine hi _ _ _ _ _ hk A env F _ hA R.er _ _ fun kv h₂ tk₂ F₂ x₂ kw _ => ?_
  obtain ⟨t, rfl⟩ := kw.intv
  have R3 := R.ext x₂
  refine idx_ok (s := { s with heap := h₂, toks := tk₂ }) hold x₂.fin ((VW.own (F := F₂) (x₂.keep _ _ ha) (hit.mono x₂.mono))) true _ _ fun ov h₃ tk₃ F₃ x₃ ow _ => ?_
  obtain ⟨t3, rfl⟩ := ow.intv
  have R4 := R3.ext x₃
  refine hi _ _ _ _ _ he A env F₃ _ hA R4.er _ _ fun bv h₄ tk₄ F₄ x₄ bw _ => ?_
  obtain ⟨u, rfl⟩ := bw.intv
  have R5 := R4.ext x₄
  refine augI_ok (s := { s with heap := h₄, toks := tk₄ }) hc fun t' tk' => ?_
  obtain ⟨y, rfl⟩ := augI_int hc
  refine ⟨y, rfl, ?_⟩
  have l1 := hit.length
  rw [Array.length_toList] at l1
  have x24 := (x₂.trans x₃).trans x₄
  refine set_ok (s := { s with heap := h₄, toks := tk' }) (x24.keep _ _ ha) (by rw [l1]; exact posL_ok hj) (by omega) fun h₅ n' hg hs₅ => ?_
  obtain ⟨R6, same6⟩ := R5.mut G0 hρ hv hs₅ hg ((hit.mono x24.mono).setArr (.int y t'))
  exact kk h₅ tk' F₄ val _ R6 (R.grow x24) (fun b hb => (same6 b hb).trans (R.same x24 b hb)) rfl

theorem append_ok (hi : SoundE K mg mb prog w i n) {x : Str} {e : Expr} {p1 ap cp pos : Pos} {xs ys : List D} {d : D} (hx : localOrCell sc x = true) (hn : nmOk x = true) (hs : notStar e = true) (hl : (ap.endLine == cp.line) = true)
    (h1 : ownL ρ x = .ok ys) (he : i.ev sc (frz ρ (al K 30 false e)) false e = .ok d) (ho : ownL (frz ρ (al K 30 false e)) x = .ok xs)
    (hA : AOk A n) (G0 : Glb K mg mb h0) (R : FR K mg mb sc env h0 RS F ρ val s.heap) :
    StOk K mg mb prog w A sc env h0 RS F s (upd (frz ρ (al K 30 false e)) x true (.list (xs ++ [d]))) none (exec (.Expr (.Call (.Attribute (.Name x p1) "append" ap) [e] [] cp) pos) env) := by
  intro Q E kk
  obtain ⟨m1, R1⟩ := R.frz (al K 30 false e)
  obtain ⟨hρ, hlen⟩ := ownL_ok ho
  obtain ⟨ad, items, nn, xs', hv, hd', ha, hit, hp⟩ := R1.own x _ hρ
  cases hd'
  have hst : backTo cp (starEach [e] env) = [(false, eval e env)] := by
    rw [starEach_cons (by intro y p q; subst q; cases hs)]
    rfl
  refine wpAny_Expr (wpAny_Call_append rfl (by rw [hst]; rfl) hl hst (FR.name R1 hx hn hv ⟨ad, items, rfl, ⟨_, nn, ha, rfl, rfl, rfl⟩, ?_⟩)) (by unfold interactive; rw [R.kind]; rfl) rfl
  refine hi _ _ _ _ _ he A env _ s hA R1.er _ _ fun v h₁ tk₁ F₁ x₁ vw vr => ?_
  have R2 := R1.ext x₁
  have l1 := hit.length
  rw [Array.length_toList] at l1
  unfold lim at hlen
  refine wpAny_list_append_plain (s := { s with heap := h₁, toks := tk₁ }) ⟨nn, x₁.keep _ _ ha⟩ (fun h₂ hpl hs₂ => ?_) (by rw [sizeLine_eq]; omega)
  obtain ⟨n2, hg⟩ := hpl
  obtain ⟨R3, same3⟩ := R2.mut G0 hρ hv hs₂ hg ((hit.mono x₁.mono).snoc (vr rfl))
  exact kk h₂ tk₁ F₁ val _ R3 (m1.trans (R1.grow x₁)) (fun b hb => (same3 b hb).trans (R1.same x₁ b hb)) rfl

theorem exN_ok (hi : SoundE K mg mb prog w i n) (ht : SoundT K mg mb prog w i n) (hfr : SoundF K mg mb prog w i n) (hu : SoundU K mg mb prog w i n) (hs : SoundS K mg mb prog w i n) : SoundS K mg mb prog w (nxt K i) n := by
  intro sc ρ st ρ' r h A env h0 RS F val s hA G0 R
  replace h : exN K i sc ρ st = .ok (ρ', r) := h
  unfold exN at h
  split at h
  · cases h
    exact fun Q E k => wpAny_Pass (k s.heap s.toks F val .next R (.refl _ _) (fun _ _ => rfl) rfl)
  · split at h
    · rename_i hc
      rw [Bool.and_eq_true] at hc
      obtain ⟨d, hd, h2⟩ := Out.bind_ok h
      cases h2
      exact assign_ok hi hfr hu hc.1 hc.2 hd hA G0 R
    · cases h
  · split at h
    · rename_i hc
      rw [Bool.and_eq_true, Bool.and_eq_true, Bool.and_eq_true] at hc
      obtain ⟨d, hd, h2⟩ := Out.bind_ok h
      obtain ⟨kd, hk, h3⟩ := Out.bind_ok h2
      obtain ⟨k, hk2, h4⟩ := Out.bind_ok h3
      obtain ⟨xs, hxs, h5⟩ := Out.bind_ok h4
      obtain ⟨j, hj, h6⟩ := Out.bind_ok h5
      cases h6
      exact setSub_ok hi hc.1.1.2 hc.1.2 hc.2 hd (intD_ok hk2 ▸ hk) hxs hj hA G0 R
    · cases h
  · split at h
    · rename_i hc
      split at h
      · rename_i a hρ
        obtain ⟨d, hd, h2⟩ := Out.bind_ok h
        obtain ⟨b, hb, h3⟩ := Out.bind_ok h2
        obtain ⟨c, hcc, h4⟩ := Out.bind_ok h3
        cases h4
        exact augName_ok hi hc hρ (intD_ok hb ▸ hd) hcc hA G0 R
      · cases h
    · cases h
  · split at h
    · rename_i hc
      rw [Bool.and_eq_true, Bool.and_eq_true] at hc
      obtain ⟨kd, hk, h2⟩ := Out.bind_ok h
      obtain ⟨k, hk2, h3⟩ := Out.bind_ok h2
      obtain ⟨xs, hxs, h4⟩ := Out.bind_ok h3
      obtain ⟨old, hold, h5⟩ := Out.bind_ok h4
      obtain ⟨a, ha, h6⟩ := Out.bind_ok h5
      obtain ⟨d, hd, h7⟩ := Out.bind_ok h6
      obtain ⟨b, hb, h8⟩ := Out.bind_ok h7
      obtain ⟨c, hcc, h9⟩ := Out.bind_ok h8
      obtain ⟨j, hj, h10⟩ := Out.bind_ok h9
      cases h10
      exact augSub_ok hi hc.1.1 hc.1.2 hc.2 (intD_ok hk2 ▸ hk) hxs (intD_ok ha ▸ hold) (intD_ok hb ▸ hd) hcc hj hA G0 R
    · cases h
  · split at h
    · rename_i hc
      rw [Bool.and_eq_true, Bool.and_eq_true, Bool.and_eq_true, Bool.and_eq_true] at hc
      obtain ⟨ys, hys, h2⟩ := Out.bind_ok h
      obtain ⟨d, hd, h3⟩ := Out.bind_ok h2
      obtain ⟨xs, hxs, h4⟩ := Out.bind_ok h3
      cases h4
      have hnm := beq_iff_eq.mp hc.1.1.1.1
      subst hnm
      exact append_ok hi hc.1.1.1.2 hc.1.1.2 hc.1.2 hc.2 hys hd hxs hA G0 R
    · cases h
  · obtain ⟨c, hcc, h2⟩ := Out.bind_ok h
    refine fun Q E k => wpAny_If (ht _ _ _ _ hcc A env F s hA R.er _ _ fun h₁ tk₁ F₁ x₁ => ?_)
    have R1 := R.ext x₁
    cases c with
    | true =>
      simp only [if_true] at h2 ⊢
      exact execs_ok hs h2 (s := { s with heap := h₁, toks := tk₁ }) hA G0 R1 _ _ fun h' tk F' val' fl R' mono same hfl => k h' tk F' val' fl R' ((R.grow x₁).trans mono) (fun b hb => (same b hb).trans (R.same x₁ b hb)) hfl
    | false =>
      simp only [Bool.false_eq_true, if_false] at h2 ⊢
      exact execs_ok hs h2 (s := { s with heap := h₁, toks := tk₁ }) hA G0 R1 _ _ fun h' tk F' val' fl R' mono same hfl => k h' tk F' val' fl R' ((R.grow x₁).trans mono) (fun b hb => (same b hb).trans (R.same x₁ b hb)) hfl
  · split at h
    · rename_i hx
      split at h
      · split at h
        · rename_i hc
          simp only [Bool.and_eq_true, bne_iff_ne, ne_eq] at hc
          obtain ⟨xs, hxs, h2⟩ := Out.bind_ok h
          obtain ⟨ρ2, hf, h3⟩ := Out.bind_ok h2
          cases h3
          exact forI_ok hi hx hc.1.1.1.2 hc.1.1.2 hc.1.1.1.1.1 hc.1.1.1.1.2 hc.1.2 hc.2 hxs hf hA G0 R
        · cases h
      · obtain ⟨vs, hvs, h2⟩ := Out.bind_ok h
        exact for_ok hi hs hx hvs h2 hA G0 R
    · cases h
  · exact while_ok ht hs h hA G0 R
  · obtain ⟨d, hd, h2⟩ := Out.bind_ok h
    cases h2
    intro Q E k
    rename_i e pos
    obtain ⟨m1, R1⟩ := R.frz (al K 30 false e)
    refine wpAny_Return_some (hi _ _ _ _ _ hd A env _ s hA R1.er _ _ fun v h₁ tk₁ F₁ x₁ vw vr => ?_)
    exact k h₁ tk₁ F₁ val _ (R1.ext x₁) (m1.trans (R1.grow x₁)) (R1.same x₁) ⟨v, rfl, vr rfl⟩
  · cases h
end
end Mine

/-! Ca1 -/
namespace Mine

theorem nodupS_cons {x : Str} {r : List Str} (h : nodupS (x :: r) = true) : x ∉ r ∧ nodupS r = true := by
  unfold nodupS at h
  rw [Bool.and_eq_true] at h
  exact ⟨by simpa using h.1, h.2⟩
theorem nodupS_app : ∀ {a b : List Str}, nodupS (a ++ b) = true → nodupS a = true ∧ nodupS b = true ∧ ∀ x ∈ a, x ∉ b
  | [], b, h => ⟨rfl, h, fun x hx => by cases hx⟩
  | x :: a, b, h => by
    obtain ⟨h1, h2⟩ := nodupS_cons h
    obtain ⟨h3, h4, h5⟩ := nodupS_app h2
    refine ⟨?_, h4, fun y hy => ?_⟩
    · unfold nodupS
      rw [Bool.and_eq_true]
      exact ⟨by simpa using fun q => h1 (List.mem_append_left _ q), h3⟩
    · rcases List.mem_cons.mp hy with rfl | hy
      · exact fun q => h1 (List.mem_append_right _ q)
      · exact h5 y hy

theorem zip_lookup_none {α : Type} {x : Str} : ∀ {ns : List Str} {vs : List α}, x ∉ ns → (ns.zip vs).lookup x = none
  | [], vs, _ => by simp
  | n :: ns, [], _ => by simp
  | n :: ns, v :: vs, h => by
    rw [List.zip_cons_cons, List.lookup_cons]
    have : (x == n) = false := beq_eq_false_iff_ne.mpr fun e => h (e ▸ List.mem_cons_self)
    rw [this]
    exact zip_lookup_none fun q => h (List.mem_cons_of_mem _ q)
theorem zip_lookup_some {α : Type} {x : Str} : ∀ {ns : List Str} {vs : List α}, x ∈ ns → ns.length ≤ vs.length → ∃ v, (ns.zip vs).lookup x = some v
  | n :: ns, [], _, hl => by simp at hl
  | n :: ns, v :: vs, h, hl => by
    rw [List.zip_cons_cons, List.lookup_cons]
    cases hx : x == n with
    | true => exact ⟨v, rfl⟩
    | false =>
      rcases List.mem_cons.mp h with rfl | h
      · simp at hx
      · exact zip_lookup_some h (by simpa using hl)

theorem fm_congr {α β : Type} {f g : α → Option β} : ∀ {l : List α}, (∀ x ∈ l, f x = g x) → l.filterMap f = l.filterMap g
  | [], _ => rfl
  | x :: l, h => by
    rw [List.filterMap_cons, List.filterMap_cons, h x List.mem_cons_self, fm_congr fun y hy => h y (List.mem_cons_of_mem _ hy)]

/-- the slots' own order -/
theorem zip_back {α : Type} : ∀ {ns : List Str} {vs : List α}, nodupS ns = true → ns.length = vs.length → (ns.filterMap fun n => ((ns.zip vs).lookup n).map (n, ·)) = ns.zip vs
  | [], [], _, _ => rfl
  | [], v :: vs, _, h => by simp at h
  | n :: ns, [], _, h => by simp at h
  | n :: ns, v :: vs, h, hl => by
    obtain ⟨h1, h2⟩ := nodupS_cons h
    have ih := zip_back (ns := ns) (vs := vs) h2 (by simpa using hl)
    rw [List.zip_cons_cons, List.filterMap_cons]
    have e : ((n, v) :: ns.zip vs).lookup n = some v := by rw [List.lookup_cons, beq_self_eq_true]
    rw [e]
    simp only [Option.map_some]
    congr 1
    rw [← ih]
    refine fm_congr fun m hm => ?_
    have : (m == n) = false := beq_eq_false_iff_ne.mpr fun q => h1 (q ▸ hm)
    rw [List.lookup_cons, this, ih]

def addS (slots : List (Str × Value)) : List (Str × Value) → List (Str × Value)
  | [] => slots
  | (n, d) :: r => addS (if (slots.lookup n).isNone then slots ++ [(n, d)] else slots) r

theorem forIn_addS (f : Str × Value → List (Str × Value) → Sem (ForInStep (List (Str × Value))))
    (hf : ∀ n d c, f (n, d) c = if (c.lookup n).isNone then pure (.yield (c ++ [(n, d)])) else pure (.yield c)) :
    ∀ (l : List (Str × Value)) (c : List (Str × Value)), forIn l c f = pure (addS c l)
  | [], c => rfl
  | (n, d) :: r, c => by
    rw [List.forIn_cons, hf]
    unfold addS
    split
    · exact forIn_addS f hf r _
    · exact forIn_addS f hf r _

theorem addS_old {slots : List (Str × Value)} : ∀ {l : List (Str × Value)}, (∀ p ∈ l, (slots.lookup p.1).isNone = false) → addS slots l = slots
  | [], _ => rfl
  | (n, d) :: r, h => by
    unfold addS
    rw [h (n, d) List.mem_cons_self]
    exact addS_old fun p hp => h p (List.mem_cons_of_mem _ hp)
theorem lookup_app_none {α : Type} {x : Str} : ∀ {a b : List (Str × α)}, a.lookup x = none → b.lookup x = none → (a ++ b).lookup x = none
  | [], b, _, h => h
  | (n, v) :: a, b, h1, h2 => by
    rw [List.cons_append, List.lookup_cons]
    rw [List.lookup_cons] at h1
    cases hx : x == n with
    | true => rw [hx] at h1; cases h1
    | false => rw [hx] at h1; exact lookup_app_none h1 h2
theorem addS_new : ∀ {ns : List Str} {ds : List Value} {slots : List (Str × Value)}, nodupS ns = true → ns.length = ds.length → (∀ x ∈ ns, slots.lookup x = none) → addS slots (ns.zip ds) = slots ++ ns.zip ds
  | [], [], slots, _, _, _ => by simp [addS]
  | [], d :: ds, slots, _, h, _ => by simp at h
  | n :: ns, [], slots, _, h, _ => by simp at h
  | n :: ns, d :: ds, slots, hn, hl, h => by
    obtain ⟨h1, h2⟩ := nodupS_cons hn
    rw [List.zip_cons_cons]
    unfold addS
    rw [h n List.mem_cons_self]
    simp only [Option.isNone_none, if_true]
    rw [addS_new h2 (by simpa using hl) fun x hx => lookup_app_none (h x (List.mem_cons_of_mem _ hx)) (by
      have : (x == n) = false := beq_eq_false_iff_ne.mpr fun q => h1 (q ▸ hx)
      rw [List.lookup_cons, this]; rfl)]
    simp

theorem slots_eq {names : List Str} {vals ds : List Value} (hn : nodupS names = true) (h1 : vals.length ≤ names.length) (h2 : ds.length ≤ names.length) (h3 : names.length ≤ vals.length + ds.length) :
    addS (names.zip vals) ((names.drop (names.length - ds.length)).zip ds) = names.zip (vals ++ ds.drop (vals.length + ds.length - names.length)) := by
  have e1 : names = names.take vals.length ++ names.drop vals.length := (List.take_append_drop ..).symm
  generalize hn1 : names.take vals.length = n1 at e1
  generalize hn2 : names.drop vals.length = n2 at e1
  have l1 : n1.length = vals.length := by rw [← hn1, List.length_take]; omega
  have l2 : n2.length = names.length - vals.length := by rw [← hn2, List.length_drop]
  have e2 : ds = ds.take (vals.length + ds.length - names.length) ++ ds.drop (vals.length + ds.length - names.length) := (List.take_append_drop ..).symm
  generalize hd1 : ds.take (vals.length + ds.length - names.length) = d1 at e2
  generalize hd2 : ds.drop (vals.length + ds.length - names.length) = d2 at e2
  have m1 : d1.length = vals.length + ds.length - names.length := by rw [← hd1, List.length_take]; omega
  have m2 : d2.length = n2.length := by rw [← hd2, List.length_drop, l2]; omega
  rw [e1] at hn
  obtain ⟨hn1', hn2', hdis⟩ := nodupS_app hn
  have hz : names.zip vals = n1.zip vals := by
    rw [e1]
    have : vals = vals ++ [] := by simp
    conv => lhs; rw [this, List.zip_append l1]
    simp
  have hz2 : names.zip (vals ++ d2) = n1.zip vals ++ n2.zip d2 := by rw [e1, List.zip_append l1]
  have hz3 : (names.drop (names.length - ds.length)).zip ds = (n1.drop (names.length - ds.length)).zip d1 ++ n2.zip d2 := by
    have : names.drop (names.length - ds.length) = n1.drop (names.length - ds.length) ++ n2 := by
      conv => lhs; rw [e1]
      rw [List.drop_append_of_le_length (by rw [l1]; rw [← e1]; omega)]
      rw [← e1]
    rw [this]
    conv => lhs; rw [e2]
    rw [List.zip_append (by rw [List.length_drop, l1, m1]; rw [← e2]; omega)]
    rw [← e2]
  rw [hz, hz2, hz3]
  have split : ∀ (a b slots : List (Str × Value)), addS slots (a ++ b) = addS (addS slots a) b := fun a => by
    induction a with
    | nil => intro b slots; rfl
    | cons p a ih => intro b slots; exact ih b _
  rw [split, addS_old (l := (n1.drop (names.length - ds.length)).zip d1) (slots := n1.zip vals) ?_, addS_new hn2' m2.symm fun x hx => zip_lookup_none fun q => hdis x q hx]
  intro p hp
  have hm : p.1 ∈ n1 := List.mem_of_mem_drop (List.of_mem_zip hp).1
  obtain ⟨v, hv⟩ := zip_lookup_some (vs := vals) hm (by omega)
  rw [hv]; rfl

theorem VRs.drop {F : Fz} : ∀ {vs ds}, VRs F vs ds → ∀ k, VRs F (vs.drop k) (ds.drop k)
  | _, _, .nil, k => by simp; exact .nil
  | _, _, .cons x r, 0 => .cons x r
  | _, _, .cons x r, k + 1 => by simpa using VRs.drop r k

/-- the defaults of a def -/
def DfltsAt (s : Shared) (v : Value) (ds : List Value) : Prop := (v = .none ∧ ds = []) ∨ ∃ a o items n, v = .ref a ∧ s.heap.get? a = some o ∧ o.data = .seq items n ∧ ds = items.toList

theorem binds_to {s : Shared} {fd : FuncData} {vals ds : List Value} (hp : fd.params.posonlyargs.isEmpty = true) (hva : fd.params.vararg.isNone = true) (hk : fd.params.kwonlyargs.isEmpty = true) (hkw : fd.params.kwarg.isNone = true)
    (hn : nodupS (fd.params.args.map (·.arg)) = true) (hd : DfltsAt s fd.defaults ds) (h1 : vals.length ≤ (fd.params.args.map (·.arg)).length) (h2 : ds.length ≤ (fd.params.args.map (·.arg)).length) (h3 : (fd.params.args.map (·.arg)).length ≤ vals.length + ds.length) :
    BindsTo s fd ⟨vals, []⟩ ((fd.params.args.map (·.arg)).zip (vals ++ ds.drop (vals.length + ds.length - (fd.params.args.map (·.arg)).length))) := by
  intro M A E Q hq
  have e1 : fd.params.posonlyargs = [] := List.isEmpty_iff.mp hp
  have e2 : fd.params.vararg = none := Option.isNone_iff_eq_none.mp hva
  have e3 : fd.params.kwonlyargs = [] := List.isEmpty_iff.mp hk
  have e4 : fd.params.kwarg = none := Option.isNone_iff_eq_none.mp hkw
  unfold bindArgs
  simp only [e1, e2, e3, e4, List.map_nil, List.nil_append, List.append_nil, List.forIn_nil]
  refine wpAny_bind (wpAny_pure ?_)
  generalize fd.params.args.map (·.arg) = names at *
  have hmiss : (List.take (names.length - ds.length) names).filter (fun n => ((names.zip vals).lookup n).isNone) = [] := by
    rw [List.filter_eq_nil_iff]
    intro x hx
    have hlen : (names.take vals.length).length ≤ vals.length := by rw [List.length_take]; omega
    have hx' : x ∈ names.take vals.length := by
      have : List.take (names.length - ds.length) names = List.take (names.length - ds.length) (List.take vals.length names) := by rw [List.take_take]; congr 1; omega
      rw [this] at hx; exact List.mem_of_mem_take hx
    obtain ⟨v, hv⟩ := zip_lookup_some (vs := vals) hx' hlen
    have hz : names.zip vals = (names.take vals.length).zip vals := by
      conv => lhs; rw [← List.take_append_drop vals.length names]
      have : vals = vals ++ [] := by simp
      conv => lhs; rw [this, List.zip_append (by rw [List.length_take, List.length_append]; simp; omega)]
      simp
    rw [hz, hv]; simp
  have hfin : ∀ o : Option (Array Value), (o.getD #[]).toList = ds → wpAny M A (seqItems? fd.defaults) (fun x s' => x = o ∧ s' = s) E s → wpAny M A (seqItems? fd.defaults) (fun x s' => (x.getD #[]).toList = ds ∧ s' = s) E s := fun o ho h => wpAny_mono h (fun x s' q => ⟨by rw [q.1]; exact ho, q.2⟩) fun _ _ e => e
  have hseq : wpAny M A (seqItems? fd.defaults) (fun x s' => (x.getD #[]).toList = ds ∧ s' = s) E s := by
    rcases hd with ⟨e, rfl⟩ | ⟨a, o, items, n, e, ho, hdat, rfl⟩
    · rw [e]; exact wpAny_pure ⟨rfl, rfl⟩
    · rw [e]; exact wpAny_seqItems ho hdat ⟨rfl, rfl⟩
  refine wpAny_bind (wpAny_mono hseq (fun o s' h => ?_) fun _ _ e => e)
  obtain ⟨ho, rfl⟩ := h
  have hgt : decide (vals.length > names.length) = false := by simpa using h1
  simp only [ho, hgt, Bool.false_and, Bool.false_eq_true, if_false]
  have hdr : ds.length - names.length = 0 := by omega
  simp only [hdr, List.drop_zero, hmiss, List.isEmpty_nil, Bool.not_true, Bool.false_eq_true, if_false]
  rw [forIn_addS _ (fun n d c => rfl)]
  refine wpAny_bind (wpAny_pure ?_)
  refine wpAny_bind (wpAny_pure ?_)
  simp only [List.isEmpty_nil, Bool.not_true, Bool.false_eq_true, if_false]
  rw [slots_eq hn h1 h2 h3]
  refine wpAny_pure ?_
  rw [zip_back hn (by rw [List.length_append, List.length_drop]; omega)]
  exact hq
end Mine

/-! Ca2 -/
namespace Mine

theorem VRs.zip {F : Fz} {x : Str} : ∀ {names : List Str} {vs : List Value} {ds : List D}, VRs F vs ds → ∀ {d : D}, (names.zip ds).lookup x = some d → ∃ v, (names.zip vs).lookup x = some v ∧ VR F v d
  | [], _, _, _, d, h => by simp at h
  | n :: ns, _, _, .nil, d, h => by simp at h
  | n :: ns, _, _, .cons r rs, d, h => by
    rw [List.zip_cons_cons, List.lookup_cons] at h
    rw [List.zip_cons_cons, List.lookup_cons]
    cases hx : x == n with
    | true => rw [hx] at h; cases h; exact ⟨_, rfl, r⟩
    | false => rw [hx] at h; exact VRs.zip rs h

theorem zip_mem {α : Type} {x : Str} {v : α} : ∀ {ns : List Str} {vs : List α}, (ns.zip vs).lookup x = some v → x ∈ ns
  | [], _, h => by simp at h
  | n :: ns, [], h => by simp at h
  | n :: ns, u :: vs, h => by
    rw [List.zip_cons_cons, List.lookup_cons] at h
    cases hx : x == n with
    | true => rw [beq_iff_eq.mp hx]; exact List.mem_cons_self
    | false => rw [hx] at h; exact List.mem_cons_of_mem _ (zip_mem h)

theorem bindL_get {kindOf : Str → Option NameKind} {x : Str} (hk : kindOf x = some .local) : ∀ {ns : List Str} {vs : List Value} {m : Str → Option Value}, nodupS ns = true → (∀ v, (ns.zip vs).lookup x = some v → bindL kindOf (ns.zip vs) m x = some v) ∧ ((ns.zip vs).lookup x = none → bindL kindOf (ns.zip vs) m x = m x)
  | [], vs, m, _ => ⟨fun v h => by simp at h, fun _ => by simp [bindL]⟩
  | n :: ns, [], m, _ => ⟨fun v h => by simp at h, fun _ => by simp [bindL]⟩
  | n :: ns, u :: vs, m, hn => by
    obtain ⟨h1, h2⟩ := nodupS_cons hn
    rw [List.zip_cons_cons, List.lookup_cons]
    unfold bindL
    cases hx : x == n with
    | true =>
      have e := beq_iff_eq.mp hx
      subst e
      obtain ⟨_, i2⟩ := bindL_get hk (ns := ns) (vs := vs) (m := fun y => if y = x then some u else m y) h2
      refine ⟨fun v hv => ?_, fun q => by cases q⟩
      cases hv
      rw [if_pos hk, i2 (zip_lookup_none h1)]
      simp
    | false =>
      have hne : x ≠ n := beq_eq_false_iff_ne.mp hx
      obtain ⟨i1, i2⟩ := bindL_get hk (ns := ns) (vs := vs) (m := if kindOf n = some .local then fun y => if y = n then some u else m y else m) h2
      refine ⟨i1, fun q => ?_⟩
      rw [i2 q]
      split
      · exact if_neg hne
      · rfl
theorem bindC_get {kindOf : Str → Option NameKind} {x : Str} (hk : kindOf x ≠ some .local) : ∀ {ns : List Str} {vs : List Value} {m : Str → Option Value}, nodupS ns = true → (∀ v, (ns.zip vs).lookup x = some v → bindC kindOf (ns.zip vs) m x = some v) ∧ ((ns.zip vs).lookup x = none → bindC kindOf (ns.zip vs) m x = m x)
  | [], vs, m, _ => ⟨fun v h => by simp at h, fun _ => by simp [bindC]⟩
  | n :: ns, [], m, _ => ⟨fun v h => by simp at h, fun _ => by simp [bindC]⟩
  | n :: ns, u :: vs, m, hn => by
    obtain ⟨h1, h2⟩ := nodupS_cons hn
    rw [List.zip_cons_cons, List.lookup_cons]
    unfold bindC
    cases hx : x == n with
    | true =>
      have e := beq_iff_eq.mp hx
      subst e
      obtain ⟨_, i2⟩ := bindC_get hk (ns := ns) (vs := vs) (m := fun y => if y = x then some u else m y) h2
      refine ⟨fun v hv => ?_, fun q => by cases q⟩
      cases hv
      rw [if_neg hk, i2 (zip_lookup_none h1)]
      simp
    | false =>
      have hne : x ≠ n := beq_eq_false_iff_ne.mp hx
      obtain ⟨i1, i2⟩ := bindC_get hk (ns := ns) (vs := vs) (m := if kindOf n = some .local then m else fun y => if y = n then some u else m y) h2
      refine ⟨i1, fun q => ?_⟩
      rw [i2 q]
      split
      · rfl
      · exact if_neg hne

section
variable {K : Frag} {mg mb : Str → Option Value} {prog : Program} {w : World} {i : In} {n : Nat}

theorem dflts_at {fd : FuncData} {ds : List D} (h : dfltsD K fd = some ds) {F : Fz} {s : Shared} (kf : KF K F) (fin : ∀ b o, F b = some o → s.heap.get? b = some o) : ∃ vs, DfltsAt s fd.defaults vs ∧ VRs F vs ds := by
  unfold dfltsD at h
  split at h
  · rename_i e
    cases h
    exact ⟨[], .inl ⟨e, rfl⟩, .nil⟩
  · split at h
    · rename_i ds' ht
      cases h
      have r := topD_vr kf 1 ht
      generalize he : fd.defaults = v at r ⊢
      cases r with
      | tuple ha hc hd hr => exact ⟨_, .inr ⟨_, _, _, _, rfl, fin _ _ ha, hd, rfl⟩, hr⟩
    · cases h

theorem call_enter {f : Str} {args : List D} {fd : FuncData} {b : List Stmt} {ds : List D} {binds : List (Str × D)} (hfd : fdOf K f = some fd) (hok : fdOk K fd = true) (hbody : fd.body = .stmts b) (hds : dfltsD K fd = some ds)
    (hbinds : bindP (fd.params.args.map (·.arg)) args ds = some binds) {A : Around} {F : Fz} {s : Shared} {a : Addr} {vs : List Value} (hA : AOk A (n + 1)) (G : Glb K mg mb s.heap) (kf : KF K F)
    (fin : ∀ b o, F b = some o → s.heap.get? b = some o) (hn : nsIn K mainGlobals f = some (some (.ref a))) (hvs : VRs F vs args) {RR : Result → Shared → Prop}
    (k : ∀ env h₁ tk₁ val, AOk (A.deeper env) n → env.frame = some env.locals → FR K mg mb fd.scope env s.heap (fun _ => False) F (rhoOf binds) val h₁ →
      wpAny (model prog w) (A.deeper env) (execs b env) (fun f s' => RR (.ok (.ret (match f with | .ret v => v | _ => .none))) s')
        (fun e s' => wpAny (model prog w) (A.deeper env) (leaving env e) (fun _ s'' => RR (.error e) s'') (fun e' s'' => RR (.error e') s'') s') { s with heap := h₁, toks := tk₁ }) : codeAny (model prog w) A (.call (.ref a) ⟨vs, []⟩) RR s := by
  unfold fdOk at hok
  simp only [Bool.and_eq_true] at hok
  obtain ⟨⟨⟨⟨⟨⟨⟨⟨⟨⟨⟨⟨⟨o1, o2⟩, o3⟩, o4⟩, o5⟩, o6⟩, o7⟩, o8⟩, o9⟩, o10⟩, o11⟩, o12⟩, o13⟩, o14⟩ := hok
  -- the object
  unfold fdOf at hfd
  rw [hn] at hfd
  dsimp only at hfd
  split at hfd
  case h_2 => cases hfd
  rename_i c dd fd' sl hk
  cases hfd
  obtain ⟨dvs, hdat, hdvr⟩ := dflts_at hds kf fin
  have l1 := hvs.length
  have l2 := hdvr.length
  unfold bindP at hbinds
  split at hbinds
  case isFalse => cases hbinds
  rename_i hlen
  cases hbinds
  have hbt := binds_to (s := s) (fd := fd) (vals := vs) (ds := dvs) o5 o6 o7 o8 o9 hdat (by rw [l1]; exact hlen.1) (by rw [l2]; exact hlen.2.1) (by rw [l1, l2]; exact hlen.2.2)
  have hvr : VRs F (vs ++ dvs.drop (vs.length + dvs.length - (fd.params.args.map (·.arg)).length)) (args ++ ds.drop (args.length + ds.length - (fd.params.args.map (·.arg)).length)) := by
    rw [l1, l2]; exact hvs.append (hdvr.drop _)
  generalize (vs ++ dvs.drop (vs.length + dvs.length - (fd.params.args.map (·.arg)).length)) = vals at hbt hvr
  generalize (args ++ ds.drop (args.length + ds.length - (fd.params.args.map (·.arg)).length)) = dvals at hvr k
  have hnames : ∀ x ∈ fd.params.args.map (·.arg), localOrCell fd.scope x = true := fun x hx => by
    obtain ⟨y, hy, rfl⟩ := List.mem_map.mp hx
    exact List.all_eq_true.mp o10 y hy
  generalize fd.params.args.map (·.arg) = names at hbt k hnames o9 hlen
  have hkind : fd.scope.kind = .function := by simpa using o11
  have hall : ∀ p ∈ fd.scope.names, fd.scope.names.lookup p.1 = some p.2 ∧ p.2 ≠ .free := fun p hp => by
    have := List.all_eq_true.mp o14 p hp
    rw [Bool.and_eq_true] at this
    exact ⟨by simpa using this.1, by simpa using this.2⟩
  have hclo : fd.closure = [] := List.isEmpty_iff.mp o2
  refine codeAny_call_function (by have := hA.depth; omega) (G.kin _ _ hk) rfl (by simpa using o13) (by simpa using o12) hbody (codeRec_of G.kin o1) (hbt _ _ _ _ ?_)
  rw [hclo]
  have hcellmem : ∀ x, fd.scope.names.lookup x = some .cell → ∃ c, (cellsFrom (s.heap.objs.size + 1) fd.scope.names []).lookup x = some c := fun x hx => by
    obtain ⟨c, hc, _⟩ := cellsFrom_mem (h := s.heap.push { cls := .type "frame", data := .dict #[] }) (acc := []) (lo := 0) (Nat.zero_le _) (.inl (mem_of_lookup hx))
    rw [Heap.size_push] at hc
    exact ⟨c, hc⟩
  refine wpAny_newFunctionEnv_cells hkind (fun x hx => ?_) fun env he s' x => ?_
  · have hm := (List.of_mem_zip hx).1
    rcases localOrCell_iff.mp (hnames _ hm) with q | q
    · exact .inl q
    · obtain ⟨c, hc⟩ := hcellmem _ q
      exact .inr ⟨q, by rw [hc]; rfl⟩
  subst he
  refine ⟨G.nolimit.keeps x.toInCall.keep, codeAny_func ?_⟩
  obtain ⟨h₁, tk₁, rfl⟩ := x.toInCall.same
  generalize henv : newEnv fd.scope s.heap.objs.size fd.globals (cellsFrom (s.heap.objs.size + 1) fd.scope.names []) (fd.qualname ++ ".<locals>.") (some a) fd.code none fd.builtins = env at x ⊢
  have hloc : env.locals = s.heap.objs.size := by rw [← henv]; rfl
  have hko : ∀ y, env.kindOf y = fd.scope.names.lookup y := fun y => by rw [← henv]; rfl
  have hcells : env.cells = cellsFrom (s.heap.objs.size + 1) fd.scope.names [] := by rw [← henv]; rfl
  have keep := x.toInCall.keep
  have priv : ∀ b, s.heap.objs.size ≤ b → Priv s.heap F (fun _ => False) b := fun b hb => ⟨Heap.get?_none_of_le hb, fresh_F fin (Heap.get?_none_of_le hb), fun q => q⟩
  have R : FR K mg mb fd.scope env s.heap (fun _ => False) F (rhoOf (names.zip dvals)) (fun y => if fd.scope.names.lookup y = some .local then bindL env.kindOf (names.zip vals) (fun _ => none) y else bindC env.kindOf (names.zip vals) (fun _ => none) y) h₁ := by
    refine ⟨G.keeps keep, kf, fun b o e => keep _ _ (fin b o e), by rw [← henv]; exact hkind, by rw [← henv]; show fd.globals = _; simpa using o3, by rw [← henv]; show fd.builtins = _; simpa using o4, hko, fun y hy => ?_, keep, ⟨_, x.toInCall.ns, fun y hy => by rw [if_pos hy]⟩, priv _ (by rw [hloc]; exact Nat.le_refl _), fun y hy => ?_, fun y z c hy hz => ?_, fun y p hy => ?_, fun y dd hy => ?_, fun y dd hy => ?_, fun y z dy dz v hy => ?_, fun b hb => hb.elim⟩
    · exact absurd rfl (hall _ (mem_of_lookup hy)).2
    · obtain ⟨c, hc⟩ := hcellmem y hy
      rw [← hcells] at hc
      refine ⟨c, hc, ?_, priv _ ?_⟩
      · rw [if_neg (by rw [hy]; decide)]; exact x.cell y c hc
      · have := x.above y c (mem_of_lookup hc); rw [hloc] at this; exact Nat.le_of_lt this
    · exact name_of_addr x.apart (mem_of_lookup hy) (mem_of_lookup hz)
    · unfold rhoOf at hy
      rw [Option.map_eq_some_iff] at hy
      obtain ⟨d', hd', _⟩ := hy
      exact hnames _ (zip_mem hd')
    · unfold rhoOf at hy
      rw [Option.map_eq_some_iff] at hy
      obtain ⟨d', hd', e⟩ := hy
      cases e
      obtain ⟨v, hv, vr⟩ := hvr.zip hd'
      refine ⟨v, ?_, vr⟩
      by_cases q : fd.scope.names.lookup y = some .local
      · rw [if_pos q]; exact (bindL_get (by rw [hko, q]) o9).1 v hv
      · rw [if_neg q]; exact (bindC_get (by rw [hko]; exact q) o9).1 v hv
    · unfold rhoOf at hy
      rw [Option.map_eq_some_iff] at hy
      obtain ⟨d', hd', e⟩ := hy
      cases e
    · unfold rhoOf at hy
      rw [Option.map_eq_some_iff] at hy
      obtain ⟨d', hd', e⟩ := hy
      cases e
  have hA' : AOk (A.deeper env) n := ⟨hA.handled, by have := hA.depth; show A.depth + 1 + n < _; omega, by have := hA.units; show A.units + 3 + 8 * n + 200 < _; omega⟩
  exact k env h₁ tk₁ _ hA' (by rw [← henv]; rfl) R

theorem callN_code (hs : SoundS K mg mb prog w i n) {f : Str} {args : List D} {d : D} (h : (nxt K i).call f args = .ok d) {A : Around} {F : Fz} {s : Shared} {a : Addr} {vs : List Value} (hA : AOk A (n + 1)) (G : Glb K mg mb s.heap) (kf : KF K F)
    (fin : ∀ b o, F b = some o → s.heap.get? b = some o) (hn : nsIn K mainGlobals f = some (some (.ref a))) (hvs : VRs F vs args) {RR : Result → Shared → Prop}
    (k : ∀ v h' tk F', Ext F s.heap F' h' → VR F' v d → RR (.ok (.ret v)) { s with heap := h', toks := tk }) : codeAny (model prog w) A (.call (.ref a) ⟨vs, []⟩) RR s := by
  replace h : callN K i f args = .ok d := h
  unfold callN at h
  split at h
  case h_2 => cases h
  rename_i fd hfd
  split at h
  case isFalse => cases h
  rename_i hok
  split at h
  case h_2 => cases h
  rename_i b ds hbody hds
  split at h
  case h_2 => cases h
  rename_i binds hbinds
  obtain ⟨⟨ρ', r⟩, hex, h2⟩ := Out.bind_ok h
  cases h2
  refine call_enter hfd hok hbody hds hbinds hA G kf fin hn hvs fun env h₁ tk₁ val hA' _ R => ?_
  refine execs_ok hs hex (s := { s with heap := h₁, toks := tk₁ }) hA' G R _ _ fun h' tk F' val' fl R' gr same hfl => ?_
  have x' : Ext F s.heap F' h' := ⟨R'.keep, gr.mono, R'.fin, gr.new⟩
  cases r with
  | none =>
    obtain rfl : fl = .next := hfl
    exact k .none h' tk F' x' .none
  | some d' =>
    obtain ⟨v, rfl, vr⟩ := hfl
    exact k v h' tk F' x' vr

theorem callN_ok (hs : SoundS K mg mb prog w i n) : SoundC K mg mb prog w (nxt K i) (n + 1) := by
  intro f args d h A F s a vs hA G kf fin hn hvs Q E k
  exact wpAny_call (callN_code hs h hA G kf fin hn hvs fun v h' tk F' x r => k v h' tk F' x (.frz r) fun _ => r)

structure Sound (K : Frag) (mg mb : Str → Option Value) (prog : Program) (w : World) (i : In) (n : Nat) : Prop where
  e : SoundE K mg mb prog w i n
  t : SoundT K mg mb prog w i n
  c : SoundC K mg mb prog w i n
  u : SoundU K mg mb prog w i n
  f : SoundF K mg mb prog w i n
  s : SoundS K mg mb prog w i n

theorem sound_all : ∀ n, Sound K mg mb prog w (It K n) n
  | 0 => ⟨(fun _ _ _ _ _ h => by cases h), (fun _ _ _ _ h => by cases h), (fun _ _ _ h => by cases h), (fun _ _ _ _ _ _ _ _ h => by cases h), (fun _ _ _ _ _ _ h => by cases h), (fun _ _ _ _ _ h => by cases h)⟩
  | n + 1 => by
    have S := sound_all n
    have L := soundL_of S.e S.t
    refine ⟨fun sc ρ wk e d h A env F s hA => evN_ok S.e S.t S.c L sc ρ wk e d h A env F s hA.succ, fun sc ρ e b h A env F s hA => tstN_ok S.e S.t sc ρ e b h A env F s hA.succ, callN_ok S.s, fun sc ρ wk elt gens csc pos d h => ?_, fun sc ρ wk e d hf h => ?_,
      fun sc ρ st ρ' r h A env h0 RS F val s hA => exN_ok S.e S.t S.f S.u S.s sc ρ st ρ' r h A env h0 RS F val s hA.succ⟩
    · obtain ⟨ds, e, go⟩ := compE_soundU S.e S.t sc ρ wk elt gens csc pos d h
      exact ⟨ds, e, fun A env F s use Q E p hA => go A env F s use Q E p hA.succ⟩
    · obtain ⟨ds, e, go⟩ := fresh_ok S.e S.t S.f sc ρ wk e d hf h
      exact ⟨ds, e, fun A env F s hA => go A env F s hA.succ⟩

theorem law_run {n : Nat} {zs : List Int} {d : D} (h : (It K (n + 1)).call "law" [.list (zs.map .int)] = .ok d) {A : Around} {s : Shared} {fa script : Addr} {vs : List Value} (hA : AOk A (n + 1)) (G : Glb K mg mb s.heap)
    (hn : nsIn K mainGlobals "law" = some (some (.ref fa))) (hl : s.heap.IsList script vs.toArray) (hi : IntsAre vs zs) {RR : Result → Shared → Prop}
    (k : ∀ v h' tk F', (∀ b o, s.heap.get? b = some o → h'.get? b = some o) → VR F' v d → RR (.ok (.ret v)) { s with heap := h', toks := tk }) : codeAny (model prog w) A (.call (.ref fa) ⟨[.ref script], []⟩) RR s := by
  obtain ⟨o, ho, hc, m, hd⟩ := hl
  have fin : ∀ b q, (fun b => if b = script then s.heap.get? b else K.lookup b : Fz) b = some q → s.heap.get? b = some q := fun b q e => by
    dsimp only at e
    split at e
    · exact e
    · exact G.kin _ _ e
  refine callN_code (F := fun b => if b = script then s.heap.get? b else K.lookup b) (sound_all n).s h hA G (fun a q hq _ => ?_) fin hn (.one (.list (o := o) (items := vs.toArray) (n := m) ?_ hc hd ?_)) fun v h' tk F' x r => k v h' tk F' x.keep r
  · show (if a = script then s.heap.get? a else K.lookup a) = some q
    split
    · exact G.kin _ _ hq
    · exact hq
  · show (if script = script then s.heap.get? script else K.lookup script) = some o
    rw [if_pos rfl]; exact ho
  · simpa using vrs_ints hi
end
end Mine

/-! Tx -/
namespace Mine

/-- the runs that end in the one exception: a def's, a statement's (the frame as it stood when the exception came) -/
structure Jn where
  tx : Scope → Rho → Stmt → Option Rho
  tc : Str → List D → Bool

def txL (f : Rho → Stmt → Out (Rho × Option D)) (g : Rho → Stmt → Option Rho) : List Stmt → Rho → Option Rho
  | [], _ => none
  | s :: r, ρ => match g ρ s with
    | some ρ' => some ρ'
    | none => (match f ρ s with
      | .ok (ρ', none) => txL f g r ρ'
      | _ => none)

abbrev excN : Str := Str.ofString "TiesException"

def txCall (K : Frag) (i : In) (j : Jn) (sc : Scope) (ρ : Rho) (f : Str) (args : List Expr) : Bool :=
  match calleeD K sc f with
  | some .fn => if args.isEmpty || (fdOf K f).isNone then false else
      (match evs (i.ev sc ρ false) args with
      | .ok vs => j.tc f vs
      | _ => false)
  | _ => false

def txN (K : Frag) (i : In) (j : Jn) (sc : Scope) (ρ : Rho) : Stmt → Option Rho
  | .Raise (some (.Call (.Name C _) [.Constant (.str _) _ _] [] _)) none _ => if C == excN && sc.names.lookup C == some .globalImplicit then some ρ else none
  | .Return (some (.Call (.Name f _) args [] _)) _ => if txCall K i j sc (frz ρ (args.flatMap (al K 30 false))) f args then some (frz ρ (args.flatMap (al K 30 false))) else none
  | .Assign [.Name _ _] (.Call (.Name f _) args [] _) _ => if txCall K i j sc (frz ρ (args.flatMap (al K 30 false))) f args then some (frz ρ (args.flatMap (al K 30 false))) else none
  | .If t b o _ => match i.tst sc ρ t with
    | .ok c => txL (i.ex sc) (j.tx sc) (if c then b else o) ρ
    | _ => none
  | _ => none

def tcN (K : Frag) (i : In) (j : Jn) (f : Str) (args : List D) : Bool :=
  match fdOf K f with
  | some fd => if fdOk K fd then
      (match fd.body, dfltsD K fd with
      | .stmts b, some ds => (match bindP (fd.params.args.map (·.arg)) args ds with
        | some binds => (txL (i.ex fd.scope) (j.tx fd.scope) b (rhoOf binds)).isSome
        | none => false)
      | _, _ => false)
    else false
  | none => false

def Jt (K : Frag) : Nat → Jn
  | 0 => ⟨fun _ _ _ => none, fun _ _ => false⟩
  | n + 1 => ⟨txN K (It K n) (Jt K n), tcN K (It K n) (Jt K n)⟩

/-- the exception's class -/
abbrev Exc (c : Addr) (mg : Str → Option Value) (h : Heap) : Prop := OwnCls excN c [.type "Exception", .type "BaseException", .type "object"] "Exception.__new__" mg h

/-- the exception e is on its way in the frames l -/
def TieAt (c : Addr) (l : List Env) (hm h' : Heap) (e : Addr) : Prop :=
  (∃ vs, Heap.MadeExcOf hm h' e (.ref c) vs) ∨ (∃ a0, Heap.FlyingW (hideAll hm (l.filterMap (·.frame))) l e (.ref c) a0 h' ∧ hm.UpToSlots h')

def TStOk (K : Frag) (mg mb : Str → Option Value) (prog : Program) (w : World) (c : Addr) (l : List Env) (A : Around) (sc : Scope) (env : Env) (h0 : Heap) (RS : Addr → Prop) (F : Fz) (s : Shared) (ρ' : Rho) (t : Sem Flow) : Prop :=
  ∀ (Q : Flow → Shared → Prop) (E : Value → Shared → Prop), (∀ e hm h' tk F' val', FR K mg mb sc env h0 RS F' ρ' val' hm → Grow h0 F F' → (∀ b, RS b → hm.get? b = s.heap.get? b) → TieAt c l hm h' e → E (.ref e) { s with heap := h', toks := tk }) → wpAny (model prog w) A t Q E s

/-- the frames around -/
structure Fra (A : Around) (env : Env) (outer : List Env) (h0 : Heap) : Prop where
  fr : A.frames = some (env :: outer)
  loc : env.frame = some env.locals
  out : ∃ base, h0.FunFrames base outer

def SoundX (K : Frag) (mg mb : Str → Option Value) (prog : Program) (w : World) (c : Addr) (j : Jn) (n : Nat) : Prop :=
  ∀ sc ρ st ρ', j.tx sc ρ st = some ρ' → ∀ A env outer h0 RS F val s, AOk A n → Fra A env outer h0 → Glb K mg mb h0 → Exc c mg h0 → FR K mg mb sc env h0 RS F ρ val s.heap →
    TStOk K mg mb prog w c (env :: outer) A sc env h0 RS F s ρ' (exec st env)
def SoundY (K : Frag) (mg mb : Str → Option Value) (prog : Program) (w : World) (c : Addr) (j : Jn) (n : Nat) : Prop :=
  ∀ f args, j.tc f args = true → ∀ A outer F s a vs, AOk A n → A.frames = some outer → (∃ base, s.heap.FunFrames base outer) → Glb K mg mb s.heap → Exc c mg s.heap → KF K F → (∀ b o, F b = some o → s.heap.get? b = some o) →
    nsIn K mainGlobals f = some (some (.ref a)) → VRs F vs args → ∀ (RR : Result → Shared → Prop),
    (∀ e h' tk, (∃ a0, Heap.FlyingW (hideAll s.heap (outer.filterMap (·.frame))) outer e (.ref c) a0 h') → s.heap.UpToSlots h' → RR (.error (.ref e)) { s with heap := h', toks := tk }) → codeAny (model prog w) A (.call (.ref a) ⟨vs, []⟩) RR s

section
variable {K : Frag} {mg mb : Str → Option Value} {prog : Program} {w : World} {i : In} {j : Jn} {n : Nat} {c : Addr} {A : Around} {sc : Scope} {env : Env} {outer : List Env} {h0 : Heap} {RS : Addr → Prop} {F : Fz} {ρ ρ' : Rho} {val : Str → Option Value} {s : Shared}

theorem execs_tx (hs : SoundS K mg mb prog w i n) (hx : SoundX K mg mb prog w c j n) : ∀ {b : List Stmt} {ρ ρ' : Rho}, txL (i.ex sc) (j.tx sc) b ρ = some ρ' → ∀ {RS : Addr → Prop} {F : Fz} {val : Str → Option Value} {s : Shared}, AOk A n → Fra A env outer h0 → Glb K mg mb h0 → Exc c mg h0 → FR K mg mb sc env h0 RS F ρ val s.heap →
    TStOk K mg mb prog w c (env :: outer) A sc env h0 RS F s ρ' (execs b env)
  | [], ρ, ρ', h, RS, F, val, s, hA, hF, G0, O, R => by cases h
  | st :: b, ρ, ρ', h, RS, F, val, s, hA, hF, G0, O, R => by
    unfold txL at h
    split at h
    · rename_i ρ1 h1
      cases h
      exact fun Q E k => wpAny_execs_cons (hx _ _ _ _ h1 A env outer h0 RS F val s hA hF G0 O R _ _ k)
    · split at h
      · rename_i ρ1 h1
        refine fun Q E k => wpAny_execs_cons (hs _ _ _ _ _ h1 A env h0 RS F val s hA G0 R _ _ fun h' tk F' val' fl R' mono same hfl => ?_)
        obtain rfl : fl = .next := hfl
        exact execs_tx hs hx h (s := { s with heap := h', toks := tk }) hA hF G0 O R' _ _ fun e hm h'' tk' F'' val'' R'' mono' same' ti => k e hm h'' tk' F'' val'' R'' (mono.trans mono') (fun b hb => (same' b hb).trans (same b hb)) ti
      · cases h

theorem evs_starEach {f : Expr → Out D} {e : Expr} {d : D} (hns : ∀ x p, e ≠ .Starred x p) : starEach [e] env = [(false, eval e env)] := by
  rw [starEach_cons hns]; rfl

theorem raise_tx {C : Str} {np cpos p p2 : Pos} {k} {x : Str} (hC : C = excN) (hsc : sc.names.lookup C = some .globalImplicit) (hA : AOk A n) (hF : Fra A env outer h0) (G0 : Glb K mg mb h0) (O : Exc c mg h0) (R : FR K mg mb sc env h0 RS F ρ val s.heap) :
    TStOk K mg mb prog w c (env :: outer) A sc env h0 RS F s ρ (exec (.Raise (some (.Call (.Name C np) [.Constant (.str x) k p] [] cpos)) none p2) env) := by
  intro Q E kk
  subst hC
  obtain ⟨bm, N, nm, q, bs, hdct, sn, sub, ab, col, dd, k0, k1, k2, k3, k5, mN, hC, hN, hni, TL⟩ := O.obj
  refine wpAny_Raise_call_subT (C := c) (nm := nm) (q := q) (N := N) (bs := bs) (bm := bm) (hdct := hdct) (sn := sn) (sub := sub) (ab := ab) (col := col) (dd := dd) (k0 := k0) (k1 := k1) (k2 := k2) (k3 := k3) (k5 := k5)
    PySem.F.excBase_Exception (mN := mN) (TL.hasType PySem.F.excBase_Exception.hasBase) hA.handled rfl hni ?_
  have hkind : env.kindOf excN = some .globalImplicit := by rw [R.kinds]; exact hsc
  refine Calls.Name_function_global R.kind hkind (Calls.loadGlobal_global (env := env) (by rw [R.gl]; exact G0.g.keeps R.keep) O.bound ⟨rfl, ?_⟩) (by decide)
  refine Calls.evalArgs_plain (Calls.spliced_cons ?_)
  show wpAny (model prog w) A (eval (.Constant (.str x) k p) env) _ E s
  refine wpAny_Constant_str ?_
  refine Calls.spliced_nil ?_
  exact ⟨rfl, by show 1 ≤ sizeLine; decide, R.keep _ _ hC, hN.keeps R.keep, TL.keeps R.keep, fun h' e hm => kk e s.heap h' (s.toks + 1) F val R (.refl _ _) (fun _ _ => rfl) (.inl ⟨_, hm⟩)⟩

theorem tx_call (hi : SoundE K mg mb prog w i n) (hy : SoundY K mg mb prog w c j n) {f : Str} {fp pos : Pos} {args : List Expr} (h : txCall K i j sc ρ f args = true) (hA : AOk A n) (hF : Fra A env outer h0) (G0 : Glb K mg mb h0) (O : Exc c mg h0) (R : FR K mg mb sc env h0 RS F ρ val s.heap)
    {Q : Value → Shared → Prop} {E : Value → Shared → Prop} (k : ∀ e hm h' tk F' val', FR K mg mb sc env h0 RS F' ρ val' hm → Grow h0 F F' → (∀ b, RS b → hm.get? b = s.heap.get? b) → (∃ a0, Heap.FlyingW (hideAll hm ((env :: outer).filterMap (·.frame))) (env :: outer) e (.ref c) a0 h' ∧ hm.UpToSlots h') → E (.ref e) { s with heap := h', toks := tk }) :
    wpAny (model prog w) A (eval (.Call (.Name f fp) args [] pos) env) Q E s := by
  unfold txCall at h
  split at h
  case h_2 => cases h
  rename_i hcal
  split at h
  · cases h
  rename_i hne
  rw [Bool.or_eq_true, not_or] at hne
  have hne' : args ≠ [] := by simpa using hne.1
  cases hfo : fdOf K f with
  | none => rw [hfo] at hne; exact absurd rfl hne.2
  | some fd =>
    split at h
    case h_2 => cases h
    rename_i ds hds
    refine call_fn_ok hi hcal hne' hds hfo hA R.er fun a vs h₁ tk₁ F₁ hn x₁ r₁ => ?_
    have R1 := R.ext x₁
    have keep1 := R1.keep
    obtain ⟨base, hout⟩ := hF.out
    obtain ⟨m, ⟨o, es, ep, ho, hd, hrest⟩, _⟩ := R1.ns
    have hfun : h₁.FunFrames (hideAll h₁ ((env :: outer).filterMap (·.frame))) (env :: outer) := by
      have h1 : h₁.FunFrames base outer := hout.of_keeps fun b o e _ => ⟨o, keep1 b o e, rfl⟩
      have h2 := funFrames_hide (as := (env :: outer).filterMap (·.frame)) h1 (fun env' he b hb => List.mem_filterMap.mpr ⟨env', .tail _ he, hb⟩)
      exact ⟨by rw [R1.kind]; decide, ⟨env.locals, o, hF.loc, hideAll_none _ (List.mem_filterMap.mpr ⟨env, .head _, hF.loc⟩), ho, fun vs q => by rw [hd] at q; cases q⟩, h2⟩
    refine wpAny_call (hy f ds h A (env :: outer) F₁ { s with heap := h₁, toks := tk₁ } a vs hA hF.fr ⟨_, hfun⟩ R1.glb (O.keeps keep1) R1.kf x₁.fin hn r₁ _ fun e h' tk ⟨a0, hfl⟩ hup => ?_)
    exact k e h₁ h' tk F₁ val R1 (R.grow x₁) (R.same x₁) ⟨a0, hfl, hup⟩

theorem txN_ok (hi : SoundE K mg mb prog w i n) (ht : SoundT K mg mb prog w i n) (hs : SoundS K mg mb prog w i n) (hx : SoundX K mg mb prog w c j n) (hy : SoundY K mg mb prog w c j n) :
    ∀ sc ρ st ρ', txN K i j sc ρ st = some ρ' → ∀ A env outer h0 RS F val s, AOk A n → Fra A env outer h0 → Glb K mg mb h0 → Exc c mg h0 → FR K mg mb sc env h0 RS F ρ val s.heap → TStOk K mg mb prog w c (env :: outer) A sc env h0 RS F s ρ' (exec st env) := by
  intro sc ρ st ρ' h A env outer h0 RS F val s hA hF G0 O R
  unfold txN at h
  split at h
  · split at h
    · rename_i hc
      rw [Bool.and_eq_true, beq_iff_eq, beq_iff_eq] at hc
      cases h
      exact raise_tx hc.1 hc.2 hA hF G0 O R
    · cases h
  · split at h
    · rename_i hc
      cases h
      intro Q E k
      obtain ⟨m1, R1⟩ := R.frz _
      refine wpAny_Return_some (tx_call hi hy hc hA hF G0 O R1 fun e hm h' tk F' val' R' gr same ti => k e hm h' tk F' val' R' (m1.trans gr) same (.inr ti))
    · cases h
  · split at h
    · rename_i hc
      cases h
      intro Q E k
      obtain ⟨m1, R1⟩ := R.frz _
      refine wpAny_Assign_Name (tx_call hi hy hc hA hF G0 O R1 fun e hm h' tk F' val' R' gr same ti => k e hm h' tk F' val' R' (m1.trans gr) same (.inr ti)) (swaps_not rfl _ _)
    · cases h
  · split at h
    · rename_i b hb
      intro Q E k
      refine wpAny_If (ht _ _ _ _ hb A env F s hA R.er _ _ fun h₁ tk₁ F₁ x₁ => ?_)
      have R1 := R.ext x₁
      cases b with
      | true => exact execs_tx hs hx h (s := { s with heap := h₁, toks := tk₁ }) hA hF G0 O R1 _ _ fun e hm h' tk F' val' R' gr same ti => k e hm h' tk F' val' R' ((R.grow x₁).trans gr) (fun b hb => (same b hb).trans (R.same x₁ b hb)) ti
      | false => exact execs_tx hs hx h (s := { s with heap := h₁, toks := tk₁ }) hA hF G0 O R1 _ _ fun e hm h' tk F' val' R' gr same ti => k e hm h' tk F' val' R' ((R.grow x₁).trans gr) (fun b hb => (same b hb).trans (R.same x₁ b hb)) ti
    · cases h
  · cases h

theorem tcN_ok (hs : SoundS K mg mb prog w i n) (hx : SoundX K mg mb prog w c j n) {f : Str} {args : List D} (h : tcN K i j f args = true) {A : Around} {outer : List Env} {F : Fz} {s : Shared} {a : Addr} {vs : List Value} (hA : AOk A (n + 1)) (hfr : A.frames = some outer) (hout : ∃ base, s.heap.FunFrames base outer)
    (G : Glb K mg mb s.heap) (O : Exc c mg s.heap) (kf : KF K F) (fin : ∀ b o, F b = some o → s.heap.get? b = some o) (hn : nsIn K mainGlobals f = some (some (.ref a))) (hvs : VRs F vs args) {RR : Result → Shared → Prop}
    (k : ∀ e h' tk, (∃ a0, Heap.FlyingW (hideAll s.heap (outer.filterMap (·.frame))) outer e (.ref c) a0 h') → s.heap.UpToSlots h' → RR (.error (.ref e)) { s with heap := h', toks := tk }) : codeAny (model prog w) A (.call (.ref a) ⟨vs, []⟩) RR s := by
  unfold tcN at h
  split at h
  case h_2 => cases h
  rename_i fd hfd
  split at h
  case isFalse => cases h
  rename_i hok
  split at h
  case h_2 => cases h
  rename_i b ds hbody hds
  split at h
  case h_2 => cases h
  rename_i binds hbinds
  obtain ⟨ρ', hex⟩ := Option.isSome_iff_exists.mp h
  refine call_enter hfd hok hbody hds hbinds hA G kf fin hn hvs fun env h₁ tk₁ val hA' hloc R => ?_
  have hfr' : (A.deeper env).frames = some (env :: outer) := Around.frames_deeper hfr
  obtain ⟨base, hfun⟩ := hout
  refine execs_tx hs hx hex (s := { s with heap := h₁, toks := tk₁ }) hA' ⟨hfr', hloc, base, hfun⟩ G O R _ _ fun e hm h' tk F' val' R' gr same ti => ?_
  have hh := funFrames_hide (as := outer.filterMap (·.frame)) hfun (fun env' he b hb => List.mem_filterMap.mpr ⟨env', he, hb⟩)
  have hL0 : s.heap.get? env.locals = none := R'.privL.old
  have hLb : (hideAll s.heap (outer.filterMap (·.frame))).get? env.locals = none := by
    cases q : (hideAll s.heap (outer.filterMap (·.frame))).get? env.locals with
    | none => rfl
    | some o => rw [of_hideAll _ q] at hL0; cases hL0
  rcases ti with ⟨vs', hx⟩ | ⟨a0, hfl, hup⟩
  · obtain ⟨m, ⟨o, es, ep, ho, hd, _⟩, _⟩ := R'.ns
    refine wpAny_leaves_madeW (base := hideAll s.heap (outer.filterMap (·.frame))) (h := hm) hfr' hloc (fun b o q => R'.keep b o (of_hideAll _ q)) ?_ hx fun h'' t fl _ _ up => ?_
    · exact ⟨by rw [R'.kind]; decide, ⟨env.locals, o, hloc, hLb, ho, fun vs q => by rw [hd] at q; cases q⟩, hh.of_keeps fun b o e _ => ⟨o, R'.keep b o e, rfl⟩⟩
    · exact k e h'' tk ⟨_, fl⟩ (((Heap.UpToSlots.of_keeps R'.keep).trans (Heap.UpToSlots.of_keeps hx.keeps)).trans up)
  · refine wpAny_leaves_onW hfr' hloc hfl fun h'' fl up => ?_
    refine k e h'' tk ⟨a0, flyingW_base (fun b o q => ?_) fl⟩ (((Heap.UpToSlots.of_keeps R'.keep).trans hup).trans up)
    refine hideAll_get _ (R'.keep b o (of_hideAll _ q)) fun hmem => ?_
    obtain ⟨env', he, hf⟩ := List.mem_filterMap.mp hmem
    rcases List.mem_cons.mp he with rfl | he
    · rw [hloc] at hf; cases hf; rw [hLb] at q; cases q
    · rw [hideAll_none _ (List.mem_filterMap.mpr ⟨env', he, hf⟩)] at q; cases q

theorem tx_all : ∀ n, SoundX K mg mb prog w c (Jt K n) n ∧ SoundY K mg mb prog w c (Jt K n) n
  | 0 => ⟨(fun _ _ _ _ h => by cases h), (fun _ _ h => by cases h)⟩
  | n + 1 => by
    obtain ⟨X, Y⟩ := tx_all n
    have S := sound_all (K := K) (mg := mg) (mb := mb) (prog := prog) (w := w) n
    refine ⟨fun sc ρ st ρ' h A env outer h0 RS F val s hA => txN_ok S.e S.t S.s X Y sc ρ st ρ' h A env outer h0 RS F val s hA.succ, fun f args h A outer F s a vs hA hfr hout G O kf fin hn hvs RR k => ?_⟩
    exact tcN_ok S.s X h hA hfr hout G O kf fin hn hvs k
end
end Mine

/-! Ty -/
namespace Mine

/-- the statements of the outermost frame: as ever, but for try .. except (o guesses whether the exception comes) -/
def exX (K : Frag) (o : Rho → Bool) : Nat → Scope → Rho → Stmt → Out (Rho × Option D)
  | 0, _, _, _ => .bad
  | n + 1, sc, ρ, st => match st with
    | .Try (first :: rest) [.ExceptHandler (some (.Name C _)) none [.Assign [.Name x _] (.Constant (.bool b) _ _) _] _] [] [] _ =>
      if o ρ then (match first with
        | .Assign [.Name _ _] (.Call (.Name f _) args [] _) _ =>
          if (C == excN && sc.names.lookup C == some .globalImplicit && localOrCell sc x) && txCall K (It K n) (Jt K n) sc (frz ρ (args.flatMap (al K 30 false))) f args then
            .ok (upd (frz ρ (args.flatMap (al K 30 false))) x false (.bool b), none)
          else .bad
        | _ => .bad)
      else exsL ((It K n).ex sc) (first :: rest) ρ
    | st => (It K n).ex sc ρ st

def lawX (K : Frag) (o : Rho → Bool) (n : Nat) (f : Str) (args : List D) : Out D :=
  match fdOf K f with
  | some fd => if fdOk K fd then
      (match fd.body, dfltsD K fd with
      | .stmts b, some ds => (match bindP (fd.params.args.map (·.arg)) args ds with
        | some binds => (exsL (exX K o n fd.scope) b (rhoOf binds)).bind fun p => .ok (p.2.getD .none)
        | none => .bad)
      | _, _ => .bad)
    else .bad
  | none => .bad

section
variable {K : Frag} {o : Rho → Bool} {mg mb : Str → Option Value} {prog : Program} {w : World} {n : Nat} {c : Addr} {A : Around} {sc : Scope} {env : Env} {h0 : Heap} {RS : Addr → Prop} {F : Fz} {ρ ρ' : Rho} {val : Str → Option Value} {s : Shared} {r : Option D} {hm : Heap}

/-- the exception passes by: the frame's own object alone is written on -/
theorem FR.stays (G0 : Glb K mg mb h0) (hloc : env.frame = some env.locals) (R : FR K mg mb sc env h0 RS F ρ val hm) {h' : Heap} (st : (hideAll hm ([env].filterMap (·.frame))).StaysIn h') (up : hm.UpToSlots h') :
    FR K mg mb sc env h0 RS F ρ val h' ∧ ∀ b, RS b → h'.get? b = hm.get? b := by
  have off : ∀ b o, b ≠ env.locals → hm.get? b = some o → h'.get? b = some o := fun b o hb e => st b o (hideAll_get _ e fun hmem => by
    obtain ⟨env', he, hf⟩ := List.mem_filterMap.mp hmem
    obtain rfl : env' = env := by simpa using he
    rw [hloc] at hf; cases hf; exact hb rfl)
  have keep : ∀ b o, h0.get? b = some o → h'.get? b = some o := fun b o e => off b o (fun q => by rw [q, R.privL.old] at e; cases e) (R.keep b o e)
  have sameR : ∀ b, RS b → h'.get? b = hm.get? b := fun b hb => by
    obtain ⟨_, _, o, e⟩ := R.res b hb
    rw [e, off _ _ (fun q => R.privL.res (q ▸ hb)) e]
  obtain ⟨m, hns, em⟩ := R.ns
  refine ⟨⟨G0.keeps keep, R.kf, fun b o e => off b o (fun q => by rw [q, R.privL.frz] at e; cases e) (R.fin b o e), R.kind, R.gl, R.bu, R.kinds, R.nofree, keep, ⟨m, up.ns hns, em⟩, R.privL, fun y hy => ?_, R.inj, R.dom, R.vars, fun y d hy => ?_, R.sep, fun b hb => ?_⟩, sameR⟩
  · obtain ⟨cc, hc, hcell, p⟩ := R.cells y hy
    obtain ⟨o, ho, hd⟩ := hcell
    exact ⟨cc, hc, ⟨o, off _ _ (Ns_IsCell ⟨o, ho, hd⟩ hns).symm ho, hd⟩, p⟩
  · obtain ⟨a, items, nn, xs, hv, hd, ha, rr, p⟩ := R.own y d hy
    exact ⟨a, items, nn, xs, hv, hd, off _ _ (Ns_ne hns ha) ha, rr, p⟩
  · obtain ⟨h1, h2, h3⟩ := R.res b hb
    exact ⟨h1, h2, by rw [sameR b hb]; exact h3⟩

theorem caught {C : Str} {np pos p1 p2 p3 : Pos} {k} {x : Str} {b : Bool} {e : Addr} (hC : C = excN) (hsc : sc.names.lookup C = some .globalImplicit) (hx : localOrCell sc x = true) (hF : Fra A env [] h0) (G0 : Glb K mg mb h0) (O : Exc c mg h0)
    (R : FR K mg mb sc env h0 RS F ρ val hm) {a0 : Value} (hfl : Heap.FlyingW (hideAll hm ([env].filterMap (·.frame))) [env] e (.ref c) a0 s.heap) (hup : hm.UpToSlots s.heap) {Q : Flow → Shared → Prop} {E : Value → Shared → Prop}
    (kk : ∀ h' tk val', FR K mg mb sc env h0 RS F (upd ρ x false (.bool b)) val' h' → (∀ b, RS b → h'.get? b = hm.get? b) → Q .next { s with heap := h', toks := tk }) :
    wpAny (model prog w) A (noteFrame (.ref e) env)
      (fun _ s₂ => wpAny (model prog w) A (setFlight (.ref e) none) (fun _ s₃ =>
        wpAny (model prog w) A (handleBy (.ref e) env [.ExceptHandler (some (.Name C np)) none [.Assign [.Name x p1] (.Constant (.bool b) k p2) p3] pos]) Q E s₃) E s₂) E s := by
  subst hC
  obtain ⟨bm, N, nm, q, bs, hdct, sn, sub, ab, col, dd, k0, k1, k2, k3, k5, mN, hCo, hN, hni, TL⟩ := O.obj
  refine wpAny_looks_onW hF.fr hF.loc hfl fun h₄ hheld₄ hsm₄ => ?_
  refine wpAny_landsW hheld₄ fun h₅ hfl₅ hsm₅ => ?_
  have up₅ := (hup.trans hsm₄).trans hsm₅
  obtain ⟨R₅, same₅⟩ := R.stays G0 hF.loc hfl₅.1 up₅
  have hkind : env.kindOf excN = some .globalImplicit := by rw [R.kinds]; exact hsc
  obtain ⟨ob, hob, hobc⟩ := hfl₅.there
  refine wpAny_handleBy_cons (codeAny_handlers_test ?_) (by intro q; cases q)
  refine Calls.Name_function_global R.kind hkind (Calls.loadGlobal_global (env := env) (by rw [R.gl]; exact G0.g.keeps R₅.keep) O.bound ?_) (by decide)
  refine wpAny_excMatches_sub_self (R₅.keep _ _ hCo) hob hobc (TL.hasType PySem.F.excBase_Exception.hasBase) (codeAny_handlers_suite ?_)
  refine lands_againW hfl₅ fun h₆ hfl₆ hsm₆ => ?_
  obtain ⟨R₆, same₆⟩ := R.stays G0 hF.loc hfl₆.1 (up₅.trans hsm₆)
  refine wpAny_execs_cons (wpAny_Assign_Name (wpAny_Constant_bool ?_) (swaps_not rfl _ _))
  refine FR.store (s := { s with heap := h₆ }) G0 R₆ hx (o := false) (d := .bool b) (.inl ⟨rfl, .bool b⟩) fun h' tk R' same => wpAny_execs_nil ?_
  exact kk h' tk _ R' fun b hb => (same b hb).trans (same₆ b hb)

theorem exX_ok : ∀ n sc ρ st ρ' r, exX K o n sc ρ st = .ok (ρ', r) → ∀ A env h0 RS F val s, AOk A n → Fra A env [] h0 → Glb K mg mb h0 → Exc c mg h0 → FR K mg mb sc env h0 RS F ρ val s.heap → StOk K mg mb prog w A sc env h0 RS F s ρ' r (exec st env) := by
  intro n sc ρ st ρ' r h A env h0 RS F val s hA hF G0 O R
  unfold exX at h
  split at h
  · cases h
  rename_i n
  have S := sound_all (K := K) (mg := mg) (mb := mb) (prog := prog) (w := w) n
  obtain ⟨X, Y⟩ := tx_all (K := K) (mg := mg) (mb := mb) (prog := prog) (w := w) (c := c) n
  split at h
  · rename_i first rest C np x xp b bk bp ap hp tp
    split at h
    · split at h
      · split at h
        · rename_i hc
          rw [Bool.and_eq_true, Bool.and_eq_true, Bool.and_eq_true, beq_iff_eq, beq_iff_eq] at hc
          cases h
          intro Q E k
          refine wpAny_Try_except (wpAny_execs_cons ?_)
          obtain ⟨m1, R1⟩ := R.frz _
          refine wpAny_Assign_Name (tx_call S.e Y hc.2 hA.succ hF G0 O R1 fun e hm h' tk F' val' R' gr same ti => ?_) (swaps_not rfl _ _)
          obtain ⟨a0, hfl, hup⟩ := ti
          exact caught (s := { s with heap := h', toks := tk }) hc.1.1.1 hc.1.1.2 hc.1.2 hF G0 O R' hfl hup fun h'' tk' val'' R'' same' => k h'' tk' F' val'' .next R'' (m1.trans gr) (fun b hb => (same' b hb).trans (same b hb)) rfl
        · cases h
      · cases h
    · intro Q E k
      refine wpAny_Try_except (execs_ok S.s h hA.succ G0 R _ _ fun h' tk F' val' fl R' gr same hfl => ?_)
      cases r with
      | none =>
        obtain rfl : fl = .next := hfl
        exact wpAny_execs_nil (k h' tk F' val' .next R' gr same rfl)
      | some d =>
        obtain ⟨v, rfl, vr⟩ := hfl
        exact k h' tk F' val' (.ret v) R' gr same ⟨v, rfl, vr⟩
  · exact S.s _ _ _ _ _ h A env h0 RS F val s hA.succ G0 R

theorem execsX_ok : ∀ {b : List Stmt} {ρ ρ' : Rho} {r : Option D}, exsL (exX K o n sc) b ρ = .ok (ρ', r) → ∀ {RS : Addr → Prop} {F : Fz} {val : Str → Option Value} {s : Shared}, AOk A n → Fra A env [] h0 → Glb K mg mb h0 → Exc c mg h0 → FR K mg mb sc env h0 RS F ρ val s.heap → StOk K mg mb prog w A sc env h0 RS F s ρ' r (execs b env)
  | [], ρ, ρ', r, h, RS, F, val, s, hA, hF, G0, O, R => by
    cases h
    exact fun Q E k => wpAny_execs_nil (k s.heap s.toks F val .next R (.refl _ _) (fun _ _ => rfl) rfl)
  | st :: b, ρ, ρ', r, h, RS, F, val, s, hA, hF, G0, O, R => by
    obtain ⟨⟨ρ1, r1⟩, h1, h2⟩ := Out.bind_ok h
    refine fun Q E k => wpAny_execs_cons (exX_ok _ _ _ _ _ _ h1 A env h0 RS F val s hA hF G0 O R _ _ fun h' tk F' val' fl R' mono same hfl => ?_)
    cases r1 with
    | none =>
      cases hfl
      dsimp only at h2 ⊢
      exact execsX_ok h2 (s := { s with heap := h', toks := tk }) hA hF G0 O R' _ _ fun h'' tk' F'' val'' fl' R'' mono' same' hfl' => k _ _ _ _ _ R'' (mono.trans mono') (fun b hb => (same' b hb).trans (same b hb)) hfl'
    | some d =>
      cases h2
      obtain ⟨v, rfl, vr⟩ := hfl
      exact k _ _ _ _ _ R' mono same ⟨v, rfl, vr⟩

theorem lawX_code {f : Str} {args : List D} {d : D} (h : lawX K o n f args = .ok d) {A : Around} {F : Fz} {s : Shared} {a : Addr} {vs : List Value} (hA : AOk A (n + 1)) (hfr : A.frames = some []) (G : Glb K mg mb s.heap) (O : Exc c mg s.heap) (kf : KF K F)
    (fin : ∀ b o, F b = some o → s.heap.get? b = some o) (hn : nsIn K mainGlobals f = some (some (.ref a))) (hvs : VRs F vs args) {RR : Result → Shared → Prop}
    (k : ∀ v h' tk F', Ext F s.heap F' h' → VR F' v d → RR (.ok (.ret v)) { s with heap := h', toks := tk }) : codeAny (model prog w) A (.call (.ref a) ⟨vs, []⟩) RR s := by
  unfold lawX at h
  split at h
  case h_2 => cases h
  rename_i fd hfd
  split at h
  case isFalse => cases h
  rename_i hok
  split at h
  case h_2 => cases h
  rename_i b ds hbody hds
  split at h
  case h_2 => cases h
  rename_i binds hbinds
  obtain ⟨⟨ρ', r⟩, hex, h2⟩ := Out.bind_ok h
  cases h2
  refine call_enter hfd hok hbody hds hbinds hA G kf fin hn hvs fun env h₁ tk₁ val hA' hloc R => ?_
  refine execsX_ok (c := c) hex (s := { s with heap := h₁, toks := tk₁ }) hA' ⟨Around.frames_deeper hfr, hloc, s.heap, trivial⟩ G O R _ _ fun h' tk F' val' fl R' gr same hfl => ?_
  have x' : Ext F s.heap F' h' := ⟨R'.keep, gr.mono, R'.fin, gr.new⟩
  cases r with
  | none =>
    obtain rfl : fl = .next := hfl
    exact k .none h' tk F' x' .none
  | some d' =>
    obtain ⟨v, rfl, vr⟩ := hfl
    exact k v h' tk F' x' vr

theorem law_runX {n : Nat} {zs : List Int} {d : D} (h : lawX K o n "law" [.list (zs.map .int)] = .ok d) {A : Around} {s : Shared} {fa script : Addr} {vs : List Value} (hA : AOk A (n + 1)) (hfr : A.frames = some []) (G : Glb K mg mb s.heap) (O : Exc c mg s.heap)
    (hn : nsIn K mainGlobals "law" = some (some (.ref fa))) (hl : s.heap.IsList script vs.toArray) (hi : IntsAre vs zs) {RR : Result → Shared → Prop}
    (k : ∀ v h' tk F', (∀ b o, s.heap.get? b = some o → h'.get? b = some o) → VR F' v d → RR (.ok (.ret v)) { s with heap := h', toks := tk }) : codeAny (model prog w) A (.call (.ref fa) ⟨[.ref script], []⟩) RR s := by
  obtain ⟨o, ho, hc, m, hd⟩ := hl
  have fin : ∀ b q, (fun b => if b = script then s.heap.get? b else K.lookup b : Fz) b = some q → s.heap.get? b = some q := fun b q e => by
    dsimp only at e
    split at e
    · exact e
    · exact G.kin _ _ e
  refine lawX_code (c := c) (F := fun b => if b = script then s.heap.get? b else K.lookup b) h hA hfr G O (fun a q hq _ => ?_) fin hn (.one (.list (o := o) (items := vs.toArray) (n := m) ?_ hc hd ?_)) fun v h' tk F' x r => k v h' tk F' x.keep r
  · show (if a = script then s.heap.get? a else K.lookup a) = some q
    split
    · exact G.kin _ _ hq
    · exact hq
  · show (if script = script then s.heap.get? script else K.lookup script) = some o
    rw [if_pos rfl]; exact ho
  · simpa using vrs_ints hi
end
end Mine

/-! Wp -/
namespace Mine

def W {α : Type} (x : Out α) (Q : α → Prop) : Prop := ∃ a, x = .ok a ∧ Q a
theorem W.ok {α : Type} {a : α} {Q : α → Prop} (h : Q a) : W (.ok a) Q := ⟨a, rfl, h⟩
theorem W.eq {α : Type} {x : Out α} {a : α} {Q : α → Prop} (e : x = .ok a) (h : Q a) : W x Q := ⟨a, e, h⟩
theorem W.bind {α β : Type} {x : Out α} {f : α → Out β} {Q : β → Prop} (h : W x (fun a => W (f a) Q)) : W (x.bind f) Q := by
  obtain ⟨a, rfl, b, h1, h2⟩ := h
  exact ⟨b, h1, h2⟩
theorem W.mono {α : Type} {x : Out α} {Q R : α → Prop} (h : W x Q) (k : ∀ a, Q a → R a) : W x R := let ⟨a, e, q⟩ := h; ⟨a, e, k a q⟩
theorem W.val {α : Type} {x : Out α} {a : α} (h : W x (fun b => b = a)) : x = .ok a := by
  obtain ⟨b, e, rfl⟩ := h; exact e

/-! ### look-ups -/
theorem lk_self {ρ : Rho} {x : Str} {o : Bool} {v : D} : upd ρ x o v x = some (o, v) := if_pos rfl
theorem lk_upd {ρ : Rho} {x y : Str} {o : Bool} {v : D} {r : Option (Bool × D)} (h : y ≠ x) (h2 : ρ y = r) : upd ρ x o v y = r := (if_neg h).trans h2
theorem lk_frz0 {ρ : Rho} {xs : List Str} {y : Str} {r : Option (Bool × D)} (h : xs.contains y = false) (h2 : ρ y = r) : frz ρ xs y = r := by
  cases xs with
  | nil => exact h2
  | cons x xs =>
    show (if (x :: xs).contains y then (ρ y).map (fun p => (false, p.2)) else ρ y) = r
    rw [h]; exact h2
theorem lk_frz1 {ρ : Rho} {xs : List Str} {y : Str} {o : Bool} {d : D} (h : xs.contains y = true) (h2 : ρ y = some (o, d)) : frz ρ xs y = some (false, d) := by
  cases xs with
  | nil => simp at h
  | cons x xs =>
    show (if (x :: xs).contains y then (ρ y).map (fun p => (false, p.2)) else ρ y) = some (false, d)
    rw [if_pos h, h2]; rfl
theorem lk_comp {ρ : Rho} {csc : Scope} {y : Str} {r : Option (Bool × D)} (h : csc.names.lookup y = some .free) (h2 : ρ y = r) : compRho csc ρ y = r := by
  unfold compRho; rw [h]; exact h2

theorem it_ex {K : Frag} {n : Nat} {sc : Scope} {ρ : Rho} {st : Stmt} : (It K (n + 1)).ex sc ρ st = exN K (It K n) sc ρ st := rfl
theorem it_ev {K : Frag} {n : Nat} {sc : Scope} {ρ : Rho} {wk : Bool} {e : Expr} : (It K (n + 1)).ev sc ρ wk e = evN K (It K n) sc ρ wk e := rfl
theorem it_tst {K : Frag} {n : Nat} {sc : Scope} {ρ : Rho} {e : Expr} : (It K (n + 1)).tst sc ρ e = tstN K (It K n) sc ρ e := rfl

/-! ### statements, one after the other -/
def Nx (f : Rho → Stmt → Out (Rho × Option D)) (r : List Stmt) (Q : Rho × Option D → Prop) (p : Rho × Option D) : Prop :=
  match p.2 with
  | none => W (exsL f r p.1) Q
  | some d => Q (p.1, some d)
section
variable {K : Frag} {n : Nat} {sc : Scope} {ρ : Rho} {wk : Bool} {p p1 p2 p3 p4 : Pos}

theorem W_nil {f : Rho → Stmt → Out (Rho × Option D)} {Q : Rho × Option D → Prop} (h : Q (ρ, none)) : W (exsL f [] ρ) Q := ⟨_, rfl, h⟩
theorem W_cons {f : Rho → Stmt → Out (Rho × Option D)} {s : Stmt} {r : List Stmt} {Q : Rho × Option D → Prop} (h : W (f ρ s) (Nx f r Q)) : W (exsL f (s :: r) ρ) Q := by
  obtain ⟨⟨ρ', o⟩, e, q⟩ := h
  cases o with
  | none =>
    obtain ⟨b, e2, q2⟩ := q
    exact ⟨b, by show (f ρ s).bind _ = _; rw [e]; exact e2, q2⟩
  | some d => exact ⟨(ρ', some d), by show (f ρ s).bind _ = _; rw [e]; rfl, q⟩
theorem Nx_n {f : Rho → Stmt → Out (Rho × Option D)} {r : List Stmt} {Q : Rho × Option D → Prop} (h : W (exsL f r ρ) Q) : Nx f r Q (ρ, none) := h
theorem Nx_s {f : Rho → Stmt → Out (Rho × Option D)} {r : List Stmt} {Q : Rho × Option D → Prop} {d : D} (h : Q (ρ, some d)) : Nx f r Q (ρ, some d) := h

theorem W_call {f : Str} {args ds : List D} {fd : FuncData} {b : List Stmt} {binds : List (Str × D)} {Q : D → Prop} (h1 : fdOf K f = some fd) (h2 : fdOk K fd = true) (h3 : fd.body = .stmts b) (h4 : dfltsD K fd = some ds)
    (h5 : bindP (fd.params.args.map (·.arg)) args ds = some binds) (h : W (exsL ((It K n).ex fd.scope) b (rhoOf binds)) (fun p => Q (p.2.getD .none))) : W ((It K (n + 1)).call f args) Q := by
  obtain ⟨a, e, q⟩ := h
  refine ⟨_, ?_, q⟩
  show callN K (It K n) f args = _
  unfold callN
  rw [h1]
  dsimp only
  rw [if_pos h2, h3, h4]
  dsimp only
  rw [h5]
  dsimp only
  rw [e]; rfl

theorem W_pass {Q : Rho × Option D → Prop} (h : Q (ρ, none)) : W ((It K (n + 1)).ex sc ρ (.Pass p)) Q := ⟨_, rfl, h⟩

theorem W_assign {x : Str} {e : Expr} {fr : Bool} {Q : Rho × Option D → Prop} (h1 : (localOrCell sc x && (freshE e || notComp e)) = true) (h3 : freshE e = fr)
    (h : W ((It K n).ev sc (frz ρ (alE K e)) fr e) (fun d => Q (upd (frz ρ (alE K e)) x fr d, none))) : W ((It K (n + 1)).ex sc ρ (.Assign [.Name x p1] e p2)) Q := by
  obtain ⟨a, e', q⟩ := h
  subst h3
  exact ⟨_, by rw [it_ex]; unfold exN; dsimp only; rw [if_pos h1, e']; rfl, q⟩
theorem W_assign0 {x : Str} {e : Expr} {fr : Bool} {Q : Rho × Option D → Prop} (h1 : (localOrCell sc x && (freshE e || notComp e)) = true) (h2 : alE K e = []) (h3 : freshE e = fr)
    (h : W ((It K n).ev sc ρ fr e) (fun d => Q (upd ρ x fr d, none))) : W ((It K (n + 1)).ex sc ρ (.Assign [.Name x p1] e p2)) Q :=
  W_assign h1 h3 (by rw [h2]; exact h)

theorem W_setsub {x : Str} {ix e : Expr} {Q : Rho × Option D → Prop} (h1 : (notSlice ix && localOrCell sc x && nmOk x && notComp e) = true)
    (h : W ((It K n).ev sc (frz ρ (al K 30 false e)) false e) fun d => W ((It K n).ev sc (frz ρ (al K 30 false e)) true ix) fun k => W (intD k) fun k => W (ownL (frz ρ (al K 30 false e)) x) fun xs => W (posL k xs.length) fun j =>
      Q (upd (frz ρ (al K 30 false e)) x true (.list (xs.set j d)), none)) : W ((It K (n + 1)).ex sc ρ (.Assign [.Subscript (.Name x p1) ix p2] e p3)) Q := by
  obtain ⟨d, e1, k, e2, kk, e3, xs, e4, j, e5, q⟩ := h
  exact ⟨_, by rw [it_ex]; unfold exN; dsimp only; rw [if_pos h1, e1]; simp only [Out.bind]; rw [e2]; simp only [Out.bind]; rw [e3]; simp only [Out.bind]; rw [e4]; simp only [Out.bind]; rw [e5], q⟩

theorem W_aug {x : Str} {op : Operator} {e : Expr} {a : Int} {Q : Rho × Option D → Prop} (h1 : localOrCell sc x = true) (h2 : ρ x = some (false, .int a))
    (h : W ((It K n).ev sc ρ true e) fun d => W (intD d) fun b => W (augI op a b) fun c => Q (upd ρ x false c, none)) : W ((It K (n + 1)).ex sc ρ (.AugAssign (.Name x p1) op e p2)) Q := by
  obtain ⟨d, e1, b, e2, c, e3, q⟩ := h
  exact ⟨_, by rw [it_ex]; unfold exN; dsimp only; rw [if_pos h1, h2]; dsimp only; rw [e1]; simp only [Out.bind]; rw [e2]; simp only [Out.bind]; rw [e3], q⟩

theorem W_augsub {x : Str} {ix e : Expr} {op : Operator} {xs : List D} {Q : Rho × Option D → Prop} (h1 : (notSlice ix && localOrCell sc x && nmOk x) = true) (h2 : ownL ρ x = .ok xs)
    (h : W ((It K n).ev sc ρ true ix) fun k => W (intD k) fun k => W (idxD (.list xs) k) fun old => W (intD old) fun a => W ((It K n).ev sc ρ true e) fun d => W (intD d) fun b => W (augI op a b) fun c => W (posL k xs.length) fun j => Q (upd ρ x true (.list (xs.set j c)), none)) :
    W ((It K (n + 1)).ex sc ρ (.AugAssign (.Subscript (.Name x p1) ix p2) op e p3)) Q := by
  obtain ⟨k, e1, kk, e2, old, e3, a, e4, d, e5, b, e6, c, e7, j, e8, q⟩ := h
  exact ⟨_, by rw [it_ex]; unfold exN; dsimp only; rw [if_pos h1, e1]; simp only [Out.bind]; rw [e2]; simp only [Out.bind]; rw [h2]; simp only [Out.bind]; rw [e3]; simp only [Out.bind]; rw [e4]; simp only [Out.bind]; rw [e5]; simp only [Out.bind]; rw [e6]; simp only [Out.bind]; rw [e7]; simp only [Out.bind]; rw [e8], q⟩

theorem W_append {x nm : Str} {e : Expr} {ap cp : Pos} {xs : List D} {Q : Rho × Option D → Prop} (h1 : (nm == ("append" : Str) && localOrCell sc x && nmOk x && notStar e && ap.endLine == cp.line) = true) (h2 : ownL ρ x = .ok xs) (h3 : ownL (frz ρ (al K 30 false e)) x = .ok xs)
    (h : W ((It K n).ev sc (frz ρ (al K 30 false e)) false e) fun d => Q (upd (frz ρ (al K 30 false e)) x true (.list (xs ++ [d])), none)) :
    W ((It K (n + 1)).ex sc ρ (.Expr (.Call (.Attribute (.Name x p1) nm ap) [e] [] cp) p4)) Q := by
  obtain ⟨d, e1, q⟩ := h
  exact ⟨_, by rw [it_ex]; unfold exN; dsimp only; rw [if_pos h1, h2]; simp only [Out.bind]; rw [e1]; simp only [Out.bind]; rw [h3], q⟩
theorem W_append0 {x nm : Str} {e : Expr} {ap cp : Pos} {xs : List D} {Q : Rho × Option D → Prop} (h1 : (nm == ("append" : Str) && localOrCell sc x && nmOk x && notStar e && ap.endLine == cp.line) = true) (h2 : ownL ρ x = .ok xs) (h3 : al K 30 false e = [])
    (h : W ((It K n).ev sc ρ false e) fun d => Q (upd ρ x true (.list (xs ++ [d])), none)) :
    W ((It K (n + 1)).ex sc ρ (.Expr (.Call (.Attribute (.Name x p1) nm ap) [e] [] cp) p4)) Q :=
  W_append h1 h2 (by rw [h3]; exact h2) (by rw [h3]; exact h)

theorem W_if {t : Expr} {b o : List Stmt} {Q : Rho × Option D → Prop} (h : W ((It K n).tst sc ρ t) fun c => (c = true → W (exsL ((It K n).ex sc) b ρ) Q) ∧ (c = false → W (exsL ((It K n).ex sc) o ρ) Q)) : W ((It K (n + 1)).ex sc ρ (.If t b o p)) Q := by
  obtain ⟨c, e1, q1, q2⟩ := h
  cases c with
  | true =>
    obtain ⟨a, e2, q⟩ := q1 rfl
    exact ⟨a, by show ((It K n).tst sc ρ t).bind _ = _; rw [e1]; exact e2, q⟩
  | false =>
    obtain ⟨a, e2, q⟩ := q2 rfl
    exact ⟨a, by show ((It K n).tst sc ρ t).bind _ = _; rw [e1]; exact e2, q⟩

theorem W_ret {e : Expr} {Q : Rho × Option D → Prop} (h : W ((It K n).ev sc (frz ρ (al K 30 false e)) false e) fun d => Q (frz ρ (al K 30 false e), some d)) : W ((It K (n + 1)).ex sc ρ (.Return (some e) p)) Q := by
  obtain ⟨d, e1, q⟩ := h
  exact ⟨_, by show ((It K n).ev sc (frz ρ (al K 30 false e)) false e).bind _ = _; rw [e1]; rfl, q⟩

/-- a loop: an invariant over the items still to come -/
theorem forL_inv {f : D → Rho → Out (Rho × Option D)} {Q : Rho × Option D → Prop} (I : List D → Rho → Prop) (hn : ∀ ρ, I [] ρ → Q (ρ, none))
    (hs : ∀ v r ρ, I (v :: r) ρ → W (f v ρ) fun p => match p.2 with | none => I r p.1 | some d => Q (p.1, some d)) : ∀ (vs : List D) (ρ : Rho), I vs ρ → W (forL f vs ρ) Q
  | [], ρ, h => ⟨_, rfl, hn ρ h⟩
  | v :: r, ρ, h => by
    obtain ⟨⟨ρ', o⟩, e, q⟩ := hs v r ρ h
    cases o with
    | none =>
      obtain ⟨b, e2, q2⟩ := forL_inv I hn hs r ρ' q
      exact ⟨b, by show (f v ρ).bind _ = _; rw [e]; exact e2, q2⟩
    | some d => exact ⟨(ρ', some d), by show (f v ρ).bind _ = _; rw [e]; rfl, q⟩
theorem forL_nil {f : D → Rho → Out (Rho × Option D)} {Q : Rho × Option D → Prop} (h : Q (ρ, none)) : W (forL f [] ρ) Q := ⟨_, rfl, h⟩
theorem forL_cons {f : D → Rho → Out (Rho × Option D)} {v : D} {r : List D} {Q : Rho × Option D → Prop} (h : W (f v ρ) fun p => match p.2 with | none => W (forL f r p.1) Q | some d => Q (p.1, some d)) : W (forL f (v :: r) ρ) Q := by
  obtain ⟨⟨ρ', o⟩, e, q⟩ := h
  cases o with
  | none =>
    obtain ⟨b, e2, q2⟩ := q
    exact ⟨b, by show (f v ρ).bind _ = _; rw [e]; exact e2, q2⟩
  | some d => exact ⟨(ρ', some d), by show (f v ρ).bind _ = _; rw [e]; rfl, q⟩

/-- not the loop over an own list -/
def plainFor (it : Expr) (b : List Stmt) : Bool :=
  match it, b with
  | .Name .., [.Assign [.Name ..] ..] => false
  | _, _ => true
theorem W_for {t : Str} {it : Expr} {b : List Stmt} {Q : Rho × Option D → Prop} (h1 : localOrCell sc t = true) (h2 : plainFor it b = true)
    (h : W (srcE K (It K n) sc (frz ρ (al K 30 false it)) false it) fun vs => W (forL (fun v ρ => exsL ((It K n).ex sc) b (upd ρ t false v)) vs (frz ρ (al K 30 false it))) Q) : W ((It K (n + 1)).ex sc ρ (.For (.Name t p1) it b [] p2)) Q := by
  obtain ⟨vs, e1, a, e2, q⟩ := h
  refine ⟨a, ?_, q⟩
  rw [it_ex]
  unfold exN
  dsimp only
  rw [if_pos h1]
  split
  · cases h2
  · rw [e1]; exact e2
theorem W_for0 {t : Str} {it : Expr} {b : List Stmt} {Q : Rho × Option D → Prop} (h1 : localOrCell sc t = true) (h2 : plainFor it b = true) (h3 : al K 30 false it = [])
    (h : W (srcE K (It K n) sc ρ false it) fun vs => W (forL (fun v ρ => exsL ((It K n).ex sc) b (upd ρ t false v)) vs ρ) Q) : W ((It K (n + 1)).ex sc ρ (.For (.Name t p1) it b [] p2)) Q :=
  W_for h1 h2 (by rw [h3]; exact h)
theorem W_forI {t z y : Str} {e : Expr} {xs : List D} {ρ' : Rho} {Q : Rho × Option D → Prop} (h1 : localOrCell sc t = true) (h2 : (z != t && z != y && localOrCell sc y && localOrCell sc z && nmOk z && notComp e) = true) (h3 : ownL ρ z = .ok xs)
    (h4 : foldI (fun ρ => (It K n).ev sc ρ false e) t y xs ρ = .ok ρ') (h : Q (ρ', none)) : W ((It K (n + 1)).ex sc ρ (.For (.Name t p1) (.Name z p2) [.Assign [.Name y p3] e p4] [] p)) Q := by
  refine ⟨_, ?_, h⟩
  rw [it_ex]
  unfold exN
  dsimp only
  rw [if_pos h1, if_pos h2, h3]
  simp only [Out.bind]
  rw [h4]

theorem whileL_inv {t : Rho → Out Bool} {f : Rho → Out (Rho × Option D)} {Q : Rho × Option D → Prop} (I : Nat → Rho → Prop)
    (hs : ∀ m ρ, I m ρ → W (t ρ) fun c => (c = true → 0 < m ∧ W (f ρ) fun p => match p.2 with | none => I (m - 1) p.1 | some d => Q (p.1, some d)) ∧ (c = false → Q (ρ, none))) : ∀ (m k : Nat) (ρ : Rho), m < k → I m ρ → W (whileL t f k ρ) Q
  | m, 0, ρ, hm, h => by omega
  | m, k + 1, ρ, hm, h => by
    obtain ⟨c, e, q1, q2⟩ := hs m ρ h
    cases c with
    | false => exact ⟨_, by show (t ρ).bind _ = _; rw [e]; rfl, q2 rfl⟩
    | true =>
      obtain ⟨h0, ⟨ρ', o⟩, e2, q⟩ := q1 rfl
      cases o with
      | none =>
        obtain ⟨b, e3, q3⟩ := whileL_inv I hs (m - 1) k ρ' (by omega) q
        refine ⟨b, ?_, q3⟩
        show (t ρ).bind _ = _
        rw [e]
        show (f ρ).bind _ = _
        rw [e2]; exact e3
      | some d =>
        refine ⟨(ρ', some d), ?_, q⟩
        show (t ρ).bind _ = _
        rw [e]
        show (f ρ).bind _ = _
        rw [e2]; rfl
theorem W_while {t : Expr} {b : List Stmt} {Q : Rho × Option D → Prop} (h : W (whileL (fun ρ => (It K n).tst sc ρ t) (fun ρ => exsL ((It K n).ex sc) b ρ) 200 ρ) Q) : W ((It K (n + 1)).ex sc ρ (.While t b [] p)) Q := h

/-! ### expressions -/
theorem W_const {c : Const} {k : Nat} {d : D} {Q : D → Prop} (e : constD c = .ok d) (h : Q d) : W ((It K (n + 1)).ev sc ρ wk (.Constant c k p)) Q := ⟨d, e, h⟩
theorem W_name {x : Str} {o : Bool} {d : D} {Q : D → Prop} (h1 : (x == ("__debug__" : Str) || x == ("__classdict__" : Str)) = false) (h2 : isVar (sc.names.lookup x) = true) (h3 : ρ x = some (o, d)) (h4 : (o && !wk) = false) (h : Q d) : W ((It K (n + 1)).ev sc ρ wk (.Name x p)) Q := by
  refine ⟨d, ?_, h⟩
  show nameD K sc ρ wk x = _
  unfold nameD
  rw [if_neg (by rw [h1]; decide), if_pos h2, h3]
  dsimp only
  rw [if_neg (by rw [h4]; decide)]
theorem W_gname {x : Str} {d : D} {Q : D → Prop} (h1 : isVar (sc.names.lookup x) = false) (h2 : nameD K sc (fun _ => none) wk x = .ok d) (h : Q d) : W ((It K (n + 1)).ev sc ρ wk (.Name x p)) Q := by
  refine ⟨d, ?_, h⟩
  rw [← h2]
  show nameD K sc ρ wk x = _
  unfold nameD
  rw [h1]
  rfl
theorem W_bin {l r : Expr} {op : Operator} {Q : D → Prop} (h : W ((It K n).ev sc ρ true l) fun a => W ((It K n).ev sc ρ true r) fun b => W (binD op a b) Q) : W ((It K (n + 1)).ev sc ρ wk (.BinOp l op r p)) Q := W.bind (h.mono fun a h => .bind h)
theorem W_un {x : Expr} {op : UnaryOp} {Q : D → Prop} (h : W ((It K n).ev sc ρ true x) fun a => W (unD op a) Q) : W ((It K (n + 1)).ev sc ρ wk (.UnaryOp op x p)) Q := W.bind h
theorem W_boolop {es : List Expr} {op : BoolOp} {Q : D → Prop} (h : W (boolL ((It K n).ev sc ρ false) op es) Q) : W ((It K (n + 1)).ev sc ρ wk (.BoolOp op es p)) Q := h
theorem W_bool1 {f : Expr → Out D} {op : BoolOp} {e : Expr} {Q : D → Prop} (h : W (f e) Q) : W (boolL f op [e]) Q := h
theorem W_booland {f : Expr → Out D} {e e2 : Expr} {r : List Expr} {Q : D → Prop} (h : W (f e) fun v => W (trD v) fun t => (t = false → Q v) ∧ (t = true → W (boolL f .And (e2 :: r)) Q)) : W (boolL f .And (e :: e2 :: r)) Q := by
  obtain ⟨v, e1, t, e3, q1, q2⟩ := h
  cases t with
  | false => exact ⟨v, by show (f e).bind _ = _; rw [e1]; show (trD v).bind _ = _; rw [e3]; rfl, q1 rfl⟩
  | true =>
    obtain ⟨a, e4, q⟩ := q2 rfl
    exact ⟨a, by show (f e).bind _ = _; rw [e1]; show (trD v).bind _ = _; rw [e3]; exact e4, q⟩
theorem W_cmp {l r : Expr} {op : CmpOp} {Q : D → Prop} (h1 : notSet r = true) (h : W ((It K n).ev sc ρ true l) fun a => W ((It K n).ev sc ρ true r) fun b => W (cmpD op a b) fun c => Q (.bool c)) : W ((It K (n + 1)).ev sc ρ wk (.Compare l [op] [r] p)) Q := by
  obtain ⟨a, e1, b, e2, c, e3, q⟩ := h
  exact ⟨_, by rw [it_ev]; unfold evN; dsimp only; rw [if_pos h1, e1]; simp only [Out.bind]; rw [e2]; simp only [Out.bind]; rw [e3], q⟩
theorem W_ifexp {t b o : Expr} {Q : D → Prop} (h : W ((It K n).tst sc ρ t) fun c => (c = true → W ((It K n).ev sc ρ false b) Q) ∧ (c = false → W ((It K n).ev sc ρ false o) Q)) : W ((It K (n + 1)).ev sc ρ wk (.IfExp t b o p)) Q := by
  obtain ⟨c, e1, q1, q2⟩ := h
  cases c with
  | true =>
    obtain ⟨a, e2, q⟩ := q1 rfl
    exact ⟨a, by show ((It K n).tst sc ρ t).bind _ = _; rw [e1]; exact e2, q⟩
  | false =>
    obtain ⟨a, e2, q⟩ := q2 rfl
    exact ⟨a, by show ((It K n).tst sc ρ t).bind _ = _; rw [e1]; exact e2, q⟩
theorem W_list {es : List Expr} {Q : D → Prop} (h : W (evs ((It K n).ev sc ρ false) es) fun vs => vs.length ≤ lim ∧ Q (.list vs)) : W ((It K (n + 1)).ev sc ρ wk (.List es p)) Q := by
  obtain ⟨vs, e1, q1, q⟩ := h
  exact ⟨_, by rw [it_ev]; unfold evN; dsimp only; rw [e1]; simp only [Out.bind]; rw [if_pos q1], q⟩
theorem W_tuple {es : List Expr} {kk : _} {Q : D → Prop} (h : W (evs ((It K n).ev sc ρ false) es) fun vs => vs.length ≤ lim ∧ Q (.tuple vs)) : W ((It K (n + 1)).ev sc ρ wk (.Tuple es kk p)) Q := by
  obtain ⟨vs, e1, q1, q⟩ := h
  exact ⟨_, by rw [it_ev]; unfold evN; dsimp only; rw [e1]; simp only [Out.bind]; rw [if_pos q1], q⟩
theorem W_sub {v s : Expr} {Q : D → Prop} (h1 : notSlice s = true) (h : W ((It K n).ev sc ρ true v) fun o => W ((It K n).ev sc ρ true s) fun k => W (intD k) fun k => W (idxD o k) Q) : W ((It K (n + 1)).ev sc ρ wk (.Subscript v s p)) Q := by
  obtain ⟨o, e1, kd, e2, k, e3, d, e4, q⟩ := h
  rw [intD_ok e3] at e2
  exact ⟨_, by rw [it_ev]; unfold evN; dsimp only; rw [if_pos h1, e1]; simp only [Out.bind]; rw [e2]; exact e4, q⟩
theorem W_evs0 {f : Expr → Out D} {Q : List D → Prop} (h : Q []) : W (evs f []) Q := ⟨_, rfl, h⟩
theorem W_evs1 {f : Expr → Out D} {e : Expr} {r : List Expr} {Q : List D → Prop} (h1 : notStar e = true) (h : W (f e) fun v => W (evs f r) fun vs => Q (v :: vs)) : W (evs f (e :: r)) Q := by
  obtain ⟨v, e1, vs, e2, q⟩ := h
  refine ⟨_, ?_, q⟩
  unfold evs
  split
  · rename_i heq; cases heq
  · rename_i heq; cases heq; cases h1
  · rename_i hne heq
    cases heq
    rw [e1]; simp only [Out.bind]; rw [e2]

theorem W_callf {f : Str} {args : List Expr} {Q : D → Prop} (h1 : calleeD K sc f = some .fn) (h2 : (args.isEmpty || (fdOf K f).isNone) = false) (h : W (evs ((It K n).ev sc ρ false) args) fun vs => W ((It K n).call f vs) Q) : W ((It K (n + 1)).ev sc ρ wk (.Call (.Name f p1) args [] p2)) Q := by
  obtain ⟨vs, e1, d, e2, q⟩ := h
  refine ⟨d, ?_, q⟩
  show callD K (It K n) sc ρ f args [] = _
  unfold callD
  rw [h1]
  dsimp only
  rw [if_neg (by rw [h2]; decide), e1]; exact e2
theorem W_callb {f : Str} {id : String} {e : Expr} {Q : D → Prop} (h1 : calleeD K sc f = some (.built id)) (h2 : notStar e = true) (h : W ((It K n).ev sc ρ true e) fun d => W (fnD id d) Q) : W ((It K (n + 1)).ev sc ρ wk (.Call (.Name f p1) [e] [] p2)) Q := by
  obtain ⟨v, e1, d, e2, q⟩ := h
  refine ⟨d, ?_, q⟩
  show callD K (It K n) sc ρ f [e] [] = _
  unfold callD
  rw [h1]
  dsimp only
  cases e <;> first | (cases h2; done) | (show ((It K n).ev sc ρ true _).bind (fnD id) = _; rw [e1]; exact e2)
theorem W_callt {f : Str} {T : String} {e : Expr} {Q : D → Prop} (h1 : calleeD K sc f = some (.ty T)) (h2 : notStar e = true) (h : W ((It K n).ev sc ρ true e) fun d => W (tyD T d) Q) : W ((It K (n + 1)).ev sc ρ wk (.Call (.Name f p1) [e] [] p2)) Q := by
  obtain ⟨v, e1, d, e2, q⟩ := h
  refine ⟨d, ?_, q⟩
  show callD K (It K n) sc ρ f [e] [] = _
  unfold callD
  rw [h1]
  dsimp only
  cases e <;> first | (cases h2; done) | (show ((It K n).ev sc ρ true _).bind (tyD T) = _; rw [e1]; exact e2)
theorem W_isinst {f T : Str} {T' : String} {e : Expr} {Q : D → Prop} (h1 : calleeD K sc f = some (.built "isinstance")) (h3 : calleeD K sc T = some (.ty T')) (h2 : notStar e = true) (h : W ((It K n).ev sc ρ true e) fun d => W (isD T' d) fun b => Q (.bool b)) :
    W ((It K (n + 1)).ev sc ρ wk (.Call (.Name f p1) [e, .Name T p3] [] p2)) Q := by
  obtain ⟨v, e1, d, e2, q⟩ := h
  refine ⟨_, ?_, q⟩
  show callD K (It K n) sc ρ f [e, .Name T p3] [] = _
  unfold callD
  rw [h1]
  dsimp only
  cases e <;> first | (cases h2; done) | (simp only [h3, e1, Out.bind, beq_self_eq_true, if_true]; rw [e2])

theorem W_callrev {f k : Str} {id : String} {e : Expr} {kk : Nat} {pp pq : Pos} {Q : D → Prop} (h1 : calleeD K sc f = some (.built id)) (h2 : notStar e = true) (h3 : (k == ("reverse" : Str)) = true) (h : W ((It K n).ev sc ρ true e) fun d => W (revD id d) Q) :
    W ((It K (n + 1)).ev sc ρ wk (.Call (.Name f p1) [e] [⟨some k, .Constant (.bool true) kk pp, pq⟩] p2)) Q := by
  obtain ⟨v, e1, d, e2, q⟩ := h
  refine ⟨d, ?_, q⟩
  show callD K (It K n) sc ρ f [e] [_] = _
  unfold callD
  rw [h1]
  dsimp only
  cases e <;> first | (cases h2; done) | (simp only [h3, if_true, e1, Out.bind]; exact e2)

theorem W_srccall {f : Str} {args : List Expr} {Q : List D → Prop} (h1 : (match calleeD K sc f with | some (.ty _) => false | _ => true) = true) (h : W ((It K n).ev sc ρ wk (.Call (.Name f p1) args [] p2)) fun d => W (srcD d) Q) : W (srcE K (It K n) sc ρ wk (.Call (.Name f p1) args [] p2)) Q := by
  have : srcE K (It K n) sc ρ wk (.Call (.Name f p1) args [] p2) = ((It K n).ev sc ρ wk (.Call (.Name f p1) args [] p2)).bind srcD := by
    unfold srcE
    dsimp only
    cases hc : calleeD K sc f with
    | none => rfl
    | some c =>
      cases c with
      | ty T => rw [hc] at h1; cases h1
      | fn => rfl
      | built id => rfl
  rw [this]; exact W.bind h
/-- a source that is no call of range -/
def plainSrc : Expr → Bool
  | .Call (.Name ..) _ [] _ => false
  | .Set .. => false
  | _ => true
theorem W_src {e : Expr} {Q : List D → Prop} (h1 : plainSrc e = true) (h : W ((It K n).ev sc ρ wk e) fun d => W (srcD d) Q) : W (srcE K (It K n) sc ρ wk e) Q := by
  have : srcE K (It K n) sc ρ wk e = ((It K n).ev sc ρ wk e).bind srcD := by
    unfold srcE
    split
    · cases h1
    · cases h1
    · rfl
  rw [this]; exact W.bind h
theorem W_range {f : Str} {args : List Expr} {Q : List D → Prop} (h1 : calleeD K sc f = some (.ty "range")) (h2 : args.isEmpty = false) (h : W (evs ((It K n).ev sc ρ true) args) fun as => W (rngD as) Q) : W (srcE K (It K n) sc ρ wk (.Call (.Name f p1) args [] p2)) Q := by
  obtain ⟨as, e1, r, e2, q⟩ := h
  refine ⟨r, ?_, q⟩
  unfold srcE
  simp only [h1, h2, e1, Out.bind, beq_self_eq_true, Bool.not_false, Bool.and_true, if_true]
  exact e2

theorem filtL_of {α β : Type} {t : α → Out Bool} {f : α → Out β} {pp : α → Bool} {g : α → β} : ∀ {l : List α}, (∀ v ∈ l, t v = .ok (pp v)) → (∀ v ∈ l, pp v = true → f v = .ok (g v)) → filtL t f l = .ok ((l.filter pp).map g)
  | [], _, _ => rfl
  | v :: l, h1, h2 => by
    have ih := filtL_of (l := l) (fun u hu => h1 u (List.mem_cons_of_mem _ hu)) fun u hu => h2 u (List.mem_cons_of_mem _ hu)
    show (t v).bind _ = _
    rw [h1 v List.mem_cons_self]
    simp only [Out.bind]
    cases hp : pp v with
    | false => simp only [Bool.false_eq_true, if_false, List.filter_cons, hp]; exact ih
    | true =>
      simp only [if_true, List.filter_cons, hp, List.map_cons]
      rw [h2 v List.mem_cons_self hp]
      simp only [Out.bind]
      rw [ih]

theorem W_comp {elt it : Expr} {ifs : List Expr} {x : Str} {csc : Scope} {Q : D → Prop} (h1 : (freeOk sc csc && namesOk csc) = true) (h2 : localOrCell csc x = true)
    (h : W (srcE K (It K n) sc ρ true it) fun vs => W (filtL (fun v => tests ((It K n).tst csc (upd (compRho csc ρ) x false v)) ifs) (fun v => (It K n).ev csc (upd (compRho csc ρ) x false v) false elt) vs) fun ds => Q (.list ds)) :
    W ((It K (n + 1)).ev sc ρ wk (.ListComp elt [⟨.Name x p1, it, ifs, 0⟩] csc p)) Q := by
  obtain ⟨vs, e1, ds, e2, q⟩ := h
  refine ⟨_, ?_, q⟩
  rw [it_ev]
  unfold evN
  dsimp only
  unfold compE
  rw [if_pos h1]
  show ((if localOrCell csc x = true then _ else Out.bad : Out (List D)).bind _) = _
  rw [if_pos h2, e1]
  simp only [Out.bind]
  rw [e2]
theorem W_filt {t : D → Out Bool} {f : D → Out D} {l : List D} {Q : List D → Prop} (pp : D → Bool) (g : D → D) (h1 : ∀ v ∈ l, W (t v) (fun b => b = pp v)) (h2 : ∀ v ∈ l, pp v = true → W (f v) (fun d => d = g v)) (h : Q ((l.filter pp).map g)) : W (filtL t f l) Q :=
  ⟨_, filtL_of (fun v hv => (h1 v hv).val) (fun v hv hp => (h2 v hv hp).val), h⟩
theorem W_map {f : D → Out D} {l : List D} {Q : List D → Prop} {T : D → Expr → Out Bool} (g : D → D) (h2 : ∀ v ∈ l, W (f v) (fun d => d = g v)) (h : Q (l.map g)) : W (filtL (fun v => tests (T v) []) f l) Q :=
  W_filt (fun _ => true) g (fun _ _ => ⟨_, rfl, rfl⟩) (fun v hv _ => h2 v hv) (by rw [List.filter_eq_self.mpr (fun _ _ => rfl)]; exact h)
theorem W_tests0 {f : Expr → Out Bool} {Q : Bool → Prop} (h : Q true) : W (tests f []) Q := ⟨_, rfl, h⟩
theorem W_tests1 {f : Expr → Out Bool} {e : Expr} {Q : Bool → Prop} (h : W (f e) Q) : W (tests f [e]) Q := by
  obtain ⟨b, e1, q⟩ := h
  refine ⟨b, ?_, q⟩
  show (f e).bind _ = _
  rw [e1]
  cases b <;> rfl

/-! ### tests -/
theorem T_not {x : Expr} {Q : Bool → Prop} (h : W ((It K n).tst sc ρ x) fun b => Q (!b)) : W ((It K (n + 1)).tst sc ρ (.UnaryOp .Not x p)) Q := by
  obtain ⟨b, e1, q⟩ := h
  exact ⟨_, by rw [it_tst]; unfold tstN; dsimp only; rw [e1]; rfl, q⟩
theorem T_boolop {es : List Expr} {op : BoolOp} {Q : Bool → Prop} (h : W (boolT ((It K n).tst sc ρ) op es) Q) : W ((It K (n + 1)).tst sc ρ (.BoolOp op es p)) Q := h
theorem T_and0 {f : Expr → Out Bool} {Q : Bool → Prop} (h : Q true) : W (boolT f .And []) Q := ⟨_, rfl, h⟩
theorem T_or0 {f : Expr → Out Bool} {Q : Bool → Prop} (h : Q false) : W (boolT f .Or []) Q := ⟨_, rfl, h⟩
theorem T_and {f : Expr → Out Bool} {e : Expr} {r : List Expr} {Q : Bool → Prop} (h : W (f e) fun t => (t = false → Q false) ∧ (t = true → W (boolT f .And r) Q)) : W (boolT f .And (e :: r)) Q := by
  obtain ⟨t, e1, q1, q2⟩ := h
  cases t with
  | false => exact ⟨false, by show (f e).bind _ = _; rw [e1]; rfl, q1 rfl⟩
  | true => obtain ⟨a, e2, q⟩ := q2 rfl; exact ⟨a, by show (f e).bind _ = _; rw [e1]; exact e2, q⟩
theorem T_or {f : Expr → Out Bool} {e : Expr} {r : List Expr} {Q : Bool → Prop} (h : W (f e) fun t => (t = true → Q true) ∧ (t = false → W (boolT f .Or r) Q)) : W (boolT f .Or (e :: r)) Q := by
  obtain ⟨t, e1, q1, q2⟩ := h
  cases t with
  | true => exact ⟨true, by show (f e).bind _ = _; rw [e1]; rfl, q1 rfl⟩
  | false => obtain ⟨a, e2, q⟩ := q2 rfl; exact ⟨a, by show (f e).bind _ = _; rw [e1]; exact e2, q⟩
theorem T_cmp {l r : Expr} {op : CmpOp} {Q : Bool → Prop} (h1 : notSet r = true) (h : W ((It K n).ev sc ρ true l) fun a => W ((It K n).ev sc ρ true r) fun b => W (cmpD op a b) Q) : W ((It K (n + 1)).tst sc ρ (.Compare l [op] [r] p)) Q := by
  obtain ⟨a, e1, b, e2, c, e3, q⟩ := h
  exact ⟨_, by rw [it_tst]; unfold tstN; dsimp only; rw [if_pos h1, e1]; simp only [Out.bind]; rw [e2]; simp only [Out.bind]; rw [e3], q⟩
/-- a test that is a value first -/
def plainT : Expr → Bool
  | .UnaryOp .Not _ _ | .BoolOp .. | .IfExp .. | .Compare .. => false
  | _ => true
theorem T_val {e : Expr} {Q : Bool → Prop} (h1 : plainT e = true) (h : W ((It K n).ev sc ρ true e) fun d => W (trD d) Q) : W ((It K (n + 1)).tst sc ρ e) Q := by
  obtain ⟨d, e1, b, e2, q⟩ := h
  refine ⟨b, ?_, q⟩
  rw [it_tst]
  unfold tstN
  split
  · cases h1
  · cases h1
  · cases h1
  · cases h1
  · cases h1
  · rw [e1]; exact e2

/-! ### values -/
theorem B_add {a b : Int} {Q : D → Prop} (h : Q (.int (a + b))) : W (binD .Add (.int a) (.int b)) Q := ⟨_, rfl, h⟩
theorem B_sub {a b : Int} {Q : D → Prop} (h : Q (.int (a - b))) : W (binD .Sub (.int a) (.int b)) Q := ⟨_, rfl, h⟩
theorem B_mul {a b : Int} {Q : D → Prop} (h1 : mulB a b = true) (h : Q (.int (a * b))) : W (binD .Mult (.int a) (.int b)) Q := ⟨_, by unfold binD; dsimp only; rw [if_pos h1], h⟩
theorem B_div {a b : Int} {Q : D → Prop} (h1 : b ≠ 0) (h2 : b.natAbs < 2 ^ 9000) (h : Q (.int (a.fdiv b))) : W (binD .FloorDiv (.int a) (.int b)) Q := ⟨_, by unfold binD; dsimp only; rw [if_neg (by omega)], h⟩
theorem B_mod {a b : Int} {Q : D → Prop} (h1 : b ≠ 0) (h : Q (.int (a.fmod b))) : W (binD .Mod (.int a) (.int b)) Q := ⟨_, by unfold binD; dsimp only; rw [if_neg h1], h⟩
theorem B_pow {a b : Int} {Q : D → Prop} (h1 : powB a b = true) (h : Q (.int (a ^ b.toNat))) : W (binD .Pow (.int a) (.int b)) Q := ⟨_, by unfold binD; dsimp only; rw [if_pos h1], h⟩
theorem B_ladd {xs ys : List D} {Q : D → Prop} (h1 : xs.length + ys.length ≤ lim) (h : Q (.list (xs ++ ys))) : W (binD .Add (.list xs) (.list ys)) Q := ⟨_, by unfold binD; dsimp only; rw [if_pos h1], h⟩
theorem B_lmul {x : D} {k : Int} {Q : D → Prop} (h1 : k ≤ lim) (h0 : -1 ≤ k) (h : Q (.list (List.replicate k.toNat x))) : W (binD .Mult (.list [x]) (.int k)) Q := by
  refine ⟨_, ?_, h⟩
  unfold binD
  dsimp only
  rw [if_pos ⟨by simp, by simp; omega, h1, h0⟩]
  unfold rep
  congr 2
  rw [List.flatten_replicate_singleton]
theorem U_neg {a : Int} {Q : D → Prop} (h : Q (.int (-a))) : W (unD .USub (.int a)) Q := ⟨_, rfl, h⟩
theorem C_lt {a b : Int} {Q : Bool → Prop} (h : Q (decide (a < b))) : W (cmpD .Lt (.int a) (.int b)) Q := ⟨_, rfl, h⟩
theorem C_le {a b : Int} {Q : Bool → Prop} (h : Q (decide (a ≤ b))) : W (cmpD .LtE (.int a) (.int b)) Q := ⟨_, rfl, h⟩
theorem C_gt {a b : Int} {Q : Bool → Prop} (h : Q (decide (b < a))) : W (cmpD .Gt (.int a) (.int b)) Q := ⟨_, rfl, h⟩
theorem C_ge {a b : Int} {Q : Bool → Prop} (h : Q (decide (b ≤ a))) : W (cmpD .GtE (.int a) (.int b)) Q := ⟨_, rfl, h⟩
theorem C_eq {a b : D} {Q : Bool → Prop} (h1 : shp a = true) (h2 : shp b = true) (h : Q (PyData.eqv a b)) : W (cmpD .Eq a b) Q := ⟨_, by unfold cmpD; dsimp only; rw [if_pos (by rw [h1, h2]; rfl)], h⟩
theorem C_ne {a b : D} {Q : Bool → Prop} (h1 : shp a = true) (h2 : shp b = true) (h : Q (!PyData.eqv a b)) : W (cmpD .NotEq a b) Q := ⟨_, by unfold cmpD; dsimp only; rw [if_pos (by rw [h1, h2]; rfl)], h⟩
theorem shp_int (a : Int) : shp (.int a) = true := rfl
theorem eqv_int (a b : Int) : PyData.eqv (.int a) (.int b) = decide (a = b) := by
  show (a == b) = _
  rw [Bool.beq_eq_decide_eq]
theorem canLay_ints : ∀ xs : List Int, PyData.canLayAll0 (xs.map .int) = true
  | [] => rfl
  | x :: r => by show (true && PyData.canLayAll0 (r.map .int)) = true; rw [canLay_ints r]; rfl
theorem depth_ints : ∀ xs : List Int, PyData.depthAll (xs.map .int) ≤ 1
  | [] => by decide
  | x :: r => by
    have := depth_ints r
    show max (PyData.depth (.int x)) (PyData.depthAll (r.map .int)) ≤ 1
    have : PyData.depth (.int x) ≤ 1 := Nat.le_of_ble_eq_true rfl
    omega
theorem K_tt {A B : Prop} (h : A) : ((true : Bool) = true → A) ∧ ((true : Bool) = false → B) := ⟨fun _ => h, (fun q => by cases q)⟩
theorem K_ff {A B : Prop} (h : B) : ((false : Bool) = true → A) ∧ ((false : Bool) = false → B) := ⟨(fun q => by cases q), fun _ => h⟩
theorem K_tf {A B : Prop} (h : B) : ((true : Bool) = false → A) ∧ ((true : Bool) = true → B) := ⟨(fun q => by cases q), fun _ => h⟩
theorem K_ft {A B : Prop} (h : A) : ((false : Bool) = false → A) ∧ ((false : Bool) = true → B) := ⟨fun _ => h, (fun q => by cases q)⟩
theorem K_n1 {A B : Prop} {b : Bool} (h : (b = false → A) ∧ (b = true → B)) : ((!b) = true → A) ∧ ((!b) = false → B) := ⟨fun q => h.1 (by simpa using q), fun q => h.2 (by simpa using q)⟩
theorem K_n2 {A B : Prop} {b : Bool} (h : (b = true → A) ∧ (b = false → B)) : ((!b) = false → A) ∧ ((!b) = true → B) := ⟨fun q => h.1 (by simpa using q), fun q => h.2 (by simpa using q)⟩
theorem K_d1 {A B p : Prop} [Decidable p] (h1 : p → A) (h2 : ¬ p → B) : (decide p = true → A) ∧ (decide p = false → B) := ⟨fun q => h1 (of_decide_eq_true q), fun q => h2 (of_decide_eq_false q)⟩
theorem K_d2 {A B p : Prop} [Decidable p] (h1 : ¬ p → A) (h2 : p → B) : (decide p = false → A) ∧ (decide p = true → B) := ⟨fun q => h1 (of_decide_eq_false q), fun q => h2 (of_decide_eq_true q)⟩
theorem V_tr {b : Bool} {Q : Bool → Prop} (h : Q b) : W (trD (.bool b)) Q := ⟨_, rfl, h⟩
theorem V_tri {a : Int} {Q : Bool → Prop} (h : Q (!decide (a = 0))) : W (trD (.int a)) Q := ⟨_, rfl, by
  have : (a != 0) = !decide (a = 0) := by rw [bne, Bool.beq_eq_decide_eq]
  rw [this]; exact h⟩
theorem I_int {k : Int} {Q : Int → Prop} (h : Q k) : W (intD (.int k)) Q := ⟨_, rfl, h⟩
theorem A_add {a b : Int} {Q : D → Prop} (h : Q (.int (a + b))) : W (augI .Add a b) Q := ⟨_, rfl, h⟩
theorem A_sub {a b : Int} {Q : D → Prop} (h : Q (.int (a - b))) : W (augI .Sub a b) Q := ⟨_, rfl, h⟩
theorem C_eqi {a b : Int} {Q : Bool → Prop} (h : Q (decide (a = b))) : W (cmpD .Eq (.int a) (.int b)) Q := C_eq rfl rfl (by rw [eqv_int]; exact h)
theorem C_nei {a b : Int} {Q : Bool → Prop} (h : Q (!decide (a = b))) : W (cmpD .NotEq (.int a) (.int b)) Q := C_ne rfl rfl (by rw [eqv_int]; exact h)
theorem C_isnot {Q : Bool → Prop} (h : Q false) : W (cmpD .IsNot .none .none) Q := ⟨_, rfl, h⟩
theorem Ty_int {a : Int} {Q : D → Prop} (h : Q (.int a)) : W (tyD "int" (.int a)) Q := ⟨_, rfl, h⟩
theorem Ty_list {xs : List D} {Q : D → Prop} (h1 : xs.length ≤ lim) (h : Q (.list xs)) : W (tyD "list" (.list xs)) Q := ⟨_, if_pos h1, h⟩
theorem Is_il {xs : List D} {Q : Bool → Prop} (h : Q true) : W (isD "list" (.list xs)) Q := ⟨_, rfl, h⟩
theorem Is_ii {a : Int} {Q : Bool → Prop} (h : Q true) : W (isD "int" (.int a)) Q := ⟨_, rfl, h⟩
theorem Is_bi {a : Int} {Q : Bool → Prop} (h : Q false) : W (isD "bool" (.int a)) Q := ⟨_, rfl, h⟩
theorem F_len {xs : List D} {Q : D → Prop} (h1 : xs.length ≤ lim) (h : Q (.int xs.length)) : W (fnD "len" (.list xs)) Q := ⟨_, if_pos h1, h⟩
theorem F_lent {xs : List D} {Q : D → Prop} (h1 : xs.length ≤ lim) (h : Q (.int xs.length)) : W (fnD "len" (.tuple xs)) Q := ⟨_, if_pos h1, h⟩
theorem intsD_map : ∀ zs : List Int, intsD (zs.map .int) = some zs
  | [] => rfl
  | z :: r => by show (intsD (r.map .int)).map (z :: ·) = _; rw [intsD_map r]; rfl
theorem fn_sum (xs : List D) : fnD "sum" (.list xs) = (match intsD xs with | some ns => .ok (.int ns.sum) | none => .bad) := rfl
theorem fn_max (xs : List D) : fnD "max" (.list xs) = (match intsD xs with | some (n :: ns) => .ok (.int (maxI n ns)) | _ => .bad) := rfl
theorem fn_min (xs : List D) : fnD "min" (.list xs) = (match intsD xs with | some (n :: ns) => .ok (.int (minI n ns)) | _ => .bad) := rfl
theorem fn_sorted (xs : List D) : fnD "sorted" (.list xs) = (match intsD xs with | some ns => if ns.length < 64 then .ok (.list ((sortI ns).map .int)) else .bad | none => sortD xs) := rfl
abbrev tupD (t : List Int) : D := .tuple (t.map .int)
theorem tupsI_map : ∀ ts : List (List Int), tupsI (ts.map tupD) = some ts
  | [] => rfl
  | t :: r => by
    show (tupI (tupD t)).bind (fun u => (tupsI (r.map tupD)).map (u :: ·)) = _
    rw [tupsI_map r, show tupI (tupD t) = intsD (t.map .int) from rfl, intsD_map]; rfl
theorem F_sortT {ts : List (List Int)} {Q : D → Prop} (h2 : 2 ≤ ts.length) (h64 : ts.length < 64) (hne : ∀ t ∈ ts, t ≠ []) (h : Q (.list ((sortT ts).map tupD))) : W (fnD "sorted" (.list (ts.map tupD))) Q := by
  refine ⟨_, ?_, h⟩
  rw [fn_sorted]
  have hn : intsD (ts.map tupD) = none := by
    cases ts with
    | nil => simp at h2
    | cons t r => rfl
  rw [hn]
  dsimp only
  unfold sortD
  rw [tupsI_map]
  dsimp only
  rw [if_pos ⟨h2, h64, by rw [List.all_eq_true]; intro t ht; have := hne t ht; cases t <;> simp_all⟩]
theorem F_sum {zs : List Int} {Q : D → Prop} (h : Q (.int zs.sum)) : W (fnD "sum" (.list (zs.map .int))) Q := ⟨_, by rw [fn_sum, intsD_map], h⟩
theorem F_max {z : Int} {zs : List Int} {Q : D → Prop} (h : Q (.int (maxI z zs))) : W (fnD "max" (.list ((z :: zs).map .int))) Q := ⟨_, by rw [fn_max, intsD_map], h⟩
theorem F_min {z : Int} {zs : List Int} {Q : D → Prop} (h : Q (.int (minI z zs))) : W (fnD "min" (.list ((z :: zs).map .int))) Q := ⟨_, by rw [fn_min, intsD_map], h⟩
theorem F_sorted {zs : List Int} {Q : D → Prop} (h1 : zs.length < 64) (h : Q (.list ((sortI zs).map .int))) : W (fnD "sorted" (.list (zs.map .int))) Q := ⟨_, by rw [fn_sorted, intsD_map]; exact if_pos h1, h⟩
theorem ownL_of {ρ : Rho} {x : Str} {xs : List D} (h : ρ x = some (true, .list xs)) (h1 : xs.length < lim) : ownL ρ x = .ok xs := by
  unfold ownL; rw [h]; dsimp only; rw [if_pos h1]
theorem seqI_nat {j n : Nat} (h : j < n) : seqIndex? (j : Int) n = some j := by
  unfold seqIndex?
  have h1 : ¬ ((j : Int) < 0) := by omega
  simp only [if_neg h1]
  rw [if_pos (by rw [Bool.and_eq_true, decide_eq_true_eq, decide_eq_true_eq]; omega)]
  rfl
theorem X_list {xs : List D} {j : Nat} {d : D} {Q : D → Prop} (h1 : xs.length ≤ lim) (h2 : xs[j]? = some d) (h : Q d) : W (idxD (.list xs) (j : Int)) Q := by
  refine ⟨d, ?_, h⟩
  unfold idxD
  dsimp only
  rw [if_pos h1, seqI_nat (List.getElem?_eq_some_iff.mp h2).1]
  dsimp only
  rw [h2]
theorem X_tuple {xs : List D} {j : Nat} {d : D} {Q : D → Prop} (h1 : xs.length ≤ lim) (h2 : xs[j]? = some d) (h : Q d) : W (idxD (.tuple xs) (j : Int)) Q := by
  refine ⟨d, ?_, h⟩
  unfold idxD
  dsimp only
  rw [if_pos h1, seqI_nat (List.getElem?_eq_some_iff.mp h2).1]
  dsimp only
  rw [h2]
theorem P_pos {j n : Nat} {Q : Nat → Prop} (h1 : j < n) (h : Q j) : W (posL (j : Int) n) Q := ⟨_, by unfold posL; rw [seqI_nat h1], h⟩
theorem O_own {ρ : Rho} {x : Str} {xs : List D} {Q : List D → Prop} (h1 : ownL ρ x = .ok xs) (h : Q xs) : W (ownL ρ x) Q := ⟨_, h1, h⟩
theorem R_one {b : Int} {Q : List D → Prop} (h1 : inLim b = true) (h : Q (rangeL 0 1 b.toNat)) : W (rngD [.int b]) Q := ⟨_, by unfold rngD; dsimp only; rw [if_pos h1], h⟩
theorem R_two {a b : Int} {Q : List D → Prop} (h1 : inLim a = true) (h2 : inLim b = true) (h : Q (rangeL a 1 (b - a).toNat)) : W (rngD [.int a, .int b]) Q := ⟨_, by unfold rngD; dsimp only; rw [if_pos (by rw [h1, h2]; rfl)], h⟩
theorem S_list {xs : List D} {Q : List D → Prop} (h1 : xs.length ≤ lim) (h : Q xs) : W (srcD (.list xs)) Q := ⟨_, if_pos h1, h⟩
theorem mulB_small {a b : Int} (h : a.natAbs < 2 ^ 60 ∨ b.natAbs < 2 ^ 60) : mulB a b = true := by
  unfold mulB shortFactorBits Builtin.Int.intBits
  have key : ∀ c : Int, c.natAbs < 2 ^ 60 → (if (c == 0) = true then 0 else c.natAbs.log2 + 1) ≤ 64 := fun c hc => by
    split
    · omega
    · rename_i h0
      have hn : c.natAbs ≠ 0 := by simpa using h0
      have := (Nat.log2_lt hn).mpr hc
      omega
  rcases h with h | h
  · have := key a h
    simp only [show ¬ ((if (a == 0) = true then 0 else a.natAbs.log2 + 1) > 64) from by omega, decide_false, Bool.false_and, Bool.not_false]
  · have := key b h
    simp only [show ¬ ((if (b == 0) = true then 0 else b.natAbs.log2 + 1) > 64) from by omega, decide_false, Bool.false_and, Bool.and_false, Bool.not_false]
theorem mulB_big {a b : Int} (h1 : a.natAbs < 2 ^ 9000) (h2 : b.natAbs < 2 ^ 9000) : mulB a b = true := by
  unfold mulB Builtin.Int.intBits Builtin.Int.intTooBig
  have key : ∀ c : Int, c.natAbs < 2 ^ 9000 → (if (c == 0) = true then 0 else c.natAbs.log2 + 1) ≤ 9000 := fun c hc => by
    split
    · omega
    · rename_i h0
      have hn : c.natAbs ≠ 0 := by simpa using h0
      have := (Nat.log2_lt hn).mpr hc
      omega
  have k1 := key a h1
  have k2 := key b h2
  have : ¬ ((if (a == 0) = true then 0 else a.natAbs.log2 + 1 : Nat) : Int) + ((if (b == 0) = true then 0 else b.natAbs.log2 + 1 : Nat) : Int) > bitsLine := by
    have : (18000 : Int) ≤ bitsLine := by decide
    omega
  simp only [decide_eq_false this, Bool.and_false, Bool.not_false]

theorem getI {xs : List Int} {j : Nat} (h : j < xs.length) : (xs.map PyData.int)[j]? = some (.int (xs.getD j 0)) := by
  rw [List.getElem?_map, List.getElem?_eq_getElem h, List.getD_eq_getElem?_getD, List.getElem?_eq_getElem h]; rfl
theorem X_ints {xs : List Int} {j : Nat} {Q : D → Prop} (h1 : xs.length ≤ lim) (h2 : j < xs.length) (h : Q (.int (xs.getD j 0))) : W (idxD (.list (xs.map .int)) (j : Int)) Q :=
  X_list (by rw [List.length_map]; exact h1) (getI h2) h
theorem rangeL_eq (n : Nat) : rangeL 0 1 n = ((List.range n).map fun (i : Nat) => (i : Int)).map .int := by
  unfold rangeL
  rw [List.map_map]
  refine List.map_congr_left fun i _ => ?_
  show PyData.int (0 + (i : Int) * 1) = .int (i : Int)
  rw [Int.zero_add, Int.mul_one]
theorem R_nat {b : Nat} {Q : List D → Prop} (h1 : b ≤ lim) (h : Q (((List.range b).map fun (i : Nat) => (i : Int)).map .int)) : W (rngD [.int (b : Int)]) Q := by
  refine R_one ?_ ?_
  · unfold inLim; unfold lim at h1; rw [Bool.and_eq_true, decide_eq_true_eq, decide_eq_true_eq]; omega
  · rw [show (b : Int).toNat = b from rfl, rangeL_eq]; exact h
/-- a comprehension over range -/
theorem M_range {f : D → Out D} {n : Nat} {Q : List D → Prop} {T : D → Expr → Out Bool} (g : Nat → Int) (h2 : ∀ i, i < n → W (f (.int (i : Int))) (fun d => d = .int (g i))) (h : Q (((List.range n).map g).map .int)) :
    W (filtL (fun v => tests (T v) []) f (((List.range n).map fun (i : Nat) => (i : Int)).map .int)) Q := by
  refine W_map (fun d => match d with | .int i => .int (g i.toNat) | _ => .none) (fun v hv => ?_) ?_
  · rw [List.map_map, List.mem_map] at hv
    obtain ⟨i, hi, rfl⟩ := hv
    exact h2 i (List.mem_range.mp hi)
  · rw [List.map_map] at h
    rw [List.map_map, List.map_map]; exact h
theorem M_ints {f : D → Out D} {xs : List Int} {Q : List D → Prop} {T : D → Expr → Out Bool} (g : Int → Int) (h2 : ∀ x, x ∈ xs → W (f (.int x)) (fun d => d = .int (g x))) (h : Q ((xs.map g).map .int)) :
    W (filtL (fun v => tests (T v) []) f (xs.map .int)) Q := by
  refine W_map (fun d => match d with | .int i => .int (g i) | _ => .none) (fun v hv => ?_) ?_
  · rw [List.mem_map] at hv
    obtain ⟨i, hi, rfl⟩ := hv
    exact h2 i hi
  · rw [List.map_map] at h
    rw [List.map_map]; exact h
theorem M_rfilt {t : D → Out Bool} {f : D → Out D} {n : Nat} {Q : List D → Prop} (pp : Nat → Bool) (g : Nat → Int) (h1 : ∀ i, i < n → W (t (.int (i : Int))) (fun b => b = pp i)) (h2 : ∀ i, i < n → W (f (.int (i : Int))) (fun d => d = .int (g i))) (h : Q ((((List.range n).filter pp).map g).map .int)) :
    W (filtL t f (((List.range n).map fun (i : Nat) => (i : Int)).map .int)) Q := by
  refine W_filt (fun d => match d with | .int i => pp i.toNat | _ => false) (fun d => match d with | .int i => .int (g i.toNat) | _ => .none) (fun v hv => ?_) (fun v hv _ => ?_) ?_
  · rw [List.map_map, List.mem_map] at hv
    obtain ⟨i, hi, rfl⟩ := hv
    exact h1 i (List.mem_range.mp hi)
  · rw [List.map_map, List.mem_map] at hv
    obtain ⟨i, hi, rfl⟩ := hv
    exact h2 i (List.mem_range.mp hi)
  · rw [List.map_map, List.filter_map, List.map_map]
    have e1 : ((fun d : D => match d with | .int i => pp i.toNat | _ => false) ∘ (PyData.int ∘ fun (i : Nat) => (i : Int))) = pp := rfl
    have e2 : ((fun d : D => match d with | .int i => (.int (g i.toNat) : D) | _ => .none) ∘ (PyData.int ∘ fun (i : Nat) => (i : Int))) = PyData.int ∘ g := rfl
    rw [e1, e2, ← List.map_map]; exact h
def maxL : List Int → Int
  | [] => 0
  | x :: r => maxI x r
theorem F_maxL {zs : List Int} {Q : D → Prop} (h1 : 0 < zs.length) (h : Q (.int (maxL zs))) : W (fnD "max" (.list (zs.map .int))) Q := by
  cases zs with
  | nil => simp at h1
  | cons z zs => exact F_max h
theorem X_int0 {xs : List Int} {Q : D → Prop} (h1 : xs.length ≤ lim) (h2 : 0 < xs.length) (h : Q (.int (xs.getD 0 0))) : W (idxD (.list (xs.map .int)) 0) Q := X_ints (j := 0) h1 h2 h
theorem foldI_ints {f : Rho → Out D} {t y : Str} (g : Int → Int → Int) (hty : y ≠ t) : ∀ {xs : List Int} {ρ : Rho} {c : Int}, (∀ x ∈ xs, ∀ ρ' c, ρ' y = some (false, .int c) → (∀ z, z ≠ t → z ≠ y → ρ' z = ρ z) → W (f (upd ρ' t false (.int x))) (fun d => d = .int (g c x))) → ρ y = some (false, .int c) →
    ∃ ρ', foldI f t y (xs.map .int) ρ = .ok ρ' ∧ ρ' y = some (false, .int (xs.foldl g c)) ∧ ∀ z, z ≠ t → z ≠ y → ρ' z = ρ z
  | [], ρ, c, _, h => ⟨ρ, rfl, h, fun _ _ _ => rfl⟩
  | x :: xs, ρ, c, hf, h => by
    have h1 := (hf x List.mem_cons_self ρ c h fun _ _ _ => rfl).val
    obtain ⟨ρ', e, hy, ho⟩ := foldI_ints g hty (xs := xs) (ρ := upd (upd ρ t false (.int x)) y false (.int (g c x))) (c := g c x) (fun x' hx' ρ2 c2 h2 h3 => hf x' (List.mem_cons_of_mem _ hx') ρ2 c2 h2 fun z hz1 hz2 => by
      rw [h3 z hz1 hz2]; unfold upd; rw [if_neg hz2, if_neg hz1]) lk_self
    refine ⟨ρ', ?_, hy, fun z hz1 hz2 => ?_⟩
    · show (f (upd ρ t false (.int x))).bind _ = _
      rw [h1]; exact e
    · rw [ho z hz1 hz2]; unfold upd; rw [if_neg hz2, if_neg hz1]
theorem W_forI_ints {t z y : Str} {e : Expr} {xs : List Int} {c : Int} {Q : Rho × Option D → Prop} (g : Int → Int → Int) (h1 : localOrCell sc t = true) (h2 : (z != t && z != y && localOrCell sc y && localOrCell sc z && nmOk z && notComp e) = true) (hty : y ≠ t)
    (h3 : ρ z = some (true, .list (xs.map .int))) (hl : xs.length < lim) (hy : ρ y = some (false, .int c))
    (hf : ∀ x ∈ xs, ∀ ρ' c, ρ' y = some (false, .int c) → (∀ z, z ≠ t → z ≠ y → ρ' z = ρ z) → W ((It K n).ev sc (upd ρ' t false (.int x)) false e) (fun d => d = .int (g c x)))
    (h : ∀ ρ', ρ' y = some (false, .int (xs.foldl g c)) → (∀ z, z ≠ t → z ≠ y → ρ' z = ρ z) → Q (ρ', none)) : W ((It K (n + 1)).ex sc ρ (.For (.Name t p1) (.Name z p2) [.Assign [.Name y p3] e p4] [] p)) Q := by
  obtain ⟨ρ', e1, e2, e3⟩ := foldI_ints (f := fun ρ => (It K n).ev sc ρ false e) g hty hf hy
  exact W_forI h1 h2 (ownL_of h3 (by rw [List.length_map]; exact hl)) e1 (h ρ' e2 e3)
theorem lt9000 {k : Nat} (h : k < 2 ^ 200) : k < 2 ^ 9000 := Nat.lt_of_lt_of_le h (Nat.pow_le_pow_right (by decide) (by decide))
theorem B_dv {a b : Int} {Q : D → Prop} (h1 : b ≠ 0) (h2 : b.natAbs < 2 ^ 200) (h : Q (.int (a.fdiv b))) : W (binD .FloorDiv (.int a) (.int b)) Q := B_div h1 (lt9000 h2) h
theorem C_t {op : CmpOp} {a b : D} {Q : Bool → Prop} (h : cmpD op a b = .ok true) (hq : Q true) : W (cmpD op a b) Q := ⟨_, h, hq⟩
theorem C_f {op : CmpOp} {a b : D} {Q : Bool → Prop} (h : cmpD op a b = .ok false) (hq : Q false) : W (cmpD op a b) Q := ⟨_, h, hq⟩
theorem lt9000' {k : Nat} (h : k < 2 ^ 250 * 2 ^ 250 * 2 ^ 250) : k < 2 ^ 9000 := Nat.lt_of_lt_of_le h (by rw [← Nat.pow_add, ← Nat.pow_add]; exact Nat.pow_le_pow_right (by decide) (by decide))
theorem forM_inv {β : Type} {enc : β → D} {f : D → Rho → Out (Rho × Option D)} {Q : Rho × Option D → Prop} (I : List β → Rho → Prop) (hn : ∀ ρ, I [] ρ → Q (ρ, none))
    (hs : ∀ y r ρ, I (y :: r) ρ → W (f (enc y) ρ) fun p => match p.2 with | none => I r p.1 | some d => Q (p.1, some d)) {ys : List β} {ρ : Rho} (h : I ys ρ) : W (forL f (ys.map enc) ρ) Q := by
  refine forL_inv (fun r ρ => ∃ zs, r = zs.map enc ∧ I zs ρ) (fun ρ h => ?_) (fun v r ρ h => ?_) _ _ ⟨ys, rfl, h⟩
  · obtain ⟨zs, e, h⟩ := h
    cases zs with
    | nil => exact hn ρ h
    | cons _ _ => cases e
  · obtain ⟨zs, e, h⟩ := h
    cases zs with
    | nil => cases e
    | cons z zs =>
      cases e
      refine (hs z zs ρ h).mono fun p hp => ?_
      obtain ⟨ρ', o⟩ := p
      cases o with
      | none => exact ⟨zs, rfl, hp⟩
      | some d => exact hp
theorem forR_inv {f : D → Rho → Out (Rho × Option D)} {Q : Rho × Option D → Prop} {m : Nat} (I : Nat → Rho → Prop) (hn : ∀ ρ, I m ρ → Q (ρ, none))
    (hs : ∀ j ρ, j < m → I j ρ → W (f (.int (j : Int)) ρ) fun p => match p.2 with | none => I (j + 1) p.1 | some d => Q (p.1, some d)) {ρ : Rho} (h : I 0 ρ) : W (forL f (((List.range m).map fun (i : Nat) => (i : Int)).map .int) ρ) Q := by
  rw [List.map_map]
  refine forM_inv (fun r ρ => ∃ j, j ≤ m ∧ r = List.range' j (m - j) ∧ I j ρ) (fun ρ h => ?_) (fun y r ρ h => ?_) ⟨0, Nat.zero_le _, by rw [List.range_eq_range', Nat.sub_zero], h⟩
  · obtain ⟨j, hj, e, h⟩ := h
    have : m - j = 0 := by
      have := congrArg List.length e
      simpa using this.symm
    rw [show m = j by omega] at hn
    exact hn ρ h
  · obtain ⟨j, hj, e, h⟩ := h
    by_cases hjm : j < m
    · rw [show m - j = (m - (j + 1)) + 1 by omega, List.range'_succ] at e
      cases e
      refine (hs y ρ hjm h).mono fun p hp => ?_
      obtain ⟨ρ', o⟩ := p
      cases o with
      | none => exact ⟨y + 1, hjm, rfl, hp⟩
      | some d => exact hp
    · rw [show m - j = 0 by omega] at e
      cases e
theorem X_rf {d v : D} {k : Int} {Q : D → Prop} (h : idxD d k = .ok v) (hq : Q v) : W (idxD d k) Q := ⟨v, h, hq⟩
theorem eqvAll_ints : ∀ xs ys : List Int, PyData.eqvAll (xs.map .int) (ys.map .int) = decide (xs = ys)
  | [], [] => rfl
  | [], _ :: _ => rfl
  | _ :: _, [] => rfl
  | x :: xs, y :: ys => by
    show (PyData.eqv (.int x) (.int y) && PyData.eqvAll (xs.map .int) (ys.map .int)) = _
    rw [eqv_int, eqvAll_ints xs ys]
    by_cases h1 : x = y <;> by_cases h2 : xs = ys <;> simp [h1, h2]
theorem eqv_ints (xs ys : List Int) : PyData.eqv (.list (xs.map .int)) (.list (ys.map .int)) = decide (xs = ys) := eqvAll_ints xs ys
theorem shp_ints (xs : List Int) : shp (.list (xs.map .int)) = true := by
  unfold shp
  rw [show PyData.canLay0 (.list (xs.map .int)) = PyData.canLayAll0 (xs.map .int) from rfl, canLay_ints, Bool.true_and, decide_eq_true_eq]
  show PyData.depthAll (xs.map .int) + 1 ≤ 64
  have := depth_ints xs
  omega
theorem C_eqL {xs ys : List Int} {Q : Bool → Prop} (h : Q (decide (xs = ys))) : W (cmpD .Eq (.list (xs.map .int)) (.list (ys.map .int))) Q := C_eq (shp_ints _) (shp_ints _) (by rw [eqv_ints]; exact h)
theorem C_neL {xs ys : List Int} {Q : Bool → Prop} (h : Q (!decide (xs = ys))) : W (cmpD .NotEq (.list (xs.map .int)) (.list (ys.map .int))) Q := C_ne (shp_ints _) (shp_ints _) (by rw [eqv_ints]; exact h)
theorem P_neg1 {n : Nat} {Q : Nat → Prop} (h1 : 0 < n) (h : Q (n - 1)) : W (posL (-1) n) Q := by
  refine ⟨n - 1, ?_, h⟩
  unfold posL seqIndex?
  simp only [show ((-1 : Int) < 0) from by decide, if_true]
  rw [if_pos (by rw [Bool.and_eq_true, decide_eq_true_eq, decide_eq_true_eq]; omega)]
  dsimp only
  congr 1
  omega
theorem L_ok {xs : List D} {A : Prop} (h1 : xs.length ≤ lim) (h2 : A) : xs.length ≤ lim ∧ A := ⟨h1, h2⟩
theorem frz_eq {ρ : Rho} : frz ρ [] = ρ := rfl
theorem set_ints {xs : List Int} {j : Nat} {c : Int} : (xs.map PyData.int).set j (.int c) = (xs.set j c).map .int := by rw [List.map_set]
theorem B_zeros {x k : Int} {Q : D → Prop} (h1 : k ≤ lim) (h0 : -1 ≤ k) (h : Q (.list ((List.replicate k.toNat x).map .int))) : W (binD .Mult (.list [.int x]) (.int k)) Q :=
  B_lmul h1 h0 (by rw [List.map_replicate] at h; exact h)
end
end Mine

/-! Wp2 -/
namespace Mine

section
variable {K : Frag} {n : Nat} {sc : Scope} {ρ : Rho} {p p1 p2 p3 p4 : Pos} {o : Rho → Bool}

/-! the outermost frame -/
theorem LX_call {f : Str} {args ds : List D} {fd : FuncData} {b : List Stmt} {binds : List (Str × D)} {Q : D → Prop} (h1 : fdOf K f = some fd) (h2 : fdOk K fd = true) (h3 : fd.body = .stmts b) (h4 : dfltsD K fd = some ds)
    (h5 : bindP (fd.params.args.map (·.arg)) args ds = some binds) (h : W (exsL (exX K o n fd.scope) b (rhoOf binds)) fun p => Q (p.2.getD .none)) : W (lawX K o n f args) Q := by
  unfold lawX
  rw [h1]
  dsimp only
  rw [if_pos h2, h3, h4]
  dsimp only
  rw [h5]
  exact W.bind (h.mono fun p hp => .ok hp)
def notTry : Stmt → Bool
  | .Try .. => false
  | _ => true
theorem X_st {st : Stmt} {Q : Rho × Option D → Prop} (h1 : notTry st = true) (h : W ((It K n).ex sc ρ st) Q) : W (exX K o (n + 1) sc ρ st) Q := by
  obtain ⟨a, e, q⟩ := h
  refine ⟨a, ?_, q⟩
  cases st <;> first | exact e | cases h1
theorem X_tryN {first : Stmt} {rest : List Stmt} {C : Str} {x : Str} {b : Bool} {bk} {np xp bp ap hp tp : Pos} {Q : Rho × Option D → Prop} (ho : o ρ = false) (h : W (exsL ((It K n).ex sc) (first :: rest) ρ) Q) :
    W (exX K o (n + 1) sc ρ (.Try (first :: rest) [.ExceptHandler (some (.Name C np)) none [.Assign [.Name x xp] (.Constant (.bool b) bk bp) ap] hp] [] [] tp)) Q := by
  obtain ⟨a, e, q⟩ := h
  refine ⟨a, ?_, q⟩
  unfold exX
  dsimp only
  rw [if_neg (by rw [ho]; decide)]
  exact e
theorem X_tryX {rest : List Stmt} {C : Str} {x f y : Str} {args : List Expr} {b : Bool} {bk} {np xp bp ap hp tp yp fp cp sp : Pos} {Q : Rho × Option D → Prop} (ho : o ρ = true)
    (h1 : (C == excN && sc.names.lookup C == some .globalImplicit && localOrCell sc x) = true) (h2 : txCall K (It K n) (Jt K n) sc (frz ρ (args.flatMap (al K 30 false))) f args = true)
    (h : Q (upd (frz ρ (args.flatMap (al K 30 false))) x false (.bool b), none)) :
    W (exX K o (n + 1) sc ρ (.Try (.Assign [.Name y yp] (.Call (.Name f fp) args [] cp) sp :: rest) [.ExceptHandler (some (.Name C np)) none [.Assign [.Name x xp] (.Constant (.bool b) bk bp) ap] hp] [] [] tp)) Q := by
  refine ⟨_, ?_, h⟩
  unfold exX
  dsimp only
  rw [if_pos ho, if_pos (by rw [h1, h2]; rfl)]

/-! runs that end in the exception -/
theorem TC_call {f : Str} {args ds : List D} {fd : FuncData} {b : List Stmt} {binds : List (Str × D)} (h1 : fdOf K f = some fd) (h2 : fdOk K fd = true) (h3 : fd.body = .stmts b) (h4 : dfltsD K fd = some ds)
    (h5 : bindP (fd.params.args.map (·.arg)) args ds = some binds) (h : (txL ((It K n).ex fd.scope) ((Jt K n).tx fd.scope) b (rhoOf binds)).isSome = true) : (Jt K (n + 1)).tc f args = true := by
  show tcN K (It K n) (Jt K n) f args = true
  unfold tcN
  rw [h1]
  dsimp only
  rw [if_pos h2, h3, h4]
  dsimp only
  rw [h5]
  exact h
def Tx (f : Rho → Stmt → Out (Rho × Option D)) (g : Rho → Stmt → Option Rho) (r : List Stmt) (p : Rho × Option D) : Prop :=
  match p.2 with
  | none => (txL f g r p.1).isSome = true
  | some _ => False
theorem Tx_n {f : Rho → Stmt → Out (Rho × Option D)} {g : Rho → Stmt → Option Rho} {r : List Stmt} (h : (txL f g r ρ).isSome = true) : Tx f g r (ρ, none) := h
theorem TX_here {f : Rho → Stmt → Out (Rho × Option D)} {g : Rho → Stmt → Option Rho} {s : Stmt} {r : List Stmt} (h : (g ρ s).isSome = true) : (txL f g (s :: r) ρ).isSome = true := by
  unfold txL
  cases q : g ρ s with
  | none => rw [q] at h; cases h
  | some ρ' => rfl
theorem TX_on {f : Rho → Stmt → Out (Rho × Option D)} {g : Rho → Stmt → Option Rho} {s : Stmt} {r : List Stmt} (h : W (f ρ s) (Tx f g r)) : (txL f g (s :: r) ρ).isSome = true := by
  obtain ⟨⟨ρ', d⟩, e, q⟩ := h
  unfold txL
  cases hg : g ρ s with
  | some ρ' => rfl
  | none =>
    dsimp only
    rw [e]
    cases d with
    | none => exact q
    | some d => cases q
theorem TX_if {t : Expr} {b e : List Stmt} (h : W ((It K n).tst sc ρ t) fun c => (c = true → (txL ((It K n).ex sc) ((Jt K n).tx sc) b ρ).isSome = true) ∧ (c = false → (txL ((It K n).ex sc) ((Jt K n).tx sc) e ρ).isSome = true)) :
    ((Jt K (n + 1)).tx sc ρ (.If t b e p)).isSome = true := by
  obtain ⟨c, e, q⟩ := h
  show (txN K (It K n) (Jt K n) sc ρ (.If t b _ p)).isSome = true
  unfold txN
  dsimp only
  rw [e]
  cases c with
  | true => exact q.1 rfl
  | false => exact q.2 rfl
theorem TX_raise {C : Str} {x : Str} {k} (h : (C == excN && sc.names.lookup C == some .globalImplicit) = true) : ((Jt K (n + 1)).tx sc ρ (.Raise (some (.Call (.Name C p1) [.Constant (.str x) k p2] [] p3)) none p)).isSome = true := by
  rw [show (Jt K (n + 1)).tx = txN K (It K n) (Jt K n) from rfl]
  unfold txN
  dsimp only
  rw [if_pos h]
  rfl
theorem TX_txCall {f : Str} {args : List Expr} (h1 : calleeD K sc f = some .fn) (h2 : (args.isEmpty || (fdOf K f).isNone) = false) (h : W (evs ((It K n).ev sc ρ false) args) fun vs => (Jt K n).tc f vs = true) : txCall K (It K n) (Jt K n) sc ρ f args = true := by
  obtain ⟨vs, e, q⟩ := h
  unfold txCall
  rw [h1]
  dsimp only
  rw [if_neg (by rw [h2]; decide), e]
  exact q
theorem TX_ret {f : Str} {args : List Expr} (h1 : calleeD K sc f = some .fn) (h2 : (args.isEmpty || (fdOf K f).isNone) = false) (h : W (evs ((It K n).ev sc (frz ρ (args.flatMap (al K 30 false))) false) args) fun vs => (Jt K n).tc f vs = true) :
    ((Jt K (n + 1)).tx sc ρ (.Return (some (.Call (.Name f p1) args [] p2)) p)).isSome = true := by
  rw [show (Jt K (n + 1)).tx = txN K (It K n) (Jt K n) from rfl]
  unfold txN
  dsimp only
  rw [if_pos (TX_txCall h1 h2 h)]
  rfl

/-! rows -/
abbrev rowD (r : List Int) : D := .list (r.map .int)
theorem getR {rows : List (List Int)} {j : Nat} (h : j < rows.length) : (rows.map rowD)[j]? = some (rowD (rows.getD j [])) := by
  rw [List.getElem?_map, List.getElem?_eq_getElem h, List.getD_eq_getElem?_getD, List.getElem?_eq_getElem h]; rfl
theorem X_rows {rows : List (List Int)} {j : Nat} {Q : D → Prop} (h1 : rows.length ≤ lim) (h2 : j < rows.length) (h : Q (.list ((rows.getD j []).map .int))) : W (idxD (.list (rows.map rowD)) (j : Int)) Q :=
  X_list (by rw [List.length_map]; exact h1) (getR h2) h
theorem filtL_enc {β : Type} {enc : β → D} {f : D → Out D} {T : D → Expr → Out Bool} (g : β → D) : ∀ {xs : List β}, (∀ x ∈ xs, W (f (enc x)) (fun d => d = g x)) → filtL (fun v => tests (T v) []) f (xs.map enc) = .ok (xs.map g)
  | [], _ => rfl
  | x :: r, h => by
    have h1 := (h x List.mem_cons_self).val
    have h2 := filtL_enc (T := T) g (xs := r) fun y hy => h y (List.mem_cons_of_mem _ hy)
    show (if (true : Bool) = true then (f (enc x)).bind (fun b => (filtL (fun v => tests (T v) []) f (r.map enc)).bind fun bs => .ok (b :: bs)) else filtL (fun v => tests (T v) []) f (r.map enc)) = _
    rw [if_pos rfl, h1]
    show (filtL _ f (r.map enc)).bind _ = _
    rw [h2]; rfl
theorem M_enc {β : Type} {enc : β → D} {xs : List β} {f : D → Out D} {T : D → Expr → Out Bool} {Q : List D → Prop} (g : β → D) (h2 : ∀ x ∈ xs, W (f (enc x)) (fun d => d = g x)) (h : Q (xs.map g)) : W (filtL (fun v => tests (T v) []) f (xs.map enc)) Q :=
  ⟨_, filtL_enc g h2, h⟩
theorem M_rangeD {f : D → Out D} {m : Nat} {Q : List D → Prop} {T : D → Expr → Out Bool} (g : Nat → D) (h2 : ∀ i, i < m → W (f (.int (i : Int))) (fun d => d = g i)) (h : Q ((List.range m).map g)) :
    W (filtL (fun v => tests (T v) []) f (((List.range m).map fun (i : Nat) => (i : Int)).map .int)) Q := by
  rw [List.map_map]
  exact M_enc g (fun i hi => h2 i (List.mem_range.mp hi)) h
theorem filtL_encf {β : Type} {enc : β → D} {t : D → Out Bool} {f : D → Out D} (pp : β → Bool) (g : β → D) : ∀ {xs : List β}, (∀ x ∈ xs, W (t (enc x)) (fun b => b = pp x)) → (∀ x ∈ xs, pp x = true → W (f (enc x)) (fun d => d = g x)) → filtL t f (xs.map enc) = .ok ((xs.filter pp).map g)
  | [], _, _ => rfl
  | x :: r, h1, h2 => by
    have e1 := (h1 x List.mem_cons_self).val
    have e3 := filtL_encf pp g (xs := r) (fun y hy => h1 y (List.mem_cons_of_mem _ hy)) fun y hy => h2 y (List.mem_cons_of_mem _ hy)
    show (t (enc x)).bind _ = _
    rw [e1]
    show (if pp x = true then _ else _) = _
    cases hp : pp x with
    | true =>
      have e2 := (h2 x List.mem_cons_self hp).val
      rw [if_pos rfl, e2, List.filter_cons, if_pos hp]
      show (filtL t f (r.map enc)).bind _ = _
      rw [e3]; rfl
    | false =>
      rw [if_neg (by decide), List.filter_cons, if_neg (by rw [hp]; decide)]
      exact e3
theorem M_encf {β : Type} {enc : β → D} {xs : List β} {t : D → Out Bool} {f : D → Out D} {Q : List D → Prop} (pp : β → Bool) (g : β → D) (h1 : ∀ x ∈ xs, W (t (enc x)) (fun b => b = pp x)) (h2 : ∀ x ∈ xs, pp x = true → W (f (enc x)) (fun d => d = g x)) (h : Q ((xs.filter pp).map g)) :
    W (filtL t f (xs.map enc)) Q := ⟨_, filtL_encf pp g h1 h2, h⟩
theorem M_rfiltD {t : D → Out Bool} {f : D → Out D} {m : Nat} {Q : List D → Prop} (pp : Nat → Bool) (g : Nat → D) (h1 : ∀ i, i < m → W (t (.int (i : Int))) (fun b => b = pp i)) (h2 : ∀ i, i < m → pp i = true → W (f (.int (i : Int))) (fun d => d = g i)) (h : Q (((List.range m).filter pp).map g)) :
    W (filtL t f (((List.range m).map fun (i : Nat) => (i : Int)).map .int)) Q := by
  rw [List.map_map]
  exact M_encf pp g (fun i hi => h1 i (List.mem_range.mp hi)) (fun i hi hp => h2 i (List.mem_range.mp hi) hp) h
theorem B_snoc {r : List Int} {x : Int} {Q : D → Prop} (h1 : r.length + 1 ≤ lim) (h : Q (.list ((r ++ [x]).map .int))) : W (binD .Add (.list (r.map .int)) (.list [.int x])) Q :=
  B_ladd (by rw [List.length_map]; exact h1) (by rw [List.map_append] at h; exact h)
def minL : List Int → Int
  | [] => 0
  | x :: r => minI x r
theorem F_minL {zs : List Int} {Q : D → Prop} (h1 : 0 < zs.length) (h : Q (.int (minL zs))) : W (fnD "min" (.list (zs.map .int))) Q := by
  cases zs with
  | nil => simp at h1
  | cons z zs => exact F_min h
theorem F_abs {a : Int} {Q : D → Prop} (h : Q (.int (if a < 0 then -a else a))) : W (fnD "abs" (.int a)) Q := ⟨_, rfl, h⟩
theorem rev_sorted (xs : List D) : revD "sorted" (.list xs) = (match intsD xs with | some ns => if ns.length < 64 then .ok (.list ((sortI ns).reverse.map .int)) else .bad | none => .bad) := rfl
theorem F_rev {zs : List Int} {Q : D → Prop} (h1 : zs.length < 64) (h : Q (.list ((sortI zs).reverse.map .int))) : W (revD "sorted" (.list (zs.map .int))) Q := ⟨_, by rw [rev_sorted, intsD_map]; exact if_pos h1, h⟩
def downs (a : Int) : List Int := (List.range (a + 1).toNat).map fun (i : Nat) => a - (i : Int)
theorem R_down {a : Int} {Q : List D → Prop} (h1 : -1000000 ≤ a) (h2 : a ≤ 1000000) (h : Q ((downs a).map .int)) : W (rngD [.int a, .int (-1), .int (-1)]) Q := by
  refine ⟨_, ?_, h⟩
  unfold rngD
  dsimp only
  have e1 : inLim a = true := by unfold inLim; rw [Bool.and_eq_true, decide_eq_true_eq, decide_eq_true_eq]; omega
  rw [if_pos (by rw [e1]; rfl)]
  unfold rangeL downs
  rw [List.map_map, show a - -1 = a + 1 by omega]
  refine congrArg Out.ok (List.map_congr_left fun i _ => ?_)
  show PyData.int (a + (i : Int) * (-1)) = .int (a - (i : Int))
  congr 1
  omega
theorem eqv_bool (a b : Bool) : PyData.eqv (.bool a) (.bool b) = (a == b) := by cases a <;> cases b <;> rfl
theorem C_eqb {a b : Bool} {Q : Bool → Prop} (h : Q (a == b)) : W (cmpD .Eq (.bool a) (.bool b)) Q := C_eq rfl rfl (by rw [eqv_bool]; exact h)
theorem eqvAll_rows : ∀ xs ys : List (List Int), PyData.eqvAll (xs.map rowD) (ys.map rowD) = decide (xs = ys)
  | [], [] => rfl
  | [], _ :: _ => rfl
  | _ :: _, [] => rfl
  | x :: xs, y :: ys => by
    show (PyData.eqv (rowD x) (rowD y) && PyData.eqvAll (xs.map rowD) (ys.map rowD)) = _
    rw [eqv_ints, eqvAll_rows xs ys]
    by_cases h1 : x = y <;> by_cases h2 : xs = ys <;> simp [h1, h2]
theorem canLay_rows : ∀ xs : List (List Int), PyData.canLayAll0 (xs.map rowD) = true
  | [] => rfl
  | x :: r => by
    show (PyData.canLay0 (rowD x) && PyData.canLayAll0 (r.map rowD)) = true
    rw [show PyData.canLay0 (rowD x) = PyData.canLayAll0 (x.map .int) from rfl, canLay_ints, canLay_rows r]; rfl
theorem depth_rows : ∀ xs : List (List Int), PyData.depthAll (xs.map rowD) ≤ 2
  | [] => by show 0 ≤ 2; decide
  | x :: r => by
    show max (PyData.depth (rowD x)) (PyData.depthAll (r.map rowD)) ≤ 2
    have h1 := depth_ints x
    have h2 : PyData.depth (rowD x) = PyData.depthAll (x.map .int) + 1 := rfl
    have h3 := depth_rows r
    omega
theorem shp_rows (xs : List (List Int)) : shp (.list (xs.map rowD)) = true := by
  unfold shp
  rw [show PyData.canLay0 (.list (xs.map rowD)) = PyData.canLayAll0 (xs.map rowD) from rfl, canLay_rows, Bool.true_and, decide_eq_true_eq]
  show PyData.depthAll (xs.map rowD) + 1 ≤ 64
  have := depth_rows xs
  omega
theorem C_neR {xs ys : List (List Int)} {Q : Bool → Prop} (h : Q (!decide (xs = ys))) : W (cmpD .NotEq (.list (xs.map rowD)) (.list (ys.map rowD))) Q := C_ne (shp_rows _) (shp_rows _) (by rw [show PyData.eqv (.list (xs.map rowD)) (.list (ys.map rowD)) = PyData.eqvAll (xs.map rowD) (ys.map rowD) from rfl, eqvAll_rows]; exact h)
theorem C_eqR {xs ys : List (List Int)} {Q : Bool → Prop} (h : Q (decide (xs = ys))) : W (cmpD .Eq (.list (xs.map rowD)) (.list (ys.map rowD))) Q := C_eq (shp_rows _) (shp_rows _) (by rw [show PyData.eqv (.list (xs.map rowD)) (.list (ys.map rowD)) = PyData.eqvAll (xs.map rowD) (ys.map rowD) from rfl, eqvAll_rows]; exact h)
theorem seqI_neg {k n : Nat} (h1 : 0 < k) (h2 : k ≤ n) : seqIndex? (-(k : Int)) n = some (n - k) := by
  unfold seqIndex?
  simp only [show (-(k : Int) < 0) from by omega, if_true]
  rw [if_pos (by rw [Bool.and_eq_true, decide_eq_true_eq, decide_eq_true_eq]; omega)]
  congr 1
  omega
theorem X_intsN {xs : List Int} {k : Nat} {z : Int} {Q : D → Prop} (hz : z = -(k : Int)) (h1 : xs.length ≤ lim) (h0 : 0 < k) (h2 : k ≤ xs.length) (h : Q (.int (xs.getD (xs.length - k) 0))) : W (idxD (.list (xs.map .int)) z) Q := by
  subst hz
  refine ⟨_, ?_, h⟩
  unfold idxD
  dsimp only
  rw [if_pos (by rw [List.length_map]; exact h1), List.length_map, seqI_neg h0 h2]
  dsimp only
  rw [getI (by omega)]
theorem insI_len (x : Int) : ∀ l, (insI x l).length = l.length + 1
  | [] => rfl
  | y :: r => by unfold insI; split <;> simp [insI_len x r]
theorem sortI_len : ∀ l, (sortI l).length = l.length
  | [] => rfl
  | x :: r => by unfold sortI; rw [insI_len, sortI_len r]; rfl
end
end Mine

/-! Hd05 -/
set_option maxHeartbeats 8000000 in
open_top Mine.hd for PySem.Challenge.rw_fh0001_05

/-! Hd05b -/
namespace Mine
def Law05 : Prop := ∀ (P : Params) (zs : List Int), zs.length ≤ 63 → ∃ o, lawX (Mine.hd.heap_39 P) o 71 "law" [.list (zs.map .int)] = .ok (.bool true)

set_option maxHeartbeats 8000000 in
theorem T05 (H : Law05) : PySem.Challenge.rw_fh0001_05.Holds := Mine.hd (by
  k_fill
  intro w s₀ s₁ mg mb G Y fa o pm cd doc dV kV ho hd hcd hD hmg hg args vals as hpre hlay hrd hwl hlo
  have KX := kIn_of Y
  refine Ground.open G ?_
  intro T B D TE TW
  clear hD hd hcd
  have hlaw : ∃ a0, nsIn (Mine.hd.heap_39 w.params) mainGlobals "law" = some (some (.ref a0)) := ⟨_, rfl⟩
  obtain ⟨a0, hlaw⟩ := hlaw
  have hfa : fa = a0 := by
    have h1 := mg_of KX T.g hlaw
    have h2 : mg "law" = some (.ref fa) := hmg
    rw [h1] at h2; cases h2; rfl
  subst hfa
  clear hmg ho
  have hexc : ∃ c0, nsIn (Mine.hd.heap_39 w.params) mainGlobals excN = some (some (.ref c0)) ∧ excIn (Mine.hd.heap_39 w.params) c0 [.type "Exception", .type "BaseException", .type "object"] "Exception.__new__" = true := ⟨_, rfl, by k_exc⟩
  obtain ⟨c0, hexn, hexc⟩ := hexc
  have O : Exc c0 mg _ := own_of_in KX (topRead_of T) hexn hexc
  wrow_args hpre hlay hrd hwl hlo
  all_goals (first | refine callC_kw (enter_call ?_) | refine enter_call ?_ | refine callC_kw (enter_callW ?_) | refine enter_callW ?_ | w_how)
  all_goals (try refine codeAny_mono ?_ (fun _ _ g => GoodW.toG g))
  rename_i zs _ _ _ _ _ _ _ _ _ _ hL _ _ _ hI _ hc1 _
  obtain ⟨o, hlx⟩ := H w.params zs (by omega)
  refine law_runX (n := 71) (c := c0) hlx ⟨rfl, by decide, by decide⟩ rfl ⟨KX, T.g, T.b, T.builtins, T.nolimit⟩ O hlaw hL hI fun v h' tk F' keep vr => ?_
  cases vr
  refine ⟨.inl ⟨.bool true, .bool true, [], rfl, (raisesW_false ?_), .bool _, ?_, unshared_nil⟩, keep, rfl, hg⟩
  · wrow_none_raised
  · wrow_post)
end Mine

/-! T05a -/
namespace Mine
local macro_rules
  | `(tactic| walk_at "lk1") => `(tactic| first | with_reducible assumption | with_reducible exact lk_self | ((with_reducible refine' lk_upd ?hne ?_); (case hne => decide)) | ((with_reducible refine' lk_comp ?hne ?_); (case hne => rfl)) | ((with_reducible refine' lk_frz0 ?hne ?_); (case hne => rfl)) | ((with_reducible apply lk_frz1); (case h => rfl)))
local macro_rules
  | `(tactic| walk_at "lk") => `(tactic| ((repeat walk_at "lk1"); (try rfl)))
local macro_rules
  | `(tactic| walk_at "ex") => `(tactic| first
    | (with_reducible refine' W_nil ?_)
    | (with_reducible refine' W_cons ?_)
    | (with_reducible refine' Nx_n ?_)
    | (with_reducible refine' Nx_s ?_)
    | (with_reducible refine' W_pass ?_)
    | ((with_reducible refine' W_assign0 (fr := false) ?h1 ?h2 ?h3 ?_); (case h1 => rfl); (case h2 => rfl); (case h3 => rfl))
    | ((with_reducible refine' W_assign0 (fr := true) ?h1 ?h2 ?h3 ?_); (case h1 => rfl); (case h2 => rfl); (case h3 => rfl))
    | ((with_reducible refine' W_assign (fr := false) ?h1 ?h3 ?_); (case h1 => rfl); (case h3 => rfl))
    | ((with_reducible refine' W_assign (fr := true) ?h1 ?h3 ?_); (case h1 => rfl); (case h3 => rfl))
    | ((with_reducible refine' W_setsub ?h1 ?_); (case h1 => rfl))
    | ((with_reducible refine' W_aug ?h1 ?h2 ?_); (case h1 => rfl); (case h2 => walk_at "lk"))
    | ((with_reducible refine' W_augsub ?h1 ?h2 ?_); (case h1 => rfl); (case h2 => refine' ownL_of ?ho ?hl; (case ho => walk_at "lk"); (case hl => walk_at "ln")))
    | ((with_reducible refine' W_append0 ?h1 ?h2 ?h3 ?_); (case h1 => rfl); (case h2 => refine' ownL_of ?ho ?hl; (case ho => walk_at "lk"); (case hl => walk_at "ln")); (case h3 => rfl))
    | ((with_reducible refine' W_append ?h1 ?h2 ?h3 ?_); (case h1 => rfl); (case h2 => refine' ownL_of ?ho ?hl; (case ho => walk_at "lk"); (case hl => walk_at "ln")); (case h3 => refine' ownL_of ?ho ?hl; (case ho => walk_at "lk"); (case hl => walk_at "ln")))
    | (with_reducible refine' W_if ?_)
    | (with_reducible refine' W_ret ?_)
    | ((with_reducible refine' W_for0 ?h1 ?h2 ?h3 ?_); (case h1 => rfl); (case h2 => rfl); (case h3 => rfl))
    | ((with_reducible refine' W_for ?h1 ?h2 ?_); (case h1 => rfl); (case h2 => rfl))
    | (with_reducible refine' W_while ?_))
local macro_rules
  | `(tactic| walk_at "ev") => `(tactic| first
    | ((with_reducible refine' W_const ?h1 ?_); (case h1 => rfl))
    | ((with_reducible refine' W_name ?h1 ?h2 ?h3 ?h4 ?_); (case h1 => rfl); (case h2 => rfl); (case h3 => walk_at "lk"); (case h4 => rfl))
    | ((with_reducible refine' W_gname ?h1 ?h2 ?_); (case h1 => rfl); (case h2 => rfl))
    | (with_reducible refine' W_bin ?_)
    | (with_reducible refine' W_un ?_)
    | (with_reducible refine' W_boolop ?_)
    | (with_reducible refine' W_bool1 ?_)
    | (with_reducible refine' W_booland ?_)
    | ((with_reducible refine' W_cmp ?h1 ?_); (case h1 => rfl))
    | (with_reducible refine' W_ifexp ?_)
    | (with_reducible refine' W_list ?_)
    | (with_reducible refine' W_tuple ?_)
    | ((with_reducible refine' W_sub ?h1 ?_); (case h1 => rfl))
    | (with_reducible refine' W_evs0 ?_)
    | ((with_reducible refine' W_evs1 ?h1 ?_); (case h1 => rfl))
    | ((with_reducible refine' W_callf ?h1 ?h2 ?_); (case h1 => rfl); (case h2 => rfl))
    | ((with_reducible refine' W_callb ?h1 ?h2 ?_); (case h1 => rfl); (case h2 => rfl))
    | ((with_reducible refine' W_callt ?h1 ?h2 ?_); (case h1 => rfl); (case h2 => rfl))
    | ((with_reducible refine' W_isinst ?h1 ?h3 ?h2 ?_); (case h1 => rfl); (case h3 => rfl); (case h2 => rfl))
    | ((with_reducible refine' W_callrev ?h1 ?h2 ?h3 ?_); (case h1 => rfl); (case h2 => rfl); (case h3 => rfl))
    | ((with_reducible refine' W_range ?h1 ?h2 ?_); (case h1 => rfl); (case h2 => rfl))
    | ((with_reducible refine' W_srccall ?h1 ?_); (case h1 => rfl))
    | ((with_reducible refine' W_src ?h1 ?_); (case h1 => rfl))
    | ((with_reducible refine' W_comp ?h1 ?h2 ?_); (case h1 => rfl); (case h2 => rfl))
    | (with_reducible refine' W_tests0 ?_)
    | (with_reducible refine' W_tests1 ?_)
    | (with_reducible refine' T_not ?_)
    | (with_reducible refine' T_boolop ?_)
    | (with_reducible refine' T_and0 ?_)
    | (with_reducible refine' T_or0 ?_)
    | (with_reducible refine' T_and ?_)
    | (with_reducible refine' T_or ?_)
    | ((with_reducible refine' T_cmp ?h1 ?_); (case h1 => rfl))
    | ((with_reducible refine' T_val ?h1 ?_); (case h1 => rfl)))
local macro_rules
  | `(tactic| walk_at "ln") => `(tactic| first | decide | ((try simp only [List.length_map, List.length_append, List.length_cons, List.length_nil, List.length_replicate, List.length_range, lim]); omega))
local macro_rules
  | `(tactic| walk_at "vl") => `(tactic| first
    | (with_reducible refine' B_add ?_)
    | (with_reducible refine' B_sub ?_)
    | ((with_reducible refine' B_mod ?hz ?_); (case hz => decide))
    | ((with_reducible refine' B_pow ?hz ?_); (case hz => decide))
    | (with_reducible refine' U_neg ?_)
    | (with_reducible refine' I_int ?_)
    | (with_reducible refine' A_add ?_)
    | (with_reducible refine' A_sub ?_)
    | (with_reducible refine' C_lt ?_)
    | (with_reducible refine' C_le ?_)
    | (with_reducible refine' C_gt ?_)
    | (with_reducible refine' C_ge ?_)
    | (with_reducible refine' C_eqL ?_)
    | (with_reducible refine' C_neL ?_)
    | ((with_reducible refine' P_neg1 ?hl ?_); (case hl => walk_at "ln"))
    | ((refine' Ty_list ?hl ?_); (case hl => walk_at "ln"))
    | (with_reducible refine' C_eqi ?_)
    | (with_reducible refine' C_nei ?_)
    | (with_reducible refine' C_isnot ?_)
    | (with_reducible refine' Ty_int ?_)
    | (with_reducible refine' Is_il ?_)
    | (with_reducible refine' Is_ii ?_)
    | (with_reducible refine' Is_bi ?_)
    | (with_reducible refine' V_tr ?_)
    | (with_reducible refine' V_tri ?_)
    | ((with_reducible refine' X_ints ?hl ?hj ?_); (case hl => walk_at "ln"); (case hj => walk_at "ln"))
    | ((with_reducible refine' R_nat ?hl ?_); (case hl => walk_at "ln"))
    | ((with_reducible refine' S_list ?hl ?_); (case hl => walk_at "ln"))
    | (refine' F_sum ?_)
    | ((refine' F_maxL ?hl ?_); (case hl => walk_at "ln"))
    | ((with_reducible refine' X_rf (d := .tuple _) ?hl ?_); (case hl => rfl))
    | ((with_reducible refine' X_int0 ?hl ?hj ?_); (case hl => walk_at "ln"); (case hj => walk_at "ln"))
    | ((with_reducible refine' O_own ?ho ?_); (case ho => refine' ownL_of ?ha ?hl; (case ha => walk_at "lk"); (case hl => walk_at "ln")))
    | ((with_reducible refine' P_pos ?hl ?_); (case hl => walk_at "ln"))
    | ((with_reducible refine' B_zeros ?hl ?hj ?_); (case hl => walk_at "ln"); (case hj => walk_at "ln"))
    | (refine' L_ok ?hl ?_; (case hl => exact Nat.le_of_ble_eq_true rfl))
    | ((with_reducible refine' C_t ?hl ?_); (case hl => with_unfolding_all rfl))
    | ((with_reducible refine' C_f ?hl ?_); (case hl => with_unfolding_all rfl))
    | (with_reducible refine' K_tt ?_)
    | (with_reducible refine' K_ff ?_)
    | (with_reducible refine' K_tf ?_)
    | (with_reducible refine' K_ft ?_)
    | (with_reducible refine' K_n1 ?_)
    | (with_reducible refine' K_n2 ?_)
    | ((refine' F_len ?hl ?_); (case hl => walk_at "ln"))
    | ((refine' F_lent ?hl ?_); (case hl => walk_at "ln"))
    | ((with_reducible refine' B_mul ?hm ?_); (case hm => first | exact mulB_small (.inl (by decide)) | exact mulB_small (.inr (by decide)) | exact mulB_small (.inl (by omega)) | exact mulB_small (.inr (by omega))))
    | ((with_reducible refine' B_dv ?hm ?hn ?_); (case hm => first | decide | omega); (case hn => first | decide | omega)))
local macro_rules
  | `(tactic| walk_at "w") => `(tactic| (repeat (first | walk_at "ex" | walk_at "ev" | walk_at "vl")))
local macro_rules
  | `(tactic| walk_at "ex") => `(tactic| first
    | ((with_reducible refine' X_st ?h1 ?_); (case h1 => rfl))
    | (with_reducible refine' Tx_n ?_))
local macro_rules
  | `(tactic| walk_at "vl") => `(tactic| first
    | ((with_reducible refine' X_rows ?hl ?hj ?_); (case hl => walk_at "ln"); (case hj => walk_at "ln"))
    | ((with_reducible refine' B_snoc ?hl ?_); (case hl => walk_at "ln"))
    | (with_reducible refine' F_abs ?_)
    | ((refine' F_minL ?hl ?_); (case hl => walk_at "ln"))
    | ((refine' F_rev ?hl ?_); (case hl => walk_at "ln"))
    | ((with_reducible refine' R_down ?hl ?hj ?_); (case hl => first | decide | omega); (case hj => first | decide | omega))
    | (with_reducible refine' C_eqb ?_)
    | (with_reducible refine' C_eqR ?_)
    | (with_reducible refine' C_neR ?_))
local macro_rules
  | `(tactic| walk_at "ln") => `(tactic| ((try simp only [List.length_map, List.length_append, List.length_cons, List.length_nil, List.length_replicate, List.length_range, List.length_reverse, sortI_len, lim]); omega))

section
variable {P : Params} {n : Nat}
def atI (zs : List Int) (k : Nat) (c : Int) : Int := if k < zs.length then zs.getD k 0 else 5 * k + c

theorem at_ok {zs : List Int} {k : Nat} (hz : zs.length ≤ 63) (hk : k < 100) : (It (Mine.hd.heap_39 P) (n + 20)).call "_law_at" [.list (zs.map .int), .int k] = .ok (.int (atI zs k 4)) := by
  refine W.val ?_
  refine W_call (binds := [("script", .list (zs.map .int)), ("place", .int k)]) rfl rfl rfl rfl rfl ?_
  dsimp only
  walk_at "w"
  refine K_d1 (fun hc => ?_) (fun hc => ?_)
  · rw [List.length_map] at hc
    walk_at "w"
    unfold atI; rw [if_pos (by omega)]
    walk_at "w"
    rfl
  · rw [List.length_map] at hc
    walk_at "w"
    unfold atI; rw [if_neg (by omega)]; rfl

theorem plain_ok {xs : List Int} {parts : Nat} (hz : xs.length ≤ 63) : (It (Mine.hd.heap_39 P) (n + 20)).call "_law_plain" [.list (xs.map .int), .int parts] = .ok (.bool (decide (xs.length = parts))) := by
  refine W.val ?_
  refine W_call (binds := [("answer", .list (xs.map .int)), ("parts", .int parts)]) rfl rfl rfl rfl rfl ?_
  dsimp only
  walk_at "w"
  refine K_d2 (fun hc => ?_) (fun hc => ?_)
  · walk_at "w"
    rw [List.length_map] at hc
    rw [decide_eq_false (by omega)]; rfl
  · walk_at "w"
    rw [List.length_map] at hc
    refine forL_inv (fun r _ => ∃ ys : List Int, r = ys.map .int) (fun ρ _ => ?_) (fun v r ρ h => ?_) _ _ ⟨xs, rfl⟩
    · walk_at "w"
      rw [decide_eq_true (by omega)]; rfl
    · obtain ⟨ys, h⟩ := h
      obtain ⟨y, ys, rfl⟩ : ∃ y zs, ys = y :: zs := by cases ys with | nil => cases h | cons y zs => exact ⟨y, zs, rfl⟩
      cases h
      walk_at "w"
      exact ⟨ys, rfl⟩
theorem apply_ok {vs : List D} : (It (Mine.hd.heap_39 P) (n + 20)).call "apply_threshold" [.list vs, .none] = .ok (.list vs) := by
  refine W.val ?_
  refine W_call (binds := [("votes", .list vs), ("threshold", .none)]) rfl rfl rfl rfl rfl ?_
  dsimp only
  walk_at "w"
  rfl

/-! the shares -/
def ext1 (t : Int) (row : List Int) : List (List Int) := (downs (t - row.sum)).map fun m => row ++ [m]
def rowsG (t : Int) : Nat → List (List Int)
  | 0 => [[]]
  | k + 1 => (rowsG t k).flatMap (ext1 t)
def sharesF (t : Int) (p : Nat) : List (List Int) := (rowsG t (p - 1)).map fun row => row ++ [t - row.sum]

theorem downs_mem {a m : Int} : m ∈ downs a ↔ 0 ≤ m ∧ m ≤ a := by
  unfold downs
  rw [List.mem_map]
  constructor
  · rintro ⟨i, hi, rfl⟩
    have := List.mem_range.mp hi
    omega
  · rintro ⟨h1, h2⟩
    exact ⟨(a - m).toNat, List.mem_range.mpr (by omega), by omega⟩
theorem rowsG_mem {t : Int} (ht : 0 ≤ t) : ∀ {k : Nat} {row : List Int}, row ∈ rowsG t k → row.length = k ∧ (∀ x ∈ row, 0 ≤ x) ∧ 0 ≤ row.sum ∧ row.sum ≤ t
  | 0, row, h => by
    have : row = [] := by simpa [rowsG] using h
    subst this
    exact ⟨rfl, by simp, by simp, by simpa using ht⟩
  | k + 1, row, h => by
    obtain ⟨r, hr, h⟩ := List.mem_flatMap.mp h
    obtain ⟨m, hm, rfl⟩ := List.mem_map.mp h
    obtain ⟨h1, h2, h3, h4⟩ := rowsG_mem ht hr
    have hm := downs_mem.mp hm
    refine ⟨by simp [h1], fun x hx => ?_, ?_, ?_⟩
    · rcases List.mem_append.mp hx with hx | hx
      · exact h2 x hx
      · have : x = m := by simpa using hx
        omega
    · simp; omega
    · simp; omega
theorem ext1_len {t : Int} {row : List Int} (h : 0 ≤ row.sum) (ht : 0 ≤ t) : (ext1 t row).length ≤ t.toNat + 1 := by
  unfold ext1 downs
  rw [List.length_map, List.length_map, List.length_range]; omega
theorem flat_len {t : Int} (ht : 0 ≤ t) : ∀ {l : List (List Int)}, (∀ r ∈ l, 0 ≤ r.sum) → (l.flatMap (ext1 t)).length ≤ l.length * (t.toNat + 1)
  | [], _ => by simp
  | r :: l, h => by
    rw [List.flatMap_cons, List.length_append, List.length_cons, Nat.succ_mul]
    have := ext1_len (h r List.mem_cons_self) ht
    have := flat_len ht (l := l) fun x hx => h x (List.mem_cons_of_mem _ hx)
    omega
theorem rowsG_len {t : Int} (ht : 0 ≤ t) : ∀ k, (rowsG t k).length ≤ (t.toNat + 1) ^ k
  | 0 => by simp [rowsG]
  | k + 1 => by
    have h1 := rowsG_len ht k
    have h2 := flat_len ht (l := rowsG t k) fun r hr => (rowsG_mem ht hr).2.2.1
    show ((rowsG t k).flatMap (ext1 t)).length ≤ _
    rw [Nat.pow_succ]
    exact Nat.le_trans h2 (Nat.mul_le_mul_right _ h1)
theorem pow_le {b k p : Nat} (h : k ≤ p) : (b + 1) ^ k ≤ (b + 1) ^ p := Nat.pow_le_pow_right (by omega) h

set_option maxHeartbeats 4000000 in
theorem shares_ok {S p : Nat} (hp1 : 1 ≤ p) (hp : p ≤ 4) (hS : S ≤ 1000) (hb : (S + 1) ^ (p - 1) ≤ 1000) : (It (Mine.hd.heap_39 P) (n + 40)).call "_law_shares" [.int S, .int p] = .ok (.list ((sharesF S p).map rowD)) := by
  obtain ⟨p, rfl⟩ : ∃ q, p = q + 1 := ⟨p - 1, by omega⟩
  rw [Nat.add_sub_cancel] at hb
  have hS0 : (0 : Int) ≤ S := by omega
  have hlen : ∀ k, k ≤ p → (rowsG S k).length ≤ 1000 := fun k hk => Nat.le_trans (rowsG_len hS0 k) (Nat.le_trans (pow_le hk) hb)
  refine W.val ?_
  refine W_call (binds := [("total", .int S), ("parts", .int ((p + 1 : Nat) : Int))]) rfl rfl rfl rfl rfl ?_
  dsimp only
  walk_at "w"
  rw [show (((p + 1 : Nat) : Int) - 1) = (p : Int) by omega]
  walk_at "w"
  refine forR_inv (fun j ρ => (∃ o, ρ "rows" = some (o, .list ((rowsG S j).map rowD))) ∧ ρ "total" = some (false, .int S) ∧ ρ "parts" = some (false, .int ((p + 1 : Nat) : Int))) (fun ρ hI => ?_) (fun j ρ hj hI => ?_) ⟨⟨true, by walk_at "lk"⟩, by walk_at "lk", by walk_at "lk"⟩
  · obtain ⟨⟨o, r1⟩, r2, r3⟩ := hI
    have hl := hlen p (Nat.le_refl _)
    cases o
    all_goals
      walk_at "w"
      refine M_enc (fun row => rowD (row ++ [S - row.sum])) (fun row hrow => ?_) ?_
      · have hr := (rowsG_mem hS0 hrow).1
        walk_at "w"
        rfl
      walk_at "w"
      unfold sharesF
      rw [List.map_map]; rfl
  · obtain ⟨⟨o, r1⟩, r2, r3⟩ := hI
    have hl := hlen j (by omega)
    have hl2 := hlen (j + 1) (by omega)
    walk_at "w"
    refine forM_inv (fun rest ρ => ∃ acc, ρ "longer" = some (true, .list (acc.map rowD)) ∧ acc ++ rest.flatMap (ext1 S) = rowsG S (j + 1) ∧ (∀ r ∈ rest, r ∈ rowsG S j) ∧ ρ "total" = some (false, .int S) ∧ ρ "parts" = some (false, .int ((p + 1 : Nat) : Int))) (fun ρ hI => ?_) (fun row rest ρ hI => ?_) ⟨[], by walk_at "lk", rfl, fun _ h => h, by walk_at "lk", by walk_at "lk"⟩
    · obtain ⟨acc, q1, q2, q3, q4, q5⟩ := hI
      rw [List.flatMap_nil, List.append_nil] at q2
      subst q2
      walk_at "w"
      exact ⟨⟨false, by walk_at "lk"⟩, by walk_at "lk", by walk_at "lk"⟩
    · obtain ⟨acc, q1, q2, q3, q4, q5⟩ := hI
      have hr := rowsG_mem hS0 (q3 row List.mem_cons_self)
      walk_at "w"
      refine forM_inv (fun ms ρ => ∃ acc, ρ "longer" = some (true, .list (acc.map rowD)) ∧ acc ++ ms.map (fun m => row ++ [m]) ++ rest.flatMap (ext1 S) = rowsG S (j + 1) ∧ ρ "row" = some (false, rowD row) ∧ ρ "total" = some (false, .int S) ∧ ρ "parts" = some (false, .int ((p + 1 : Nat) : Int))) (fun ρ hI => ?_) (fun m ms ρ hI => ?_) ⟨acc, by walk_at "lk", ?_, by walk_at "lk", by walk_at "lk", by walk_at "lk"⟩
      · obtain ⟨acc, q1, q2, q4, q5, q6⟩ := hI
        rw [List.map_nil, List.append_nil] at q2
        walk_at "w"
        exact ⟨acc, by walk_at "lk", q2, fun r h => q3 r (List.mem_cons_of_mem _ h), by walk_at "lk", by walk_at "lk"⟩
      · obtain ⟨acc, q1, q2, q4, q5, q6⟩ := hI
        have hla : acc.length ≤ 1000 := by have := congrArg List.length q2; rw [List.length_append, List.length_append] at this; omega
        walk_at "w"
        refine ⟨acc ++ [row ++ [m]], ?_, by rw [← q2]; simp, by walk_at "lk", by walk_at "lk", by walk_at "lk"⟩
        rw [List.map_append (f := rowD)]; walk_at "lk"
      · rw [← q2, List.flatMap_cons, ← List.append_assoc]; rfl
end
end Mine

/-! T05b -/
namespace Mine
local macro_rules
  | `(tactic| walk_at "lk1") => `(tactic| first | with_reducible assumption | with_reducible exact lk_self | ((with_reducible refine' lk_upd ?hne ?_); (case hne => decide)) | ((with_reducible refine' lk_comp ?hne ?_); (case hne => rfl)) | ((with_reducible refine' lk_frz0 ?hne ?_); (case hne => rfl)) | ((with_reducible apply lk_frz1); (case h => rfl)))
local macro_rules
  | `(tactic| walk_at "lk") => `(tactic| ((repeat walk_at "lk1"); (try rfl)))
local macro_rules
  | `(tactic| walk_at "ex") => `(tactic| first
    | (with_reducible refine' W_nil ?_)
    | (with_reducible refine' W_cons ?_)
    | (with_reducible refine' Nx_n ?_)
    | (with_reducible refine' Nx_s ?_)
    | (with_reducible refine' W_pass ?_)
    | ((with_reducible refine' W_assign0 (fr := false) ?h1 ?h2 ?h3 ?_); (case h1 => rfl); (case h2 => rfl); (case h3 => rfl))
    | ((with_reducible refine' W_assign0 (fr := true) ?h1 ?h2 ?h3 ?_); (case h1 => rfl); (case h2 => rfl); (case h3 => rfl))
    | ((with_reducible refine' W_assign (fr := false) ?h1 ?h3 ?_); (case h1 => rfl); (case h3 => rfl))
    | ((with_reducible refine' W_assign (fr := true) ?h1 ?h3 ?_); (case h1 => rfl); (case h3 => rfl))
    | ((with_reducible refine' W_setsub ?h1 ?_); (case h1 => rfl))
    | ((with_reducible refine' W_aug ?h1 ?h2 ?_); (case h1 => rfl); (case h2 => walk_at "lk"))
    | ((with_reducible refine' W_augsub ?h1 ?h2 ?_); (case h1 => rfl); (case h2 => refine' ownL_of ?ho ?hl; (case ho => walk_at "lk"); (case hl => walk_at "ln")))
    | ((with_reducible refine' W_append0 ?h1 ?h2 ?h3 ?_); (case h1 => rfl); (case h2 => refine' ownL_of ?ho ?hl; (case ho => walk_at "lk"); (case hl => walk_at "ln")); (case h3 => rfl))
    | ((with_reducible refine' W_append ?h1 ?h2 ?h3 ?_); (case h1 => rfl); (case h2 => refine' ownL_of ?ho ?hl; (case ho => walk_at "lk"); (case hl => walk_at "ln")); (case h3 => refine' ownL_of ?ho ?hl; (case ho => walk_at "lk"); (case hl => walk_at "ln")))
    | (with_reducible refine' W_if ?_)
    | (with_reducible refine' W_ret ?_)
    | ((with_reducible refine' W_for0 ?h1 ?h2 ?h3 ?_); (case h1 => rfl); (case h2 => rfl); (case h3 => rfl))
    | ((with_reducible refine' W_for ?h1 ?h2 ?_); (case h1 => rfl); (case h2 => rfl))
    | (with_reducible refine' W_while ?_))
local macro_rules
  | `(tactic| walk_at "ev") => `(tactic| first
    | ((with_reducible refine' W_const ?h1 ?_); (case h1 => rfl))
    | ((with_reducible refine' W_name ?h1 ?h2 ?h3 ?h4 ?_); (case h1 => rfl); (case h2 => rfl); (case h3 => walk_at "lk"); (case h4 => rfl))
    | ((with_reducible refine' W_gname ?h1 ?h2 ?_); (case h1 => rfl); (case h2 => rfl))
    | (with_reducible refine' W_bin ?_)
    | (with_reducible refine' W_un ?_)
    | (with_reducible refine' W_boolop ?_)
    | (with_reducible refine' W_bool1 ?_)
    | (with_reducible refine' W_booland ?_)
    | ((with_reducible refine' W_cmp ?h1 ?_); (case h1 => rfl))
    | (with_reducible refine' W_ifexp ?_)
    | (with_reducible refine' W_list ?_)
    | (with_reducible refine' W_tuple ?_)
    | ((with_reducible refine' W_sub ?h1 ?_); (case h1 => rfl))
    | (with_reducible refine' W_evs0 ?_)
    | ((with_reducible refine' W_evs1 ?h1 ?_); (case h1 => rfl))
    | ((with_reducible refine' W_callf ?h1 ?h2 ?_); (case h1 => rfl); (case h2 => rfl))
    | ((with_reducible refine' W_callb ?h1 ?h2 ?_); (case h1 => rfl); (case h2 => rfl))
    | ((with_reducible refine' W_callt ?h1 ?h2 ?_); (case h1 => rfl); (case h2 => rfl))
    | ((with_reducible refine' W_isinst ?h1 ?h3 ?h2 ?_); (case h1 => rfl); (case h3 => rfl); (case h2 => rfl))
    | ((with_reducible refine' W_callrev ?h1 ?h2 ?h3 ?_); (case h1 => rfl); (case h2 => rfl); (case h3 => rfl))
    | ((with_reducible refine' W_range ?h1 ?h2 ?_); (case h1 => rfl); (case h2 => rfl))
    | ((with_reducible refine' W_srccall ?h1 ?_); (case h1 => rfl))
    | ((with_reducible refine' W_src ?h1 ?_); (case h1 => rfl))
    | ((with_reducible refine' W_comp ?h1 ?h2 ?_); (case h1 => rfl); (case h2 => rfl))
    | (with_reducible refine' W_tests0 ?_)
    | (with_reducible refine' W_tests1 ?_)
    | (with_reducible refine' T_not ?_)
    | (with_reducible refine' T_boolop ?_)
    | (with_reducible refine' T_and0 ?_)
    | (with_reducible refine' T_or0 ?_)
    | (with_reducible refine' T_and ?_)
    | (with_reducible refine' T_or ?_)
    | ((with_reducible refine' T_cmp ?h1 ?_); (case h1 => rfl))
    | ((with_reducible refine' T_val ?h1 ?_); (case h1 => rfl)))
local macro_rules
  | `(tactic| walk_at "ln") => `(tactic| first | decide | ((try simp only [List.length_map, List.length_append, List.length_cons, List.length_nil, List.length_replicate, List.length_range, lim]); omega))
local macro_rules
  | `(tactic| walk_at "vl") => `(tactic| first
    | (with_reducible refine' B_add ?_)
    | (with_reducible refine' B_sub ?_)
    | ((with_reducible refine' B_mod ?hz ?_); (case hz => decide))
    | ((with_reducible refine' B_pow ?hz ?_); (case hz => decide))
    | (with_reducible refine' U_neg ?_)
    | (with_reducible refine' I_int ?_)
    | (with_reducible refine' A_add ?_)
    | (with_reducible refine' A_sub ?_)
    | (with_reducible refine' C_lt ?_)
    | (with_reducible refine' C_le ?_)
    | (with_reducible refine' C_gt ?_)
    | (with_reducible refine' C_ge ?_)
    | (with_reducible refine' C_eqL ?_)
    | (with_reducible refine' C_neL ?_)
    | ((with_reducible refine' P_neg1 ?hl ?_); (case hl => walk_at "ln"))
    | ((refine' Ty_list ?hl ?_); (case hl => walk_at "ln"))
    | (with_reducible refine' C_eqi ?_)
    | (with_reducible refine' C_nei ?_)
    | (with_reducible refine' C_isnot ?_)
    | (with_reducible refine' Ty_int ?_)
    | (with_reducible refine' Is_il ?_)
    | (with_reducible refine' Is_ii ?_)
    | (with_reducible refine' Is_bi ?_)
    | (with_reducible refine' V_tr ?_)
    | (with_reducible refine' V_tri ?_)
    | ((with_reducible refine' X_ints ?hl ?hj ?_); (case hl => walk_at "ln"); (case hj => walk_at "ln"))
    | ((with_reducible refine' R_nat ?hl ?_); (case hl => walk_at "ln"))
    | ((with_reducible refine' S_list ?hl ?_); (case hl => walk_at "ln"))
    | (refine' F_sum ?_)
    | ((refine' F_maxL ?hl ?_); (case hl => walk_at "ln"))
    | ((with_reducible refine' X_rf (d := .tuple _) ?hl ?_); (case hl => rfl))
    | ((with_reducible refine' X_int0 ?hl ?hj ?_); (case hl => walk_at "ln"); (case hj => walk_at "ln"))
    | ((with_reducible refine' O_own ?ho ?_); (case ho => refine' ownL_of ?ha ?hl; (case ha => walk_at "lk"); (case hl => walk_at "ln")))
    | ((with_reducible refine' P_pos ?hl ?_); (case hl => walk_at "ln"))
    | ((with_reducible refine' B_zeros ?hl ?hj ?_); (case hl => walk_at "ln"); (case hj => walk_at "ln"))
    | (refine' L_ok ?hl ?_; (case hl => exact Nat.le_of_ble_eq_true rfl))
    | ((with_reducible refine' C_t ?hl ?_); (case hl => with_unfolding_all rfl))
    | ((with_reducible refine' C_f ?hl ?_); (case hl => with_unfolding_all rfl))
    | (with_reducible refine' K_tt ?_)
    | (with_reducible refine' K_ff ?_)
    | (with_reducible refine' K_tf ?_)
    | (with_reducible refine' K_ft ?_)
    | (with_reducible refine' K_n1 ?_)
    | (with_reducible refine' K_n2 ?_)
    | ((refine' F_len ?hl ?_); (case hl => walk_at "ln"))
    | ((refine' F_lent ?hl ?_); (case hl => walk_at "ln"))
    | ((with_reducible refine' B_mul ?hm ?_); (case hm => first | exact mulB_small (.inl (by decide)) | exact mulB_small (.inr (by decide)) | exact mulB_small (.inl (by omega)) | exact mulB_small (.inr (by omega))))
    | ((with_reducible refine' B_dv ?hm ?hn ?_); (case hm => first | decide | omega); (case hn => first | decide | omega)))
local macro_rules
  | `(tactic| walk_at "w") => `(tactic| (repeat (first | walk_at "ex" | walk_at "ev" | walk_at "vl")))
local macro_rules
  | `(tactic| walk_at "ex") => `(tactic| first
    | ((with_reducible refine' X_st ?h1 ?_); (case h1 => rfl))
    | (with_reducible refine' Tx_n ?_))
local macro_rules
  | `(tactic| walk_at "vl") => `(tactic| first
    | ((with_reducible refine' X_rows ?hl ?hj ?_); (case hl => walk_at "ln"); (case hj => walk_at "ln"))
    | ((with_reducible refine' B_snoc ?hl ?_); (case hl => walk_at "ln"))
    | (with_reducible refine' F_abs ?_)
    | ((refine' F_minL ?hl ?_); (case hl => walk_at "ln"))
    | ((refine' F_rev ?hl ?_); (case hl => walk_at "ln"))
    | ((with_reducible refine' R_down ?hl ?hj ?_); (case hl => first | decide | omega); (case hj => first | decide | omega))
    | (with_reducible refine' C_eqb ?_)
    | (with_reducible refine' C_eqR ?_)
    | (with_reducible refine' C_neR ?_))
local macro_rules
  | `(tactic| walk_at "ln") => `(tactic| ((try simp only [List.length_map, List.length_append, List.length_cons, List.length_nil, List.length_replicate, List.length_range, List.length_reverse, sortI_len, lim]); omega))

section
variable {P : Params} {n : Nat}

theorem getE {β : Type} {enc : β → D} {xs : List β} (dflt : β) {j : Nat} (h : j < xs.length) : (xs.map enc)[j]? = some (enc (xs.getD j dflt)) := by
  rw [List.getElem?_map, List.getElem?_eq_getElem h, List.getD_eq_getElem?_getD, List.getElem?_eq_getElem h]; rfl
theorem X_enc {β : Type} {enc : β → D} {xs : List β} (dflt : β) {j : Nat} {Q : D → Prop} (h1 : xs.length ≤ lim) (h2 : j < xs.length) (h : Q (enc (xs.getD j dflt))) : W (idxD (.list (xs.map enc)) (j : Int)) Q :=
  X_list (by rw [List.length_map]; exact h1) (getE dflt h2) h
theorem getD_all {a : List Int} {Pr : Int → Prop} (h : ∀ x ∈ a, Pr x) (h0 : Pr 0) (i : Nat) : Pr (a.getD i 0) := by
  rw [List.getD_eq_getElem?_getD]
  by_cases hi : i < a.length
  · rw [List.getElem?_eq_getElem hi]; exact h _ (List.getElem_mem hi)
  · rw [List.getElem?_eq_none (by omega)]; exact h0

/-! the errors -/
def errF (votes : List Int) (S : Int) (row : List Int) : List Int := (List.range votes.length).map fun i => row.getD i 0 * votes.sum - S * votes.getD i 0
def scanS : Int → List Int → List Int
  | _, [] => []
  | a, e :: r => (a + e) :: scanS (a + e) r
def sumsF (votes : List Int) (S : Int) (row : List Int) : List Int := scanS 0 (sortI (errF votes S row)).reverse
theorem scanS_len : ∀ {l : List Int} {a : Int}, (scanS a l).length = l.length
  | [], _ => rfl
  | e :: r, a => by unfold scanS; simp [scanS_len]

set_option maxHeartbeats 4000000 in
theorem errors_ok {votes row : List Int} {S : Nat} (h1 : 1 ≤ votes.length) (h4 : votes.length ≤ 4) (hS : S ≤ 1000) (hr : row.length = votes.length) (hrow : ∀ x ∈ row, 0 ≤ x ∧ x ≤ 1000) :
    (It (Mine.hd.heap_39 P) (n + 40)).call "_law_errors" [.list (votes.map .int), .int S, .list (row.map .int)] = .ok (.list ((sumsF votes S row).map .int)) := by
  refine W.val ?_
  refine W_call (binds := [("votes", .list (votes.map .int)), ("seats", .int S), ("row", .list (row.map .int))]) rfl rfl rfl rfl rfl ?_
  dsimp only
  walk_at "w"
  rw [List.length_map]
  walk_at "w"
  refine M_range (fun i => row.getD i 0 * votes.sum - S * votes.getD i 0) (fun i hi => ?_) ?_
  · have h3 := getD_all hrow (by omega) i
    walk_at "w"
    rfl
  walk_at "w"
  refine forM_inv (fun rest ρ => ∃ acc far, ρ "sums" = some (true, .list (acc.map .int)) ∧ ρ "far" = some (false, .int far) ∧ acc ++ scanS far rest = sumsF votes S row ∧ acc.length + rest.length ≤ 10) (fun ρ hI => ?_) (fun e rest ρ hI => ?_) ⟨[], 0, ?_, ?_, rfl, ?_⟩
  · obtain ⟨acc, far, q1, q2, q3, q4⟩ := hI
    rw [show scanS far [] = [] from rfl, List.append_nil] at q3
    subst q3
    walk_at "w"
    rfl
  · obtain ⟨acc, far, q1, q2, q3, q4⟩ := hI
    rw [List.length_cons] at q4
    walk_at "w"
    refine ⟨acc ++ [far + e], far + e, ?_, by walk_at "lk", ?_, ?_⟩
    · rw [List.map_append (f := PyData.int)]; walk_at "lk"
    · rw [← q3]; show _ = acc ++ (far + e) :: scanS (far + e) rest; simp
    · rw [List.length_append]; show acc.length + 1 + _ ≤ _; omega
  · walk_at "lk"
  · walk_at "lk"
  · rw [List.length_nil, List.length_reverse, sortI_len, List.length_map, List.length_range]; omega

theorem sum_set : ∀ {a : List Int} {j : Nat}, j < a.length → (a.set j (a.getD j 0 + 1)).sum = a.sum + 1
  | x :: r, 0, _ => by simp; omega
  | x :: r, j + 1, h => by
    have := sum_set (a := r) (j := j) (by simpa using h)
    simp only [List.set_cons_succ, List.sum_cons, List.getD_cons_succ]
    omega
/-! largest remainders -/
abbrev quoD (S V : Int) (v : Int) : D := .tuple [.int (v * S), .int V]
def repF (votes : List Int) (S : Int) : List Int := votes.map fun v => (v * S).fdiv votes.sum
def remF (votes : List Int) (S : Int) : List Int := (List.range votes.length).map fun i => votes.getD i 0 * S - (repF votes S).getD i 0 * votes.sum
def cutF (votes : List Int) (S : Int) : Int := (sortI (remF votes S)).getD (votes.length - (S - (repF votes S).sum).toNat) 0
def lrStep (S c : Int) (rem : List Int) (i : Nat) (st : List Int × Bool) : List Int × Bool :=
  if st.1.sum = S ∧ c ≤ rem.getD i 0 then (st.1, true) else
  if st.1.sum < S ∧ c ≤ rem.getD i 0 then (st.1.set i (st.1.getD i 0 + 1), st.2) else st
def lrLoop (S c : Int) (rem : List Int) (rep : List Int) : Nat → List Int × Bool
  | 0 => (rep, false)
  | j + 1 => lrStep S c rem j (lrLoop S c rem rep j)
def lrF (votes : List Int) (S : Int) : List Int × Bool :=
  if (repF votes S).sum < S then lrLoop S (cutF votes S) (remF votes S) (repF votes S) votes.length else (repF votes S, false)
theorem lrLoop_len {S c : Int} {rem rep : List Int} : ∀ j, (lrLoop S c rem rep j).1.length = rep.length
  | 0 => rfl
  | j + 1 => by
    have ih := lrLoop_len (S := S) (c := c) (rem := rem) (rep := rep) j
    unfold lrLoop lrStep
    split
    · exact ih
    · split
      · simp [ih]
      · exact ih

theorem lrLoop_sum {S c : Int} {rem rep : List Int} : ∀ j, (lrLoop S c rem rep j).1.sum ≤ max S rep.sum
  | 0 => by show rep.sum ≤ _; omega
  | j + 1 => by
    have ih := lrLoop_sum (S := S) (c := c) (rem := rem) (rep := rep) j
    unfold lrLoop lrStep
    split
    · exact ih
    · split
      · rename_i h
        by_cases hj : j < (lrLoop S c rem rep j).1.length
        · have e := sum_set hj
          refine Int.le_trans (Int.le_of_eq e) ?_
          omega
        · rw [List.set_eq_of_length_le (by omega)]; exact ih
      · exact ih

theorem exs_app {f : Rho → Stmt → Out (Rho × Option D)} {Q : Rho × Option D → Prop} : ∀ {b1 b2 : List Stmt} {ρ : Rho}, W (exsL f b1 ρ) (fun p => p.2 = none ∧ W (exsL f b2 p.1) Q) → W (exsL f (b1 ++ b2) ρ) Q
  | [], b2, ρ, h => by
    obtain ⟨p, e, h1, h2⟩ := h
    cases e
    exact h2
  | s :: b1, b2, ρ, h => by
    obtain ⟨p, e, h1, h2⟩ := h
    obtain ⟨⟨ρ1, d⟩, e1, e2⟩ := Out.bind_ok e
    cases d with
    | none =>
      obtain ⟨q, e3, h3⟩ := exs_app (b1 := b1) (b2 := b2) (ρ := ρ1) (f := f) (Q := Q) ⟨p, e2, h1, h2⟩
      refine ⟨q, ?_, h3⟩
      show (f ρ s).bind _ = _
      rw [e1]; exact e3
    | some d => cases e2; cases h1

set_option maxHeartbeats 8000000 in
theorem lr_mid {votes : List Int} {S : Nat} {bt : Bool} (hv : ∀ v ∈ votes, 0 ≤ v ∧ v < 10 ^ 40) (h1 : 1 ≤ votes.length) (h4 : votes.length ≤ 4) (hV : 0 < votes.sum) (hV2 : votes.sum < 10 ^ 41) (hS0 : 1 ≤ S) (hS : S ≤ 1000) (hm : (repF votes S).sum < S → (S : Int) - (repF votes S).sum ≤ votes.length)
    (hrep : ∀ x ∈ repF votes S, 0 ≤ x ∧ x ≤ 1000) {fd : FuncData} {s1 s2 s3 s4 s5 : Stmt} {rest : List Stmt} (hf : fdOf (Mine.hd.heap_39 P) "largest_remainder" = some fd) (hb : fd.body = .stmts (s1 :: s2 :: s3 :: s4 :: s5 :: rest)) {ρ : Rho}
    (r1 : ρ "votes" = some (false, .list (votes.map .int))) (r2 : ρ "seats" = some (false, .int S)) (r3 : ρ "tiesallowed" = some (false, .bool bt)) (r4 : ρ "quotas" = some (true, .list (votes.map (quoD S votes.sum)))) (r5 : ρ "representatives" = some (true, .list ((repF votes S).map .int))) (r6 : ρ "ties" = some (false, .bool false)) :
    W ((It (Mine.hd.heap_39 P) (n + 30)).ex fd.scope ρ s5) (fun p => p.2 = none ∧ p.1 "tiesallowed" = some (false, .bool bt) ∧ p.1 "representatives" = some (true, .list ((lrF votes S).1.map .int)) ∧ p.1 "ties" = some (false, .bool (lrF votes S).2)) := by
  cases hf
  cases hb
  dsimp only
  have hl : (repF votes S).length = votes.length := by simp [repF]
  have hge := fun i => getD_all hrep (by omega) i
  walk_at "w"
  refine K_d1 (fun hc => ?_) (fun hc => ?_)
  · have hm := hm hc
    have hF : lrF votes S = lrLoop S (cutF votes S) (remF votes S) (repF votes S) votes.length := by unfold lrF; rw [if_pos hc]
    walk_at "w"
    rw [List.length_map]
    walk_at "w"
    refine M_range (fun i => votes.getD i 0 * S - (repF votes S).getD i 0 * votes.sum) (fun i hi => ?_) ?_
    · have h3 := hge i
      walk_at "w"
      refine X_enc (enc := quoD S votes.sum) 0 (by unfold lim; omega) hi ?_
      walk_at "w"
      refine X_enc (enc := quoD S votes.sum) 0 (by unfold lim; omega) hi ?_
      walk_at "w"
      rfl
    have hrl : (remF votes S).length = votes.length := by simp [remF]
    walk_at "w"
    refine F_sorted (by rw [List.length_map, List.length_range]; omega) ?_
    walk_at "w"
    refine X_intsN (k := (S - (repF votes S).sum).toNat) (by omega) (by rw [sortI_len, List.length_map, List.length_range]; unfold lim; omega) (by omega) (by rw [sortI_len, List.length_map, List.length_range]; omega) ?_
    rw [show (sortI ((List.range votes.length).map fun i => votes.getD i 0 * S - (repF votes S).getD i 0 * votes.sum)).getD _ 0 = cutF votes S by unfold cutF; rw [sortI_len, List.length_map, List.length_range]; rfl]
    walk_at "w"
    rw [List.length_map]
    walk_at "w"
    refine forR_inv (fun j ρ => ρ "seats" = some (false, .int S) ∧ ρ "tiesallowed" = some (false, .bool bt) ∧ ρ "remainders" = some (true, .list ((remF votes S).map .int)) ∧ ρ "cutoff" = some (false, .int (cutF votes S)) ∧ ρ "representatives" = some (true, .list ((lrLoop S (cutF votes S) (remF votes S) (repF votes S) j).1.map .int)) ∧ ρ "ties" = some (false, .bool (lrLoop S (cutF votes S) (remF votes S) (repF votes S) j).2)) (fun ρ hI => ?_) (fun j ρ hj hI => ?_) ⟨?_, ?_, ?_, ?_, ?_, ?_⟩
    · obtain ⟨q1, q2, q3, q4, q5, q6⟩ := hI
      rw [hF]
      walk_at "w"
      exact ⟨rfl, q2, q5, q6⟩
    · obtain ⟨q1, q2, q3, q4, q5, q6⟩ := hI
      have hlen := lrLoop_len (S := S) (c := cutF votes S) (rem := remF votes S) (rep := repF votes S) j
      have hst : lrLoop S (cutF votes S) (remF votes S) (repF votes S) (j + 1) = lrStep S (cutF votes S) (remF votes S) j (lrLoop S (cutF votes S) (remF votes S) (repF votes S) j) := rfl
      rw [hst]
      generalize lrLoop S (cutF votes S) (remF votes S) (repF votes S) j = st at *
      obtain ⟨a, t⟩ := st
      dsimp only at q5 q6 hlen ⊢
      unfold lrStep
      dsimp only
      have fin : ∀ {a' : List Int} {t' : Bool} {ρ' : Rho}, (a', t') = (if a.sum = (S : Int) ∧ cutF votes S ≤ (remF votes S).getD j 0 then (a, true) else if a.sum < (S : Int) ∧ cutF votes S ≤ (remF votes S).getD j 0 then (a.set j (a.getD j 0 + 1), t) else (a, t)) → ρ' "seats" = some (false, .int S) → ρ' "tiesallowed" = some (false, .bool bt) → ρ' "remainders" = some (true, .list ((remF votes S).map .int)) → ρ' "cutoff" = some (false, .int (cutF votes S)) → ρ' "representatives" = some (true, .list (a'.map .int)) → ρ' "ties" = some (false, .bool t') →
          ρ' "seats" = some (false, .int S) ∧ ρ' "tiesallowed" = some (false, .bool bt) ∧ ρ' "remainders" = some (true, .list ((remF votes S).map .int)) ∧ ρ' "cutoff" = some (false, .int (cutF votes S)) ∧ ρ' "representatives" = some (true, .list ((if a.sum = (S : Int) ∧ cutF votes S ≤ (remF votes S).getD j 0 then (a, true) else if a.sum < (S : Int) ∧ cutF votes S ≤ (remF votes S).getD j 0 then (a.set j (a.getD j 0 + 1), t) else (a, t)).1.map .int)) ∧ ρ' "ties" = some (false, .bool (if a.sum = (S : Int) ∧ cutF votes S ≤ (remF votes S).getD j 0 then (a, true) else if a.sum < (S : Int) ∧ cutF votes S ≤ (remF votes S).getD j 0 then (a.set j (a.getD j 0 + 1), t) else (a, t)).2) := fun e h1 h2 h3 h4 h5 h6 => by
        rw [← e]; exact ⟨h1, h2, h3, h4, h5, h6⟩
      walk_at "w"
      refine K_d2 (fun c1 => ?_) (fun c1 => ?_)
      · walk_at "w"
        refine K_d2 (fun c2 => ?_) (fun c2 => ?_)
        · walk_at "w"
          refine K_d2 (fun c2' => ?_) (fun c2' => by omega)
          walk_at "w"
          refine fin (by rw [if_neg (by omega), if_neg (by omega)]) ?_ ?_ ?_ ?_ ?_ ?_ <;> walk_at "lk"
        · walk_at "w"
          refine K_d2 (fun c3 => ?_) (fun c3 => ?_)
          · walk_at "w"
            refine K_d2 (fun c4 => by omega) (fun _ => ?_)
            walk_at "w"
            refine K_d2 (fun c5 => ?_) (fun c5 => ?_)
            · walk_at "w"
              refine fin (by rw [if_neg (by omega), if_neg (by omega)]) ?_ ?_ ?_ ?_ ?_ ?_ <;> walk_at "lk"
            · walk_at "w"
              refine fin (by rw [if_neg (by omega), if_pos (by omega)]) ?_ ?_ ?_ ?_ (by rw [← set_ints]; walk_at "lk") ?_ <;> walk_at "lk"
          · walk_at "w"
            refine fin (by rw [if_neg (by omega), if_pos (by omega)]) ?_ ?_ ?_ ?_ (by rw [← set_ints]; walk_at "lk") ?_ <;> walk_at "lk"
      · walk_at "w"
        refine K_d2 (fun c2 => ?_) (fun c2 => ?_)
        · walk_at "w"
          refine K_d2 (fun c3 => ?_) (fun c3 => by omega)
          walk_at "w"
          refine K_d2 (fun c4 => ?_) (fun c4 => by omega)
          walk_at "w"
          refine fin (by rw [if_neg (by omega), if_neg (by omega)]) ?_ ?_ ?_ ?_ ?_ ?_ <;> walk_at "lk"
        · walk_at "w"
          cases t
          · walk_at "w"
            refine fin (by rw [if_pos (by omega)]) ?_ ?_ ?_ ?_ ?_ ?_ <;> walk_at "lk"
          · walk_at "w"
            refine fin (by rw [if_pos (by omega)]) ?_ ?_ ?_ ?_ ?_ ?_ <;> walk_at "lk"
    all_goals (walk_at "lk")
    all_goals (first | exact r5 | exact r6)
  · have hF : lrF votes S = (repF votes S, false) := by unfold lrF; rw [if_neg hc]
    rw [hF]
    walk_at "w"
    exact ⟨rfl, r3, r5, r6⟩

set_option maxHeartbeats 8000000 in
theorem lr_ok {votes : List Int} {S : Nat} {bt : Bool} (hv : ∀ v ∈ votes, 0 ≤ v ∧ v < 10 ^ 40) (h1 : 1 ≤ votes.length) (h4 : votes.length ≤ 4) (hV : 0 < votes.sum) (hV2 : votes.sum < 10 ^ 41) (hS0 : 1 ≤ S) (hS : S ≤ 1000) (hm : (repF votes S).sum < S → (S : Int) - (repF votes S).sum ≤ votes.length)
    (hrep : ∀ x ∈ repF votes S, 0 ≤ x ∧ x ≤ 1000) {fd : FuncData} {b : List Stmt} (hf : fdOf (Mine.hd.heap_39 P) "largest_remainder" = some fd) (hb : fd.body = .stmts b) (hd : (lrF votes S).2 = false ∨ bt = true) :
    W (exsL ((It (Mine.hd.heap_39 P) (n + 40)).ex fd.scope) b (rhoOf [("votes", .list (votes.map .int)), ("seats", .int S), ("tiesallowed", .bool bt)])) (fun p => p.2.getD .none = .list ((lrF votes S).1.map .int)) := by
    cases hf
    cases hb
    dsimp only
    refine exs_app (b1 := [_, _, _, _]) (b2 := _ :: _) ?_
    walk_at "w"
    refine K_d1 (fun hc => by omega) (fun hc => ?_)
    walk_at "w"
    walk_at "w"
    refine M_enc (quoD S votes.sum) (fun v hv' => ?_) ?_
    · walk_at "w"
      rfl
    walk_at "w"
    walk_at "w"
    refine M_enc (enc := quoD S votes.sum) (fun (v : Int) => .int ((v * (S : Int)).fdiv votes.sum)) (fun v hv' => ?_) ?_
    · walk_at "w"
      rfl
    rw [show votes.map (fun v => PyData.int ((v * (S : Int)).fdiv votes.sum)) = (repF votes S).map .int by unfold repF; rw [List.map_map]; rfl]
    walk_at "w"
    walk_at "w"
    refine ⟨rfl, ?_⟩
    refine W_cons ?_
    refine W.mono (lr_mid (bt := bt) hv h1 h4 hV hV2 hS0 hS hm hrep rfl rfl ?_ ?_ ?_ ?_ ?_ ?_) ?_
    rotate_left 6
    · rintro ⟨ρ', dd⟩ ⟨e, q1, q2, q3⟩
      cases e
      walk_at "w"
      generalize (lrF votes S).2 = t at *
      cases t
      · walk_at "w"
        rfl
      · rcases hd with hd | hd
        · cases hd
        · subst hd
          walk_at "w"
          rfl
    all_goals (walk_at "lk")

set_option maxHeartbeats 8000000 in
theorem lr_tie {votes : List Int} {S : Nat} (hv : ∀ v ∈ votes, 0 ≤ v ∧ v < 10 ^ 40) (h1 : 1 ≤ votes.length) (h4 : votes.length ≤ 4) (hV : 0 < votes.sum) (hV2 : votes.sum < 10 ^ 41) (hS0 : 1 ≤ S) (hS : S ≤ 1000) (hm : (repF votes S).sum < S → (S : Int) - (repF votes S).sum ≤ votes.length)
    (hrep : ∀ x ∈ repF votes S, 0 ≤ x ∧ x ≤ 1000) (hd : (lrF votes S).2 = true) :
    (Jt (Mine.hd.heap_39 P) (n + 41)).tc "largest_remainder" [.list (votes.map .int), .int S, .bool false] = true := by
    refine TC_call (binds := [("votes", .list (votes.map .int)), ("seats", .int S), ("tiesallowed", .bool false)]) rfl rfl rfl rfl rfl ?_
    dsimp only
    refine TX_on ?_
    walk_at "w"
    refine K_d1 (fun hc => by omega) (fun hc => ?_)
    walk_at "w"
    refine TX_on ?_
    walk_at "w"
    refine M_enc (quoD S votes.sum) (fun v hv' => ?_) ?_
    · walk_at "w"
      rfl
    walk_at "w"
    refine TX_on ?_
    walk_at "w"
    refine M_enc (enc := quoD S votes.sum) (fun (v : Int) => .int ((v * (S : Int)).fdiv votes.sum)) (fun v hv' => ?_) ?_
    · walk_at "w"
      rfl
    rw [show votes.map (fun v => PyData.int ((v * (S : Int)).fdiv votes.sum)) = (repF votes S).map .int by unfold repF; rw [List.map_map]; rfl]
    walk_at "w"
    refine TX_on ?_
    walk_at "w"
    refine TX_on ?_
    refine W.mono (lr_mid (bt := false) hv h1 h4 hV hV2 hS0 hS hm hrep rfl rfl ?_ ?_ ?_ ?_ ?_ ?_) ?_
    rotate_left 6
    · rintro ⟨ρ', dd⟩ ⟨e, q1, q2, q3⟩
      cases e
      walk_at "w"
      rw [hd] at q3
      refine TX_here (TX_if ?_)
      walk_at "w"
      exact TX_here (TX_raise rfl)
    all_goals (walk_at "lk")
end
end Mine

/-! T05c -/
namespace Mine
local macro_rules
  | `(tactic| walk_at "lk1") => `(tactic| first | with_reducible assumption | with_reducible exact lk_self | ((with_reducible refine' lk_upd ?hne ?_); (case hne => decide)) | ((with_reducible refine' lk_comp ?hne ?_); (case hne => rfl)) | ((with_reducible refine' lk_frz0 ?hne ?_); (case hne => rfl)) | ((with_reducible apply lk_frz1); (case h => rfl)))
local macro_rules
  | `(tactic| walk_at "lk") => `(tactic| ((repeat walk_at "lk1"); (try rfl)))
local macro_rules
  | `(tactic| walk_at "ex") => `(tactic| first
    | (with_reducible refine' W_nil ?_)
    | (with_reducible refine' W_cons ?_)
    | (with_reducible refine' Nx_n ?_)
    | (with_reducible refine' Nx_s ?_)
    | (with_reducible refine' W_pass ?_)
    | ((with_reducible refine' W_assign0 (fr := false) ?h1 ?h2 ?h3 ?_); (case h1 => rfl); (case h2 => rfl); (case h3 => rfl))
    | ((with_reducible refine' W_assign0 (fr := true) ?h1 ?h2 ?h3 ?_); (case h1 => rfl); (case h2 => rfl); (case h3 => rfl))
    | ((with_reducible refine' W_assign (fr := false) ?h1 ?h3 ?_); (case h1 => rfl); (case h3 => rfl))
    | ((with_reducible refine' W_assign (fr := true) ?h1 ?h3 ?_); (case h1 => rfl); (case h3 => rfl))
    | ((with_reducible refine' W_setsub ?h1 ?_); (case h1 => rfl))
    | ((with_reducible refine' W_aug ?h1 ?h2 ?_); (case h1 => rfl); (case h2 => walk_at "lk"))
    | ((with_reducible refine' W_augsub ?h1 ?h2 ?_); (case h1 => rfl); (case h2 => refine' ownL_of ?ho ?hl; (case ho => walk_at "lk"); (case hl => walk_at "ln")))
    | ((with_reducible refine' W_append0 ?h1 ?h2 ?h3 ?_); (case h1 => rfl); (case h2 => refine' ownL_of ?ho ?hl; (case ho => walk_at "lk"); (case hl => walk_at "ln")); (case h3 => rfl))
    | ((with_reducible refine' W_append ?h1 ?h2 ?h3 ?_); (case h1 => rfl); (case h2 => refine' ownL_of ?ho ?hl; (case ho => walk_at "lk"); (case hl => walk_at "ln")); (case h3 => refine' ownL_of ?ho ?hl; (case ho => walk_at "lk"); (case hl => walk_at "ln")))
    | (with_reducible refine' W_if ?_)
    | (with_reducible refine' W_ret ?_)
    | ((with_reducible refine' W_for0 ?h1 ?h2 ?h3 ?_); (case h1 => rfl); (case h2 => rfl); (case h3 => rfl))
    | ((with_reducible refine' W_for ?h1 ?h2 ?_); (case h1 => rfl); (case h2 => rfl))
    | (with_reducible refine' W_while ?_))
local macro_rules
  | `(tactic| walk_at "ev") => `(tactic| first
    | ((with_reducible refine' W_const ?h1 ?_); (case h1 => rfl))
    | ((with_reducible refine' W_name ?h1 ?h2 ?h3 ?h4 ?_); (case h1 => rfl); (case h2 => rfl); (case h3 => walk_at "lk"); (case h4 => rfl))
    | ((with_reducible refine' W_gname ?h1 ?h2 ?_); (case h1 => rfl); (case h2 => rfl))
    | (with_reducible refine' W_bin ?_)
    | (with_reducible refine' W_un ?_)
    | (with_reducible refine' W_boolop ?_)
    | (with_reducible refine' W_bool1 ?_)
    | (with_reducible refine' W_booland ?_)
    | ((with_reducible refine' W_cmp ?h1 ?_); (case h1 => rfl))
    | (with_reducible refine' W_ifexp ?_)
    | (with_reducible refine' W_list ?_)
    | (with_reducible refine' W_tuple ?_)
    | ((with_reducible refine' W_sub ?h1 ?_); (case h1 => rfl))
    | (with_reducible refine' W_evs0 ?_)
    | ((with_reducible refine' W_evs1 ?h1 ?_); (case h1 => rfl))
    | ((with_reducible refine' W_callf ?h1 ?h2 ?_); (case h1 => rfl); (case h2 => rfl))
    | ((with_reducible refine' W_callb ?h1 ?h2 ?_); (case h1 => rfl); (case h2 => rfl))
    | ((with_reducible refine' W_callt ?h1 ?h2 ?_); (case h1 => rfl); (case h2 => rfl))
    | ((with_reducible refine' W_isinst ?h1 ?h3 ?h2 ?_); (case h1 => rfl); (case h3 => rfl); (case h2 => rfl))
    | ((with_reducible refine' W_callrev ?h1 ?h2 ?h3 ?_); (case h1 => rfl); (case h2 => rfl); (case h3 => rfl))
    | ((with_reducible refine' W_range ?h1 ?h2 ?_); (case h1 => rfl); (case h2 => rfl))
    | ((with_reducible refine' W_srccall ?h1 ?_); (case h1 => rfl))
    | ((with_reducible refine' W_src ?h1 ?_); (case h1 => rfl))
    | ((with_reducible refine' W_comp ?h1 ?h2 ?_); (case h1 => rfl); (case h2 => rfl))
    | (with_reducible refine' W_tests0 ?_)
    | (with_reducible refine' W_tests1 ?_)
    | (with_reducible refine' T_not ?_)
    | (with_reducible refine' T_boolop ?_)
    | (with_reducible refine' T_and0 ?_)
    | (with_reducible refine' T_or0 ?_)
    | (with_reducible refine' T_and ?_)
    | (with_reducible refine' T_or ?_)
    | ((with_reducible refine' T_cmp ?h1 ?_); (case h1 => rfl))
    | ((with_reducible refine' T_val ?h1 ?_); (case h1 => rfl)))
local macro_rules
  | `(tactic| walk_at "ln") => `(tactic| first | decide | ((try simp only [List.length_map, List.length_append, List.length_cons, List.length_nil, List.length_replicate, List.length_range, lim]); omega))
local macro_rules
  | `(tactic| walk_at "vl") => `(tactic| first
    | (with_reducible refine' B_add ?_)
    | (with_reducible refine' B_sub ?_)
    | ((with_reducible refine' B_mod ?hz ?_); (case hz => decide))
    | ((with_reducible refine' B_pow ?hz ?_); (case hz => decide))
    | (with_reducible refine' U_neg ?_)
    | (with_reducible refine' I_int ?_)
    | (with_reducible refine' A_add ?_)
    | (with_reducible refine' A_sub ?_)
    | (with_reducible refine' C_lt ?_)
    | (with_reducible refine' C_le ?_)
    | (with_reducible refine' C_gt ?_)
    | (with_reducible refine' C_ge ?_)
    | (with_reducible refine' C_eqL ?_)
    | (with_reducible refine' C_neL ?_)
    | ((with_reducible refine' P_neg1 ?hl ?_); (case hl => walk_at "ln"))
    | ((refine' Ty_list ?hl ?_); (case hl => walk_at "ln"))
    | (with_reducible refine' C_eqi ?_)
    | (with_reducible refine' C_nei ?_)
    | (with_reducible refine' C_isnot ?_)
    | (with_reducible refine' Ty_int ?_)
    | (with_reducible refine' Is_il ?_)
    | (with_reducible refine' Is_ii ?_)
    | (with_reducible refine' Is_bi ?_)
    | (with_reducible refine' V_tr ?_)
    | (with_reducible refine' V_tri ?_)
    | ((with_reducible refine' X_ints ?hl ?hj ?_); (case hl => walk_at "ln"); (case hj => walk_at "ln"))
    | ((with_reducible refine' R_nat ?hl ?_); (case hl => walk_at "ln"))
    | ((with_reducible refine' S_list ?hl ?_); (case hl => walk_at "ln"))
    | (refine' F_sum ?_)
    | ((refine' F_maxL ?hl ?_); (case hl => walk_at "ln"))
    | ((with_reducible refine' X_rf (d := .tuple _) ?hl ?_); (case hl => rfl))
    | ((with_reducible refine' X_int0 ?hl ?hj ?_); (case hl => walk_at "ln"); (case hj => walk_at "ln"))
    | ((with_reducible refine' O_own ?ho ?_); (case ho => refine' ownL_of ?ha ?hl; (case ha => walk_at "lk"); (case hl => walk_at "ln")))
    | ((with_reducible refine' P_pos ?hl ?_); (case hl => walk_at "ln"))
    | ((with_reducible refine' B_zeros ?hl ?hj ?_); (case hl => walk_at "ln"); (case hj => walk_at "ln"))
    | (refine' L_ok ?hl ?_; (case hl => exact Nat.le_of_ble_eq_true rfl))
    | ((with_reducible refine' C_t ?hl ?_); (case hl => with_unfolding_all rfl))
    | ((with_reducible refine' C_f ?hl ?_); (case hl => with_unfolding_all rfl))
    | (with_reducible refine' K_tt ?_)
    | (with_reducible refine' K_ff ?_)
    | (with_reducible refine' K_tf ?_)
    | (with_reducible refine' K_ft ?_)
    | (with_reducible refine' K_n1 ?_)
    | (with_reducible refine' K_n2 ?_)
    | ((refine' F_len ?hl ?_); (case hl => walk_at "ln"))
    | ((refine' F_lent ?hl ?_); (case hl => walk_at "ln"))
    | ((with_reducible refine' B_mul ?hm ?_); (case hm => first | exact mulB_small (.inl (by decide)) | exact mulB_small (.inr (by decide)) | exact mulB_small (.inl (by omega)) | exact mulB_small (.inr (by omega))))
    | ((with_reducible refine' B_dv ?hm ?hn ?_); (case hm => first | decide | omega); (case hn => first | decide | omega)))
local macro_rules
  | `(tactic| walk_at "w") => `(tactic| (repeat (first | walk_at "ex" | walk_at "ev" | walk_at "vl")))
local macro_rules
  | `(tactic| walk_at "ex") => `(tactic| first
    | ((with_reducible refine' X_st ?h1 ?_); (case h1 => rfl))
    | (with_reducible refine' Tx_n ?_))
local macro_rules
  | `(tactic| walk_at "vl") => `(tactic| first
    | ((with_reducible refine' X_rows ?hl ?hj ?_); (case hl => walk_at "ln"); (case hj => walk_at "ln"))
    | ((with_reducible refine' B_snoc ?hl ?_); (case hl => walk_at "ln"))
    | (with_reducible refine' F_abs ?_)
    | ((refine' F_minL ?hl ?_); (case hl => walk_at "ln"))
    | ((refine' F_rev ?hl ?_); (case hl => walk_at "ln"))
    | ((with_reducible refine' R_down ?hl ?hj ?_); (case hl => first | decide | omega); (case hj => first | decide | omega))
    | (with_reducible refine' C_eqb ?_)
    | (with_reducible refine' C_eqR ?_)
    | (with_reducible refine' C_neR ?_))
local macro_rules
  | `(tactic| walk_at "ln") => `(tactic| ((try simp only [List.length_map, List.length_append, List.length_cons, List.length_nil, List.length_replicate, List.length_range, List.length_reverse, sortI_len, lim]); omega))

section
variable {P : Params} {n : Nat}

theorem exs_app2 {f : Rho → Stmt → Out (Rho × Option D)} {Q : Rho × Option D → Prop} {b1 b2 : List Stmt} {ρ : Rho} (I : Rho → Prop) (h1 : W (exsL f b1 ρ) (fun p => p.2 = none ∧ I p.1)) (h2 : ∀ ρ, I ρ → W (exsL f b2 ρ) Q) : W (exsL f (b1 ++ b2) ρ) Q :=
  exs_app (h1.mono fun p h => ⟨h.1, h2 _ h.2⟩)

/-- what is asked of the votes -/
structure VOk (votes : List Int) (S : Nat) : Prop where
  hv : ∀ v ∈ votes, 0 ≤ v ∧ v < 10 ^ 40
  h1 : 1 ≤ votes.length
  h4 : votes.length ≤ 4
  hV : 0 < votes.sum
  hV2 : votes.sum < 10 ^ 41
  hS0 : 1 ≤ S
  hS : S ≤ 1000
  hm : (repF votes S).sum < S → (S : Int) - (repF votes S).sum ≤ votes.length
  hrep : ∀ x ∈ repF votes S, 0 ≤ x ∧ x ≤ 1000

def lrNames : List Str := [Str.ofString "lrm", Str.ofString "hamilton", Str.ofString "largest_remainder"]

theorem lr2_ok {votes : List Int} {S : Nat} (h : VOk votes S) : (It (Mine.hd.heap_39 P) (n + 41)).call "largest_remainder" [.list (votes.map .int), .int S] = .ok (.list ((lrF votes S).1.map .int)) := by
  refine W.val ?_
  refine W_call (binds := [("votes", .list (votes.map .int)), ("seats", .int S), ("tiesallowed", .bool true)]) rfl rfl rfl rfl rfl ?_
  exact lr_ok h.hv h.h1 h.h4 h.hV h.hV2 h.hS0 h.hS h.hm h.hrep rfl rfl (.inr rfl)
theorem lr3_ok {votes : List Int} {S : Nat} {bt : Bool} (h : VOk votes S) (hd : (lrF votes S).2 = false ∨ bt = true) : (It (Mine.hd.heap_39 P) (n + 41)).call "largest_remainder" [.list (votes.map .int), .int S, .bool bt] = .ok (.list ((lrF votes S).1.map .int)) := by
  refine W.val ?_
  refine W_call (binds := [("votes", .list (votes.map .int)), ("seats", .int S), ("tiesallowed", .bool bt)]) rfl rfl rfl rfl rfl ?_
  exact lr_ok h.hv h.h1 h.h4 h.hV h.hV2 h.hS0 h.hS h.hm h.hrep rfl rfl hd

theorem compute3_ok {votes : List Int} {S : Nat} {nm : Str} (hn : nm ∈ lrNames) (h : VOk votes S) : (It (Mine.hd.heap_39 P) (n + 50)).call "compute" [.str nm, .list (votes.map .int), .int S] = .ok (.list ((lrF votes S).1.map .int)) := by
  refine W.val ?_
  refine W_call (binds := [("method", .str nm), ("votes", .list (votes.map .int)), ("seats", .int S), ("threshold", .none), ("tiesallowed", .bool true)]) rfl rfl rfl rfl rfl ?_
  dsimp only
  walk_at "w"
  refine W.eq apply_ok ?_
  have hn' : nm = Str.ofString "lrm" ∨ nm = Str.ofString "hamilton" ∨ nm = Str.ofString "largest_remainder" := by simpa [lrNames] using hn
  rcases hn' with rfl | rfl | rfl
  all_goals
    walk_at "w"
    refine W.eq (lr3_ok h (.inr rfl)) ?_
    walk_at "w"
    rfl
theorem compute5_ok {votes : List Int} {S : Nat} {nm : Str} (hn : nm ∈ lrNames) (h : VOk votes S) (hd : (lrF votes S).2 = false) : (It (Mine.hd.heap_39 P) (n + 50)).call "compute" [.str nm, .list (votes.map .int), .int S, .none, .bool false] = .ok (.list ((lrF votes S).1.map .int)) := by
  refine W.val ?_
  refine W_call (binds := [("method", .str nm), ("votes", .list (votes.map .int)), ("seats", .int S), ("threshold", .none), ("tiesallowed", .bool false)]) rfl rfl rfl rfl rfl ?_
  dsimp only
  walk_at "w"
  refine W.eq apply_ok ?_
  have hn' : nm = Str.ofString "lrm" ∨ nm = Str.ofString "hamilton" ∨ nm = Str.ofString "largest_remainder" := by simpa [lrNames] using hn
  rcases hn' with rfl | rfl | rfl
  all_goals
    walk_at "w"
    refine W.eq (lr3_ok h (.inl hd)) ?_
    walk_at "w"
    rfl
theorem compute_tie {votes : List Int} {S : Nat} {nm : Str} (hn : nm ∈ lrNames) (h : VOk votes S) (hd : (lrF votes S).2 = true) : (Jt (Mine.hd.heap_39 P) (n + 50)).tc "compute" [.str nm, .list (votes.map .int), .int S, .none, .bool false] = true := by
  refine TC_call (binds := [("method", .str nm), ("votes", .list (votes.map .int)), ("seats", .int S), ("threshold", .none), ("tiesallowed", .bool false)]) rfl rfl rfl rfl rfl ?_
  dsimp only
  refine TX_on ?_
  walk_at "w"
  refine W.eq apply_ok ?_
  have hn' : nm = Str.ofString "lrm" ∨ nm = Str.ofString "hamilton" ∨ nm = Str.ofString "largest_remainder" := by simpa [lrNames] using hn
  rcases hn' with rfl | rfl | rfl
  all_goals
    walk_at "w"
    refine TX_here (TX_if ?_)
    walk_at "w"
    refine TX_here (TX_if ?_)
    walk_at "w"
    refine TX_here (TX_ret rfl rfl ?_)
    walk_at "w"
    exact lr_tie h.hv h.h1 h.h4 h.hV h.hV2 h.hS0 h.hS h.hm h.hrep hd
end
end Mine

/-! M05 -/
namespace Mine

/-! sorting and first sums -/
def desc (l : List Int) : List Int := (sortI l).reverse
theorem desc_perm (l : List Int) : (desc l).Perm l := (List.reverse_perm _).trans (sortI_perm l)
theorem desc_sorted (l : List Int) : (desc l).Pairwise (fun a b => b ≤ a) := List.pairwise_reverse.mpr (sortI_sorted l)
theorem desc_len (l : List Int) : (desc l).length = l.length := (desc_perm l).length_eq

theorem perm_sum {f : Int → Int} {l l' : List Int} (h : l.Perm l') : (l.map f).sum = (l'.map f).sum := by
  induction h with
  | nil => rfl
  | cons x _ ih => simp only [List.map_cons, List.sum_cons, ih]
  | swap x y l => simp only [List.map_cons, List.sum_cons]; omega
  | trans _ _ h1 h2 => exact h1.trans h2

def psum (l : List Int) (k : Nat) : Int := (l.take k).sum
theorem scanS_at : ∀ {l : List Int} {a : Int} {k : Nat}, k < l.length → (scanS a l).getD k 0 = a + psum l (k + 1)
  | e :: r, a, 0, _ => by simp [scanS, psum]
  | e :: r, a, k + 1, h => by
    have := scanS_at (l := r) (a := a + e) (k := k) (by simpa using h)
    show (scanS (a + e) r).getD k 0 = _
    rw [this]
    unfold psum
    rw [List.take_succ_cons, List.sum_cons]; omega
/-- the part over t -/
def ovr (t x : Int) : Int := if t < x then x - t else 0
theorem ovr_nn (t x : Int) : 0 ≤ ovr t x := by unfold ovr; split <;> omega
theorem ovr_sum_nn (t : Int) : ∀ l : List Int, 0 ≤ (l.map (ovr t)).sum
  | [] => by simp
  | x :: r => by rw [List.map_cons, List.sum_cons]; have := ovr_nn t x; have := ovr_sum_nn t r; omega
theorem psum_le (t : Int) : ∀ {l : List Int} {k : Nat}, k ≤ l.length → psum l k ≤ k * t + (l.map (ovr t)).sum
  | l, 0, _ => by
    have := ovr_sum_nn t l
    simp [psum]; omega
  | x :: r, k + 1, h => by
    have ih := psum_le t (l := r) (k := k) (by simpa using h)
    unfold psum at ih ⊢
    rw [List.take_succ_cons, List.sum_cons, List.map_cons, List.sum_cons]
    have : x ≤ t + ovr t x := by unfold ovr; split <;> omega
    have e : ((k + 1 : Nat) : Int) * t = k * t + t := by rw [Int.natCast_add, Int.add_mul]; simp
    omega
theorem ovr_zero {t : Int} : ∀ {l : List Int}, (∀ x ∈ l, x ≤ t) → (l.map (ovr t)).sum = 0
  | [], _ => by simp
  | x :: r, h => by
    rw [List.map_cons, List.sum_cons, ovr_zero fun y hy => h y (List.mem_cons_of_mem _ hy)]
    have := h x List.mem_cons_self
    unfold ovr; rw [if_neg (by omega)]; rfl
theorem psum_eq : ∀ {l : List Int} {k : Nat}, l.Pairwise (fun a b => b ≤ a) → k < l.length → ∀ t, t = l.getD k 0 → psum l (k + 1) = ((k + 1 : Nat) : Int) * t + (l.map (ovr t)).sum
  | x :: r, 0, h, _, t, ht => by
    have ht : t = x := by simpa using ht
    subst ht
    unfold psum
    rw [List.map_cons, List.sum_cons, ovr_zero fun y hy => List.rel_of_pairwise_cons h hy]
    unfold ovr
    simp
  | x :: r, k + 1, h, hk, t, ht => by
    have hk' : k < r.length := by simpa using hk
    have ht' : t = r.getD k 0 := by simpa using ht
    have ih := psum_eq (List.Pairwise.of_cons h) hk' t ht'
    unfold psum at ih ⊢
    rw [List.take_succ_cons, List.sum_cons, List.map_cons, List.sum_cons, ih]
    have hx : t ≤ x := by
      rw [ht', List.getD_eq_getElem?_getD, List.getElem?_eq_getElem hk']
      exact List.rel_of_pairwise_cons h (List.getElem_mem hk')
    have : x = t + ovr t x := by unfold ovr; split <;> omega
    have e : ((k + 1 + 1 : Nat) : Int) * t = ((k + 1 : Nat) : Int) * t + t := by rw [Int.natCast_add (k + 1) 1, Int.add_mul]; simp
    omega

/-- fewer over every line: smaller first sums -/
theorem psum_mono {l l' : List Int} (hl : l.length = l'.length) (h : ∀ t, (l.map (ovr t)).sum ≤ (l'.map (ovr t)).sum) {k : Nat} (hk : k < l.length) : psum (desc l) (k + 1) ≤ psum (desc l') (k + 1) := by
  have h1 := psum_eq (desc_sorted l') (k := k) (by rw [desc_len]; omega) _ rfl
  have h2 := psum_le ((desc l').getD k 0) (l := desc l) (k := k + 1) (by rw [desc_len]; omega)
  rw [perm_sum (desc_perm l')] at h1
  rw [perm_sum (desc_perm l)] at h2
  have := h ((desc l').getD k 0)
  omega

/-- the slope of the part over t -/
theorem slope {V t mn e d : Int} (hV : 0 < V) (h1 : mn ≤ e) (h2 : e ≤ mn + V) : d * (ovr t (mn + V) - ovr t mn) + ovr t e ≤ ovr t (e + d * V) := by
  have hlam : ∃ lam, lam = ovr t (mn + V) - ovr t mn ∧ 0 ≤ lam ∧ lam ≤ V ∧ (mn < t → lam = if t < mn + V then mn + V - t else 0) ∧ (t ≤ mn → lam = V) := by
    refine ⟨_, rfl, ?_, ?_, fun h => ?_, fun h => ?_⟩
    all_goals (unfold ovr; repeat' split) <;> omega
  obtain ⟨lam, e1, l0, l1, l2, l3⟩ := hlam
  rw [← e1]
  clear e1
  by_cases hd : 0 ≤ d
  · by_cases het : t ≤ e
    · have a1 : d * lam ≤ d * V := Int.mul_le_mul_of_nonneg_left l1 hd
      have a2 : 0 ≤ d * V := Int.mul_nonneg hd (Int.le_of_lt hV)
      unfold ovr
      split <;> split <;> omega
    · have hlm := l2 (by omega)
      rw [show ovr t e = 0 by unfold ovr; rw [if_neg (by omega)]]
      by_cases hq : t < mn + V
      · rw [if_pos hq] at hlm
        by_cases hd0 : d = 0
        · subst hd0; have := ovr_nn t (e + 0 * V); omega
        · have a1 : (d - 1) * lam ≤ (d - 1) * V := Int.mul_le_mul_of_nonneg_left l1 (by omega)
          rw [Int.sub_mul, Int.sub_mul, Int.one_mul, Int.one_mul] at a1
          unfold ovr
          split <;> omega
      · rw [if_neg hq] at hlm
        subst hlm
        have := ovr_nn t (e + d * V)
        rw [Int.mul_zero]; omega
  · obtain ⟨k, rfl⟩ : ∃ k, d = -k := ⟨-d, by omega⟩
    have hk : 1 ≤ k := by omega
    rw [Int.neg_mul, Int.neg_mul]
    have b1 : lam ≤ k * lam := by
      have := Int.mul_le_mul_of_nonneg_right hk l0
      rwa [Int.one_mul] at this
    have b2 : V ≤ k * V := by
      have := Int.mul_le_mul_of_nonneg_right hk (Int.le_of_lt hV)
      rwa [Int.one_mul] at this
    by_cases het : e ≤ t
    · rw [show ovr t e = 0 by unfold ovr; rw [if_neg (by omega)]]
      have := ovr_nn t (e + -(k * V))
      omega
    · rw [show ovr t e = e - t by unfold ovr; rw [if_pos (by omega)]]
      by_cases hmt : t ≤ mn
      · have := l3 hmt
        subst this
        unfold ovr
        split <;> omega
      · have hlm := l2 (by omega)
        rw [if_pos (by omega)] at hlm
        have := ovr_nn t (e + -(k * V))
        omega
end Mine

/-! M05b -/
namespace Mine

/-! the rows -/
theorem snoc_of : ∀ {x : List Int}, x ≠ [] → ∃ r m, x = r ++ [m]
  | [], h => absurd rfl h
  | [a], _ => ⟨[], a, rfl⟩
  | a :: b :: r, _ => by
    obtain ⟨q, m, e⟩ := snoc_of (x := b :: r) (by simp)
    exact ⟨a :: q, m, by rw [e]; rfl⟩
theorem rowsG_all {t : Int} (ht : 0 ≤ t) : ∀ {k : Nat} {x : List Int}, x.length = k → (∀ y ∈ x, 0 ≤ y) → x.sum ≤ t → x ∈ rowsG t k
  | 0, x, h, _, _ => by
    have : x = [] := List.length_eq_zero_iff.mp h
    subst this; simp [rowsG]
  | k + 1, x, h, h0, hs => by
    have hne : x ≠ [] := fun e => by rw [e] at h; cases h
    obtain ⟨r, m, rfl⟩ := snoc_of hne
    have hm := h0 m (by simp)
    have hsum : (r ++ [m]).sum = r.sum + m := by simp
    rw [hsum] at hs
    have hr : ∀ y ∈ r, 0 ≤ y := fun y hy => h0 y (List.mem_append_left _ hy)
    have ih := rowsG_all ht (k := k) (x := r) (by simpa using h) hr (by omega)
    exact List.mem_flatMap.mpr ⟨r, ih, List.mem_map.mpr ⟨m, downs_mem.mpr (by omega), rfl⟩⟩
theorem shares_all {t : Int} (ht : 0 ≤ t) {p : Nat} (hp : 1 ≤ p) {x : List Int} (hl : x.length = p) (h0 : ∀ y ∈ x, 0 ≤ y) (hs : x.sum = t) : x ∈ sharesF t p := by
  have hne : x ≠ [] := fun e => by rw [e] at hl; simp at hl; omega
  obtain ⟨r, m, rfl⟩ := snoc_of hne
  have hm := h0 m (by simp)
  have hsum : (r ++ [m]).sum = r.sum + m := by simp
  rw [hsum] at hs
  have hr : ∀ y ∈ r, 0 ≤ y := fun y hy => h0 y (List.mem_append_left _ hy)
  refine List.mem_map.mpr ⟨r, rowsG_all ht (by rw [List.length_append] at hl; simp at hl; omega) hr (by omega), ?_⟩
  rw [show t - r.sum = m by omega]
theorem downs_nodup (a : Int) : (downs a).Nodup := by
  unfold downs
  rw [List.nodup_iff_pairwise_ne, List.pairwise_map]
  exact (List.nodup_iff_pairwise_ne.mp List.nodup_range).imp fun h e => h (by omega)
theorem rowsG_nodup (t : Int) : ∀ k, (rowsG t k).Nodup
  | 0 => by simp [rowsG]
  | k + 1 => by
    show ((rowsG t k).flatMap (ext1 t)).Nodup
    rw [List.nodup_iff_pairwise_ne, List.pairwise_flatMap]
    refine ⟨fun r _ => ?_, ?_⟩
    · unfold ext1
      rw [List.pairwise_map]
      exact (List.nodup_iff_pairwise_ne.mp (downs_nodup _)).imp fun h e => h (by simpa using e)
    · refine (List.nodup_iff_pairwise_ne.mp (rowsG_nodup t k)).imp fun {r r'} h x hx y hy e => h ?_
      obtain ⟨m, _, rfl⟩ := List.mem_map.mp hx
      obtain ⟨m', _, rfl⟩ := List.mem_map.mp hy
      exact (List.append_inj' e rfl).1
theorem shares_nodup (t : Int) (p : Nat) : (sharesF t p).Nodup := by
  unfold sharesF
  rw [List.nodup_iff_pairwise_ne, List.pairwise_map]
  exact (List.nodup_iff_pairwise_ne.mp (rowsG_nodup t _)).imp fun {a b} h e => h (List.append_inj' (t₁ := [t - a.sum]) (t₂ := [t - b.sum]) e rfl).1

/-! sums over places -/
theorem sum_map_le {f g : Nat → Int} : ∀ {l : List Nat}, (∀ i ∈ l, f i ≤ g i) → (l.map f).sum ≤ (l.map g).sum
  | [], _ => by simp
  | x :: r, h => by
    simp only [List.map_cons, List.sum_cons]
    have := h x List.mem_cons_self
    have := sum_map_le (l := r) fun i hi => h i (List.mem_cons_of_mem _ hi)
    omega
theorem sum_map_lin {f g : Nat → Int} {c : Int} : ∀ l : List Nat, (l.map fun i => f i * c + g i).sum = (l.map f).sum * c + (l.map g).sum
  | [] => by simp
  | x :: r => by
    simp only [List.map_cons, List.sum_cons]
    rw [sum_map_lin r, Int.add_mul]; omega
theorem sum_map_sub {f g : Nat → Int} : ∀ l : List Nat, (l.map fun i => f i - g i).sum = (l.map f).sum - (l.map g).sum
  | [] => by simp
  | x :: r => by
    simp only [List.map_cons, List.sum_cons]
    rw [sum_map_sub r]; omega
theorem sum_at : ∀ {x : List Int}, ((List.range x.length).map fun i => x.getD i 0).sum = x.sum := fun {x} => by
  congr 1
  refine List.ext_getElem (by simp) fun i h1 h2 => ?_
  simp [List.getD_eq_getElem?_getD, h2]

section
variable {votes : List Int} {S : Int}
def eF (votes : List Int) (S : Int) (x : List Int) (i : Nat) : Int := x.getD i 0 * votes.sum - S * votes.getD i 0
theorem errF_eq (x : List Int) : errF votes S x = (List.range votes.length).map (eF votes S x) := rfl
def Bal (votes : List Int) (S : Int) (b : List Int) : Prop := ∀ i j, i < votes.length → j < votes.length → eF votes S b i ≤ eF votes S b j + votes.sum

theorem exists_min {n : Nat} (hn : 0 < n) (f : Nat → Int) : ∃ i, i < n ∧ ∀ j, j < n → f i ≤ f j := by
  induction n with
  | zero => omega
  | succ n ih =>
    by_cases h : n = 0
    · subst h; exact ⟨0, by omega, fun j hj => by rw [show j = 0 by omega]; exact Int.le_refl _⟩
    · obtain ⟨i, hi, hm⟩ := ih (by omega)
      by_cases hc : f i ≤ f n
      · refine ⟨i, by omega, fun j hj => ?_⟩
        by_cases hj' : j < n
        · exact hm j hj'
        · rw [show j = n by omega]; exact hc
      · refine ⟨n, by omega, fun j hj => ?_⟩
        by_cases hj' : j < n
        · have := hm j hj'; omega
        · rw [show j = n by omega]; exact Int.le_refl _

/-- a balanced row's errors are least -/
theorem bal_least (hn : 0 < votes.length) (hV : 0 < votes.sum) {b x : List Int} (hb : b.length = votes.length) (hx : x.length = votes.length) (hs : b.sum = x.sum) (B : Bal votes S b) (t : Int) :
    ((errF votes S b).map (ovr t)).sum ≤ ((errF votes S x).map (ovr t)).sum := by
  obtain ⟨i0, hi0, hmin⟩ := exists_min hn (eF votes S b)
  rw [errF_eq, errF_eq, List.map_map, List.map_map]
  have key : ∀ i ∈ List.range votes.length, (x.getD i 0 - b.getD i 0) * (ovr t (eF votes S b i0 + votes.sum) - ovr t (eF votes S b i0)) + (ovr t ∘ eF votes S b) i ≤ (ovr t ∘ eF votes S x) i := fun i hi => by
    have hi := List.mem_range.mp hi
    have := slope (V := votes.sum) (t := t) (mn := eF votes S b i0) (e := eF votes S b i) (d := x.getD i 0 - b.getD i 0) hV (hmin i hi) (B i i0 hi hi0)
    rw [show eF votes S b i + (x.getD i 0 - b.getD i 0) * votes.sum = eF votes S x i by unfold eF; rw [Int.sub_mul]; omega] at this
    exact this
  have h1 := sum_map_le key
  rw [sum_map_lin, sum_map_sub, ← hx, sum_at, hx, ← hb, sum_at, hs, hb] at h1
  omega
theorem sums_at {x : List Int} {k : Nat} (hk : k < votes.length) : (sumsF votes S x).getD k 0 = psum (desc (errF votes S x)) (k + 1) := by
  unfold sumsF
  rw [scanS_at (by rw [List.length_reverse, sortI_len]; unfold errF; rw [List.length_map, List.length_range]; exact hk), Int.zero_add]; rfl
theorem errF_len {x : List Int} : (errF votes S x).length = votes.length := by unfold errF; rw [List.length_map, List.length_range]
theorem bal_sums (hn : 0 < votes.length) (hV : 0 < votes.sum) {b x : List Int} (hb : b.length = votes.length) (hx : x.length = votes.length) (hs : b.sum = x.sum) (B : Bal votes S b) {k : Nat} (hk : k < votes.length) :
    (sumsF votes S b).getD k 0 ≤ (sumsF votes S x).getD k 0 := by
  rw [sums_at hk, sums_at hk]
  exact psum_mono (by rw [errF_len, errF_len]) (bal_least hn hV hb hx hs B) (by rw [errF_len]; exact hk)
theorem sumsF_len' {r : List Int} : (sumsF votes S r).length = votes.length := by
  unfold sumsF
  rw [scanS_len, List.length_reverse, sortI_len, errF_len]
theorem getD_ext {x y : List Int} (hl : x.length = y.length) (h : ∀ k, k < x.length → x.getD k 0 = y.getD k 0) : x = y := by
  refine List.ext_getElem hl fun i h1 h2 => ?_
  have := h i h1
  rwa [List.getD_eq_getElem?_getD, List.getD_eq_getElem?_getD, List.getElem?_eq_getElem h1, List.getElem?_eq_getElem h2] at this
theorem bal_same (hn : 0 < votes.length) (hV : 0 < votes.sum) {b x : List Int} (hb : b.length = votes.length) (hx : x.length = votes.length) (hs : b.sum = x.sum) (B : Bal votes S b) (B' : Bal votes S x) : sumsF votes S b = sumsF votes S x :=
  getD_ext (by rw [sumsF_len', sumsF_len']) fun k hk => by
    rw [sumsF_len'] at hk
    exact Int.le_antisymm (bal_sums hn hV hb hx hs B hk) (bal_sums hn hV hx hb hs.symm B' hk)
/-- rows of the same first sums have the same errors -/
theorem scan_inj : ∀ {l l' : List Int} {a : Int}, scanS a l = scanS a l' → l = l'
  | [], [], _, _ => rfl
  | [], e :: r, a, h => by cases h
  | e :: r, [], a, h => by cases h
  | e :: r, e' :: r', a, h => by
    unfold scanS at h
    obtain ⟨h1, h2⟩ := List.cons.inj h
    have : e = e' := by omega
    subst this
    rw [scan_inj h2]
theorem same_perm {b x : List Int} (h : sumsF votes S b = sumsF votes S x) : (errF votes S b).Perm (errF votes S x) := by
  have h1 := scan_inj h
  have h2 : sortI (errF votes S b) = sortI (errF votes S x) := by have := congrArg List.reverse h1; simpa using this
  exact (sortI_perm _).symm.trans (h2 ▸ sortI_perm _)
theorem bal_of_same {b x : List Int} (h : sumsF votes S b = sumsF votes S x) (B : Bal votes S b) : Bal votes S x := fun i j hi hj => by
  have hp := same_perm h
  have m : ∀ i, i < votes.length → ∃ i', i' < votes.length ∧ eF votes S x i = eF votes S b i' := fun i hi => by
    have : eF votes S x i ∈ errF votes S b := hp.mem_iff.mpr (List.mem_map.mpr ⟨i, List.mem_range.mpr hi, rfl⟩)
    obtain ⟨i', hi', e⟩ := List.mem_map.mp this
    exact ⟨i', List.mem_range.mp hi', e.symm⟩
  obtain ⟨i', hi', e1⟩ := m i hi
  obtain ⟨j', hj', e2⟩ := m j hj
  rw [e1, e2]; exact B i' j' hi' hj'
end
end Mine

/-! M05c -/
namespace Mine

/-! counting places -/
def cI (E : Nat → Bool) (j : Nat) : Int := ((List.range j).map fun i => if E i = true then (1 : Int) else 0).sum
theorem cI_succ (E : Nat → Bool) (j : Nat) : cI E (j + 1) = cI E j + if E j = true then 1 else 0 := by
  unfold cI
  rw [List.range_succ, List.map_append, List.sum_append]
  simp
theorem cI_nn (E : Nat → Bool) : ∀ j, 0 ≤ cI E j
  | 0 => by simp [cI]
  | j + 1 => by rw [cI_succ]; have := cI_nn E j; split <;> omega
theorem cI_mono (E : Nat → Bool) {i j : Nat} (h : i ≤ j) : cI E i ≤ cI E j := by
  induction j with
  | zero => rw [show i = 0 by omega]; exact Int.le_refl _
  | succ j ih =>
    by_cases hij : i ≤ j
    · rw [cI_succ]; have := ih hij; split <;> omega
    · rw [show i = j + 1 by omega]; exact Int.le_refl _
theorem cI_lt (E : Nat → Bool) {i n : Nat} (hi : i < n) (h : E i = true) : cI E i < cI E n := by
  have := cI_mono E (show i + 1 ≤ n by omega)
  rw [cI_succ, if_pos h] at this; omega
theorem cI_congr {E E' : Nat → Bool} : ∀ {n : Nat}, (∀ i, i < n → E i = E' i) → cI E n = cI E' n
  | 0, _ => by simp [cI]
  | n + 1, h => by rw [cI_succ, cI_succ, cI_congr fun i hi => h i (by omega), h n (by omega)]
theorem cI_or {E E' : Nat → Bool} : ∀ {n : Nat}, (∀ i, i < n → ¬ (E i = true ∧ E' i = true)) → cI (fun i => E i || E' i) n = cI E n + cI E' n
  | 0, _ => by simp [cI]
  | n + 1, h => by
    rw [cI_succ, cI_succ, cI_succ, cI_or fun i hi => h i (by omega)]
    have := h n (by omega)
    cases e : E n <;> cases e' : E' n <;> simp_all <;> omega
theorem cI_pos {E : Nat → Bool} : ∀ {n : Nat}, 0 < cI E n → ∃ i, i < n ∧ E i = true
  | 0, h => by simp [cI] at h
  | n + 1, h => by
    rw [cI_succ] at h
    by_cases e : E n = true
    · exact ⟨n, by omega, e⟩
    · rw [if_neg e] at h
      obtain ⟨i, hi, hE⟩ := cI_pos (E := E) (n := n) (by omega)
      exact ⟨i, by omega, hE⟩
theorem cI_one {n i0 : Nat} (h : i0 < n) : cI (fun i => decide (i = i0)) n = 1 := by
  have key : ∀ n, cI (fun i => decide (i = i0)) n = if i0 < n then 1 else 0 := fun n => by
    induction n with
    | zero => simp [cI]
    | succ n ih =>
      rw [cI_succ, ih]
      by_cases e : n = i0
      · subst e; simp
      · simp only [decide_eq_true_eq, e, if_false]
        by_cases h' : i0 < n
        · rw [if_pos h', if_pos (by omega)]; rfl
        · rw [if_neg h', if_neg (by omega)]; rfl
  rw [key, if_pos h]
/-- the first k of E -/
def fst (E : Nat → Bool) (k : Int) (i : Nat) : Bool := E i && decide (cI E i < k)
theorem cI_fst (E : Nat → Bool) {k : Int} (hk : 0 ≤ k) : ∀ j, cI (fst E k) j = min k (cI E j)
  | 0 => by simp [cI]; omega
  | j + 1 => by
    rw [cI_succ, cI_succ, cI_fst E hk j]
    unfold fst
    cases e : E j
    · simp
    · by_cases h : cI E j < k
      · simp [h]; omega
      · simp [h]; omega

section
variable {votes : List Int} {S : Int}

/-! the rows that are least -/
theorem filter_getD {α : Type} (d : α) (p : α → Bool) (l : List α) : ((List.range l.length).filter fun j => p (l.getD j d)).map (fun j => l.getD j d) = l.filter p := by
  have e : l = (List.range l.length).map fun j => l.getD j d := by
    refine List.ext_getElem (by simp) fun i h1 h2 => ?_
    simp [List.getD_eq_getElem?_getD, h1]
  conv => rhs; rw [e]
  rw [List.filter_map]; rfl
theorem minI_le : ∀ (r : List Int) (x : Int), minI x r ≤ x ∧ ∀ y ∈ r, minI x r ≤ y
  | [], x => ⟨Int.le_refl _, by simp⟩
  | y :: r, x => by
    unfold minI
    by_cases h : y < x
    · rw [if_pos h]
      obtain ⟨h1, h2⟩ := minI_le r y
      refine ⟨by omega, fun z hz => ?_⟩
      rcases List.mem_cons.mp hz with rfl | hz
      · exact h1
      · exact h2 z hz
    · rw [if_neg h]
      obtain ⟨h1, h2⟩ := minI_le r x
      refine ⟨h1, fun z hz => ?_⟩
      rcases List.mem_cons.mp hz with rfl | hz
      · omega
      · exact h2 z hz
theorem minI_mem : ∀ (r : List Int) (x : Int), minI x r ∈ x :: r
  | [], x => by simp [minI]
  | y :: r, x => by
    have := minI_mem r (if y < x then y else x)
    unfold minI
    rcases List.mem_cons.mp this with h | h
    · rw [h]; split <;> simp
    · exact List.mem_cons_of_mem _ (List.mem_cons_of_mem _ h)
theorem minL_eq {l : List Int} {a : Int} (h : a ∈ l) (hl : ∀ x ∈ l, a ≤ x) : minL l = a := by
  cases l with
  | nil => cases h
  | cons x r =>
    refine Int.le_antisymm ?_ (hl _ (minI_mem r x))
    rcases List.mem_cons.mp h with rfl | h
    · exact (minI_le r a).1
    · exact (minI_le r x).2 a h
end
end Mine

/-! T05d -/
namespace Mine
local macro_rules
  | `(tactic| walk_at "lk1") => `(tactic| first | with_reducible assumption | with_reducible exact lk_self | ((with_reducible refine' lk_upd ?hne ?_); (case hne => decide)) | ((with_reducible refine' lk_comp ?hne ?_); (case hne => rfl)) | ((with_reducible refine' lk_frz0 ?hne ?_); (case hne => rfl)) | ((with_reducible apply lk_frz1); (case h => rfl)))
local macro_rules
  | `(tactic| walk_at "lk") => `(tactic| ((repeat walk_at "lk1"); (try rfl)))
local macro_rules
  | `(tactic| walk_at "ex") => `(tactic| first
    | (with_reducible refine' W_nil ?_)
    | (with_reducible refine' W_cons ?_)
    | (with_reducible refine' Nx_n ?_)
    | (with_reducible refine' Nx_s ?_)
    | (with_reducible refine' W_pass ?_)
    | ((with_reducible refine' W_assign0 (fr := false) ?h1 ?h2 ?h3 ?_); (case h1 => rfl); (case h2 => rfl); (case h3 => rfl))
    | ((with_reducible refine' W_assign0 (fr := true) ?h1 ?h2 ?h3 ?_); (case h1 => rfl); (case h2 => rfl); (case h3 => rfl))
    | ((with_reducible refine' W_assign (fr := false) ?h1 ?h3 ?_); (case h1 => rfl); (case h3 => rfl))
    | ((with_reducible refine' W_assign (fr := true) ?h1 ?h3 ?_); (case h1 => rfl); (case h3 => rfl))
    | ((with_reducible refine' W_setsub ?h1 ?_); (case h1 => rfl))
    | ((with_reducible refine' W_aug ?h1 ?h2 ?_); (case h1 => rfl); (case h2 => walk_at "lk"))
    | ((with_reducible refine' W_augsub ?h1 ?h2 ?_); (case h1 => rfl); (case h2 => refine' ownL_of ?ho ?hl; (case ho => walk_at "lk"); (case hl => walk_at "ln")))
    | ((with_reducible refine' W_append0 ?h1 ?h2 ?h3 ?_); (case h1 => rfl); (case h2 => refine' ownL_of ?ho ?hl; (case ho => walk_at "lk"); (case hl => walk_at "ln")); (case h3 => rfl))
    | ((with_reducible refine' W_append ?h1 ?h2 ?h3 ?_); (case h1 => rfl); (case h2 => refine' ownL_of ?ho ?hl; (case ho => walk_at "lk"); (case hl => walk_at "ln")); (case h3 => refine' ownL_of ?ho ?hl; (case ho => walk_at "lk"); (case hl => walk_at "ln")))
    | (with_reducible refine' W_if ?_)
    | (with_reducible refine' W_ret ?_)
    | ((with_reducible refine' W_for0 ?h1 ?h2 ?h3 ?_); (case h1 => rfl); (case h2 => rfl); (case h3 => rfl))
    | ((with_reducible refine' W_for ?h1 ?h2 ?_); (case h1 => rfl); (case h2 => rfl))
    | (with_reducible refine' W_while ?_))
local macro_rules
  | `(tactic| walk_at "ev") => `(tactic| first
    | ((with_reducible refine' W_const ?h1 ?_); (case h1 => rfl))
    | ((with_reducible refine' W_name ?h1 ?h2 ?h3 ?h4 ?_); (case h1 => rfl); (case h2 => rfl); (case h3 => walk_at "lk"); (case h4 => rfl))
    | ((with_reducible refine' W_gname ?h1 ?h2 ?_); (case h1 => rfl); (case h2 => rfl))
    | (with_reducible refine' W_bin ?_)
    | (with_reducible refine' W_un ?_)
    | (with_reducible refine' W_boolop ?_)
    | (with_reducible refine' W_bool1 ?_)
    | (with_reducible refine' W_booland ?_)
    | ((with_reducible refine' W_cmp ?h1 ?_); (case h1 => rfl))
    | (with_reducible refine' W_ifexp ?_)
    | (with_reducible refine' W_list ?_)
    | (with_reducible refine' W_tuple ?_)
    | ((with_reducible refine' W_sub ?h1 ?_); (case h1 => rfl))
    | (with_reducible refine' W_evs0 ?_)
    | ((with_reducible refine' W_evs1 ?h1 ?_); (case h1 => rfl))
    | ((with_reducible refine' W_callf ?h1 ?h2 ?_); (case h1 => rfl); (case h2 => rfl))
    | ((with_reducible refine' W_callb ?h1 ?h2 ?_); (case h1 => rfl); (case h2 => rfl))
    | ((with_reducible refine' W_callt ?h1 ?h2 ?_); (case h1 => rfl); (case h2 => rfl))
    | ((with_reducible refine' W_isinst ?h1 ?h3 ?h2 ?_); (case h1 => rfl); (case h3 => rfl); (case h2 => rfl))
    | ((with_reducible refine' W_callrev ?h1 ?h2 ?h3 ?_); (case h1 => rfl); (case h2 => rfl); (case h3 => rfl))
    | ((with_reducible refine' W_range ?h1 ?h2 ?_); (case h1 => rfl); (case h2 => rfl))
    | ((with_reducible refine' W_srccall ?h1 ?_); (case h1 => rfl))
    | ((with_reducible refine' W_src ?h1 ?_); (case h1 => rfl))
    | ((with_reducible refine' W_comp ?h1 ?h2 ?_); (case h1 => rfl); (case h2 => rfl))
    | (with_reducible refine' W_tests0 ?_)
    | (with_reducible refine' W_tests1 ?_)
    | (with_reducible refine' T_not ?_)
    | (with_reducible refine' T_boolop ?_)
    | (with_reducible refine' T_and0 ?_)
    | (with_reducible refine' T_or0 ?_)
    | (with_reducible refine' T_and ?_)
    | (with_reducible refine' T_or ?_)
    | ((with_reducible refine' T_cmp ?h1 ?_); (case h1 => rfl))
    | ((with_reducible refine' T_val ?h1 ?_); (case h1 => rfl)))
local macro_rules
  | `(tactic| walk_at "ln") => `(tactic| first | decide | ((try simp only [List.length_map, List.length_append, List.length_cons, List.length_nil, List.length_replicate, List.length_range, lim]); omega))
local macro_rules
  | `(tactic| walk_at "vl") => `(tactic| first
    | (with_reducible refine' B_add ?_)
    | (with_reducible refine' B_sub ?_)
    | ((with_reducible refine' B_mod ?hz ?_); (case hz => decide))
    | ((with_reducible refine' B_pow ?hz ?_); (case hz => decide))
    | (with_reducible refine' U_neg ?_)
    | (with_reducible refine' I_int ?_)
    | (with_reducible refine' A_add ?_)
    | (with_reducible refine' A_sub ?_)
    | (with_reducible refine' C_lt ?_)
    | (with_reducible refine' C_le ?_)
    | (with_reducible refine' C_gt ?_)
    | (with_reducible refine' C_ge ?_)
    | (with_reducible refine' C_eqL ?_)
    | (with_reducible refine' C_neL ?_)
    | ((with_reducible refine' P_neg1 ?hl ?_); (case hl => walk_at "ln"))
    | ((refine' Ty_list ?hl ?_); (case hl => walk_at "ln"))
    | (with_reducible refine' C_eqi ?_)
    | (with_reducible refine' C_nei ?_)
    | (with_reducible refine' C_isnot ?_)
    | (with_reducible refine' Ty_int ?_)
    | (with_reducible refine' Is_il ?_)
    | (with_reducible refine' Is_ii ?_)
    | (with_reducible refine' Is_bi ?_)
    | (with_reducible refine' V_tr ?_)
    | (with_reducible refine' V_tri ?_)
    | ((with_reducible refine' X_ints ?hl ?hj ?_); (case hl => walk_at "ln"); (case hj => walk_at "ln"))
    | ((with_reducible refine' R_nat ?hl ?_); (case hl => walk_at "ln"))
    | ((with_reducible refine' S_list ?hl ?_); (case hl => walk_at "ln"))
    | (refine' F_sum ?_)
    | ((refine' F_maxL ?hl ?_); (case hl => walk_at "ln"))
    | ((with_reducible refine' X_rf (d := .tuple _) ?hl ?_); (case hl => rfl))
    | ((with_reducible refine' X_int0 ?hl ?hj ?_); (case hl => walk_at "ln"); (case hj => walk_at "ln"))
    | ((with_reducible refine' O_own ?ho ?_); (case ho => refine' ownL_of ?ha ?hl; (case ha => walk_at "lk"); (case hl => walk_at "ln")))
    | ((with_reducible refine' P_pos ?hl ?_); (case hl => walk_at "ln"))
    | ((with_reducible refine' B_zeros ?hl ?hj ?_); (case hl => walk_at "ln"); (case hj => walk_at "ln"))
    | (refine' L_ok ?hl ?_; (case hl => exact Nat.le_of_ble_eq_true rfl))
    | ((with_reducible refine' C_t ?hl ?_); (case hl => with_unfolding_all rfl))
    | ((with_reducible refine' C_f ?hl ?_); (case hl => with_unfolding_all rfl))
    | (with_reducible refine' K_tt ?_)
    | (with_reducible refine' K_ff ?_)
    | (with_reducible refine' K_tf ?_)
    | (with_reducible refine' K_ft ?_)
    | (with_reducible refine' K_n1 ?_)
    | (with_reducible refine' K_n2 ?_)
    | ((refine' F_len ?hl ?_); (case hl => walk_at "ln"))
    | ((refine' F_lent ?hl ?_); (case hl => walk_at "ln"))
    | ((with_reducible refine' B_mul ?hm ?_); (case hm => first | exact mulB_small (.inl (by decide)) | exact mulB_small (.inr (by decide)) | exact mulB_small (.inl (by omega)) | exact mulB_small (.inr (by omega))))
    | ((with_reducible refine' B_dv ?hm ?hn ?_); (case hm => first | decide | omega); (case hn => first | decide | omega)))
local macro_rules
  | `(tactic| walk_at "w") => `(tactic| (repeat (first | walk_at "ex" | walk_at "ev" | walk_at "vl")))
local macro_rules
  | `(tactic| walk_at "ex") => `(tactic| first
    | ((with_reducible refine' X_st ?h1 ?_); (case h1 => rfl))
    | (with_reducible refine' Tx_n ?_))
local macro_rules
  | `(tactic| walk_at "vl") => `(tactic| first
    | ((with_reducible refine' X_rows ?hl ?hj ?_); (case hl => walk_at "ln"); (case hj => walk_at "ln"))
    | ((with_reducible refine' B_snoc ?hl ?_); (case hl => walk_at "ln"))
    | (with_reducible refine' F_abs ?_)
    | ((refine' F_minL ?hl ?_); (case hl => walk_at "ln"))
    | ((refine' F_rev ?hl ?_); (case hl => walk_at "ln"))
    | ((with_reducible refine' R_down ?hl ?hj ?_); (case hl => first | decide | omega); (case hj => first | decide | omega))
    | (with_reducible refine' C_eqb ?_)
    | (with_reducible refine' C_eqR ?_)
    | (with_reducible refine' C_neR ?_))
local macro_rules
  | `(tactic| walk_at "ln") => `(tactic| ((try simp only [List.length_map, List.length_append, List.length_cons, List.length_nil, List.length_replicate, List.length_range, List.length_reverse, sortI_len, lim]); omega))

section
variable {P : Params} {n : Nat}

theorem at_okI {zs : List Int} {k : Nat} {kz : Int} (e : kz = k) (hz : zs.length ≤ 63) (hk : k < 100) : (It (Mine.hd.heap_39 P) (n + 20)).call "_law_at" [.list (zs.map .int), .int kz] = .ok (.int (atI zs k 4)) := by
  rw [e]; exact at_ok hz hk

def voteF (zs : List Int) (i : Nat) : Int :=
  if (atI zs 2 4).fmod 2 = 0 then (atI zs (3 + i) 4).fmod (10 ^ 30) else (atI zs (3 + i) 4).fmod 12 * (1 + ((atI zs 2 4).fdiv 2).fmod (10 ^ 20))
def votes0 (zs : List Int) (p : Nat) : List Int := (List.range p).map (voteF zs)
def votesF (zs : List Int) (p : Nat) : List Int := if (votes0 zs p).sum = 0 then (votes0 zs p).set (p - 1) 1 else votes0 zs p
def roomF (p : Nat) : Int := if p = 4 then 5 else 7
theorem fmod_bd (a : Int) {b : Int} (hb : 0 < b) : 0 ≤ a.fmod b ∧ a.fmod b < b := by
  rw [Int.fmod_eq_emod_of_nonneg _ (Int.le_of_lt hb)]
  exact ⟨Int.emod_nonneg _ (by omega), Int.emod_lt_of_pos _ hb⟩

/-! what the law compares -/
def errsF (votes : List Int) (S : Int) : List (List Int) := (sharesF S votes.length).map (sumsF votes S)
def lowF (votes : List Int) (S : Int) : List Int := (List.range votes.length).map fun k => minL ((errsF votes S).map fun s => s.getD k 0)
def leastF (votes : List Int) (S : Int) : List (List Int) := ((List.range (sharesF S votes.length).length).filter fun j => decide ((errsF votes S).getD j [] = lowF votes S)).map fun j => (sharesF S votes.length).getD j []

/-- what the plain law says -/
structure LOk (votes : List Int) (S : Nat) : Prop where
  vok : VOk votes S
  sum : (lrF votes S).1.sum = S
  len : (lrF votes S).1.length = votes.length
  bd : ∀ x ∈ (lrF votes S).1, 0 ≤ x ∧ x ≤ 1000
  near : ∀ i, i < votes.length → (if (lrF votes S).1.getD i 0 * votes.sum - S * votes.getD i 0 < 0 then -((lrF votes S).1.getD i 0 * votes.sum - S * votes.getD i 0) else (lrF votes S).1.getD i 0 * votes.sum - S * votes.getD i 0) < votes.sum
  least0 : 0 < (leastF votes S).length
  most : ∀ i, i < votes.length → (lrF votes S).1.getD i 0 ≤ maxL ((leastF votes S).map fun r => r.getD i 0)
  tie : (lrF votes S).2 = true → 1 < (leastF votes S).length
  one : (lrF votes S).2 = false → leastF votes S = [(lrF votes S).1]
  rows : (S + 1) ^ (votes.length - 1) ≤ 1000

theorem shares_mem {S p : Nat} (hp : 1 ≤ p) {r : List Int} (h : r ∈ sharesF S p) : r.length = p ∧ (∀ x ∈ r, 0 ≤ x ∧ x ≤ S) ∧ r.sum = S := by
  unfold sharesF at h
  obtain ⟨q, hq, rfl⟩ := List.mem_map.mp h
  obtain ⟨h1, h2, h3, h4⟩ := rowsG_mem (t := S) (by omega) hq
  have hle : ∀ {a : List Int}, (∀ x ∈ a, 0 ≤ x) → 0 ≤ a.sum ∧ ∀ x ∈ a, x ≤ a.sum := fun {a} => by
    induction a with
    | nil => simp
    | cons y r ih =>
      intro h
      obtain ⟨i1, i2⟩ := ih fun x hx => h x (List.mem_cons_of_mem _ hx)
      have hy := h y List.mem_cons_self
      rw [List.sum_cons]
      refine ⟨by omega, fun x hx => ?_⟩
      rcases List.mem_cons.mp hx with rfl | hx
      · omega
      · have := i2 x hx; omega
  refine ⟨by simp [h1]; omega, fun x hx => ?_, by simp; omega⟩
  rcases List.mem_append.mp hx with hx | hx
  · have := (hle h2).2 x hx; have := h2 x hx; omega
  · have : x = S - q.sum := by simpa using hx
    omega
theorem shares_len {S p : Nat} (hp : 1 ≤ p) (hb : (S + 1) ^ (p - 1) ≤ 1000) : (sharesF S p).length ≤ 1000 ∧ 0 < (sharesF S p).length := by
  unfold sharesF
  rw [List.length_map]
  refine ⟨Nat.le_trans (rowsG_len (by omega) _) hb, ?_⟩
  have : ∀ k, 0 < (rowsG S k).length := fun k => by
    induction k with
    | zero => exact Nat.zero_lt_one
    | succ k ih =>
      obtain ⟨r, hr⟩ := List.exists_mem_of_length_pos ih
      have hm := rowsG_mem (t := S) (by omega) hr
      refine List.length_pos_of_mem (a := r ++ [0]) (List.mem_flatMap.mpr ⟨r, hr, List.mem_map.mpr ⟨0, downs_mem.mpr (by omega), rfl⟩⟩)
  exact this _
theorem getRow {rows : List (List Int)} {Pr : List Int → Prop} (h : ∀ r ∈ rows, Pr r) {j : Nat} (hj : j < rows.length) : Pr (rows.getD j []) := by
  rw [List.getD_eq_getElem?_getD, List.getElem?_eq_getElem hj]; exact h _ (List.getElem_mem hj)

theorem M_encI {β : Type} {enc : β → D} {xs : List β} {f : D → Out D} {T : D → Expr → Out Bool} {Q : List D → Prop} (g : β → Int) (h2 : ∀ x ∈ xs, W (f (enc x)) (fun d => d = .int (g x))) (h : Q ((xs.map g).map .int)) : W (filtL (fun v => tests (T v) []) f (xs.map enc)) Q :=
  M_enc (fun x => .int (g x)) h2 (by rw [List.map_map] at h; exact h)
theorem sumsF_len {votes : List Int} {S : Int} {r : List Int} : (sumsF votes S r).length = votes.length := by
  unfold sumsF errF
  rw [scanS_len, List.length_reverse, sortI_len, List.length_map, List.length_range]

set_option maxHeartbeats 16000000 in
theorem law_walk {zs : List Int} {p S : Nat} (hz : zs.length ≤ 63) (hp : 1 + (atI zs 0 4).fmod 4 = p) (hS : 1 + (atI zs 1 4).fmod (roomF p) = S) (L : LOk (votesF zs p) S) (hvl : (votesF zs p).length = p) :
    lawX (Mine.hd.heap_39 P) (fun _ => (lrF (votesF zs p) S).2) (n + 70) "law" [.list (zs.map .int)] = .ok (.bool true) := by
  refine W.val ?_
  refine LX_call (binds := [("script", .list (zs.map .int))]) rfl rfl rfl rfl rfl ?_
  have hpb := fmod_bd (atI zs 0 4) (b := 4) (by decide)
  have hp4 : 1 ≤ p ∧ p ≤ 4 := by omega
  have hroom : 1 ≤ roomF p ∧ roomF p ≤ 7 := by unfold roomF; split <;> omega
  dsimp only
  refine exs_app2 (b1 := [_, _, _, _, _, _, _, _]) (b2 := _ :: _) (fun ρ => ρ "parts" = some (false, .int p) ∧ ρ "seats" = some (false, .int S) ∧ (∃ nm, nm ∈ lrNames ∧ ρ "name" = some (false, .str nm)) ∧ ρ "votes" = some (true, .list ((votesF zs p).map .int))) ?_ ?_
  · walk_at "w"
    refine W.eq (at_okI (k := 0) rfl hz (by decide)) ?_
    walk_at "w"
    refine W.eq (at_okI (k := 1) rfl hz (by decide)) ?_
    rw [hp]
    walk_at "w"
    refine X_rf (v := .int (roomF p)) ?_ ?_
    · obtain rfl | rfl | rfl | rfl : p = 1 ∨ p = 2 ∨ p = 3 ∨ p = 4 := by omega
      all_goals rfl
    walk_at "w"
    refine B_mod (by omega) ?_
    walk_at "w"
    rw [hS]
    walk_at "w"
    have h3 := fmod_bd ((atI zs 1 4).fdiv 7) (b := 3) (by decide)
    refine W.mono (Q := fun d => ∃ nm, nm ∈ lrNames ∧ d = .str nm) ?_ ?_
    · generalize ((atI zs 1 4).fdiv 7).fmod 3 = z at h3 ⊢
      obtain rfl | rfl | rfl : z = 0 ∨ z = 1 ∨ z = 2 := by omega
      · exact X_rf rfl ⟨_, .head _, rfl⟩
      · exact X_rf rfl ⟨_, .tail _ (.head _), rfl⟩
      · exact X_rf rfl ⟨_, .tail _ (.tail _ (.head _)), rfl⟩
    rintro _ ⟨nm, hnm, rfl⟩
    walk_at "w"
    refine W.eq (at_okI (k := 2) rfl hz (by decide)) ?_
    walk_at "w"
    refine forR_inv (fun j ρ => ρ "votes" = some (true, .list (((List.range j).map (voteF zs)).map .int)) ∧ ρ "script" = some (false, .list (zs.map .int)) ∧ ρ "third" = some (false, .int (atI zs 2 4)) ∧ ρ "parts" = some (false, .int p) ∧ ρ "seats" = some (false, .int S) ∧ ρ "name" = some (false, .str nm)) (fun ρ hI => ?_) (fun j ρ hj hI => ?_) ⟨?_, ?_, ?_, ?_, ?_, ?_⟩
    · obtain ⟨r1, r2, r3, r4, r5, r6⟩ := hI
      replace r1 : ρ "votes" = some (true, .list ((votes0 zs p).map .int)) := r1
      have hl0 : (votes0 zs p).length = p := by simp [votes0]
      walk_at "w"
      refine K_d1 (fun hc => ?_) (fun hc => ?_)
      · have hvF : votesF zs p = (votes0 zs p).set (p - 1) 1 := by unfold votesF; rw [if_pos hc]
        walk_at "w"
        rw [set_ints, List.length_map, hl0, ← hvF]
        refine ⟨rfl, ?_, ?_, ⟨nm, hnm, ?_⟩, ?_⟩ <;> walk_at "lk"
      · have hvF : votesF zs p = votes0 zs p := by unfold votesF; rw [if_neg hc]
        rw [← hvF] at r1
        walk_at "w"
        exact ⟨rfl, r4, r5, ⟨nm, hnm, r6⟩, r1⟩
    · obtain ⟨r1, r2, r3, r4, r5, r6⟩ := hI
      have hrs : (List.range (j + 1)).map (voteF zs) = (List.range j).map (voteF zs) ++ [voteF zs j] := by rw [List.range_succ, List.map_append]; rfl
      walk_at "w"
      refine W.eq (at_okI (k := 3 + j) (by omega) hz (by omega)) ?_
      walk_at "w"
      refine K_d1 (fun hc => ?_) (fun hc => ?_)
      · have hvF : voteF zs j = (atI zs (3 + j) 4).fmod (10 ^ 30) := by unfold voteF; rw [if_pos hc]
        walk_at "w"
        refine ⟨?_, by walk_at "lk", by walk_at "lk", by walk_at "lk", by walk_at "lk", by walk_at "lk"⟩
        rw [hrs, hvF, List.map_append (f := PyData.int)]; walk_at "lk"
      · have hvF : voteF zs j = (atI zs (3 + j) 4).fmod 12 * (1 + ((atI zs 2 4).fdiv 2).fmod (10 ^ 20)) := by unfold voteF; rw [if_neg hc]
        have h12 := fmod_bd (atI zs (3 + j) 4) (b := 12) (by decide)
        walk_at "w"
        refine ⟨?_, by walk_at "lk", by walk_at "lk", by walk_at "lk", by walk_at "lk", by walk_at "lk"⟩
        rw [hrs, hvF, List.map_append (f := PyData.int)]; walk_at "lk"
    all_goals walk_at "lk"
  · rintro ρ ⟨r1, r2, ⟨nm, hnm, r3⟩, r4⟩
    have VO := L.vok
    have hvg : ∀ i, 0 ≤ (votesF zs p).getD i 0 ∧ (votesF zs p).getD i 0 ≤ 10 ^ 40 := fun i => getD_all (Pr := fun x => 0 ≤ x ∧ x ≤ 10 ^ 40) (fun x hx => ⟨(VO.hv x hx).1, by have := (VO.hv x hx).2; omega⟩) (by decide) i
    have hS2 := VO.hS
    have hS1 := VO.hS0
    have hV1 := VO.hV
    have hV3 := VO.hV2
    have hag : ∀ i, 0 ≤ (lrF (votesF zs p) S).1.getD i 0 ∧ (lrF (votesF zs p) S).1.getD i 0 ≤ 1000 := fun i => getD_all (Pr := fun x => 0 ≤ x ∧ x ≤ 1000) L.bd (by omega) i
    have hal := L.len
    have Lr := L.rows
    rw [hvl] at Lr hal
    have hsl := shares_len (S := S) hp4.1 Lr
    have hsm : ∀ r ∈ sharesF S p, _ := fun r hr => shares_mem hp4.1 hr
    refine exs_app2 (b1 := [_, _, _, _, _, _, _, _, _, _, _, _]) (b2 := _ :: _) (fun ρ => ρ "parts" = some (false, .int p) ∧ ρ "seats" = some (false, .int S) ∧ ρ "name" = some (false, .str nm) ∧ ρ "votes" = some (false, .list ((votesF zs p).map .int)) ∧ ρ "handed" = some (false, .list ((votesF zs p).map .int)) ∧ ρ "tied" = some (false, .bool false) ∧ ρ "least" = some (true, .list ((leastF (votesF zs p) S).map rowD))) ?_ ?_
    · walk_at "w"
      refine W.eq (shares_ok hp4.1 hp4.2 hS2 Lr) ?_
      walk_at "w"
      refine M_enc (enc := rowD) (fun r => rowD (sumsF (votesF zs p) S r)) (fun r hr => ?_) ?_
      · have hr := hsm r hr
        walk_at "w"
        refine W.eq (errors_ok VO.h1 VO.h4 hS2 (by omega) (fun x hx => ⟨(hr.2.1 x hx).1, by have := (hr.2.1 x hx).2; omega⟩)) ?_
        rfl
      rw [show (sharesF S p).map (fun r => rowD (sumsF (votesF zs p) S r)) = (errsF (votesF zs p) S).map rowD by unfold errsF; rw [hvl, List.map_map]; rfl]
      have hel : (errsF (votesF zs p) S).length = (sharesF S p).length := by unfold errsF; rw [hvl, List.length_map]
      have hem : ∀ s ∈ errsF (votesF zs p) S, s.length = p := fun s hs => by
        unfold errsF at hs
        obtain ⟨r, _, rfl⟩ := List.mem_map.mp hs
        rw [sumsF_len, hvl]
      walk_at "w"
      refine M_range (fun k => minL ((errsF (votesF zs p) S).map fun s => s.getD k 0)) (fun k hk => ?_) ?_
      · walk_at "w"
        refine M_encI (enc := rowD) (fun s => s.getD k 0) (fun s hs => ?_) ?_
        · have hs := hem s hs
          walk_at "w"
          rfl
        walk_at "w"
        rfl
      rw [show (List.range p).map (fun k => minL ((errsF (votesF zs p) S).map fun s => s.getD k 0)) = lowF (votesF zs p) S by unfold lowF; rw [hvl]]
      walk_at "w"
      rw [List.length_map]
      walk_at "w"
      refine M_rfiltD (fun j => decide ((errsF (votesF zs p) S).getD j [] = lowF (votesF zs p) S)) (fun j => rowD ((sharesF S p).getD j [])) (fun j hj => ?_) (fun j hj _ => ?_) ?_
      · walk_at "w"
        rfl
      · walk_at "w"
        rfl
      rw [show ((List.range (sharesF S p).length).filter fun j => decide ((errsF (votesF zs p) S).getD j [] = lowF (votesF zs p) S)).map (fun j => rowD ((sharesF S p).getD j [])) = (leastF (votesF zs p) S).map rowD by unfold leastF; rw [hvl, List.map_map]; rfl]
      walk_at "w"
      refine W.eq (lr2_ok VO) ?_
      walk_at "w"
      refine W.eq (plain_ok (by omega)) ?_
      walk_at "w"
      rw [decide_eq_true hal]
      walk_at "w"
      rw [decide_eq_true L.sum]
      walk_at "w"
      refine W.eq (compute3_ok hnm VO) ?_
      walk_at "w"
      refine W.eq (plain_ok (by omega)) ?_
      walk_at "w"
      rw [decide_eq_true hal]
      walk_at "w"
      rw [decide_eq_true rfl]
      walk_at "w"
      refine forR_inv (fun j ρ => ρ "parts" = some (false, .int p) ∧ ρ "seats" = some (false, .int S) ∧ ρ "name" = some (false, .str nm) ∧ ρ "votes" = some (false, .list ((votesF zs p).map .int)) ∧ ρ "handed" = some (false, .list ((votesF zs p).map .int)) ∧ ρ "voters" = some (false, .int (votesF zs p).sum) ∧ ρ "answer" = some (false, .list ((lrF (votesF zs p) S).1.map .int)) ∧ ρ "least" = some (true, .list ((leastF (votesF zs p) S).map rowD))) (fun ρ hI => ?_) (fun i ρ hi hI => ?_) ⟨?_, ?_, ?_, ?_, ?_, ?_, ?_, ?_⟩
      · obtain ⟨q1, q2, q3, q4, q5, q6, q7, q8⟩ := hI
        walk_at "w"
        refine ⟨rfl, ?_, ?_, ?_, ?_, ?_, ?_, ?_⟩ <;> walk_at "lk"
      · obtain ⟨q1, q2, q3, q4, q5, q6, q7, q8⟩ := hI
        have hai := hag i
        have hvi := hvg i
        have hnr := L.near i (by omega)
        have hmo := L.most i (by omega)
        have hll : (leastF (votesF zs p) S).length ≤ 1000 := by
          unfold leastF
          rw [List.length_map, hvl]
          exact Nat.le_trans (List.length_filter_le _ _) (by rw [List.length_range]; exact hsl.1)
        have hlm : ∀ r ∈ leastF (votesF zs p) S, r.length = p := fun r hr => by
          unfold leastF at hr
          obtain ⟨j, hj, rfl⟩ := List.mem_map.mp hr
          rw [hvl]
          have hj2 := List.mem_range.mp (List.mem_filter.mp hj).1
          rw [hvl] at hj2
          exact (getRow hsm hj2).1
        have hl0 := L.least0
        walk_at "w"
        refine K_d1 (fun hc => ?_) (fun hc => ?_)
        · exact absurd hc (Int.not_le.mpr hnr)
        walk_at "w"
        refine M_encI (enc := rowD) (fun r => r.getD i 0) (fun r hr => ?_) ?_
        · have hr := hlm r hr
          walk_at "w"
          rfl
        walk_at "w"
        refine K_d1 (fun hc => ?_) (fun hc => ?_)
        · exact absurd hmo (Int.not_le.mpr hc)
        walk_at "w"
        refine ⟨?_, ?_, ?_, ?_, ?_, ?_, ?_, ?_⟩ <;> walk_at "lk"
      all_goals walk_at "lk"
    · rintro ρ ⟨q1, q2, q3, q4, q5, q6, q7⟩
      have hll : (leastF (votesF zs p) S).length ≤ 1000 := by
        unfold leastF
        rw [List.length_map, hvl]
        exact Nat.le_trans (List.length_filter_le _ _) (by rw [List.length_range]; exact hsl.1)
      cases hlt : (lrF (votesF zs p) S).2 with
      | false =>
        have hone := L.one hlt
        refine W_cons (X_tryN rfl ?_)
        walk_at "w"
        refine W.eq (compute5_ok hnm VO hlt) ?_
        walk_at "w"
        refine W.eq (plain_ok (by omega)) ?_
        walk_at "w"
        rw [decide_eq_true hal]
        walk_at "w"
        refine C_neR (ys := [(lrF (votesF zs p) S).1]) ?_
        rw [decide_eq_true hone]
        walk_at "w"
        rw [show (false == decide (1 < (((leastF (votesF zs p) S).map rowD).length : Int))) = true by rw [hone]; rfl]
        walk_at "w"
        rw [decide_eq_true rfl]
        rfl
      | true =>
        have htie := L.tie hlt
        refine W_cons (X_tryX rfl rfl (TX_txCall rfl rfl ?_) ?_)
        · walk_at "w"
          exact compute_tie hnm VO hlt
        walk_at "w"
        rw [show (true == decide (1 < (((leastF (votesF zs p) S).map rowD).length : Int))) = true by rw [List.length_map, decide_eq_true (show (1 : Int) < ((leastF (votesF zs p) S).length : Int) by omega)]; rfl]
        walk_at "w"
        rw [decide_eq_true rfl]
        rfl
end
end Mine

/-! M05d -/
namespace Mine

section
variable {votes : List Int} {S : Nat}

theorem getD_rmap {f : Nat → Int} {n j : Nat} (h : j < n) : ((List.range n).map f).getD j 0 = f j := by
  rw [List.getD_eq_getElem?_getD, List.getElem?_eq_getElem (by simpa using h)]; simp
theorem getD_vmap {f : Int → Int} {xs : List Int} {j : Nat} (h : j < xs.length) : (xs.map f).getD j 0 = f (xs.getD j 0) := by
  rw [List.getD_eq_getElem?_getD, List.getD_eq_getElem?_getD, List.getElem?_eq_getElem (by simpa using h), List.getElem?_eq_getElem h]; simp

/-! the least rows -/
theorem low_eq (hn : 0 < votes.length) (hV : 0 < votes.sum) {b : List Int} (hb : b ∈ sharesF S votes.length) (B : Bal votes S b) : lowF votes S = sumsF votes S b := by
  have hbm := shares_mem (S := S) hn hb
  refine getD_ext (by unfold lowF; rw [sumsF_len, List.length_map, List.length_range]) fun k hk => ?_
  unfold lowF at hk ⊢
  rw [List.length_map, List.length_range] at hk
  rw [getD_rmap hk]
  refine minL_eq (List.mem_map.mpr ⟨sumsF votes S b, List.mem_map.mpr ⟨b, hb, rfl⟩, rfl⟩) fun x hx => ?_
  obtain ⟨s, hs, rfl⟩ := List.mem_map.mp hx
  obtain ⟨r, hr, rfl⟩ := List.mem_map.mp hs
  have hrm := shares_mem (S := S) hn hr
  exact bal_sums hn hV hbm.1 hrm.1 (by rw [hbm.2.2, hrm.2.2]) B hk
theorem least_eq (hn : 0 < votes.length) (hV : 0 < votes.sum) {b : List Int} (hb : b ∈ sharesF S votes.length) (B : Bal votes S b) : leastF votes S = (sharesF S votes.length).filter fun x => decide (sumsF votes S x = sumsF votes S b) := by
  rw [← filter_getD [] (fun x => decide (sumsF votes S x = sumsF votes S b))]
  unfold leastF
  congr 1
  refine List.filter_congr fun j hj => ?_
  have hj := List.mem_range.mp hj
  rw [low_eq hn hV hb B]
  congr 1
  unfold errsF
  rw [List.getD_eq_getElem?_getD, List.getD_eq_getElem?_getD, List.getElem?_eq_getElem (by simpa using hj), List.getElem?_eq_getElem hj]
  simp

/-! the rows about the shares rounded down -/
abbrev qA (votes : List Int) (S : Nat) (i : Nat) : Int := (repF votes S).getD i 0
abbrev rA (votes : List Int) (S : Nat) (i : Nat) : Int := (remF votes S).getD i 0
theorem q_at {i : Nat} (hi : i < votes.length) : qA votes S i = (votes.getD i 0 * S).fdiv votes.sum := by unfold qA repF; rw [getD_vmap hi]
theorem r_at {i : Nat} (hi : i < votes.length) : rA votes S i = votes.getD i 0 * S - qA votes S i * votes.sum := by unfold rA remF; rw [getD_rmap hi]
theorem r_bd (hV : 0 < votes.sum) {i : Nat} (hi : i < votes.length) : 0 ≤ rA votes S i ∧ rA votes S i < votes.sum := by
  rw [r_at hi, q_at hi, Int.fdiv_eq_ediv_of_nonneg _ (Int.le_of_lt hV)]
  have h1 := Int.mul_ediv_add_emod (votes.getD i 0 * S) votes.sum
  have h2 := Int.emod_nonneg (votes.getD i 0 * S) (show votes.sum ≠ 0 by omega)
  have h3 := Int.emod_lt_of_pos (votes.getD i 0 * S) hV
  rw [Int.mul_comm] at h1
  omega
def rowA (votes : List Int) (S : Nat) (A : Nat → Bool) : List Int := (List.range votes.length).map fun i => qA votes S i + if A i = true then 1 else 0
theorem rowA_len {A : Nat → Bool} : (rowA votes S A).length = votes.length := by simp [rowA]
theorem rowA_at {A : Nat → Bool} {i : Nat} (hi : i < votes.length) : (rowA votes S A).getD i 0 = qA votes S i + if A i = true then 1 else 0 := getD_rmap hi
theorem rep_len : (repF votes S).length = votes.length := by simp [repF]
theorem rowA_sum {A : Nat → Bool} : (rowA votes S A).sum = (repF votes S).sum + cI A votes.length := by
  unfold rowA cI
  have := sum_map_lin (f := qA votes S) (g := fun i => if A i = true then (1 : Int) else 0) (c := 1) (List.range votes.length)
  simp only [Int.mul_one] at this
  rw [this]
  congr 1
  rw [← rep_len (votes := votes) (S := S)]
  exact sum_at
theorem e_rowA {A : Nat → Bool} {i : Nat} (hi : i < votes.length) : eF votes S (rowA votes S A) i = (if A i = true then votes.sum else 0) - rA votes S i := by
  unfold eF
  rw [rowA_at hi, r_at hi, Int.add_mul, Int.mul_comm (S : Int)]
  split <;> omega
theorem bal_rowA (hV : 0 < votes.sum) {A : Nat → Bool} (h : ∀ i j, i < votes.length → j < votes.length → A i = true → ¬ A j = true → rA votes S j ≤ rA votes S i) : Bal votes S (rowA votes S A) := fun i j hi hj => by
  rw [e_rowA hi, e_rowA hj]
  have r1 := r_bd (S := S) hV hi
  have r2 := r_bd (S := S) hV hj
  by_cases a : A i = true <;> by_cases b : A j = true
  · rw [if_pos a, if_pos b]; omega
  · rw [if_pos a, if_neg b]; have := h i j hi hj a b; omega
  · rw [if_neg a, if_pos b]; omega
  · rw [if_neg a, if_neg b]; omega
theorem q_nn (hv : ∀ v ∈ votes, 0 ≤ v) (hV : 0 < votes.sum) {i : Nat} (hi : i < votes.length) : 0 ≤ qA votes S i := by
  rw [q_at hi, Int.fdiv_eq_ediv_of_nonneg _ (Int.le_of_lt hV)]
  refine Int.ediv_nonneg (Int.mul_nonneg ?_ (by omega)) (Int.le_of_lt hV)
  exact getD_all (Pr := fun x => 0 ≤ x) hv (Int.le_refl 0) i
theorem rowA_nn (hv : ∀ v ∈ votes, 0 ≤ v) (hV : 0 < votes.sum) {A : Nat → Bool} : ∀ x ∈ rowA votes S A, 0 ≤ x := fun x hx => by
  obtain ⟨i, hi, rfl⟩ := List.mem_map.mp hx
  have := q_nn (S := S) hv hV (List.mem_range.mp hi)
  split <;> omega
theorem rowA_mem (hv : ∀ v ∈ votes, 0 ≤ v) (hn : 0 < votes.length) (hV : 0 < votes.sum) {A : Nat → Bool} (h : (repF votes S).sum + cI A votes.length = S) : rowA votes S A ∈ sharesF S votes.length :=
  shares_all (by omega) hn rowA_len (rowA_nn hv hV) (by rw [rowA_sum, h])
/-- a row that is balanced with something to spare is alone -/
theorem sum_getD_eq {x b : List Int} {n : Nat} (hx : x.length = n) (hb : b.length = n) (hs : x.sum = b.sum) (h : ∀ i, i < n → x.getD i 0 ≤ b.getD i 0) : x = b := by
  refine getD_ext (by omega) fun k hk => ?_
  refine Int.le_antisymm (h k (by omega)) ?_
  have h1 : ((List.range n).map fun i => x.getD i 0).sum = x.sum := by rw [← hx]; exact sum_at
  have h2 : ((List.range n).map fun i => b.getD i 0).sum = b.sum := by rw [← hb]; exact sum_at
  have h3 : ((List.range n).map fun i => b.getD i 0 - x.getD i 0).sum = 0 := by rw [sum_map_sub, h1, h2, hs]; omega
  have key : ∀ (l : List Nat) (f : Nat → Int), (∀ i ∈ l, 0 ≤ f i) → 0 ≤ (l.map f).sum ∧ ∀ i ∈ l, f i ≤ (l.map f).sum := fun l f => by
    induction l with
    | nil => simp
    | cons y r ih =>
      intro h
      obtain ⟨i1, i2⟩ := ih fun x hx => h x (List.mem_cons_of_mem _ hx)
      have hy := h y List.mem_cons_self
      rw [List.map_cons, List.sum_cons]
      refine ⟨by omega, fun x hx => ?_⟩
      rcases List.mem_cons.mp hx with rfl | hx
      · omega
      · have := i2 x hx; omega
  have := (key (List.range n) (fun i => b.getD i 0 - x.getD i 0) fun i hi => by have := h i (List.mem_range.mp hi); omega).2 k (List.mem_range.mpr (by omega))
  omega
theorem bal_alone (hV : 0 < votes.sum) {b x : List Int} (hb : b.length = votes.length) (hx : x.length = votes.length) (hs : x.sum = b.sum) (B : ∀ i j, i < votes.length → j < votes.length → eF votes S b i < eF votes S b j + votes.sum) (B' : Bal votes S x) : x = b := by
  by_cases h1 : ∀ i, i < votes.length → x.getD i 0 ≤ b.getD i 0
  · exact sum_getD_eq hx hb hs h1
  · by_cases h2 : ∀ i, i < votes.length → b.getD i 0 ≤ x.getD i 0
    · exact (sum_getD_eq hb hx hs.symm h2).symm
    · exfalso
      obtain ⟨i, h1⟩ := Classical.not_forall.mp h1
      obtain ⟨hi, h1⟩ := Classical.not_imp.mp h1
      obtain ⟨j, h2⟩ := Classical.not_forall.mp h2
      obtain ⟨hj, h2⟩ := Classical.not_imp.mp h2
      have b1 := B j i hj hi
      have b2 := B' i j hi hj
      have c1 : (b.getD i 0 + 1) * votes.sum ≤ x.getD i 0 * votes.sum := Int.mul_le_mul_of_nonneg_right (by omega) (Int.le_of_lt hV)
      have c2 : (x.getD j 0 + 1) * votes.sum ≤ b.getD j 0 * votes.sum := Int.mul_le_mul_of_nonneg_right (by omega) (Int.le_of_lt hV)
      rw [Int.add_mul] at c1 c2
      unfold eF at b1 b2
      omega
end
end Mine

/-! M05e -/
namespace Mine

theorem cI_trunc {F : Nat → Bool} {j : Nat} : ∀ {n : Nat}, j ≤ n → cI (fun i => decide (i < j) && F i) n = cI F j
  | 0, h => by rw [show j = 0 by omega]; simp [cI]
  | n + 1, h => by
    rw [cI_succ]
    by_cases hj : j = n + 1
    · subst hj
      rw [cI_succ]
      have : cI (fun i => decide (i < n + 1) && F i) n = cI F n := cI_congr fun i hi => by rw [decide_eq_true (show i < n + 1 by omega)]; rfl
      rw [this]; simp
    · rw [cI_trunc (n := n) (by omega)]
      simp; omega
theorem perm_sum' {f : Int → Int} {l l' : List Int} (h : l.Perm l') : (l.map f).sum = (l'.map f).sum := perm_sum h
theorem ind_bd {p : Int → Bool} : ∀ l : List Int, 0 ≤ (l.map fun x => if p x = true then (1 : Int) else 0).sum ∧ (l.map fun x => if p x = true then (1 : Int) else 0).sum ≤ l.length
  | [] => by simp
  | x :: r => by
    obtain ⟨h1, h2⟩ := ind_bd (p := p) r
    rw [List.map_cons, List.sum_cons, List.length_cons]
    split <;> omega
theorem ind_all {p : Int → Bool} : ∀ {l : List Int}, (∀ x ∈ l, p x = true) → (l.map fun x => if p x = true then (1 : Int) else 0).sum = l.length
  | [], _ => by simp
  | x :: r, h => by
    rw [List.map_cons, List.sum_cons, List.length_cons, ind_all fun y hy => h y (List.mem_cons_of_mem _ hy), if_pos (h x List.mem_cons_self)]; omega
theorem ind_none {p : Int → Bool} : ∀ {l : List Int}, (∀ x ∈ l, ¬ p x = true) → (l.map fun x => if p x = true then (1 : Int) else 0).sum = 0
  | [], _ => by simp
  | x :: r, h => by
    rw [List.map_cons, List.sum_cons, ind_none fun y hy => h y (List.mem_cons_of_mem _ hy), if_neg (h x List.mem_cons_self)]; rfl
theorem take_le {s : List Int} (hs : s.Pairwise (· ≤ ·)) {k : Nat} (hk : k < s.length) : (∀ x ∈ s.take (k + 1), x ≤ s.getD k 0) ∧ ∀ x ∈ s.drop k, s.getD k 0 ≤ x := by
  have hg : s.getD k 0 = s[k] := by rw [List.getD_eq_getElem?_getD, List.getElem?_eq_getElem hk]; rfl
  rw [hg]
  have hp := List.pairwise_iff_getElem.mp hs
  refine ⟨fun x hx => ?_, fun x hx => ?_⟩
  · obtain ⟨i, hi, rfl⟩ := List.mem_iff_getElem.mp hx
    rw [List.length_take] at hi
    rw [List.getElem_take]
    by_cases h : i = k
    · subst h; exact Int.le_refl _
    · exact hp i k (by omega) hk (by omega)
  · obtain ⟨i, hi, rfl⟩ := List.mem_iff_getElem.mp hx
    rw [List.length_drop] at hi
    rw [List.getElem_drop]
    by_cases h : i = 0
    · subst h; exact Int.le_refl _
    · exact hp k (k + i) hk (by omega) (by omega)

section
variable {votes : List Int} {S : Nat}

/-- how many seats are left -/
def mI (votes : List Int) (S : Nat) : Int := S - (repF votes S).sum
theorem rem_eq : remF votes S = (List.range votes.length).map (rA votes S) := by
  refine getD_ext (by simp [remF]) fun k hk => ?_
  have hk' : k < votes.length := by simpa [remF] using hk
  rw [getD_rmap hk']
theorem rem_sum : ((List.range votes.length).map (rA votes S)).sum = mI votes S * votes.sum := by
  have e1 : (List.range votes.length).map (rA votes S) = (List.range votes.length).map (fun i => votes.getD i 0 * S - qA votes S i * votes.sum) := List.map_congr_left fun i hi => r_at (List.mem_range.mp hi)
  rw [e1, sum_map_sub]
  have e2 := sum_map_lin (f := fun i => votes.getD i 0) (g := fun _ => 0) (c := S) (List.range votes.length)
  have e3 := sum_map_lin (f := qA votes S) (g := fun _ => 0) (c := votes.sum) (List.range votes.length)
  have e0 : ((List.range votes.length).map fun _ => (0 : Int)).sum = 0 := by
    generalize List.range votes.length = l
    induction l with
    | nil => rfl
    | cons x r ih => rw [List.map_cons, List.sum_cons, ih]; rfl
  simp only [Int.add_zero] at e2 e3
  rw [e2, e3, e0, sum_at]
  have e4 : ((List.range votes.length).map (qA votes S)).sum = (repF votes S).sum := by rw [← rep_len (votes := votes) (S := S)]; exact sum_at
  rw [e4]
  unfold mI
  rw [Int.sub_mul, Int.mul_comm votes.sum]; omega
theorem cI_le {E E' : Nat → Bool} : ∀ {n : Nat}, (∀ i, i < n → E i = true → E' i = true) → cI E n ≤ cI E' n
  | 0, _ => by simp [cI]
  | n + 1, h => by
    rw [cI_succ, cI_succ]
    have := cI_le (n := n) fun i hi => h i (by omega)
    have hn := h n (by omega)
    by_cases e : E n = true
    · rw [if_pos e, if_pos (hn e)]; omega
    · rw [if_neg e]; split <;> omega
theorem cI_len {E : Nat → Bool} : ∀ n, cI E n ≤ n
  | 0 => by simp [cI]
  | n + 1 => by rw [cI_succ]; have := cI_len (E := E) n; split <;> omega
theorem sum_ind {E : Nat → Bool} {V : Int} (n : Nat) : ((List.range n).map fun i => if E i = true then V else 0).sum = cI E n * V := by
  have := sum_map_lin (f := fun i => if E i = true then (1 : Int) else 0) (g := fun _ => 0) (c := V) (List.range n)
  have e0 : ((List.range n).map fun _ => (0 : Int)).sum = 0 := by
    generalize List.range n = l
    induction l with
    | nil => rfl
    | cons x r ih => rw [List.map_cons, List.sum_cons, ih]; rfl
  rw [e0, Int.add_zero] at this
  unfold cI
  rw [← this]
  congr 1
  refine List.map_congr_left fun i _ => ?_
  split <;> omega
theorem m_bd (hn : 0 < votes.length) (hV : 0 < votes.sum) : 0 ≤ mI votes S ∧ mI votes S < votes.length := by
  have h := rem_sum (votes := votes) (S := S)
  have h1 : 0 ≤ mI votes S * votes.sum := by
    rw [← h]
    have := sum_map_le (f := fun _ => 0) (g := rA votes S) (l := List.range votes.length) fun i hi => (r_bd hV (List.mem_range.mp hi)).1
    have e0 : ((List.range votes.length).map fun _ => (0 : Int)).sum = 0 := by
      generalize List.range votes.length = l
      induction l with
      | nil => rfl
      | cons x r ih => rw [List.map_cons, List.sum_cons, ih]; rfl
    omega
  have h2 : mI votes S * votes.sum ≤ votes.length * (votes.sum - 1) := by
    rw [← h]
    have := sum_map_le (f := rA votes S) (g := fun _ => votes.sum - 1) (l := List.range votes.length) fun i hi => by have := (r_bd (S := S) hV (List.mem_range.mp hi)).2; omega
    have e0 : ∀ n : Nat, ((List.range n).map fun _ => votes.sum - 1).sum = n * (votes.sum - 1) := fun n => by
      have := sum_ind (E := fun _ => true) (V := votes.sum - 1) n
      simp only [if_true] at this
      rw [this]
      congr 1
      have : ∀ n, cI (fun _ => true) n = n := fun n => by
        induction n with
        | zero => simp [cI]
        | succ n ih => rw [cI_succ, ih]; simp
      exact this n
    rw [e0] at this
    exact this
  constructor
  · by_cases hm : 0 ≤ mI votes S
    · exact hm
    · exfalso
      have := Int.mul_le_mul_of_nonneg_right (show mI votes S ≤ -1 by omega) (Int.le_of_lt hV)
      omega
  · by_cases hm : mI votes S < votes.length
    · exact hm
    · exfalso
      have h3 := Int.mul_le_mul_of_nonneg_right (show (votes.length : Int) ≤ mI votes S by omega) (Int.le_of_lt hV)
      rw [Int.mul_sub, Int.mul_one] at h2
      omega
abbrev cA (votes : List Int) (S : Nat) : Int := cutF votes S
def ge (votes : List Int) (S : Nat) (i : Nat) : Bool := decide (cA votes S ≤ rA votes S i)
def gt (votes : List Int) (S : Nat) (i : Nat) : Bool := decide (cA votes S < rA votes S i)
theorem cI_rem {p : Int → Bool} : cI (fun i => p (rA votes S i)) votes.length = ((sortI (remF votes S)).map fun x => if p x = true then (1 : Int) else 0).sum := by
  rw [perm_sum (sortI_perm _), rem_eq, List.map_map]; rfl
theorem cut_facts (hn : 0 < votes.length) (hV : 0 < votes.sum) (hm : 0 < mI votes S) : mI votes S ≤ cI (ge votes S) votes.length ∧ cI (gt votes S) votes.length < mI votes S ∧ 0 < cA votes S := by
  have hmb := m_bd (S := S) hn hV
  have hl : (sortI (remF votes S)).length = votes.length := by rw [sortI_len]; simp [remF]
  have hk : votes.length - (mI votes S).toNat < (sortI (remF votes S)).length := by omega
  obtain ⟨t1, t2⟩ := take_le (sortI_sorted (remF votes S)) hk
  have hc : cA votes S = (sortI (remF votes S)).getD (votes.length - (mI votes S).toNat) 0 := rfl
  rw [← hc] at t1 t2
  have c2 : cI (gt votes S) votes.length < mI votes S := by
    have := cI_rem (votes := votes) (S := S) (p := fun x => decide (cA votes S < x))
    rw [show cI (gt votes S) votes.length = _ from this]
    rw [← List.take_append_drop (votes.length - (mI votes S).toNat + 1) (sortI (remF votes S)), List.map_append, List.sum_append, ind_none (fun x hx => by have := t1 x hx; simp; exact this)]
    have := (ind_bd (p := fun x => decide (cA votes S < x)) ((sortI (remF votes S)).drop (votes.length - (mI votes S).toNat + 1))).2
    rw [List.length_drop] at this
    omega
  refine ⟨?_, c2, ?_⟩
  · have := cI_rem (votes := votes) (S := S) (p := fun x => decide (cA votes S ≤ x))
    rw [show cI (ge votes S) votes.length = _ from this]
    rw [← List.take_append_drop (votes.length - (mI votes S).toNat) (sortI (remF votes S)), List.map_append, List.sum_append]
    have h1 := (ind_bd (p := fun x => decide (cA votes S ≤ x)) ((sortI (remF votes S)).take (votes.length - (mI votes S).toNat))).1
    have h2 := ind_all (p := fun x => decide (cA votes S ≤ x)) (l := (sortI (remF votes S)).drop (votes.length - (mI votes S).toNat)) fun x hx => by simpa using t2 x hx
    rw [List.length_drop] at h2
    omega
  · by_cases h : 0 < cA votes S
    · exact h
    · exfalso
      have h1 := rem_sum (votes := votes) (S := S)
      have h2 := sum_map_le (f := rA votes S) (g := fun i => if gt votes S i = true then votes.sum else 0) (l := List.range votes.length) fun i hi => by
        have := r_bd (S := S) hV (List.mem_range.mp hi)
        by_cases h0 : rA votes S i = 0
        · rw [h0]; split <;> omega
        · rw [if_pos (by unfold gt; rw [decide_eq_true_eq]; omega)]; omega
      rw [sum_ind, h1] at h2
      have h3 := Int.mul_le_mul_of_nonneg_right (show cI (gt votes S) votes.length + 1 ≤ mI votes S by omega) (Int.le_of_lt hV)
      rw [Int.add_mul] at h3
      omega
theorem loop_eq (hm : 0 < mI votes S) : ∀ {j : Nat}, j ≤ votes.length → lrLoop S (cutF votes S) (remF votes S) (repF votes S) j = (rowA votes S (fun i => decide (i < j) && fst (ge votes S) (mI votes S) i), decide (mI votes S < cI (ge votes S) j))
  | 0, _ => by
    unfold lrLoop
    refine Prod.ext ?_ ?_
    · refine getD_ext (by rw [rowA_len, rep_len]) fun k hk => ?_
      rw [rep_len] at hk
      rw [rowA_at hk]
      simp
    · show false = _
      rw [decide_eq_false (by simp [cI]; omega)]
  | j + 1, h => by
    have ih := loop_eq hm (j := j) (by omega)
    have hs : (rowA votes S (fun i => decide (i < j) && fst (ge votes S) (mI votes S) i)).sum = (repF votes S).sum + min (mI votes S) (cI (ge votes S) j) := by
      rw [rowA_sum, cI_trunc (by omega), cI_fst _ (by omega)]
    have hsame : fst (ge votes S) (mI votes S) j = false → rowA votes S (fun i => decide (i < j + 1) && fst (ge votes S) (mI votes S) i) = rowA votes S (fun i => decide (i < j) && fst (ge votes S) (mI votes S) i) := fun hf => by
      refine getD_ext (by rw [rowA_len, rowA_len]) fun k hk => ?_
      rw [rowA_len] at hk
      rw [rowA_at hk, rowA_at hk]
      by_cases hkj : k = j
      · subst hkj; simp [hf]
      · have : decide (k < j + 1) = decide (k < j) := decide_eq_decide.mpr (by omega)
        rw [this]
    show lrStep S (cutF votes S) (remF votes S) j (lrLoop S (cutF votes S) (remF votes S) (repF votes S) j) = _
    rw [ih]
    unfold lrStep
    dsimp only
    rw [hs]
    have hM : mI votes S = S - (repF votes S).sum := rfl
    have hge : ge votes S j = true ↔ cutF votes S ≤ (remF votes S).getD j 0 := by unfold ge; rw [decide_eq_true_eq]
    rw [cI_succ]
    by_cases hE : ge votes S j = true
    · have hc := hge.mp hE
      by_cases hcnt : cI (ge votes S) j < mI votes S
      · rw [if_neg (by omega), if_pos ⟨by omega, hc⟩, if_pos hE, decide_eq_false (show ¬ mI votes S < cI (ge votes S) j by omega), decide_eq_false (show ¬ mI votes S < cI (ge votes S) j + 1 by omega)]
        refine Prod.ext ?_ rfl
        refine getD_ext (by rw [List.length_set, rowA_len, rowA_len]) fun k hk => ?_
        rw [List.length_set, rowA_len] at hk
        show (List.set _ j _).getD k 0 = _
        rw [rowA_at hk]
        by_cases hkj : j = k
        · subst hkj
          rw [List.getD_eq_getElem?_getD, List.getElem?_set_self (by rw [rowA_len]; exact hk), rowA_at hk]
          have hf : fst (ge votes S) (mI votes S) j = true := by unfold fst; rw [hE, decide_eq_true hcnt]; rfl
          simp [hf]
        · rw [List.getD_eq_getElem?_getD, List.getElem?_set_ne hkj, ← List.getD_eq_getElem?_getD, rowA_at hk]
          have : decide (k < j + 1) = decide (k < j) := decide_eq_decide.mpr (by omega)
          rw [this]
      · rw [if_pos ⟨by omega, hc⟩, if_pos hE, decide_eq_true (show mI votes S < cI (ge votes S) j + 1 by omega), hsame (by unfold fst; rw [decide_eq_false hcnt, Bool.and_false])]
    · have hc : ¬ cutF votes S ≤ (remF votes S).getD j 0 := fun q => hE (hge.mpr q)
      rw [if_neg (fun q => hc q.2), if_neg (fun q => hc q.2), if_neg hE, Int.add_zero, hsame (by unfold fst; cases e : ge votes S j with | true => exact absurd e hE | false => rfl)]
end
end Mine

/-! M05f -/
namespace Mine

theorem maxI_ge : ∀ (r : List Int) (x : Int), x ≤ maxI x r ∧ ∀ y ∈ r, y ≤ maxI x r
  | [], x => ⟨Int.le_refl _, by simp⟩
  | y :: r, x => by
    unfold maxI
    by_cases h : x < y
    · rw [if_pos h]
      obtain ⟨h1, h2⟩ := maxI_ge r y
      refine ⟨by omega, fun z hz => ?_⟩
      rcases List.mem_cons.mp hz with rfl | hz
      · exact h1
      · exact h2 z hz
    · rw [if_neg h]
      obtain ⟨h1, h2⟩ := maxI_ge r x
      refine ⟨h1, fun z hz => ?_⟩
      rcases List.mem_cons.mp hz with rfl | hz
      · omega
      · exact h2 z hz
theorem maxL_ge {xs : List Int} {y : Int} (h : y ∈ xs) : y ≤ maxL xs := by
  cases xs with
  | nil => cases h
  | cons x r =>
    rcases List.mem_cons.mp h with rfl | h
    · exact (maxI_ge r y).1
    · exact (maxI_ge r x).2 y h
theorem filter_single {l : List (List Int)} {p : List Int → Bool} {b : List Int} (hn : l.Nodup) (hb : b ∈ l) (hp : ∀ x ∈ l, p x = true ↔ x = b) : l.filter p = [b] := by
  induction l with
  | nil => cases hb
  | cons x r ih =>
    obtain ⟨h1, h2⟩ := List.nodup_cons.mp hn
    rw [List.filter_cons]
    by_cases hx : x = b
    · subst hx
      rw [if_pos ((hp x List.mem_cons_self).mpr rfl)]
      congr 1
      refine List.filter_eq_nil_iff.mpr fun y hy hpy => h1 ?_
      rw [← (hp y (List.mem_cons_of_mem _ hy)).mp hpy]; exact hy
    · rw [if_neg fun q => hx ((hp x List.mem_cons_self).mp q)]
      refine ih h2 ?_ fun y hy => hp y (List.mem_cons_of_mem _ hy)
      rcases List.mem_cons.mp hb with h | h
      · exact absurd h.symm hx
      · exact h
theorem two_mem {l : List (List Int)} {x y : List Int} (hx : x ∈ l) (hy : y ∈ l) (h : x ≠ y) : 1 < l.length := by
  match l, hx, hy with
  | [a], hx, hy =>
    have h1 : x = a := by simpa using hx
    have h2 : y = a := by simpa using hy
    exact absurd (h1.trans h2.symm) h
  | _ :: _ :: _, _, _ => simp

section
variable {votes : List Int} {S : Nat}

/-- a set of places of greatest remainders -/
structure Top (votes : List Int) (S : Nat) (A : Nat → Bool) : Prop where
  bal : ∀ i j, i < votes.length → j < votes.length → A i = true → ¬ A j = true → rA votes S j ≤ rA votes S i
  cnt : (repF votes S).sum + cI A votes.length = S
theorem Top.mem {A A' : Nat → Bool} (hv : ∀ v ∈ votes, 0 ≤ v) (hn : 0 < votes.length) (hV : 0 < votes.sum) (T : Top votes S A) (T' : Top votes S A') : rowA votes S A' ∈ leastF votes S := by
  have m1 := rowA_mem hv hn hV T.cnt
  have m2 := rowA_mem hv hn hV T'.cnt
  rw [least_eq hn hV m1 (bal_rowA hV T.bal)]
  refine List.mem_filter.mpr ⟨m2, ?_⟩
  rw [decide_eq_true_eq]
  exact bal_same hn hV rowA_len rowA_len (by rw [rowA_sum, rowA_sum, T.cnt, T'.cnt]) (bal_rowA hV T'.bal) (bal_rowA hV T.bal)
theorem least_one {A : Nat → Bool} (hv : ∀ v ∈ votes, 0 ≤ v) (hn : 0 < votes.length) (hV : 0 < votes.sum) (T : Top votes S A) (hst : ∀ i j, i < votes.length → j < votes.length → A i = true → ¬ A j = true → rA votes S j < rA votes S i) : leastF votes S = [rowA votes S A] := by
  have m1 := rowA_mem hv hn hV T.cnt
  rw [least_eq hn hV m1 (bal_rowA hV T.bal)]
  refine filter_single (shares_nodup _ _) m1 fun x hx => ?_
  rw [decide_eq_true_eq]
  refine ⟨fun h => ?_, fun h => by rw [h]⟩
  have hxm := shares_mem (S := S) hn hx
  refine bal_alone hV rowA_len hxm.1 (by rw [hxm.2.2, rowA_sum, T.cnt]) (fun i j hi hj => ?_) (bal_of_same h.symm (bal_rowA hV T.bal))
  rw [e_rowA hi, e_rowA hj]
  have r1 := r_bd (S := S) hV hi
  have r2 := r_bd (S := S) hV hj
  by_cases a : A i = true <;> by_cases b : A j = true
  · rw [if_pos a, if_pos b]; omega
  · rw [if_pos a, if_neg b]; have := hst i j hi hj a b; omega
  · rw [if_neg a, if_pos b]; omega
  · rw [if_neg a, if_neg b]; omega
theorem near_ok {A : Nat → Bool} (hV : 0 < votes.sum) {i : Nat} (hi : i < votes.length) (h : A i = true → 0 < rA votes S i) :
    (if (rowA votes S A).getD i 0 * votes.sum - S * votes.getD i 0 < 0 then -((rowA votes S A).getD i 0 * votes.sum - S * votes.getD i 0) else (rowA votes S A).getD i 0 * votes.sum - S * votes.getD i 0) < votes.sum := by
  have e := e_rowA (S := S) (A := A) hi
  unfold eF at e
  rw [e]
  have r1 := r_bd (S := S) hV hi
  by_cases a : A i = true
  · have := h a
    rw [if_pos a]; split <;> omega
  · rw [if_neg a]; split <;> omega

theorem lok_of (hv : ∀ v ∈ votes, 0 ≤ v ∧ v < 10 ^ 40) (h1 : 1 ≤ votes.length) (h4 : votes.length ≤ 4) (hV : 0 < votes.sum) (hV2 : votes.sum < 10 ^ 41) (hS0 : 1 ≤ S) (hS : S ≤ 1000) (hr : (S + 1) ^ (votes.length - 1) ≤ 1000) : LOk votes S := by
  have hv0 : ∀ v ∈ votes, 0 ≤ v := fun v h => (hv v h).1
  have hn : 0 < votes.length := h1
  have hmb := m_bd (S := S) hn hV
  have hM : mI votes S = S - (repF votes S).sum := rfl
  -- what lrF is
  obtain ⟨A, hlr, T, hpos, htie, hone⟩ : ∃ A, (lrF votes S).1 = rowA votes S A ∧ ((repF votes S).sum + cI A votes.length = S) ∧ (∀ i, i < votes.length → A i = true → 0 < rA votes S i) ∧
      ((lrF votes S).2 = true → 1 < (leastF votes S).length ∧ ∀ i, i < votes.length → ∃ x ∈ leastF votes S, (rowA votes S A).getD i 0 ≤ x.getD i 0) ∧ ((lrF votes S).2 = false → leastF votes S = [rowA votes S A]) := by
    by_cases hm : (repF votes S).sum < S
    · obtain ⟨c1, c2, c3⟩ := cut_facts hn hV (show 0 < mI votes S by omega)
      have hlr : lrF votes S = (rowA votes S (fun i => decide (i < votes.length) && fst (ge votes S) (mI votes S) i), decide (mI votes S < cI (ge votes S) votes.length)) := by
        unfold lrF
        rw [if_pos hm]
        exact loop_eq (by omega) (Nat.le_refl _)
      have hge : ∀ i, ge votes S i = true ↔ cA votes S ≤ rA votes S i := fun i => by unfold ge; rw [decide_eq_true_eq]
      have hgt : ∀ i, gt votes S i = true ↔ cA votes S < rA votes S i := fun i => by unfold gt; rw [decide_eq_true_eq]
      have hAge : ∀ i, (decide (i < votes.length) && fst (ge votes S) (mI votes S) i) = true → ge votes S i = true := fun i h => by
        unfold fst at h
        simp only [Bool.and_eq_true] at h
        exact h.2.1
      refine ⟨_, by rw [hlr], ?_, fun i hi hA => ?_, fun ht => ?_, fun ht => ?_⟩
      · rw [cI_trunc (Nat.le_refl _), cI_fst _ (by omega)]; omega
      · have := (hge i).mp (hAge i hA); omega
      · rw [hlr] at ht
        have ht : mI votes S < cI (ge votes S) votes.length := of_decide_eq_true ht
        -- the places at the line
        have hsplit : cI (ge votes S) votes.length = cI (gt votes S) votes.length + cI (fun i => decide (rA votes S i = cA votes S)) votes.length := by
          rw [← cI_or (fun i hi => by rintro ⟨a, b⟩; have := (hgt i).mp a; have := of_decide_eq_true b; omega)]
          refine cI_congr fun i hi => ?_
          have := hge i
          have := hgt i
          by_cases q : rA votes S i = cA votes S
          · rw [decide_eq_true q, Bool.or_true]; exact (hge i).mpr (by omega)
          · rw [decide_eq_false q, Bool.or_false]
            unfold ge gt
            exact decide_eq_decide.mpr (by omega)
        have hE : ∀ i0, i0 < votes.length → rA votes S i0 = cA votes S → cI (fun i => decide (rA votes S i = cA votes S)) votes.length = 1 + cI (fun i => decide (rA votes S i = cA votes S) && !decide (i = i0)) votes.length := fun i0 h0 he => by
          rw [← cI_one h0, ← cI_or (fun i hi => by rintro ⟨a, b⟩; rw [a] at b; simp at b)]
          refine cI_congr fun i hi => ?_
          by_cases q : i = i0
          · subst q; rw [decide_eq_true he, decide_eq_true rfl]; rfl
          · rw [decide_eq_false q]; simp
        have incl : ∀ i0, i0 < votes.length → rA votes S i0 = cA votes S → Top votes S (fun i => gt votes S i || (decide (i = i0) || fst (fun i => decide (rA votes S i = cA votes S) && !decide (i = i0)) (mI votes S - cI (gt votes S) votes.length - 1) i)) := fun i0 h0 he => by
          have h2 := hE i0 h0 he
          have inE : ∀ i, (decide (i = i0) || fst (fun i => decide (rA votes S i = cA votes S) && !decide (i = i0)) (mI votes S - cI (gt votes S) votes.length - 1) i) = true → rA votes S i = cA votes S := fun i hi => by
            rcases Bool.or_eq_true_iff.mp hi with q | q
            · rw [of_decide_eq_true q]; exact he
            · unfold fst at q
              simp only [Bool.and_eq_true, decide_eq_true_eq] at q
              exact q.1.1
          refine ⟨fun i j hi hj a b => ?_, ?_⟩
          · have hj' : ¬ gt votes S j = true := fun q => b (by rw [q]; rfl)
            have hj2 : ¬ cA votes S < rA votes S j := fun q => hj' ((hgt j).mpr q)
            rcases Bool.or_eq_true_iff.mp a with q | q
            · have := (hgt i).mp q; omega
            · have := inE i q; omega
          · rw [cI_or (fun i hi => by rintro ⟨a, b⟩; have := (hgt i).mp a; have := inE i b; omega), cI_or (fun i hi => by
              rintro ⟨a, b⟩
              unfold fst at b
              have b1 := (Bool.and_eq_true_iff.mp b).1
              have b2 := (Bool.and_eq_true_iff.mp b1).2
              rw [a] at b2
              cases b2), cI_one h0, cI_fst _ (by omega)]
            omega
        have excl : ∀ i0, i0 < votes.length → rA votes S i0 = cA votes S → Top votes S (fun i => gt votes S i || fst (fun i => decide (rA votes S i = cA votes S) && !decide (i = i0)) (mI votes S - cI (gt votes S) votes.length) i) := fun i0 h0 he => by
          have h2 := hE i0 h0 he
          have inE : ∀ i, fst (fun i => decide (rA votes S i = cA votes S) && !decide (i = i0)) (mI votes S - cI (gt votes S) votes.length) i = true → rA votes S i = cA votes S := fun i q => by
            unfold fst at q
            simp only [Bool.and_eq_true, decide_eq_true_eq] at q
            exact q.1.1
          refine ⟨fun i j hi hj a b => ?_, ?_⟩
          · have hj' : ¬ gt votes S j = true := fun q => b (by rw [q]; rfl)
            have hj2 : ¬ cA votes S < rA votes S j := fun q => hj' ((hgt j).mpr q)
            rcases Bool.or_eq_true_iff.mp a with q | q
            · have := (hgt i).mp q; omega
            · have := inE i q; omega
          · rw [cI_or (fun i hi => by rintro ⟨a, b⟩; have := (hgt i).mp a; have := inE i b; omega), cI_fst _ (by omega)]
            omega
        obtain ⟨i0, h0, he0⟩ := cI_pos (E := fun i => decide (rA votes S i = cA votes S)) (n := votes.length) (by omega)
        have he0 : rA votes S i0 = cA votes S := of_decide_eq_true he0
        refine ⟨two_mem ((incl i0 h0 he0).mem hv0 hn hV (incl i0 h0 he0)) ((incl i0 h0 he0).mem hv0 hn hV (excl i0 h0 he0)) fun e => ?_, fun i hi => ?_⟩
        · have := congrArg (fun l => l.getD i0 0) e
          rw [rowA_at h0, rowA_at h0, if_pos (by simp), if_neg (by
            have : ¬ gt votes S i0 = true := fun q => by have := (hgt i0).mp q; omega
            unfold fst
            simp [this])] at this
          omega
        · by_cases hc : rA votes S i = cA votes S
          · refine ⟨_, (incl i0 h0 he0).mem hv0 hn hV (incl i hi hc), ?_⟩
            rw [rowA_at hi, rowA_at hi]
            simp only [decide_true, Bool.true_or, Bool.or_true, if_true]
            split <;> omega
          · refine ⟨_, (incl i0 h0 he0).mem hv0 hn hV (incl i0 h0 he0), ?_⟩
            rw [rowA_at hi, rowA_at hi]
            by_cases hAi : (decide (i < votes.length) && fst (ge votes S) (mI votes S) i) = true
            · have := (hge i).mp (hAge i hAi)
              rw [if_pos hAi, if_pos (by rw [(hgt i).mpr (by omega)]; rfl)]; exact Int.le_refl _
            · rw [if_neg hAi]; split <;> omega
      · rw [hlr] at ht
        have ht : ¬ mI votes S < cI (ge votes S) votes.length := of_decide_eq_false ht
        have hst : ∀ i j, i < votes.length → j < votes.length → (decide (i < votes.length) && fst (ge votes S) (mI votes S) i) = true → ¬ (decide (j < votes.length) && fst (ge votes S) (mI votes S) j) = true → rA votes S j < rA votes S i := fun i j hi hj a b => by
          have ha := (hge i).mp (hAge i a)
          by_cases q : ge votes S j = true
          · exfalso
            have := cI_lt _ hj q
            refine b ?_
            rw [decide_eq_true hj]
            unfold fst
            rw [q, decide_eq_true (show cI (ge votes S) j < mI votes S by omega)]; rfl
          · have : ¬ cA votes S ≤ rA votes S j := fun h => q ((hge j).mpr h)
            omega
        exact least_one hv0 hn hV ⟨fun i j hi hj a b => Int.le_of_lt (hst i j hi hj a b), by rw [cI_trunc (Nat.le_refl _), cI_fst _ (by omega)]; omega⟩ hst
    · have hlr : lrF votes S = (repF votes S, false) := by unfold lrF; rw [if_neg hm]
      have hz : ∀ n, cI (fun _ => false) n = 0 := fun n => by
        induction n with
        | zero => simp [cI]
        | succ n ih => rw [cI_succ, ih]; simp
      refine ⟨fun _ => false, ?_, by rw [hz]; omega, (fun i hi hA => by cases hA), (fun ht => by rw [hlr] at ht; cases ht), fun _ => ?_⟩
      · rw [hlr]
        refine getD_ext (by rw [rowA_len, rep_len]) fun k hk => ?_
        rw [rep_len] at hk
        rw [rowA_at hk]; simp
      · exact least_one hv0 hn hV ⟨(fun i j hi hj a b => by cases a), by rw [hz]; omega⟩ (fun i j hi hj a b => by cases a)
  have hmem := rowA_mem hv0 hn hV T
  have hsm := shares_mem (S := S) hn hmem
  have hex : ∀ i, i < votes.length → ∃ x ∈ leastF votes S, (rowA votes S A).getD i 0 ≤ x.getD i 0 := fun i hi => by
    cases ht : (lrF votes S).2 with
    | true => exact (htie ht).2 i hi
    | false => rw [hone ht]; exact ⟨_, .head _, Int.le_refl _⟩
  refine ⟨⟨hv, h1, h4, hV, hV2, hS0, hS, fun _ => by omega, fun x hx => ?_⟩, by rw [hlr]; exact hsm.2.2, by rw [hlr]; exact hsm.1, fun x hx => ?_, fun i hi => by rw [hlr]; exact near_ok hV hi (hpos i hi), ?_, fun i hi => ?_, fun ht => (htie ht).1, fun ht => by rw [hlr]; exact hone ht, hr⟩
  · obtain ⟨i, hi, rfl⟩ := List.mem_iff_getElem.mp hx
    rw [rep_len] at hi
    have e : (repF votes S)[i] = qA votes S i := by unfold qA; rw [List.getD_eq_getElem?_getD, List.getElem?_eq_getElem (by rw [rep_len]; exact hi)]; rfl
    rw [e]
    have q1 := q_nn (S := S) hv0 hV hi
    have q2 := rowA_at (S := S) (A := A) hi
    have q3 := hsm.2.1 ((rowA votes S A)[i]'(by rw [rowA_len]; exact hi)) (List.getElem_mem _)
    rw [List.getD_eq_getElem?_getD, List.getElem?_eq_getElem (by rw [rowA_len]; exact hi)] at q2
    change (rowA votes S A)[i]'(by rw [rowA_len]; exact hi) = _ at q2
    split at q2 <;> omega
  · rw [hlr] at hx
    have := hsm.2.1 x hx; omega
  · obtain ⟨x, hx, _⟩ := hex 0 hn
    exact List.length_pos_of_mem hx
  · rw [hlr]
    obtain ⟨x, hx, hle⟩ := hex i hi
    exact Int.le_trans hle (maxL_ge (List.mem_map.mpr ⟨x, hx, rfl⟩))
end
end Mine

/-! F05 -/
namespace Mine
theorem le_sum_of_nn : ∀ {a : List Int}, (∀ x ∈ a, 0 ≤ x) → ∀ x ∈ a, x ≤ a.sum
  | y :: r, h, x, hx => by
    have hr : 0 ≤ r.sum := by
      clear hx
      have h' : ∀ z ∈ r, 0 ≤ z := fun z hz => h z (List.mem_cons_of_mem _ hz)
      clear h
      induction r with
      | nil => decide
      | cons z r ih => rw [List.sum_cons]; have := h' z List.mem_cons_self; have := ih fun u hu => h' u (List.mem_cons_of_mem _ hu); omega
    rw [List.sum_cons]
    have := h y List.mem_cons_self
    rcases List.mem_cons.mp hx with rfl | hx
    · omega
    · have := le_sum_of_nn (fun z hz => h z (List.mem_cons_of_mem _ hz)) x hx; omega

theorem sum_le_len {B : Int} : ∀ {l : List Int}, (∀ v ∈ l, v ≤ B) → l.sum ≤ l.length * B
  | [], _ => by simp
  | v :: l, h => by
    have h1 := h v List.mem_cons_self
    have h2 := sum_le_len (l := l) fun u hu => h u (List.mem_cons_of_mem _ hu)
    rw [List.sum_cons, List.length_cons]
    have : ((l.length + 1 : Nat) : Int) * B = l.length * B + B := by rw [Int.natCast_add, Int.add_mul]; simp
    omega
theorem sum_nn : ∀ {l : List Int}, (∀ v ∈ l, 0 ≤ v) → 0 ≤ l.sum
  | [], _ => by simp
  | v :: l, h => by
    have h1 := h v List.mem_cons_self
    have h2 := sum_nn (l := l) fun u hu => h u (List.mem_cons_of_mem _ hu)
    rw [List.sum_cons]; omega

theorem voteF_bd (zs : List Int) (i : Nat) : 0 ≤ voteF zs i ∧ voteF zs i ≤ 10 ^ 30 := by
  unfold voteF
  split
  · have := fmod_bd (atI zs (3 + i) 4) (b := 10 ^ 30) (by decide)
    omega
  · have h1 := fmod_bd (atI zs (3 + i) 4) (b := 12) (by decide)
    have h2 := fmod_bd ((atI zs 2 4).fdiv 2) (b := 10 ^ 20) (by decide)
    generalize (atI zs (3 + i) 4).fmod 12 = a at *
    generalize ((atI zs 2 4).fdiv 2).fmod (10 ^ 20) = b at *
    have h3 : a * (1 + b) ≤ 11 * (1 + b) := Int.mul_le_mul_of_nonneg_right (by omega) (by omega)
    exact ⟨Int.mul_nonneg h1.1 (by omega), by omega⟩

theorem votesF_bd (zs : List Int) (p : Nat) : ∀ v ∈ votesF zs p, 0 ≤ v ∧ v ≤ 10 ^ 30 := by
  have h0 : ∀ v ∈ votes0 zs p, 0 ≤ v ∧ v ≤ 10 ^ 30 := fun v hv => by
    unfold votes0 at hv
    obtain ⟨i, _, rfl⟩ := List.mem_map.mp hv
    exact voteF_bd zs i
  intro v hv
  unfold votesF at hv
  split at hv
  · rcases List.mem_or_eq_of_mem_set hv with h | h
    · exact h0 v h
    · rw [h]; decide
  · exact h0 v hv


theorem law05 : Law05 := fun P zs hz => by
  have hpb := fmod_bd (atI zs 0 4) (b := 4) (by decide)
  obtain ⟨p, hp⟩ : ∃ p : Nat, 1 + (atI zs 0 4).fmod 4 = p := ⟨(1 + (atI zs 0 4).fmod 4).toNat, by omega⟩
  have hp4 : 1 ≤ p ∧ p ≤ 4 := by omega
  have hroom : 1 ≤ roomF p ∧ roomF p ≤ 7 := by unfold roomF; split <;> omega
  have hsb := fmod_bd (atI zs 1 4) (b := roomF p) (by omega)
  obtain ⟨S, hS⟩ : ∃ S : Nat, 1 + (atI zs 1 4).fmod (roomF p) = S := ⟨(1 + (atI zs 1 4).fmod (roomF p)).toNat, by omega⟩
  have hl0 : (votes0 zs p).length = p := by simp [votes0]
  have hl : (votesF zs p).length = p := by unfold votesF; split <;> simp [hl0]
  have hbd := votesF_bd zs p
  have hnn : ∀ v ∈ votesF zs p, 0 ≤ v := fun v hv => (hbd v hv).1
  have hV : 0 < (votesF zs p).sum := by
    by_cases h : (votes0 zs p).sum = 0
    · have e : votesF zs p = (votes0 zs p).set (p - 1) 1 := by unfold votesF; rw [if_pos h]
      have hm : (1 : Int) ∈ votesF zs p := by
        rw [e]
        exact List.mem_set (by omega) 1
      have := le_sum_of_nn hnn 1 hm
      omega
    · have e : votesF zs p = votes0 zs p := by unfold votesF; rw [if_neg h]
      have := sum_nn hnn
      rw [e] at this ⊢
      omega
  have hV2 : (votesF zs p).sum < 10 ^ 41 := by
    have := sum_le_len (l := votesF zs p) (B := 10 ^ 30) fun v hv => (hbd v hv).2
    rw [hl] at this
    have h4 : (p : Int) * 10 ^ 30 ≤ 4 * 10 ^ 30 := Int.mul_le_mul_of_nonneg_right (by omega) (by decide)
    omega
  have hr : (S + 1) ^ (p - 1) ≤ 1000 := by
    by_cases h4 : p = 4
    · subst h4
      have hS5 : S ≤ 5 := by
        have : roomF 4 = 5 := rfl
        rw [this] at hsb hS
        omega
      exact Nat.le_trans (Nat.pow_le_pow_left (show S + 1 ≤ 6 by omega) 3) (by decide)
    · have h1 : (S + 1) ^ (p - 1) ≤ 8 ^ (p - 1) := Nat.pow_le_pow_left (by omega) _
      have h2 : 8 ^ (p - 1) ≤ 8 ^ 2 := Nat.pow_le_pow_right (by decide) (by omega)
      exact Nat.le_trans h1 (Nat.le_trans h2 (by decide))
  have L := lok_of (votes := votesF zs p) (S := S) (fun v hv => ⟨(hbd v hv).1, by have := (hbd v hv).2; omega⟩) (by omega) (by omega) hV hV2 (by omega) (by omega) (by rw [hl]; exact hr)
  exact ⟨_, law_walk (n := 1) hz hp hS L hl⟩
end Mine

/-! End05 -/
set_option maxHeartbeats 4000000 in
theorem PySem.Challenge.cw_fh0001_05_holds : PySem.Challenge.rw_fh0001_05.Holds :=
  Mine.T05 Mine.law05
