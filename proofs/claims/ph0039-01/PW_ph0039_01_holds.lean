import PyProof.Rows.All
import Wide.All
import Open.Line
import Wide.FinOn
import PySem.Challenge.RW_ph0039_01
set_option Elab.async false
set_option linter.unusedSimpArgs false

/-! An evaluator of our own for the part of Python that the law uses: abstract values, an abstract heap. -/
namespace Mine
open PySem

inductive AV where
  | none
  | bool (b : Bool)
  | int (i : Int)
  | str (x : List Nat)
  | ref (n : Nat)

inductive AO where
  | list (xs : List AV)
  | tup (xs : List AV)

/-- what a turn of a loop is handed -/
inductive It where
  | one (v : AV)
  | two (a b : AV)

structure AS where
  vars : Str → Option AV
  hp : List AO
  fz : List Nat

inductive AF where
  | next
  | brk
  | ret (v : AV)

/-- arguments and results of the text's own defs, told deep -/
inductive DA where
  | val (v : AV)
  | lst (xs : List AV)
inductive DR where
  | val (v : AV)
  | lst (xs : List AV)
  | pair (v : AV) (xs : List AV)

structure Cx where
  names : List (Str × NameKind)
  glob : Str → Option AV
  fn : Str → List DA → Option DR
  isGen : Str → Bool
  gen : Str → List DA → Option (List It × Bool)

noncomputable def AV.isVal : AV → Bool
  | .ref _ => false
  | _ => true

noncomputable def constAV : Const → Option AV
  | .none => some .none
  | .bool b => some (.bool b)
  | .int i => some (.int i)
  | .str x => some (.str x.cps.toList)
  | _ => none

noncomputable def Cx.kind (C : Cx) (x : Str) : Option NameKind := C.names.lookup x

noncomputable def getVar (C : Cx) (x : Str) (σ : AS) : Option AV :=
  match C.kind x with
  | some .local => σ.vars x
  | some .cell => σ.vars x
  | some .globalImplicit => C.glob x
  | _ => none

noncomputable def setVar (C : Cx) (x : Str) (v : AV) (σ : AS) : Option AS :=
  match C.kind x with
  | some .local => some { σ with vars := fun y => if y = x then some v else σ.vars y }
  | some .cell => some { σ with vars := fun y => if y = x then some v else σ.vars y }
  | _ => none

noncomputable def b2i (b : Bool) : Int := if b then 1 else 0

noncomputable def small (i : Int) : Bool := decide (i.natAbs < 2 ^ 62)
noncomputable def textLine : Nat := 1000000

noncomputable def ltL : List Nat → List Nat → Bool
  | _, [] => false
  | [], _ :: _ => true
  | a :: x, b :: y => decide (a < b) || (decide (a = b) && ltL x y)

noncomputable def evBin (op : Operator) (a b : AV) (hp : List AO) : Option (AV × List AO) :=
  match op with
  | .Add => (match a with
    | .int a => (match b with | .int b => some (.int (a + b), hp) | _ => none)
    | .str x => (match b with | .str y => if decide (x.length + y.length ≤ textLine) then some (.str (x ++ y), hp) else none | _ => none)
    | .ref i => (match b with
      | .ref j => (match hp[i]? with
        | some (.list xs) => (match hp[j]? with
          | some (.list ys) => if decide (xs.length + ys.length ≤ textLine) then some (.ref hp.length, hp ++ [.list (xs ++ ys)]) else none
          | _ => none)
        | _ => none)
      | _ => none)
    | _ => none)
  | .Sub => (match a with
    | .int a => (match b with | .int b => some (.int (a - b), hp) | _ => none)
    | .bool p => (match b with | .bool q => some (.int (b2i p - b2i q), hp) | _ => none)
    | _ => none)
  | .Mult => (match a with
    | .int a => (match b with | .int b => if small a && small b then some (.int (a * b), hp) else none | _ => none)
    | .str x => (match b with | .int n => if decide (x.length = 1) && (decide (n ≤ 1000000) && small n) then some (.str (List.replicate n.toNat (x.headD 0)), hp) else none | _ => none)
    | _ => none)
  | .FloorDiv => (match a with
    | .int a => (match b with | .int b => if decide (b.natAbs < 1073741824) && decide (b ≠ 0) then some (.int (a.fdiv b), hp) else none | _ => none)
    | _ => none)
  | .Mod => (match a with
    | .int a => (match b with | .int b => if decide (b ≠ 0) then some (.int (a.fmod b), hp) else none | _ => none)
    | _ => none)
  | .Pow => (match a with
    | .int a => (match b with | .int b => if decide (a = 10) && decide (b = 6) then some (.int 1000000, hp) else none | _ => none)
    | _ => none)
  | _ => none

noncomputable def evAug (op : Operator) (a b : AV) : Option AV :=
  match op, a, b with
  | .Add, .int a, .int b => some (.int (a + b))
  | .Sub, .int a, .int b => some (.int (a - b))
  | _, _, _ => none

noncomputable def evUn (op : UnaryOp) (a : AV) : Option AV :=
  match op, a with
  | .USub, .int a => some (.int (-a))
  | .Not, .bool b => some (.bool !b)
  | _, _ => none

noncomputable def allInts : List AV → Option (List Int)
  | [] => some []
  | .int i :: r => (allInts r).map (i :: ·)
  | _ :: _ => none
noncomputable def allStrs : List AV → Option (List (List Nat))
  | [] => some []
  | .str x :: r => (allStrs r).map (x :: ·)
  | _ :: _ => none

/-- two ints, or two texts -/
noncomputable def isb (f : Int → Int → Bool) (g : List Nat → List Nat → Bool) (a b : AV) : Option Bool :=
  match a with
  | .int i => (match b with | .int j => some (f i j) | _ => none)
  | .str x => (match b with | .str y => some (g x y) | _ => none)
  | _ => none
noncomputable def iib (f : Int → Int → Bool) (a b : AV) : Option Bool :=
  match a with
  | .int i => (match b with | .int j => some (f i j) | _ => none)
  | _ => none
noncomputable def isIs (a b : AV) : Option Bool :=
  match a with
  | .bool p => (match b with | .bool q => some (decide (p = q)) | _ => none)
  | .none => (match b with | .none => some true | _ => none)
  | .int _ => (match b with | .none => some false | _ => none)
  | _ => none
noncomputable def isNotIs (a b : AV) : Option Bool :=
  match a with
  | .bool p => (match b with | .bool q => some (decide (p ≠ q)) | _ => none)
  | _ => none
noncomputable def inList (a b : AV) (hp : List AO) : Option Bool :=
  match a with
  | .int i => (match b with
    | .ref n => (match hp[n]? with
      | some (.list xs) => (allInts xs).map fun ys => ys.contains i
      | _ => none)
    | _ => none)
  | _ => none
noncomputable def notInStr (a b : AV) : Option Bool :=
  match a with
  | .str x => (match x with
    | [c] => (match b with | .str y => some (!y.contains c) | _ => none)
    | _ => none)
  | _ => none
noncomputable def pairAt (hp : List AO) (n : Nat) : Option (Bool × List Int) :=
  match hp[n]? with
  | some (.tup xs) => (match xs with
    | [x, y] => (match x with
      | .bool a => (match y with
        | .ref k => (match hp[k]? with
          | some (.list zs) => (allInts zs).map fun ms => (a, ms)
          | _ => none)
        | _ => none)
      | _ => none)
    | _ => none)
  | _ => none
noncomputable def nePairs (a b : AV) (hp : List AO) : Option Bool :=
  match a with
  | .ref i => (match b with
    | .ref j => (pairAt hp i).bind fun p => (pairAt hp j).map fun q => !(decide (p.1 = q.1) && decide (p.2 = q.2))
    | _ => none)
  | _ => none
noncomputable def isRef : AV → Bool
  | .ref _ => true
  | _ => false
noncomputable def evCmp (op : CmpOp) (a b : AV) (hp : List AO) : Option Bool :=
  match op with
  | .Eq => isb (fun a b => decide (a = b)) (fun x y => decide (x = y)) a b
  | .NotEq => if isRef a then nePairs a b hp else isb (fun a b => decide (a ≠ b)) (fun x y => decide (x ≠ y)) a b
  | .Lt => isb (fun a b => decide (a < b)) (fun x y => ltL x y) a b
  | .LtE => iib (fun a b => decide (a ≤ b)) a b
  | .Gt => isb (fun a b => decide (b < a)) (fun x y => ltL y x) a b
  | .GtE => iib (fun a b => decide (b ≤ a)) a b
  | .Is => isIs a b
  | .IsNot => isNotIs a b
  | .In => inList a b hp
  | .NotIn => if isRef b then (inList a b hp).map (!·) else notInStr a b

/-- the place of an index in a sequence of n -/
noncomputable def place (k : Int) (n : Nat) : Option Nat :=
  if 0 ≤ k then (if k < n then some k.toNat else none) else (if -(n : Int) ≤ k then some (k + n).toNat else none)

/-- a bound of a slice, cut to the length -/
noncomputable def clip (k : Int) (n : Nat) : Nat := if 0 ≤ k then min k.toNat n else (k + n).toNat

noncomputable def cutL {α : Type} (l u : Option Int) (xs : List α) : List α :=
  let a := match l with | some k => clip k xs.length | none => 0
  let b := match u with | some k => clip k xs.length | none => xs.length
  (xs.take b).drop a

noncomputable def evItem (o i : AV) (hp : List AO) : Option AV :=
  match o, i with
  | .ref n, .int k => match hp[n]? with
    | some (.list xs) => if small k then (place k xs.length).bind fun j => xs[j]? else none
    | some (.tup xs) => if small k && decide (0 ≤ k) then xs[k.toNat]? else none
    | _ => none
  | _, _ => none

noncomputable def evCut (o : AV) (l u : Option Int) (hp : List AO) : Option (AV × List AO) :=
  match o with
  | .str x => if decide (x.length ≤ textLine) then some (.str (cutL l u x), hp) else none
  | .ref n => match hp[n]? with
    | some (.list xs) => if decide (xs.length ≤ textLine) then some (.ref hp.length, hp ++ [.list (cutL l u xs)]) else none
    | _ => none
  | _ => none

noncomputable def asInt : AV → Option Int
  | .int i => some i
  | _ => none

noncomputable def deep (hp : List AO) : AV → Option DA
  | .ref n => match hp[n]? with
    | some (.list xs) => if xs.all AV.isVal then some (.lst xs) else none
    | _ => none
  | v => some (.val v)
noncomputable def deepAll (hp : List AO) : List AV → Option (List DA)
  | [] => some []
  | v :: r => (deep hp v).bind fun a => (deepAll hp r).map (a :: ·)

noncomputable def shallow (hp : List AO) : DR → Option (AV × List AO)
  | .val v => if v.isVal then some (v, hp) else none
  | .lst xs => if xs.all AV.isVal then some (.ref hp.length, hp ++ [.list xs]) else none
  | .pair v xs => if v.isVal && xs.all AV.isVal then some (.ref (hp.length + 1), hp ++ [.list xs, .tup [v, .ref hp.length]]) else none

noncomputable def intsFrom (a : Int) : Nat → List Int
  | 0 => []
  | n + 1 => a :: intsFrom (a + 1) n
noncomputable def rangeInts (a b : Int) : List Int := intsFrom a (b - a).toNat

noncomputable def evCall (C : Cx) (f : Str) (args : List AV) (hp : List AO) : Option (AV × List AO) :=
  if C.kind f = some .globalImplicit then
    if f = "len" then
      match args with
      | [.str x] => if decide (x.length ≤ textLine) then some (.int x.length, hp) else none
      | [.ref n] => match hp[n]? with
        | some (.list xs) => if decide (xs.length ≤ textLine) then some (.int xs.length, hp) else none
        | _ => none
      | _ => none
    else if f = "sum" then
      match args with
      | [.ref n] => match hp[n]? with
        | some (.list xs) => (allInts xs).bind fun ns => if ns.all (fun i => decide (i.natAbs ≤ 1000000)) && decide (ns.length ≤ 1000) then some (.int ns.sum, hp) else none
        | _ => none
      | _ => none
    else if f = "chr" then
      match args with
      | [.int i] => if decide (0 ≤ i) && decide (i ≤ 1114111) then some (.str [i.toNat], hp) else none
      | _ => none
    else (deepAll hp args).bind fun ds => (C.fn f ds).bind (shallow hp)
  else none

abbrev IT := (List It × Bool) × List Nat
noncomputable def ranged (a b : Int) : IT := (((rangeInts a b).map fun i => .one (.int i), false), [])
noncomputable def rangeOf (args : List AV) : Option IT :=
  match args with
  | [] => none
  | x :: r => (match x with
    | .int a => (match r with
      | [] => if small a then some (ranged 0 a) else none
      | y :: q => (match y with
        | .int b => (match q with
          | [] => if small a && small b then some (ranged a b) else none
          | _ :: _ => none)
        | _ => none))
    | _ => none)
noncomputable def listOf (hp : List AO) (v : AV) : Option (Nat × List AV) :=
  match v with
  | .ref n => (match hp[n]? with
    | some o => (match o with | .list xs => some (n, xs) | _ => none)
    | none => none)
  | _ => none
noncomputable def enumed (x : List Nat) : IT := ((x.zipIdx.map fun p => .two (.int p.2) (.str [p.1]), true), [])
noncomputable def enumOf (args : List AV) (hp : List AO) : Option IT :=
  match args with
  | [] => none
  | v :: r => (match r with
    | _ :: _ => none
    | [] => (match v with
      | .str x => if x.all (fun c => decide (c < 128)) then some (enumed x) else none
      | v => (listOf hp v).map fun q => ((q.2.zipIdx.map fun p => .two (.int p.2) p.1, true), [q.1])))
noncomputable def zipOf (args : List AV) (hp : List AO) : Option IT :=
  match args with
  | [] => none
  | v :: r => (match r with
    | [] => none
    | u :: q => (match q with
      | _ :: _ => none
      | [] => (listOf hp v).bind fun a => (listOf hp u).bind fun b => if a.1 = b.1 then none else some (((a.2.zip b.2).map fun p => .two p.1 p.2, true), [a.1, b.1])))
/-- the things that a loop goes through (no generators), and the lists that must stand -/
noncomputable def itemsOf (f : Str) (args : List AV) (hp : List AO) : Option IT :=
  if f = "range" then rangeOf args else if f = "enumerate" then enumOf args hp else if f = "zip" then zipOf args hp else none

noncomputable def itemsOfVal (v : AV) (hp : List AO) : Option ((List It × Bool) × List Nat) :=
  match v with
  | .str x => if x.all (fun c => decide (c < 128)) then some ((x.map fun c => .one (.str [c]), false), []) else none
  | .ref n => match hp[n]? with
    | some (.list xs) => some ((xs.map .one, false), [n])
    | _ => none
  | _ => none

/-- a name; two names -/
noncomputable def nameOf : Expr → Option Str
  | .Name x _ => some x
  | _ => none
noncomputable def pairOf (es : List Expr) : Option (Str × Str) :=
  match es with
  | [] => none
  | a :: r => (match r with
    | [] => none
    | b :: q => (match q with
      | [] => (nameOf a).bind fun x => (nameOf b).map fun y => (x, y)
      | _ :: _ => none))
/-- a target that fits -/
noncomputable def tgtOk (t : Expr) (two : Bool) : Bool :=
  match t with
  | .Name _ _ => !two
  | .Tuple es _ _ => two && (pairOf es).isSome
  | _ => false

noncomputable def isMaker (f : Str) : Bool := f == "range" || f == "enumerate" || f == "zip"

noncomputable def bindT (C : Cx) (t : Expr) (it : It) (σ : AS) : Option AS :=
  match t with
  | .Name x _ => (match it with | .one v => setVar C x v σ | .two _ _ => none)
  | .Tuple es _ _ => (match it with | .one _ => none | .two a b => (pairOf es).bind fun p => (setVar C p.1 a σ).bind (setVar C p.2 b))
  | _ => none

/-- the names that a comprehension's own block sees -/
noncomputable def innerVars (scope : Scope) (σ : AS) : Str → Option AV := fun y => if scope.names.lookup y = some .free then σ.vars y else none
noncomputable def relabelNames (names : List (Str × NameKind)) : List (Str × NameKind) := names.map fun p => if p.2 = .free then (p.1, .cell) else p
noncomputable def Cx.inner (C : Cx) (scope : Scope) : Cx := { C with names := relabelNames scope.names }

noncomputable def compIt (step : It → Option (Option AV)) : List It → Option (List AV)
  | [] => some []
  | x :: r => (step x).bind fun v => (compIt step r).map fun ys => match v with | some y => y :: ys | none => ys

/-- a block that is fit: what stands free in it is a cell of the frame -/
noncomputable def compOk (C : Cx) (scope : Scope) : Bool :=
  decide (scope.kind = .function) && scope.names.all (fun p => decide (scope.names.lookup p.1 = some p.2) && decide (p.2 ≠ .cell) && (decide (p.2 ≠ .free) || decide (C.kind p.1 = some .cell))) && (scope.names.lookup ("__debug__" : Str)).isNone

noncomputable def tgtLoc (scope : Scope) (t : Expr) : Bool :=
  match t with
  | .Name x _ => decide (scope.names.lookup x = some .local)
  | .Tuple es _ _ => (match pairOf es with | some p => decide (scope.names.lookup p.1 = some .local) && decide (scope.names.lookup p.2 = some .local) | none => false)
  | _ => false

/-- one turn of a comprehension: bound, tested, reckoned -/
noncomputable def compStep (C' : Cx) (t : Expr) (σ₀ : AS) (tst : AS → Option (Bool × List AO)) (el : AS → Option (AV × List AO)) (x : It) : Option (Option AV) :=
  (bindT C' t x σ₀).bind fun σ' => (tst σ').bind fun b => if b.1 then (el { σ' with hp := b.2 }).bind fun r => if r.1.isVal then some (some r.1) else none else some none

inductive CF where
  | join (arg : Expr)
  | listRange (as : List Expr)
  | plain (f : Str) (args : List Expr)
  | bad

noncomputable def isRange : Expr → Bool
  | .Name g _ => g == "range"
  | _ => false
noncomputable def rangeForm (args : List Expr) : CF :=
  match args with
  | [] => .bad
  | a :: r => (match r with
    | _ :: _ => .bad
    | [] => (match a with
      | .Call g as ks _ => (match ks with
        | _ :: _ => .bad
        | [] => if isRange g = true then .listRange as else .bad)
      | _ => .bad))
noncomputable def plainForm (f : Str) (args : List Expr) : CF :=
  match args with
  | [] => .bad
  | a :: r => .plain f (a :: r)
/-- the empty text -/
noncomputable def emptyStr : Expr → Bool
  | .Constant c _ _ => (match c with | .str x => decide (x.cps.toList = []) | _ => false)
  | _ => false
noncomputable def joinForm (o : Expr) (nm : Str) (args : List Expr) (same : Bool) : CF :=
  match args with
  | [] => .bad
  | a :: r => (match r with
    | _ :: _ => .bad
    | [] => if (decide (nm = "join") && (emptyStr o && same)) = true then .join a else .bad)
noncomputable def callForm (f : Expr) (args : List Expr) (ks : List Keyword) (pos : Pos) : CF :=
  match ks with
  | _ :: _ => .bad
  | [] => (match f with
    | .Attribute o nm apos => joinForm o nm args (decide (apos.endLine = pos.line))
    | .Name f _ => if f = "list" then rangeForm args else plainForm f args
    | _ => .bad)

/-- the bounds of a slice without a step -/
noncomputable def sliceForm (e : Expr) : Option (Option Expr × Option Expr) :=
  match e with
  | .Slice l u s _ => (match s with | none => some (l, u) | some _ => none)
  | _ => none

/-- a call by name, with no keywords -/
noncomputable def namedCall (e : Expr) : Option (Str × List Expr) :=
  match e with
  | .Call f args ks _ => (match ks with | [] => (nameOf f).map fun g => (g, args) | _ :: _ => none)
  | _ => none
/-- range, enumerate, zip: by what they are handed -/
noncomputable def makerForm (e : Expr) : Option (Str × List Expr) := (namedCall e).bind fun p => if isMaker p.1 then some p else none

/-- pairs, or single things -/
noncomputable def genTwo (f : Str) : Bool := f == "_iter_escaped_chars"

noncomputable def genForm (C : Cx) (e : Expr) : Option (Str × List Expr) := (namedCall e).bind fun p => if C.isGen p.1 then some p else none

noncomputable def evJoin (v : AV) (hp : List AO) : Option (AV × List AO) :=
  match v with
  | .ref k => match hp[k]? with
    | some (.list xs) => (allStrs xs).bind fun ys => if decide ((ys.map List.length).sum ≤ textLine) then some (.str ys.flatten, hp) else none
    | _ => none
  | _ => none

noncomputable def evListRange (vs : List AV) (hp : List AO) : Option (AV × List AO) :=
  match vs with
  | [.int a, .int b] => if small a && small b && decide (b - a ≤ 1000000) then some (.ref hp.length, hp ++ [.list ((rangeInts a b).map .int)]) else none
  | _ => none

mutual
noncomputable def evE (C : Cx) : Nat → Expr → AS → Option (AV × List AO)
  | 0, _, _ => none
  | n + 1, e, σ => match e with
    | .Constant c _ _ => (constAV c).map fun v => (v, σ.hp)
    | .Name x _ => (getVar C x σ).map fun v => (v, σ.hp)
    | .BinOp l op r _ => (evE C n l σ).bind fun p => (evE C n r { σ with hp := p.2 }).bind fun p' => evBin op p.1 p'.1 p'.2
    | .UnaryOp op x _ => (evE C n x σ).bind fun p => (evUn op p.1).map fun v => (v, p.2)
    | .Compare l ops rs _ => match ops, rs with
      | [op], [r] => (evE C n l σ).bind fun p => (evE C n r { σ with hp := p.2 }).bind fun p' => (evCmp op p.1 p'.1 p'.2).map fun b => (.bool b, p'.2)
      | _, _ => none
    | .BoolOp op vs _ => match op, vs with
      | .And, [x, y] => (evE C n x σ).bind fun p => match p.1 with
        | .bool true => evE C n y { σ with hp := p.2 }
        | .bool false => some (.bool false, p.2)
        | _ => none
      | _, _ => none
    | .IfExp t a b _ => (evT C n t σ).bind fun p => if p.1 then evE C n a { σ with hp := p.2 } else evE C n b { σ with hp := p.2 }
    | .Subscript o i _ => (evE C n o σ).bind fun p => match sliceForm i with
      | some lu => (evB C n lu.1 { σ with hp := p.2 }).bind fun pl => (evB C n lu.2 { σ with hp := pl.2 }).bind fun pu => evCut p.1 pl.1 pu.1 pu.2
      | none => (evE C n i { σ with hp := p.2 }).bind fun p' => (evItem p.1 p'.1 p'.2).map fun v => (v, p'.2)
    | .List es _ => (evL C n es σ).bind fun p => if decide (p.1.length ≤ textLine) then some (.ref p.2.length, p.2 ++ [.list p.1]) else none
    | .Tuple es _ _ => (evL C n es σ).bind fun p => if decide (p.1.length ≤ textLine) then some (.ref p.2.length, p.2 ++ [.tup p.1]) else none
    | .ListComp elt gs scope _ => match gs with
      | [⟨t, it, ifs, isa⟩] => if isa = 0 && (compOk C scope && tgtLoc scope t) then
        (evI C n t it σ).bind fun p => (compIt (compStep (C.inner scope) t { vars := innerVars scope σ, hp := p.2.2, fz := σ.fz }
          (match ifs with
            | [] => fun σ' => some (true, σ'.hp)
            | [c] => fun σ' => evT (C.inner scope) n c σ'
            | _ => fun _ => none)
          (fun σ' => evE (C.inner scope) n elt σ')) p.1).bind fun ys => if decide (p.1.length ≤ textLine) then some (.ref p.2.2.length, p.2.2 ++ [.list ys]) else none
        else none
      | _ => none
    | .Call f as ks pos => match callForm f as ks pos with
      | .join arg => (evE C n arg σ).bind fun p => evJoin p.1 p.2
      | .listRange as => if C.kind "list" = some .globalImplicit ∧ C.kind "range" = some .globalImplicit then (evL C n as σ).bind fun p => evListRange p.1 p.2 else none
      | .plain f args => (evL C n args σ).bind fun p => evCall C f p.1 p.2
      | .bad => none
    | _ => none
noncomputable def evT (C : Cx) : Nat → Expr → AS → Option (Bool × List AO)
  | 0, _, _ => none
  | n + 1, e, σ => match e with
    | .UnaryOp op x _ => match op with
      | .Not => (evT C n x σ).map fun p => (!p.1, p.2)
      | _ => none
    | .BoolOp op vs _ => match op with
      | .And => evA C n vs σ
      | _ => none
    | .Compare l ops rs _ => match ops, rs with
      | [op], [r] => (evE C n l σ).bind fun p => (evE C n r { σ with hp := p.2 }).bind fun p' => (evCmp op p.1 p'.1 p'.2).map fun b => (b, p'.2)
      | _, _ => none
    | .Name x pos => (evE C n (.Name x pos) σ).bind fun p => match p.1 with
      | .bool b => some (b, p.2)
      | _ => none
    | .Call f as ks pos => (evE C n (.Call f as ks pos) σ).bind fun p => match p.1 with
      | .bool b => some (b, p.2)
      | _ => none
    | _ => none
noncomputable def evA (C : Cx) : Nat → List Expr → AS → Option (Bool × List AO)
  | 0, _, _ => none
  | n + 1, es, σ => match es with
    | [] => some (true, σ.hp)
    | x :: r => (evT C n x σ).bind fun p => if p.1 then evA C n r { σ with hp := p.2 } else some (false, p.2)
noncomputable def evL (C : Cx) : Nat → List Expr → AS → Option (List AV × List AO)
  | 0, _, _ => none
  | n + 1, es, σ => match es with
    | [] => some ([], σ.hp)
    | x :: r => (evE C n x σ).bind fun p => (evL C n r { σ with hp := p.2 }).map fun p' => (p.1 :: p'.1, p'.2)
noncomputable def evB (C : Cx) : Nat → Option Expr → AS → Option (Option Int × List AO)
  | 0, _, _ => none
  | n + 1, oe, σ => match oe with
    | none => some (none, σ.hp)
    | some e => (evE C n e σ).bind fun p => (asInt p.1).bind fun i => if small i then some (some i, p.2) else none
noncomputable def evI (C : Cx) : Nat → Expr → Expr → AS → Option (List It × List Nat × List AO)
  | 0, _, _, _ => none
  | n + 1, t, e, σ => match makerForm e with
    | some (f, args) => if C.kind f = some .globalImplicit then
        (evL C n args σ).bind fun p => (itemsOf f p.1 p.2).bind fun r => if tgtOk t r.1.2 then some (r.1.1, r.2, p.2) else none
      else none
    | none => (evE C n e σ).bind fun p => (itemsOfVal p.1 p.2).bind fun r => if tgtOk t r.1.2 then some (r.1.1, r.2, p.2) else none
end

/-- fin: what is told is all; else the loop must leave ahead of the end -/
noncomputable def forIt (fin : Bool) (tgt : It → AS → Option AS) (body : AS → Option (AF × AS)) : List It → AS → Option (AF × AS)
  | [], σ => if fin then some (.next, σ) else none
  | x :: xs, σ => (tgt x σ).bind fun σ₁ => (body σ₁).bind fun r => match r.1 with
    | .next => forIt fin tgt body xs r.2
    | .brk => some (.next, r.2)
    | .ret v => some (.ret v, r.2)

noncomputable def refsOf (vs : List AV) : List Nat := vs.filterMap fun | .ref n => some n | _ => none
noncomputable def unfz (fz : List Nat) (r : AF × AS) : AF × AS := (r.1, { r.2 with fz := fz })

/-- s[i] op= r, the index told -/
noncomputable def evPut (op : Operator) (o i v : AV) (σ : AS) : Option AS :=
  match o, i with
  | .ref k, .int j => match σ.hp[k]? with
    | some (.list xs) => if decide (j < 0) && small j && !σ.fz.contains k then
        (place j xs.length).bind fun m => (xs[m]?).bind fun old => (evAug op old v).map fun r => { σ with hp := σ.hp.set k (.list (xs.set m r)) }
      else none
    | _ => none
  | _, _ => none
noncomputable def evAppend (o v : AV) (σ : AS) : Option AS :=
  match o with
  | .ref k => match σ.hp[k]? with
    | some (.list xs) => if !σ.fz.contains k && decide (xs.length ≤ textLine) then some { σ with hp := σ.hp.set k (.list (xs ++ [v])) } else none
    | _ => none
  | _ => none

noncomputable def listAt (hp : List AO) : AV → Bool
  | .ref k => match hp[k]? with
    | some (.list _) => true
    | _ => false
  | _ => false

/-- a constant, written -/
noncomputable def litOf : Expr → Option AV
  | .Constant c _ _ => constAV c
  | _ => none
noncomputable def attrOf : Expr → Option (Expr × Str × Pos)
  | .Attribute o nm p => some (o, nm, p)
  | _ => none
noncomputable def oneArg (o : Expr) (nm : Str) (apos : Pos) (args : List Expr) (pos : Pos) : Option (Str × Expr) :=
  match args with
  | [] => none
  | a :: r => (match r with
    | _ :: _ => none
    | [] => if nm = "append" ∧ apos.endLine = pos.line then (nameOf o).map fun x => (x, a) else none)
/-- x.append(arg) -/
noncomputable def appendForm (e : Expr) : Option (Str × Expr) :=
  match e with
  | .Call f args ks pos => (match ks with
    | _ :: _ => none
    | [] => (attrOf f).bind fun q => oneArg q.1 q.2.1 q.2.2 args pos)
  | _ => none

mutual
noncomputable def evS (C : Cx) : Nat → Stmt → AS → Option (AF × AS)
  | 0, _, _ => none
  | n + 1, st, σ => match st with
    | .Assign ts v _ => match ts with
      | [.Name x _] => (evE C n v σ).bind fun p => (setVar C x p.1 { σ with hp := p.2 }).map fun σ' => (.next, σ')
      | _ => none
    | .AugAssign t op v _ => match t with
      | .Name x _ => (getVar C x σ).bind fun a => (evE C n v σ).bind fun p => (evAug op a p.1).bind fun r => (setVar C x r { σ with hp := p.2 }).map fun σ' => (.next, σ')
      | .Subscript o i _ => (evE C n o σ).bind fun p => (evE C n i { σ with hp := p.2 }).bind fun p' => (litOf v).bind fun a => (evPut op p.1 p'.1 a { σ with hp := p'.2 }).map fun σ' => (.next, σ')
      | _ => none
    | .Expr e _ => match appendForm e with
      | some (x, arg) => (getVar C x σ).bind fun o => if listAt σ.hp o then (evE C n arg σ).bind fun p => (evAppend o p.1 { σ with hp := p.2 }).map fun σ' => (.next, σ') else none
      | none => none
    | .If t b o _ => (evT C n t σ).bind fun p => if p.1 then evSs C n b { σ with hp := p.2 } else evSs C n o { σ with hp := p.2 }
    | .For t it body orelse _ => match orelse with
      | [] => match genForm C it with
        | some (f, args) => if C.kind f = some .globalImplicit then
            (evL C n args σ).bind fun p => (deepAll p.2 p.1).bind fun ds => (C.gen f ds).bind fun items => if tgtOk t (genTwo f) then (forIt items.2 (bindT C t) (evSs C n body) items.1 { σ with hp := p.2, fz := refsOf p.1 ++ σ.fz }).map (unfz σ.fz) else none
          else none
        | none => (evI C n t it σ).bind fun p => (forIt true (bindT C t) (evSs C n body) p.1 { σ with hp := p.2.2, fz := p.2.1 ++ σ.fz }).map (unfz σ.fz)
      | _ => none
    | .Return e _ => match e with
      | some e => (evE C n e σ).map fun p => (.ret p.1, { σ with hp := p.2 })
      | none => none
    | .Break _ => some (.brk, σ)
    | _ => none
noncomputable def evSs (C : Cx) : Nat → List Stmt → AS → Option (AF × AS)
  | 0, _, _ => none
  | n + 1, ss, σ => match ss with
    | [] => some (.next, σ)
    | s :: r => (evS C n s σ).bind fun p => match p.1 with
      | .next => evSs C n r p.2
      | .brk => some (.brk, p.2)
      | .ret v => some (.ret v, p.2)
end
/-! ## the text's own defs -/
noncomputable def defs : List (Str × Arguments × List Stmt × Scope) := PySem.Challenge.pw_ph0039_01.main.body.filterMap fun
  | .FunctionDef name args body _ _ _ scope _ _ _ => some (name, args, body, scope)
  | _ => none

/-- what _iter_escaped_chars tells -/
noncomputable def escI : Bool → Nat → List Nat → List It
  | true, p, [] => [.two (.int (p - 1)) (.str [92])]
  | false, _, [] => []
  | true, p, c :: r => .two (.int p) (.str [92, c]) :: escI false (p + 1) r
  | false, p, c :: r => if c = 92 then escI true (p + 1) r else .two (.int p) (.str [c]) :: escI false (p + 1) r
/-- what _grouping_intervals tells (of what has no end, twelve) -/
noncomputable def grpI : Option Int → List Int → Option (List It × Bool)
  | _, [] => some ([], true)
  | last, v :: r => if v = 127 then some ([], true) else if v = 0 then last.map fun l => (List.replicate 12 (.one (.int l)), false) else
    (grpI (some v) r).map fun p => (.one (.int v) :: p.1, p.2)

noncomputable def genSpec (f : Str) (ds : List DA) : Option (List It × Bool) :=
  if f = "_iter_escaped_chars" then match ds with
    | [.val (.str x)] => if x.all (fun c => decide (c < 128)) && decide (x.length ≤ textLine) then some (escI false 0 x, true) else none
    | _ => none
  else if f = "_grouping_intervals" then match ds with
    | [.lst xs] => (allInts xs).bind (grpI none)
    | _ => none
  else none
noncomputable def isGen (f : Str) : Bool := f == "_iter_escaped_chars" || f == "_grouping_intervals"
noncomputable def globSpec (x : Str) : Option AV := if x = "CHAR_MAX" then some (.int 127) else none

noncomputable def layArgs : List Arg → List DA → AS → Option AS
  | [], [], σ => some σ
  | a :: as, .val v :: ds, σ => if v.isVal then layArgs as ds { σ with vars := fun y => if y = a.arg then some v else σ.vars y } else none
  | a :: as, .lst xs :: ds, σ => if xs.all AV.isVal && σ.hp.isEmpty then layArgs as ds { vars := fun y => if y = a.arg then some (.ref σ.hp.length) else σ.vars y, hp := σ.hp ++ [.list xs], fz := σ.hp.length :: σ.fz } else none
  | _, _, _ => none
noncomputable def toDR (fz : List Nat) (hp : List AO) : AV → Option DR
  | .ref n => if fz.contains n then none else match hp[n]? with
    | some (.list xs) => if xs.all AV.isVal then some (.lst xs) else none
    | some (.tup [v, .ref k]) => if fz.contains k then none else (match hp[k]? with
      | some (.list xs) => if v.isVal && xs.all AV.isVal then some (.pair v xs) else none
      | _ => none)
    | _ => none
  | v => some (.val v)
noncomputable def cxOf (names : List (Str × NameKind)) (fn : Str → List DA → Option DR) : Cx := ⟨names, globSpec, fn, isGen, genSpec⟩
noncomputable def as0 : AS := ⟨fun _ => none, [], []⟩
/-- a call of a def of the text's own: its body, run -/
noncomputable def runFn : Nat → Str → List DA → Option DR
  | 0, _, _ => none
  | n + 1, f, ds => (defs.lookup f).bind fun d => if isGen f then none else
    (layArgs d.1.args ds as0).bind fun σ => (evSs (cxOf d.2.2.names (runFn n)) 60 d.2.1 σ).bind fun r => match r.1 with
      | .ret v => toDR r.2.fz r.2.hp v
      | _ => none
end Mine

namespace Mine
open PySem

theorem ofString_inj {a b : String} : Str.ofString a = Str.ofString b ↔ a = b := by
  constructor
  · intro h
    rw [Str.ofString_eq_toList, Str.ofString_eq_toList] at h
    have h := congrArg (fun s : Str => s.cps.toList) h
    simp only at h
    have hinj : ∀ x y : Char, x.toNat = y.toNat → x = y := fun x y h => Char.ext (UInt32.toNat_inj.mp h)
    have key : ∀ l m : List Char, l.map Char.toNat = m.map Char.toNat → l = m := by
      intro l
      induction l with
      | nil => intro m h; cases m with
        | nil => rfl
        | cons _ _ => simp at h
      | cons x l ih => intro m h; cases m with
        | nil => simp at h
        | cons y m =>
          simp only [List.map_cons, List.cons.injEq] at h
          rw [hinj _ _ h.1, ih _ h.2]
    rw [← String.ofList_toList (s := a), key _ _ h, String.ofList_toList]
  · rintro rfl; rfl
theorem ofString_beq {a b : String} : (Str.ofString a == Str.ofString b) = (a == b) := by
  by_cases h : a = b
  · subst h; simp
  · have : Str.ofString a ≠ Str.ofString b := fun e => h (ofString_inj.mp e)
    rw [beq_eq_false_iff_ne.mpr this, beq_eq_false_iff_ne.mpr h]

theorem lk_at {α : Type} {f : Str} {d : α} : ∀ {l : List (Str × α)} (i : Nat), (l.map Prod.fst).idxOf f = i → l[i]? = some (f, d) → l.lookup f = some d
  | [], i, _, h => by simp at h
  | (g, e) :: l, i, hi, h => by
    rw [List.map_cons, List.idxOf_cons] at hi
    rw [List.lookup_cons]
    by_cases hg : f = g
    · subst hg
      simp at hi; subst hi
      simp at h; simp [h]
    · have h1 : (g == f) = false := by simpa using fun e => hg e.symm
      have h2 : (f == g) = false := by simpa using hg
      simp only [h1, cond_false] at hi
      simp only [h2]
      subst hi
      exact lk_at _ rfl (by simpa using h)

section
variable {C : Cx} {n : Nat} {σ : AS}
theorem xConst {c : Const} {k : Nat} {p : Pos} : evE C (n+1) (.Constant c k p) σ = (constAV c).map fun v => (v, σ.hp) := rfl
theorem xName {x : Str} {p : Pos} : evE C (n+1) (.Name x p) σ = (getVar C x σ).map fun v => (v, σ.hp) := rfl
theorem xBin {l r : Expr} {op : Operator} {p : Pos} : evE C (n+1) (.BinOp l op r p) σ = (evE C n l σ).bind fun p => (evE C n r { σ with hp := p.2 }).bind fun p' => evBin op p.1 p'.1 p'.2 := rfl
theorem xUn {x : Expr} {op : UnaryOp} {p : Pos} : evE C (n+1) (.UnaryOp op x p) σ = (evE C n x σ).bind fun p => (evUn op p.1).map fun v => (v, p.2) := rfl
theorem xCmp {l r : Expr} {op : CmpOp} {p : Pos} : evE C (n+1) (.Compare l [op] [r] p) σ = (evE C n l σ).bind fun p => (evE C n r { σ with hp := p.2 }).bind fun p' => (evCmp op p.1 p'.1 p'.2).map fun b => (.bool b, p'.2) := rfl
theorem xAnd {x y : Expr} {p : Pos} : evE C (n+1) (.BoolOp .And [x, y] p) σ = (evE C n x σ).bind fun p => match p.1 with
        | .bool true => evE C n y { σ with hp := p.2 }
        | .bool false => some (.bool false, p.2)
        | _ => none := rfl
theorem xIf {t a b : Expr} {p : Pos} : evE C (n+1) (.IfExp t a b p) σ = (evT C n t σ).bind fun p => if p.1 then evE C n a { σ with hp := p.2 } else evE C n b { σ with hp := p.2 } := rfl
theorem xSub {o i : Expr} {p : Pos} : evE C (n+1) (.Subscript o i p) σ = (evE C n o σ).bind fun p => match sliceForm i with
      | some lu => (evB C n lu.1 { σ with hp := p.2 }).bind fun pl => (evB C n lu.2 { σ with hp := pl.2 }).bind fun pu => evCut p.1 pl.1 pu.1 pu.2
      | none => (evE C n i { σ with hp := p.2 }).bind fun p' => (evItem p.1 p'.1 p'.2).map fun v => (v, p'.2) := rfl
theorem xList {es : List Expr} {p : Pos} : evE C (n+1) (.List es p) σ = (evL C n es σ).bind fun p => if decide (p.1.length ≤ textLine) then some (.ref p.2.length, p.2 ++ [.list p.1]) else none := rfl
theorem xTup {es : List Expr} {k : Nat} {p : Pos} : evE C (n+1) (.Tuple es k p) σ = (evL C n es σ).bind fun p => if decide (p.1.length ≤ textLine) then some (.ref p.2.length, p.2 ++ [.tup p.1]) else none := rfl
theorem xComp {elt t it : Expr} {ifs : List Expr} {isa : Int} {scope : Scope} {p : Pos} : evE C (n+1) (.ListComp elt [⟨t, it, ifs, isa⟩] scope p) σ = if isa = 0 && (compOk C scope && tgtLoc scope t) then
        (evI C n t it σ).bind fun p => (compIt (compStep (C.inner scope) t { vars := innerVars scope σ, hp := p.2.2, fz := σ.fz }
          (match ifs with
            | [] => fun σ' => some (true, σ'.hp)
            | [c] => fun σ' => evT (C.inner scope) n c σ'
            | _ => fun _ => none)
          (fun σ' => evE (C.inner scope) n elt σ')) p.1).bind fun ys => if decide (p.1.length ≤ textLine) then some (.ref p.2.2.length, p.2.2 ++ [.list ys]) else none
        else none := rfl
theorem xComp0 {elt t it : Expr} {scope : Scope} {p : Pos} (h : (compOk C scope && tgtLoc scope t) = true) : evE C (n+1) (.ListComp elt [⟨t, it, [], 0⟩] scope p) σ =
        (evI C n t it σ).bind fun p => (compIt (compStep (C.inner scope) t { vars := innerVars scope σ, hp := p.2.2, fz := σ.fz } (fun σ' => some (true, σ'.hp))
          (fun σ' => evE (C.inner scope) n elt σ')) p.1).bind fun ys => if decide (p.1.length ≤ textLine) then some (.ref p.2.2.length, p.2.2 ++ [.list ys]) else none := by
  show (if (decide ((0:Nat) = 0) && (compOk C scope && tgtLoc scope t)) = true then _ else _) = _
  rw [h]; rfl
theorem xComp1 {elt t it c : Expr} {scope : Scope} {p : Pos} (h : (compOk C scope && tgtLoc scope t) = true) : evE C (n+1) (.ListComp elt [⟨t, it, [c], 0⟩] scope p) σ =
        (evI C n t it σ).bind fun p => (compIt (compStep (C.inner scope) t { vars := innerVars scope σ, hp := p.2.2, fz := σ.fz } (fun σ' => evT (C.inner scope) n c σ')
          (fun σ' => evE (C.inner scope) n elt σ')) p.1).bind fun ys => if decide (p.1.length ≤ textLine) then some (.ref p.2.2.length, p.2.2 ++ [.list ys]) else none := by
  show (if (decide ((0:Nat) = 0) && (compOk C scope && tgtLoc scope t)) = true then _ else _) = _
  rw [h]; rfl
theorem xCall {f : Expr} {as : List Expr} {ks : List Keyword} {pos : Pos} : evE C (n+1) (.Call f as ks pos) σ = match callForm f as ks pos with
      | .join arg => (evE C n arg σ).bind fun p => evJoin p.1 p.2
      | .listRange as => if C.kind "list" = some .globalImplicit ∧ C.kind "range" = some .globalImplicit then (evL C n as σ).bind fun p => evListRange p.1 p.2 else none
      | .plain f args => (evL C n args σ).bind fun p => evCall C f p.1 p.2
      | .bad => none := rfl
theorem tNot {x : Expr} {p : Pos} : evT C (n+1) (.UnaryOp .Not x p) σ = (evT C n x σ).map fun p => (!p.1, p.2) := rfl
theorem tAnd {vs : List Expr} {p : Pos} : evT C (n+1) (.BoolOp .And vs p) σ = evA C n vs σ := rfl
theorem tCmp {l r : Expr} {op : CmpOp} {p : Pos} : evT C (n+1) (.Compare l [op] [r] p) σ = (evE C n l σ).bind fun p => (evE C n r { σ with hp := p.2 }).bind fun p' => (evCmp op p.1 p'.1 p'.2).map fun b => (b, p'.2) := rfl
theorem tName {x : Str} {pos : Pos} : evT C (n+1) (.Name x pos) σ = (evE C n (.Name x pos) σ).bind fun p => match p.1 with
      | .bool b => some (b, p.2)
      | _ => none := rfl
theorem tCall {f : Expr} {as : List Expr} {ks : List Keyword} {pos : Pos} : evT C (n+1) (.Call f as ks pos) σ = (evE C n (.Call f as ks pos) σ).bind fun p => match p.1 with
      | .bool b => some (b, p.2)
      | _ => none := rfl
theorem aNil : evA C (n+1) [] σ = some (true, σ.hp) := rfl
theorem aCons {x : Expr} {r : List Expr} : evA C (n+1) (x :: r) σ = (evT C n x σ).bind fun p => if p.1 then evA C n r { σ with hp := p.2 } else some (false, p.2) := rfl
theorem lNil : evL C (n+1) [] σ = some ([], σ.hp) := rfl
theorem lCons {x : Expr} {r : List Expr} : evL C (n+1) (x :: r) σ = (evE C n x σ).bind fun p => (evL C n r { σ with hp := p.2 }).map fun p' => (p.1 :: p'.1, p'.2) := rfl
theorem bNone : evB C (n+1) none σ = some (none, σ.hp) := rfl
theorem bSome {e : Expr} : evB C (n+1) (some e) σ = (evE C n e σ).bind fun p => (asInt p.1).bind fun i => if small i then some (some i, p.2) else none := rfl
theorem iAll {t e : Expr} : evI C (n+1) t e σ = match makerForm e with
    | some (f, args) => if C.kind f = some .globalImplicit then
        (evL C n args σ).bind fun p => (itemsOf f p.1 p.2).bind fun r => if tgtOk t r.1.2 then some (r.1.1, r.2, p.2) else none
      else none
    | none => (evE C n e σ).bind fun p => (itemsOfVal p.1 p.2).bind fun r => if tgtOk t r.1.2 then some (r.1.1, r.2, p.2) else none := rfl
theorem sAssign {x : Str} {p pos : Pos} {v : Expr} : evS C (n+1) (.Assign [.Name x p] v pos) σ = (evE C n v σ).bind fun p => (setVar C x p.1 { σ with hp := p.2 }).map fun σ' => (.next, σ') := rfl
theorem sAug {x : Str} {op : Operator} {p pos : Pos} {v : Expr} : evS C (n+1) (.AugAssign (.Name x p) op v pos) σ = (getVar C x σ).bind fun a => (evE C n v σ).bind fun p => (evAug op a p.1).bind fun r => (setVar C x r { σ with hp := p.2 }).map fun σ' => (.next, σ') := rfl
theorem sPut {o i : Expr} {op : Operator} {p q pos : Pos} {c : Const} {k : Nat} : evS C (n+1) (.AugAssign (.Subscript o i p) op (.Constant c k q) pos) σ = (evE C n o σ).bind fun p => (evE C n i { σ with hp := p.2 }).bind fun p' => (constAV c).bind fun a => (evPut op p.1 p'.1 a { σ with hp := p'.2 }).map fun σ' => (.next, σ') := rfl
theorem sExpr {e : Expr} {pos : Pos} : evS C (n+1) (.Expr e pos) σ = match appendForm e with
      | some (x, arg) => (getVar C x σ).bind fun o => if listAt σ.hp o then (evE C n arg σ).bind fun p => (evAppend o p.1 { σ with hp := p.2 }).map fun σ' => (.next, σ') else none
      | none => none := rfl
theorem sIf {t : Expr} {b o : List Stmt} {pos : Pos} : evS C (n+1) (.If t b o pos) σ = (evT C n t σ).bind fun p => if p.1 then evSs C n b { σ with hp := p.2 } else evSs C n o { σ with hp := p.2 } := rfl
theorem sFor {t it : Expr} {body : List Stmt} {pos : Pos} : evS C (n+1) (.For t it body [] pos) σ = match genForm C it with
        | some (f, args) => if C.kind f = some .globalImplicit then
            (evL C n args σ).bind fun p => (deepAll p.2 p.1).bind fun ds => (C.gen f ds).bind fun items => if tgtOk t (genTwo f) then (forIt items.2 (bindT C t) (evSs C n body) items.1 { σ with hp := p.2, fz := refsOf p.1 ++ σ.fz }).map (unfz σ.fz) else none
          else none
        | none => (evI C n t it σ).bind fun p => (forIt true (bindT C t) (evSs C n body) p.1 { σ with hp := p.2.2, fz := p.2.1 ++ σ.fz }).map (unfz σ.fz) := rfl
theorem sRet {e : Expr} {pos : Pos} : evS C (n+1) (.Return (some e) pos) σ = (evE C n e σ).map fun p => (.ret p.1, { σ with hp := p.2 }) := rfl
theorem sBrk {pos : Pos} : evS C (n+1) (.Break pos) σ = some (.brk, σ) := rfl
theorem ssNil : evSs C (n+1) [] σ = some (.next, σ) := rfl
theorem ssCons {s : Stmt} {r : List Stmt} : evSs C (n+1) (s :: r) σ = (evS C n s σ).bind fun p => match p.1 with
      | .next => evSs C n r p.2
      | .brk => some (.brk, p.2)
      | .ret v => some (.ret v, p.2) := rfl
end

section
variable {hp : List AO}
theorem cGtS {a b : List Nat} : evCmp .Gt (.str a) (.str b) hp = some (ltL b a) := rfl
theorem cLtS {a b : List Nat} : evCmp .Lt (.str a) (.str b) hp = some (ltL a b) := rfl
theorem cEqS {a b : List Nat} : evCmp .Eq (.str a) (.str b) hp = some (decide (a = b)) := rfl
theorem cNeS {a b : List Nat} : evCmp .NotEq (.str a) (.str b) hp = some (decide (a ≠ b)) := rfl
theorem cEqI {a b : Int} : evCmp .Eq (.int a) (.int b) hp = some (decide (a = b)) := rfl
theorem cNeI {a b : Int} : evCmp .NotEq (.int a) (.int b) hp = some (decide (a ≠ b)) := rfl
theorem cLtI {a b : Int} : evCmp .Lt (.int a) (.int b) hp = some (decide (a < b)) := rfl
theorem cLeI {a b : Int} : evCmp .LtE (.int a) (.int b) hp = some (decide (a ≤ b)) := rfl
theorem cGtI {a b : Int} : evCmp .Gt (.int a) (.int b) hp = some (decide (b < a)) := rfl
theorem cGeI {a b : Int} : evCmp .GtE (.int a) (.int b) hp = some (decide (b ≤ a)) := rfl
theorem cIsB {a b : Bool} : evCmp .Is (.bool a) (.bool b) hp = some (decide (a = b)) := rfl
theorem cIsNotB {a b : Bool} : evCmp .IsNot (.bool a) (.bool b) hp = some (decide (a ≠ b)) := rfl
theorem cIsN : evCmp .Is .none .none hp = some true := rfl
theorem cIsIN {a : Int} : evCmp .Is (.int a) .none hp = some false := rfl
theorem cNotInS {c : Nat} {x : List Nat} : evCmp .NotIn (.str [c]) (.str x) hp = some (!x.contains c) := rfl
theorem cInL {a : Int} {n : Nat} : evCmp .In (.int a) (.ref n) hp = match hp[n]? with
    | some (.list xs) => (allInts xs).map fun ys => ys.contains a
    | _ => none := rfl
theorem cNotInL {a : Int} {n : Nat} : evCmp .NotIn (.int a) (.ref n) hp = (match hp[n]? with
    | some (.list xs) => (allInts xs).map fun ys : List Int => ys.contains a
    | _ => none).map (!·) := rfl
theorem bAddI {a b : Int} : evBin .Add (.int a) (.int b) hp = some (.int (a + b), hp) := rfl
theorem bSubI {a b : Int} : evBin .Sub (.int a) (.int b) hp = some (.int (a - b), hp) := rfl
theorem bMulI {a b : Int} : evBin .Mult (.int a) (.int b) hp = if small a && small b then some (.int (a * b), hp) else none := rfl
theorem bFdI {a b : Int} : evBin .FloorDiv (.int a) (.int b) hp = if decide (b.natAbs < 1073741824) && decide (b ≠ 0) then some (.int (a.fdiv b), hp) else none := rfl
theorem bModI {a b : Int} : evBin .Mod (.int a) (.int b) hp = if decide (b ≠ 0) then some (.int (a.fmod b), hp) else none := rfl
theorem bPow : evBin .Pow (.int 10) (.int 6) hp = some (.int 1000000, hp) := rfl
theorem bSubB {a b : Bool} : evBin .Sub (.bool a) (.bool b) hp = some (.int (b2i a - b2i b), hp) := rfl
theorem bAddS {x y : List Nat} : evBin .Add (.str x) (.str y) hp = if decide (x.length + y.length ≤ textLine) then some (.str (x ++ y), hp) else none := rfl
theorem bMulS {x : List Nat} {n : Int} : evBin .Mult (.str x) (.int n) hp = if decide (x.length = 1) && (decide (n ≤ 1000000) && small n) then some (.str (List.replicate n.toNat (x.headD 0)), hp) else none := rfl
theorem bAddL {i j : Nat} : evBin .Add (.ref i) (.ref j) hp = match hp[i]? with
    | some (.list xs) => (match hp[j]? with
      | some (.list ys) => if decide (xs.length + ys.length ≤ textLine) then some (.ref hp.length, hp ++ [.list (xs ++ ys)]) else none
      | _ => none)
    | _ => none := rfl
end

theorem kS {x : List Nat} {l u : Option Int} {hp : List AO} : evCut (.str x) l u hp = if decide (x.length ≤ textLine) then some (.str (cutL l u x), hp) else none := rfl
theorem kR {n : Nat} {l u : Option Int} {hp : List AO} : evCut (.ref n) l u hp = match hp[n]? with
    | some (.list xs) => if decide (xs.length ≤ textLine) then some (.ref hp.length, hp ++ [.list (cutL l u xs)]) else none
    | _ => none := rfl
theorem eAp {k : Nat} {v : AV} {σ : AS} : evAppend (.ref k) v σ = match σ.hp[k]? with
    | some (.list xs) => if !σ.fz.contains k && decide (xs.length ≤ textLine) then some { σ with hp := σ.hp.set k (.list (xs ++ [v])) } else none
    | _ => none := rfl
theorem ePut {op : Operator} {k : Nat} {j : Int} {v : AV} {σ : AS} : evPut op (.ref k) (.int j) v σ = match σ.hp[k]? with
    | some (.list xs) => if decide (j < 0) && small j && !σ.fz.contains k then
        (place j xs.length).bind fun m => (xs[m]?).bind fun old => (evAug op old v).map fun r => { σ with hp := σ.hp.set k (.list (xs.set m r)) }
      else none
    | _ => none := rfl
theorem tg1 {x : Str} {p : Pos} : tgtOk (.Name x p) false = true := rfl
theorem tg2 {x y : Str} {p q : Pos} {k : Nat} {r : Pos} : tgtOk (.Tuple [.Name x p, .Name y q] k r) true = true := rfl
theorem bt1 {C : Cx} {x : Str} {p : Pos} {v : AV} {σ : AS} : bindT C (.Name x p) (.one v) σ = setVar C x v σ := rfl
theorem bt2 {C : Cx} {x y : Str} {p q : Pos} {k : Nat} {r : Pos} {a b : AV} {σ : AS} : bindT C (.Tuple [.Name x p, .Name y q] k r) (.two a b) σ = (setVar C x a σ).bind (setVar C y b) := rfl
/-! the forms, told -/
section
variable {x y g f nm : Str} {a o e : Expr} {as args r : List Expr} {p q pos apos p' : Pos} {k : Nat} {l u : Option Expr} {C : Cx} {scope : Scope}
theorem fPlain : callForm (.Name g q) (a :: as) [] pos = if g = "list" then rangeForm (a :: as) else .plain g (a :: as) := rfl
theorem fJoin : callForm (.Attribute o nm apos) [a] [] pos = if (decide (nm = "join") && (emptyStr o && decide (apos.endLine = pos.line))) = true then .join a else .bad := rfl
theorem fRange : rangeForm [.Call (.Name g q) as [] p] = if (g == "range") = true then .listRange as else .bad := rfl
theorem fName : nameOf (.Name x p) = some x := rfl
theorem fEmpty {z : Str} : emptyStr (.Constant (.str z) k p) = decide (z.cps.toList = []) := rfl
theorem fMake : makerForm (.Call (.Name f p) args [] pos) = if isMaker f then some (f, args) else none := rfl
theorem fMakeN : makerForm (.Name x p) = none := rfl
theorem fMakeS : makerForm (.Subscript o e p) = none := rfl
theorem fGen : genForm C (.Call (.Name f p) args [] pos) = if C.isGen f then some (f, args) else none := rfl
theorem fGenN : genForm C (.Name x p) = none := rfl
theorem fGenS : genForm C (.Subscript o e p) = none := rfl
theorem fSlice : sliceForm (.Slice l u none p) = some (l, u) := rfl
theorem fSliceC {c : Const} : sliceForm (.Constant c k p) = none := rfl
theorem fSliceN : sliceForm (.Name x p) = none := rfl
theorem fSliceB {op : Operator} : sliceForm (.BinOp o op e p) = none := rfl
theorem fSliceU {op : UnaryOp} : sliceForm (.UnaryOp op e p) = none := rfl
theorem fSliceS : sliceForm (.Subscript o e p) = none := rfl
theorem fApp : appendForm (.Call (.Attribute (.Name x p) nm apos) [a] [] pos) = if nm = "append" ∧ apos.endLine = pos.line then some (x, a) else none := rfl
theorem fLoc : tgtLoc scope (.Name x p) = decide (scope.names.lookup x = some .local) := rfl
theorem fLoc2 : tgtLoc scope (.Tuple [.Name x p, .Name y q] k pos) = (decide (scope.names.lookup x = some .local) && decide (scope.names.lookup y = some .local)) := rfl
end
theorem compIt_map {α : Type} {step : It → Option (Option AV)} {g : α → It} {F : α → Option AV} : ∀ {l : List α}, (∀ c ∈ l, step (g c) = some (F c)) → compIt step (l.map g) = some (l.filterMap F)
  | [], _ => rfl
  | x :: xs, h => by
    rw [List.map_cons, compIt, h x List.mem_cons_self, Option.bind_some, compIt_map fun y hy => h y (List.mem_cons_of_mem _ hy), Option.map_some, List.filterMap_cons]
    cases F x <;> rfl

/-- a loop, told by a function -/
noncomputable def loopF {α S : Type} (step : α → S → AF × S) : List α → S → AF × S
  | [], s => (.next, s)
  | x :: xs, s => match step x s with
    | (.next, s') => loopF step xs s'
    | (.brk, s') => (.next, s')
    | (.ret v, s') => (.ret v, s')
theorem forIt_map {α S : Type} {fin : Bool} {tgt : It → AS → Option AS} {body : AS → Option (AF × AS)} (step : α → S → AF × S) (Rep : Nat → S → AS → Prop) (g : α → It) : ∀ (items : List α) (k : Nat) (s : S) (σ : AS),
    (∀ i x, items[i]? = some x → ∀ s σ, Rep (k + i) s σ → ∃ r, (tgt (g x) σ).bind body = some r ∧ r.1 = (step x s).1 ∧ Rep (k + i + 1) (step x s).2 r.2) → fin = true → Rep k s σ →
    ∃ r i, i ≤ items.length ∧ forIt fin tgt body (items.map g) σ = some r ∧ r.1 = (loopF step items s).1 ∧ Rep (k + i) (loopF step items s).2 r.2
  | [], k, s, σ, _, hf, h => ⟨(.next, σ), 0, Nat.le_refl _, by rw [List.map_nil, forIt, hf]; rfl, rfl, h⟩
  | x :: xs, k, s, σ, hs, hf, h => by
    obtain ⟨⟨af, σ'⟩, h1, h2, h3⟩ := hs 0 x rfl s σ h
    have ih := forIt_map step Rep g xs (k + 1) (step x s).2 σ' (fun i y hy s σ hr => by
      have := hs (i + 1) y (by simpa using hy) s σ (by rw [show k + (i + 1) = k + 1 + i by omega]; exact hr)
      rw [show k + (i + 1) + 1 = k + 1 + i + 1 by omega] at this
      exact this) hf
    rw [List.map_cons, forIt]
    obtain ⟨σ₁, h4, h5⟩ := Option.bind_eq_some_iff.mp h1
    rw [h4, Option.bind_some, h5, Option.bind_some, loopF]
    simp only at h2 h3
    cases he : step x s with
    | mk a b =>
      rw [he] at h2 h3 ih
      simp only at h2 h3 ih
      subst h2
      cases af with
      | next =>
        obtain ⟨r, i, hi, h6, h7, h8⟩ := ih h3
        exact ⟨r, i + 1, by simp; omega, h6, h7, by rw [show k + (i + 1) = k + 1 + i by (clear hs hf h h4 ih h3 h1 h5 he hi h6 h7 h8; omega)]; exact h8⟩
      | brk => exact ⟨_, 1, by simp, rfl, rfl, h3⟩
      | ret v => exact ⟨_, 1, by simp, rfl, rfl, h3⟩
theorem compIt_all {step : It → Option (Option AV)} {f : It → Option AV} : ∀ {items : List It}, (∀ x ∈ items, step x = some (f x)) → compIt step items = some (items.filterMap f)
  | [], _ => rfl
  | x :: xs, h => by
    rw [compIt, h x List.mem_cons_self, Option.bind_some, compIt_all fun y hy => h y (List.mem_cons_of_mem _ hy), Option.map_some, List.filterMap_cons]
    cases f x <;> rfl

theorem forIt_then {α S X : Type} {fin : Bool} {tgt : It → AS → Option AS} {body : AS → Option (AF × AS)} {K : AF × AS → Option X} {v : Option X} (step : α → S → AF × S) (Rep : Nat → S → AS → Prop) (g : α → It) (items : List α) (s : S) (σ : AS)
    (hstep : ∀ i x, items[i]? = some x → ∀ s σ, Rep i s σ → ∃ r, (tgt (g x) σ).bind body = some r ∧ r.1 = (step x s).1 ∧ Rep (i + 1) (step x s).2 r.2) (hf : fin = true) (h0 : Rep 0 s σ)
    (hK : ∀ i σ', i ≤ items.length → Rep i (loopF step items s).2 σ' → K ((loopF step items s).1, σ') = v) : (forIt fin tgt body (items.map g) σ).bind K = v := by
  obtain ⟨⟨a, b⟩, i, hi, h1, h2, h3⟩ := forIt_map step Rep g items 0 s σ (by simpa using hstep) hf h0
  rw [h1, Option.bind_some]
  simp only at h2 h3
  rw [h2]
  rw [Nat.zero_add] at h3
  exact hK i b hi h3
theorem forIt_ex {α S : Type} {fin : Bool} {tgt : It → AS → Option AS} {body : AS → Option (AF × AS)} {K : AF × AS → Option (AF × AS)} {P : AF × AS → Prop} (step : α → S → AF × S) (Rep : Nat → S → AS → Prop) (g : α → It) (items : List α) (s : S) (σ : AS)
    (hstep : ∀ i x, items[i]? = some x → ∀ s σ, Rep i s σ → ∃ r, (tgt (g x) σ).bind body = some r ∧ r.1 = (step x s).1 ∧ Rep (i + 1) (step x s).2 r.2) (hf : fin = true) (h0 : Rep 0 s σ)
    (hK : ∀ i σ', i ≤ items.length → Rep i (loopF step items s).2 σ' → ∃ r, K ((loopF step items s).1, σ') = some r ∧ P r) : ∃ r, (forIt fin tgt body (items.map g) σ).bind K = some r ∧ P r := by
  obtain ⟨⟨a, b⟩, i, hi, h1, h2, h3⟩ := forIt_map step Rep g items 0 s σ (by simpa using hstep) hf h0
  rw [h1, Option.bind_some]
  simp only at h2 h3
  rw [h2]
  rw [Nat.zero_add] at h3
  exact hK i b hi h3
theorem allInts_nat (l : List Nat) : allInts (l.map fun n : Nat => AV.int (n : Int)) = some (l.map fun n : Nat => (n : Int)) := by
  induction l with
  | nil => rfl
  | cons a l ih => rw [List.map_cons, List.map_cons, allInts, ih]; rfl
theorem allInts_int (l : List Int) : allInts (l.map AV.int) = some l := by
  induction l with
  | nil => rfl
  | cons a l ih => rw [List.map_cons, allInts, ih]; rfl
theorem allStrs_map {α : Type} (f : α → List Nat) (l : List α) : allStrs (l.map fun b => AV.str (f b)) = some (l.map f) := by
  induction l with
  | nil => rfl
  | cons a l ih => rw [List.map_cons, List.map_cons, allStrs, ih]; rfl
theorem contains_nat (l : List Nat) (c : Nat) : (l.map fun n : Nat => (n : Int)).contains (c : Int) = l.contains c := by
  induction l with
  | nil => rfl
  | cons a l ih =>
    rw [List.map_cons, List.contains_cons, List.contains_cons, ih]
    congr 1
    by_cases h : c = a
    · simp [h]
    · have : (c : Int) ≠ (a : Int) := fun e => h (Int.ofNat.inj e)
      rw [beq_eq_false_iff_ne.mpr h, beq_eq_false_iff_ne.mpr this]
theorem all_ints (l : List Nat) : (l.map fun n : Nat => AV.int (n : Int)).all AV.isVal = true := by
  rw [List.all_map, List.all_eq_true]; intro _ _; rfl
theorem s40 : (Str.ofString "(").cps.toList = [40] := by decide +kernel
theorem s41 : (Str.ofString ")").cps.toList = [41] := by decide +kernel
theorem s34 : (Str.ofString "\"").cps.toList = [34] := by decide +kernel
theorem s92 : (Str.ofString "\\").cps.toList = [92] := by decide +kernel
theorem s0 : (Str.ofString "").cps.toList = [] := by decide +kernel
theorem evJ {k : Nat} {hp : List AO} : evJoin (.ref k) hp = match hp[k]? with
    | some (.list xs) => (allStrs xs).bind fun ys => if decide ((ys.map List.length).sum ≤ textLine) then some (.str ys.flatten, hp) else none
    | _ => none := rfl
theorem shV {hp : List AO} {v : AV} : shallow hp (.val v) = if v.isVal then some (v, hp) else none := rfl
theorem shL {hp : List AO} {xs : List AV} : shallow hp (.lst xs) = if xs.all AV.isVal then some (.ref hp.length, hp ++ [.list xs]) else none := rfl
theorem shP {hp : List AO} {v : AV} {xs : List AV} : shallow hp (.pair v xs) = if v.isVal && xs.all AV.isVal then some (.ref (hp.length + 1), hp ++ [.list xs, .tup [v, .ref hp.length]]) else none := rfl
theorem dpV {hp : List AO} {x : List Nat} : deep hp (.str x) = some (.val (.str x)) := rfl
theorem dpI {hp : List AO} {x : Int} : deep hp (.int x) = some (.val (.int x)) := rfl
theorem dpR {hp : List AO} {n : Nat} : deep hp (.ref n) = match hp[n]? with
    | some (.list xs) => if xs.all AV.isVal then some (.lst xs) else none
    | _ => none := rfl
theorem eiR {n : Nat} {k : Int} {hp : List AO} : evItem (.ref n) (.int k) hp = match hp[n]? with
    | some (.list xs) => if small k then (place k xs.length).bind fun j => xs[j]? else none
    | some (.tup xs) => if small k && decide (0 ≤ k) then xs[k.toNat]? else none
    | _ => none := rfl
theorem gAdd {a b : Int} : evAug .Add (.int a) (.int b) = some (.int (a + b)) := rfl
theorem gSub {a b : Int} : evAug .Sub (.int a) (.int b) = some (.int (a - b)) := rfl
theorem place_last {n : Nat} : place (-1) (n + 1) = some n := by
  unfold place
  rw [if_neg (by decide), if_pos (by omega)]
  congr 1; omega
theorem elr {a b : Int} {hp : List AO} : evListRange [.int a, .int b] hp = if small a && small b && decide (b - a ≤ 1000000) then some (.ref hp.length, hp ++ [.list ((rangeInts a b).map .int)]) else none := rfl
theorem small12 : small 12 = true := rfl
/-- a loop whose end may be open -/
noncomputable def loopG {α S : Type} (fin : Bool) (step : α → S → AF × S) : List α → S → Option (AF × S)
  | [], s => if fin then some (.next, s) else none
  | x :: xs, s => match step x s with
    | (.next, s') => loopG fin step xs s'
    | (.brk, s') => some (.next, s')
    | (.ret v, s') => some (.ret v, s')
theorem forIt_mapG {α S : Type} {fin : Bool} {tgt : It → AS → Option AS} {body : AS → Option (AF × AS)} (step : α → S → AF × S) (Rep : Nat → S → AS → Prop) (g : α → It) {rr : AF × S} : ∀ (items : List α) (k : Nat) (s : S) (σ : AS),
    (∀ i x, items[i]? = some x → ∀ s σ, Rep (k + i) s σ → ∃ r, (tgt (g x) σ).bind body = some r ∧ r.1 = (step x s).1 ∧ Rep (k + i + 1) (step x s).2 r.2) → loopG fin step items s = some rr → Rep k s σ →
    ∃ r i, i ≤ items.length ∧ forIt fin tgt body (items.map g) σ = some r ∧ r.1 = rr.1 ∧ Rep (k + i) rr.2 r.2
  | [], k, s, σ, _, hg, h => by
    rw [loopG] at hg
    split at hg
    · rename_i hf
      cases hg
      exact ⟨(.next, σ), 0, Nat.le_refl _, by rw [List.map_nil, forIt, hf]; rfl, rfl, h⟩
    · cases hg
  | x :: xs, k, s, σ, hs, hg, h => by
    obtain ⟨⟨af, σ'⟩, h1, h2, h3⟩ := hs 0 x rfl s σ h
    have ih := forIt_mapG (fin := fin) step Rep g (rr := rr) xs (k + 1) (step x s).2 σ' (fun i y hy s σ hr => by
      have := hs (i + 1) y (by simpa using hy) s σ (by rw [show k + (i + 1) = k + 1 + i by omega]; exact hr)
      rw [show k + (i + 1) + 1 = k + 1 + i + 1 by omega] at this
      exact this)
    rw [List.map_cons, forIt]
    obtain ⟨σ₁, h4, h5⟩ := Option.bind_eq_some_iff.mp h1
    rw [h4, Option.bind_some, h5, Option.bind_some]
    rw [loopG] at hg
    simp only at h2 h3
    cases he : step x s with
    | mk a b =>
      rw [he] at h2 h3 ih hg
      simp only at h2 h3 ih
      subst h2
      cases af with
      | next =>
        obtain ⟨r, i, hi, h6, h7, h8⟩ := ih hg h3
        exact ⟨r, i + 1, by simp; omega, h6, h7, by rw [show k + (i + 1) = k + 1 + i by (clear hs h h4 ih h3 h1 h5 hg he hi h6 h7 h8; omega)]; exact h8⟩
      | brk => cases hg; exact ⟨_, 1, by simp, rfl, rfl, h3⟩
      | ret v => cases hg; exact ⟨_, 1, by simp, rfl, rfl, h3⟩
theorem range'_at {a n i x : Nat} (h : (List.range' a n)[i]? = some x) : x = a + i ∧ i < n := by
  have hl := (List.getElem?_eq_some_iff.mp h).1
  rw [List.length_range'] at hl
  rw [List.getElem?_range' (by omega)] at h
  cases h
  exact ⟨by omega, hl⟩
theorem loopF_next {α S : Type} {step : α → S → AF × S} (h : ∀ x s, (step x s).1 = .next) : ∀ (l : List α) (s : S), (loopF step l s).1 = .next
  | [], _ => rfl
  | x :: xs, s => by
    rw [loopF]
    have := h x s
    cases he : step x s with
    | mk a b => rw [he] at this; simp only at this; subst this; exact loopF_next h xs b

theorem forIt_thenG {α S X : Type} {fin : Bool} {tgt : It → AS → Option AS} {body : AS → Option (AF × AS)} {K : AF × AS → Option X} {v : Option X} (step : α → S → AF × S) (Rep : Nat → S → AS → Prop) (g : α → It) (items : List α) (s : S) (σ : AS) {rr : AF × S}
    (hg : loopG fin step items s = some rr) (hstep : ∀ i x, items[i]? = some x → ∀ s σ, Rep i s σ → ∃ r, (tgt (g x) σ).bind body = some r ∧ r.1 = (step x s).1 ∧ Rep (i + 1) (step x s).2 r.2) (h0 : Rep 0 s σ)
    (hK : ∀ i σ', i ≤ items.length → Rep i rr.2 σ' → K (rr.1, σ') = v) : (forIt fin tgt body (items.map g) σ).bind K = v := by
  obtain ⟨⟨a, b⟩, i, hi, h1, h2, h3⟩ := forIt_mapG step Rep g items 0 s σ (by simpa using hstep) hg h0
  rw [h1, Option.bind_some]
  simp only at h2 h3
  rw [h2]
  rw [Nat.zero_add] at h3
  exact hK i b hi h3
theorem tdI {fz : List Nat} {hp : List AO} {i : Int} : toDR fz hp (.int i) = some (.val (.int i)) := rfl
theorem tdB {fz : List Nat} {hp : List AO} {i : Bool} : toDR fz hp (.bool i) = some (.val (.bool i)) := rfl
theorem tdS {fz : List Nat} {hp : List AO} {x : List Nat} : toDR fz hp (.str x) = some (.val (.str x)) := rfl
theorem tdR {fz : List Nat} {hp : List AO} {n : Nat} : toDR fz hp (.ref n) = if fz.contains n then none else match hp[n]? with
    | some (.list xs) => if xs.all AV.isVal then some (.lst xs) else none
    | some (.tup [v, .ref k]) => if fz.contains k then none else (match hp[k]? with
      | some (.list xs) => if v.isVal && xs.all AV.isVal then some (.pair v xs) else none
      | _ => none)
    | _ => none := rfl

theorem range_nat (a b : Nat) : rangeInts (a : Int) (b : Int) = (List.range' a (b - a)).map fun n : Nat => (n : Int) := by
  have e : ((b : Int) - (a : Int)).toNat = b - a := by omega
  have key : ∀ n a : Nat, intsFrom (a : Int) n = (List.range' a n).map fun n : Nat => (n : Int) := by
    intro n
    induction n with
    | zero => intro a; rfl
    | succ n ih =>
      intro a
      rw [intsFrom, List.range'_succ, List.map_cons]
      have := ih (a + 1)
      rw [Int.natCast_add] at this
      exact congrArg _ this
  rw [rangeInts, e, key]
theorem range1 (b : Nat) : rangeInts 1 (b : Int) = (List.range' 1 (b - 1)).map fun n : Nat => (n : Int) := range_nat 1 b
theorem range0 (b : Nat) : rangeInts 0 (b : Int) = (List.range' 0 b).map fun n : Nat => (n : Int) := range_nat 0 b
theorem range2 (a b : Nat) : rangeInts ((a : Int) + 2) (b : Int) = (List.range' (a + 2) (b - (a + 2))).map fun n : Nat => (n : Int) := range_nat (a + 2) b
theorem range11 (a b : Nat) : rangeInts ((a : Int) + 1) (b : Int) = (List.range' (a + 1) (b - (a + 1))).map fun n : Nat => (n : Int) := range_nat (a + 1) b
theorem range1s (b : Nat) : rangeInts 1 ((b : Int) + 1) = (List.range' 1 b).map fun n : Nat => (n : Int) := range_nat 1 (b + 1)
theorem range1_12 : rangeInts 1 12 = (List.range' 1 11).map fun n : Nat => (n : Int) := range_nat 1 12
theorem clip_nat (k n : Nat) : clip (k : Int) n = min k n := by
  unfold clip; rw [if_pos (Int.natCast_nonneg k)]; rfl
theorem cut_from {α : Type} (k : Nat) (xs : List α) : cutL (some (k : Int)) none xs = xs.drop k := by
  unfold cutL
  simp only [clip_nat, List.take_length]
  rcases Nat.le_total k xs.length with h | h
  · rw [Nat.min_eq_left h]
  · rw [Nat.min_eq_right h, List.drop_length, List.drop_eq_nil_of_le h]
theorem cut1 {α : Type} (xs : List α) : cutL (some 1) none xs = xs.drop 1 := cut_from 1 xs
theorem cut_both {α : Type} (c e : Nat) (xs : List α) : cutL (some (c : Int)) (some (e : Int)) xs = (xs.take e).drop c := by
  unfold cutL
  simp only [clip_nat]
  have h1 : xs.take (min e xs.length) = xs.take e := by
    rcases Nat.le_total e xs.length with h | h
    · rw [Nat.min_eq_left h]
    · rw [Nat.min_eq_right h, List.take_length, List.take_of_length_le h]
  rw [h1]
  rcases Nat.le_total c xs.length with h | h
  · rw [Nat.min_eq_left h]
  · rw [Nat.min_eq_right h, List.drop_eq_nil_of_le (by simp; (clear h1 h; omega)), List.drop_eq_nil_of_le (by simp; omega)]
theorem cut_to {α : Type} (e : Nat) (xs : List α) : cutL none (some (e : Int)) xs = xs.take e := by
  have := cut_both 0 e xs
  rw [List.drop_zero] at this
  rw [← this]
  unfold cutL
  simp only [clip_nat, Nat.zero_min]
theorem small_nat {k : Nat} (h : k ≤ 1000000000) : small (k : Int) = true := by
  unfold small; rw [decide_eq_true_eq, Int.natAbs_natCast]; omega
theorem small_of {k : Int} (h1 : -1000000000 ≤ k) (h2 : k ≤ 1000000000) : small k = true := by
  unfold small; rw [decide_eq_true_eq]; omega
theorem small0 : small 0 = true := rfl
theorem small1 : small 1 = true := rfl
theorem small2 : small 2 = true := rfl
theorem smallm1 : small (-1) = true := rfl
theorem item_nat {hp : List AO} {k i : Nat} {xs : List AV} {v : AV} (h : hp[k]? = some (.list xs)) (hi : i ≤ 1000000000) (hv : xs[i]? = some v) : evItem (.ref k) (.int (i : Int)) hp = some v := by
  have hl : i < xs.length := (List.getElem?_eq_some_iff.mp hv).1
  unfold evItem
  simp only [h, small_nat hi, if_true, place, if_pos (Int.natCast_nonneg i), Int.ofNat_lt, hl, Option.bind_some, Int.toNat_natCast, hv]
theorem list_nat {hp : List AO} {tops : List Nat} {k i : Nat} (h : hp[k]? = some (.list (tops.map fun n : Nat => .int n))) (h1 : i < tops.length) (h2 : i ≤ 1000000000) : evItem (.ref k) (.int (i : Int)) hp = some (.int (tops.getD i 0 : Nat)) := by
  refine item_nat h h2 ?_
  rw [List.getElem?_map, List.getD, List.getElem?_eq_getElem h1]; rfl
theorem item_last {hp : List AO} {k : Nat} {xs : List AV} {v : AV} (h : hp[k]? = some (.list (xs ++ [v]))) : evItem (.ref k) (.int (-1)) hp = some v := by
  unfold evItem
  have e1 : ¬ (0 : Int) ≤ -1 := by decide
  have e2 : -((xs.length + 1 : Nat) : Int) ≤ -1 := by omega
  have e3 : ((-1 : Int) + ((xs.length + 1 : Nat) : Int)).toNat = xs.length := by omega
  simp only [h, smallm1, if_true, place, if_neg e1, List.length_append, List.length_singleton, if_pos e2, Option.bind_some, e3]
  simp

theorem small5 : small 5 = true := rfl
theorem small8 : small 8 = true := rfl
theorem cut_to5 {α : Type} (xs : List α) : cutL none (some 5) xs = xs.take 5 := cut_to 5 xs
theorem fdiv_nat (a b : Nat) : Int.fdiv (a : Int) (b : Int) = ((a / b : Nat) : Int) := by
  rw [Int.fdiv_eq_ediv_of_nonneg _ (Int.natCast_nonneg b)]; rfl
theorem fmod_nat (a b : Nat) : Int.fmod (a : Int) (b : Int) = ((a % b : Nat) : Int) := by
  rw [Int.fmod_eq_emod_of_nonneg _ (Int.natCast_nonneg b)]; rfl
section
variable {hp : List AO} {t : Nat} {a : Int}
theorem md1e6 : evBin .Mod (.int a) (.int 1000000) hp = some (.int ((a.fmod 1000000).toNat : Nat), hp) := by
  have : (0 : Int) ≤ a.fmod 1000000 := Int.fmod_nonneg_of_pos a (by decide)
  rw [Int.toNat_of_nonneg this]; rfl
theorem md2 : evBin .Mod (.int (t : Nat)) (.int 2) hp = some (.int (t % 2 : Nat), hp) := by rw [← fmod_nat]; rfl
theorem md3 : evBin .Mod (.int (t : Nat)) (.int 3) hp = some (.int (t % 3 : Nat), hp) := by rw [← fmod_nat]; rfl
theorem md4 : evBin .Mod (.int (t : Nat)) (.int 4) hp = some (.int (t % 4 : Nat), hp) := by rw [← fmod_nat]; rfl
theorem md8 : evBin .Mod (.int (t : Nat)) (.int 8) hp = some (.int (t % 8 : Nat), hp) := by rw [← fmod_nat]; rfl
theorem md40 : evBin .Mod (.int (t : Nat)) (.int 40) hp = some (.int (t % 40 : Nat), hp) := by rw [← fmod_nat]; rfl
theorem fd3 : evBin .FloorDiv (.int (t : Nat)) (.int 3) hp = some (.int (t / 3 : Nat), hp) := by rw [← fdiv_nat]; rfl
theorem fd4 : evBin .FloorDiv (.int (t : Nat)) (.int 4) hp = some (.int (t / 4 : Nat), hp) := by rw [← fdiv_nat]; rfl
theorem fd9 : evBin .FloorDiv (.int (t : Nat)) (.int 9) hp = some (.int (t / 9 : Nat), hp) := by rw [← fdiv_nat]; rfl
theorem fd40 : evBin .FloorDiv (.int (t : Nat)) (.int 40) hp = some (.int (t / 40 : Nat), hp) := by rw [← fdiv_nat]; rfl
end
/-! expressions: the forms that are asked for, and the rest -/
theorem no0 {α : Type} {a : α} {P : Prop} (h : (none : Option α) = some a) : P := by cases h
structure ExDead (e : Expr) : Prop where
  nm : nameOf e = none
  nc : namedCall e = none
  t1 : ∀ two, tgtOk e two = false
  tl : ∀ s, tgtLoc s e = false
  ap : appendForm e = none
  li : litOf e = none
  em : emptyStr e = false
  ra : isRange e = false
  sf : sliceForm e = none
theorem ex_cases {P : Expr → Prop} (dead : ∀ e, ExDead e → P e) (name : ∀ x p, P (.Name x p)) (tup : ∀ es k p, P (.Tuple es k p)) (call : ∀ f as ks p, P (.Call f as ks p)) (const : ∀ c k p, P (.Constant c k p)) (slice : ∀ l u s p, P (.Slice l u s p)) (e : Expr) : P e := by
  cases e with
  | Name x p => exact name x p
  | Tuple es k p => exact tup es k p
  | Call f as ks p => exact call f as ks p
  | Constant c k p => exact const c k p
  | Slice l u s p => exact slice l u s p
  | _ => exact dead _ ⟨rfl, rfl, fun _ => rfl, fun _ => rfl, rfl, rfl, rfl, rfl, rfl⟩
theorem name_inv {e : Expr} {x : Str} : nameOf e = some x → ∃ p, e = .Name x p :=
  ex_cases (P := fun e => nameOf e = some x → ∃ p, e = .Name x p) (fun e d h => no0 (d.nm ▸ h)) (fun y p h => ⟨p, by cases h; rfl⟩) (fun _ _ _ h => no0 h) (fun _ _ _ _ h => no0 h) (fun _ _ _ h => no0 h) (fun _ _ _ _ h => no0 h) e
theorem pair_inv {es : List Expr} {q : Str × Str} (h : pairOf es = some q) : ∃ p p', es = [.Name q.1 p, .Name q.2 p'] := by
  cases es with
  | nil => cases h
  | cons a r =>
  cases r with
  | nil => cases h
  | cons b r =>
  cases r with
  | cons _ _ => cases h
  | nil =>
    obtain ⟨x, h1, h⟩ := Option.bind_eq_some_iff.mp h
    obtain ⟨y, h2, h3⟩ := Option.map_eq_some_iff.mp h
    obtain ⟨p, rfl⟩ := name_inv h1
    obtain ⟨p', rfl⟩ := name_inv h2
    cases h3
    exact ⟨p, p', rfl⟩
theorem named_inv {e : Expr} {q : Str × List Expr} : namedCall e = some q → ∃ p pos, e = .Call (.Name q.1 p) q.2 [] pos :=
  ex_cases (P := fun e => namedCall e = some q → ∃ p pos, e = .Call (.Name q.1 p) q.2 [] pos) (fun e d h => no0 (d.nc ▸ h)) (fun _ _ h => no0 h) (fun _ _ _ h => no0 h) (fun f args ks pos h => by
    cases ks with
    | cons _ _ => exact no0 h
    | nil =>
      obtain ⟨g, h1, h2⟩ := Option.map_eq_some_iff.mp h
      obtain ⟨p, rfl⟩ := name_inv h1
      cases h2
      exact ⟨p, pos, rfl⟩) (fun _ _ _ h => no0 h) (fun _ _ _ _ h => no0 h) e
theorem tgt_name {t : Expr} : tgtOk t false = true → ∃ x p, t = .Name x p :=
  ex_cases (P := fun t => tgtOk t false = true → ∃ x p, t = .Name x p) (fun e d h => Bool.noConfusion ((d.t1 false).symm.trans h)) (fun x p _ => ⟨x, p, rfl⟩) (fun _ _ _ h => Bool.noConfusion h) (fun _ _ _ _ h => Bool.noConfusion h) (fun _ _ _ h => Bool.noConfusion h) (fun _ _ _ _ h => Bool.noConfusion h) t
theorem tgt_two {t : Expr} : tgtOk t true = true → ∃ x p y q k r, t = .Tuple [.Name x p, .Name y q] k r :=
  ex_cases (P := fun t => tgtOk t true = true → ∃ x p y q k r, t = .Tuple [.Name x p, .Name y q] k r) (fun e d h => Bool.noConfusion ((d.t1 true).symm.trans h)) (fun _ _ h => Bool.noConfusion h) (fun es k r h => by
    obtain ⟨q, h⟩ := Option.isSome_iff_exists.mp (show (pairOf es).isSome = true from h)
    obtain ⟨p, p', rfl⟩ := pair_inv h
    exact ⟨_, p, _, p', k, r, rfl⟩) (fun _ _ _ _ h => Bool.noConfusion h) (fun _ _ _ h => Bool.noConfusion h) (fun _ _ _ _ h => Bool.noConfusion h) t
theorem lit_inv {v : Expr} {a : AV} : litOf v = some a → ∃ c k q, v = .Constant c k q ∧ constAV c = some a :=
  ex_cases (P := fun v => litOf v = some a → ∃ c k q, v = .Constant c k q ∧ constAV c = some a) (fun e d h => no0 (d.li ▸ h)) (fun _ _ h => no0 h) (fun _ _ _ h => no0 h) (fun _ _ _ _ h => no0 h) (fun c k p h => ⟨c, k, p, rfl, h⟩) (fun _ _ _ _ h => no0 h) v
theorem empty_inv {o : Expr} : emptyStr o = true → ∃ sep k p, o = .Constant (.str sep) k p ∧ sep.cps.toList = [] :=
  ex_cases (P := fun o => emptyStr o = true → ∃ sep k p, o = .Constant (.str sep) k p ∧ sep.cps.toList = []) (fun e d h => Bool.noConfusion (d.em.symm.trans h)) (fun _ _ h => Bool.noConfusion h) (fun _ _ _ h => Bool.noConfusion h) (fun _ _ _ _ h => Bool.noConfusion h) (fun c k p h => by
    cases c with
    | str sep => exact ⟨sep, k, p, rfl, of_decide_eq_true h⟩
    | _ => exact Bool.noConfusion h) (fun _ _ _ _ h => Bool.noConfusion h) o
theorem range_inv {g : Expr} : isRange g = true → ∃ q, g = .Name "range" q :=
  ex_cases (P := fun g => isRange g = true → ∃ q, g = .Name "range" q) (fun e d h => Bool.noConfusion (d.ra.symm.trans h)) (fun g q h => ⟨q, by rw [eq_of_beq (show (g == "range") = true from h)]⟩) (fun _ _ _ h => Bool.noConfusion h) (fun _ _ _ _ h => Bool.noConfusion h) (fun _ _ _ h => Bool.noConfusion h) (fun _ _ _ _ h => Bool.noConfusion h) g
theorem slice_of {e : Expr} {lu : Option Expr × Option Expr} : sliceForm e = some lu → ∃ p, e = .Slice lu.1 lu.2 none p :=
  ex_cases (P := fun e => sliceForm e = some lu → ∃ p, e = .Slice lu.1 lu.2 none p) (fun e d h => no0 (d.sf ▸ h)) (fun _ _ h => no0 h) (fun _ _ _ h => no0 h) (fun _ _ _ _ h => no0 h) (fun _ _ _ h => no0 h) (fun l u st p h => by
    cases st with
    | none => cases h; exact ⟨p, rfl⟩
    | some _ => exact no0 h) e
theorem attr_inv {f : Expr} {q : Expr × Str × Pos} (h : attrOf f = some q) : f = .Attribute q.1 q.2.1 q.2.2 := by
  cases f with
  | Attribute o nm p => cases h; rfl
  | _ => exact no0 h
theorem append_of {e : Expr} {xa : Str × Expr} : appendForm e = some xa → ∃ p apos pos, e = .Call (.Attribute (.Name xa.1 p) "append" apos) [xa.2] [] pos ∧ apos.endLine = pos.line :=
  ex_cases (P := fun e => appendForm e = some xa → ∃ p apos pos, e = .Call (.Attribute (.Name xa.1 p) "append" apos) [xa.2] [] pos ∧ apos.endLine = pos.line) (fun e d h => no0 (d.ap ▸ h)) (fun _ _ h => no0 h) (fun _ _ _ h => no0 h) (fun f args ks pos h => by
    cases ks with
    | cons _ _ => exact no0 h
    | nil =>
      obtain ⟨⟨o, nm, apos⟩, h1, h⟩ := Option.bind_eq_some_iff.mp (show ((attrOf f).bind fun q => oneArg q.1 q.2.1 q.2.2 args pos) = some xa from h)
      obtain rfl := attr_inv h1
      cases args with
      | nil => exact no0 h
      | cons a r =>
      cases r with
      | cons _ _ => exact no0 h
      | nil =>
        by_cases hc : nm = "append" ∧ apos.endLine = pos.line
        · obtain ⟨x, h3, h4⟩ := Option.map_eq_some_iff.mp ((if_pos hc).symm.trans h)
          obtain ⟨p, rfl⟩ := name_inv h3
          cases h4
          obtain ⟨rfl, h2⟩ := hc
          exact ⟨p, apos, pos, rfl, h2⟩
        · exact no0 ((if_neg hc).symm.trans h)) (fun _ _ _ h => no0 h) (fun _ _ _ _ h => no0 h) e
end Mine

/-! Runs told by the kernel: what stands to be shown of a run, told as one proposition that the kernel reckons; what it cannot know is told ahead (An). -/
namespace Mine
open PySem

/-- what is told ahead: a result with its heap, a result, a test, a test that looks into the heap, a heap, the things of a loop, a loop's end -/
inductive An where
  | e (v : AV) (hp : List AO)
  | v (v : AV)
  | b (x : Bool)
  | bh (x : Bool)
  | h (hp : List AO)
  | i (r : (List It × Bool) × List Nat)
  | s (r : AF × AS)

noncomputable def wo {α : Type} (x : Option α) (f : α → Prop) : Prop := match x with
  | some a => f a
  | none => False
noncomputable def wb (b : Bool) (P : Prop) : Prop := match b with
  | true => P
  | false => False
/-- a value's step that may look into the heap -/
noncomputable def askE (o : List An) (x : Option (AV × List AO)) (hp : List AO) (Q : AV × List AO → List An → Prop) : Prop := match o with
  | [] => False
  | a :: r => (match a with
    | .e v hp' => x = some (v, hp') ∧ Q (v, hp') r
    | .v v => x = some (v, hp) ∧ Q (v, hp) r
    | _ => False)
noncomputable def askV (o : List An) (x : Option AV) (hp : List AO) (Q : AV × List AO → List An → Prop) : Prop := match o with
  | [] => False
  | a :: r => (match a with
    | .v v => x = some v ∧ Q (v, hp) r
    | _ => False)
noncomputable def askOp (o : List An) (x : List AO → Option (AV × List AO)) (hp : List AO) (Q : AV × List AO → List An → Prop) : Prop := match o with
  | [] => False
  | a :: r => (match a with
    | .e v hp' => x hp = some (v, hp') ∧ Q (v, hp') r
    | .v v => (∀ hp, x hp = some (v, hp)) ∧ Q (v, hp) r
    | _ => False)
noncomputable def askB (o : List An) (x : List AO → Option Bool) (hp : List AO) (Q : Bool → List An → Prop) : Prop := match o with
  | [] => False
  | a :: r => (match a with
    | .b b => (∀ hp, x hp = some b) ∧ Q b r
    | .bh b => x hp = some b ∧ Q b r
    | _ => False)
noncomputable def askH (o : List An) (x : AS → Option AS) (σ : AS) (Q : AS → List An → Prop) : Prop := match o with
  | [] => False
  | a :: r => (match a with
    | .h hp' => (∀ vars, x ⟨vars, σ.hp, σ.fz⟩ = some ⟨vars, hp', σ.fz⟩) ∧ Q ⟨σ.vars, hp', σ.fz⟩ r
    | _ => False)
noncomputable def askI (o : List An) (x : Option ((List It × Bool) × List Nat)) (Q : (List It × Bool) × List Nat → List An → Prop) : Prop := match o with
  | [] => False
  | a :: r => (match a with
    | .i y => x = some y ∧ Q y r
    | _ => False)
noncomputable def askS (o : List An) (x : Option (AF × AS)) (Q : AF × AS → List An → Prop) : Prop := match o with
  | [] => False
  | a :: r => (match a with
    | .s y => x = some y ∧ Q y r
    | _ => False)

noncomputable def wpBin (op : Operator) (a b : AV) (hp : List AO) (o : List An) (Q : AV × List AO → List An → Prop) : Prop :=
  match op with
  | .Add => (match a with
    | .int i => (match b with | .int j => Q (.int (i + j), hp) o | _ => False)
    | _ => askOp o (evBin .Add a b) hp Q)
  | .Sub => (match a with
    | .int i => (match b with | .int j => Q (.int (i - j), hp) o | _ => False)
    | _ => askOp o (evBin .Sub a b) hp Q)
  | _ => askOp o (evBin op a b) hp Q

mutual
noncomputable def wpE (C : Cx) : Nat → Expr → AS → List An → (AV × List AO → List An → Prop) → Prop
  | 0, _, _, _, _ => False
  | n + 1, e, σ, o, Q => match e with
    | .Constant c _ _ => wo (constAV c) fun v => Q (v, σ.hp) o
    | .Name x _ => wo (getVar C x σ) fun v => Q (v, σ.hp) o
    | .BinOp l op r _ => wpE C n l σ o fun p o => wpE C n r { σ with hp := p.2 } o fun p' o => wpBin op p.1 p'.1 p'.2 o Q
    | .UnaryOp op x _ => wpE C n x σ o fun p o => wo (evUn op p.1) fun v => Q (v, p.2) o
    | .Compare l ops rs _ => (match ops with
      | [] => False
      | op :: ops' => (match ops' with
        | _ :: _ => False
        | [] => (match rs with
          | [] => False
          | r :: rs' => (match rs' with
            | _ :: _ => False
            | [] => wpE C n l σ o fun p o => wpE C n r { σ with hp := p.2 } o fun p' o => askB o (evCmp op p.1 p'.1) p'.2 fun b o => Q (.bool b, p'.2) o))))
    | .BoolOp op vs _ => (match op with
      | .And => (match vs with
        | [] => False
        | x :: r => (match r with
          | [] => False
          | y :: q => (match q with
            | _ :: _ => False
            | [] => wpE C n x σ o fun p o => (match p.1 with
              | .bool b => (match b with
                | true => wpE C n y { σ with hp := p.2 } o Q
                | false => Q (.bool false, p.2) o)
              | _ => False))))
      | _ => False)
    | .IfExp t a b _ => wpT C n t σ o fun p o => (match p.1 with
      | true => wpE C n a { σ with hp := p.2 } o Q
      | false => wpE C n b { σ with hp := p.2 } o Q)
    | .Subscript x i _ => wpE C n x σ o fun p o => (match sliceForm i with
      | some lu => wpB C n lu.1 { σ with hp := p.2 } o fun pl o => wpB C n lu.2 { σ with hp := pl.2 } o fun pu o => askE o (evCut p.1 pl.1 pu.1 pu.2) pu.2 Q
      | none => wpE C n i { σ with hp := p.2 } o fun p' o => askV o (evItem p.1 p'.1 p'.2) p'.2 Q)
    | .List es _ => wpL C n es σ o fun p o => wb (decide (p.1.length ≤ textLine)) (Q (.ref p.2.length, p.2 ++ [.list p.1]) o)
    | .Tuple es _ _ => wpL C n es σ o fun p o => wb (decide (p.1.length ≤ textLine)) (Q (.ref p.2.length, p.2 ++ [.tup p.1]) o)
    | .Call f as ks pos => (match callForm f as ks pos with
      | .join arg => wpE C n arg σ o fun p o => askE o (evJoin p.1 p.2) p.2 Q
      | .listRange as => wb (decide (C.kind "list" = some .globalImplicit ∧ C.kind "range" = some .globalImplicit)) (wpL C n as σ o fun p o => askE o (evListRange p.1 p.2) p.2 Q)
      | .plain f args => wpL C n args σ o fun p o => askE o (evCall C f p.1 p.2) p.2 Q
      | .bad => False)
    | e => askE o (evE C (n + 1) e σ) σ.hp Q
noncomputable def wpT (C : Cx) : Nat → Expr → AS → List An → (Bool × List AO → List An → Prop) → Prop
  | 0, _, _, _, _ => False
  | n + 1, e, σ, o, Q => match e with
    | .UnaryOp op x _ => (match op with
      | .Not => wpT C n x σ o fun p o => Q (!p.1, p.2) o
      | _ => False)
    | .BoolOp op vs _ => (match op with
      | .And => wpA C n vs σ o Q
      | _ => False)
    | .Compare l ops rs _ => (match ops with
      | [] => False
      | op :: ops' => (match ops' with
        | _ :: _ => False
        | [] => (match rs with
          | [] => False
          | r :: rs' => (match rs' with
            | _ :: _ => False
            | [] => wpE C n l σ o fun p o => wpE C n r { σ with hp := p.2 } o fun p' o => askB o (evCmp op p.1 p'.1) p'.2 fun b o => Q (b, p'.2) o))))
    | .Name x pos => wpE C n (.Name x pos) σ o fun p o => (match p.1 with
      | .bool b => Q (b, p.2) o
      | _ => False)
    | .Call f as ks pos => wpE C n (.Call f as ks pos) σ o fun p o => (match p.1 with
      | .bool b => Q (b, p.2) o
      | _ => False)
    | _ => False
noncomputable def wpA (C : Cx) : Nat → List Expr → AS → List An → (Bool × List AO → List An → Prop) → Prop
  | 0, _, _, _, _ => False
  | n + 1, es, σ, o, Q => match es with
    | [] => Q (true, σ.hp) o
    | x :: r => wpT C n x σ o fun p o => (match p.1 with
      | true => wpA C n r { σ with hp := p.2 } o Q
      | false => Q (false, p.2) o)
noncomputable def wpL (C : Cx) : Nat → List Expr → AS → List An → (List AV × List AO → List An → Prop) → Prop
  | 0, _, _, _, _ => False
  | n + 1, es, σ, o, Q => match es with
    | [] => Q ([], σ.hp) o
    | x :: r => wpE C n x σ o fun p o => wpL C n r { σ with hp := p.2 } o fun p' o => Q (p.1 :: p'.1, p'.2) o
noncomputable def wpB (C : Cx) : Nat → Option Expr → AS → List An → (Option Int × List AO → List An → Prop) → Prop
  | 0, _, _, _, _ => False
  | n + 1, oe, σ, o, Q => match oe with
    | none => Q (none, σ.hp) o
    | some e => wpE C n e σ o fun p o => wo (asInt p.1) fun i => small i = true ∧ Q (some i, p.2) o
end
noncomputable def wpI (C : Cx) : Nat → Expr → Expr → AS → List An → (List It × List Nat × List AO → List An → Prop) → Prop
  | 0, _, _, _, _, _ => False
  | n + 1, t, e, σ, o, Q => match makerForm e with
    | some fa => wb (decide (C.kind fa.1 = some .globalImplicit)) (wpL C n fa.2 σ o fun p o => askI o (itemsOf fa.1 p.1 p.2) fun r o => wb (tgtOk t r.1.2) (Q (r.1.1, r.2, p.2) o))
    | none => wpE C n e σ o fun p o => askI o (itemsOfVal p.1 p.2) fun r o => wb (tgtOk t r.1.2) (Q (r.1.1, r.2, p.2) o)

mutual
noncomputable def wpS (C : Cx) : Nat → Stmt → AS → List An → (AF × AS → List An → Prop) → Prop
  | 0, _, _, _, _ => False
  | n + 1, st, σ, o, Q => match st with
    | .Assign ts v _ => (match ts with
      | [] => False
      | t :: ts' => (match ts' with
        | _ :: _ => False
        | [] => (match t with
          | .Name x _ => wpE C n v σ o fun p o => wo (setVar C x p.1 { σ with hp := p.2 }) fun σ' => Q (.next, σ') o
          | _ => False)))
    | .AugAssign t op v _ => (match t with
      | .Name x _ => wo (getVar C x σ) fun a => wpE C n v σ o fun p o => wo (evAug op a p.1) fun r => wo (setVar C x r { σ with hp := p.2 }) fun σ' => Q (.next, σ') o
      | .Subscript x i _ => wpE C n x σ o fun p o => wpE C n i { σ with hp := p.2 } o fun p' o => wo (litOf v) fun a => askH o (evPut op p.1 p'.1 a) { σ with hp := p'.2 } fun σ' o => Q (.next, σ') o
      | _ => False)
    | .Expr e _ => (match appendForm e with
      | some xa => wo (getVar C xa.1 σ) fun a => listAt σ.hp a = true ∧ wpE C n xa.2 σ o fun p o => askH o (evAppend a p.1) { σ with hp := p.2 } fun σ' o => Q (.next, σ') o
      | none => False)
    | .If t b els _ => wpT C n t σ o fun p o => (match p.1 with
      | true => wpSs C n b { σ with hp := p.2 } o Q
      | false => wpSs C n els { σ with hp := p.2 } o Q)
    | .Return e _ => (match e with
      | some e => wpE C n e σ o fun p o => Q (.ret p.1, { σ with hp := p.2 }) o
      | none => False)
    | .Break _ => Q (.brk, σ) o
    | .For t it body els pos => (match els with
      | [] => askS o (evS C (n + 1) (.For t it body [] pos) σ) Q
      | _ :: _ => False)
    | _ => False
noncomputable def wpSs (C : Cx) : Nat → List Stmt → AS → List An → (AF × AS → List An → Prop) → Prop
  | 0, _, _, _, _ => False
  | n + 1, ss, σ, o, Q => match ss with
    | [] => Q (.next, σ) o
    | s :: r => wpS C n s σ o fun p o => (match p.1 with
      | .next => wpSs C n r p.2 o Q
      | .brk => Q (.brk, p.2) o
      | .ret v => Q (.ret v, p.2) o)
end

/-! ## that it is so -/
def Ok {α : Type} (x : Option α) (P : α → Prop) : Prop := ∃ a, x = some a ∧ P a
section
variable {α β : Type} {x : Option α} {P Q : α → Prop}
theorem Ok.mono (h : Ok x P) (k : ∀ a, P a → Q a) : Ok x Q := match h with | ⟨a, e, p⟩ => ⟨a, e, k a p⟩
theorem Ok.bind {f : α → Option β} {P : β → Prop} (h : Ok x fun a => Ok (f a) P) : Ok (x.bind f) P := match h with
  | ⟨a, e, b, e', p⟩ => ⟨b, by rw [e]; exact e', p⟩
theorem Ok.map {f : α → β} {P : β → Prop} (h : Ok x fun a => P (f a)) : Ok (x.map f) P := match h with
  | ⟨a, e, p⟩ => ⟨f a, by rw [e]; rfl, p⟩
theorem Ok.some {a : α} (h : P a) : Ok (some a) P := ⟨a, rfl, h⟩
theorem wo_ok (h : wo x P) : Ok x P := match x, h with
  | .some a, h => ⟨a, rfl, h⟩
theorem wb_ok {b : Bool} {P : Prop} (h : wb b P) : b = true ∧ P := match b, h with
  | true, h => ⟨rfl, h⟩
end
abbrev EQ := AV × List AO → List An → Prop
def Ex {α : Type} (Q : α → List An → Prop) (a : α) : Prop := ∃ o, Q a o
section
variable {o : List An} {hp : List AO} {σ : AS}
theorem askE_ok {x : Option (AV × List AO)} {Q : AV × List AO → List An → Prop} (h : askE o x hp Q) : Ok x (Ex Q) := match o, h with
  | .e _ _ :: _, h => ⟨_, h.1, _, h.2⟩
  | .v _ :: _, h => ⟨_, h.1, _, h.2⟩
theorem askV_ok {x : Option AV} {Q : AV × List AO → List An → Prop} (h : askV o x hp Q) : Ok x fun v => Ex Q (v, hp) := match o, h with
  | .v _ :: _, h => ⟨_, h.1, _, h.2⟩
theorem askOp_ok {x : List AO → Option (AV × List AO)} {Q : AV × List AO → List An → Prop} (h : askOp o x hp Q) : Ok (x hp) (Ex Q) := match o, h with
  | .e _ _ :: _, h => ⟨_, h.1, _, h.2⟩
  | .v _ :: _, h => ⟨_, h.1 hp, _, h.2⟩
theorem askB_ok {x : List AO → Option Bool} {Q : Bool → List An → Prop} (h : askB o x hp Q) : Ok (x hp) (Ex Q) := match o, h with
  | .b _ :: _, h => ⟨_, h.1 hp, _, h.2⟩
  | .bh _ :: _, h => ⟨_, h.1, _, h.2⟩
theorem askH_ok {x : AS → Option AS} {Q : AS → List An → Prop} (h : askH o x σ Q) : Ok (x σ) (Ex Q) := match o, h with
  | .h _ :: _, h => ⟨_, h.1 σ.vars, _, h.2⟩
theorem askI_ok {x : Option ((List It × Bool) × List Nat)} {Q : (List It × Bool) × List Nat → List An → Prop} (h : askI o x Q) : Ok x (Ex Q) := match o, h with
  | .i _ :: _, h => ⟨_, h.1, _, h.2⟩
theorem askS_ok {x : Option (AF × AS)} {Q : AF × AS → List An → Prop} (h : askS o x Q) : Ok x (Ex Q) := match o, h with
  | .s _ :: _, h => ⟨_, h.1, _, h.2⟩
end
theorem bin_ok {op : Operator} {a b : AV} {hp : List AO} {o : List An} {Q : AV × List AO → List An → Prop} (h : wpBin op a b hp o Q) : Ok (evBin op a b hp) (Ex Q) := by
  cases op with
  | Add => cases a with
    | int i => cases b with
      | int j => exact ⟨_, rfl, o, h⟩
      | _ => exact False.elim h
    | _ => exact askOp_ok h
  | Sub => cases a with
    | int i => cases b with
      | int j => exact ⟨_, rfl, o, h⟩
      | _ => exact False.elim h
    | _ => exact askOp_ok h
  | _ => exact askOp_ok h

structure WpOk (C : Cx) (n : Nat) : Prop where
  E : ∀ {e σ o Q}, wpE C n e σ o Q → Ok (evE C n e σ) (Ex Q)
  T : ∀ {e σ o Q}, wpT C n e σ o Q → Ok (evT C n e σ) (Ex Q)
  A : ∀ {e σ o Q}, wpA C n e σ o Q → Ok (evA C n e σ) (Ex Q)
  L : ∀ {e σ o Q}, wpL C n e σ o Q → Ok (evL C n e σ) (Ex Q)
  B : ∀ {e σ o Q}, wpB C n e σ o Q → Ok (evB C n e σ) (Ex Q)

section
variable {C : Cx} {n : Nat} {σ : AS} {o : List An}
theorem cmp_ok (W : WpOk C n) {l r : Expr} {op : CmpOp} {Q : Bool × List AO → List An → Prop}
    (h : wpE C n l σ o fun p o => wpE C n r { σ with hp := p.2 } o fun p' o => askB o (evCmp op p.1 p'.1) p'.2 fun b o => Q (b, p'.2) o) :
    Ok ((evE C n l σ).bind fun p => (evE C n r { σ with hp := p.2 }).bind fun p' => (evCmp op p.1 p'.1 p'.2).map fun b => (b, p'.2)) (Ex Q) :=
  .bind ((W.E h).mono fun _ ⟨_, h⟩ => .bind ((W.E h).mono fun _ ⟨_, h⟩ => .map ((askB_ok h).mono fun _ ⟨o, h⟩ => ⟨o, h⟩)))
theorem call_ok (W : WpOk C n) {f : Expr} {as : List Expr} {ks : List Keyword} {pos : Pos} {Q : AV × List AO → List An → Prop} (h : wpE C (n+1) (.Call f as ks pos) σ o Q) : Ok (evE C (n+1) (.Call f as ks pos) σ) (Ex Q) := by
  rw [xCall]
  change (match callForm f as ks pos with
      | .join arg => wpE C n arg σ o fun p o => askE o (evJoin p.1 p.2) p.2 Q
      | .listRange as => wb (decide (C.kind "list" = some .globalImplicit ∧ C.kind "range" = some .globalImplicit)) (wpL C n as σ o fun p o => askE o (evListRange p.1 p.2) p.2 Q)
      | .plain f args => wpL C n args σ o fun p o => askE o (evCall C f p.1 p.2) p.2 Q
      | .bad => False) at h
  generalize callForm f as ks pos = F at h ⊢
  cases F with
  | join arg => exact .bind ((W.E h).mono fun _ ⟨_, h⟩ => askE_ok h)
  | listRange as =>
    have := wb_ok h
    show Ok (if C.kind "list" = some .globalImplicit ∧ C.kind "range" = some .globalImplicit then _ else _) _
    rw [if_pos (of_decide_eq_true this.1)]
    exact .bind ((W.L this.2).mono fun _ ⟨_, h⟩ => askE_ok h)
  | plain f args => exact .bind ((W.L h).mono fun _ ⟨_, h⟩ => askE_ok h)
  | bad => exact False.elim h
theorem sub_ok (W : WpOk C n) {x i : Expr} {pos : Pos} {Q : AV × List AO → List An → Prop} (h : wpE C (n+1) (.Subscript x i pos) σ o Q) : Ok (evE C (n+1) (.Subscript x i pos) σ) (Ex Q) := by
  rw [xSub]
  refine .bind ((W.E (e := x) h).mono fun p ⟨o, h⟩ => ?_)
  change (match sliceForm i with
      | some lu => wpB C n lu.1 { σ with hp := p.2 } o fun pl o => wpB C n lu.2 { σ with hp := pl.2 } o fun pu o => askE o (evCut p.1 pl.1 pu.1 pu.2) pu.2 Q
      | none => wpE C n i { σ with hp := p.2 } o fun p' o => askV o (evItem p.1 p'.1 p'.2) p'.2 Q) at h
  generalize sliceForm i = F at h ⊢
  cases F with
  | some lu => exact .bind ((W.B h).mono fun _ ⟨_, h⟩ => .bind ((W.B h).mono fun _ ⟨_, h⟩ => askE_ok h))
  | none => exact .bind ((W.E h).mono fun _ ⟨_, h⟩ => .map (askV_ok h))
theorem and_ok (W : WpOk C n) {op : BoolOp} {vs : List Expr} {pos : Pos} {Q : AV × List AO → List An → Prop} (h : wpE C (n+1) (.BoolOp op vs pos) σ o Q) : Ok (evE C (n+1) (.BoolOp op vs pos) σ) (Ex Q) := by
  cases op with
  | Or => exact False.elim h
  | And => cases vs with
    | nil => exact False.elim h
    | cons x r => cases r with
      | nil => exact False.elim h
      | cons y q => cases q with
        | cons _ _ => exact False.elim h
        | nil =>
          rw [xAnd]
          refine .bind ((W.E (e := x) h).mono fun p ⟨o, h⟩ => ?_)
          obtain ⟨v, hp⟩ := p
          cases v with
          | bool b => cases b with
            | true => exact W.E h
            | false => exact ⟨_, rfl, o, h⟩
          | _ => exact False.elim h
theorem e_ok (W : WpOk C n) {e : Expr} {Q : AV × List AO → List An → Prop} (h : wpE C (n+1) e σ o Q) : Ok (evE C (n+1) e σ) (Ex Q) := by
  cases e with
  | Constant c k p => exact .map ((wo_ok h).mono fun _ h => ⟨o, h⟩)
  | Name x p => exact .map ((wo_ok h).mono fun _ h => ⟨o, h⟩)
  | BinOp l op r p => exact .bind ((W.E (e := l) h).mono fun _ ⟨_, h⟩ => .bind ((W.E h).mono fun _ ⟨_, h⟩ => bin_ok h))
  | UnaryOp op x p => exact .bind ((W.E (e := x) h).mono fun _ ⟨o, h⟩ => .map ((wo_ok h).mono fun _ h => ⟨o, h⟩))
  | Compare l ops rs p =>
    cases ops with
    | nil => exact False.elim h
    | cons op ops => cases ops with
      | cons _ _ => exact False.elim h
      | nil => cases rs with
        | nil => exact False.elim h
        | cons r rs => cases rs with
          | cons _ _ => exact False.elim h
          | nil => exact .bind ((W.E (e := l) h).mono fun _ ⟨_, h⟩ => .bind ((W.E h).mono fun _ ⟨_, h⟩ => .map ((askB_ok h).mono fun _ ⟨o, h⟩ => ⟨o, h⟩)))
  | IfExp t a b p =>
    refine .bind ((W.T (e := t) h).mono fun p ⟨o, h⟩ => ?_)
    obtain ⟨b, hp⟩ := p
    cases b with
    | true => exact W.E h
    | false => exact W.E h
  | Subscript x i p => exact sub_ok W h
  | BoolOp op vs p => exact and_ok W h
  | List es p => exact .bind ((W.L (e := es) h).mono fun _ ⟨o, h⟩ => by rw [if_pos (wb_ok h).1]; exact ⟨_, rfl, o, (wb_ok h).2⟩)
  | Tuple es k p => exact .bind ((W.L (e := es) h).mono fun _ ⟨o, h⟩ => by rw [if_pos (wb_ok h).1]; exact ⟨_, rfl, o, (wb_ok h).2⟩)
  | Call f as ks pos => exact call_ok W h
  | _ => exact askE_ok h
theorem t_ok (W : WpOk C n) {e : Expr} {Q : Bool × List AO → List An → Prop} (h : wpT C (n+1) e σ o Q) : Ok (evT C (n+1) e σ) (Ex Q) := by
  cases e with
  | UnaryOp op x p => cases op with
    | Not => exact .map ((W.T (e := x) h).mono fun _ ⟨o, h⟩ => ⟨o, h⟩)
    | _ => exact False.elim h
  | BoolOp op vs p => cases op with
    | And => exact W.A (e := vs) h
    | _ => exact False.elim h
  | Compare l ops rs p =>
    cases ops with
    | nil => exact False.elim h
    | cons op ops => cases ops with
      | cons _ _ => exact False.elim h
      | nil => cases rs with
        | nil => exact False.elim h
        | cons r rs => cases rs with
          | cons _ _ => exact False.elim h
          | nil => exact cmp_ok W h
  | Name x p =>
    refine .bind ((W.E (e := .Name x p) h).mono fun p ⟨o, h⟩ => ?_)
    obtain ⟨v, hp⟩ := p
    cases v with
    | bool b => exact ⟨_, rfl, o, h⟩
    | _ => exact False.elim h
  | Call f as ks pos =>
    refine .bind ((W.E (e := .Call f as ks pos) h).mono fun p ⟨o, h⟩ => ?_)
    obtain ⟨v, hp⟩ := p
    cases v with
    | bool b => exact ⟨_, rfl, o, h⟩
    | _ => exact False.elim h
  | _ => exact False.elim h
end
theorem wp_ok (C : Cx) : ∀ n, WpOk C n
  | 0 => ⟨False.elim, False.elim, False.elim, False.elim, False.elim⟩
  | n + 1 => by
    have W := wp_ok C n
    refine ⟨e_ok W, t_ok W, @fun e σ o Q h => ?_, @fun e σ o Q h => ?_, @fun e σ o Q h => ?_⟩
    · cases e with
      | nil => exact ⟨_, rfl, o, h⟩
      | cons x r =>
        refine .bind ((W.T (e := x) h).mono fun p ⟨o, h⟩ => ?_)
        obtain ⟨b, hp⟩ := p
        cases b with
        | true => exact W.A h
        | false => exact ⟨_, rfl, o, h⟩
    · cases e with
      | nil => exact ⟨_, rfl, o, h⟩
      | cons x r => exact .bind ((W.E (e := x) h).mono fun _ ⟨_, h⟩ => .map ((W.L h).mono fun _ ⟨o, h⟩ => ⟨o, h⟩))
    · cases e with
      | none => exact ⟨_, rfl, o, h⟩
      | some e => exact .bind ((W.E (e := e) h).mono fun _ ⟨o, h⟩ => .bind ((wo_ok h).mono fun i h => by rw [if_pos h.1]; exact ⟨_, rfl, o, h.2⟩))
theorem i_ok {C : Cx} {n : Nat} {t e : Expr} {σ : AS} {o : List An} {Q : List It × List Nat × List AO → List An → Prop} (h : wpI C n t e σ o Q) : Ok (evI C n t e σ) (Ex Q) := by
  cases n with
  | zero => exact False.elim h
  | succ n =>
  rw [iAll]
  change (match makerForm e with
    | some fa => wb (decide (C.kind fa.1 = some .globalImplicit)) (wpL C n fa.2 σ o fun p o => askI o (itemsOf fa.1 p.1 p.2) fun r o => wb (tgtOk t r.1.2) (Q (r.1.1, r.2, p.2) o))
    | none => wpE C n e σ o fun p o => askI o (itemsOfVal p.1 p.2) fun r o => wb (tgtOk t r.1.2) (Q (r.1.1, r.2, p.2) o)) at h
  have W := wp_ok C n
  generalize makerForm e = F at h ⊢
  cases F with
  | some fa =>
    have h := wb_ok h
    show Ok (if C.kind fa.1 = some .globalImplicit then _ else _) _
    rw [if_pos (of_decide_eq_true h.1)]
    exact .bind ((W.L h.2).mono fun _ ⟨_, h⟩ => .bind ((askI_ok h).mono fun _ ⟨o, h⟩ => by rw [if_pos (wb_ok h).1]; exact ⟨_, rfl, o, (wb_ok h).2⟩))
  | none => exact .bind ((W.E h).mono fun _ ⟨_, h⟩ => .bind ((askI_ok h).mono fun _ ⟨o, h⟩ => by rw [if_pos (wb_ok h).1]; exact ⟨_, rfl, o, (wb_ok h).2⟩))

structure WsOk (C : Cx) (n : Nat) : Prop where
  S : ∀ {s σ o Q}, wpS C n s σ o Q → Ok (evS C n s σ) (Ex Q)
  Ss : ∀ {s σ o Q}, wpSs C n s σ o Q → Ok (evSs C n s σ) (Ex Q)
theorem many_none {C : Cx} {n : Nat} {σ : AS} (t : Expr) {t' : Expr} {ts : List Expr} {v : Expr} {p : Pos} : evS C (n+1) (.Assign (t :: t' :: ts) v p) σ = none := by
  cases t <;> rfl
/-- the statements that are told: case by case -/
theorem stm_cases {C : Cx} {n : Nat} {σ : AS} {P : Stmt → Prop} (dead : ∀ st, evS C (n+1) st σ = none → (∀ o Q, wpS C (n+1) st σ o Q = False) → P st)
    (assign : ∀ x q v p, P (.Assign [.Name x q] v p)) (aug : ∀ x q op v p, P (.AugAssign (.Name x q) op v p)) (put : ∀ x i q op v p, P (.AugAssign (.Subscript x i q) op v p))
    (expr : ∀ e p, P (.Expr e p)) (ite : ∀ t b els p, P (.If t b els p)) (loop : ∀ t it body p, P (.For t it body [] p)) (ret : ∀ e p, P (.Return (some e) p)) (brk : ∀ p, P (.Break p)) (st : Stmt) : P st := by
  cases st with
  | Assign ts v p => cases ts with
    | nil => exact dead _ rfl fun _ _ => rfl
    | cons t ts => cases ts with
      | cons _ _ => exact dead _ (many_none t) fun _ _ => rfl
      | nil => cases t with
        | Name x q => exact assign x q v p
        | _ => exact dead _ rfl fun _ _ => rfl
  | AugAssign t op v p => cases t with
    | Name x q => exact aug x q op v p
    | Subscript x i q => exact put x i q op v p
    | _ => exact dead _ rfl fun _ _ => rfl
  | Expr e p => exact expr e p
  | If t b els p => exact ite t b els p
  | For t it body els p => cases els with
    | nil => exact loop t it body p
    | cons _ _ => exact dead _ rfl fun _ _ => rfl
  | Return e p => cases e with
    | none => exact dead _ rfl fun _ _ => rfl
    | some e => exact ret e p
  | Break p => exact brk p
  | _ => exact dead _ rfl fun _ _ => rfl
theorem s_ok {C : Cx} {n : Nat} {σ : AS} (W : WsOk C n) (s : Stmt) : ∀ (o : List An) (Q : AF × AS → List An → Prop), wpS C (n+1) s σ o Q → Ok (evS C (n+1) s σ) (Ex Q) := by
  have V := wp_ok C n
  refine stm_cases (C := C) (n := n) (σ := σ) (P := fun s => ∀ (o : List An) (Q : AF × AS → List An → Prop), wpS C (n+1) s σ o Q → Ok (evS C (n+1) s σ) (Ex Q)) (fun st _ e o Q h => False.elim (by rw [e] at h; exact h)) ?_ ?_ ?_ ?_ ?_ ?_ ?_ ?_ s
  · exact fun x q v p o Q h => .bind ((V.E (e := v) h).mono fun _ ⟨o, h⟩ => .map ((wo_ok h).mono fun _ h => ⟨o, h⟩))
  · exact fun x q op v p o Q h => .bind ((wo_ok h).mono fun _ h => .bind ((V.E h).mono fun _ ⟨o, h⟩ => .bind ((wo_ok h).mono fun _ h => .map ((wo_ok h).mono fun _ h => ⟨o, h⟩))))
  · exact fun x i q op v p o Q h => .bind ((V.E (e := x) h).mono fun _ ⟨_, h⟩ => .bind ((V.E h).mono fun _ ⟨_, h⟩ => .bind ((wo_ok h).mono fun _ h => .map ((askH_ok h).mono fun _ ⟨o, h⟩ => ⟨o, h⟩))))
  · intro e p o Q h
    rw [sExpr]
    change (match appendForm e with
      | some xa => wo (getVar C xa.1 σ) fun a => listAt σ.hp a = true ∧ wpE C n xa.2 σ o fun p o => askH o (evAppend a p.1) { σ with hp := p.2 } fun σ' o => Q (.next, σ') o
      | none => False) at h
    generalize appendForm e = F at h ⊢
    cases F with
    | none => exact False.elim h
    | some xa => exact .bind ((wo_ok h).mono fun _ h => by rw [if_pos h.1]; exact .bind ((V.E h.2).mono fun _ ⟨_, h⟩ => .map ((askH_ok h).mono fun _ ⟨o, h⟩ => ⟨o, h⟩)))
  · intro t b els p o Q h
    refine .bind ((V.T (e := t) h).mono fun p ⟨o, h⟩ => ?_)
    obtain ⟨c, hp⟩ := p
    cases c with
    | true => exact W.Ss h
    | false => exact W.Ss h
  · exact fun t it body p o Q h => askS_ok h
  · exact fun e p o Q h => .map ((V.E (e := e) h).mono fun _ ⟨o, h⟩ => ⟨o, h⟩)
  · exact fun p o Q h => ⟨_, rfl, o, h⟩
theorem ws_ok (C : Cx) : ∀ n, WsOk C n
  | 0 => ⟨False.elim, False.elim⟩
  | n + 1 => by
    have W := ws_ok C n
    refine ⟨fun h => s_ok W _ _ _ h, @fun s σ o Q h => ?_⟩
    cases s with
    | nil => exact ⟨_, rfl, o, h⟩
    | cons s r =>
      refine .bind ((W.S (s := s) h).mono fun p ⟨o, h⟩ => ?_)
      obtain ⟨a, σ'⟩ := p
      cases a with
      | next => exact W.Ss h
      | brk => exact ⟨_, rfl, o, h⟩
      | ret v => exact ⟨_, rfl, o, h⟩
end Mine

namespace Mine
open PySem

theorem kcast {P Q : Prop} (p : P) (h : P = Q) : Q := Eq.mp h p

/-! names that are known -/
noncomputable def upds : List (Str × AV) → (Str → Option AV) → Str → Option AV
  | [], f => f
  | p :: r, f => fun y => if y = p.1 then some p.2 else upds r f y
noncomputable def holds (l : List (Str × AV)) (f : Str → Option AV) : Prop := match l with
  | .nil => True
  | .cons p r => f p.1 = some p.2 ∧ holds r f
noncomputable def holdsT (l : List (Str × AV)) : Prop := match l with
  | .nil => True
  | .cons p r => some p.2 = some p.2 ∧ holdsT r
theorem holdsP (l : List (Str × AV)) : holdsT l := match l with
  | .nil => True.intro
  | .cons _ r => And.intro rfl (holdsP r)
theorem upds_self {f : Str → Option AV} : ∀ {l : List (Str × AV)}, holds l f → upds l f = f
  | [], _ => rfl
  | p :: r, h => by
    funext y
    show (if y = p.1 then some p.2 else upds r f y) = f y
    rw [upds_self h.2]
    by_cases hy : y = p.1
    · rw [if_pos hy, hy, h.1]
    · rw [if_neg hy]
/-- a state, as far as it is known -/
noncomputable def St (l : List (Str × AV)) (hp : List AO) (fz : List Nat) (σ : AS) : Prop := holds l σ.vars ∧ σ.hp = hp ∧ σ.fz = fz
noncomputable def stT (l : List (Str × AV)) (hp : List AO) (fz : List Nat) : Prop := holdsT l ∧ hp = hp ∧ fz = fz
theorem stP (l : List (Str × AV)) (hp : List AO) (fz : List Nat) : stT l hp fz := ⟨holdsP l, rfl, rfl⟩
theorem St.ex {l : List (Str × AV)} {hp : List AO} {fz : List Nat} {σ : AS} (h : St l hp fz σ) : ∃ f, σ = ⟨upds l f, hp, fz⟩ := match σ, h with
  | ⟨f, _, _⟩, ⟨h, rfl, rfl⟩ => ⟨f, by rw [upds_self h]⟩
/-- the end of a run: it ends so, in such a state -/
noncomputable def ends (a : AF) (l : List (Str × AV)) (hp : List AO) (fz : List Nat) (r : AF × AS) (_ : List An) : Prop := r.1 = a ∧ St l hp fz r.2
noncomputable def endT (a : AF) (l : List (Str × AV)) (hp : List AO) (fz : List Nat) : Prop := a = a ∧ stT l hp fz
theorem endP (a : AF) (l : List (Str × AV)) (hp : List AO) (fz : List Nat) : endT a l hp fz := ⟨rfl, stP l hp fz⟩

section
variable {C : Cx} {n : Nat} {σ : AS}
theorem body_run {P : Prop} {t : Expr} {body : List Stmt} {x : It} {a : AF} {l : List (Str × AV)} {hp : List AO} {fz : List Nat} (o : List An) (_ : endT a l hp fz) (p : P)
    (h : P = wo (bindT C t x σ) fun σ' => wpSs C n body σ' o (ends a l hp fz)) : ∃ r, (bindT C t x σ).bind (evSs C n body) = some r ∧ r.1 = a ∧ St l hp fz r.2 := by
  obtain ⟨r, h1, _, h2⟩ := Ok.bind ((wo_ok (kcast p h)).mono fun _ h => (ws_ok C n).Ss h)
  exact ⟨r, h1, h2⟩
theorem run_st {P : Prop} {body : List Stmt} {a : AF} {l : List (Str × AV)} {hp : List AO} {fz : List Nat} (o : List An) (_ : endT a l hp fz) (p : P)
    (h : P = wpSs C n body σ o (ends a l hp fz)) : ∃ r, evSs C n body σ = some r ∧ r.1 = a ∧ St l hp fz r.2 := by
  obtain ⟨r, h1, _, h2⟩ := (ws_ok C n).Ss (kcast p h)
  exact ⟨r, h1, h2⟩
end

/-! the text's parts, by their places -/
noncomputable def dA (i : Nat) : List Arg := (defs.getD i default).2.1.args
noncomputable def dB (i : Nat) : List Stmt := (defs.getD i default).2.2.1
noncomputable def dN (i : Nat) : List (Str × NameKind) := (defs.getD i default).2.2.2.names
noncomputable def sA (l : List Stmt) (k : Nat) : Stmt := l.getD k default
noncomputable def fT : Stmt → Expr := fun s => match s with | .For t _ _ _ _ => t | _ => default
noncomputable def fI : Stmt → Expr := fun s => match s with | .For _ i _ _ _ => i | _ => default
noncomputable def fB : Stmt → List Stmt := fun s => match s with | .For _ _ b _ _ => b | _ => []
noncomputable def fP : Stmt → Pos := fun s => match s with | .For _ _ _ _ p => p | _ => default
noncomputable abbrev dC (n i : Nat) : Cx := cxOf (dN i) (runFn n)

theorem for_run {C : Cx} {n : Nat} {σ : AS} {st : Stmt} {α S : Type} (o : List An) (step : α → S → AF × S) (Rep : Nat → S → AS → Prop) (g : α → It) (items : List α) (s : S) (refs : List Nat) (hp' : List AO)
    (hst : st = .For (fT st) (fI st) (fB st) [] (fP st)) (hg : genForm C (fI st) = none)
    {P : Prop} (p : P) (hi : P = wpI C n (fT st) (fI st) σ o fun r _ => r = (items.map g, refs, hp'))
    (hstep : ∀ i x, items[i]? = some x → ∀ s σ, Rep i s σ → ∃ r, (bindT C (fT st) (g x) σ).bind (evSs C n (fB st)) = some r ∧ r.1 = (step x s).1 ∧ Rep (i + 1) (step x s).2 r.2) (h0 : Rep 0 s ⟨σ.vars, hp', refs ++ σ.fz⟩) :
    ∃ i σ', i ≤ items.length ∧ Rep i (loopF step items s).2 σ' ∧ evS C (n + 1) st σ = some ((loopF step items s).1, ⟨σ'.vars, σ'.hp, σ.fz⟩) := by
  obtain ⟨p, h1, _, h2⟩ := i_ok (kcast p hi)
  cases h2
  obtain ⟨⟨a, b⟩, i, hi, h3, h4, h5⟩ := forIt_map (fin := true) step Rep g items 0 s ⟨σ.vars, hp', refs ++ σ.fz⟩ (by simpa using hstep) rfl h0
  rw [Nat.zero_add] at h5
  refine ⟨i, b, hi, h5, ?_⟩
  rw [hst, sFor, hg]
  simp only at h4
  show ((evI C n (fT st) (fI st) σ).bind fun p => (forIt true (bindT C (fT st)) (evSs C n (fB st)) p.1 { σ with hp := p.2.2, fz := p.2.1 ++ σ.fz }).map (unfz σ.fz)) = _
  rw [h1, Option.bind_some, h3, ← h4]
  rfl
/-- a call of a def of the text's own -/
theorem run_def {n : Nat} {f : Str} {ds : List DA} {q : DR} {σ : AS} (i : Nat) (o : List An) (hd : defs.lookup f = some (defs.getD i default).2) (hg : isGen f = false) (hl : layArgs (dA i) ds as0 = some σ)
    {P : Prop} (p : P) (hb : P = wpSs (dC n i) 60 (dB i) σ o fun r _ => (match r.1 with | .ret v => toDR r.2.fz r.2.hp v | _ => none) = some q) : runFn (n + 1) f ds = some q := by
  rw [runFn, hd, Option.bind_some, hg]
  change (layArgs (dA i) ds as0).bind (fun σ => (evSs (dC n i) 60 (dB i) σ).bind fun r => match r.1 with
      | .ret v => toDR r.2.fz r.2.hp v
      | _ => none) = _
  obtain ⟨r, h1, _, h2⟩ := (ws_ok _ _).Ss (kcast p hb)
  rw [hl, Option.bind_some, h1]
  exact h2
end Mine
namespace Mine
open PySem
/-! facts, told with their types -/
section
variable {C : Cx} {hp : List AO} {fz : List Nat} {xs : List AV} {k : Nat}
theorem mulN {x m : Nat} {d : Int} (hd : d = (m : Nat)) (hx : x ≤ 1000000000) (hm : m ≤ 1000000000) : ∀ hp, evBin .Mult (.int (x : Nat)) (.int d) hp = some (.int ((x * m : Nat) : Int), hp) := by
  intro hp
  rw [hd, bMulI, small_nat hx, small_nat hm, Int.natCast_mul]; rfl
theorem gtT {a b : Int} (h : b < a) : ∀ hp, evCmp .Gt (.int a) (.int b) hp = some true := fun _ => by rw [cGtI, decide_eq_true h]
theorem gtF {a b : Int} (h : ¬ b < a) : ∀ hp, evCmp .Gt (.int a) (.int b) hp = some false := fun _ => by rw [cGtI, decide_eq_false h]
theorem geT {a b : Int} (h : b ≤ a) : ∀ hp, evCmp .GtE (.int a) (.int b) hp = some true := fun _ => by rw [cGeI, decide_eq_true h]
theorem geF {a b : Int} (h : ¬ b ≤ a) : ∀ hp, evCmp .GtE (.int a) (.int b) hp = some false := fun _ => by rw [cGeI, decide_eq_false h]
theorem ltT {a b : Int} (h : a < b) : ∀ hp, evCmp .Lt (.int a) (.int b) hp = some true := fun _ => by rw [cLtI, decide_eq_true h]
theorem ltF {a b : Int} (h : ¬ a < b) : ∀ hp, evCmp .Lt (.int a) (.int b) hp = some false := fun _ => by rw [cLtI, decide_eq_false h]
theorem eqiT {a b : Int} (h : a = b) : ∀ hp, evCmp .Eq (.int a) (.int b) hp = some true := fun _ => by rw [cEqI, decide_eq_true h]
theorem eqiF {a b : Int} (h : ¬ a = b) : ∀ hp, evCmp .Eq (.int a) (.int b) hp = some false := fun _ => by rw [cEqI, decide_eq_false h]
theorem eqsT {a b : List Nat} (h : a = b) : ∀ hp, evCmp .Eq (.str a) (.str b) hp = some true := fun _ => by rw [cEqS, decide_eq_true h]
theorem eqsF {a b : List Nat} (h : ¬ a = b) : ∀ hp, evCmp .Eq (.str a) (.str b) hp = some false := fun _ => by rw [cEqS, decide_eq_false h]
theorem neiT {a b : Int} (h : a ≠ b) : ∀ hp, evCmp .NotEq (.int a) (.int b) hp = some true := fun _ => by rw [cNeI, decide_eq_true h]
theorem neiF {a b : Int} (h : a = b) : ∀ hp, evCmp .NotEq (.int a) (.int b) hp = some false := fun _ => by rw [cNeI, decide_eq_false (not_not_intro h)]
theorem nesT {a b : List Nat} (h : a ≠ b) : ∀ hp, evCmp .NotEq (.str a) (.str b) hp = some true := fun _ => by rw [cNeS, decide_eq_true h]
theorem nesF {a b : List Nat} (h : a = b) : ∀ hp, evCmp .NotEq (.str a) (.str b) hp = some false := fun _ => by rw [cNeS, decide_eq_false (not_not_intro h)]
theorem isNotT {a b : Bool} (h : a ≠ b) : ∀ hp, evCmp .IsNot (.bool a) (.bool b) hp = some true := fun _ => by rw [cIsNotB, decide_eq_true h]
theorem isNotF {a b : Bool} (h : a = b) : ∀ hp, evCmp .IsNot (.bool a) (.bool b) hp = some false := fun _ => by rw [cIsNotB, decide_eq_false (not_not_intro h)]
theorem appAt {v : AV} (h : hp[k]? = some (.list xs)) (hf : fz.contains k = false) (hl : xs.length ≤ 1000000) : ∀ vars, evAppend (.ref k) v ⟨vars, hp, fz⟩ = some ⟨vars, hp.set k (.list (xs ++ [v])), fz⟩ := by
  intro vars
  show (match hp[k]? with
    | some (.list xs) => if !fz.contains k && decide (xs.length ≤ textLine) then some (⟨vars, hp.set k (.list (xs ++ [v])), fz⟩ : AS) else none
    | _ => none) = _
  rw [h, hf]
  exact if_pos (decide_eq_true hl)
theorem putLast {v : Int} (h : hp[k]? = some (.list (xs ++ [.int v]))) (hf : fz.contains k = false) : ∀ vars, evPut .Add (.ref k) (.int (-1)) (.int 1) ⟨vars, hp, fz⟩ = some ⟨vars, hp.set k (.list (xs ++ [.int (v + 1)])), fz⟩ := by
  intro vars
  rw [ePut]
  simp only [h, hf, smallm1, List.length_append, List.length_singleton, place_last, Option.bind_some]
  rw [if_pos (by decide)]
  simp [gAdd]
theorem len_list (hk : C.kind "len" = some .globalImplicit) (h : hp[k]? = some (.list xs)) (hl : xs.length ≤ 1000000) : evCall C "len" [.ref k] hp = some (.int (xs.length : Nat), hp) := by
  unfold evCall
  rw [if_pos hk, if_pos rfl]
  simp only [h]
  exact if_pos (decide_eq_true hl)
theorem len_str (hk : C.kind "len" = some .globalImplicit) {x : List Nat} (hl : x.length ≤ 1000000) : evCall C "len" [.str x] hp = some (.int (x.length : Nat), hp) := by
  unfold evCall
  rw [if_pos hk, if_pos rfl]
  exact if_pos (decide_eq_true hl)
theorem iRange (hp : List AO) {a b : Int} (x y : Nat) (ha : a = x) (hb : b = y) (hx : x ≤ 1000000000) (hy : y ≤ 1000000000) : itemsOf "range" [.int a, .int b] hp = some (((List.range' x (y - x)).map (fun n : Nat => It.one (.int n)), false), []) := by
  unfold itemsOf
  rw [if_pos rfl, ha, hb]
  show (if (small (x : Int) && small (y : Int)) = true then some (ranged x y) else none) = _
  unfold ranged
  rw [small_nat hx, small_nat hy, range_nat, List.map_map]; rfl
theorem iRange0 (hp : List AO) {b : Int} (y : Nat) (hb : b = y) (hy : y ≤ 1000000000) : itemsOf "range" [.int b] hp = some (((List.range' 0 y).map (fun n : Nat => It.one (.int n)), false), []) := by
  unfold itemsOf
  rw [if_pos rfl, hb]
  show (if small (y : Int) = true then some (ranged 0 y) else none) = _
  unfold ranged
  rw [small_nat hy, range0, List.map_map]; rfl
theorem iStr (hp : List AO) {x : List Nat} (h : x.all (fun c => decide (c < 128)) = true) : itemsOfVal (.str x) hp = some ((x.map fun c => .one (.str [c]), false), []) := if_pos h
theorem listRange {a b : Int} (x y : Nat) (ha : a = x) (hb : b = y) (hx : x ≤ 1000000) (hy : y ≤ 1000000) : evListRange [.int a, .int b] hp = some (.ref hp.length, hp ++ [.list ((List.range' x (y - x)).map (fun n : Nat => AV.int n))]) := by
  rw [elr, ha, hb, small_nat (Nat.le_trans hx (by decide)), small_nat (Nat.le_trans hy (by decide)), range_nat, List.map_map]
  exact if_pos (by rw [Bool.true_and, Bool.true_and, decide_eq_true_eq]; (clear ha hb hx; omega))
theorem notInT {a : Nat} {l : List Nat} {b : Bool} (h : hp[k]? = some (.list (l.map fun n : Nat => .int n))) (hb : (!l.contains a) = b) : evCmp .NotIn (.int (a : Nat)) (.ref k) hp = some b := by
  rw [cNotInL]
  simp only [h, allInts_nat, Option.map_some, contains_nat, hb]
end
end Mine
namespace Mine
open PySem
/-! what is told ahead, by the facts themselves -/
noncomputable def oV {x : Option AV} {v : AV} (_ : x = some v) : An := .v v
noncomputable def oP {x : Option (AV × List AO)} {p : AV × List AO} (_ : x = some p) : An := .e p.1 p.2
noncomputable def oM {x : List AO → Option (AV × List AO)} {v : AV} (_ : ∀ hp, x hp = some (v, hp)) : An := .v v
noncomputable def oB {x : List AO → Option Bool} {b : Bool} (_ : ∀ hp, x hp = some b) : An := .b b
noncomputable def oC {x : Option Bool} {b : Bool} (_ : x = some b) : An := .bh b
noncomputable def oH {x : AS → Option AS} {hp hp' : List AO} {fz fz' : List Nat} (_ : ∀ vars, x ⟨vars, hp, fz⟩ = some ⟨vars, hp', fz'⟩) : An := .h hp'
noncomputable def oI {x : Option ((List It × Bool) × List Nat)} {y : (List It × Bool) × List Nat} (_ : x = some y) : An := .i y
noncomputable def oS {x : Option (AF × AS)} {y : AF × AS} (_ : x = some y) : An := .s y
end Mine
namespace Mine
open PySem
/-! comprehensions -/
noncomputable def rV : Stmt → Expr := fun s => match s with | .Return (some e) _ => e | _ => default
noncomputable def aV : Stmt → Expr := fun s => match s with | .Assign _ v _ => v | _ => default
noncomputable def cA : Expr → List Expr := fun e => match e with | .Call _ as _ _ => as | _ => []
noncomputable def eA (l : List Expr) (k : Nat) : Expr := l.getD k default
noncomputable def bR : Expr → Expr := fun e => match e with | .BinOp _ _ r _ => r | _ => default
noncomputable def bL : Expr → Expr := fun e => match e with | .BinOp l _ _ _ => l | _ => default
noncomputable def qR : Expr → Expr := fun e => match e with | .Compare _ _ rs _ => eA rs 0 | _ => default
noncomputable def iT : Stmt → Expr := fun s => match s with | .If t _ _ _ => t | _ => default
noncomputable def cE : Expr → Expr := fun e => match e with | .ListComp x _ _ _ => x | _ => default
noncomputable def cG : Expr → Comprehension := fun e => match e with | .ListComp _ gs _ _ => gs.getD 0 default | _ => default
noncomputable def cT (e : Expr) : Expr := match cG e with | ⟨t, _, _, _⟩ => t
noncomputable def cI (e : Expr) : Expr := match cG e with | ⟨_, i, _, _⟩ => i
noncomputable def cF (e : Expr) : List Expr := match cG e with | ⟨_, _, f, _⟩ => f
noncomputable def cS : Expr → Scope := fun e => match e with | .ListComp _ _ s _ => s | _ => default
noncomputable def cPs : Expr → Pos := fun e => match e with | .ListComp _ _ _ p => p | _ => default
/-- a turn's result -/
noncomputable def got (q : Option AV) (r : AV × List AO) (_ : List An) : Prop := r.1.isVal = true ∧ some r.1 = q
noncomputable def wpStep (C : Cx) (n : Nat) (t : Expr) (ifs : List Expr) (elt : Expr) (σ₀ : AS) (x : It) (o : List An) (q : Option AV) : Prop :=
  wo (bindT C t x σ₀) fun σ' => (match ifs with
    | [] => wpE C n elt σ' o (got q)
    | c :: r => (match r with
      | _ :: _ => False
      | [] => wpT C n c σ' o fun b o => (match b.1 with
        | true => wpE C n elt { σ' with hp := b.2 } o (got q)
        | false => none = q)))
noncomputable def tstOf (C : Cx) (n : Nat) (ifs : List Expr) : AS → Option (Bool × List AO) := match ifs with
  | [] => fun σ' => some (true, σ'.hp)
  | [c] => fun σ' => evT C n c σ'
  | _ => fun _ => none
theorem got_ok {q : Option AV} {x : Option (AV × List AO)} (h : Ok x (Ex (got q))) : (x.bind fun r => if r.1.isVal then some (some r.1) else none) = some q := by
  obtain ⟨r, e, _, h1, h2⟩ := h
  rw [e, Option.bind_some, if_pos h1, h2]
theorem step_ok {C : Cx} {n : Nat} {t elt : Expr} {ifs : List Expr} {σ₀ : AS} {x : It} {o : List An} {q : Option AV} (h : wpStep C n t ifs elt σ₀ x o q) :
    compStep C t σ₀ (tstOf C n ifs) (fun σ' => evE C n elt σ') x = some q := by
  obtain ⟨σ', e, h⟩ := wo_ok h
  unfold compStep
  rw [e, Option.bind_some]
  have W := wp_ok C n
  cases ifs with
  | nil => exact got_ok (W.E h)
  | cons c r => cases r with
    | cons _ _ => exact False.elim h
    | nil =>
      obtain ⟨⟨b, hp⟩, e, o, h⟩ := W.T h
      show ((evT C n c σ').bind _) = _
      rw [e, Option.bind_some]
      cases b with
      | true => exact got_ok (W.E h)
      | false => exact congrArg some h
theorem comp_run {C : Cx} {n : Nat} {σ : AS} {e : Expr} {α : Type} (o : List An) (g : α → It) (items : List α) (F : α → Option AV) (refs : List Nat) (hp' : List AO)
    (he : e = .ListComp (cE e) [⟨cT e, cI e, cF e, 0⟩] (cS e) (cPs e)) (hok : (compOk C (cS e) && tgtLoc (cS e) (cT e)) = true)
    {P : Prop} (p : P) (hi : P = wpI C n (cT e) (cI e) σ o fun r _ => r = (items.map g, refs, hp')) (hl : items.length ≤ 1000000)
    (hstep : ∀ x ∈ items, ∃ o, wpStep (C.inner (cS e)) n (cT e) (cF e) (cE e) ⟨innerVars (cS e) σ, hp', σ.fz⟩ (g x) o (F x)) :
    evE C (n + 1) e σ = some (.ref hp'.length, hp' ++ [.list (items.filterMap F)]) := by
  obtain ⟨p, h1, _, h2⟩ := i_ok (kcast p hi)
  cases h2
  rw [he]
  show (if (decide ((0:Nat) = 0) && (compOk C (cS e) && tgtLoc (cS e) (cT e))) = true then (evI C n (cT e) (cI e) σ).bind fun p => (compIt (compStep (C.inner (cS e)) (cT e) { vars := innerVars (cS e) σ, hp := p.2.2, fz := σ.fz } (tstOf (C.inner (cS e)) n (cF e)) (fun σ' => evE (C.inner (cS e)) n (cE e) σ')) p.1).bind fun ys => if decide (p.1.length ≤ textLine) then some (AV.ref p.2.2.length, p.2.2 ++ [AO.list ys]) else none else none) = _
  rw [hok, h1]
  show ((compIt _ (items.map g)).bind _) = _
  rw [compIt_map (F := F) fun x hx => step_ok (hstep x hx).choose_spec, Option.bind_some]
  show (if decide ((items.map g).length ≤ textLine) = true then _ else _) = _
  rw [if_pos]
  rw [List.length_map, decide_eq_true_eq]
  exact hl
theorem stepP {P : Prop} {C : Cx} {n : Nat} {t elt : Expr} {ifs : List Expr} {σ₀ : AS} {x : It} {q : Option AV} (o : List An) (p : P) (h : P = wpStep C n t ifs elt σ₀ x o q) : ∃ o, wpStep C n t ifs elt σ₀ x o q := ⟨o, kcast p h⟩
end Mine
namespace Mine
open PySem
section
variable {C : Cx} {hp : List AO} {fz : List Nat} {xs ys : List AV} {k i j : Nat} {x y : List Nat}
theorem call_fn {m n : Nat} {f : Str} {args : List AV} {ds : List DA} {r : DR} {q : AV × List AO} (hk : (dC m n).kind f = some .globalImplicit) (hn : (f == "len" || (f == "sum" || f == "chr")) = false) (hd : deepAll hp args = some ds) (hc : runFn m f ds = some r) (hs : shallow hp r = some q) : evCall (dC m n) f args hp = some q := by
  rw [Bool.or_eq_false_iff, Bool.or_eq_false_iff] at hn
  unfold evCall
  rw [if_pos hk, if_neg (beq_eq_false_iff_ne.mp hn.1), if_neg (beq_eq_false_iff_ne.mp hn.2.1), if_neg (beq_eq_false_iff_ne.mp hn.2.2), hd, Option.bind_some]
  show (runFn m f ds).bind _ = _
  rw [hc]
  exact hs
theorem sh_val {v : AV} (h : v.isVal = true) : shallow hp (.val v) = some (v, hp) := if_pos h
theorem sh_lst (h : xs.all AV.isVal = true) : shallow hp (.lst xs) = some (.ref hp.length, hp ++ [.list xs]) := if_pos h
theorem sh_pair {v : AV} (hv : v.isVal = true) (h : xs.all AV.isVal = true) : shallow hp (.pair v xs) = some (.ref (hp.length + 1), hp ++ [.list xs, .tup [v, .ref hp.length]]) := if_pos (by rw [hv, h]; rfl)
theorem deep_lst (h : hp[k]? = some (.list xs)) (hx : xs.all AV.isVal = true) : deep hp (.ref k) = some (.lst xs) := by
  rw [dpR]; simp only [h, hx, if_true]
theorem cutS_from (hp : List AO) (k : Nat) (h : x.length ≤ 1000000) : evCut (.str x) (some (k : Int)) none hp = some (.str (x.drop k), hp) := by
  rw [kS, cut_from]; exact if_pos (decide_eq_true h)
theorem cutS_both (hp : List AO) (k e : Nat) (h : x.length ≤ 1000000) : evCut (.str x) (some (k : Int)) (some (e : Int)) hp = some (.str ((x.take e).drop k), hp) := by
  rw [kS, cut_both]; exact if_pos (decide_eq_true h)
theorem cutR_from (c : Nat) (h : hp[k]? = some (.list xs)) (hl : xs.length ≤ 1000000) : evCut (.ref k) (some (c : Int)) none hp = some (.ref hp.length, hp ++ [.list (xs.drop c)]) := by
  rw [kR]; simp only [h, cut_from]; exact if_pos (decide_eq_true hl)
theorem cutR_to (c : Nat) (h : hp[k]? = some (.list xs)) (hl : xs.length ≤ 1000000) : evCut (.ref k) none (some (c : Int)) hp = some (.ref hp.length, hp ++ [.list (xs.take c)]) := by
  rw [kR]; simp only [h, cut_to]; exact if_pos (decide_eq_true hl)
theorem addL (h1 : hp[i]? = some (.list xs)) (h2 : hp[j]? = some (.list ys)) (hl : xs.length + ys.length ≤ 1000000) : evBin .Add (.ref i) (.ref j) hp = some (.ref hp.length, hp ++ [.list (xs ++ ys)]) := by
  rw [bAddL]; simp only [h1, h2]; exact if_pos (decide_eq_true hl)
theorem addS (x y : List Nat) (hl : x.length + y.length ≤ 1000000) : ∀ hp, evBin .Add (.str x) (.str y) hp = some (.str (x ++ y), hp) := fun _ => if_pos (decide_eq_true hl)
theorem mulS (c : Nat) {d : Int} (m : Nat) (hd : d = (m : Nat)) (hm : m ≤ 1000000) : ∀ hp, evBin .Mult (.str [c]) (.int d) hp = some (.str (List.replicate m c), hp) := by
  intro hp
  rw [hd, bMulS, small_nat (Nat.le_trans hm (by decide)), Bool.and_true]
  exact if_pos (by rw [List.length_singleton, decide_eq_true rfl, Bool.true_and, decide_eq_true_eq]; (clear hd; omega))
theorem list_of (h1 : hp[i]? = some (.list xs)) : listOf hp (.ref i) = some (i, xs) := by
  unfold listOf
  simp only [h1]
theorem zipI (h1 : hp[i]? = some (.list xs)) (h2 : hp[j]? = some (.list ys)) (hne : i ≠ j) : itemsOf "zip" [.ref i, .ref j] hp = some (((xs.zip ys).map fun p => .two p.1 p.2, true), [i, j]) := by
  unfold itemsOf
  rw [if_neg (by decide +kernel), if_neg (by decide +kernel), if_pos rfl]
  show ((listOf hp (.ref i)).bind fun a => (listOf hp (.ref j)).bind fun b => if a.1 = b.1 then none else some (((a.2.zip b.2).map fun p => It.two p.1 p.2, true), [a.1, b.1])) = _
  rw [list_of h1, list_of h2]
  exact if_neg hne
theorem enumI (h1 : hp[i]? = some (.list xs)) : itemsOf "enumerate" [.ref i] hp = some ((xs.zipIdx.map fun p => .two (.int p.2) p.1, true), [i]) := by
  unfold itemsOf
  rw [if_neg (by decide +kernel), if_pos rfl]
  show ((listOf hp (.ref i)).map _) = _
  rw [list_of h1]; rfl
theorem iList (h1 : hp[i]? = some (.list xs)) : itemsOfVal (.ref i) hp = some ((xs.map .one, false), [i]) := by
  unfold itemsOfVal
  simp only [h1]
theorem toDR_lst (h1 : hp[i]? = some (.list xs)) (f1 : fz.contains i = false) (hx : xs.all AV.isVal = true) : toDR fz hp (.ref i) = some (.lst xs) := by
  rw [tdR]; simp only [f1, h1, hx, Bool.false_eq_true, if_true, if_false]
theorem joinL {zs : List (List Nat)} (h1 : hp[k]? = some (.list xs)) (h2 : allStrs xs = some zs) (hl : (zs.map List.length).sum ≤ 1000000) : evJoin (.ref k) hp = some (.str zs.flatten, hp) := by
  rw [evJ]; simp only [h1, h2, Option.bind_some]; exact if_pos (decide_eq_true hl)
end
noncomputable abbrev gotT (v : AV) : Prop := v.isVal = v.isVal ∧ some v = some v
theorem gotP (v : AV) : gotT v := ⟨rfl, rfl⟩
end Mine
namespace Mine
open PySem
theorem for_gen {C : Cx} {n : Nat} {σ : AS} {st : Stmt} {α S : Type} (f : Str) (vs : List AV) (ds : List DA) (fin : Bool) (step : α → S → AF × S) (Rep : Nat → S → AS → Prop) (g : α → It) (items : List α) (s : S) {rr : AF × S}
    (hst : st = .For (fT st) (fI st) (fB st) [] (fP st)) (hg : genForm C (fI st) = some (f, cA (fI st))) (hk : C.kind f = some .globalImplicit) (hv : evL C n (cA (fI st)) σ = some (vs, σ.hp)) (hd : deepAll σ.hp vs = some ds)
    (hi : C.gen f ds = some (items.map g, fin)) (ht : tgtOk (fT st) (genTwo f) = true) (hG : loopG fin step items s = some rr)
    (hstep : ∀ i x, items[i]? = some x → ∀ s σ, Rep i s σ → ∃ r, (bindT C (fT st) (g x) σ).bind (evSs C n (fB st)) = some r ∧ r.1 = (step x s).1 ∧ Rep (i + 1) (step x s).2 r.2) (h0 : Rep 0 s ⟨σ.vars, σ.hp, refsOf vs ++ σ.fz⟩) :
    ∃ i σ', i ≤ items.length ∧ Rep i rr.2 σ' ∧ evS C (n + 1) st σ = some (rr.1, ⟨σ'.vars, σ'.hp, σ.fz⟩) := by
  obtain ⟨⟨a, b⟩, i, hi', h3, h4, h5⟩ := forIt_mapG (fin := fin) step Rep g items 0 s ⟨σ.vars, σ.hp, refsOf vs ++ σ.fz⟩ (by simpa using hstep) hG h0
  rw [Nat.zero_add] at h5
  refine ⟨i, b, hi', h5, ?_⟩
  rw [hst, sFor, hg]
  simp only at h4
  show (if C.kind f = some .globalImplicit then (evL C n (cA (fI st)) σ).bind fun p => (deepAll p.2 p.1).bind fun ds => (C.gen f ds).bind fun items => if tgtOk (fT st) (genTwo f) then (forIt items.2 (bindT C (fT st)) (evSs C n (fB st)) items.1 { σ with hp := p.2, fz := refsOf p.1 ++ σ.fz }).map (unfz σ.fz) else none else none) = _
  rw [if_pos hk, hv, Option.bind_some, hd, Option.bind_some, hi, Option.bind_some, if_pos ht, h3, ← h4]
  rfl
theorem lay_lst {l : List Arg} {xs : List AV} {ds : List DA} {σ : AS} (hl : l = l.headD default :: l.tail) (h : xs.all AV.isVal = true) (hr : layArgs l.tail ds ⟨upds [((l.headD default).arg, .ref 0)] (fun _ => none), [.list xs], [0]⟩ = some σ) : layArgs l (.lst xs :: ds) as0 = some σ := by
  rw [hl]
  show (if (xs.all AV.isVal && List.isEmpty []) = true then _ else _) = _
  rw [h]
  exact hr
section
variable {hp : List AO} {k : Nat}
theorem eqNat (a b : Nat) : ∀ hp, evCmp .Eq (.int (a : Nat)) (.int (b : Nat)) hp = some (decide (a = b)) := fun _ => by
  rw [cEqI, show decide ((a : Int) = (b : Int)) = decide (a = b) from decide_eq_decide.mpr Int.ofNat_inj]
theorem modI {a b : Int} (hb : b ≠ 0) : ∀ hp, evBin .Mod (.int a) (.int b) hp = some (.int (a.fmod b), hp) := fun _ => if_pos (decide_eq_true hb)
theorem inB {l : List Nat} (a : Nat) (h : hp[k]? = some (.list (l.map fun n : Nat => .int n))) : evCmp .In (.int (a : Nat)) (.ref k) hp = some (l.contains a) := by
  rw [cInL]
  simp only [h, allInts_nat, Option.map_some, contains_nat]
end
end Mine

namespace Mine
open PySem PyProof.Rows
/-- a goal, put aside while facts are taken apart -/
theorem hide {G : Prop} (k : ∀ G' : Prop, (G → G') → G') : G := k G id
theorem no1 {α : Type} {r : α} {P : Prop} (h : (none : Option α) = some r) : P := nomatch h
theorem no2 {P : Prop} (h : false = true) : P := nomatch h

/-! ## how abstract things stand for the machine's -/

noncomputable def VR (ρ : List Addr) : AV → Value → Prop
  | .none, V => V = .none
  | .bool b, V => V = .bool b
  | .int i, V => ∃ t, V = .int i t
  | .str x, V => ∃ t, V = .str ⟨x.toArray⟩ t
  | .ref n, V => ∃ a, ρ[n]? = some a ∧ V = .ref a

noncomputable def PlainTup (h : Heap) (a : Addr) (items : Array Value) : Prop := ∃ n, h.get? a = some { cls := .type "tuple", data := .seq items n }

noncomputable def OR (ρ : List Addr) (h : Heap) (a : Addr) : AO → Prop
  | .list xs => ∃ items, h.PlainList a items ∧ Paired (VR ρ) xs items.toList
  | .tup xs => ∃ items, PlainTup h a items ∧ Paired (VR ρ) xs items.toList

theorem Paired.mono' {α β : Type} {F G : α → β → Prop} (h : ∀ a b, F a b → G a b) : ∀ {l : List α} {m : List β}, Paired F l m → Paired G l m
  | _, _, .nil => .nil
  | _, _, .cons x r => .cons (h _ _ x) (Paired.mono' h r)
theorem Paired.append {α β : Type} {F : α → β → Prop} : ∀ {l₁ l₂ : List α} {m₁ m₂ : List β}, Paired F l₁ m₁ → Paired F l₂ m₂ → Paired F (l₁ ++ l₂) (m₁ ++ m₂)
  | _, _, _, _, .nil, y => y
  | _, _, _, _, .cons x r, y => .cons x (Paired.append r y)
theorem Paired.get {α β : Type} {F : α → β → Prop} : ∀ {l : List α} {m : List β}, Paired F l m → ∀ {i : Nat} {a : α}, l[i]? = some a → ∃ b, m[i]? = some b ∧ F a b
  | _, _, .nil, _, _, e => by simp at e
  | _, _, .cons x r, 0, a, e => by simp at e; subst e; exact ⟨_, rfl, x⟩
  | _, _, .cons x r, i + 1, a, e => by simpa using Paired.get r (by simpa using e)
theorem Paired.set' {α β : Type} {F : α → β → Prop} {a : α} {b : β} (h : F a b) : ∀ {l : List α} {m : List β} (i : Nat), Paired F l m → Paired F (l.set i a) (m.set i b)
  | _, _, _, .nil => .nil
  | _, _, 0, .cons _ r => .cons h r
  | _, _, i + 1, .cons x r => .cons x (Paired.set' h i r)
theorem Paired.take' {α β : Type} {F : α → β → Prop} : ∀ {l : List α} {m : List β} (i : Nat), Paired F l m → Paired F (l.take i) (m.take i)
  | _, _, _, .nil => by simpa using Paired.nil
  | _, _, 0, .cons _ _ => by simpa using Paired.nil
  | _, _, i + 1, .cons x r => .cons x (Paired.take' i r)
theorem Paired.drop' {α β : Type} {F : α → β → Prop} : ∀ {l : List α} {m : List β} (i : Nat), Paired F l m → Paired F (l.drop i) (m.drop i)
  | _, _, _, .nil => by simpa using Paired.nil
  | _, _, 0, .cons x r => .cons x r
  | _, _, i + 1, .cons _ r => Paired.drop' i r

theorem VR.mono {ρ ρ' : List Addr} {v : AV} {V : Value} (h : VR ρ v V) : VR (ρ ++ ρ') v V := by
  cases v with
  | ref n =>
    obtain ⟨a, e, r⟩ := h
    exact ⟨a, by rw [List.getElem?_append_left (List.getElem?_eq_some_iff.mp e).1]; exact e, r⟩
  | _ => exact h
theorem VR.val {ρ ρ' : List Addr} {v : AV} {V : Value} (hv : v.isVal = true) (h : VR ρ v V) : VR ρ' v V := by
  cases v with
  | ref n => cases hv
  | _ => exact h
theorem OR.mono {ρ ρ' : List Addr} {h : Heap} {a : Addr} {o : AO} (x : OR ρ h a o) : OR (ρ ++ ρ') h a o := by
  cases o with
  | list xs => obtain ⟨items, h1, h2⟩ := x; exact ⟨items, h1, Paired.mono' (fun _ _ => VR.mono) h2⟩
  | tup xs => obtain ⟨items, h1, h2⟩ := x; exact ⟨items, h1, Paired.mono' (fun _ _ => VR.mono) h2⟩
theorem OR.at {ρ : List Addr} {h h' : Heap} {a : Addr} {o : AO} (x : OR ρ h a o) (hk : ∀ ob, h.get? a = some ob → h'.get? a = some ob) : OR ρ h' a o := by
  cases o with
  | list xs => obtain ⟨items, ⟨n, h1⟩, h2⟩ := x; exact ⟨items, ⟨n, hk _ h1⟩, h2⟩
  | tup xs => obtain ⟨items, ⟨n, h1⟩, h2⟩ := x; exact ⟨items, ⟨n, hk _ h1⟩, h2⟩
theorem OR.live {ρ : List Addr} {h : Heap} {a : Addr} {o : AO} (x : OR ρ h a o) : ∃ ob, h.get? a = some ob := by
  cases o with
  | list xs => obtain ⟨items, ⟨n, h1⟩, h2⟩ := x; exact ⟨_, h1⟩
  | tup xs => obtain ⟨items, ⟨n, h1⟩, h2⟩ := x; exact ⟨_, h1⟩

structure EnvOk (C : Cx) (env : Env) : Prop where
  kind : env.scope.kind = .function
  names : env.scope.names = C.names
  globals : env.globals = mainGlobals
  builtins : env.builtins = builtinsNs
  cell : ∀ x, C.kind x = some .cell → ∃ c, env.cells.lookup x = some c
  dbg : C.kind "__debug__" = none

theorem EnvOk.kindOf {C : Cx} {env : Env} (x : EnvOk C env) (n : Str) : env.kindOf n = C.kind n := by
  unfold Env.kindOf Cx.kind; rw [x.names]

structure Rel (h₀ : Heap) (C : Cx) (env : Env) (ρ : List Addr) (σ : AS) (h : Heap) : Prop where
  base : ∀ b o, h₀.get? b = some o → h.get? b = some o
  loc : ∃ m, h.Ns env.locals m ∧ ∀ x v, C.kind x = some .local → σ.vars x = some v → ∃ V, m x = some V ∧ VR ρ v V
  cel : ∀ x c, C.kind x = some .cell → env.cells.lookup x = some c → ∃ ov, h.IsCell c ov ∧ ∀ v, σ.vars x = some v → ∃ V, ov = some V ∧ VR ρ v V
  len : ρ.length = σ.hp.length
  obj : ∀ (n : Nat) o a, σ.hp[n]? = some o → ρ[n]? = some a → OR ρ h a o
  nodup : ρ.Nodup
  locN : h₀.get? env.locals = none
  locρ : env.locals ∉ ρ
  celN : ∀ x c, C.kind x = some .cell → env.cells.lookup x = some c → h₀.get? c = none ∧ c ≠ env.locals ∧ c ∉ ρ
  celI : ∀ x y c, C.kind x = some .cell → C.kind y = some .cell → env.cells.lookup x = some c → env.cells.lookup y = some c → x = y
  objN : ∀ (n : Nat) a, ρ[n]? = some a → n ∉ σ.fz → h₀.get? a = none

/-- all that stood stands -/
structure KA (s s' : Shared) : Prop where
  keep : ∀ b o, s.heap.get? b = some o → s'.heap.get? b = some o
  drawn : s'.drawn = s.drawn
  os : s'.os = s.os
  gold : ∀ (i : Nat) x, s.gens[i]? = some x → s'.gens[i]? = some x
  bare : AllBare s.gens → AllBare s'.gens

theorem KA.refl {s : Shared} : KA s s := ⟨fun _ _ e => e, rfl, rfl, fun _ _ e => e, fun e => e⟩
theorem KA.trans {s s' s'' : Shared} (x : KA s s') (y : KA s' s'') : KA s s'' :=
  ⟨fun b o e => y.keep b o (x.keep b o e), y.drawn.trans x.drawn, y.os.trans x.os, fun i z e => y.gold i z (x.gold i z e), fun e => y.bare (x.bare e)⟩
theorem KA.toks {s : Shared} (t : Nat) : KA s { s with toks := t } := ⟨fun _ _ e => e, rfl, rfl, fun _ _ e => e, fun e => e⟩
theorem KA.heap {s : Shared} {h' : Heap} (t : Nat) (hk : ∀ b o, s.heap.get? b = some o → h'.get? b = some o) : KA s { s with heap := h', toks := t } :=
  ⟨hk, rfl, rfl, fun _ _ e => e, fun e => e⟩
theorem KA.fresh {s s' : Shared} (x : KA s s') {a : Addr} (h : s'.heap.get? a = none) : s.heap.get? a = none := by
  cases e : s.heap.get? a with
  | none => rfl
  | some o => rw [x.keep a o e] at h; cases h

section
variable {h₀ : Heap} {C : Cx} {env : Env} {ρ : List Addr} {σ : AS} {h h' : Heap}

theorem Rel.live (R : Rel h₀ C env ρ σ h) {a : Addr} (ha : a ∈ ρ) : ∃ ob, h.get? a = some ob := by
  obtain ⟨n, hn, e⟩ := List.getElem_of_mem ha
  have h1 : ρ[n]? = some a := List.getElem?_eq_some_iff.mpr ⟨hn, e⟩
  have h2 : n < σ.hp.length := R.len ▸ hn
  exact (R.obj n _ a (List.getElem?_eq_getElem h2) h1).live
theorem Rel.liveL (R : Rel h₀ C env ρ σ h) : ∃ ob, h.get? env.locals = some ob := let ⟨_, ⟨o, _, _, e, _⟩, _⟩ := R.loc; ⟨o, e⟩
theorem Rel.liveC (R : Rel h₀ C env ρ σ h) {x : Str} {c : Addr} (hx : C.kind x = some .cell) (hc : env.cells.lookup x = some c) : ∃ ob, h.get? c = some ob :=
  let ⟨_, ⟨o, e, _⟩, _⟩ := R.cel x c hx hc; ⟨o, e⟩

/-- whatever keeps the frame's own things keeps the relation -/
theorem Rel.frame (R : Rel h₀ C env ρ σ h) (hb : ∀ b o, h₀.get? b = some o → h'.get? b = some o) (hL : ∀ o, h.get? env.locals = some o → h'.get? env.locals = some o)
    (hc : ∀ x c, C.kind x = some .cell → env.cells.lookup x = some c → ∀ o, h.get? c = some o → h'.get? c = some o)
    (hρ : ∀ a ∈ ρ, ∀ o, h.get? a = some o → h'.get? a = some o) : Rel h₀ C env ρ σ h' where
  base := hb
  loc := let ⟨m, hn, r⟩ := R.loc; ⟨m, hn.at' fun o e => hL o e, r⟩
  cel := fun x c hx hl => let ⟨ov, ⟨o, ho, hd⟩, r⟩ := R.cel x c hx hl; ⟨ov, ⟨o, hc x c hx hl o ho, hd⟩, r⟩
  len := R.len
  obj := fun n o a e1 e2 => (R.obj n o a e1 e2).at fun ob e => hρ a (List.mem_of_getElem? e2) ob e
  nodup := R.nodup
  locN := R.locN
  locρ := R.locρ
  celN := R.celN
  celI := R.celI
  objN := R.objN
theorem Rel.keeps (R : Rel h₀ C env ρ σ h) (hk : ∀ b o, h.get? b = some o → h'.get? b = some o) : Rel h₀ C env ρ σ h' :=
  R.frame (fun b o e => hk b o (R.base b o e)) (fun o e => hk _ o e) (fun _ c _ _ o e => hk c o e) fun a _ o e => hk a o e

/-- one more object -/
theorem Rel.grow (R : Rel h₀ C env ρ σ h) {a : Addr} {o : AO} (ha : h.get? a = none) (hk : ∀ b o, h.get? b = some o → h'.get? b = some o) (ho : OR (ρ ++ [a]) h' a o) :
    Rel h₀ C env (ρ ++ [a]) { σ with hp := σ.hp ++ [o] } h' where
  base := fun b o e => hk b o (R.base b o e)
  loc := let ⟨m, hn, r⟩ := R.loc; ⟨m, hn.keeps hk, fun x v h1 h2 => let ⟨V, e, z⟩ := r x v h1 h2; ⟨V, e, z.mono⟩⟩
  cel := fun x c hx hl => let ⟨ov, hc, r⟩ := R.cel x c hx hl; ⟨ov, hc.keeps hk, fun v hv => let ⟨V, e, z⟩ := r v hv; ⟨V, e, z.mono⟩⟩
  len := by simp [R.len]
  obj := fun n o' b e1 e2 => by
    rcases Nat.lt_or_ge n ρ.length with hn | hn
    · rw [List.getElem?_append_left hn] at e2
      rw [List.getElem?_append_left (R.len ▸ hn)] at e1
      exact (R.obj n o' b e1 e2).mono.at fun ob e => hk b ob e
    · rw [List.getElem?_append_right hn] at e2
      rw [List.getElem?_append_right (R.len ▸ hn)] at e1
      have hz : n - ρ.length = 0 := by
        rcases Nat.eq_zero_or_pos (n - ρ.length) with h | h
        · exact h
        · rw [List.getElem?_eq_none (by simp; (clear R ha hk ho e1 e2 hn; omega))] at e2; cases e2
      rw [hz] at e2
      rw [← R.len, hz] at e1
      simp at e1 e2
      subst e1 e2; exact ho
  nodup := by
    rw [List.nodup_append]
    refine ⟨R.nodup, by simp, fun b hb c hc e => ?_⟩
    simp at hc; subst hc; subst e
    obtain ⟨ob, z⟩ := R.live hb
    rw [ha] at z; cases z
  locN := R.locN
  locρ := by
    intro hm
    rcases List.mem_append.mp hm with hm | hm
    · exact R.locρ hm
    · simp at hm
      obtain ⟨ob, z⟩ := R.liveL
      rw [hm, ha] at z; cases z
  celN := fun x c hx hl => by
    obtain ⟨h1, h2, h3⟩ := R.celN x c hx hl
    refine ⟨h1, h2, fun hm => ?_⟩
    rcases List.mem_append.mp hm with hm | hm
    · exact h3 hm
    · simp at hm
      obtain ⟨ob, z⟩ := R.liveC hx hl
      rw [hm, ha] at z; cases z
  celI := R.celI
  objN := fun n b e hn => by
    rcases Nat.lt_or_ge n ρ.length with hl | hl
    · rw [List.getElem?_append_left hl] at e
      exact R.objN n b e hn
    · rw [List.getElem?_append_right hl] at e
      have : b = a := by
        have := List.mem_of_getElem? e
        simpa using this
      subst this
      cases z : h₀.get? b with
      | none => rfl
      | some o => rw [R.base b o z] at ha; cases ha

theorem Rel.getVar (R : Rel h₀ C env ρ σ h) {x : Str} {v : AV} (hk : C.kind x = some .local) (hv : σ.vars x = some v) : ∃ m V, h.Ns env.locals m ∧ m x = some V ∧ VR ρ v V :=
  let ⟨m, hn, r⟩ := R.loc; let ⟨V, e, z⟩ := r x v hk hv; ⟨m, V, hn, e, z⟩

/-- a local is stored -/
theorem Rel.setLocal (R : Rel h₀ C env ρ σ h) {x : Str} {v : AV} {V : Value} {m : Str → Option Value} (hm : ∀ y u, C.kind y = some .local → σ.vars y = some u → ∃ V, m y = some V ∧ VR ρ u V)
    (hk : C.kind x = some .local) (hV : VR ρ v V) (hn : h'.Ns env.locals (fun y => if y = x then some V else m y)) (hs : Heap.SameBut env.locals h h') :
    Rel h₀ C env ρ { σ with vars := fun y => if y = x then some v else σ.vars y } h' where
  base := fun b o e => hs.extBut b o (by rintro rfl; rw [R.locN] at e; cases e) (R.base b o e)
  loc := ⟨_, hn, fun y u h1 h2 => by
    by_cases hy : y = x
    · subst hy; simp at h2; subst h2; exact ⟨V, by simp, hV⟩
    · simp only [hy, if_false] at h2 ⊢; exact hm y u h1 h2⟩
  cel := fun y c hy hl => by
    obtain ⟨ov, hc, r⟩ := R.cel y c hy hl
    refine ⟨ov, hc.sameBut hs (R.celN y c hy hl).2.1, fun u hu => ?_⟩
    by_cases hyx : y = x
    · subst hyx; rw [hk] at hy; cases hy
    · simp only [hyx, if_false] at hu; exact r u hu
  len := R.len
  obj := fun n o a e1 e2 => (R.obj n o a e1 e2).at fun ob e => hs.extBut a ob (by rintro rfl; exact R.locρ (List.mem_of_getElem? e2)) e
  nodup := R.nodup
  locN := R.locN
  locρ := R.locρ
  celN := R.celN
  celI := R.celI
  objN := R.objN

/-- a cell is stored -/
theorem Rel.setCell (R : Rel h₀ C env ρ σ h) {x : Str} {c : Addr} {v : AV} {V : Value} (hk : C.kind x = some .cell) (hl : env.cells.lookup x = some c) (hV : VR ρ v V)
    (hc : h'.IsCell c (some V)) (hs : Heap.SameBut c h h') :
    Rel h₀ C env ρ { σ with vars := fun y => if y = x then some v else σ.vars y } h' where
  base := fun b o e => hs.extBut b o (by rintro rfl; rw [(R.celN x b hk hl).1] at e; cases e) (R.base b o e)
  loc := by
    obtain ⟨m, hn, r⟩ := R.loc
    refine ⟨m, hn.sameBut hs (Ne.symm (R.celN x c hk hl).2.1), fun y u h1 h2 => ?_⟩
    by_cases hy : y = x
    · subst hy; rw [hk] at h1; cases h1
    · simp only [hy, if_false] at h2; exact r y u h1 h2
  cel := fun y d hy hd => by
    by_cases hyx : y = x
    · subst hyx
      rw [hl] at hd; cases hd
      exact ⟨some V, hc, fun u hu => by simp at hu; subst hu; exact ⟨V, rfl, hV⟩⟩
    · obtain ⟨ov, h1, r⟩ := R.cel y d hy hd
      refine ⟨ov, h1.sameBut hs (fun e => hyx (R.celI y x d hy hk hd (e ▸ hl))), fun u hu => ?_⟩
      simp only [hyx, if_false] at hu; exact r u hu
  len := R.len
  obj := fun n o a e1 e2 => (R.obj n o a e1 e2).at fun ob e => hs.extBut a ob (by rintro rfl; exact (R.celN x a hk hl).2.2 (List.mem_of_getElem? e2)) e
  nodup := R.nodup
  locN := R.locN
  locρ := R.locρ
  celN := R.celN
  celI := R.celI
  objN := R.objN

/-- an object of the call's own is changed -/
theorem Rel.setObj (R : Rel h₀ C env ρ σ h) {k : Nat} {a : Addr} {o : AO} (hk : ρ[k]? = some a) (hf : k ∉ σ.fz) (ho : OR ρ h' a o) (hs : Heap.SameBut a h h') :
    Rel h₀ C env ρ { σ with hp := σ.hp.set k o } h' where
  base := fun b o e => hs.extBut b o (by rintro rfl; rw [R.objN k b hk hf] at e; cases e) (R.base b o e)
  loc := let ⟨m, hn, r⟩ := R.loc; ⟨m, hn.sameBut hs (by rintro e; exact R.locρ (e ▸ List.mem_of_getElem? hk)), r⟩
  cel := fun x c hx hl => let ⟨ov, hc, r⟩ := R.cel x c hx hl; ⟨ov, hc.sameBut hs (by rintro rfl; exact (R.celN x c hx hl).2.2 (List.mem_of_getElem? hk)), r⟩
  len := by simp [R.len]
  obj := fun n o' b e1 e2 => by
    by_cases hn : n = k
    · subst hn
      rw [hk] at e2; cases e2
      rw [List.getElem?_set] at e1
      simp only [if_true] at e1
      split at e1
      · cases e1; exact ho
      · cases e1
    · rw [List.getElem?_set_ne (Ne.symm hn)] at e1
      refine (R.obj n o' b e1 e2).at fun ob e => hs.extBut b ob ?_ e
      rintro rfl
      exact hn ((List.getElem?_inj (List.getElem?_eq_some_iff.mp e2).1 R.nodup).mp (e2.trans hk.symm))
  nodup := R.nodup
  locN := R.locN
  locρ := R.locρ
  celN := R.celN
  celI := R.celI
  objN := R.objN
end
end Mine

namespace Mine
open PySem PyProof.Rows

/-! ## plain facts: cuts, copies, orders -/
theorem sliceRange_one (a b : Nat) : sliceRange (a : Int) (b : Int) 1 = List.range' a (b - a) := by
  unfold sliceRange
  rw [List.range'_eq_map_range]
  simp only [show (1 : Int) > 0 by decide, if_true, Int.ediv_one]
  by_cases h : a < b
  · rw [if_pos (by omega), show ((b : Int) - a + 1 - 1).toNat = b - a by omega]
    refine List.map_congr_left fun k _ => ?_
    rw [Int.one_mul]; (clear h; omega)
  · rw [if_neg (by omega), show b - a = 0 by omega]; rfl
theorem pick_range {α : Type} (xs : List α) : ∀ (d a : Nat), a + d ≤ xs.length → (List.range' a d).filterMap (xs[·]?) = (xs.drop a).take d
  | 0, _, _ => by simp
  | d + 1, a, h => by
    have ha : a < xs.length := by omega
    rw [List.range'_succ, List.filterMap_cons, List.getElem?_eq_getElem ha, List.drop_eq_getElem_cons ha, List.take_succ_cons]
    simp only
    rw [pick_range xs d (a + 1) (by omega)]
theorem pick_eq {α : Type} (xs : List α) (a b : Nat) (hb : b ≤ xs.length) : (List.range' a (b - a)).filterMap (xs[·]?) = (xs.take b).drop a := by
  rw [List.drop_take]
  by_cases h : a ≤ b
  · exact pick_range xs (b - a) a (by omega)
  · rw [show b - a = 0 by (clear hb; omega)]; simp
theorem clip_eq (k : Int) (n : Nat) : max 0 (min (if k < 0 then k + n else k) n) = (clip k n : Int) := by
  unfold clip
  by_cases h : 0 ≤ k
  · rw [if_neg (by omega), if_pos h]; omega
  · rw [if_pos (by omega), if_neg h]; omega
theorem clip_le (k : Int) (n : Nat) : clip k n ≤ n := by
  unfold clip
  split <;> omega

noncomputable def lowB (l : Option Int) (n : Nat) : Nat := match l with | some k => clip k n | none => 0
noncomputable def highB (u : Option Int) (n : Nat) : Nat := match u with | some k => clip k n | none => n
theorem cutL_eq {α : Type} (l u : Option Int) (xs : List α) : cutL l u xs = (xs.take (highB u xs.length)).drop (lowB l xs.length) := by
  cases l <;> cases u <;> rfl
theorem highB_le (u : Option Int) (n : Nat) : highB u n ≤ n := by
  cases u with
  | none => exact Nat.le_refl _
  | some k => exact clip_le k n
theorem strSlice_eq (l u : Option Int) (n : Nat) : Builtin.Str.strSliceIndices l u 1 n = List.range' (lowB l n) (highB u n - lowB l n) := by
  rw [← sliceRange_one]
  unfold Builtin.Str.strSliceIndices
  cases l <;> cases u <;> simp only [show (1 : Int) > 0 by decide, if_true, lowB, highB, clip_eq] <;> rfl
theorem bounds_eq (l u : Option Int) (n : Nat) : sliceBounds l u none n = ((lowB l n : Int), (highB u n : Int), 1) := by
  unfold sliceBounds
  cases l <;> cases u <;> simp only [Option.getD_none, show (1 : Int) > 0 by decide, if_true, lowB, highB, clip_eq] <;> rfl
theorem slicePick_eq (items : Array Value) (l u : Option Int) : (slicePick items l u none).toList = cutL l u items.toList := by
  unfold slicePick
  rw [bounds_eq, cutL_eq]
  show List.filterMap (items[·]?) (sliceRange _ _ 1) = _
  rw [sliceRange_one]
  have h := pick_eq items.toList (lowB l items.size) (highB u items.size) (by simpa using highB_le u items.size)
  simpa using h
theorem cutL_length_le {α : Type} (l u : Option Int) (xs : List α) : (cutL l u xs).length ≤ xs.length := by
  rw [cutL_eq]; simp; omega
theorem slice_eq (x : List Nat) (l u : Option Int) : Txt.slice ⟨x.toArray⟩ l u = ⟨(cutL l u x).toArray⟩ := by
  have key : ((Builtin.Str.strSliceIndices l u 1 x.length).filterMap (x[·]?)) = cutL l u x := by
    rw [strSlice_eq, cutL_eq]
    exact pick_eq x _ _ (highB_le u _)
  unfold Txt.slice
  have hl : (⟨x.toArray⟩ : Str).length = x.length := by simp [Str.length]
  rw [hl]
  split
  · rename_i h
    have h2 : (Builtin.Str.strSliceIndices l u 1 x.length).length = x.length := by simpa using h
    rw [strSlice_eq, List.length_range'] at h2
    have h3 := highB_le u x.length
    have ha : highB u x.length = x.length := by (clear key hl h; omega)
    rw [cutL_eq, ha]
    by_cases h4 : x.length = 0
    · have : x = [] := List.eq_nil_of_length_eq_zero h4
      subst this; simp
    · rw [show lowB l x.length = 0 by omega]; simp
  · have : (List.filterMap (fun i => (⟨x.toArray⟩ : Str).cps[i]?) (Builtin.Str.strSliceIndices l u 1 x.length)) = cutL l u x := by
      rw [← key]; congr 1; funext i; simp
    rw [this]

theorem foldl_rep (c : Nat) : ∀ (n : Nat) (acc : Array Nat), (List.replicate n #[c]).foldl (· ++ ·) acc = acc ++ (List.replicate n c).toArray
  | 0, acc => by simp
  | n + 1, acc => by
    rw [List.replicate_succ, List.foldl_cons, foldl_rep c n, List.replicate_succ]
    apply Array.ext'; simp
theorem mul_eq (c : Nat) (n : Int) : Txt.mul ⟨[c].toArray⟩ n = ⟨(List.replicate n.toNat c).toArray⟩ := by
  unfold Txt.mul
  split
  · rw [show n.toNat = 0 by omega]; rfl
  · split
    · rename_i h
      have : n = 1 := by simpa [Str.length] using h
      subst this; rfl
    · rw [foldl_rep]; simp

theorem ltL_eq : ∀ (x y : List Nat), ltL x y = decide (x < y)
  | _, [] => by simp [ltL]
  | [], _ :: _ => by simp [ltL]
  | a :: x, b :: y => by
    rw [ltL, ltL_eq x y]
    have h := @List.cons_lt_cons_iff Nat _ a b x y
    by_cases h1 : a < b <;> by_cases h2 : a = b <;> simp [h, h1, h2]
end Mine

namespace Mine
open PySem PyProof.Rows

noncomputable def PE (h₀ : Heap) (C : Cx) (env : Env) (ρ : List Addr) (σ : AS) (s : Shared) (v : AV) (hp' : List AO) : Value → Shared → Prop :=
  fun V s' => ∃ ρ', VR (ρ ++ ρ') v V ∧ Rel h₀ C env (ρ ++ ρ') { σ with hp := hp' } s'.heap ∧ (∀ a ∈ ρ', s.heap.get? a = none) ∧ KA s s'

theorem vInt {ρ : List Addr} {i : Int} {t : Tok} : VR ρ (.int i) (.int i t) := ⟨t, rfl⟩
theorem vStr {ρ : List Addr} {x : List Nat} {t : Tok} : VR ρ (.str x) (.str ⟨x.toArray⟩ t) := ⟨t, rfl⟩
theorem vStr' {ρ : List Addr} {x : List Nat} {y : Str} {t : Tok} (h : y = ⟨x.toArray⟩) : VR ρ (.str x) (.str y t) := ⟨t, by rw [h]⟩
theorem vBool {ρ : List Addr} {b : Bool} : VR ρ (.bool b) (.bool b) := rfl
theorem vNone {ρ : List Addr} : VR ρ .none .none := rfl

/-- room enough -/
structure Room (A : Around) : Prop where
  handled : A.handled = none
  units : A.units + 100 < cLine

theorem textLine_le {n : Nat} (h : n ≤ textLine) : n ≤ sizeLine := by
  rw [sizeLine_eq]; unfold textLine at h; omega
theorem small_iff {i : Int} : small i = true ↔ -(2 ^ 62) < i ∧ i < 2 ^ 62 := by
  unfold small; rw [decide_eq_true_eq]; omega

section
variable {prog : Program} {w : World} {A : Around} {h₀ : Heap} {C : Cx} {env : Env} {ρ : List Addr} {σ : AS} {s : Shared} {E : Value → Shared → Prop} {hp : List AO} {v : AV} {V : Value}

theorem PE.heapK (R : Rel h₀ C env ρ { σ with hp := hp } s.heap) (hv : VR ρ v V) {h' : Heap} (t : Nat) (hk : ∀ b o, s.heap.get? b = some o → h'.get? b = some o) :
    PE h₀ C env ρ σ s v hp V { s with heap := h', toks := t } :=
  ⟨[], by simpa using hv, by simpa using R.keeps hk, by simp, KA.heap t hk⟩
theorem PE.toks (R : Rel h₀ C env ρ { σ with hp := hp } s.heap) (hv : VR ρ v V) (t : Nat) : PE h₀ C env ρ σ s v hp V { s with toks := t } :=
  ⟨[], by simpa using hv, by simpa using R, by simp, KA.toks t⟩
theorem PE.now (R : Rel h₀ C env ρ { σ with hp := hp } s.heap) (hv : VR ρ v V) : PE h₀ C env ρ σ s v hp V s :=
  ⟨[], by simpa using hv, by simpa using R, by simp, KA.refl⟩
/-- one new object -/
theorem PE.new (R : Rel h₀ C env ρ { σ with hp := hp } s.heap) {h' : Heap} (t : Nat) (a : Addr) (o : AO) (ha : s.heap.get? a = none) (hk : ∀ b o, s.heap.get? b = some o → h'.get? b = some o)
    (ho : OR (ρ ++ [a]) h' a o) : PE h₀ C env ρ σ s (.ref hp.length) (hp ++ [o]) (.ref a) { s with heap := h', toks := t } := by
  refine ⟨[a], ⟨a, ?_, rfl⟩, ?_, ?_, KA.heap t hk⟩
  · rw [List.getElem?_append_right (Nat.le_of_eq (R.len))]
    have : hp.length - ρ.length = 0 := by have := R.len; simp only at this; omega
    rw [this]; rfl
  · exact R.grow ha hk ho
  · intro b hb; rw [List.mem_singleton] at hb; rw [hb]; exact ha
theorem PE.newList (R : Rel h₀ C env ρ { σ with hp := hp } s.heap) {h' : Heap} (t : Nat) (a : Addr) (items : Array Value) (xs : List AV) (ha : s.heap.get? a = none) (hk : ∀ b o, s.heap.get? b = some o → h'.get? b = some o)
    (ho : h'.PlainList a items) (hx : Paired (VR ρ) xs items.toList) : PE h₀ C env ρ σ s (.ref hp.length) (hp ++ [.list xs]) (.ref a) { s with heap := h', toks := t } :=
  PE.new R t a (.list xs) ha hk ⟨items, ho, Paired.mono' (fun _ _ => VR.mono) hx⟩

theorem fresh_size (h : Heap) : h.get? h.objs.size = none := by
  cases e : h.get? h.objs.size with
  | none => rfl
  | some o => exact absurd (Heap.lt_size e) (Nat.lt_irrefl _)

theorem list_at (R : Rel h₀ C env ρ { σ with hp := hp } s.heap) {n : Nat} {xs : List AV} (hn : hp[n]? = some (.list xs)) (hv : VR ρ (.ref n) V) :
    ∃ a items, V = .ref a ∧ ρ[n]? = some a ∧ s.heap.PlainList a items ∧ Paired (VR ρ) xs items.toList := by
  obtain ⟨a, e, rfl⟩ := hv
  obtain ⟨items, h1, h2⟩ := R.obj n _ a hn e
  exact ⟨a, items, rfl, e, h1, h2⟩
theorem tup_at (R : Rel h₀ C env ρ { σ with hp := hp } s.heap) {n : Nat} {xs : List AV} (hn : hp[n]? = some (.tup xs)) (hv : VR ρ (.ref n) V) :
    ∃ a items, V = .ref a ∧ ρ[n]? = some a ∧ PlainTup s.heap a items ∧ Paired (VR ρ) xs items.toList := by
  obtain ⟨a, e, rfl⟩ := hv
  obtain ⟨items, h1, h2⟩ := R.obj n _ a hn e
  exact ⟨a, items, rfl, e, h1, h2⟩
theorem paired_len {xs : List AV} {items : Array Value} {ρ : List Addr} (h : Paired (VR ρ) xs items.toList) : items.size = xs.length := by
  have := h.length; simpa using this.symm

theorem bits_small {a : Int} (h : small a = true) : Builtin.Int.intBits a ≤ 64 := by
  rw [small_iff] at h
  exact intBits_le_64 (by omega) (by omega)

theorem bin_add {a b : AV} {Va Vb : Value} {hp' : List AO} (h : evBin .Add a b hp = some (v, hp')) (ha : VR ρ a Va) (hb : VR ρ b Vb)
    (R : Rel h₀ C env ρ { σ with hp := hp } s.heap) : wpAny (model prog w) A (binaryOp .Add Va Vb) (PE h₀ C env ρ σ s v hp') E s := by
  cases a with
  | none => cases h
  | bool p => cases h
  | int a =>
    cases b with
    | int b =>
      obtain ⟨t, rfl⟩ := ha; obtain ⟨u, rfl⟩ := hb; cases h
      exact PyProof.Rows.add_int (PE.toks R vInt _)
    | _ => exact no1 h
  | str x =>
    cases b with
    | str y =>
      obtain ⟨t, rfl⟩ := ha; obtain ⟨u, rfl⟩ := hb
      change (if decide (x.length + y.length ≤ textLine) then some (AV.str (x ++ y), hp) else none) = _ at h
      split at h
      · rename_i hs; cases h
        rw [decide_eq_true_eq] at hs
        refine PyProof.Rows.add_str (fun t' tk => PE.toks R (vStr' ?_) _) (by simpa [Str.length] using textLine_le hs)
        show (⟨x.toArray ++ y.toArray⟩ : Str) = _
        simp
      · cases h
    | _ => exact no1 h
  | ref i =>
    cases b with
    | ref j =>
      change (match hp[i]? with
        | some (.list xs) => (match hp[j]? with
          | some (.list ys) => if decide (xs.length + ys.length ≤ textLine) then some (AV.ref hp.length, hp ++ [AO.list (xs ++ ys)]) else none
          | _ => none)
        | _ => none) = some (v, hp') at h
      cases hi : hp[i]? with
      | none => rw [hi] at h; cases h
      | some o =>
      cases o with
      | tup _ => rw [hi] at h; cases h
      | list xs =>
      cases hj : hp[j]? with
      | none => rw [hi, hj] at h; cases h
      | some o' =>
      cases o' with
      | tup _ => rw [hi, hj] at h; cases h
      | list ys =>
      rw [hi, hj] at h
      simp only at h
      split at h
      · rename_i hs; cases h
        rw [decide_eq_true_eq] at hs
        obtain ⟨l, its, rfl, _, ⟨n1, ho⟩, hx⟩ := list_at R hi ha
        obtain ⟨l', its', rfl, _, ⟨n2, ho2⟩, hy⟩ := list_at R hj hb
        have hsz : its.size + its'.size ≤ sizeLine := by rw [paired_len hx, paired_len hy]; exact textLine_le hs
        refine concat_meets ⟨_, ho, rfl⟩ ⟨_, ho2, rfl⟩ noFill_list_add seq_list_add PySem.F.slot_list_add PySem.F.entry_list_add (PySem.F.args_list_add_2 _ _) (list_addW l l' its its' n1 n2 none none #[] #[] hsz) ⟨ho, ho2, ?_⟩
        refine PE.newList R _ _ (its ++ its') _ (fresh_size _) (fun b o e => Heap.get?_push_of_some _ e) ⟨_, Heap.get?_push_size _ rfl⟩ ?_
        rw [Array.toList_append]; exact Paired.append hx hy
      · cases h
    | _ => exact no1 h

theorem bin_mult {a b : AV} {Va Vb : Value} {hp' : List AO} (h : evBin .Mult a b hp = some (v, hp')) (ha : VR ρ a Va) (hb : VR ρ b Vb)
    (R : Rel h₀ C env ρ { σ with hp := hp } s.heap) : wpAny (model prog w) A (binaryOp .Mult Va Vb) (PE h₀ C env ρ σ s v hp') E s := by
  cases a with
  | none => cases h
  | bool p => cases h
  | ref i => cases h
  | int a =>
    cases b with
    | int b =>
      obtain ⟨t, rfl⟩ := ha; obtain ⟨u, rfl⟩ := hb
      change (if small a && small b then some (AV.int (a * b), hp) else none) = _ at h
      split at h
      · rename_i hs; cases h
        exact PyProof.Rows.mul_int (PE.toks R vInt _) (IntMulOk.of_left (bits_small (Bool.and_eq_true_iff.mp hs).1))
      · cases h
    | _ => exact no1 h
  | str x =>
    cases b with
    | int n =>
      obtain ⟨t, rfl⟩ := ha; obtain ⟨u, rfl⟩ := hb
      change (if decide (x.length = 1) && (decide (n ≤ 1000000) && small n) then some (AV.str (List.replicate n.toNat (x.headD 0)), hp) else none) = _ at h
      split at h
      · rename_i hs; cases h
        rw [Bool.and_eq_true_iff, Bool.and_eq_true_iff, decide_eq_true_eq, decide_eq_true_eq, small_iff] at hs
        obtain ⟨h1, h2, h3⟩ := hs
        match x, h1 with
        | [c], _ =>
          refine SB.mul ⟨?_, ?_, ?_⟩ (fun t' k => PE.toks R (vStr' ?_) _)
          · rw [decide_eq_false (by (clear R h1 h2; omega)), decide_eq_false (by (clear R h1 h3; omega))]; rfl
          · intro hn _
            show ¬ ((1 : Int) > (2 ^ 63 - 1) / n)
            have : (1 : Int) ≤ (2 ^ 63 - 1) / n := Int.le_ediv_of_mul_le (by (clear R h1 h3 h2; omega)) (by (clear R h1 hn h3; omega))
            (clear R h1 h2 h3 hn; omega)
          · intro hn _
            show Builtin.Str.tooLong (1 * n.toNat) = false
            unfold Builtin.Str.tooLong
            rw [sizeLine_eq]
            exact decide_eq_false (by (clear R h1 hn h3; omega))
          · exact mul_eq c n
      · cases h
    | _ => exact no1 h

theorem bin_sound {op : Operator} {a b : AV} {Va Vb : Value} {hp' : List AO} (h : evBin op a b hp = some (v, hp')) (ha : VR ρ a Va) (hb : VR ρ b Vb)
    (R : Rel h₀ C env ρ { σ with hp := hp } s.heap) : wpAny (model prog w) A (binaryOp op Va Vb) (PE h₀ C env ρ σ s v hp') E s := by
  have ii : ∀ {X : Option (AV × List AO)}, X = some (v, hp') → ∀ f : Int → Int → Option (AV × List AO), X = (match (generalizing := false) a with | .int i => (match (generalizing := false) b with | .int j => f i j | _ => none) | _ => none) → ∃ i j t u, a = .int i ∧ b = .int j ∧ Va = .int i t ∧ Vb = .int j u ∧ f i j = some (v, hp') := by
    intro X hX f e
    rw [e] at hX
    cases a with
    | int i =>
      cases b with
      | int j =>
        obtain ⟨t, rfl⟩ := ha; obtain ⟨u, rfl⟩ := hb
        exact ⟨i, j, t, u, rfl, rfl, rfl, rfl, hX⟩
      | _ => cases hX
    | _ => cases hX
  cases op with
  | Add => exact bin_add h ha hb R
  | Mult => exact bin_mult h ha hb R
  | Sub =>
    cases a with
    | int a =>
      cases b with
      | int b =>
        obtain ⟨t, rfl⟩ := ha; obtain ⟨u, rfl⟩ := hb; cases h
        exact PyProof.Rows.sub_int' (PE.toks R vInt _)
      | _ => exact no1 h
    | bool p =>
      cases b with
      | bool q =>
        cases ha; cases hb; cases h
        exact PyProof.Rows.sub_bool (PE.toks R vInt _)
      | _ => exact no1 h
    | _ => exact no1 h
  | FloorDiv =>
    obtain ⟨a, b, t, u, rfl, rfl, rfl, rfl, h⟩ := ii h _ rfl
    split at h
    · rename_i hs; cases h
      rw [Bool.and_eq_true_iff, decide_eq_true_eq, decide_eq_true_eq] at hs
      exact PyProof.Rows.floordiv_int hs.2 (PE.toks R vInt _) (Or.inl (PyProof.noPylong_small hs.1))
    · cases h
  | Mod =>
    obtain ⟨a, b, t, u, rfl, rfl, rfl, rfl, h⟩ := ii h _ rfl
    split at h
    · rename_i hs; cases h
      rw [decide_eq_true_eq] at hs
      exact PyProof.Rows.mod_int' hs (PE.toks R vInt _)
    · cases h
  | Pow =>
    obtain ⟨a, b, t, u, rfl, rfl, rfl, rfl, h⟩ := ii h _ rfl
    split at h
    · rename_i hs; cases h
      rw [Bool.and_eq_true_iff, decide_eq_true_eq, decide_eq_true_eq] at hs
      obtain ⟨rfl, rfl⟩ := hs
      exact PyProof.Rows.pow_int (by decide) (by decide +kernel) (PE.toks R vInt _)
    · cases h
  | _ => exact no1 h

theorem ints_of : ∀ {xs : List AV} {ns : List Int} {vs : List Value}, allInts xs = some ns → Paired (VR ρ) xs vs → IntsAre vs ns
  | [], _, _, h, .nil => by cases h; exact .nil
  | .int i :: r, _, _, h, .cons hv hr => by
    rw [allInts] at h
    obtain ⟨ms, h1, rfl⟩ := Option.map_eq_some_iff.mp h
    obtain ⟨t, rfl⟩ := hv
    exact .cons i t (ints_of h1 hr)
  | .none :: _, _, _, h, _ => by cases h
  | .bool _ :: _, _, _, h, _ => by cases h
  | .str _ :: _, _, _, h, _ => by cases h
  | .ref _ :: _, _, _, h, _ => by cases h

noncomputable def isI (k : Int) : Value → Bool
  | .int i _ => i == k
  | _ => false
theorem any_ints (k : Int) : ∀ {vs : List Value} {ns : List Int}, IntsAre vs ns → vs.any (isI k) = ns.contains k
  | _, _, .nil => rfl
  | _, _, .cons n t r => by
    rw [List.any_cons, any_ints k r, List.contains_cons]
    show ((n == k) || _) = _
    rw [show (n == k) = (k == n) from by rw [Bool.eq_iff_iff, beq_iff_eq, beq_iff_eq, eq_comm]]
theorem mem_ints {k : Int} : ∀ {vs : List Value} {ns : List Int}, IntsAre vs ns → ∀ y ∈ vs, ∃ n t, y = .int n t
  | _, _, .nil, _, h => nomatch h
  | _, _, .cons n t r, y, h => by
    rcases List.mem_cons.mp h with rfl | h
    · exact ⟨n, t, rfl⟩
    · exact mem_ints (k := k) r y h

theorem int_bne (a b : Int) : (a != b) = decide (a ≠ b) := by rw [Bool.eq_iff_iff]; simp
theorem list_beq (a b : List Nat) : (a == b) = decide (a = b) := by rw [Bool.eq_iff_iff]; simp
theorem list_bne (a b : List Nat) : (a != b) = decide (a ≠ b) := by rw [Bool.eq_iff_iff]; simp

theorem reads_ints {h : Heap} : ∀ {vs : List Value} {ns : List Int}, IntsAre vs ns → ReadsAll h vs (ns.map PyData.int) []
  | _, _, .nil => .nil
  | _, _, .cons n t r => .cons (as := []) (bs := []) (.int n t) (reads_ints r)
theorem lay_ints : ∀ ns : List Int, PyData.canLayAll0 (ns.map PyData.int) = true
  | [] => rfl
  | n :: r => by rw [List.map_cons, PyData.canLayAll0, lay_ints r]; rfl
theorem depth_ints : ∀ ns : List Int, PyData.depthAll (ns.map PyData.int) = 0
  | [] => rfl
  | n :: r => by rw [List.map_cons, PyData.depthAll, depth_ints r]; rfl
theorem eqv_ints : ∀ ns ms : List Int, PyData.eqvAll (ns.map PyData.int) (ms.map PyData.int) = decide (ns = ms)
  | [], [] => rfl
  | [], _ :: _ => rfl
  | _ :: _, [] => rfl
  | n :: r, m :: q => by
    rw [List.map_cons, List.map_cons, PyData.eqvAll, eqv_ints r q]
    by_cases h : n = m
    · subst h; simp [PyData.eqv]
    · simp [PyData.eqv, h]

/-- a pair of a bool and a list of ints, read -/
theorem reads_pair (R : Rel h₀ C env ρ { σ with hp := hp } s.heap) {i : Nat} {p : Bool × List Int} (hi : pairAt hp i = some p)
    (ha : VR ρ (.ref i) V) : ∃ as, Reads s.heap V (.tuple [.bool p.1, .list (p.2.map PyData.int)]) as := by
  unfold pairAt at hi
  cases h1 : hp[i]? with
  | none => rw [h1] at hi; cases hi
  | some o =>
  rw [h1] at hi
  cases o with
  | list _ => cases hi
  | tup xs =>
  cases xs with
  | nil => cases hi
  | cons x xs =>
  cases xs with
  | nil => cases hi
  | cons y xs =>
  cases xs with
  | cons _ _ => cases hi
  | nil =>
  cases x with
  | bool a =>
   cases y with
   | ref k =>
    simp only at hi
    cases h2 : hp[k]? with
    | none => rw [h2] at hi; cases hi
    | some o' =>
    rw [h2] at hi
    cases o' with
    | tup _ => cases hi
    | list zs =>
    simp only at hi
    obtain ⟨ms, h3, rfl⟩ := Option.map_eq_some_iff.mp hi
    obtain ⟨ta, ia, rfl, _, ⟨na, hoa⟩, hxa⟩ := tup_at R h1 ha
    generalize hl : ia.toList = il at hxa
    cases hxa with
    | cons v1 r1 => cases r1 with
      | cons v2 r2 =>
        cases r2
        cases v1
        obtain ⟨a', its, rfl, _, ho, hx⟩ := list_at R h2 v2
        obtain ⟨n, ho⟩ := ho
        have hi' := ints_of h3 hx
        exact ⟨_, reads_tuple_at hoa rfl rfl (by rw [hl]; exact .cons (.bool a) (.cons (reads_list_at ho rfl rfl (reads_ints hi')) .nil))⟩
   | _ => cases hi
  | _ => cases hi

theorem isb_inv {f : Int → Int → Bool} {g : List Nat → List Nat → Bool} {a b : AV} {Va Vb : Value} {r : Bool} (h : isb f g a b = some r) (ha : VR ρ a Va) (hb : VR ρ b Vb) :
    (∃ i j t u, Va = .int i t ∧ Vb = .int j u ∧ r = f i j) ∨ ∃ x y t u, Va = .str ⟨x.toArray⟩ t ∧ Vb = .str ⟨y.toArray⟩ u ∧ r = g x y := by
  cases a with
  | int i =>
    cases b with
    | int j => obtain ⟨t, rfl⟩ := ha; obtain ⟨u, rfl⟩ := hb; cases h; exact .inl ⟨i, j, t, u, rfl, rfl, rfl⟩
    | _ => exact no1 h
  | str x =>
    cases b with
    | str y => obtain ⟨t, rfl⟩ := ha; obtain ⟨u, rfl⟩ := hb; cases h; exact .inr ⟨x, y, t, u, rfl, rfl, rfl⟩
    | _ => exact no1 h
  | _ => exact no1 h
theorem iib_inv {f : Int → Int → Bool} {a b : AV} {Va Vb : Value} {r : Bool} (h : iib f a b = some r) (ha : VR ρ a Va) (hb : VR ρ b Vb) : ∃ i j t u, Va = .int i t ∧ Vb = .int j u ∧ r = f i j := by
  cases a with
  | int i =>
    cases b with
    | int j => obtain ⟨t, rfl⟩ := ha; obtain ⟨u, rfl⟩ := hb; cases h; exact ⟨i, j, t, u, rfl, rfl, rfl⟩
    | _ => exact no1 h
  | _ => exact no1 h
theorem inList_inv {a b : AV} {Va Vb : Value} {r : Bool} (h : inList a b hp = some r) (ha : VR ρ a Va) (hb : VR ρ b Vb) (R : Rel h₀ C env ρ { σ with hp := hp } s.heap) :
    ∃ i t l its n ns, Va = .int i t ∧ Vb = .ref l ∧ s.heap.get? l = some { cls := .type "list", data := .seq its n } ∧ IntsAre its.toList ns ∧ r = ns.contains i := by
  cases a with
  | int i =>
    cases b with
    | ref n =>
      change (match hp[n]? with
      | some (.list xs) => (allInts xs).map fun ys : List Int => ys.contains i
      | _ => none) = some r at h
      cases hn : hp[n]? with
      | none => rw [hn] at h; cases h
      | some o =>
      rw [hn] at h
      cases o with
      | tup _ => cases h
      | list xs =>
      simp only at h
      obtain ⟨ns, h1, rfl⟩ := Option.map_eq_some_iff.mp h
      obtain ⟨t, rfl⟩ := ha
      obtain ⟨l, its, rfl, _, ⟨n1, ho⟩, hx⟩ := list_at R hn hb
      exact ⟨i, t, l, its, n1, ns, rfl, rfl, ho, ints_of h1 hx, rfl⟩
    | _ => exact no1 h
  | _ => exact no1 h

theorem cmp_sound {op : CmpOp} {a b : AV} {Va Vb : Value} {r : Bool} {Q : Value → Shared → Prop} (hr : Room A) (h : evCmp op a b hp = some r) (ha : VR ρ a Va) (hb : VR ρ b Vb)
    (R : Rel h₀ C env ρ { σ with hp := hp } s.heap) (hQ : Q (.bool r) s) : wpAny (model prog w) A (compareOp op Va Vb) Q E s := by
  cases op with
  | Eq =>
    rcases isb_inv h ha hb with ⟨i, j, t, u, rfl, rfl, rfl⟩ | ⟨x, y, t, u, rfl, rfl, rfl⟩
    · exact P.eq_int hQ
    · exact P.eq_str (by rw [list_beq]; exact hQ)
  | NotEq =>
    change (if isRef a then nePairs a b hp else isb (fun a b => decide (a ≠ b)) (fun x y => decide (x ≠ y)) a b) = _ at h
    split at h
    · cases a with
      | ref i =>
        cases b with
        | ref j =>
          obtain ⟨p, h1, h⟩ := Option.bind_eq_some_iff.mp h
          obtain ⟨q, h2, rfl⟩ := Option.map_eq_some_iff.mp h
          obtain ⟨as, ra⟩ := reads_pair R h1 ha
          obtain ⟨bs, rb⟩ := reads_pair R h2 hb
          have hsh : ∀ (x : Bool) (ns : List Int), SeqAt.shaped (.tuple [.bool x, .list (ns.map PyData.int)]) = true := fun x ns => by
            simp [SeqAt.shaped, PyData.canLay0, PyData.canLayAll0, PyData.depth, PyData.depthAll, lay_ints, depth_ints]
          refine ne_dataH ra rb (hsh _ _) (hsh _ _) (by have := hr.units; omega) ?_
          have e : PyData.eqv (.tuple [.bool p.1, .list (p.2.map PyData.int)]) (.tuple [.bool q.1, .list (q.2.map PyData.int)]) = (decide (p.1 = q.1) && decide (p.2 = q.2)) := by
            simp only [PyData.eqv, PyData.eqvAll, eqv_ints, Bool.and_true]
            cases p.1 <;> cases q.1 <;> rfl
          rw [e]; exact hQ
        | _ => exact no1 h
      | _ => rename_i hh; cases hh
    · rcases isb_inv h ha hb with ⟨i, j, t, u, rfl, rfl, rfl⟩ | ⟨x, y, t, u, rfl, rfl, rfl⟩
      · exact P.ne_int (by rw [int_bne]; exact hQ)
      · exact P.ne_str (by rw [list_bne]; exact hQ)
  | Lt =>
    rcases isb_inv h ha hb with ⟨i, j, t, u, rfl, rfl, rfl⟩ | ⟨x, y, t, u, rfl, rfl, rfl⟩
    · exact P.lt_int hQ
    · rw [ltL_eq] at hQ; exact P.lt_str hQ
  | LtE => obtain ⟨i, j, t, u, rfl, rfl, rfl⟩ := iib_inv h ha hb; exact P.le_int hQ
  | Gt =>
    rcases isb_inv h ha hb with ⟨i, j, t, u, rfl, rfl, rfl⟩ | ⟨x, y, t, u, rfl, rfl, rfl⟩
    · exact P.gt_int hQ
    · rw [ltL_eq] at hQ; exact P.gt_str hQ
  | GtE => obtain ⟨i, j, t, u, rfl, rfl, rfl⟩ := iib_inv h ha hb; exact P.ge_int hQ
  | Is =>
    cases a with
    | bool p =>
      cases b with
      | bool q => cases ha; cases hb; cases h; refine wpAny_is_plain rfl ?_; cases p <;> cases q <;> exact hQ
      | _ => exact no1 h
    | none =>
      cases b with
      | none => cases ha; cases hb; cases h; exact wpAny_is_plain rfl hQ
      | _ => exact no1 h
    | int i =>
      cases b with
      | none => obtain ⟨t, rfl⟩ := ha; cases hb; cases h; exact wpAny_is_plain rfl hQ
      | _ => exact no1 h
    | _ => exact no1 h
  | IsNot =>
    cases a with
    | bool p =>
      cases b with
      | bool q => cases ha; cases hb; cases h; refine wpAny_isNot_plain rfl ?_; cases p <;> cases q <;> exact hQ
      | _ => exact no1 h
    | _ => exact no1 h
  | In =>
    obtain ⟨i, t, l, its, n, ns, rfl, rfl, ho, hi, rfl⟩ := inList_inv h ha hb R
    refine SeqRoads2.in_list (isI i) (fun y hy => ?_) ho ?_
    · obtain ⟨m, u, rfl⟩ := mem_ints (k := i) hi y (by simpa using hy)
      exact MeetsSeq.EqGives.int m i u t
    · rw [← Array.any_toList, any_ints i hi]; exact hQ
  | NotIn =>
    change (if isRef b then (inList a b hp).map (!·) else notInStr a b) = _ at h
    split at h
    · obtain ⟨r', h', rfl⟩ := Option.map_eq_some_iff.mp h
      obtain ⟨i, t, l, its, n, ns, rfl, rfl, ho, hi, rfl⟩ := inList_inv h' ha hb R
      refine SeqRoads2.notIn_list (isI i) (fun y hy => ?_) ho ?_
      · obtain ⟨m, u, rfl⟩ := mem_ints (k := i) hi y (by simpa using hy)
        exact MeetsSeq.EqGives.int m i u t
      · rw [← Array.any_toList, any_ints i hi]; exact hQ
    · cases a with
      | str x =>
        match x, h with
        | [c], h =>
          cases b with
          | str y =>
            obtain ⟨t, rfl⟩ := ha; obtain ⟨u, rfl⟩ := hb; cases h
            refine P.notIn_str ?_
            rw [show (⟨[c].toArray⟩ : Str) = ⟨#[c]⟩ from rfl, StrLaws.found_one]
            simpa [List.contains_iff_mem, List.contains_eq_mem] using hQ
          | _ => exact no1 h
      | _ => exact no1 h
end
end Mine

namespace Mine
open PySem PyProof.Rows

section
variable {prog : Program} {w : World} {A : Around} {h₀ : Heap} {C : Cx} {env : Env} {ρ : List Addr} {σ : AS} {s : Shared} {E : Value → Shared → Prop} {hp : List AO} {v : AV} {V : Value}

theorem un_sound {op : UnaryOp} {a : AV} {Va : Value} (h : evUn op a = some v) (ha : VR ρ a Va) (R : Rel h₀ C env ρ { σ with hp := hp } s.heap) :
    wpAny (model prog w) A (unaryOp op Va) (PE h₀ C env ρ σ s v hp) E s := by
  unfold evUn at h
  split at h
  · obtain ⟨t, rfl⟩ := ha; cases h
    exact P.neg_int (PE.toks R vInt _)
  · cases ha; cases h
    exact not_of (wpAny_truthy_bool (PE.now R vBool))
  · cases h

theorem sub_tail {value slice : Expr} {o i : Value} {T id : String} {Q : Value → Shared → Prop} (hT : s.TypeIs o T)
    (hl : typeLookup (.type T) "__getitem__" = pure (some (.builtin id))) (h : wpAny (model prog w) A (getItem o i) Q E s) :
    wpAny (model prog w) A (subscriptTail value slice o i) Q E s := by
  unfold subscriptTail
  refine wpAny_bind ?_
  rw [getitemInPython_of_ne hT.not_modules]
  refine wpAny_bind (wpAny_specialOf hT hl ?_)
  have hg : wpAny (model prog w) A (getItem o i) (fun r s₃ => wpAny (model prog w) A (letTemporaryGo value o r >>= fun _ => pure r) Q E s₃) E s :=
    wpAny_mono h (fun r s₃ h₃ => wpAny_bind (wpAny_letTemporaryGo (wpAny_pure h₃))) fun _ _ x => x
  have fin : wpAny (model prog w) A (subscripted slice false o i) (fun r s₃ => wpAny (model prog w) A (letTemporaryGo value o r >>= fun _ => pure r) Q E s₃) E s := by
    unfold subscripted
    split
    · exact wpAny_operating hg
    · rename_i hc; cases hc
    · exact wpAny_operating hg
  first
    | exact wpAny_pure (wpAny_bind fin)
    | exact wpAny_bind (wpAny_pure (wpAny_bind fin))
    | exact wpAny_bind fin

theorem place_spec {k : Int} {n j : Nat} (h : place k n = some j) : (0 ≤ k ∧ k < n ∧ j = k.toNat) ∨ (k < 0 ∧ -(n : Int) ≤ k ∧ j = (k + n).toNat) := by
  unfold place at h
  split at h
  · split at h
    · cases h; omega
    · cases h
  · split at h
    · cases h; omega
    · cases h

/-- an item of a list -/
theorem getItem_sound {n : Nat} {k : Int} {t : Tok} {j : Nat} {xs : List AV} {Q : Value → Shared → Prop} (hn : hp[n]? = some (.list xs)) (hk : small k = true) (hj : place k xs.length = some j) (hx : xs[j]? = some v)
    (ha : VR ρ (.ref n) V) (R : Rel h₀ C env ρ { σ with hp := hp } s.heap) (hQ : ∀ W, VR ρ v W → Q W s) : wpAny (model prog w) A (getItem V (.int k t)) Q E s := by
  obtain ⟨l, its, rfl, _, ho, hp⟩ := list_at R hn ha
  rw [small_iff] at hk
  obtain ⟨W, h1, h2⟩ := Paired.get hp hx
  have h1' : its[j]? = some W := by simpa using h1
  rcases place_spec hj with ⟨h0, h3, rfl⟩ | ⟨h0, h3, rfl⟩
  · exact wpAny_getItem_list ho.isList h0 (by (clear hn R hQ ha ho hp h2 h3 hj hx h1 h1' h0; omega)) h1' (hQ W h2)
  · have e := paired_len hp
    exact wpAny_getItem_list_neg ho.isList h0 (by rw [e]; exact h3) (by (clear hn R hQ ha ho hp h2 h3 hj hx h1 h1' e h0; omega)) (by rw [e]; exact h1') (hQ W h2)

theorem item_sound {value slice : Expr} {o i : AV} {Vo Vi : Value} (h : evItem o i hp = some v) (ho : VR ρ o Vo) (hi : VR ρ i Vi) (R : Rel h₀ C env ρ { σ with hp := hp } s.heap) :
    wpAny (model prog w) A (subscriptTail value slice Vo Vi) (PE h₀ C env ρ σ s v hp) E s := by
  unfold evItem at h
  split at h
  · rename_i n k
    obtain ⟨u, rfl⟩ := hi
    split at h
    · rename_i xs hn
      split at h
      · rename_i hs
        obtain ⟨j, h1, h2⟩ := Option.bind_eq_some_iff.mp h
        obtain ⟨l, its, rfl, _, hl, _⟩ := list_at R hn ho
        exact sub_tail hl.isList.typeIs slot_list_getitem.lookup (getItem_sound hn hs h1 h2 ho R fun W hW => PE.now R hW)
      · cases h
    · rename_i xs hn
      split at h
      · rename_i hs
        rw [Bool.and_eq_true_iff, decide_eq_true_eq, small_iff] at hs
        obtain ⟨a, its, rfl, _, ⟨m, hl⟩, hp⟩ := tup_at R hn ho
        obtain ⟨W, h1, h2⟩ := Paired.get hp h
        have hT : IsTup s.heap a its := ⟨_, hl, rfl, m, rfl⟩
        have hlen : k.toNat < its.size := by
          have : its[k.toNat]? = some W := by simpa using h1
          exact (Array.getElem?_eq_some_iff.mp this).1
        exact sub_tail hT.typeIs slot_tuple_getitem.lookup (PyProof.Rows.getItem_tuple hT (by omega) (by omega) (seqIndex_of hs.2 (by (clear R hn h ho hp hl h1 h2 hT hs; omega))) (by simpa using h1) (PE.now R h2))
      · cases h
    · cases h
  · cases h

/-- a bound of a slice -/
noncomputable def BR : Option Int → Value → Prop
  | none, V => V = .none
  | some i, V => ∃ t, V = .int i t
theorem BR.part {l : Option Int} (h : BR l V) : IsPart V l := by
  cases l with
  | none => cases h; exact .none
  | some i => obtain ⟨t, rfl⟩ := h; exact .int i t
theorem BR.pv {l : Option Int} (h : BR l V) : ∃ p : Option (Int × Tok), V = partValue p ∧ p.map (·.1) = l := by
  cases l with
  | none => cases h; exact ⟨none, rfl, rfl⟩
  | some i => obtain ⟨t, rfl⟩ := h; exact ⟨some (i, t), rfl, rfl⟩

theorem made_post {m : Made} {x : Str} {Q : Value → Shared → Prop} (h1 : m = .val V ∨ m = .str x) (hv : m = .val V → Q V s) (hs : m = .str x → x.length ≤ sizeLine ∧ Q (.str x s.toks) { s with toks := s.toks + 1 }) : m.post Q s := by
  rcases h1 with rfl | rfl
  · exact hv rfl
  · exact hs rfl

theorem cut_sound {value slice : Expr} {o : AV} {l u : Option Int} {Vo Vl Vu : Value} {hp' : List AO} (h : evCut o l u hp = some (v, hp')) (ho : VR ρ o Vo) (hl : BR l Vl) (hu : BR u Vu) (R : Rel h₀ C env ρ { σ with hp := hp } s.heap) :
    wpAny (model prog w) A (subscriptTail value slice Vo (.ref s.heap.objs.size)) (PE h₀ C env ρ σ s v hp') E { s with heap := s.heap.push { cls := .type "slice", data := .fields #[Vl, Vu, .none] } } := by
  unfold evCut at h
  have hk : ∀ b o, s.heap.get? b = some o → (s.heap.push { cls := .type "slice", data := .fields #[Vl, Vu, .none] }).get? b = some o := fun b o e => Heap.get?_push_of_some _ e
  split at h
  · rename_i x
    split at h
    case isFalse => cases h
    rename_i hz
    rw [decide_eq_true_eq] at hz
    obtain ⟨t, rfl⟩ := ho; cases h
    obtain ⟨pl, rfl, rfl⟩ := hl.pv
    obtain ⟨pu, rfl, rfl⟩ := hu.pv
    refine sub_tail (typeIs_str _ _ _) F.slot_str_getitem.lookup ?_
    refine wpAny_getItem_str_slice (l := pl) (u := pu) (st := none) ⟨_, Heap.get?_push_size _ rfl, rfl, rfl⟩ rfl ?_
    refine post_val_or_str ⟨?_, fun t' k => ?_⟩
    · exact Nat.le_trans (Txt.slice_le _ _ _) (by simpa [Str.length] using textLine_le hz)
    · exact PE.heapK R (vStr' (slice_eq x _ _)) k hk
  · rename_i n
    split at h
    · rename_i xs hn
      split at h
      case isFalse => cases h
      rename_i hz
      rw [decide_eq_true_eq] at hz
      cases h
      obtain ⟨a, its, rfl, _, hpl, hx⟩ := list_at R hn ho
      have hl' : (s.heap.push { cls := .type "slice", data := .fields #[Vl, Vu, .none] }).IsList a its := (hpl.isList).push _
      refine sub_tail (Heap.IsList.typeIs (s := { s with heap := _ }) hl') slot_list_getitem.lookup ?_
      refine wpAny_getItem_list_slice hl' (Heap.IsSliceOf.new _ _ _ _) hl.part hu.part .none (by simp) ?_ (by rw [paired_len hx]; exact textLine_le hz)
      refine PE.newList R s.toks _ (slicePick its l u none) _ ?_ (fun b o e => Heap.get?_push_of_some _ (hk b o e)) ⟨_, Heap.get?_push_size _ rfl⟩ ?_
      · cases e : s.heap.get? (s.heap.push { cls := .type "slice", data := .fields #[Vl, Vu, .none] }).objs.size with
        | none => rfl
        | some o => exact absurd (Heap.lt_size (hk _ _ e)) (Nat.lt_irrefl _)
      · rw [slicePick_eq, cutL_eq, cutL_eq, show its.toList.length = xs.length from hx.length.symm]
        exact Paired.drop' _ (Paired.take' _ hx)
    · cases h
  · cases h
end
end Mine

namespace Mine
open PySem PyProof.Rows PySem.Calls

/-! ## the globals; calls -/
structure Tp (mg mb : Str → Option Value) (h : Heap) : Prop where
  g : h.Ns mainGlobals mg
  b : h.Ns builtinsNs mb
  nolimit : h.NoLimit
  fn : ∀ f d, defs.lookup f = some d → ∃ a o pm cd doc, mg f = some (.ref a) ∧ h.get? a = some o ∧ o.data = .func (docDef f d.1 d.2.1 d.2.2 pm cd doc) ∧ h.CodeRec cd f
  cmax : ∃ t, mg "CHAR_MAX" = some (.int 127 t)
  bi : ∀ x ∈ (["len", "sum", "chr", "range", "enumerate", "zip", "list"] : List Str), mg x = none ∧ mb x = bootBuiltins x

theorem Tp.keeps {mg mb : Str → Option Value} {h h' : Heap} (T : Tp mg mb h) (hk : ∀ b o, h.get? b = some o → h'.get? b = some o) : Tp mg mb h' :=
  ⟨T.g.keeps hk, T.b.keeps hk, T.nolimit.keeps hk, fun f d e => let ⟨a, o, pm, cd, doc, h1, h2, h3, h4⟩ := T.fn f d e; ⟨a, o, pm, cd, doc, h1, hk _ _ h2, h3, h4.keeps hk⟩, T.cmax, T.bi⟩

/-- arguments, told deep -/
noncomputable def DAR (h : Heap) : DA → Value → Prop
  | .val v, V => v.isVal = true ∧ VR [] v V
  | .lst xs, V => xs.all AV.isVal = true ∧ ∃ a items, V = .ref a ∧ h.PlainList a items ∧ Paired (VR []) xs items.toList
/-- a result, told deep; what it is made of is new -/
noncomputable def DRR (s : Shared) (h' : Heap) : DR → Value → Prop
  | .val v, V => v.isVal = true ∧ VR [] v V
  | .lst xs, V => xs.all AV.isVal = true ∧ ∃ a items, V = .ref a ∧ s.heap.get? a = none ∧ h'.PlainList a items ∧ Paired (VR []) xs items.toList
  | .pair v xs, V => v.isVal = true ∧ xs.all AV.isVal = true ∧ ∃ t a W items, V = .ref t ∧ t ≠ a ∧ s.heap.get? t = none ∧ s.heap.get? a = none ∧ VR [] v W ∧ h'.PlainList a items ∧ Paired (VR []) xs items.toList ∧ PlainTup h' t #[W, .ref a]

noncomputable def FunAt (prog : Program) (w : World) (mg mb : Str → Option Value) (A : Around) (f : Str) (ds : List DA) (r : DR) : Prop :=
  ∀ (s : Shared) (Vs : List Value) (a : Addr) (Q E : Value → Shared → Prop), Tp mg mb s.heap → mg f = some (.ref a) → Paired (DAR s.heap) ds Vs →
    (∀ V s', DRR s s'.heap r V → KA s s' → Q V s') → wpAny (model prog w) A (call (.ref a) Vs) Q E s

structure CxOk (prog : Program) (w : World) (mg mb : Str → Option Value) (A : Around) (C : Cx) : Prop where
  room : Room A
  glob : ∀ x v, C.glob x = some v → x = "CHAR_MAX" ∧ v = .int 127
  fn : ∀ f ds r, C.fn f ds = some r → (defs.lookup f).isSome = true ∧ FunAt prog w mg mb A f ds r

theorem vals_mono {ρ : List Addr} : ∀ {xs : List AV} {vs : List Value}, xs.all AV.isVal = true → Paired (VR []) xs vs → Paired (VR ρ) xs vs
  | _, _, _, .nil => .nil
  | _, _, h, .cons x r => by
    rw [List.all_cons, Bool.and_eq_true_iff] at h
    exact .cons (x.val h.1) (vals_mono h.2 r)
theorem vals_down {ρ : List Addr} : ∀ {xs : List AV} {vs : List Value}, xs.all AV.isVal = true → Paired (VR ρ) xs vs → Paired (VR []) xs vs
  | _, _, _, .nil => .nil
  | _, _, h, .cons x r => by
    rw [List.all_cons, Bool.and_eq_true_iff] at h
    exact .cons (x.val h.1) (vals_down h.2 r)

section
variable {prog : Program} {w : World} {mg mb : Str → Option Value} {A : Around} {h₀ : Heap} {C : Cx} {env : Env} {ρ : List Addr} {σ : AS} {s : Shared} {E : Value → Shared → Prop} {hp : List AO} {v : AV} {V : Value}

/-- a built-in's name -/
theorem ld_bi {x : Str} {pos : Pos} {W : Value} {Q : Value → Shared → Prop} (T : Tp mg mb s.heap) (O : EnvOk C env) (hk : C.kind x = some .globalImplicit) (hx : x ∈ (["len", "sum", "chr", "range", "enumerate", "zip", "list"] : List Str))
    (hb : bootBuiltins x = some W) (hd : (x == ("__debug__" : Str)) = false) (h : Q W s) : wpAny (model prog w) A (eval (.Name x pos) env) Q E s := by
  obtain ⟨h1, h2⟩ := T.bi x hx
  refine Name_function_global O.kind ((O.kindOf x).trans hk) (loadGlobal_builtin (mg := mg) (mb := mb) ?_ h1 ?_ (h2.trans hb) h) hd
  · rw [O.globals]; exact T.g
  · rw [O.builtins]; exact T.b
theorem ld_gl {x : Str} {pos : Pos} {W : Value} {Q : Value → Shared → Prop} (T : Tp mg mb s.heap) (O : EnvOk C env) (hk : C.kind x = some .globalImplicit) (hx : mg x = some W)
    (hd : (x == ("__debug__" : Str)) = false) (h : Q W s) : wpAny (model prog w) A (eval (.Name x pos) env) Q E s := by
  refine Name_function_global O.kind ((O.kindOf x).trans hk) (loadGlobal_global (mg := mg) ?_ hx h) hd
  rw [O.globals]; exact T.g

theorem boot_len' : bootBuiltins "len" = some (.builtin "len") := by decide +kernel
theorem boot_sum' : bootBuiltins "sum" = some (.builtin "sum") := by decide +kernel
theorem boot_chr' : bootBuiltins "chr" = some (.builtin "chr") := by decide +kernel
theorem boot_range' : bootBuiltins "range" = some (.type "range") := by decide +kernel
theorem boot_enum' : bootBuiltins "enumerate" = some (.type "enumerate") := by decide +kernel
theorem boot_zip' : bootBuiltins "zip" = some (.type "zip") := by decide +kernel
theorem boot_list' : bootBuiltins "list" = some (.type "list") := by decide +kernel

theorem sum_sound {l : Addr} {items : Array Value} {ns : List Int} {Q : Value → Shared → Prop} (hr : Room A) (hl : s.heap.IsList l items) (hi : IntsAre items.toList ns)
    (h : ∀ h' tk t', (∀ b o, s.heap.get? b = some o → h'.get? b = some o) → Q (.int ns.sum t') { s with heap := h', toks := tk }) : wpAny (model prog w) A (call (.builtin "sum") [.ref l]) Q E s := by
  have ha : AllInts items := by have := hi.allInts; simpa using this
  obtain ⟨xs, rfl⟩ := ha.items
  have e : xs.toList.map (·.1) = ns := by rw [← nums_intItems]; exact hi.numsOf
  refine sum_intListG hr.handled hl fun h' tk t' hk => ?_
  rw [preSum_eq, List.take_of_length_le (by simp), e]
  exact h h' tk t' hk

theorem deep_sound (R : Rel h₀ C env ρ { σ with hp := hp } s.heap) {d : DA} (h : deep hp v = some d) (hv : VR ρ v V) : DAR s.heap d V := by
  cases v with
  | ref n =>
    unfold deep at h
    simp only at h
    split at h
    · rename_i xs hn
      split at h
      · rename_i ha; cases h
        obtain ⟨a, its, rfl, _, hl, hx⟩ := list_at R hn hv
        exact ⟨ha, a, its, rfl, hl, vals_down ha hx⟩
      · cases h
    · cases h
  | none => cases h; exact ⟨rfl, hv.val rfl⟩
  | bool b => cases h; exact ⟨rfl, hv.val rfl⟩
  | int i => cases h; exact ⟨rfl, hv.val rfl⟩
  | str x => cases h; exact ⟨rfl, hv.val rfl⟩
theorem deepAll_sound (R : Rel h₀ C env ρ { σ with hp := hp } s.heap) : ∀ {vs : List AV} {Vs : List Value} {ds : List DA}, deepAll hp vs = some ds → Paired (VR ρ) vs Vs → Paired (DAR s.heap) ds Vs
  | [], _, _, h, .nil => by cases h; exact .nil
  | v :: r, _, _, h, .cons x y => by
    rw [deepAll] at h
    obtain ⟨d, h1, h2⟩ := Option.bind_eq_some_iff.mp h
    obtain ⟨ds, h3, rfl⟩ := Option.map_eq_some_iff.mp h2
    exact .cons (deep_sound R h1 x) (deepAll_sound R h3 y)

theorem KA.pe {s' : Shared} (R : Rel h₀ C env ρ { σ with hp := hp } s.heap) (k : KA s s') (hv : VR ρ v V) : PE h₀ C env ρ σ s v hp V s' :=
  ⟨[], by simpa using hv, by simpa using R.keeps k.keep, by simp, k⟩

theorem shallow_sound {s' : Shared} {r : DR} {hp' : List AO} (R : Rel h₀ C env ρ { σ with hp := hp } s.heap) (h : shallow hp r = some (v, hp')) (hr : DRR s s'.heap r V) (k : KA s s') : PE h₀ C env ρ σ s v hp' V s' := by
  cases r with
  | val u =>
    simp only [shallow] at h
    split at h
    · rename_i hu; cases h
      exact KA.pe R k (hr.2.val hu)
    · cases h
  | lst xs =>
    simp only [shallow] at h
    split at h
    · rename_i hu; cases h
      obtain ⟨_, a, items, rfl, hf, hl, hx⟩ := hr
      refine ⟨[a], ⟨a, ?_, rfl⟩, R.grow hf k.keep ⟨items, hl, vals_mono hu hx⟩, fun b hb => by rw [List.mem_singleton] at hb; rw [hb]; exact hf, k⟩
      rw [List.getElem?_append_right (Nat.le_of_eq R.len)]
      have : hp.length - ρ.length = 0 := by have := R.len; simp only at this; omega
      rw [this]; rfl
    · cases h
  | pair u xs =>
    simp only [shallow] at h
    split at h
    · rename_i hu; cases h
      rw [Bool.and_eq_true_iff] at hu
      obtain ⟨_, _, t, a, W, items, rfl, hta, hft, hfa, hW, hl, hx, hT⟩ := hr
      have len : ρ.length = hp.length := R.len
      have R1 := R.grow hfa k.keep (o := .list xs) ⟨items, hl, vals_mono hu.2 hx⟩
      have hn : (ρ ++ [a] ++ [t]) = ρ ++ [a, t] := by simp
      have e0 : (ρ ++ [a])[hp.length]? = some a := by
        rw [List.getElem?_append_right (Nat.le_of_eq len), ← len, Nat.sub_self]; rfl
      have R2 : Rel h₀ C env (ρ ++ [a, t]) { σ with hp := hp ++ [.list xs, .tup [u, .ref hp.length]] } s'.heap := by
        have hk2 : ∀ b o, s'.heap.get? b = some o → s'.heap.get? b = some o := fun _ _ e => e
        refine ⟨R1.base, ?_, ?_, ?_, ?_, ?_, R1.locN, ?_, ?_, R1.celI, ?_⟩
        · obtain ⟨m, hn', r⟩ := R1.loc
          exact ⟨m, hn', fun x v h1 h2 => let ⟨V, e, z⟩ := r x v h1 h2; ⟨V, e, hn ▸ z.mono⟩⟩
        · exact fun x c hx hl => let ⟨ov, hc, r⟩ := R1.cel x c hx hl; ⟨ov, hc, fun v hv => let ⟨V, e, z⟩ := r v hv; ⟨V, e, hn ▸ z.mono⟩⟩
        · simp [len]
        · intro n o b e1 e2
          rw [← hn] at e2
          have e1' : ((hp ++ [.list xs]) ++ [.tup [u, .ref hp.length]])[n]? = some o := by simpa using e1
          rcases Nat.lt_or_ge n (ρ ++ [a]).length with hl' | hl'
          · rw [List.getElem?_append_left hl'] at e2
            rw [List.getElem?_append_left (by simp at hl' ⊢; omega)] at e1'
            exact hn ▸ (R1.obj n o b e1' e2).mono
          · rw [List.getElem?_append_right hl'] at e2
            rw [List.getElem?_append_right (by simp at hl' ⊢; omega)] at e1'
            have hz : n - (ρ ++ [a]).length = 0 := by
              rcases Nat.eq_zero_or_pos (n - (ρ ++ [a]).length) with h | h
              · exact h
              · rw [List.getElem?_eq_none (by simp only [List.length_singleton]; (clear R k hu hta hft hfa hW hl hx hT len R1 hn e0 hk2 e1 e2 e1' hl'; omega))] at e2; cases e2
            have hz' : n - (hp ++ [AO.list xs]).length = 0 := by simp at hz ⊢; omega
            rw [hz] at e2
            rw [hz'] at e1'
            simp at e1' e2
            subst e1' e2
            exact ⟨_, hT, .cons (hW.val hu.1) (.cons ⟨a, by rw [← hn, List.getElem?_append_left (by simp; (clear R k hu hta hft hfa hW hl hx hT R1 hn e0 hk2 hl' hz hz' e1; omega))]; exact e0, rfl⟩ .nil)⟩
        · rw [← hn, List.nodup_append]
          refine ⟨R1.nodup, by simp, fun b hb c hc e => ?_⟩
          simp at hc; subst hc; subst e
          rcases List.mem_append.mp hb with hb | hb
          · obtain ⟨ob, z⟩ := R.live hb
            rw [hft] at z; cases z
          · exact hta (by simpa using hb)
        · rw [← hn]
          intro hm
          rcases List.mem_append.mp hm with hm | hm
          · exact R1.locρ hm
          · simp at hm
            obtain ⟨ob, z⟩ := R.liveL
            rw [hm, hft] at z; cases z
        · intro x c hx hl
          obtain ⟨h1, h2, h3⟩ := R1.celN x c hx hl
          refine ⟨h1, h2, fun hm => ?_⟩
          rw [← hn] at hm
          rcases List.mem_append.mp hm with hm | hm
          · exact h3 hm
          · simp at hm
            obtain ⟨ob, z⟩ := R.liveC hx hl
            rw [hm, hft] at z; cases z
        · intro n b e hf
          rw [← hn] at e
          rcases Nat.lt_or_ge n (ρ ++ [a]).length with hl' | hl'
          · rw [List.getElem?_append_left hl'] at e
            exact R1.objN n b e hf
          · rw [List.getElem?_append_right hl'] at e
            have : b = t := by
              have := List.mem_of_getElem? e
              simpa using this
            subst this
            cases z : h₀.get? b with
            | none => rfl
            | some o => rw [R.base b o z] at hft; cases hft
      refine ⟨[a, t], ⟨t, ?_, rfl⟩, R2, ?_, k⟩
      · rw [← hn, List.getElem?_append_right (by simp; omega)]
        have : hp.length + 1 - (ρ ++ [a]).length = 0 := by simp; omega
        rw [this]; rfl
      · intro b hb
        simp at hb
        rcases hb with rfl | rfl
        · exact hfa
        · exact hft
    · cases h
end
end Mine

namespace Mine
open PySem PyProof.Rows PySem.Calls

/-! ## what a loop goes through -/
noncomputable def ItR (ρ : List Addr) (h : Heap) : It → Value → Prop
  | .one v, V => VR ρ v V
  | .two a b, V => ∃ T Va Vb, V = .ref T ∧ h.IsTuple T #[Va, Vb] ∧ VR ρ a Va ∧ VR ρ b Vb

/-- an iterator moved: what is not its own stands -/
structure Mv (gi : Option Nat) (W : List Addr) (s s' : Shared) : Prop where
  keep : ∀ b o, b ∉ W → s.heap.get? b = some o → s'.heap.get? b = some o
  drawn : s'.drawn = s.drawn
  os : s'.os = s.os
  gold : ∀ (i : Nat) x, gi ≠ some i → s.gens[i]? = some x → s'.gens[i]? = some x
  bare : AllBare s.gens → AllBare s'.gens
theorem Mv.heap {gi : Option Nat} {W : List Addr} {s : Shared} {h' : Heap} (t : Nat) (hk : ∀ b o, b ∉ W → s.heap.get? b = some o → h'.get? b = some o) : Mv gi W s { s with heap := h', toks := t } :=
  ⟨hk, rfl, rfl, fun _ _ _ e => e, fun e => e⟩

/-- B: what stands all the while -/
structure Itr (prog : Program) (w : World) (A : Around) (B : Heap → Prop) (t : Expr) (I : Addr) (gi : Option Nat) (rd ρ : List Addr) (items : List It) (fin : Bool) (St : Nat → List Addr → Shared → Prop) : Prop where
  live : ∀ i W s, St i W s → ∀ b ∈ W, ∃ o, s.heap.get? b = some o
  frame : ∀ i W (s s' : Shared), St i W s → (∀ b ∈ W, ∀ o, s.heap.get? b = some o → s'.heap.get? b = some o) → (∀ b ∈ rd, ∀ o, s.heap.get? b = some o → s'.heap.get? b = some o) →
    (∀ (g : Nat) x, gi = some g → s.gens[g]? = some x → s'.gens[g]? = some x) → St i W s'
  next : ∀ i W x (s : Shared) (Q : Value → Shared → Prop) (E : Value → Shared → Prop), items[i]? = some x → St i W s → B s.heap →
    (∀ V s' W', ItR ρ s'.heap x V → St (i + 1) W' s' → Mv gi W s s' → (∀ b ∈ W', b ∈ W ∨ s.heap.get? b = none) → Q V s') →
    wpAny (model prog w) A (pyNext (.ref I)) (fun r s₁ => match r with | none => False | some v => wpAny (model prog w) A (letOwnedTupleGo t (.ref I) v) (fun _ s₂ => Q v s₂) E s₁) E s
  done : fin = true → ∀ W (s : Shared) (Q : Option Value → Shared → Prop) (E : Value → Shared → Prop), St items.length W s → B s.heap → (∀ s', Mv gi W s s' → Q none s') → wpAny (model prog w) A (pyNext (.ref I)) Q E s
  self : ∀ i W (s : Shared) (Q : Value → Shared → Prop) (E : Value → Shared → Prop), St i W s → Q (.ref I) s → wpAny (model prog w) A (pyIter (.ref I)) Q E s

theorem get_lt {α : Type} {l : List α} {i : Nat} {a : α} (h : l[i]? = some a) : i < l.length := (List.getElem?_eq_some_iff.mp h).1

section
variable {prog : Program} {w : World} {A : Around} {B : Heap → Prop} {I : Addr} {fp wr rd ρ : List Addr} {n : Nat} {items : List It}

theorem Itr.ofWalks {P : Nat → Value → Prop} {St : Nat → Heap → Prop} (W0 : Walks prog w A I fp wr n P St) {x : Str} {p : Pos} (hn : items.length = n) (hfp : ∀ b ∈ fp, b ∈ wr ∨ b ∈ rd)
    (hP : ∀ (i : Nat) y V h, items[i]? = some y → P i V → ItR ρ h y V) (live : ∀ i h, St i h → ∀ b ∈ wr, ∃ o, h.get? b = some o) :
    Itr prog w A B (.Name x p) I none rd ρ items true (fun i W s => W = wr ∧ St i s.heap) where
  live := fun i W s h b hb => live i _ h.2 b (h.1 ▸ hb)
  frame := fun i W s s' h h1 h2 _ => ⟨h.1, W0.frame _ _ _ h.2 fun b hb o e => by
    rcases hfp b hb with hb | hb
    · exact h1 b (h.1.symm ▸ hb) o e
    · exact h2 b hb o e⟩
  next := fun i W y s Q E hi h _ hQ => by
    obtain ⟨rfl, h⟩ := h
    refine W0.item i s _ E (by rw [← hn]; exact get_lt hi) h fun V h' tk hV hS hk => ?_
    exact wpAny_pure (hQ V _ W (hP i y V _ hi hV) ⟨rfl, hS⟩ (Mv.heap tk hk) fun b hb => .inl hb)
  done := fun _ W s Q E h _ hQ => by
    obtain ⟨rfl, h⟩ := h
    exact W0.done s Q E (hn ▸ h) fun h' tk hk => hQ _ (Mv.heap tk hk)
  self := fun i W s Q E h hQ => W0.self i s Q E h.2 hQ

theorem Itr.ofWalksT {P : Nat → Array Value → Prop} {St : Nat → Heap → Prop} {Mid : Nat → Addr → Heap → Prop} (W0 : WalksT prog w A I fp wr n P St Mid) (own : List Addr) (hsub : ∀ b ∈ wr, b ∈ own) {es : List Expr} {k : Nat} {p : Pos} (hn : items.length = n)
    (hfp : ∀ b ∈ fp, b ∈ own ∨ b ∈ rd) (hP : ∀ (i : Nat) y vals, items[i]? = some y → P i vals → ∃ a b Va Vb, y = .two a b ∧ vals = #[Va, Vb] ∧ VR ρ a Va ∧ VR ρ b Vb)
    (live : ∀ i h, St i h → ∀ b ∈ own, ∃ o, h.get? b = some o) :
    Itr prog w A B (.Tuple es k p) I none rd ρ items true (fun i W s => W = own ∧ St i s.heap) where
  live := fun i W s h b hb => live i _ h.2 b (h.1 ▸ hb)
  frame := fun i W s s' h h1 h2 _ => ⟨h.1, W0.frame _ _ _ h.2 fun b hb o e => by
    rcases hfp b hb with hb | hb
    · exact h1 b (h.1.symm ▸ hb) o e
    · exact h2 b hb o e⟩
  next := fun i W y s Q E hi h _ hQ => by
    obtain ⟨rfl, h⟩ := h
    refine W0.item i s _ E (by rw [← hn]; exact get_lt hi) h fun T vals h' tk hV _ hT hM hk => ?_
    refine W0.go es k p i T _ _ _ hM fun h'' hS hk' => ?_
    obtain ⟨a, b, Va, Vb, rfl, rfl, hA, hB⟩ := hP i y vals hi hV
    refine hQ (.ref T) _ W ⟨T, Va, Vb, rfl, ?_, hA, hB⟩ ⟨rfl, hS⟩ (Mv.heap tk fun b o hb e => hk' b o (fun hm => hb (hsub b hm)) (hk b o (fun hm => hb (hsub b hm)) e)) fun b hb => .inl hb
    obtain ⟨o, ho, r⟩ := hT
    exact ⟨o, hk' T o (W0.apart i T _ hM) ho, r⟩
  done := fun _ W s Q E h _ hQ => by
    obtain ⟨rfl, h⟩ := h
    exact W0.done s Q E (hn ▸ h) fun h' tk hk => hQ _ (Mv.heap tk fun b o hb e => hk b o (fun hm => hb (hsub b hm)) e)
  self := fun i W s Q E h hQ => W0.self i s Q E h.2 hQ
end

theorem intsFrom_length (a : Int) : ∀ n, (intsFrom a n).length = n
  | 0 => rfl
  | n + 1 => by rw [intsFrom, List.length_cons, intsFrom_length]
theorem intsFrom_get (a : Int) : ∀ (n i : Nat), i < n → (intsFrom a n)[i]? = some (a + i)
  | 0, _, h => absurd h (Nat.not_lt_zero _)
  | n + 1, 0, _ => by simp [intsFrom]
  | n + 1, i + 1, h => by
    rw [intsFrom, List.getElem?_cons_succ, intsFrom_get (a + 1) n i (by omega)]
    congr 1; (clear h; omega)
theorem rangeSize_one (a b : Int) : Builtin.Range.rangeSize a b 1 = ((b - a).toNat : Int) := by
  unfold Builtin.Range.rangeSize
  rw [if_pos (by decide), Int.ediv_one]
  split <;> omega

/-- what stands behind a loop's head -/
noncomputable def PI (prog : Program) (w : World) (A : Around) (h₀ : Heap) (C : Cx) (env : Env) (ρ : List Addr) (σ : AS) (s : Shared) (t : Expr) (items : List It) (fz' : List Nat) (hp' : List AO) : Value → Shared → Prop :=
  fun V s' => ∃ ρ' I rd St W, V = .ref I ∧ Rel h₀ C env (ρ ++ ρ') { σ with hp := hp' } s'.heap ∧ (∀ a ∈ ρ', s.heap.get? a = none) ∧ KA s s' ∧
    Itr prog w A (fun _ => True) t I none rd (ρ ++ ρ') items true St ∧ St 0 W s' ∧ (∀ b ∈ W, s.heap.get? b = none ∧ b ∉ ρ ++ ρ') ∧ (∀ b ∈ rd, ∃ n ∈ fz', (ρ ++ ρ')[n]? = some b)

section
variable {prog : Program} {w : World} {A : Around} {h₀ : Heap} {C : Cx} {env : Env} {ρ : List Addr} {σ : AS} {s : Shared} {E : Value → Shared → Prop} {hp : List AO}

theorem PI.now (R : Rel h₀ C env ρ { σ with hp := hp } s.heap) {t : Expr} {items : List It} {fz' : List Nat} {I : Addr} {rd W : List Addr} {St : Nat → List Addr → Shared → Prop} {h' : Heap} (tk : Nat)
    (hk : ∀ b o, s.heap.get? b = some o → h'.get? b = some o) (hI : Itr prog w A (fun _ => True) t I none rd ρ items true St) (hS : St 0 W { s with heap := h', toks := tk }) (hW : ∀ b ∈ W, s.heap.get? b = none)
    (hrd : ∀ b ∈ rd, ∃ n ∈ fz', ρ[n]? = some b) : PI prog w A h₀ C env ρ σ s t items fz' hp (.ref I) { s with heap := h', toks := tk } := by
  refine ⟨[], I, rd, St, W, rfl, by simpa using R.keeps hk, by simp, KA.heap tk hk, by simpa using hI, hS, fun b hb => ⟨hW b hb, fun hm => ?_⟩, by simpa using hrd⟩
  rw [List.append_nil] at hm
  obtain ⟨o, e⟩ := R.live hm
  rw [hW b hb] at e; cases e

/-- a value, gone through -/
theorem iter_val {v : AV} {V : Value} {t : Expr} {items : List It} {two : Bool} {fz' : List Nat} (hr : Room A) (h : itemsOfVal v hp = some ((items, two), fz')) (ht : tgtOk t two = true) (hv : VR ρ v V)
    (R : Rel h₀ C env ρ { σ with hp := hp } s.heap) : wpAny (model prog w) A (pyIter V) (PI prog w A h₀ C env ρ σ s t items fz' hp) E s := by
  unfold itemsOfVal at h
  split at h
  · rename_i x
    split at h
    · rename_i hx; cases h
      obtain ⟨nm, p, rfl⟩ := tgt_name ht
      obtain ⟨u, rfl⟩ := hv
      refine wpAny_pyIter_ascii (by simpa using hx) ?_
      refine PI.now R s.toks (fun b o e => Heap.get?_push_of_some _ e) (Itr.ofWalks (rd := []) (Walks.strAscii hr.handled s.heap.objs.size ⟨x.toArray⟩ u) (by simp) (fun b hb => .inl hb) ?_ ?_) ⟨rfl, ⟨_, Heap.get?_push_size _ rfl, rfl, rfl⟩⟩ ?_ (by simp)
      · intro i y V h hi hV
        obtain ⟨c, u', h1, rfl⟩ := hV
        simp at hi h1
        rw [h1] at hi
        simp at hi; subst hi
        exact vStr (ρ := ρ)
      · intro i h hs b hb
        rw [List.mem_singleton] at hb; subst hb
        obtain ⟨o, ho, _⟩ := hs
        exact ⟨o, ho⟩
      · intro b hb; rw [List.mem_singleton] at hb; rw [hb]; exact fresh_size _
    · cases h
  · rename_i n
    split at h
    · rename_i xs hn; cases h
      obtain ⟨nm, p, rfl⟩ := tgt_name ht
      obtain ⟨a, its, rfl, ha, hl, hx⟩ := list_at R hn hv
      have hne : a ≠ s.heap.objs.size := by
        obtain ⟨m, e⟩ := hl
        exact Nat.ne_of_lt (Heap.lt_size e)
      refine wpAny_pyIter_list hl.isList ?_
      refine PI.now R s.toks (fun b o e => Heap.get?_push_of_some _ e) (Itr.ofWalks (rd := [a]) (Walks.list hr.handled s.heap.objs.size a hne its) (by simp [paired_len hx]) (fun b hb => ?_) ?_ ?_) ⟨rfl, ⟨_, Heap.get?_push_size _ rfl, rfl, rfl⟩, hl.isList.push _⟩ ?_ ?_
      · simp at hb ⊢; exact hb
      · intro i y V h hi hV
        rw [List.getElem?_map] at hi
        obtain ⟨v, h1, rfl⟩ := Option.map_eq_some_iff.mp hi
        obtain ⟨V', h2, h3⟩ := Paired.get hx h1
        have : its[i]? = some V' := by simpa using h2
        rw [hV] at this; cases this
        exact h3
      · intro i h hs b hb
        rw [List.mem_singleton] at hb; subst hb
        obtain ⟨o, ho, _⟩ := hs.1
        exact ⟨o, ho⟩
      · intro b hb; rw [List.mem_singleton] at hb; rw [hb]; exact fresh_size _
      · intro b hb; rw [List.mem_singleton] at hb; subst hb; exact ⟨n, by simp, ha⟩
    · cases h
  · cases h

theorem range_itr {B : Heap → Prop} (hr : Room A) {a b : Int} {I : Addr} {x : Str} {p : Pos} (items : List It) (hi : items = (rangeInts a b).map fun i => .one (.int i)) :
    Itr prog w A B (.Name x p) I none [] ρ items true (fun i W s => W = [I] ∧ IsRangeIter s.heap I (a + (i : Nat) * 1) (((b - a).toNat : Int) - (i : Nat)) 1) := by
  subst hi
  refine Itr.ofWalks (Walks.range hr.handled I a 1 (b - a).toNat) (by simp [rangeInts, intsFrom_length]) (fun b hb => .inl hb) ?_ ?_
  · intro i y V h hi hV
    obtain ⟨t, rfl⟩ := hV
    rw [List.getElem?_map] at hi
    obtain ⟨v, h1, rfl⟩ := Option.map_eq_some_iff.mp hi
    have hlt : i < (b - a).toNat := by have := get_lt h1; simpa [rangeInts, intsFrom_length] using this
    rw [rangeInts, intsFrom_get a _ i hlt] at h1
    cases h1
    rw [Int.mul_one]
    exact vInt (ρ := ρ)
  · intro i h hs b hb
    rw [List.mem_singleton] at hb; subst hb
    exact ⟨_, hs⟩

theorem zip_apart (N a b : Nat) (h1 : a < N) (h2 : b < N) : ZipApart (N + 4) (N + 2) (N + 3) N (N + 1) a b := by
  constructor <;> (show (_ : Nat) ≠ _) <;> (first | (clear h1; omega) | omega)
theorem ne_a (N a : Nat) (h : a < N) : a ≠ N + 1 := by omega
theorem ne_b (N a : Nat) (h : a < N) : a ≠ N := by omega
theorem two_ge (N c : Nat) (h : c = N + 1 ∨ c = N) : N ≤ c := by omega
theorem five_ge (N c : Nat) (h : c = N + 4 ∨ c = N + 3 ∨ c = N ∨ c = N + 1 ∨ c = N + 2) : N ≤ c := by omega

/-- a thing made, then gone through -/
noncomputable def Made (prog : Program) (w : World) (A : Around) (h₀ : Heap) (C : Cx) (env : Env) (ρ : List Addr) (σ : AS) (s : Shared) (E : Value → Shared → Prop) (hp : List AO) (T : String) (Vs : List Value) (t : Expr) (r : IT) : Prop :=
  wpAny (model prog w) A (call (.type T) Vs) (fun xv s₁ => wpAny (model prog w) A (pyIter xv) (PI prog w A h₀ C env ρ σ s t r.1.1 r.2 hp) E s₁) E s
theorem it_range1 (hr : Room A) {b : Int} {u : Nat} (hs : small b = true) {nm : Str} {p : Pos} (R : Rel h₀ C env ρ { σ with hp := hp } s.heap) : Made prog w A h₀ C env ρ σ s E hp "range" [.int b u] (.Name nm p) (ranged 0 b) := by
  rw [small_iff] at hs
  refine call_range_1 ?_
  refine wpAny_pyIter_range (IsRange.new _ _ _ _ _ _ _) (small_one (by decide) (by decide) (by omega) (by omega)) ?_
  have fr : ∀ q : Obj, s.heap.get? (s.heap.push q).objs.size = none := fun q => by
    cases e : s.heap.get? (s.heap.push q).objs.size with
    | none => rfl
    | some o => exact absurd (Heap.lt_size (Heap.get?_push_of_some q e)) (Nat.lt_irrefl _)
  refine PI.now R _ (fun b o e => Heap.get?_push_of_some _ (Heap.get?_push_of_some _ e)) (range_itr hr (a := 0) (b := b) _ rfl) ⟨rfl, ?_⟩ ?_ (by simp)
  · rw [rangeSize_one]
    have := Heap.get?_push_size (s.heap.push { cls := .type "range", data := .fields #[.int 0 s.toks, .int b u, .int 1 (s.toks + 1)] }) (o := { cls := .type "range_iterator", data := .fields #[rawInt 0, rawInt ((b - 0).toNat : Int), rawInt 1] }) rfl
    simpa using this
  · intro b hb; rw [List.mem_singleton] at hb; rw [hb]; exact fr _
theorem it_range2 (hr : Room A) {a b : Int} {u u' : Nat} (hs : small a = true ∧ small b = true) {nm : Str} {p : Pos} (R : Rel h₀ C env ρ { σ with hp := hp } s.heap) : Made prog w A h₀ C env ρ σ s E hp "range" [.int a u, .int b u'] (.Name nm p) (ranged a b) := by
  rw [small_iff, small_iff] at hs
  refine call_range_2 ?_
  refine wpAny_pyIter_range (IsRange.new _ _ _ _ _ _ _) (small_one (by omega) (by omega) (by omega) (by omega)) ?_
  have fr : ∀ q : Obj, s.heap.get? (s.heap.push q).objs.size = none := fun q => by
    cases e : s.heap.get? (s.heap.push q).objs.size with
    | none => rfl
    | some o => exact absurd (Heap.lt_size (Heap.get?_push_of_some q e)) (Nat.lt_irrefl _)
  refine PI.now R _ (fun b o e => Heap.get?_push_of_some _ (Heap.get?_push_of_some _ e)) (range_itr hr (a := a) (b := b) _ rfl) ⟨rfl, ?_⟩ ?_ (by simp)
  · rw [rangeSize_one]
    have := Heap.get?_push_size (s.heap.push { cls := .type "range", data := .fields #[.int a u, .int b u', .int 1 s.toks] }) (o := { cls := .type "range_iterator", data := .fields #[rawInt a, rawInt ((b - a).toNat : Int), rawInt 1] }) rfl
    simpa using this
  · intro b hb; rw [List.mem_singleton] at hb; rw [hb]; exact fr _
theorem it_enum (hr : Room A) {n : Nat} {xs : List AV} {V : Value} (hn : hp[n]? = some (.list xs)) (v1 : VR ρ (.ref n) V) {x y : Str} {p q r : Pos} {k : Nat} (R : Rel h₀ C env ρ { σ with hp := hp } s.heap) :
    Made prog w A h₀ C env ρ σ s E hp "enumerate" [V] (.Tuple [.Name x p, .Name y q] k r) ((xs.zipIdx.map fun p => .two (.int p.2) p.1, true), [n]) := by
  obtain ⟨a, its, rfl, ha, ⟨m, hl⟩, hx⟩ := list_at R hn v1
  have hlt : a < s.heap.objs.size := Heap.lt_size hl
  refine call_enumerate_1 hl fun h' he hit hsz hk => ?_
  refine wpAny_pyIter_enum he ?_
  refine PI.now R s.toks hk (Itr.ofWalksT (rd := [a]) (WalksT.enumerate hr.handled (s.heap.objs.size + 1) s.heap.objs.size a (Nat.succ_ne_self _) (ne_a _ _ hlt) (ne_b _ _ hlt) its) _ (fun _ hb => hb) (by simp [paired_len hx]) (fun b hb => ?_) ?_ ?_)
    ⟨rfl, ⟨_, he⟩, hit, ⟨_, hk _ _ hl, rfl, _, rfl⟩⟩ ?_ ?_
  · simp at hb ⊢; rcases hb with h | h | h <;> simp [h]
  · intro i y vals hi hV
    obtain ⟨t, V, h1, rfl⟩ := hV
    rw [List.getElem?_map] at hi
    obtain ⟨v, h2, rfl⟩ := Option.map_eq_some_iff.mp hi
    rw [List.getElem?_zipIdx] at h2
    obtain ⟨v', h3, rfl⟩ := Option.map_eq_some_iff.mp h2
    obtain ⟨V', h4, h5⟩ := Paired.get hx h3
    have : its[i]? = some V' := by simpa using h4
    rw [h1] at this; cases this
    exact ⟨_, _, _, _, rfl, rfl, by simpa using vInt, h5⟩
  · intro i h hs b hb
    obtain ⟨⟨old, h1⟩, ⟨o, h2, _⟩, _⟩ := hs
    simp at hb
    rcases hb with rfl | rfl
    · exact ⟨_, h1⟩
    · exact ⟨_, h2⟩
  · intro b hb
    have hge : s.heap.objs.size ≤ b := two_ge _ _ (by simpa using hb)
    cases e : s.heap.get? b with
    | none => rfl
    | some o => exact absurd (Heap.lt_size e) (Nat.not_lt.mpr hge)
  · intro b hb; rw [List.mem_singleton] at hb; subst hb; exact ⟨n, by simp, ha⟩
theorem it_enumS (hr : Room A) {x : List Nat} {u : Nat} (hx : x.all (fun c => decide (c < 128)) = true) {nx ny : Str} {p q r : Pos} {k : Nat} (R : Rel h₀ C env ρ { σ with hp := hp } s.heap) :
    Made prog w A h₀ C env ρ σ s E hp "enumerate" [.str ⟨x.toArray⟩ u] (.Tuple [.Name nx p, .Name ny q] k r) (enumed x) := by
  refine call_enumerate_str fun h' he hit hsz hk => ?_
  refine wpAny_pyIter_enum he ?_
  have hty : strIterType ⟨x.toArray⟩ = "str_ascii_iterator" := by
    unfold strIterType
    rw [if_pos (by simpa using hx)]
  rw [hty] at hit
  refine PI.now R s.toks hk (Itr.ofWalksT (rd := []) (WalksT.enumerateD (A := A) (Draws.strAscii (A := A.in1) hr.handled s.heap.objs.size ⟨x.toArray⟩ u) (s.heap.objs.size + 1) (Nat.succ_ne_self _) (by simp) (by simp)) _ (fun _ hb => hb) (by simp [enumed]) (fun b hb => ?_) ?_ ?_)
    ⟨rfl, ⟨_, he⟩, hit⟩ ?_ (by simp)
  · simp at hb ⊢; exact hb
  · intro i y vals hi hV
    obtain ⟨t, V, ⟨c, u', h1, rfl⟩, rfl⟩ := hV
    change (x.zipIdx.map fun p => It.two (.int p.2) (.str [p.1]))[i]? = some y at hi
    rw [List.getElem?_map] at hi
    obtain ⟨v, h2, rfl⟩ := Option.map_eq_some_iff.mp hi
    rw [List.getElem?_zipIdx] at h2
    obtain ⟨v', h3, rfl⟩ := Option.map_eq_some_iff.mp h2
    have h1' : x[i]? = some c := by simpa using h1
    rw [h3] at h1'; cases h1'
    exact ⟨_, _, _, _, rfl, rfl, by simpa using vInt, vStr⟩
  · intro i h hs b hb
    obtain ⟨⟨old, h1⟩, ⟨o, h2, _⟩⟩ := hs
    simp at hb
    rcases hb with rfl | rfl
    · exact ⟨_, h1⟩
    · exact ⟨_, h2⟩
  · intro b hb
    have hge : s.heap.objs.size ≤ b := two_ge _ _ (by simpa using hb)
    cases e : s.heap.get? b with
    | none => rfl
    | some o => exact absurd (Heap.lt_size e) (Nat.not_lt.mpr hge)
theorem it_zip (hr : Room A) {i j : Nat} {xs ys : List AV} {V V' : Value} (hi : hp[i]? = some (.list xs)) (hj : hp[j]? = some (.list ys)) (v1 : VR ρ (.ref i) V) (v2 : VR ρ (.ref j) V') {x y : Str} {p q r : Pos} {k : Nat} (R : Rel h₀ C env ρ { σ with hp := hp } s.heap) :
    Made prog w A h₀ C env ρ σ s E hp "zip" [V, V'] (.Tuple [.Name x p, .Name y q] k r) (((xs.zip ys).map fun p => .two p.1 p.2, true), [i, j]) := by
  obtain ⟨a, its, rfl, ha, hl, hx⟩ := list_at R hi v1
  obtain ⟨b, its', rfl, hb, hl', hy⟩ := list_at R hj v2
  have hlt : a < s.heap.objs.size := by obtain ⟨_, e⟩ := hl; exact Heap.lt_size e
  have hlt' : b < s.heap.objs.size := by obtain ⟨_, e⟩ := hl'; exact Heap.lt_size e
  refine call_zip_2 hl.isList hl'.isList fun h' hz hTI hTO hi1 hi2 hsz hk => ?_
  refine wpAny_pyIter_zip hz ?_
  have D : ZipApart (s.heap.objs.size + 4) (s.heap.objs.size + 2) (s.heap.objs.size + 3) s.heap.objs.size (s.heap.objs.size + 1) a b := zip_apart _ _ _ hlt hlt'
  refine PI.now R s.toks hk (Itr.ofWalksT (rd := [a, b]) (WalksT.zip2 hr.handled _ _ _ _ _ a b D its its') [s.heap.objs.size + 4, s.heap.objs.size + 3, s.heap.objs.size, s.heap.objs.size + 1, s.heap.objs.size + 2] ?_ ?_ ?_ ?_ ?_)
    ⟨rfl, hz, hTI, ⟨_, _, hTO⟩, hi1, hi2, hl.isList.at fun o e => hk _ _ e, hl'.isList.at fun o e => hk _ _ e⟩ ?_ ?_
  · intro c hc; simp at hc ⊢; rcases hc with h | h | h | h <;> simp [h]
  · simp [paired_len hx, paired_len hy]
  · intro c hc; simp at hc ⊢; rcases hc with h | h | h | h | h | h | h <;> simp [h]
  · intro i y vals hi hV
    obtain ⟨X, Y, h1, h2, rfl⟩ := hV
    rw [List.getElem?_map] at hi
    obtain ⟨v, h3, rfl⟩ := Option.map_eq_some_iff.mp hi
    rw [List.getElem?_zip_eq_some] at h3
    obtain ⟨X', h4, h5⟩ := Paired.get hx h3.1
    obtain ⟨Y', h6, h7⟩ := Paired.get hy h3.2
    have e1 : its[i]? = some X' := by simpa using h4
    have e2 : its'[i]? = some Y' := by simpa using h6
    rw [h1] at e1; cases e1
    rw [h2] at e2; cases e2
    exact ⟨_, _, _, _, rfl, rfl, h5, h7⟩
  · intro i h hs c hc
    obtain ⟨h1, h2, ⟨_, _, h3⟩, ⟨o4, h4, _⟩, ⟨o5, h5, _⟩, _⟩ := hs
    simp at hc
    rcases hc with rfl | rfl | rfl | rfl | rfl
    · exact ⟨_, h1⟩
    · exact ⟨_, h3⟩
    · exact ⟨_, h4⟩
    · exact ⟨_, h5⟩
    · exact ⟨_, h2⟩
  · intro c hc
    have hge : s.heap.objs.size ≤ c := five_ge _ _ (by simpa using hc)
    cases e : s.heap.get? c with
    | none => rfl
    | some o => exact absurd (Heap.lt_size e) (Nat.not_lt.mpr hge)
  · intro c hc
    simp at hc
    rcases hc with rfl | rfl
    · exact ⟨i, by simp, ha⟩
    · exact ⟨j, by simp, hb⟩
theorem listOf_inv {hp : List AO} {v : AV} {q : Nat × List AV} (h : listOf hp v = some q) : v = .ref q.1 ∧ hp[q.1]? = some (.list q.2) := by
  cases v with
  | ref n =>
    change (match hp[n]? with
      | some o => (match o with | .list xs => some (n, xs) | _ => none)
      | none => none) = some q at h
    cases e : hp[n]? with
    | none => rw [e] at h; exact no1 h
    | some o =>
      rw [e] at h
      cases o with
      | list xs => cases h; exact ⟨rfl, e⟩
      | tup xs => exact no1 h
  | _ => exact no1 h
theorem made_range (hr : Room A) {vs : List AV} {Vs : List Value} {t : Expr} {r : IT} (h : rangeOf vs = some r) (ht : tgtOk t r.1.2 = true) (hv : Paired (VR ρ) vs Vs) (R : Rel h₀ C env ρ { σ with hp := hp } s.heap) : Made prog w A h₀ C env ρ σ s E hp "range" Vs t r := by
  refine hide fun _ up => ?_
  cases hv with
  | nil => exact no1 h
  | cons x r =>
  rename_i v _ _ _
  cases v with
  | int a =>
    obtain ⟨u, rfl⟩ := x
    cases r with
    | nil =>
      change (if small a then some (ranged 0 a) else none) = _ at h
      by_cases hs : small a = true
      · rw [if_pos hs] at h; cases h
        obtain ⟨nm, p, rfl⟩ := tgt_name ht
        exact up (it_range1 hr hs R)
      · rw [if_neg hs] at h; exact no1 h
    | cons y q =>
      rename_i v _ _ _
      cases v with
      | int b =>
        obtain ⟨u', rfl⟩ := y
        cases q with
        | nil =>
          change (if small a && small b then some (ranged a b) else none) = _ at h
          by_cases hs : (small a && small b) = true
          · rw [if_pos hs] at h; cases h
            obtain ⟨nm, p, rfl⟩ := tgt_name ht
            exact up (it_range2 hr (Bool.and_eq_true_iff.mp hs) R)
          · rw [if_neg hs] at h; exact no1 h
        | cons _ _ => exact no1 h
      | _ => exact no1 h
  | _ => exact no1 h
theorem made_enum (hr : Room A) {vs : List AV} {Vs : List Value} {t : Expr} {r : IT} (h : enumOf vs hp = some r) (ht : tgtOk t r.1.2 = true) (hv : Paired (VR ρ) vs Vs) (R : Rel h₀ C env ρ { σ with hp := hp } s.heap) : Made prog w A h₀ C env ρ σ s E hp "enumerate" Vs t r := by
  refine hide fun _ up => ?_
  cases hv with
  | nil => exact no1 h
  | cons x r =>
  cases r with
  | cons _ _ => exact no1 h
  | nil =>
  rename_i v _
  by_cases hstr : ∃ x, v = .str x
  · obtain ⟨x', rfl⟩ := hstr
    obtain ⟨u, rfl⟩ := x
    change (if x'.all (fun c => decide (c < 128)) then some (enumed x') else none) = _ at h
    by_cases hx : x'.all (fun c => decide (c < 128)) = true
    · rw [if_pos hx] at h; cases h
      obtain ⟨nx, p, ny, q, k, r, rfl⟩ := tgt_two ht
      exact up (it_enumS hr hx R)
    · rw [if_neg hx] at h; exact no1 h
  · have h : ((listOf hp v).map fun q => ((q.2.zipIdx.map fun p => It.two (.int p.2) p.1, true), [q.1])) = some r := by
      cases v with
      | str x' => exact (hstr ⟨x', rfl⟩).elim
      | _ => exact h
    obtain ⟨q, h1, h2⟩ := Option.map_eq_some_iff.mp h
    cases h2
    obtain ⟨rfl, hn⟩ := listOf_inv h1
    obtain ⟨nx, p, ny, q', k, r, rfl⟩ := tgt_two ht
    exact up (it_enum hr hn x R)
theorem made_zip (hr : Room A) {vs : List AV} {Vs : List Value} {t : Expr} {r : IT} (h : zipOf vs hp = some r) (ht : tgtOk t r.1.2 = true) (hv : Paired (VR ρ) vs Vs) (R : Rel h₀ C env ρ { σ with hp := hp } s.heap) : Made prog w A h₀ C env ρ σ s E hp "zip" Vs t r := by
  refine hide fun _ up => ?_
  cases hv with
  | nil => exact no1 h
  | cons x r =>
  cases r with
  | nil => exact no1 h
  | cons y q =>
  cases q with
  | cons _ _ => exact no1 h
  | nil =>
  obtain ⟨a, h1, h⟩ := Option.bind_eq_some_iff.mp h
  obtain ⟨b, h2, h⟩ := Option.bind_eq_some_iff.mp h
  by_cases hab : a.1 = b.1
  · rw [if_pos hab] at h; exact no1 h
  · rw [if_neg hab] at h; cases h
    obtain ⟨rfl, hi⟩ := listOf_inv h1
    obtain ⟨rfl, hj⟩ := listOf_inv h2
    obtain ⟨nx, p, ny, q', k, r, rfl⟩ := tgt_two ht
    exact up (it_zip hr hi hj x y R)
/-- range, enumerate, zip: made, then gone through -/
theorem iter_made {f : Str} {vs : List AV} {Vs : List Value} {t : Expr} {r : IT} (hr : Room A) (h : itemsOf f vs hp = some r) (ht : tgtOk t r.1.2 = true)
    (hv : Paired (VR ρ) vs Vs) (R : Rel h₀ C env ρ { σ with hp := hp } s.heap) :
    ∃ T, bootBuiltins f = some (.type T) ∧ f ∈ (["len", "sum", "chr", "range", "enumerate", "zip", "list"] : List Str) ∧ (f == ("__debug__" : Str)) = false ∧ Made prog w A h₀ C env ρ σ s E hp T Vs t r := by
  unfold itemsOf at h
  by_cases c1 : f = "range"
  · rw [if_pos c1] at h; subst c1
    exact ⟨"range", boot_range', by decide, by decide, made_range hr h ht hv R⟩
  · rw [if_neg c1] at h
    by_cases c2 : f = "enumerate"
    · rw [if_pos c2] at h; subst c2
      exact ⟨"enumerate", boot_enum', by decide, by decide, made_enum hr h ht hv R⟩
    · rw [if_neg c2] at h
      by_cases c3 : f = "zip"
      · rw [if_pos c3] at h; subst c3
        exact ⟨"zip", boot_zip', by decide, by decide, made_zip hr h ht hv R⟩
      · rw [if_neg c3] at h; exact no1 h
end
end Mine

namespace Mine
open PySem PyProof.Rows PySem.Calls

/-- what a statement may change: its frame's locals, cells, its own objects that are not frozen -/
structure KS (C : Cx) (env : Env) (ρ : List Addr) (fz : List Nat) (s s' : Shared) : Prop where
  keep : ∀ b o, s.heap.get? b = some o → b ≠ env.locals → (∀ x, C.kind x = some .cell → env.cells.lookup x ≠ some b) → (∀ n : Nat, ρ[n]? = some b → n ∈ fz) → s'.heap.get? b = some o
  drawn : s'.drawn = s.drawn
  os : s'.os = s.os
  gold : ∀ (i : Nat) x, s.gens[i]? = some x → s'.gens[i]? = some x
  bare : AllBare s.gens → AllBare s'.gens

section
variable {C : Cx} {env : Env} {ρ ρ' : List Addr} {fz : List Nat} {s s' s'' : Shared}
theorem KA.ks (k : KA s s') : KS C env ρ fz s s' := ⟨fun b o e _ _ _ => k.keep b o e, k.drawn, k.os, k.gold, k.bare⟩
theorem KS.weak {fz' : List Nat} (k : KS C env [] fz' s s') : KS C env ρ fz s s' := ⟨fun b o e h1 h2 _ => k.keep b o e h1 h2 (by simp), k.drawn, k.os, k.gold, k.bare⟩
theorem KS.refl : KS C env ρ fz s s := KA.refl.ks
theorem KS.trans (k : KS C env ρ fz s s') (k' : KS C env (ρ ++ ρ') fz s' s'') (hf : ∀ a ∈ ρ', s.heap.get? a = none) : KS C env ρ fz s s'' :=
  ⟨fun b o e h1 h2 h3 => k'.keep b o (k.keep b o e h1 h2 h3) h1 h2 (fun n hn => by
      rcases Nat.lt_or_ge n ρ.length with hl | hl
      · rw [List.getElem?_append_left hl] at hn; exact h3 n hn
      · rw [List.getElem?_append_right hl] at hn
        rw [hf b (List.mem_of_getElem? hn)] at e
        exact nomatch e),
    k'.drawn.trans k.drawn, k'.os.trans k.os, fun i x e => k'.gold i x (k.gold i x e), fun e => k'.bare (k.bare e)⟩
theorem KS.trans0 (k : KS C env ρ fz s s') (k' : KS C env ρ fz s' s'') : KS C env ρ fz s s'' :=
  KS.trans (ρ' := []) k (by simpa using k') (by simp)
theorem KS.fresh {h₀ : Heap} {σ : AS} (k : KS C env ρ fz s s') (R : Rel h₀ C env (ρ ++ ρ') σ s'.heap) {a : Addr} (ha : s'.heap.get? a = none) : s.heap.get? a = none := by
  cases e : s.heap.get? a with
  | none => rfl
  | some o =>
    exfalso
    have h1 : a ≠ env.locals := by rintro rfl; obtain ⟨_, z⟩ := R.liveL; rw [ha] at z; cases z
    have h2 : ∀ x, C.kind x = some .cell → env.cells.lookup x ≠ some a := fun x hx hl => by obtain ⟨_, z⟩ := R.liveC hx hl; rw [ha] at z; cases z
    have h3 : ∀ n : Nat, ρ[n]? = some a → n ∈ fz := fun n hn => by
      obtain ⟨_, z⟩ := R.live (List.mem_append_left _ (List.mem_of_getElem? hn)); rw [ha] at z; cases z
    rw [k.keep a o e h1 h2 h3] at ha; cases ha
end

section
variable {prog : Program} {w : World} {A : Around} {h₀ : Heap} {C : Cx} {env : Env} {ρ : List Addr} {σ σ' : AS} {s : Shared} {E : Value → Shared → Prop} {v : AV} {V : Value}

theorem EnvOk.fun_kind (O : EnvOk C env) : (env.scope.kind == .class || (env.scope.kind == .module && env.locals != env.globals)) = false := by rw [O.kind]; rfl
theorem EnvOk.ndbg (O : EnvOk C env) {x : Str} {k : NameKind} (h : C.kind x = some k) : (x == ("__debug__" : Str)) = false := by
  rw [beq_eq_false_iff_ne]
  rintro rfl
  rw [O.dbg] at h; cases h

theorem store_sound {x : Str} (O : EnvOk C env) (h : setVar C x v σ = some σ') (hv : VR ρ v V) (R : Rel h₀ C env ρ σ s.heap) {Q : Unit → Shared → Prop}
    (hQ : ∀ s', Rel h₀ C env ρ σ' s'.heap → KS C env [] [] s s' → Q () s') : wpAny (model prog w) A (storeName env x V) Q E s := by
  unfold setVar at h
  split at h
  · rename_i hk; cases h
    obtain ⟨m, hn, hm⟩ := R.loc
    refine wpAny_storeName_local ((O.kindOf x).trans hk) hn (fun h' hn' hs' => hQ _ (R.setLocal hm hk hv hn' hs') ⟨fun b o e h1 _ _ => hs'.extBut b o h1 e, rfl, rfl, fun _ _ e => e, fun e => e⟩) O.fun_kind
  · rename_i hk; cases h
    obtain ⟨c, hc⟩ := O.cell x hk
    obtain ⟨ov, hcell, _⟩ := R.cel x c hk hc
    exact wpAny_storeName_cell O.kind ((O.kindOf x).trans hk) hc hcell fun h' hc' hs' => hQ _ (R.setCell hk hc hv hc' hs')
      ⟨fun b o e _ h2 _ => hs'.extBut b o (fun q => h2 x hk (q ▸ hc)) e, rfl, rfl, fun _ _ e => e, fun e => e⟩
  · cases h

theorem name_sound {x : Str} {mg mb : Str → Option Value} (K : CxOk prog w mg mb A C) (O : EnvOk C env) (T : Tp mg mb h₀) (h : getVar C x σ = some v) (R : Rel h₀ C env ρ σ s.heap) {Q : Value → Shared → Prop}
    (hQ : ∀ V, VR ρ v V → Q V s) : wpAny (model prog w) A (loadName env x) Q E s := by
  unfold getVar at h
  split at h
  · rename_i hk
    obtain ⟨m, V, hn, e, hv⟩ := R.getVar hk h
    exact wpAny_loadName_local O.kind ((O.kindOf x).trans hk) hn e (hQ V hv)
  · rename_i hk
    obtain ⟨c, hc⟩ := O.cell x hk
    obtain ⟨ov, hcell, r⟩ := R.cel x c hk hc
    obtain ⟨V, rfl, hv⟩ := r v h
    exact wpAny_loadName_cell O.kind ((O.kindOf x).trans hk) hc hcell (hQ V hv)
  · rename_i hk
    obtain ⟨rfl, rfl⟩ := K.glob x v h
    obtain ⟨t, ht⟩ := T.cmax
    have hg : s.heap.Ns env.globals mg := by rw [O.globals]; exact T.g.keeps R.base
    unfold loadName
    simp only [Env.blockKind, O.kind, (O.kindOf _).trans hk, ScopeKind.isAnnotationScope, Bool.false_and, Bool.false_eq_true, if_false]
    exact loadGlobal_global hg ht (hQ _ vInt)
  · cases h

theorem store_local {x : Str} (O : EnvOk C env) (hk : C.kind x = some .local) (h : setVar C x v σ = some σ') (hv : VR ρ v V) (R : Rel h₀ C env ρ σ s.heap) {Q : Unit → Shared → Prop}
    (hQ : ∀ h' tk, Rel h₀ C env ρ σ' h' → (∀ b o, b ≠ env.locals → s.heap.get? b = some o → h'.get? b = some o) → Q () { s with heap := h', toks := tk }) : wpAny (model prog w) A (storeName env x V) Q E s := by
  unfold setVar at h
  rw [hk] at h
  cases h
  obtain ⟨m, hn, hm⟩ := R.loc
  exact wpAny_storeName_local ((O.kindOf x).trans hk) hn (fun h' hn' hs' => hQ h' _ (R.setLocal hm hk hv hn' hs') fun b o h1 e => hs'.extBut b o h1 e) O.fun_kind

/-- a target of locals -/
noncomputable def TgtL (C : Cx) : Expr → Prop
  | .Name x _ => C.kind x = some .local
  | .Tuple [.Name x _, .Name y _] _ _ => C.kind x = some .local ∧ C.kind y = some .local
  | _ => False

/-- a block's target is bound: its own locals alone turn -/
theorem bind_local {t : Expr} {it : It} (hr : Room A) (O : EnvOk C env) (ht : TgtL C t)
    (h : bindT C t it σ = some σ') (hv : ItR ρ s.heap it V) (R : Rel h₀ C env ρ σ s.heap) {Q : Unit → Shared → Prop}
    (hQ : ∀ h' tk, Rel h₀ C env ρ σ' h' → (∀ b o, b ≠ env.locals → s.heap.get? b = some o → h'.get? b = some o) → Q () { s with heap := h', toks := tk }) : wpAny (model prog w) A (assign t env V) Q E s := by
  cases t with
  | Name x p =>
    cases it with
    | one v => exact wpAny_assign_Name (store_local O ht h hv R hQ)
    | two _ _ => cases h
  | Tuple es k r =>
   cases it with
   | one _ => cases h
   | two a b =>
    obtain ⟨xy, h0, h⟩ := Option.bind_eq_some_iff.mp h
    obtain ⟨p, q, rfl⟩ := pair_inv h0
    obtain ⟨x, y⟩ := xy
    obtain ⟨σ₁, h1, h2⟩ := Option.bind_eq_some_iff.mp h
    obtain ⟨T, Va, Vb, rfl, hT, hA, hB⟩ := hv
    refine wpAny_assign_Tuple hr.handled hT rfl rfl fun h' he => ?_
    have hk : ∀ b o, s.heap.get? b = some o → h'.get? b = some o := fun b o e => he b o (Nat.ne_of_lt (Heap.lt_size e)) e
    show wpAny (model prog w) A (assignInOrder [assign (.Name x p) env, assign (.Name y q) env] [Va, Vb]) Q E { s with heap := h' }
    simp only [assignInOrder]
    refine wpAny_bind (wpAny_holding (wpAny_assign_Name (store_local (s := { s with heap := h' }) O ht.1 h1 hA (R.keeps hk) fun s₁ tk₁ R₁ k₁ => ?_)))
    refine wpAny_bind (wpAny_holding (wpAny_assign_Name (store_local O ht.2 h2 hB R₁ fun s₂ tk₂ R₂ k₂ => ?_)))
    exact wpAny_pure (hQ s₂ tk₂ R₂ fun b o h1 e => k₂ b o h1 (k₁ b o h1 (hk b o e)))
  | _ => cases h

/-- a loop's target is bound -/
theorem bind_sound {t : Expr} {it : It} (hr : Room A) (O : EnvOk C env) (h : bindT C t it σ = some σ') (hv : ItR ρ s.heap it V) (R : Rel h₀ C env ρ σ s.heap) {Q : Unit → Shared → Prop}
    (hQ : ∀ s', Rel h₀ C env ρ σ' s'.heap → KS C env [] [] s s' → Q () s') : wpAny (model prog w) A (assign t env V) Q E s := by
  cases t with
  | Name x p =>
    cases it with
    | one v => exact wpAny_assign_Name (store_sound O h hv R hQ)
    | two _ _ => cases h
  | Tuple es k r =>
   cases it with
   | one _ => cases h
   | two a b =>
    obtain ⟨xy, h0, h⟩ := Option.bind_eq_some_iff.mp h
    obtain ⟨p, q, rfl⟩ := pair_inv h0
    obtain ⟨x, y⟩ := xy
    obtain ⟨σ₁, h1, h2⟩ := Option.bind_eq_some_iff.mp h
    obtain ⟨T, Va, Vb, rfl, hT, hA, hB⟩ := hv
    refine wpAny_assign_Tuple hr.handled hT rfl rfl fun h' he => ?_
    have hk : ∀ b o, s.heap.get? b = some o → h'.get? b = some o := fun b o e => he b o (Nat.ne_of_lt (Heap.lt_size e)) e
    show wpAny (model prog w) A (assignInOrder [assign (.Name x p) env, assign (.Name y q) env] [Va, Vb]) Q E { s with heap := h' }
    simp only [assignInOrder]
    refine wpAny_bind (wpAny_holding (wpAny_assign_Name (store_sound (s := { s with heap := h' }) O h1 hA (R.keeps hk) fun s₁ R₁ k₁ => ?_)))
    refine wpAny_bind (wpAny_holding (wpAny_assign_Name (store_sound O h2 hB R₁ fun s₂ R₂ k₂ => ?_)))
    refine wpAny_pure (hQ s₂ R₂ ?_)
    exact KS.trans0 (KS.trans0 (KA.ks (KA.heap (s := s) s.toks hk)) k₁) k₂
  | _ => cases h
end
end Mine

namespace Mine
open PySem PyProof.Rows PySem.Calls

/-! ## expressions -/
noncomputable def PT (h₀ : Heap) (C : Cx) (env : Env) (ρ : List Addr) (σ : AS) (s : Shared) (b : Bool) (hp' : List AO) : Bool → Shared → Prop :=
  fun b' s' => b' = b ∧ ∃ ρ', Rel h₀ C env (ρ ++ ρ') { σ with hp := hp' } s'.heap ∧ (∀ a ∈ ρ', s.heap.get? a = none) ∧ KA s s'
noncomputable def PL (h₀ : Heap) (C : Cx) (env : Env) (ρ : List Addr) (σ : AS) (s : Shared) (vs : List AV) (hp' : List AO) : List Value → Shared → Prop :=
  fun Vs s' => ∃ ρ', Paired (VR (ρ ++ ρ')) vs Vs ∧ Rel h₀ C env (ρ ++ ρ') { σ with hp := hp' } s'.heap ∧ (∀ a ∈ ρ', s.heap.get? a = none) ∧ KA s s'
noncomputable def PB (h₀ : Heap) (C : Cx) (env : Env) (ρ : List Addr) (σ : AS) (s : Shared) (l : Option Int) (hp' : List AO) : Value → Shared → Prop :=
  fun V s' => ∃ ρ', BR l V ∧ Rel h₀ C env (ρ ++ ρ') { σ with hp := hp' } s'.heap ∧ (∀ a ∈ ρ', s.heap.get? a = none) ∧ KA s s'

section
variable {h₀ : Heap} {C : Cx} {env : Env} {ρ ρ' : List Addr} {σ : AS} {s s₁ s₂ : Shared} {hp : List AO}
theorem fresh_then {ρ'' : List Addr} (hf : ∀ a ∈ ρ', s.heap.get? a = none) (k : KA s s₁) (hf' : ∀ a ∈ ρ'', s₁.heap.get? a = none) : ∀ a ∈ ρ' ++ ρ'', s.heap.get? a = none := fun a ha => by
  rcases List.mem_append.mp ha with h | h
  · exact hf a h
  · exact k.fresh (hf' a h)
theorem PE.after {v : AV} {V : Value} (hf : ∀ a ∈ ρ', s.heap.get? a = none) (k : KA s s₁) (h : PE h₀ C env (ρ ++ ρ') σ s₁ v hp V s₂) : PE h₀ C env ρ σ s v hp V s₂ := by
  obtain ⟨ρ'', h1, h2, h3, h4⟩ := h
  exact ⟨ρ' ++ ρ'', by rw [← List.append_assoc]; exact h1, by rw [← List.append_assoc]; exact h2, fresh_then hf k h3, k.trans h4⟩
theorem PT.after {b b' : Bool} (hf : ∀ a ∈ ρ', s.heap.get? a = none) (k : KA s s₁) (h : PT h₀ C env (ρ ++ ρ') σ s₁ b hp b' s₂) : PT h₀ C env ρ σ s b hp b' s₂ := by
  obtain ⟨e, ρ'', h2, h3, h4⟩ := h
  exact ⟨e, ρ' ++ ρ'', by rw [← List.append_assoc]; exact h2, fresh_then hf k h3, k.trans h4⟩
theorem PI.after {prog : Program} {w : World} {A : Around} {t : Expr} {items : List It} {fz' : List Nat} {V : Value} (hf : ∀ a ∈ ρ', s.heap.get? a = none) (k : KA s s₁) (h : PI prog w A h₀ C env (ρ ++ ρ') σ s₁ t items fz' hp V s₂) :
    PI prog w A h₀ C env ρ σ s t items fz' hp V s₂ := by
  obtain ⟨ρ'', I, rd, St, W, rfl, h2, h3, h4, h5, h6, h7, h8⟩ := h
  rw [List.append_assoc] at h2 h5 h8
  exact ⟨ρ' ++ ρ'', I, rd, St, W, rfl, h2, fresh_then hf k h3, k.trans h4, h5, h6, fun b hb => ⟨k.fresh (h7 b hb).1, by rw [← List.append_assoc]; exact (h7 b hb).2⟩, h8⟩
end

structure Snd (prog : Program) (w : World) (mg mb : Str → Option Value) (n : Nat) : Prop where
  e : ∀ {A : Around} {C : Cx} {env : Env} {h₀ : Heap} {e : Expr} {σ : AS} {v : AV} {hp' : List AO}, CxOk prog w mg mb A C → EnvOk C env → Tp mg mb h₀ → evE C n e σ = some (v, hp') →
    ∀ {ρ : List Addr} {s : Shared} {E : Value → Shared → Prop}, Rel h₀ C env ρ σ s.heap → wpAny (model prog w) A (eval e env) (PE h₀ C env ρ σ s v hp') E s
  t : ∀ {A : Around} {C : Cx} {env : Env} {h₀ : Heap} {e : Expr} {σ : AS} {b : Bool} {hp' : List AO}, CxOk prog w mg mb A C → EnvOk C env → Tp mg mb h₀ → evT C n e σ = some (b, hp') →
    ∀ {ρ : List Addr} {s : Shared} {E : Value → Shared → Prop}, Rel h₀ C env ρ σ s.heap → wpAny (model prog w) A (isTrue e env (eval e env)) (PT h₀ C env ρ σ s b hp') E s
  a : ∀ {A : Around} {C : Cx} {env : Env} {h₀ : Heap} {es : List Expr} {σ : AS} {b : Bool} {hp' : List AO}, CxOk prog w mg mb A C → EnvOk C env → Tp mg mb h₀ → evA C n es σ = some (b, hp') →
    ∀ {ρ : List Addr} {s : Shared} {E : Value → Shared → Prop}, Rel h₀ C env ρ σ s.heap → wpAny (model prog w) A (allTrue .And es env) (PT h₀ C env ρ σ s b hp') E s
  l : ∀ {A : Around} {C : Cx} {env : Env} {h₀ : Heap} {es : List Expr} {σ : AS} {vs : List AV} {hp' : List AO} (pos : Pos), CxOk prog w mg mb A C → EnvOk C env → Tp mg mb h₀ → evL C n es σ = some (vs, hp') →
    ∀ {ρ : List Addr} {s : Shared} {E : Value → Shared → Prop}, Rel h₀ C env ρ σ s.heap → wpAny (model prog w) A (spliced (backTo pos (starEach es env))) (PL h₀ C env ρ σ s vs hp') E s
  b : ∀ {A : Around} {C : Cx} {env : Env} {h₀ : Heap} {e : Option Expr} {σ : AS} {l : Option Int} {hp' : List AO}, CxOk prog w mg mb A C → EnvOk C env → Tp mg mb h₀ → evB C n e σ = some (l, hp') →
    ∀ {ρ : List Addr} {s : Shared} {E : Value → Shared → Prop}, Rel h₀ C env ρ σ s.heap → wpAny (model prog w) A (evalPart e env) (PB h₀ C env ρ σ s l hp') E s
  i : ∀ {A : Around} {C : Cx} {env : Env} {h₀ : Heap} {t e : Expr} {σ : AS} {items : List It} {fz' : List Nat} {hp' : List AO}, CxOk prog w mg mb A C → EnvOk C env → Tp mg mb h₀ → evI C n t e σ = some (items, fz', hp') →
    ∀ {ρ : List Addr} {s : Shared} {E : Value → Shared → Prop}, Rel h₀ C env ρ σ s.heap →
      wpAny (model prog w) A (eval e env) (fun xv s₁ => wpAny (model prog w) A (pyIter xv) (PI prog w A h₀ C env ρ σ s t items fz' hp') E s₁) E s

/-! ### a comprehension's block -/
noncomputable def closL (env : Env) : List (Str × NameKind) → List (Str × Addr) → List (Str × Addr)
  | [], acc => acc
  | (n, k) :: r, acc => closL env r (if k == .free then (n, (env.cells.lookup n).getD 0) :: acc else acc)
theorem clos_go {env : Env} : ∀ (l : List (Str × NameKind)) (acc : List (Str × Addr)), (∀ p ∈ l, p.2 = .free → ∃ c, env.cells.lookup p.1 = some c) →
    (forIn l acc fun p cs => (if p.2 == .free then (do let c ← cellOf env p.1; pure (ForInStep.yield ((p.1, c) :: cs))) else pure (ForInStep.yield cs) : Sem (ForInStep (List (Str × Addr))))) = pure (closL env l acc)
  | [], acc, _ => rfl
  | (n, k) :: r, acc, h => by
    have ih := fun acc => clos_go r acc fun p hp => h p (List.mem_cons_of_mem _ hp)
    rw [List.forIn_cons, closL]
    by_cases hk : k = .free
    · subst hk
      obtain ⟨c, hc⟩ := h (n, .free) List.mem_cons_self rfl
      have e : cellOf env n = pure c := by unfold cellOf; rw [hc]
      simp only [beq_self_eq_true, if_true, e, pure_bind, hc, Option.getD_some]
      exact ih _
    · have hb : (k == NameKind.free) = false := by simpa using hk
      simp only [hb, Bool.false_eq_true, if_false, pure_bind]
      exact ih _
theorem closureFor_eq {scope : Scope} {env : Env} (h : ∀ p ∈ scope.names, p.2 = .free → ∃ c, env.cells.lookup p.1 = some c) : closureFor scope env = pure (closL env scope.names []) := by
  have e : closureFor scope env = Bind.bind (forIn scope.names ([] : List (Str × Addr)) fun p cs => (if p.2 == .free then (do let c ← cellOf env p.1; pure (ForInStep.yield ((p.1, c) :: cs))) else pure (ForInStep.yield cs) : Sem (ForInStep (List (Str × Addr))))) (fun r => pure r) := rfl
  rw [e, clos_go scope.names [] h]
  rfl
theorem closL_lookup {env : Env} : ∀ (l : List (Str × NameKind)) (acc : List (Str × Addr)) (x : Str), (∀ p ∈ l, p.2 = .free → ∃ c, env.cells.lookup p.1 = some c) →
    (closL env l acc).lookup x = (if (x, NameKind.free) ∈ l then env.cells.lookup x else acc.lookup x)
  | [], acc, x, _ => by simp [closL]
  | (n, k) :: r, acc, x, h => by
    rw [closL, closL_lookup r _ x fun p hp => h p (List.mem_cons_of_mem _ hp)]
    by_cases hr : (x, NameKind.free) ∈ r
    · simp [hr]
    · rw [if_neg hr]
      by_cases hk : k = .free
      · subst hk
        obtain ⟨c, hc⟩ := h (n, .free) List.mem_cons_self rfl
        simp only at hc
        by_cases hx : x = n
        · subst hx; simp [hc]
        · have hb : (x == n) = false := by simpa using hx
          simp [hx, hr, List.lookup_cons, hb]
      · have hb : (k == NameKind.free) = false := by simpa using hk
        simp only [hb, Bool.false_eq_true, if_false]
        rw [if_neg]
        simp [hr, Ne.symm hk]

theorem relabel_names {C : Cx} {scope : Scope} {env : Env} (O : EnvOk C env) (h : ∀ p ∈ scope.names, p.2 = .free → C.kind p.1 = some .cell) : (relabel scope env).names = relabelNames scope.names := by
  unfold relabel relabelNames
  refine List.map_congr_left fun p hp => ?_
  obtain ⟨n, k⟩ := p
  by_cases hk : k = .free
  · subst hk
    have : env.kindOf n = some .cell := (O.kindOf n).trans (h (n, .free) hp rfl)
    simp [this, O.kind]
  · have hb : (k == NameKind.free) = false := by simpa using hk
    simp [hb, hk]
theorem relabel_lookup : ∀ (l : List (Str × NameKind)) (x : Str), (relabelNames l).lookup x = (l.lookup x).map fun k => if k = .free then .cell else k
  | [], _ => rfl
  | (n, k) :: r, x => by
    unfold relabelNames
    rw [List.map_cons]
    show List.lookup x ((if k = NameKind.free then (n, NameKind.cell) else (n, k)) :: relabelNames r) = _
    by_cases hk : k = .free <;> by_cases hx : (x == n) = true
    · simp [hk, List.lookup_cons, hx]
    · simp [hk, List.lookup_cons, hx, relabel_lookup r x]
    · simp [hk, List.lookup_cons, hx]
    · simp [hk, List.lookup_cons, hx, relabel_lookup r x]

structure CompFit (C : Cx) (scope : Scope) : Prop where
  kind : scope.kind = .function
  own : ∀ p ∈ scope.names, scope.names.lookup p.1 = some p.2
  noCell : ∀ p ∈ scope.names, p.2 ≠ .cell
  free : ∀ p ∈ scope.names, p.2 = .free → C.kind p.1 = some .cell
  dbg : scope.names.lookup ("__debug__" : Str) = none
theorem compFit_of {C : Cx} {scope : Scope} (h : compOk C scope = true) : CompFit C scope := by
  unfold compOk at h
  rw [Bool.and_eq_true_iff, Bool.and_eq_true_iff, decide_eq_true_eq, List.all_eq_true] at h
  obtain ⟨⟨h1, h2⟩, h3⟩ := h
  have h2' : ∀ p ∈ scope.names, scope.names.lookup p.1 = some p.2 ∧ p.2 ≠ .cell ∧ (p.2 = .free → C.kind p.1 = some .cell) := fun p hp => by
    have := h2 p hp
    rw [Bool.and_eq_true_iff, Bool.and_eq_true_iff, decide_eq_true_eq, decide_eq_true_eq, Bool.or_eq_true, decide_eq_true_eq, decide_eq_true_eq] at this
    exact ⟨this.1.1, this.1.2, fun e => this.2.resolve_left (fun q => q e)⟩
  exact ⟨h1, fun p hp => (h2' p hp).1, fun p hp => (h2' p hp).2.1, fun p hp => (h2' p hp).2.2, by simpa using h3⟩

theorem mem_of_lk {l : List (Str × NameKind)} {x : Str} {k : NameKind} (h : l.lookup x = some k) : (x, k) ∈ l := PySem.mem_of_lookup h

/-- the cells that a block's names stand for are the frame's -/
theorem inner_cell {C : Cx} {scope : Scope} {env : Env} (O : EnvOk C env) (F : CompFit C scope) {x : Str} (hx : (C.inner scope).kind x = some .cell) :
    C.kind x = some .cell ∧ scope.names.lookup x = some .free ∧ (closL env scope.names []).lookup x = env.cells.lookup x := by
  have h1 : (scope.names.lookup x).map (fun k => if k = NameKind.free then NameKind.cell else k) = some .cell := by rw [← relabel_lookup]; exact hx
  obtain ⟨k, h2, h3⟩ := Option.map_eq_some_iff.mp h1
  have hm := mem_of_lk h2
  have hk : k = .free := by
    by_cases hk : k = .free
    · exact hk
    · rw [if_neg hk] at h3; exact absurd h3 (F.noCell _ hm)
  subst hk
  refine ⟨F.free _ hm rfl, h2, ?_⟩
  rw [closL_lookup _ _ _ fun p hp hf => O.cell p.1 (F.free p hp hf), if_pos hm]
theorem inner_local {C : Cx} {scope : Scope} {x : Str} (hx : (C.inner scope).kind x = some .local) : scope.names.lookup x = some .local := by
  have h1 : (scope.names.lookup x).map (fun k => if k = NameKind.free then NameKind.cell else k) = some .local := by rw [← relabel_lookup]; exact hx
  obtain ⟨k, h2, h3⟩ := Option.map_eq_some_iff.mp h1
  by_cases hk : k = .free
  · rw [if_pos hk] at h3; cases h3
  · rw [if_neg hk] at h3; subst h3; exact h2

theorem inner_env {C : Cx} {scope : Scope} {env : Env} {L : Addr} (O : EnvOk C env) (F : CompFit C scope) : EnvOk (C.inner scope) (compEnvC scope (closL env scope.names []) L env) where
  kind := F.kind
  names := relabel_names O F.free
  globals := O.globals
  builtins := O.builtins
  cell := fun x hx => by
    obtain ⟨h1, h2, h3⟩ := inner_cell O F hx
    obtain ⟨c, hc⟩ := O.cell x h1
    exact ⟨c, h3.trans hc⟩
  dbg := by
    show (relabelNames scope.names).lookup _ = none
    rw [relabel_lookup, F.dbg]; rfl

/-- the block's state, out of the frame's -/
theorem inner_rel {h₀ h : Heap} {C : Cx} {scope : Scope} {env : Env} {L : Addr} {ρ : List Addr} {σ : AS} {m : Str → Option Value} (O : EnvOk C env) (F : CompFit C scope) (R : Rel h₀ C env ρ σ h) (hn : h.Ns L m)
    (hLc : ∀ x c, C.kind x = some .cell → env.cells.lookup x = some c → c ≠ L) (hLρ : L ∉ ρ) (hL0 : h₀.get? L = none) :
    Rel h₀ (C.inner scope) (compEnvC scope (closL env scope.names []) L env) ρ { vars := innerVars scope σ, hp := σ.hp, fz := σ.fz } h where
  base := R.base
  loc := ⟨m, hn, fun x v hx hv => by
    have h1 := inner_local hx
    simp only [innerVars] at hv
    rw [h1] at hv
    simp at hv⟩
  cel := fun x c hx hc => by
    obtain ⟨h1, h2, h3⟩ := inner_cell O F hx
    have hc' : env.cells.lookup x = some c := h3.symm.trans hc
    obtain ⟨ov, hcell, r⟩ := R.cel x c h1 hc'
    refine ⟨ov, hcell, fun v hv => r v ?_⟩
    simp only [innerVars, h2, if_true] at hv
    exact hv
  len := R.len
  obj := R.obj
  nodup := R.nodup
  locN := hL0
  locρ := hLρ
  celN := fun x c hx hc => by
    obtain ⟨h1, h2, h3⟩ := inner_cell O F hx
    have hc' : env.cells.lookup x = some c := h3.symm.trans hc
    exact ⟨(R.celN x c h1 hc').1, hLc x c h1 hc', (R.celN x c h1 hc').2.2⟩
  celI := fun x y c hx hy hcx hcy => by
    obtain ⟨h1, _, h3⟩ := inner_cell O F hx
    obtain ⟨h1', _, h3'⟩ := inner_cell O F hy
    exact R.celI x y c h1 h1' (h3.symm.trans hcx) (h3'.symm.trans hcy)
  objN := R.objN
end Mine

namespace Mine
open PySem PyProof.Rows PySem.Calls

/-! ## comprehensions -/
noncomputable def tests (ifs : List Expr) (env : Env) : Sem Bool :=
  forIn ifs true fun c r => if r = true then do let ok ← isTrue c env (eval c env); pure (ForInStep.yield ok) else pure (ForInStep.yield r)

section
variable {prog : Program} {w : World} {A : Around} {R : Result → Shared → Prop} {s : Shared}

theorem compLoop_any {elt target iter : Expr} {ifs : List Expr} {scope : Scope} {pos : Pos} {it acc : Value} {env : Env} (I : Nat → Shared → Prop)
    (turn : ∀ n s, I n s → wpAny (model prog w) A (pyNext it) (fun r s₁ => match r with
      | none => R (.ok .next) s₁
      | some v => wpAny (model prog w) A (letOwnedTupleGo target it v) (fun _ s₂ => wpAny (model prog w) A (assign target env v) (fun _ s₃ =>
          wpAny (model prog w) A (tests ifs env) (fun ok s₄ =>
            if ok = true then wpAny (model prog w) A (eval elt env) (fun x s₅ =>
              wpAny (model prog w) A (call (.builtin "list.append") [acc, x]) (fun _ s₆ => ∃ m, m < n ∧ I m s₆) (notedBy (model prog w) A env fun e s' => R (.error e) s') s₅) (notedBy (model prog w) A env fun e s' => R (.error e) s') s₄
            else ∃ m, m < n ∧ I m s₄) (notedBy (model prog w) A env fun e s' => R (.error e) s') s₃) (notedBy (model prog w) A env fun e s' => R (.error e) s') s₂) (notedBy (model prog w) A env fun e s' => R (.error e) s') s₁) (notedBy (model prog w) A env fun e s' => R (.error e) s') s)
    (n : Nat) (h : I n s) : codeAny (model prog w) A (.compLoop (.ListComp elt [⟨target, iter, ifs, 0⟩] scope pos) 0 it acc env) R s := by
  refine codeAny_loop rfl I (fun n s hI => ?_) n h
  show wpAny _ A ((compTurn (.ListComp elt [⟨target, iter, ifs, 0⟩] scope pos) 0 it acc env).onRaise (fun x => do noteFrame x env; theTreesLotGoes x)) _ _ s
  refine wpAny_noted ?_
  rw [compTurn_list]
  refine wpAny_bind (wpAny_standAt (wpAny_bind (wpAny_mono (turn n s hI) (fun r s₁ h₁ => ?_) fun _ _ h' => h')))
  cases r with
  | none => exact wpAny_pure h₁
  | some v =>
    refine wpAny_bind (wpAny_mono h₁ (fun _ s₂ h₂ => ?_) fun _ _ h' => h')
    refine wpAny_bind (wpAny_mono h₂ (fun _ s₃ h₃ => wpAny_bind (wpAny_mono h₃ (fun ok s₄ h₄ => ?_) fun _ _ h' => h')) fun _ _ h' => h')
    cases ok with
    | false => exact wpAny_pure ⟨rfl, h₄⟩
    | true =>
      exact wpAny_bind (wpAny_bind (wpAny_mono h₄ (fun x s₅ h₅ => wpAny_bind (wpAny_mono h₅ (fun _ s₆ h₆ => wpAny_pure (wpAny_pure ⟨rfl, h₆⟩)) fun _ _ h' => h')) fun _ _ h' => h'))
end

/-- a place that none of the frame's things is -/
structure Off (h₀ : Heap) (C : Cx) (env : Env) (ρ : List Addr) (s₀ : Shared) (L : Addr) : Prop where
  base : h₀.get? L = none
  start : s₀.heap.get? L = none
  loc : L ≠ env.locals
  cel : ∀ x, C.kind x = some .cell → env.cells.lookup x ≠ some L
  obj : L ∉ ρ

section
variable {h₀ : Heap} {C : Cx} {env : Env} {ρ : List Addr} {σ : AS} {s₀ s s' : Shared} {h h' : Heap} {L : Addr}
theorem Rel.off (R : Rel h₀ C env ρ σ s.heap) (k : KA s₀ s) (hL : s.heap.get? L = none) : Off h₀ C env ρ s₀ L where
  base := by
    cases e : h₀.get? L with
    | none => rfl
    | some o => rw [R.base L o e] at hL; cases hL
  start := k.fresh hL
  loc := by rintro rfl; obtain ⟨_, z⟩ := R.liveL; rw [hL] at z; cases z
  cel := fun x hx hl => by obtain ⟨_, z⟩ := R.liveC hx hl; rw [hL] at z; cases z
  obj := fun hm => by obtain ⟨_, z⟩ := R.live hm; rw [hL] at z; cases z
theorem Rel.but (R : Rel h₀ C env ρ σ h) (X : Addr → Prop) (hX : ∀ b, X b → Off h₀ C env ρ s₀ b) (hk : ∀ b o, ¬ X b → h.get? b = some o → h'.get? b = some o) : Rel h₀ C env ρ σ h' :=
  R.frame (fun b o e => hk b o (fun x => by rw [(hX b x).base] at e; cases e) (R.base b o e)) (fun o e => hk _ o (fun x => (hX _ x).loc rfl) e)
    (fun x c hx hc o e => hk c o (fun z => (hX c z).cel x hx hc) e) fun a ha o e => hk a o (fun x => (hX a x).obj ha) e
theorem KA.but (k : KA s₀ s) (X : Addr → Prop) (hX : ∀ b, X b → s₀.heap.get? b = none) (k' : Mv none [] s s' ∨ (∀ b o, ¬ X b → s.heap.get? b = some o → s'.heap.get? b = some o) ∧ s'.drawn = s.drawn ∧ s'.os = s.os ∧
    (∀ (i : Nat) x, s.gens[i]? = some x → s'.gens[i]? = some x) ∧ (AllBare s.gens → AllBare s'.gens)) : KA s₀ s' := by
  rcases k' with m | ⟨h1, h2, h3, h4, h5⟩
  · exact k.trans ⟨fun b o e => m.keep b o (by simp) e, m.drawn, m.os, fun i x e => m.gold i x (by simp) e, m.bare⟩
  · exact ⟨fun b o e => h1 b o (fun x => by rw [hX b x] at e; cases e) (k.keep b o e), h2.trans k.drawn, h3.trans k.os, fun i x e => h4 i x (k.gold i x e), fun e => h5 (k.bare e)⟩
end

theorem tgt_fit {C : Cx} {scope : Scope} {t : Expr} : tgtLoc scope t = true → TgtL (C.inner scope) t := by
  have one : ∀ x, scope.names.lookup x = some .local → (C.inner scope).kind x = some .local := fun x hx => by
    show (relabelNames scope.names).lookup x = _
    rw [relabel_lookup, hx]; rfl
  refine ex_cases (P := fun t => tgtLoc scope t = true → TgtL (C.inner scope) t) (fun e d h => Bool.noConfusion ((d.tl scope).symm.trans h)) (fun x p h => one _ (of_decide_eq_true h)) (fun es k r h => ?_) (fun _ _ _ _ h => Bool.noConfusion h) (fun _ _ _ h => Bool.noConfusion h) (fun _ _ _ _ h => Bool.noConfusion h) t
  change (match pairOf es with | some p => decide (scope.names.lookup p.1 = some .local) && decide (scope.names.lookup p.2 = some .local) | none => false) = true at h
  cases hp : pairOf es with
  | none => rw [hp] at h; cases h
  | some q =>
    rw [hp] at h
    obtain ⟨p, p', rfl⟩ := pair_inv hp
    simp only [Bool.and_eq_true_iff, decide_eq_true_eq] at h
    exact ⟨one _ h.1, one _ h.2⟩

/-- what stands behind a block -/
noncomputable def PEL (h₀ : Heap) (C : Cx) (env : Env) (ρ : List Addr) (σ : AS) (s : Shared) (v : AV) (hp' : List AO) (L : Addr) : Value → Shared → Prop :=
  fun V s' => ∃ ρ', VR (ρ ++ ρ') v V ∧ Rel h₀ C env (ρ ++ ρ') { σ with hp := hp' } s'.heap ∧ (∀ a ∈ ρ', s.heap.get? a = none) ∧ KA s s' ∧ (∃ m, s'.heap.Ns L m) ∧ Off h₀ C env (ρ ++ ρ') s L

section
variable {prog : Program} {w : World} {mg mb : Str → Option Value} {A : Around} {h₀ : Heap} {C : Cx} {env : Env} {ρ ρ₁ : List Addr} {σ : AS} {s₀ s₂ : Shared} {E : Value → Shared → Prop}

structure CI (h₀ : Heap) (C : Cx) (env : Env) (ρ₁ : List Addr) (σ₁ : AS) (s₀ : Shared) (St : Nat → List Addr → Shared → Prop) (step : It → Option (Option AV)) (items : List It) (ys : List AV) (D L : Addr) (i : Nat) (s : Shared) : Prop where
  le : i ≤ items.length
  rel : Rel h₀ C env ρ₁ σ₁ s.heap
  ka : KA s₀ s
  ns : ∃ m, s.heap.Ns L m
  st : ∃ W, St i W s ∧ ∀ b ∈ W, Off h₀ C env ρ₁ s₀ b ∧ b ≠ D ∧ b ≠ L
  acc : ∃ yv its rest, s.heap.PlainList D its ∧ Paired (VR []) yv its.toList ∧ compIt step (items.drop i) = some rest ∧ yv ++ rest = ys ∧ yv.length ≤ i

theorem comp_loop {elt iter target : Expr} {ifs : List Expr} {scope : Scope} {pos : Pos} {I D L : Addr} {items : List It} {ys : List AV} {rd : List Addr} {St : Nat → List Addr → Shared → Prop} {σ₁ : AS}
    {tst : AS → Option (Bool × List AO)} {el : AS → Option (AV × List AO)} {R : Result → Shared → Prop} (hr : Room A) (O : EnvOk C env) (F : CompFit C scope) (htl : tgtLoc scope target = true)
    (htst : ∀ {σ' : AS} {b : Bool} {hp'' : List AO} {ρ : List Addr} {s : Shared} {E : Value → Shared → Prop}, tst σ' = some (b, hp'') → Rel h₀ (C.inner scope) (compEnvC scope (closL env scope.names []) L env) ρ σ' s.heap →
      wpAny (model prog w) A (tests ifs (compEnvC scope (closL env scope.names []) L env)) (PT h₀ (C.inner scope) (compEnvC scope (closL env scope.names []) L env) ρ σ' s b hp'') E s)
    (hel : ∀ {σ' : AS} {v : AV} {hp'' : List AO} {ρ : List Addr} {s : Shared} {E : Value → Shared → Prop}, el σ' = some (v, hp'') → Rel h₀ (C.inner scope) (compEnvC scope (closL env scope.names []) L env) ρ σ' s.heap →
      wpAny (model prog w) A (eval elt (compEnvC scope (closL env scope.names []) L env)) (PE h₀ (C.inner scope) (compEnvC scope (closL env scope.names []) L env) ρ σ' s v hp'') E s)
    (hlen : items.length ≤ textLine) (hI : Itr prog w A (fun _ => True) target I none rd ρ₁ items true St) (hrd : ∀ b ∈ rd, b ∈ ρ₁) (oD : Off h₀ C env ρ₁ s₀ D) (oL : Off h₀ C env ρ₁ s₀ L) (hDL : D ≠ L)
    (hR : ∀ s' its, Rel h₀ C env ρ₁ σ₁ s'.heap → KA s₀ s' → (∃ m, s'.heap.Ns L m) → s'.heap.PlainList D its → Paired (VR []) ys its.toList → R (.ok .next) s')
    {s : Shared} (h : CI h₀ C env ρ₁ σ₁ s₀ St (compStep (C.inner scope) target { vars := innerVars scope σ₁, hp := σ₁.hp, fz := σ₁.fz } tst el) items ys D L 0 s) :
    codeAny (model prog w) A (.compLoop (.ListComp elt [⟨target, iter, ifs, 0⟩] scope pos) 0 (.ref I) (.ref D) (compEnvC scope (closL env scope.names []) L env)) R s := by
  refine compLoop_any (fun n s => ∃ i, i + n = items.length ∧ CI h₀ C env ρ₁ σ₁ s₀ St (compStep (C.inner scope) target { vars := innerVars scope σ₁, hp := σ₁.hp, fz := σ₁.fz } tst el) items ys D L i s) ?_ items.length ⟨0, by simp, h⟩
  intro n s hh
  refine hide fun _ up₀ => ?_
  obtain ⟨i, hin, c⟩ := hh
  obtain ⟨W, hS, hW⟩ := c.st
  obtain ⟨yv, its, rest, hD, hyv, hrest, hys, hyl⟩ := c.acc
  obtain ⟨m, hns⟩ := c.ns
  cases hx : items[i]? with
  | none =>
    have hi : items.length ≤ i := by simpa using hx
    have hi' : i = items.length := Nat.le_antisymm c.le hi
    subst hi'
    refine up₀ (hI.done rfl W s _ _ hS trivial fun s' mv => ?_)
    have keep : ∀ b o, ¬ b ∈ W → s.heap.get? b = some o → s'.heap.get? b = some o := mv.keep
    rw [List.drop_length, compIt] at hrest
    cases hrest
    rw [List.append_nil] at hys
    subst hys
    exact hR s' its (c.rel.but (· ∈ W) (fun b hb => (hW b hb).1) keep) (c.ka.but (· ∈ W) (fun b hb => (hW b hb).1.start) (.inr ⟨keep, mv.drawn, mv.os, fun i x e => mv.gold i x (by simp) e, mv.bare⟩))
      ⟨m, hns.at' fun o e => keep _ o (fun hb => (hW _ hb).2.2 rfl) e⟩ (hD.at fun o e => keep _ o (fun hb => (hW _ hb).2.1 rfl) e) hyv
  | some x =>
    refine up₀ ?_
    refine wpAny_mono (hI.next i W x s (fun v s₃ => wpAny (model prog w) A (assign target (compEnvC scope (closL env scope.names []) L env) v) (fun _ s₃ =>
          wpAny (model prog w) A (tests ifs (compEnvC scope (closL env scope.names []) L env)) (fun ok s₄ =>
            if ok = true then wpAny (model prog w) A (eval elt (compEnvC scope (closL env scope.names []) L env)) (fun x s₅ =>
              wpAny (model prog w) A (call (.builtin "list.append") [.ref D, x]) (fun _ s₆ => ∃ m, m < n ∧ ∃ i, i + m = items.length ∧ CI h₀ C env ρ₁ σ₁ s₀ St (compStep (C.inner scope) target { vars := innerVars scope σ₁, hp := σ₁.hp, fz := σ₁.fz } tst el) items ys D L i s₆) (notedBy (model prog w) A (compEnvC scope (closL env scope.names []) L env) fun e s' => R (.error e) s') s₅) (notedBy (model prog w) A (compEnvC scope (closL env scope.names []) L env) fun e s' => R (.error e) s') s₄
            else ∃ m, m < n ∧ ∃ i, i + m = items.length ∧ CI h₀ C env ρ₁ σ₁ s₀ St (compStep (C.inner scope) target { vars := innerVars scope σ₁, hp := σ₁.hp, fz := σ₁.fz } tst el) items ys D L i s₄) (notedBy (model prog w) A (compEnvC scope (closL env scope.names []) L env) fun e s' => R (.error e) s') s₃) (notedBy (model prog w) A (compEnvC scope (closL env scope.names []) L env) fun e s' => R (.error e) s') s₃) (notedBy (model prog w) A (compEnvC scope (closL env scope.names []) L env) fun e s' => R (.error e) s') hx hS trivial ?_) (fun r s₁ h₁ => ?_) fun _ _ e => e
    · intro V s₁ W' hV hS' mv hW'
      refine hide fun _ up₁ => ?_
      have hlt : i < items.length := get_lt hx
      have keep : ∀ b o, ¬ b ∈ W → s.heap.get? b = some o → s₁.heap.get? b = some o := mv.keep
      have R₁ : Rel h₀ C env ρ₁ σ₁ s₁.heap := c.rel.but (· ∈ W) (fun b hb => (hW b hb).1) keep
      have k₁ : KA s₀ s₁ := c.ka.but (· ∈ W) (fun b hb => (hW b hb).1.start) (.inr ⟨keep, mv.drawn, mv.os, fun i x e => mv.gold i x (by simp) e, mv.bare⟩)
      have hns₁ : s₁.heap.Ns L m := hns.at' fun o e => keep _ o (fun hb => (hW _ hb).2.2 rfl) e
      have hD₁ : s₁.heap.PlainList D its := hD.at fun o e => keep _ o (fun hb => (hW _ hb).2.1 rfl) e
      have hWW : ∀ b ∈ W', Off h₀ C env ρ₁ s₀ b ∧ b ≠ D ∧ b ≠ L := fun b hb => by
        rcases hW' b hb with hz | hz
        · exact hW b hz
        · refine ⟨c.rel.off c.ka hz, fun e => ?_, fun e => ?_⟩
          · obtain ⟨_, z⟩ := hD; rw [← e, hz] at z; exact nomatch z
          · obtain ⟨_, _, _, z, _⟩ := hns; rw [← e, hz] at z; exact nomatch z
      have hdr : items.drop i = x :: items.drop (i + 1) := by
        rw [List.drop_eq_getElem_cons hlt]
        have := List.getElem?_eq_getElem hlt
        rw [hx] at this
        cases this; rfl
      rw [hdr, compIt] at hrest
      obtain ⟨ov, hst, hrest⟩ := Option.bind_eq_some_iff.mp hrest
      obtain ⟨rest', hrest', hre⟩ := Option.map_eq_some_iff.mp hrest
      unfold compStep at hst
      obtain ⟨σ', hb, hst⟩ := Option.bind_eq_some_iff.mp hst
      obtain ⟨⟨b, hp''⟩, ht, hst⟩ := Option.bind_eq_some_iff.mp hst
      have Ri : Rel h₀ (C.inner scope) (compEnvC scope (closL env scope.names []) L env) ρ₁ { vars := innerVars scope σ₁, hp := σ₁.hp, fz := σ₁.fz } s₁.heap :=
        inner_rel O F R₁ hns₁ (fun x c hx hc e => oL.cel x hx (e ▸ hc)) oL.obj oL.base
      refine up₁ ?_
      refine bind_local hr (inner_env O F) (tgt_fit htl) hb hV Ri fun h₂ tk₂ R₂ k₂ => ?_
      have k₂' : ∀ b o, b ≠ L → s₁.heap.get? b = some o → h₂.get? b = some o := k₂
      refine wpAny_mono (htst (s := { s₁ with heap := h₂, toks := tk₂ }) ht R₂) (fun ok s₄ h₄ => ?_) fun _ _ e => e
      refine hide fun _ up₂ => ?_
      obtain ⟨rfl, ρ', R₄, _, k₄⟩ := h₄
      have up : ∀ b o, b ≠ L → s₁.heap.get? b = some o → s₄.heap.get? b = some o := fun b o hb e => k₄.keep b o (k₂' b o hb e)
      have g4 : s₄.drawn = s₁.drawn ∧ s₄.os = s₁.os ∧ (∀ (i : Nat) x, s₁.gens[i]? = some x → s₄.gens[i]? = some x) ∧ (AllBare s₁.gens → AllBare s₄.gens) := ⟨k₄.drawn, k₄.os, k₄.gold, k₄.bare⟩
      cases ok with
      | false =>
        simp only [Bool.false_eq_true, if_false] at hst
        cases hst
        refine up₂ ?_
        rw [if_neg Bool.false_ne_true]
        refine ⟨n - 1, by (clear hr O F htl htst hel hlen hI hrd oD oL hDL hR h c hS hW hD hyv hys hyl hns hx hV hS' mv hW' keep R₁ k₁ hns₁ hD₁ hWW hdr hrest' hb Ri R₂ k₂ k₂' R₄ k₄ up g4 ht hrest hre hst; omega), i + 1, by omega, hlt, R₁.but (· = L) (fun b e => e ▸ oL) up, k₁.but (· = L) (fun b e => e ▸ oL.start) (.inr ⟨up, g4⟩), ?_, ⟨W', ?_, hWW⟩, ⟨yv, its, rest', ?_, hyv, hrest', ?_, by (clear hr O F htl htst hel hlen hI hrd oD oL hDL hR h hin c hS hW hD hyv hys hns hx hV hS' mv hW' hlt keep R₁ k₁ hns₁ hD₁ hWW hdr hrest' hb Ri R₂ k₂ k₂' R₄ k₄ up g4 ht hrest hre hst; omega)⟩⟩
        · obtain ⟨m', hm', _⟩ := R₄.loc; exact ⟨m', hm'⟩
        · exact hI.frame _ _ _ _ hS' (fun b hb o e => up b o (hWW b hb).2.2 e) (fun b hb o e => up b o (fun z => oL.obj (z ▸ hrd b hb)) e) fun g x hg => by cases hg
        · exact hD₁.at fun o e => up _ o hDL e
        · simp only at hre; rw [← hys, hre]
      | true =>
        simp only [if_true] at hst
        obtain ⟨⟨v, hp₃⟩, he, hst⟩ := Option.bind_eq_some_iff.mp hst
        simp only at he hst
        split at hst
        case isFalse => cases hst
        rename_i hv
        cases hst
        refine up₂ ?_
        rw [if_pos rfl]
        refine wpAny_mono (hel he R₄) (fun V' s₅ h₅ => ?_) fun _ _ e => e
        refine hide fun _ up₃ => ?_
        obtain ⟨ρ'', hV', R₅, _, k₅⟩ := h₅
        refine up₃ ?_
        have hD₅ : s₅.heap.PlainList D its := hD₁.at fun o e => k₅.keep _ o (up _ o hDL e)
        refine wpAny_list_append_plain hD₅ (fun h₆ hD₆ hs₆ => ?_) (Nat.le_trans (Nat.le_of_eq (paired_len hyv)) (textLine_le (Nat.le_trans hyl (Nat.le_trans c.le hlen))))
        have up6 : ∀ b o, ¬ (b = L ∨ b = D) → s₁.heap.get? b = some o → h₆.get? b = some o := fun b o hb e => hs₆.extBut b o (fun z => hb (.inr z)) (k₅.keep b o (up b o (fun z => hb (.inl z)) e))
        have hof : ∀ b, b = L ∨ b = D → Off h₀ C env ρ₁ s₀ b := fun b e => by rcases e with rfl | rfl <;> assumption
        refine ⟨n - 1, by (clear hr O F htl htst hel hlen hI hrd oD oL hDL hR h up₀ c hS hW hD hyv hys hyl hns hx hV hS' mv hW' up₁ keep R₁ k₁ hns₁ hD₁ hWW hdr hrest' hb Ri R₂ k₂ k₂' R₄ k₄ up g4 up₂ ht he hv hrest hre hst up₃ hV' R₅ k₅ hD₅ hD₆ hs₆ up6 hof; omega), i + 1, by omega, hlt, R₁.but (fun b => b = L ∨ b = D) hof up6,
          k₁.but (fun b => b = L ∨ b = D) (fun b e => (hof b e).start) (.inr ⟨up6, k₅.drawn.trans g4.1, k₅.os.trans g4.2.1, fun i x e => k₅.gold i x (g4.2.2.1 i x e), fun e => k₅.bare (g4.2.2.2 e)⟩), ?_, ⟨W', ?_, hWW⟩, ⟨yv ++ [v], its.push V', rest', hD₆, ?_, hrest', ?_, by simp; omega⟩⟩
        · obtain ⟨m', hm', _⟩ := R₅.loc; exact ⟨m', hm'.sameBut hs₆ (Ne.symm hDL)⟩
        · exact hI.frame _ _ _ _ hS' (fun b hb o e => up6 b o (fun z => z.elim (hWW b hb).2.2 (hWW b hb).2.1) e) (fun b hb o e => up6 b o (fun z => z.elim (fun z => oL.obj (z ▸ hrd b hb)) (fun z => oD.obj (z ▸ hrd b hb))) e) fun g x hg => by cases hg
        · rw [Array.toList_push]; exact hyv.snoc (hV'.val hv)
        · simp only at hre; rw [← hys, ← hre]; simp
    · cases r with
      | none => exact h₁.elim
      | some v => exact h₁

/-- an object that stands and is none of the frame's yet becomes one of them -/
theorem Rel.take {h : Heap} {a : Addr} {o : AO} (R : Rel h₀ C env ρ σ h) (ha : Off h₀ C env ρ s₀ a) (ho : OR (ρ ++ [a]) h a o) : Rel h₀ C env (ρ ++ [a]) { σ with hp := σ.hp ++ [o] } h where
  base := R.base
  loc := let ⟨m, hn, r⟩ := R.loc; ⟨m, hn, fun x v h1 h2 => let ⟨V, e, z⟩ := r x v h1 h2; ⟨V, e, z.mono⟩⟩
  cel := fun x c hx hl => let ⟨ov, hc, r⟩ := R.cel x c hx hl; ⟨ov, hc, fun v hv => let ⟨V, e, z⟩ := r v hv; ⟨V, e, z.mono⟩⟩
  len := by simp [R.len]
  obj := fun n o' b e1 e2 => by
    rcases Nat.lt_or_ge n ρ.length with hn | hn
    · rw [List.getElem?_append_left hn] at e2
      rw [List.getElem?_append_left (R.len ▸ hn)] at e1
      exact (R.obj n o' b e1 e2).mono
    · rw [List.getElem?_append_right hn] at e2
      rw [List.getElem?_append_right (R.len ▸ hn)] at e1
      have hz : n - ρ.length = 0 := by
        rcases Nat.eq_zero_or_pos (n - ρ.length) with h | h
        · exact h
        · rw [List.getElem?_eq_none (by simp; (clear R ha ho e1 e2 hn; omega))] at e2; cases e2
      rw [hz] at e2
      rw [← R.len, hz] at e1
      simp at e1 e2
      subst e1 e2; exact ho
  nodup := by
    rw [List.nodup_append]
    refine ⟨R.nodup, by simp, fun b hb c hc e => ?_⟩
    simp at hc; subst hc; subst e
    exact ha.obj hb
  locN := R.locN
  locρ := by
    intro hm
    rcases List.mem_append.mp hm with hm | hm
    · exact R.locρ hm
    · simp at hm; exact ha.loc hm.symm
  celN := fun x c hx hl => by
    obtain ⟨h1, h2, h3⟩ := R.celN x c hx hl
    refine ⟨h1, h2, fun hm => ?_⟩
    rcases List.mem_append.mp hm with hm | hm
    · exact h3 hm
    · simp at hm; exact ha.cel x hx (hm ▸ hl)
  celI := R.celI
  objN := fun n b e hn => by
    rcases Nat.lt_or_ge n ρ.length with hl | hl
    · rw [List.getElem?_append_left hl] at e
      exact R.objN n b e hn
    · rw [List.getElem?_append_right hl] at e
      have : b = a := by
        have := List.mem_of_getElem? e
        simpa using this
      subst this
      exact ha.base

theorem ref_last {ρ₁ : List Addr} {hp : List AO} {D : Addr} (h : ρ₁.length = hp.length) : VR (ρ₁ ++ [D]) (.ref hp.length) (.ref D) :=
  ⟨D, by rw [List.getElem?_append_right (Nat.le_of_eq h), ← h, Nat.sub_self]; rfl, rfl⟩

theorem comp_block {elt iter target : Expr} {ifs : List Expr} {scope : Scope} {pos : Pos} {items : List It} {ys : List AV} {fz' : List Nat} {hp' : List AO} {it : Value}
    {tst : AS → Option (Bool × List AO)} {el : AS → Option (AV × List AO)} {RR : Value → Addr → Result → Shared → Prop} (hr : Room A) (O : EnvOk C env) (F : CompFit C scope) (htl : tgtLoc scope target = true)
    (htst : ∀ (L : Addr) {σ' : AS} {b : Bool} {hp'' : List AO} {ρ : List Addr} {s : Shared} {E : Value → Shared → Prop}, tst σ' = some (b, hp'') → Rel h₀ (C.inner scope) (compEnvC scope (closL env scope.names []) L env) ρ σ' s.heap →
      wpAny (model prog w) A (tests ifs (compEnvC scope (closL env scope.names []) L env)) (PT h₀ (C.inner scope) (compEnvC scope (closL env scope.names []) L env) ρ σ' s b hp'') E s)
    (hel : ∀ (L : Addr) {σ' : AS} {v : AV} {hp'' : List AO} {ρ : List Addr} {s : Shared} {E : Value → Shared → Prop}, el σ' = some (v, hp'') → Rel h₀ (C.inner scope) (compEnvC scope (closL env scope.names []) L env) ρ σ' s.heap →
      wpAny (model prog w) A (eval elt (compEnvC scope (closL env scope.names []) L env)) (PE h₀ (C.inner scope) (compEnvC scope (closL env scope.names []) L env) ρ σ' s v hp'') E s)
    (hlen : items.length ≤ textLine) (hys : compIt (compStep (C.inner scope) target { vars := innerVars scope σ, hp := hp', fz := σ.fz } tst el) items = some ys)
    (R₀ : Rel h₀ C env ρ σ s₀.heap) (hPI : PI prog w A h₀ C env ρ σ s₀ target items fz' hp' it s₂)
    (hRR : ∀ D L s', PEL h₀ C env ρ σ s₀ (.ref hp'.length) (hp' ++ [.list ys]) L (.ref D) s' → RR (.ref D) L (.ok .next) s') :
    wpAny (model prog w) A (newList []) (fun acc s₃ => wpAny (model prog w) A (newFunctionEnv scope env.globals (closL env scope.names []) [] env.qual none .none (some env)) (fun cenv s₄ =>
      codeAny (model prog w) A (.compStart (.ListComp elt [⟨target, iter, ifs, 0⟩] scope pos) 0 it acc { cenv with scope := relabel scope env }) (RR acc cenv.locals) s₄) E s₃) E s₂ := by
  obtain ⟨ρ', I, rd, St, W, rfl, R₂, hf, k₂, hI, hS, hW, hrd⟩ := hPI
  have offW : ∀ b ∈ W, Off h₀ C env (ρ ++ ρ') s₀ b := fun b hb => by
    obtain ⟨h1, h2⟩ := hW b hb
    have o1 := R₀.off KA.refl h1
    exact ⟨o1.base, o1.start, o1.loc, o1.cel, h2⟩
  refine wpAny_newObj_type (wpAny_newFunctionEnv F.noCell (by intro y hy; simp at hy) (fun h₁ hns₁ hsb₁ => ?_) F.kind)
  dsimp only at hns₁ hsb₁ ⊢
  generalize hH2 : s₂.heap.push { cls := .type "list", dict := none, data := .seq ([] : List Value).toArray } = H2 at hns₁ hsb₁ ⊢
  have hC : H2.objs.size = s₂.heap.objs.size + 1 := by rw [← hH2, Heap.size_push]
  have hDC : s₂.heap.objs.size ≠ H2.objs.size := by rw [hC]; exact Nat.ne_of_lt (Nat.lt_succ_self _)
  have below : ∀ b, b < s₂.heap.objs.size → b ≠ H2.objs.size ∧ b ≠ s₂.heap.objs.size := fun b hb => ⟨by rw [hC]; exact Nat.ne_of_lt (Nat.lt_succ_of_lt hb), Nat.ne_of_lt hb⟩
  have old : ∀ b o, s₂.heap.get? b = some o → h₁.get? b = some o := fun b o e => hsb₁.extBut b o (below b (Heap.lt_size e)).1 (Heap.get?_push_of_some _ (hH2 ▸ Heap.get?_push_of_some _ e))
  have hacc : h₁.PlainList s₂.heap.objs.size #[] := ⟨_, hsb₁.extBut _ _ hDC (Heap.get?_push_of_some _ (hH2 ▸ Heap.get?_push_size _ rfl))⟩
  have fresh : ∀ a, s₂.heap.objs.size ≤ a → s₂.heap.get? a = none := fun a ha => by
    cases e : s₂.heap.get? a with
    | none => rfl
    | some o' => exact absurd (Heap.lt_size e) (Nat.not_lt.mpr ha)
  have oD : Off h₀ C env (ρ ++ ρ') s₀ s₂.heap.objs.size := R₂.off k₂ (fresh _ (Nat.le_refl _))
  have oL : Off h₀ C env (ρ ++ ρ') s₀ H2.objs.size := R₂.off k₂ (fresh _ (by rw [hC]; exact Nat.le_succ _))
  have hSt1 : ∀ s₃ : Shared, s₃ = { s₂ with heap := h₁, toks := s₂.toks + ([] : List (Str × Value)).length } → St 0 W s₃ := by
    rintro s₃ rfl
    exact hI.frame _ _ _ _ hS (fun b _ o e => old b o e) (fun b _ o e => old b o e) fun g x hg => by cases hg
  have loop : ∀ s₃ : Shared, s₃ = { s₂ with heap := h₁, toks := s₂.toks + ([] : List (Str × Value)).length } →
      codeAny (model prog w) A (.compLoop (.ListComp elt [⟨target, iter, ifs, 0⟩] scope pos) 0 (.ref I) (.ref s₂.heap.objs.size) (compEnvC scope (closL env scope.names []) H2.objs.size env))
        (RR (.ref s₂.heap.objs.size) H2.objs.size) s₃ := by
    intro s₃ e₃
    have hSt := hSt1 s₃ e₃
    subst e₃
    refine comp_loop (σ₁ := { σ with hp := hp' }) (ys := ys) hr O F htl (htst _) (hel _) hlen hI (fun b hb => let ⟨n, _, e⟩ := hrd b hb; List.mem_of_getElem? e) oD oL hDC ?_
      ⟨Nat.zero_le _, R₂.keeps old, k₂.trans (KA.heap _ old), ⟨_, hns₁⟩, ⟨W, hSt, fun b hb => ⟨offW b hb, ?_⟩⟩, ⟨[], #[], ys, hacc, .nil, hys, rfl, Nat.le_refl _⟩⟩
    · intro s' its R' k' hns' hD' hY
      refine hRR _ _ _ ⟨ρ' ++ [s₂.heap.objs.size], ?_, ?_, ?_, k', hns', ?_⟩
      · rw [← List.append_assoc]; exact ref_last R₂.len
      · rw [← List.append_assoc]
        exact R'.take oD ⟨its, hD', Paired.mono' (fun _ _ h => VR.mono (ρ := []) h) hY⟩
      · intro a ha
        rcases List.mem_append.mp ha with h | h
        · exact hf a h
        · rw [List.mem_singleton] at h; rw [h]; exact oD.start
      · refine ⟨oL.base, oL.start, oL.loc, oL.cel, fun hm => ?_⟩
        rw [← List.append_assoc] at hm
        rcases List.mem_append.mp hm with h | h
        · exact oL.obj h
        · rw [List.mem_singleton] at h; exact hDC h.symm
    · obtain ⟨o, e⟩ := hI.live _ _ _ hS b hb
      exact ⟨(below b (Heap.lt_size e)).2, (below b (Heap.lt_size e)).1⟩
  exact codeAny_compStart_list (loop _ rfl) (hI.self 0 W _ _ _ (hSt1 _ rfl) (loop _ rfl))

theorem folded_none {it : Expr} (h : ∀ es k p, it ≠ .Set es k p) : ∀ x, foldedSetIterable it env x = pure x := by
  intro x
  unfold foldedSetIterable
  split
  · exact absurd rfl (h _ _ _)
  · rfl
end
end Mine

namespace Mine
open PySem PyProof.Rows PySem.Calls

section
variable {prog : Program} {w : World} {mg mb : Str → Option Value} {A : Around} {h₀ : Heap} {C : Cx} {env : Env} {ρ : List Addr} {σ : AS} {s : Shared} {E : Value → Shared → Prop} {hp' hp₁ : List AO} {v : AV} {n : Nat}

theorem e_then {e : Expr} {Q : Value → Shared → Prop} (ih : Snd prog w mg mb n) (K : CxOk prog w mg mb A C) (O : EnvOk C env) (T : Tp mg mb h₀) (h : evE C n e σ = some (v, hp')) (R : Rel h₀ C env ρ σ s.heap)
    (k : ∀ V s₁ ρ', VR (ρ ++ ρ') v V → Rel h₀ C env (ρ ++ ρ') { σ with hp := hp' } s₁.heap → (∀ a ∈ ρ', s.heap.get? a = none) → KA s s₁ → Q V s₁) : wpAny (model prog w) A (eval e env) Q E s :=
  wpAny_mono (ih.e K O T h R) (fun V s₁ ⟨ρ', a, b, c, d⟩ => k V s₁ ρ' a b c d) fun _ _ x => x
theorem t_then {e : Expr} {b : Bool} {Q : Bool → Shared → Prop} (ih : Snd prog w mg mb n) (K : CxOk prog w mg mb A C) (O : EnvOk C env) (T : Tp mg mb h₀) (h : evT C n e σ = some (b, hp')) (R : Rel h₀ C env ρ σ s.heap)
    (k : ∀ s₁ ρ', Rel h₀ C env (ρ ++ ρ') { σ with hp := hp' } s₁.heap → (∀ a ∈ ρ', s.heap.get? a = none) → KA s s₁ → Q b s₁) : wpAny (model prog w) A (isTrue e env (eval e env)) Q E s :=
  wpAny_mono (ih.t K O T h R) (fun V s₁ ⟨e, ρ', b, c, d⟩ => by subst e; exact k s₁ ρ' b c d) fun _ _ x => x
theorem l_then {es : List Expr} {pos : Pos} {vs : List AV} {Q : List Value → Shared → Prop} (ih : Snd prog w mg mb n) (K : CxOk prog w mg mb A C) (O : EnvOk C env) (T : Tp mg mb h₀) (h : evL C n es σ = some (vs, hp')) (R : Rel h₀ C env ρ σ s.heap)
    (k : ∀ Vs s₁ ρ', Paired (VR (ρ ++ ρ')) vs Vs → Rel h₀ C env (ρ ++ ρ') { σ with hp := hp' } s₁.heap → (∀ a ∈ ρ', s.heap.get? a = none) → KA s s₁ → Q Vs s₁) : wpAny (model prog w) A (spliced (backTo pos (starEach es env))) Q E s :=
  wpAny_mono (ih.l pos K O T h R) (fun V s₁ ⟨ρ', a, b, c, d⟩ => k V s₁ ρ' a b c d) fun _ _ x => x

/-- what is reckoned is no star -/
theorem star_e {e : Expr} {r : AV × List AO} (rest : List Expr) (h : evE C n e σ = some r) : starEach (e :: rest) env = (false, eval e env) :: starEach rest env := by
  cases n with
  | zero => cases h
  | succ n => cases e <;> first | rfl | cases h
theorem star_l : ∀ {n : Nat} {es : List Expr} {σ : AS} {r : List AV × List AO} {pos : Pos}, evL C n es σ = some r → (backTo pos (starEach es env)).any (·.1) = false
  | 0, _, _, _, _, h => by cases h
  | n + 1, [], _, _, _, _ => rfl
  | n + 1, e :: es, σ, r, pos, h => by
    obtain ⟨p, h1, h⟩ := Option.bind_eq_some_iff.mp h
    obtain ⟨p', h2, _⟩ := Option.map_eq_some_iff.mp h
    rw [star_e es h1]
    show (false || (backTo pos (starEach es env)).any (·.1)) = false
    rw [star_l h2]; rfl
theorem not_set {e : Expr} {r : AV × List AO} (h : evE C n e σ = some r) : ∀ es k p, e ≠ .Set es k p := by
  rintro es k p rfl
  cases n <;> cases h
theorem no_mark {op : CmpOp} {e : Expr} {r : AV × List AO} (h : evE C n e σ = some r) : behindInMarks op e = false := by
  have := not_set h
  cases e <;> first | rfl | exact absurd rfl (this _ _ _)

theorem e_const {c : Const} {k : Nat} {pos : Pos} (h : (constAV c).map (fun v => (v, σ.hp)) = some (v, hp')) (R : Rel h₀ C env ρ σ s.heap) : wpAny (model prog w) A (eval (.Constant c k pos) env) (PE h₀ C env ρ σ s v hp') E s := by
  obtain ⟨u, h1, h2⟩ := Option.map_eq_some_iff.mp h
  cases h2
  have R' : Rel h₀ C env ρ { σ with hp := σ.hp } s.heap := R
  cases c with
  | none => cases h1; exact wpAny_Constant_none (PE.now R' vNone)
  | bool _ => cases h1; exact wpAny_Constant_bool (PE.now R' vBool)
  | int _ => cases h1; exact wpAny_Constant_int (PE.toks R' vInt _)
  | str _ => cases h1; exact wpAny_Constant_str (PE.toks R' (vStr' (by simp)) _)
  | _ => cases h1

theorem e_name {x : Str} {pos : Pos} (K : CxOk prog w mg mb A C) (O : EnvOk C env) (T : Tp mg mb h₀) (h : (getVar C x σ).map (fun v => (v, σ.hp)) = some (v, hp')) (R : Rel h₀ C env ρ σ s.heap) :
    wpAny (model prog w) A (eval (.Name x pos) env) (PE h₀ C env ρ σ s v hp') E s := by
  obtain ⟨u, h1, h2⟩ := Option.map_eq_some_iff.mp h
  cases h2
  have hd : ∃ k, C.kind x = some k := by
    unfold getVar at h1
    cases e : C.kind x with
    | none => rw [e] at h1; cases h1
    | some k => exact ⟨k, rfl⟩
  obtain ⟨k, hk⟩ := hd
  exact wpAny_Name (name_sound K O T h1 R fun V hV => PE.now (σ := σ) (hp := σ.hp) R hV) (O.ndbg hk)

theorem e_bin {l r : Expr} {op : Operator} {pos : Pos} (ih : Snd prog w mg mb n) (K : CxOk prog w mg mb A C) (O : EnvOk C env) (T : Tp mg mb h₀)
    (h : ((evE C n l σ).bind fun p => (evE C n r { σ with hp := p.2 }).bind fun p' => evBin op p.1 p'.1 p'.2) = some (v, hp')) (R : Rel h₀ C env ρ σ s.heap) :
    wpAny (model prog w) A (eval (.BinOp l op r pos) env) (PE h₀ C env ρ σ s v hp') E s := by
  obtain ⟨⟨a, hp₁⟩, h1, h⟩ := Option.bind_eq_some_iff.mp h
  obtain ⟨⟨b, hp₂⟩, h2, h⟩ := Option.bind_eq_some_iff.mp h
  refine wpAny_BinOp (e_then ih K O T h1 R fun Va s₁ ρ₁ va R₁ f₁ k₁ => e_then ih K O T h2 R₁ fun Vb s₂ ρ₂ vb R₂ f₂ k₂ => ?_)
  exact wpAny_mono (bin_sound (σ := σ) h va.mono vb R₂) (fun V s₃ h₃ => PE.after f₁ k₁ (PE.after f₂ k₂ h₃)) fun _ _ x => x

theorem e_un {x : Expr} {op : UnaryOp} {pos : Pos} (ih : Snd prog w mg mb n) (K : CxOk prog w mg mb A C) (O : EnvOk C env) (T : Tp mg mb h₀)
    (h : ((evE C n x σ).bind fun p => (evUn op p.1).map fun v => (v, p.2)) = some (v, hp')) (R : Rel h₀ C env ρ σ s.heap) : wpAny (model prog w) A (eval (.UnaryOp op x pos) env) (PE h₀ C env ρ σ s v hp') E s := by
  obtain ⟨⟨a, hp₁⟩, h1, h⟩ := Option.bind_eq_some_iff.mp h
  obtain ⟨u, h2, h3⟩ := Option.map_eq_some_iff.mp h
  cases h3
  refine wpAny_UnaryOp (e_then ih K O T h1 R fun Va s₁ ρ₁ va R₁ f₁ k₁ => ?_)
  exact wpAny_mono (un_sound (σ := σ) h2 va R₁) (fun V s₃ h₃ => PE.after f₁ k₁ h₃) fun _ _ x => x

theorem cmp_then {l r : Expr} {op : CmpOp} {b : Bool} {Q : Value → Shared → Prop} (ih : Snd prog w mg mb n) (K : CxOk prog w mg mb A C) (O : EnvOk C env) (T : Tp mg mb h₀)
    (h : ((evE C n l σ).bind fun p => (evE C n r { σ with hp := p.2 }).bind fun p' => (evCmp op p.1 p'.1 p'.2).map fun b => (b, p'.2)) = some (b, hp')) (R : Rel h₀ C env ρ σ s.heap)
    (k : ∀ s₁ ρ', Rel h₀ C env (ρ ++ ρ') { σ with hp := hp' } s₁.heap → (∀ a ∈ ρ', s.heap.get? a = none) → KA s s₁ → Q (.bool b) s₁) :
    wpAny (model prog w) A (eval l env) (fun a s₁ => wpAny (model prog w) A (eval r env) (fun b s₂ => wpAny (model prog w) A (compareOp op a b) Q E s₂) E s₁) E s ∧ behindInMarks op r = false := by
  obtain ⟨⟨a, hp₁⟩, h1, h⟩ := Option.bind_eq_some_iff.mp h
  obtain ⟨⟨b', hp₂⟩, h2, h⟩ := Option.bind_eq_some_iff.mp h
  obtain ⟨u, h3, h4⟩ := Option.map_eq_some_iff.mp h
  cases h4
  refine ⟨e_then ih K O T h1 R fun Va s₁ ρ₁ va R₁ f₁ k₁ => e_then ih K O T h2 R₁ fun Vb s₂ ρ₂ vb R₂ f₂ k₂ => ?_, no_mark h2⟩
  refine cmp_sound (σ := σ) K.room h3 va.mono vb R₂ (k s₂ (ρ₁ ++ ρ₂) ?_ (fresh_then f₁ k₁ f₂) (k₁.trans k₂))
  rw [← List.append_assoc]; exact R₂

theorem e_cmp {l r : Expr} {op : CmpOp} {pos : Pos} (ih : Snd prog w mg mb n) (K : CxOk prog w mg mb A C) (O : EnvOk C env) (T : Tp mg mb h₀)
    (h : ((evE C n l σ).bind fun p => (evE C n r { σ with hp := p.2 }).bind fun p' => (evCmp op p.1 p'.1 p'.2).map fun b => (AV.bool b, p'.2)) = some (v, hp')) (R : Rel h₀ C env ρ σ s.heap) :
    wpAny (model prog w) A (eval (.Compare l [op] [r] pos) env) (PE h₀ C env ρ σ s v hp') E s := by
  obtain ⟨p, h1, h⟩ := Option.bind_eq_some_iff.mp h
  obtain ⟨p', h2, h⟩ := Option.bind_eq_some_iff.mp h
  obtain ⟨u, h3, h4⟩ := Option.map_eq_some_iff.mp h
  cases h4
  have hh : ((evE C n l σ).bind fun p => (evE C n r { σ with hp := p.2 }).bind fun p' => (evCmp op p.1 p'.1 p'.2).map fun b => (b, p'.2)) = some (u, p'.2) := by
    rw [h1]; simp only [Option.bind_some]; rw [h2]; simp only [Option.bind_some]; rw [h3]; rfl
  have z := cmp_then (E := E) (Q := PE h₀ C env ρ σ s (.bool u) p'.2) ih K O T hh R fun s₁ ρ' R₁ f₁ k₁ => ⟨ρ', vBool, R₁, f₁, k₁⟩
  exact wpAny_Compare1 z.1 z.2

theorem e_and {x y : Expr} {pos : Pos} (ih : Snd prog w mg mb n) (K : CxOk prog w mg mb A C) (O : EnvOk C env) (T : Tp mg mb h₀)
    (h : ((evE C n x σ).bind fun p => match p.1 with
        | .bool true => evE C n y { σ with hp := p.2 }
        | .bool false => some (.bool false, p.2)
        | _ => none) = some (v, hp')) (R : Rel h₀ C env ρ σ s.heap) : wpAny (model prog w) A (eval (.BoolOp .And [x, y] pos) env) (PE h₀ C env ρ σ s v hp') E s := by
  obtain ⟨⟨a, hp₁⟩, h1, h⟩ := Option.bind_eq_some_iff.mp h
  refine wpAny_And2 (e_then ih K O T h1 R fun Va s₁ ρ₁ va R₁ f₁ k₁ => ?_)
  simp only at h
  split at h
  · cases va
    refine wpAny_truthy_bool ?_
    simp only [if_true]
    exact wpAny_mono (ih.e K O T h R₁) (fun V s₃ h₃ => PE.after f₁ k₁ h₃) fun _ _ x => x
  · cases va; cases h
    refine wpAny_truthy_bool ?_
    simp only [Bool.false_eq_true, if_false]
    exact ⟨ρ₁, vBool, R₁, f₁, k₁⟩
  · cases h

theorem e_if {t a b : Expr} {pos : Pos} (ih : Snd prog w mg mb n) (K : CxOk prog w mg mb A C) (O : EnvOk C env) (T : Tp mg mb h₀)
    (h : ((evT C n t σ).bind fun p => if p.1 then evE C n a { σ with hp := p.2 } else evE C n b { σ with hp := p.2 }) = some (v, hp')) (R : Rel h₀ C env ρ σ s.heap) :
    wpAny (model prog w) A (eval (.IfExp t a b pos) env) (PE h₀ C env ρ σ s v hp') E s := by
  obtain ⟨⟨c, hp₁⟩, h1, h⟩ := Option.bind_eq_some_iff.mp h
  refine wpAny_IfExp (t_then ih K O T h1 R fun s₁ ρ₁ R₁ f₁ k₁ => ?_)
  cases c with
  | true =>
    simp only [if_true] at h ⊢
    exact wpAny_mono (ih.e K O T h R₁) (fun V s₃ h₃ => PE.after f₁ k₁ h₃) fun _ _ x => x
  | false =>
    simp only [Bool.false_eq_true, if_false] at h ⊢
    exact wpAny_mono (ih.e K O T h R₁) (fun V s₃ h₃ => PE.after f₁ k₁ h₃) fun _ _ x => x

theorem e_sub {o i : Expr} {pos : Pos} (ih : Snd prog w mg mb n) (K : CxOk prog w mg mb A C) (O : EnvOk C env) (T : Tp mg mb h₀)
    (h : ((evE C n o σ).bind fun p => match sliceForm i with
      | some lu => (evB C n lu.1 { σ with hp := p.2 }).bind fun pl => (evB C n lu.2 { σ with hp := pl.2 }).bind fun pu => evCut p.1 pl.1 pu.1 pu.2
      | none => (evE C n i { σ with hp := p.2 }).bind fun p' => (evItem p.1 p'.1 p'.2).map fun v => (v, p'.2)) = some (v, hp')) (R : Rel h₀ C env ρ σ s.heap) :
    wpAny (model prog w) A (eval (.Subscript o i pos) env) (PE h₀ C env ρ σ s v hp') E s := by
  obtain ⟨⟨a, hp₁⟩, h1, hh⟩ := Option.bind_eq_some_iff.mp h
  clear h
  have h := hh
  clear hh
  refine PyProof.Rows.Subscript_ (e_then ih K O T h1 R fun Va s₁ ρ₁ va R₁ f₁ k₁ => ?_)
  simp only at h
  split at h
  · rename_i lu hlu
    obtain ⟨p, rfl⟩ := slice_of hlu
    obtain ⟨⟨l, hp₂⟩, h2, h⟩ := Option.bind_eq_some_iff.mp h
    obtain ⟨⟨u, hp₃⟩, h3, h⟩ := Option.bind_eq_some_iff.mp h
    refine wpAny_Slice (wpAny_mono (ih.b K O T h2 R₁) (fun Vl s₂ p₂ => ?_) fun _ _ x => x)
    obtain ⟨ρ₂, bl, R₂, f₂, k₂⟩ := p₂
    refine wpAny_mono (ih.b K O T h3 R₂) (fun Vu s₃ p₃ => ?_) fun _ _ x => x
    obtain ⟨ρ₃, bu, R₃, f₃, k₃⟩ := p₃
    refine wpAny_pure ?_
    refine wpAny_mono (cut_sound (σ := σ) h va.mono.mono bl bu R₃) (fun V s₄ h₄ => ?_) fun _ _ x => x
    exact PE.after f₁ k₁ (PE.after f₂ k₂ (PE.after f₃ k₃ h₄))
  · obtain ⟨⟨b, hp₂⟩, h2, h⟩ := Option.bind_eq_some_iff.mp h
    obtain ⟨u, h3, h4⟩ := Option.map_eq_some_iff.mp h
    cases h4
    refine e_then ih K O T h2 R₁ fun Vb s₂ ρ₂ vb R₂ f₂ k₂ => ?_
    exact wpAny_mono (item_sound (σ := σ) h3 va.mono vb R₂) (fun V s₃ h₃ => PE.after f₁ k₁ (PE.after f₂ k₂ h₃)) fun _ _ x => x

theorem e_list {es : List Expr} {pos : Pos} (ih : Snd prog w mg mb n) (K : CxOk prog w mg mb A C) (O : EnvOk C env) (T : Tp mg mb h₀)
    (h : ((evL C n es σ).bind fun p => if decide (p.1.length ≤ textLine) then some (AV.ref p.2.length, p.2 ++ [AO.list p.1]) else none) = some (v, hp')) (R : Rel h₀ C env ρ σ s.heap) :
    wpAny (model prog w) A (eval (.List es pos) env) (PE h₀ C env ρ σ s v hp') E s := by
  obtain ⟨⟨vs, hp₁⟩, h1, h⟩ := Option.bind_eq_some_iff.mp h
  simp only at h
  split at h
  · rename_i hz; cases h
    rw [decide_eq_true_eq] at hz
    refine wpAny_List_spliced (l_then ih K O T h1 R fun Vs s₁ ρ₁ hV R₁ f₁ k₁ => ⟨by rw [← hV.length]; exact textLine_le hz, ?_⟩)
    refine PE.after f₁ k₁ ?_
    exact PE.newList (σ := σ) R₁ s₁.toks _ Vs.toArray vs (fresh_size _) (fun b o e => Heap.get?_push_of_some _ e) ⟨_, Heap.get?_push_size _ rfl⟩ (by simpa using hV)
  · cases h
theorem e_tup {es : List Expr} {k : Nat} {pos : Pos} (ih : Snd prog w mg mb n) (K : CxOk prog w mg mb A C) (O : EnvOk C env) (T : Tp mg mb h₀)
    (h : ((evL C n es σ).bind fun p => if decide (p.1.length ≤ textLine) then some (AV.ref p.2.length, p.2 ++ [AO.tup p.1]) else none) = some (v, hp')) (R : Rel h₀ C env ρ σ s.heap) :
    wpAny (model prog w) A (eval (.Tuple es k pos) env) (PE h₀ C env ρ σ s v hp') E s := by
  obtain ⟨⟨vs, hp₁⟩, h1, h⟩ := Option.bind_eq_some_iff.mp h
  simp only at h
  split at h
  · rename_i hz; cases h
    rw [decide_eq_true_eq] at hz
    refine wpAny_Tuple_spliced (l_then ih K O T h1 R fun Vs s₁ ρ₁ hV R₁ f₁ k₁ => ⟨by rw [← hV.length]; exact textLine_le hz, ?_⟩)
    refine PE.after f₁ k₁ ?_
    exact PE.new (σ := σ) R₁ s₁.toks _ (.tup vs) (fresh_size _) (fun b o e => Heap.get?_push_of_some _ e) ⟨Vs.toArray, ⟨_, Heap.get?_push_size _ rfl⟩, Paired.mono' (fun _ _ => VR.mono) (by simpa using hV)⟩
  · cases h

/-! ### a comprehension as a value -/
theorem comp_parts {elt : Expr} {gs : List Comprehension} {scope : Scope} {pos : Pos} {RR : Value → Addr → Result → Shared → Prop} (ih : Snd prog w mg mb n) (K : CxOk prog w mg mb A C) (O : EnvOk C env) (T : Tp mg mb h₀)
    (h : evE C (n + 1) (.ListComp elt gs scope pos) σ = some (v, hp')) (R : Rel h₀ C env ρ σ s.heap)
    (hRR : ∀ D L s', PEL h₀ C env ρ σ s v hp' L (.ref D) s' → RR (.ref D) L (.ok .next) s') :
    ∃ t it ifs, gs = [⟨t, it, ifs, 0⟩] ∧ (∀ x, foldedSetIterable it env x = pure x) ∧ closureFor scope env = pure (closL env scope.names []) ∧ scope.kind = .function ∧ (∀ x ∈ scope.names, x.2 = .local → scope.names.lookup x.1 = some .local) ∧
      wpAny (model prog w) A (eval it env) (fun xv s₁ => wpAny (model prog w) A (pyIter xv) (fun i s₂ => wpAny (model prog w) A (newList []) (fun acc s₃ =>
        wpAny (model prog w) A (newFunctionEnv scope env.globals (closL env scope.names []) [] env.qual none .none (some env)) (fun cenv s₄ =>
          codeAny (model prog w) A (.compStart (.ListComp elt gs scope pos) 0 i acc { cenv with scope := relabel scope env }) (RR acc cenv.locals) s₄) E s₃) E s₂) E s₁) E s := by
  cases gs with
  | nil => cases h
  | cons g gs =>
  cases gs with
  | cons _ _ => cases g; cases h
  | nil =>
  obtain ⟨t, it, ifs, isa⟩ := g
  rw [xComp] at h
  split at h
  case isFalse => cases h
  rename_i hc
  rw [Bool.and_eq_true_iff, Bool.and_eq_true_iff, decide_eq_true_eq] at hc
  obtain ⟨rfl, hco, htl⟩ := hc
  have F := compFit_of hco
  obtain ⟨⟨items, fz', hp₁⟩, h1, h⟩ := Option.bind_eq_some_iff.mp h
  obtain ⟨ys, h2, h⟩ := Option.bind_eq_some_iff.mp h
  simp only at h2 h
  split at h
  case isFalse => cases h
  rename_i hz
  cases h
  rw [decide_eq_true_eq] at hz
  have KI : CxOk prog w mg mb A (C.inner scope) := ⟨K.room, K.glob, K.fn⟩
  have ns : ∀ es k p, it ≠ .Set es k p := by
    rintro es k p rfl
    cases n with
    | zero => cases h1
    | succ n => cases n with
      | zero => cases h1
      | succ n => cases h1
  refine ⟨t, it, ifs, rfl, folded_none ns, closureFor_eq fun p hp hf => O.cell p.1 (F.free p hp hf), F.kind, fun x hx hl => by rw [← hl]; exact F.own x hx, ?_⟩
  refine wpAny_mono (ih.i K O T h1 R) (fun xv s₁ q₁ => wpAny_mono q₁ (fun i s₂ q₂ => ?_) fun _ _ x => x) fun _ _ x => x
  refine comp_block (C := C) (σ := σ) K.room O F htl ?_ ?_ hz h2 R q₂ hRR
  · intro L σ' b hp'' ρ s E ht Ri
    split at ht
    · cases ht
      exact wpAny_tests_nil ⟨rfl, [], by simpa using Ri, by simp, KA.refl⟩
    · exact wpAny_tests_one (ih.t KI (inner_env O F) T ht Ri)
    · cases ht
  · intro L σ' v hp'' ρ s E he Ri
    exact ih.e KI (inner_env O F) T he Ri

theorem PEL.go {L D : Addr} {s' : Shared} {h' : Heap} (h : PEL h₀ C env ρ σ s v hp' L (.ref D) s') (hs : Heap.SameBut L s'.heap h') : PE h₀ C env ρ σ s v hp' (.ref D) { s' with heap := h' } := by
  obtain ⟨ρ', hv, R', hf, k, _, oL⟩ := h
  refine ⟨ρ', hv, R'.but (· = L) (fun b e => e ▸ oL) (fun b o hb e => hs.extBut b o hb e), hf, ?_⟩
  exact k.but (· = L) (fun b e => e ▸ oL.start) (.inr ⟨fun b o hb e => hs.extBut b o hb e, rfl, rfl, fun _ _ e => e, fun e => e⟩)

theorem e_comp {elt : Expr} {gs : List Comprehension} {scope : Scope} {pos : Pos} (ih : Snd prog w mg mb n) (K : CxOk prog w mg mb A C) (O : EnvOk C env) (T : Tp mg mb h₀)
    (h : evE C (n + 1) (.ListComp elt gs scope pos) σ = some (v, hp')) (R : Rel h₀ C env ρ σ s.heap) : wpAny (model prog w) A (eval (.ListComp elt gs scope pos) env) (PE h₀ C env ρ σ s v hp') E s := by
  obtain ⟨t, it, ifs, rfl, hs, hcl, hk, hn, q⟩ := comp_parts (E := E) (RR := fun acc L => compPost (model prog w) A E none (PE h₀ C env ρ σ s v hp') acc L) ih K O T h R fun D L s' p => ⟨_, p.choose_spec.2.2.2.2.1.choose_spec, fun h' hs' => p.go hs'⟩
  rw [eval_ListComp]
  exact wpAny_comprehension_free (use := none) rfl hs hcl hk hn q
end
end Mine

namespace Mine
open PySem PyProof.Rows PySem.Calls

theorem range_cases {P : List Expr → CF → Prop} (bad : ∀ as, P as .bad) (lr : ∀ q r as', P [.Call (.Name "range" q) as' [] r] (.listRange as')) (as : List Expr) : P as (rangeForm as) := by
  cases as with
  | nil => exact bad _
  | cons a r =>
  cases r with
  | cons _ _ => exact bad _
  | nil =>
  cases a with
  | Call g as' ks' p' =>
    cases ks' with
    | cons _ _ => exact bad _
    | nil =>
    show P _ (if isRange g = true then .listRange as' else .bad)
    by_cases hn : isRange g = true
    · rw [if_pos hn]
      obtain ⟨q, rfl⟩ := range_inv hn
      exact lr _ _ _
    · rw [if_neg hn]; exact bad _
  | _ => exact bad _
/-- a call's form, case by case -/
theorem form_cases {P : Expr → List Expr → List Keyword → CF → Prop} (pos : Pos) (bad : ∀ f as ks, P f as ks .bad)
    (join : ∀ sep k p apos a, sep.cps.toList = [] → apos.endLine = pos.line → P (.Attribute (.Constant (.str sep) k p) "join" apos) [a] [] (.join a))
    (lr : ∀ p q r as', P (.Name "list" p) [.Call (.Name "range" q) as' [] r] [] (.listRange as')) (plain : ∀ g p e r, P (.Name g p) (e :: r) [] (.plain g (e :: r))) (f : Expr) (as : List Expr) (ks : List Keyword) : P f as ks (callForm f as ks pos) := by
  cases ks with
  | cons _ _ => exact bad _ _ _
  | nil =>
  cases f with
  | Attribute o nm apos =>
    cases as with
    | nil => exact bad _ _ _
    | cons a r =>
    cases r with
    | cons _ _ => exact bad _ _ _
    | nil =>
    show P _ _ _ (if (decide (nm = "join") && (emptyStr o && decide (apos.endLine = pos.line))) = true then .join a else .bad)
    by_cases hc : (decide (nm = "join") && (emptyStr o && decide (apos.endLine = pos.line))) = true
    · rw [if_pos hc]
      rw [Bool.and_eq_true_iff, Bool.and_eq_true_iff, decide_eq_true_eq, decide_eq_true_eq] at hc
      obtain ⟨rfl, h1, h2⟩ := hc
      obtain ⟨sep, k, p, rfl, h3⟩ := empty_inv h1
      exact join _ _ _ _ _ h3 h2
    · rw [if_neg hc]; exact bad _ _ _
  | Name g p =>
    show P _ _ _ (if g = "list" then rangeForm as else plainForm g as)
    by_cases hg : g = "list"
    · subst hg
      rw [if_pos rfl]
      exact range_cases (P := fun as F => P (.Name "list" p) as [] F) (fun _ => bad _ _ _) (lr p) as
    · rw [if_neg hg]
      cases as with
      | nil => exact bad _ _ _
      | cons e r => exact plain _ _ _ _
  | _ => exact bad _ _ _

theorem paired_of {α β : Type} {F : α → β → Prop} : ∀ {xs : List α} {ys : List β}, xs.length = ys.length → (∀ (i : Nat) a b, xs[i]? = some a → ys[i]? = some b → F a b) → Paired F xs ys
  | [], [], _, _ => .nil
  | [], _ :: _, h, _ => by simp at h
  | _ :: _, [], h, _ => by simp at h
  | x :: xs, y :: ys, h, k => .cons (k 0 x y rfl rfl) (paired_of (by simpa using h) fun i a b h1 h2 => k (i + 1) a b (by simpa using h1) (by simpa using h2))

theorem strs_of {ρ : List Addr} : ∀ {xs : List AV} {ys : List (List Nat)} {vs : List Value}, allStrs xs = some ys → Paired (VR ρ) xs vs → StrsAre vs (ys.map fun x => ⟨x.toArray⟩)
  | [], _, _, h, .nil => by cases h; exact .nil
  | .str x :: r, _, _, h, .cons hv hr => by
    rw [allStrs] at h
    obtain ⟨ms, h1, rfl⟩ := Option.map_eq_some_iff.mp h
    obtain ⟨t, rfl⟩ := hv
    exact .cons _ t (strs_of h1 hr)
  | .none :: _, _, _, h, _ => by cases h
  | .bool _ :: _, _, _, h, _ => by cases h
  | .int _ :: _, _, _, h, _ => by cases h
  | .ref _ :: _, _, _, h, _ => by cases h

theorem join_empty : ∀ ys : List (List Nat), Str.join ⟨#[]⟩ (ys.map fun x => ⟨x.toArray⟩) = ⟨ys.flatten.toArray⟩
  | [] => rfl
  | [x] => by simp [Str.join]
  | x :: y :: r => by
    have ih := join_empty (y :: r)
    rw [List.map_cons] at ih
    rw [List.map_cons, List.map_cons]
    rw [Str.join]
    · rw [ih]
      show (⟨x.toArray ++ #[] ++ (y :: r).flatten.toArray⟩ : Str) = _
      simp
    · simp

section
variable {prog : Program} {w : World} {mg mb : Str → Option Value} {A : Around} {h₀ : Heap} {C : Cx} {env : Env} {ρ : List Addr} {σ : AS} {s : Shared} {E : Value → Shared → Prop} {hp' hp₁ : List AO} {v : AV} {n : Nat}

theorem PE.after0 {s₁ s₂ : Shared} {V : Value} (k : KA s s₁) (h : PE h₀ C env ρ σ s₁ v hp' V s₂) : PE h₀ C env ρ σ s v hp' V s₂ := PE.after (ρ' := []) (by simp) k (by simpa using h)

theorem star_parts {e : Expr} {r : List Expr} {p : List AV × List AO} (h : evL C n (e :: r) σ = some p) : starEach (e :: r) env = (false, eval e env) :: starEach r env ∧ ∀ pos, (backTo pos (starEach r env)).any (·.1) = false := by
  cases n with
  | zero => cases h
  | succ n =>
    obtain ⟨p, h1, h⟩ := Option.bind_eq_some_iff.mp h
    obtain ⟨p', h2, _⟩ := Option.map_eq_some_iff.mp h
    exact ⟨star_e r h1, fun pos => star_l h2⟩
theorem evL_nil {p : List AV × List AO} (h : evL C n [] σ = some p) : p.1 = [] := by
  cases n with
  | zero => cases h
  | succ n => cases h; rfl

theorem e_call {f : Str} {np pos : Pos} {e : Expr} {r : List Expr} (ih : Snd prog w mg mb n) (K : CxOk prog w mg mb A C) (O : EnvOk C env) (T : Tp mg mb h₀)
    (h : ((evL C n (e :: r) σ).bind fun p => evCall C f p.1 p.2) = some (v, hp')) (R : Rel h₀ C env ρ σ s.heap) : wpAny (model prog w) A (eval (.Call (.Name f np) (e :: r) [] pos) env) (PE h₀ C env ρ σ s v hp') E s := by
  obtain ⟨⟨vs, hp₁⟩, h1, hh⟩ := Option.bind_eq_some_iff.mp h
  clear h
  have Ts := T.keeps R.base
  obtain ⟨he, hplain⟩ := star_parts (env := env) h1
  simp only at hh
  unfold evCall at hh
  split at hh
  case isFalse => cases hh
  rename_i hk
  split at hh
  · rename_i hf; subst hf
    refine Call_Name rfl (ld_bi Ts O hk (by decide) boot_len' (by decide) (callWith_builtin1 (l_then ih K O T h1 R fun Vs s₁ ρ₁ hV R₁ f₁ k₁ => ?_) he (hplain _)))
    split at hh
    · rename_i x
      split at hh
      · rename_i hz; cases hh
        rw [decide_eq_true_eq] at hz
        cases hV with
        | cons a b =>
        cases b
        obtain ⟨t, rfl⟩ := a
        refine PyProof.Rows.len_str ?_ ?_
        · simp [Str.length]; unfold textLine at hz; omega
        · refine PE.after f₁ k₁ ?_
          have := PE.toks (σ := σ) (s := s₁) R₁ (vInt (ρ := ρ ++ ρ₁) (i := (x.length : Int)) (t := s₁.toks + 1)) (s₁.toks + 1 + 1)
          simpa [Str.length] using this
      · cases hh
    · rename_i m
      split at hh
      · rename_i xs hm
        split at hh
        · rename_i hz; cases hh
          rw [decide_eq_true_eq] at hz
          cases hV with
          | cons a b =>
          cases b
          obtain ⟨l, its, rfl, _, hl, hx⟩ := list_at (σ := σ) R₁ hm a
          refine PyProof.Rows.len_list hl.isList ?_ ?_
          · rw [paired_len hx]; unfold textLine at hz; omega
          · rw [paired_len hx]; exact PE.after f₁ k₁ (PE.toks (σ := σ) (s := s₁) R₁ vInt _)
        · cases hh
      · cases hh
    · cases hh
  · split at hh
    · rename_i hf; subst hf
      refine Call_Name rfl (ld_bi Ts O hk (by decide) boot_sum' (by decide) (callWith_builtin1 (l_then ih K O T h1 R fun Vs s₁ ρ₁ hV R₁ f₁ k₁ => ?_) he (hplain _)))
      split at hh
      · rename_i m
        split at hh
        · rename_i xs hm
          obtain ⟨ns, h2, h3⟩ := Option.bind_eq_some_iff.mp hh
          split at h3
          · cases h3
            cases hV with
            | cons a b =>
            cases b
            obtain ⟨l, its, rfl, _, hl, hx⟩ := list_at (σ := σ) R₁ hm a
            exact sum_sound K.room hl.isList (ints_of h2 hx) fun h' tk t' hk' => PE.after f₁ k₁ (PE.heapK (σ := σ) (s := s₁) R₁ vInt tk hk')
          · cases h3
        · cases hh
      · cases hh
    · split at hh
      · rename_i hf; subst hf
        refine Call_Name rfl (ld_bi Ts O hk (by decide) boot_chr' (by decide) (callWith_builtin1 (l_then ih K O T h1 R fun Vs s₁ ρ₁ hV R₁ f₁ k₁ => ?_) he (hplain _)))
        split at hh
        · rename_i i
          split at hh
          · rename_i hz; cases hh
            rw [Bool.and_eq_true_iff, decide_eq_true_eq, decide_eq_true_eq] at hz
            cases hV with
            | cons a b =>
            cases b
            obtain ⟨t, rfl⟩ := a
            exact chr_of_range hz.1 hz.2 (PE.after f₁ k₁ (PE.toks (σ := σ) (s := s₁) R₁ (vStr' (by simp)) _))
          · cases hh
        · cases hh
      · obtain ⟨ds, h2, hh⟩ := Option.bind_eq_some_iff.mp hh
        obtain ⟨dr, h3, h4⟩ := Option.bind_eq_some_iff.mp hh
        obtain ⟨hd, hF⟩ := K.fn f ds dr h3
        obtain ⟨d, hd⟩ := Option.isSome_iff_exists.mp hd
        obtain ⟨a, o, pm, cd, doc, hg, ho, hdat, hcr⟩ := Ts.fn f d hd
        refine Call_Name rfl (ld_gl Ts O hk hg (O.ndbg hk) (callWith_def hdat (l_then ih K O T h1 R fun Vs s₁ ρ₁ hV R₁ f₁ k₁ => ⟨k₁.keep _ _ ho, ?_⟩) he))
        refine hF s₁ Vs a _ _ (T.keeps R₁.base) hg (deepAll_sound (σ := σ) R₁ h2 hV) fun V s₂ hr k₂ => ?_
        exact PE.after f₁ k₁ (shallow_sound (σ := σ) R₁ h4 hr k₂)

theorem e_join {sep : Str} {k : Nat} {p apos pos : Pos} {arg : Expr} (ih : Snd prog w mg mb n) (K : CxOk prog w mg mb A C) (O : EnvOk C env) (T : Tp mg mb h₀) (hsep : sep.cps.toList = []) (hline : apos.endLine = pos.line)
    (h : ((evE C n arg σ).bind fun p => evJoin p.1 p.2) = some (v, hp')) (R : Rel h₀ C env ρ σ s.heap) :
    wpAny (model prog w) A (eval (.Call (.Attribute (.Constant (.str sep) k p) "join" apos) [arg] [] pos) env) (PE h₀ C env ρ σ s v hp') E s := by
  obtain ⟨⟨a, hp₁⟩, h1, hh⟩ := Option.bind_eq_some_iff.mp h
  clear h
  have he := star_e (env := env) [] h1
  have hsep' : sep = ⟨#[]⟩ := by
    obtain ⟨c⟩ := sep
    have : c = #[] := by simpa using hsep
    rw [this]
  subst hsep'
  refine wpAny_Call_method (T := "str") (id := "str.join") rfl (by rw [he]; rfl) (by simpa using hline) F.plainAttrs_str F.slot_str_join F.type_str_join ?_
  refine wpAny_Constant_str ⟨typeIs_str _ _ _, (fun _ e => nomatch e), ?_⟩
  refine callWith_method1 (args_cons ?_ he) he rfl
  refine e_then (s := { s with toks := s.toks + 1 }) ih K O T h1 R fun V s₁ ρ₁ hV R₁ f₁ k₁ => args_nil ?_
  unfold evJoin at hh
  simp only at hh
  split at hh
  · rename_i m
    split at hh
    · rename_i xs hm
      obtain ⟨ys, h2, h3⟩ := Option.bind_eq_some_iff.mp hh
      split at h3
      · rename_i hz; cases h3
        rw [decide_eq_true_eq] at hz
        obtain ⟨l, its, rfl, _, hl, hx⟩ := list_at (σ := σ) R₁ hm hV
        refine join_list hl.isList (strs_of h2 hx) ?_ fun t' tk => ?_
        · have e : ((ys.map fun x => (⟨x.toArray⟩ : Str)).map (·.length)) = ys.map List.length := by
            rw [List.map_map]; congr 1
          rw [e]
          show _ + _ * 0 ≤ _
          unfold textLine at hz; (clear ih K O T hline R he hsep f₁ k₁ h2 R₁ h1 hm hh hV hl hx e; omega)
        · refine PE.after0 (KA.toks (s.toks + 1)) (PE.after f₁ k₁ (PE.toks (σ := σ) (s := s₁) R₁ (vStr' ?_) tk))
          show Builtin.Str.glued _ _ = _
          rw [StrLaws.glued_eq_join, join_empty]
      · cases h3
    · cases hh
  · cases hh

theorem e_lrange {p q r pos : Pos} {as : List Expr} (ih : Snd prog w mg mb n) (K : CxOk prog w mg mb A C) (O : EnvOk C env) (T : Tp mg mb h₀)
    (h : (if C.kind "list" = some .globalImplicit ∧ C.kind "range" = some .globalImplicit then (evL C n as σ).bind fun p => evListRange p.1 p.2 else none) = some (v, hp')) (R : Rel h₀ C env ρ σ s.heap) :
    wpAny (model prog w) A (eval (.Call (.Name "list" p) [.Call (.Name "range" q) as [] r] [] pos) env) (PE h₀ C env ρ σ s v hp') E s := by
  split at h
  case isFalse => cases h
  rename_i hk
  obtain ⟨⟨vs, hp₁⟩, h1, hh⟩ := Option.bind_eq_some_iff.mp h
  clear h
  have Ts := T.keeps R.base
  cases as with
  | nil => have := evL_nil h1; simp only at this; subst this; simp [evListRange] at hh
  | cons e rest =>
    obtain ⟨he, hplain⟩ := star_parts (env := env) h1
    refine Call_Name rfl (ld_bi Ts O hk.1 (by decide) boot_list' (by decide) (callWith_type1 (args_cons ?_ rfl) rfl rfl))
    refine Call_Name rfl (ld_bi Ts O hk.2 (by decide) boot_range' (by decide) (callWith_type1 (l_then ih K O T h1 R fun Vs s₁ ρ₁ hV R₁ f₁ k₁ => ?_) he (hplain _)))
    unfold evListRange at hh
    simp only at hh
    split at hh
    · rename_i a b
      split at hh
      · rename_i hz; cases hh
        rw [Bool.and_eq_true_iff, Bool.and_eq_true_iff, small_iff, small_iff, decide_eq_true_eq] at hz
        cases hV with
        | cons x y =>
        cases y with
        | cons y z =>
        cases z
        obtain ⟨u, rfl⟩ := x
        obtain ⟨u', rfl⟩ := y
        refine call_range_2 (args_nil ?_)
        refine call_list_range K.room.handled (IsRange.new _ _ _ _ _ _ _) (small_one (by omega) (by omega) (by omega) (by omega)) (rangeSize_one a b) (by omega) fun h' tk acc' c' hk' hS hacc => ?_
        refine PE.after f₁ k₁ (PE.newList (σ := σ) (s := s₁) R₁ tk _ acc' _ ?_ (fun b o e => hk' b o (Heap.get?_push_of_some _ e)) ⟨_, hS⟩ ?_)
        · cases e : s₁.heap.get? (s₁.heap.push { cls := .type "range", data := .fields #[.int a u, .int b u', .int 1 s₁.toks] }).objs.size with
          | none => rfl
          | some o => exact absurd (Heap.lt_size (Heap.get?_push_of_some _ e)) (Nat.lt_irrefl _)
        · refine paired_of (by simp [rangeInts, intsFrom_length, hacc.1]) fun i x y hx hy => ?_
          rw [List.getElem?_map] at hx
          obtain ⟨j, h2, rfl⟩ := Option.map_eq_some_iff.mp hx
          have hlt : i < (b - a).toNat := by have := get_lt h2; simpa [rangeInts, intsFrom_length] using this
          rw [rangeInts, intsFrom_get a _ i hlt] at h2
          cases h2
          obtain ⟨t, rfl⟩ := hacc.2 i y (by simpa using hy)
          rw [Int.mul_one]; exact vInt
      · cases hh
    · cases hh

theorem maker_of {e : Expr} {fa : Str × List Expr} (h : makerForm e = some fa) : ∃ p pos, e = .Call (.Name fa.1 p) fa.2 [] pos ∧ isMaker fa.1 = true := by
  obtain ⟨q, h1, h2⟩ := Option.bind_eq_some_iff.mp h
  obtain ⟨p, pos, rfl⟩ := named_inv h1
  split at h2
  · rename_i hm; cases h2; exact ⟨p, pos, rfl, hm⟩
  · cases h2
theorem maker_boot {f : Str} (h : isMaker f = true) : ∃ T, bootBuiltins f = some (.type T) ∧ f ∈ (["len", "sum", "chr", "range", "enumerate", "zip", "list"] : List Str) ∧ (f == ("__debug__" : Str)) = false := by
  unfold isMaker at h
  rw [Bool.or_eq_true, Bool.or_eq_true, beq_iff_eq, beq_iff_eq, beq_iff_eq] at h
  rcases h with (rfl | rfl) | rfl
  · exact ⟨_, boot_range', by decide, by decide⟩
  · exact ⟨_, boot_enum', by decide, by decide⟩
  · exact ⟨_, boot_zip', by decide, by decide⟩

theorem i_sound {t e : Expr} {items : List It} {fz' : List Nat} (ih : Snd prog w mg mb n) (K : CxOk prog w mg mb A C) (O : EnvOk C env) (T : Tp mg mb h₀) (h : evI C (n + 1) t e σ = some (items, fz', hp')) (R : Rel h₀ C env ρ σ s.heap) :
    wpAny (model prog w) A (eval e env) (fun xv s₁ => wpAny (model prog w) A (pyIter xv) (PI prog w A h₀ C env ρ σ s t items fz' hp') E s₁) E s := by
  rw [iAll] at h
  cases hm : makerForm e with
  | some fa =>
    rw [hm] at h
    obtain ⟨f, args⟩ := fa
    obtain ⟨p, pos, rfl, hmk⟩ := maker_of hm
    simp only at hmk h ⊢
    split at h
    case isFalse => cases h
    rename_i hk
    obtain ⟨⟨vs, hp₁⟩, h1, h⟩ := Option.bind_eq_some_iff.mp h
    obtain ⟨⟨⟨its, two⟩, fz⟩, h2, h⟩ := Option.bind_eq_some_iff.mp h
    simp only at h h2
    split at h
    case isFalse => cases h
    rename_i ht
    cases h
    obtain ⟨T', hb, hmem, hd⟩ := maker_boot hmk
    cases args with
    | nil =>
      have := evL_nil h1; simp only at this; subst this
      unfold itemsOf at h2
      by_cases c1 : f = "range"
      · rw [if_pos c1] at h2; cases h2
      · rw [if_neg c1] at h2
        by_cases c2 : f = "enumerate"
        · rw [if_pos c2] at h2; cases h2
        · rw [if_neg c2] at h2
          by_cases c3 : f = "zip"
          · rw [if_pos c3] at h2; cases h2
          · rw [if_neg c3] at h2; cases h2
    | cons e rest =>
      obtain ⟨he, hplain⟩ := star_parts (env := env) h1
      refine Call_Name rfl (ld_bi (T.keeps R.base) O hk hmem hb hd (callWith_type1 (l_then ih K O T h1 R fun Vs s₁ ρ₁ hV R₁ f₁ k₁ => ?_) he (hplain _)))
      obtain ⟨T'', hb', _, _, q⟩ := iter_made (prog := prog) (w := w) (σ := σ) (E := E) K.room h2 ht hV R₁
      rw [hb] at hb'
      cases hb'
      exact wpAny_mono q (fun xv s₂ q₂ => wpAny_mono q₂ (fun V s₃ q₃ => PI.after f₁ k₁ q₃) fun _ _ x => x) fun _ _ x => x
  | none =>
    rw [hm] at h
    obtain ⟨⟨a, hp₁⟩, h1, h⟩ := Option.bind_eq_some_iff.mp h
    obtain ⟨⟨⟨its, two⟩, fz⟩, h2, h⟩ := Option.bind_eq_some_iff.mp h
    simp only at h h2
    split at h
    case isFalse => cases h
    rename_i ht
    cases h
    refine e_then ih K O T h1 R fun V s₁ ρ₁ hV R₁ f₁ k₁ => ?_
    exact wpAny_mono (iter_val (σ := σ) K.room h2 ht hV R₁) (fun V s₃ q₃ => PI.after f₁ k₁ q₃) fun _ _ x => x

theorem e_sound {e : Expr} (ih : Snd prog w mg mb n) (K : CxOk prog w mg mb A C) (O : EnvOk C env) (T : Tp mg mb h₀) (h : evE C (n + 1) e σ = some (v, hp')) (R : Rel h₀ C env ρ σ s.heap) :
    wpAny (model prog w) A (eval e env) (PE h₀ C env ρ σ s v hp') E s := by
  cases e with
  | Constant c k p => exact e_const h R
  | Name x p => exact e_name K O T h R
  | BinOp l op r p => exact e_bin ih K O T h R
  | UnaryOp op x p => exact e_un ih K O T h R
  | Compare l ops rs p =>
    cases ops with
    | nil => cases h
    | cons op ops =>
    cases ops with
    | cons _ _ => cases h
    | nil =>
    cases rs with
    | nil => cases h
    | cons r rs =>
    cases rs with
    | cons _ _ => cases h
    | nil => exact e_cmp ih K O T h R
  | BoolOp op vs p =>
    cases op with
    | Or => cases h
    | And =>
    cases vs with
    | nil => cases h
    | cons x vs =>
    cases vs with
    | nil => cases h
    | cons y vs =>
    cases vs with
    | cons _ _ => cases h
    | nil => exact e_and ih K O T h R
  | IfExp t a b p => exact e_if ih K O T h R
  | Subscript o i p => exact e_sub ih K O T h R
  | List es p => exact e_list ih K O T h R
  | Tuple es k p => exact e_tup ih K O T h R
  | ListComp elt gs scope p => exact e_comp ih K O T h R
  | Call f as ks pos =>
    rw [xCall] at h
    exact form_cases (P := fun f as ks F => (match F with
      | .join arg => (evE C n arg σ).bind fun p => evJoin p.1 p.2
      | .listRange as => if C.kind "list" = some .globalImplicit ∧ C.kind "range" = some .globalImplicit then (evL C n as σ).bind fun p => evListRange p.1 p.2 else none
      | .plain f args => (evL C n args σ).bind fun p => evCall C f p.1 p.2
      | .bad => none) = some (v, hp') → wpAny (model prog w) A (eval (.Call f as ks pos) env) (PE h₀ C env ρ σ s v hp') E s) pos
      (fun _ _ _ h => by cases h) (fun _ _ _ _ _ h1 h2 h => e_join ih K O T h1 h2 h R) (fun _ _ _ _ h => e_lrange ih K O T h R) (fun _ _ _ _ h => e_call ih K O T h R) f as ks h
  | _ => cases h

theorem t_val {e : Expr} {b : Bool} (ih : Snd prog w mg mb n) (K : CxOk prog w mg mb A C) (O : EnvOk C env) (T : Tp mg mb h₀)
    (h : ((evE C n e σ).bind fun p => match p.1 with | .bool b => some (b, p.2) | _ => none) = some (b, hp')) (R : Rel h₀ C env ρ σ s.heap)
    (he : isTrue e env (eval e env) = (do let v ← eval e env; standAt e.pos; holding [v] (truthy v))) : wpAny (model prog w) A (isTrue e env (eval e env)) (PT h₀ C env ρ σ s b hp') E s := by
  obtain ⟨⟨a, hp₁⟩, h1, hh⟩ := Option.bind_eq_some_iff.mp h
  refine wpAny_isTrue_value (e_then ih K O T h1 R fun V s₁ ρ₁ hV R₁ f₁ k₁ => ?_) he
  cases a with
  | bool u => cases hh; cases hV; exact wpAny_truthy_bool ⟨rfl, ρ₁, R₁, f₁, k₁⟩
  | _ => cases hh

theorem t_sound {e : Expr} {b : Bool} (ih : Snd prog w mg mb n) (K : CxOk prog w mg mb A C) (O : EnvOk C env) (T : Tp mg mb h₀) (h : evT C (n + 1) e σ = some (b, hp')) (R : Rel h₀ C env ρ σ s.heap) :
    wpAny (model prog w) A (isTrue e env (eval e env)) (PT h₀ C env ρ σ s b hp') E s := by
  cases e with
  | UnaryOp op x p =>
    cases op with
    | Not =>
      obtain ⟨⟨c, hp₁⟩, h1, h2⟩ := Option.map_eq_some_iff.mp h
      cases h2
      exact wpAny_isTrue_Not (t_then ih K O T h1 R fun s₁ ρ₁ R₁ f₁ k₁ => ⟨rfl, ρ₁, R₁, f₁, k₁⟩)
    | _ => cases h
  | BoolOp op vs p =>
    cases op with
    | And => exact wpAny_isTrue_BoolOp (ih.a K O T h R)
    | Or => cases h
  | Compare l ops rs p =>
    cases ops with
    | nil => cases h
    | cons op ops =>
    cases ops with
    | cons _ _ => cases h
    | nil =>
    cases rs with
    | nil => cases h
    | cons r rs =>
    cases rs with
    | cons _ _ => cases h
    | nil =>
      have z := cmp_then (E := E) (Q := fun c s₃ => wpAny (model prog w) A (truthy c) (PT h₀ C env ρ σ s b hp') E s₃) ih K O T h R fun s₁ ρ' R₁ f₁ k₁ => wpAny_truthy_bool ⟨rfl, ρ', R₁, f₁, k₁⟩
      exact wpAny_isTrue_Compare1 z.1 z.2
  | Name x p => exact t_val ih K O T h R rfl
  | Call f as ks p => exact t_val ih K O T h R rfl
  | _ => cases h

theorem a_sound {es : List Expr} {b : Bool} (ih : Snd prog w mg mb n) (K : CxOk prog w mg mb A C) (O : EnvOk C env) (T : Tp mg mb h₀) (h : evA C (n + 1) es σ = some (b, hp')) (R : Rel h₀ C env ρ σ s.heap) :
    wpAny (model prog w) A (allTrue .And es env) (PT h₀ C env ρ σ s b hp') E s := by
  cases es with
  | nil =>
    cases h
    exact wpAny_allTrue_And_nil ⟨rfl, [], by simpa using R, by simp, KA.refl⟩
  | cons e0 r0 =>
    obtain ⟨⟨c, hp₁⟩, h1, hh⟩ := Option.bind_eq_some_iff.mp h
    refine wpAny_allTrue_And_cons (t_then ih K O T h1 R fun s₁ ρ₁ R₁ f₁ k₁ => ?_)
    cases c with
    | true =>
      simp only [if_true] at hh ⊢
      exact wpAny_mono (ih.a K O T hh R₁) (fun V s₃ h₃ => PT.after f₁ k₁ h₃) fun _ _ x => x
    | false =>
      simp only [Bool.false_eq_true, if_false] at hh ⊢
      cases hh
      exact ⟨rfl, ρ₁, R₁, f₁, k₁⟩

theorem l_sound {es : List Expr} {vs : List AV} (pos : Pos) (ih : Snd prog w mg mb n) (K : CxOk prog w mg mb A C) (O : EnvOk C env) (T : Tp mg mb h₀) (h : evL C (n + 1) es σ = some (vs, hp')) (R : Rel h₀ C env ρ σ s.heap) :
    wpAny (model prog w) A (spliced (backTo pos (starEach es env))) (PL h₀ C env ρ σ s vs hp') E s := by
  cases es with
  | nil =>
    cases h
    exact args_nil ⟨[], .nil, by simpa using R, by simp, KA.refl⟩
  | cons e0 r0 =>
    obtain ⟨⟨a, hp₁⟩, h1, hh⟩ := Option.bind_eq_some_iff.mp h
    obtain ⟨⟨as, hp₂⟩, h2, h3⟩ := Option.map_eq_some_iff.mp hh
    cases h3
    refine args_cons (e_then ih K O T h1 R fun V s₁ ρ₁ hV R₁ f₁ k₁ => l_then ih K O T h2 R₁ fun Vs s₂ ρ₂ hVs R₂ f₂ k₂ => ?_) (star_e _ h1)
    refine ⟨ρ₁ ++ ρ₂, ?_, ?_, fresh_then f₁ k₁ f₂, k₁.trans k₂⟩
    · rw [← List.append_assoc]; exact .cons hV.mono hVs
    · rw [← List.append_assoc]; exact R₂

theorem b_sound {oe : Option Expr} {l : Option Int} (ih : Snd prog w mg mb n) (K : CxOk prog w mg mb A C) (O : EnvOk C env) (T : Tp mg mb h₀) (h : evB C (n + 1) oe σ = some (l, hp')) (R : Rel h₀ C env ρ σ s.heap) :
    wpAny (model prog w) A (evalPart oe env) (PB h₀ C env ρ σ s l hp') E s := by
  cases oe with
  | none =>
    cases h
    exact wpAny_evalPart_none ⟨[], rfl, by simpa using R, by simp, KA.refl⟩
  | some e0 =>
    obtain ⟨⟨a, hp₁⟩, h1, hh⟩ := Option.bind_eq_some_iff.mp h
    obtain ⟨i, h2, h3⟩ := Option.bind_eq_some_iff.mp hh
    simp only at h2
    split at h3
    · cases h3
      refine wpAny_evalPart_some (e_then ih K O T h1 R fun V s₁ ρ₁ hV R₁ f₁ k₁ => ⟨ρ₁, ?_, R₁, f₁, k₁⟩)
      cases a with
      | int _ => cases h2; exact hV
      | _ => cases h2
    · cases h3
end

theorem snd_all {prog : Program} {w : World} {mg mb : Str → Option Value} : ∀ n, Snd prog w mg mb n
  | 0 => by
    exact ⟨fun _ _ _ h => (by cases h), fun _ _ _ h => (by cases h), fun _ _ _ h => (by cases h), fun _ _ _ _ h => (by cases h), fun _ _ _ h => (by cases h), fun _ _ _ h => (by cases h)⟩
  | n + 1 => by
    have ih := snd_all (prog := prog) (w := w) (mg := mg) (mb := mb) n
    exact ⟨fun K O T h _ _ _ R => e_sound ih K O T h R, fun K O T h _ _ _ R => t_sound ih K O T h R, fun K O T h _ _ _ R => a_sound ih K O T h R, fun pos K O T h _ _ _ R => l_sound pos ih K O T h R,
      fun K O T h _ _ _ R => b_sound ih K O T h R, fun K O T h _ _ _ R => i_sound ih K O T h R⟩
end Mine

namespace Mine
open PySem PyProof.Rows PySem.Calls

/-! ## statements -/
noncomputable def FR (ρ : List Addr) : AF → Flow → Prop
  | .next, f => f = .next
  | .brk, f => f = .brk
  | .ret v, f => ∃ V, f = .ret V ∧ VR ρ v V
noncomputable def PS (h₀ : Heap) (C : Cx) (env : Env) (ρ : List Addr) (σ : AS) (s : Shared) (r : AF × AS) : Flow → Shared → Prop :=
  fun f s' => ∃ ρ', FR (ρ ++ ρ') r.1 f ∧ Rel h₀ C env (ρ ++ ρ') r.2 s'.heap ∧ (∀ a ∈ ρ', s.heap.get? a = none) ∧ KS C env ρ σ.fz s s' ∧ r.2.fz = σ.fz

/-- a generator of the text's own: made, then gone through -/
noncomputable def GenAt (prog : Program) (w : World) (mg mb : Str → Option Value) (A : Around) (f : Str) (ds : List DA) (items : List It × Bool) : Prop :=
  ∀ (h₀ : Heap) (t : Expr) (ρ : List Addr) (s : Shared) (Vs : List Value) (a : Addr) (E : Value → Shared → Prop), tgtOk t (genTwo f) = true → Tp mg mb h₀ → (∀ b o, h₀.get? b = some o → s.heap.get? b = some o) → mg f = some (.ref a) → Paired (DAR s.heap) ds Vs →
    wpAny (model prog w) A (call (.ref a) Vs) (fun xv s₁ => wpAny (model prog w) A (pyIter xv) (fun V s₂ => ∃ I g rd St W, V = .ref I ∧ KA s s₂ ∧ Itr prog w A (fun h => ∀ b o, h₀.get? b = some o → h.get? b = some o) t I (some g) rd ρ items.1 items.2 St ∧ St 0 W s₂ ∧
      (∀ b ∈ W, s.heap.get? b = none) ∧ s.gens[g]? = none ∧ (∀ b ∈ rd, Value.ref b ∈ Vs)) E s₁) E s
structure SxOk (prog : Program) (w : World) (mg mb : Str → Option Value) (A : Around) (C : Cx) : Prop extends CxOk prog w mg mb A C where
  gen : ∀ f ds items, C.gen f ds = some items → (defs.lookup f).isSome = true ∧ GenAt prog w mg mb A f ds items
  gen0 : ∀ f items, C.gen f [] ≠ some items

section
variable {C : Cx} {env : Env} {ρ : List Addr} {σ σ' : AS}
theorem setVar_fz {x : Str} {v : AV} (h : setVar C x v σ = some σ') : σ'.fz = σ.fz := by
  unfold setVar at h
  split at h <;> cases h <;> rfl
end

section
variable {prog : Program} {w : World} {mg mb : Str → Option Value} {A : Around} {h₀ : Heap} {C : Cx} {env : Env} {ρ ρ₁ : List Addr} {σ σ₁ σ' : AS} {s s₁ s₂ : Shared} {E : Value → Shared → Prop} {hp' hp₁ : List AO} {v : AV} {n : Nat}

theorem KS.fzx {fz fz' : List Nat} (k : KS C env ρ fz s s₁) (h : ∀ n ∈ fz', n ∈ fz) : KS C env ρ fz' s s₁ := ⟨fun b o e h1 h2 h3 => k.keep b o e h1 h2 fun n hn => h n (h3 n hn), k.drawn, k.os, k.gold, k.bare⟩

theorem PS.after {r : AF × AS} {f : Flow} (f₁ : ∀ a ∈ ρ₁, s.heap.get? a = none) (k₁ : KS C env ρ σ.fz s s₁) (R₁ : Rel h₀ C env (ρ ++ ρ₁) σ₁ s₁.heap) (hz : σ₁.fz = σ.fz) (h : PS h₀ C env (ρ ++ ρ₁) σ₁ s₁ r f s₂) : PS h₀ C env ρ σ s r f s₂ := by
  obtain ⟨ρ'', h1, h2, h3, h4, h5⟩ := h
  refine ⟨ρ₁ ++ ρ'', by rw [← List.append_assoc]; exact h1, by rw [← List.append_assoc]; exact h2, fun a ha => ?_, ?_, h5.trans hz⟩
  · rcases List.mem_append.mp ha with h | h
    · exact f₁ a h
    · exact k₁.fresh R₁ (h3 a h)
  · rw [hz] at h4; exact KS.trans k₁ h4 f₁
/-- behind an expression -/
theorem PS.afterE {r : AF × AS} {f : Flow} (f₁ : ∀ a ∈ ρ₁, s.heap.get? a = none) (k₁ : KA s s₁) (R₁ : Rel h₀ C env (ρ ++ ρ₁) { σ with hp := hp' } s₁.heap) (h : PS h₀ C env (ρ ++ ρ₁) { σ with hp := hp' } s₁ r f s₂) : PS h₀ C env ρ σ s r f s₂ :=
  PS.after f₁ k₁.ks R₁ rfl h

/-- a store is a statement's end -/
theorem store_ps (R' : Rel h₀ C env ρ σ' s₁.heap) (k : KS C env [] [] s s₁) (hz : σ'.fz = σ.fz) : PS h₀ C env ρ σ s (.next, σ') .next s₁ :=
  ⟨[], rfl, by simpa using R', by simp, k.weak, hz⟩

theorem swaps_eq {e : Expr} {r : AV × List AO} {x : Str} {p : Pos} {l : Nat} (h : evE C n e σ = some r) :
    swapsWith e (some (.Name x p)) l env = pure false ∨ (swapsWith e (some (.Name x p)) l env = pure true ∧ env.kindOf x = some .local ∧ ∃ elt gs scope pos, e = .ListComp elt gs scope pos) := by
  cases n with
  | zero => cases h
  | succ n =>
    cases e with
    | ListComp elt gs scope pos =>
      have e1 : swapsWith (.ListComp elt gs scope pos) (some (.Name x p)) l env = pure (env.blockKind == .function && env.kindOf x == some .local && p.line == pos.line && !(scope.names.any fun (n, k) => n == x && (k == .local || k == .cell))) := rfl
      cases hb : (env.blockKind == .function && env.kindOf x == some .local && p.line == pos.line && !(scope.names.any fun (n, k) => n == x && (k == .local || k == .cell))) with
      | false => rw [hb] at e1; exact .inl e1
      | true =>
        rw [hb] at e1
        refine .inr ⟨e1, ?_, _, _, _, _, rfl⟩
        simp only [Bool.and_eq_true] at hb
        have := hb.1.1.2
        simpa using this
    | SetComp => cases h
    | DictComp => cases h
    | _ => exact .inl rfl

theorem s_assign {x : Str} {p pos : Pos} {e : Expr} (K : CxOk prog w mg mb A C) (O : EnvOk C env) (T : Tp mg mb h₀) (h1 : evE C n e σ = some (v, hp')) (h2 : setVar C x v { σ with hp := hp' } = some σ') (R : Rel h₀ C env ρ σ s.heap) :
    wpAny (model prog w) A (exec (.Assign [.Name x p] e pos) env) (PS h₀ C env ρ σ s (.next, σ')) E s := by
  have hz : σ'.fz = σ.fz := setVar_fz (σ := { σ with hp := hp' }) h2
  rcases swaps_eq (env := env) (x := x) (p := p) (l := pos.line) h1 with hs | ⟨hs, _, elt, gs, scope, cpos, rfl⟩
  · refine wpAny_Assign_Name (e_then (snd_all n) K O T h1 R fun V s₁ ρ₁ hV R₁ f₁ k₁ => ?_) hs
    refine store_sound O h2 hV R₁ fun s₂ R₂ k₂ => ?_
    exact PS.afterE f₁ k₁ R₁ ⟨[], rfl, by simpa using R₂, by simp, k₂.weak, hz⟩
  · cases n with
    | zero => cases h1
    | succ n =>
    obtain ⟨t, it, ifs, rfl, hfs, hcl, hk, hn, q⟩ := comp_parts (E := E) (RR := fun acc L => compPost (model prog w) A E (some (assign (.Name x p) env)) (fun _ s' => PS h₀ C env ρ σ s (.next, σ') .next s') acc L) (snd_all n) K O T h1 R fun D L s' q => by
      obtain ⟨ρ₁, hv, R', hf, k, ⟨m, hns⟩, oL⟩ := q
      show wpAny _ A (assign (.Name x p) env (.ref D)) _ _ s'
      refine wpAny_assign_Name (store_sound O h2 hv R' fun s₂ R₂ k₂ => ⟨m, hns.at' fun o e => k₂.keep _ o e oL.loc oL.cel (by simp), fun h' hs' => ?_⟩)
      have R₃ : Rel h₀ C env (ρ ++ ρ₁) σ' h' := R₂.but (· = L) (fun b e => e ▸ oL) (fun b o hb e => hs'.extBut b o hb e)
      refine ⟨ρ₁, rfl, R₃, hf, ?_, hz⟩
      exact ⟨fun b o e h1 h2 h3 => hs'.extBut b o (fun z => by rw [z, oL.start] at e; cases e) (k₂.keep b o (k.keep b o e) h1 h2 (by simp)), k₂.drawn.trans k.drawn, k₂.os.trans k.os, fun i y e => k₂.gold i y (k.gold i y e), fun e => k₂.bare (k.bare e)⟩
    rw [exec_Assign_Name_used _ _ _ _ hs]
    refine wpAny_bind (wpAny_standAt (wpAny_bind ?_))
    show wpAny _ A (do let _ ← comprehension (.ListComp elt [⟨t, it, ifs, 0⟩] scope cpos) scope env _ (newList []) false (eval it env) (some (assign (.Name x p) env))) _ _ s
    exact wpAny_bind (wpAny_mono (wpAny_comprehension_free (use := some (assign (.Name x p) env)) (Q := fun _ s' => PS h₀ C env ρ σ s (.next, σ') .next s') rfl hfs hcl hk hn q) (fun _ s' hq => wpAny_pure (wpAny_pure hq)) fun _ _ e => e)

theorem aug_sound {op : Operator} {a b : AV} {Va Vb : Value} {Q : Value → Shared → Prop} (h : evAug op a b = some v) (ha : VR ρ a Va) (hb : VR ρ₁ b Vb) (hQ : ∀ V tk, (∀ ρ, VR ρ v V) → Q V { s with toks := tk }) :
    wpAny (model prog w) A (inplaceOp op Va Vb) Q E s := by
  unfold evAug at h
  split at h
  · obtain ⟨t, rfl⟩ := ha; obtain ⟨u, rfl⟩ := hb; cases h
    exact PyProof.Rows.iadd_int (hQ _ _ fun _ => vInt)
  · obtain ⟨t, rfl⟩ := ha; obtain ⟨u, rfl⟩ := hb; cases h
    exact PyProof.Rows.isub_int (hQ _ _ fun _ => vInt)
  · cases h

theorem s_aug {x : Str} {p pos : Pos} {op : Operator} {e : Expr} {a u : AV} (K : CxOk prog w mg mb A C) (O : EnvOk C env) (T : Tp mg mb h₀) (h0 : getVar C x σ = some a) (h1 : evE C n e σ = some (v, hp')) (h2 : evAug op a v = some u)
    (h3 : setVar C x u { σ with hp := hp' } = some σ') (R : Rel h₀ C env ρ σ s.heap) : wpAny (model prog w) A (exec (.AugAssign (.Name x p) op e pos) env) (PS h₀ C env ρ σ s (.next, σ')) E s := by
  refine wpAny_AugAssign_Name (name_sound K O T h0 R fun Va hVa => e_then (snd_all n) K O T h1 R fun V s₁ ρ₁ hV R₁ f₁ k₁ => ?_)
  refine aug_sound h2 hVa hV fun W tk hW => ?_
  refine store_sound (s := { s₁ with toks := tk }) O h3 (hW _) R₁ fun s₂ R₂ k₂ => ?_
  exact PS.afterE f₁ (k₁.trans (KA.toks tk)) R₁ ⟨[], rfl, by simpa using R₂, by simp, k₂.weak, setVar_fz (σ := { σ with hp := hp' }) h3⟩

theorem mapSeq_set_plain (its : Array Value) (n j : Nat) (x : Value) : ∃ n', Obj.mapSeq (·.setIfInBounds j x) { cls := .type "list", data := .seq its n } = { cls := .type "list", data := .seq (its.setIfInBounds j x) n' } := by
  simp [Obj.mapSeq]

theorem setItem_neg {l : Addr} {items : Array Value} {k : Int} {t : Tok} {V : Value} {Q : Unit → Shared → Prop} (hl : s.heap.PlainList l items) (h0 : k < 0) (h1 : -(items.size : Int) ≤ k) (hfit : -(2 ^ 63) ≤ k)
    (hQ : ∀ h', h'.PlainList l (items.setIfInBounds (k + items.size).toNat V) → Heap.SameBut l s.heap h' → Q () { s with heap := h' }) : wpAny (model prog w) A (setItem (.ref l) (.int k t) V) Q E s := by
  have hI := hl.isList
  obtain ⟨ne, ho⟩ := hl
  unfold setItem
  try with_reducible refine wpAny_holding ?_
  first | refine wpAny_bind (wpAny_pure ?_) | skip
  refine wpAny_bind (wpAny_sequenceKey hI.typeIs (by decide) ?_)
  refine wpAny_bind (wpAny_callSpecial?_slot (name := Str.ofString "__setitem__") hI.typeIs slot_list_setitem
    (wpAny_call_entry slot_list_setitem hI.typeIs entry_list_setitem ?_ (args_list_setitem _ _ _)))
  show wpAny _ _ (Builtin.List.listSubscript? (.int k t) >>= _) _ _ s
  refine wpAny_bind (wpAny_listSubscript_int (fitsIndex_neg h0 hfit) ?_)
  clear hfit
  have hidx := seqIndex_neg h0 h1
  obtain ⟨x, hx⟩ : ∃ x, items[(k + items.size).toNat]? = some x := ⟨_, Array.getElem?_eq_getElem (by omega)⟩
  generalize hj : (k + items.size).toNat = j at hQ hidx hx
  obtain ⟨i, rfl⟩ : ∃ j : Nat, k = Int.negSucc j := by
    cases k with
    | ofNat n => exact absurd h0 (Int.not_lt.mpr (Int.natCast_nonneg n))
    | negSucc n => exact ⟨n, rfl⟩
  show wpAny _ _ ((Builtin.List.listItems (.ref l) >>= fun xs => pure ((seqIndex? (Int.negSucc i) xs.size).bind fun i => xs[i]?.map (i, ·))) >>= _) _ _ s
  refine wpAny_bind (wpAny_bind ?_)
  show wpAny _ _ (seqItems? (.ref l) >>= _) _ _ s
  refine wpAny_bind (wpAny_seqItems ho rfl (wpAny_pure (wpAny_pure ?_)))
  rw [hidx]
  simp only [Option.bind_some, hx, Option.map_some]
  show wpAny _ _ (setSeqItemAt l j V >>= _) _ _ s
  obtain ⟨n', hn'⟩ := mapSeq_set_plain items ne j V
  have hfin : (s.heap.update l (Obj.mapSeq (·.setIfInBounds j V))).PlainList l (items.setIfInBounds j V) :=
    ⟨n', by rw [Heap.get?_update_self _ ho (by rw [hn']; rfl), hn']⟩
  refine wpAny_bind (wpAny_setSeqItemAt ho rfl ?_)
  first
    | exact wpAny_bind (wpAny_pure (wpAny_pure ⟨.none, rfl, wpAny_pure (hQ _ hfin (Heap.SameBut.update ..))⟩))
    | exact wpAny_pure ⟨.none, rfl, wpAny_pure (hQ _ hfin (Heap.SameBut.update ..))⟩

/-- one object of the frame's own is changed: the footprint -/
theorem ks_obj {k : Nat} {a : Addr} {h' : Heap} (hk : ρ[k]? = some a) (hf : k ∉ σ.fz) (hs : Heap.SameBut a s.heap h') : KS C env ρ σ.fz s { s with heap := h' } :=
  ⟨fun b o e _ _ h3 => hs.extBut b o (fun z => hf (h3 k (z ▸ hk))) e, rfl, rfl, fun _ _ e => e, fun e => e⟩

theorem s_put {o i : Expr} {c : Const} {cp : Nat} {tpos pos vpos : Pos} {op : Operator} {hp₂ : List AO} {vo vi a : AV} (K : CxOk prog w mg mb A C) (O : EnvOk C env) (T : Tp mg mb h₀) (h1 : evE C n o σ = some (vo, hp₁))
    (h2 : evE C n i { σ with hp := hp₁ } = some (vi, hp₂)) (h3 : constAV c = some a) (h4 : evPut op vo vi a { σ with hp := hp₂ } = some σ') (R : Rel h₀ C env ρ σ s.heap) :
    wpAny (model prog w) A (exec (.AugAssign (.Subscript o i tpos) op (.Constant c cp vpos) pos) env) (PS h₀ C env ρ σ s (.next, σ')) E s := by
  have hi : ∀ ov iv new, augStore i ov iv new = (do holding [new, ov, iv] (setItem ov iv new); release [new, ov, iv] []; pure .next) := by
    intro ov iv new
    cases i <;> first | rfl | (cases n <;> cases h2)
  refine wpAny_AugAssign_SubscriptAny (e_then (snd_all n) K O T h1 R fun Vo s₁ ρ₁ hVo R₁ f₁ k₁ => e_then (snd_all n) K O T h2 R₁ fun Vi s₂ ρ₂ hVi R₂ f₂ k₂ => ?_) hi
  unfold evPut at h4
  split at h4
  case h_2 => cases h4
  rename_i k j
  simp only at h4
  split at h4
  case h_2 => cases h4
  rename_i xs hk
  split at h4
  case isFalse => cases h4
  rename_i hg
  rw [Bool.and_eq_true_iff, Bool.and_eq_true_iff, decide_eq_true_eq] at hg
  obtain ⟨⟨hneg, hsm⟩, hfz⟩ := hg
  obtain ⟨m, h5, h4⟩ := Option.bind_eq_some_iff.mp h4
  obtain ⟨old, h6, h4⟩ := Option.bind_eq_some_iff.mp h4
  obtain ⟨u, h7, h8⟩ := Option.map_eq_some_iff.mp h4
  cases h8
  have hVo' : VR ((ρ ++ ρ₁) ++ ρ₂) (.ref k) Vo := hVo.mono
  obtain ⟨t, rfl⟩ := hVi
  refine getItem_sound (σ := σ) hk hsm h5 h6 hVo' R₂ fun W hW => ?_
  refine wpAny_mono (e_const (C := C) (h₀ := h₀) (ρ := (ρ ++ ρ₁) ++ ρ₂) (σ := { σ with hp := hp₂ }) (v := a) (hp' := hp₂) (by rw [h3]; rfl) R₂) (fun Vc s₃ q => ?_) fun _ _ x => x
  obtain ⟨ρ₃, hVc, R₃, f₃, k₃⟩ := q
  refine aug_sound h7 hW hVc fun U tk hU => ?_
  obtain ⟨l, its, rfl, hl, hpl, hx⟩ := list_at (σ := σ) R₃ hk hVo'.mono
  have hsz := paired_len hx
  rw [small_iff] at hsm
  rcases place_spec h5 with ⟨h0, _, _⟩ | ⟨_, hge, rfl⟩
  · (clear K O T h3 R hi R₁ f₁ k₁ R₂ f₂ k₂ h1 h2 hk hfz h5 h6 h7 h4 hW hVc R₃ f₃ k₃ hU hVo hVo' hl hpl hx hsz hsm; omega)
  refine setItem_neg (s := { s₃ with toks := tk }) hpl hneg (by rw [hsz]; exact hge) (by omega) fun h' hpl' hsb => ?_
  have hfz' : k ∉ σ.fz := by simpa using hfz
  have R₄ := R₃.setObj (o := .list (xs.set (j + xs.length).toNat u)) hl hfz' ⟨_, hpl', by
    rw [Array.toList_setIfInBounds, hsz]
    exact Paired.set' (hU _) _ hx⟩ hsb
  refine PS.afterE f₁ k₁ R₁ (PS.afterE (σ := { σ with hp := hp₁ }) f₂ k₂ R₂ (PS.afterE (σ := { σ with hp := hp₂ }) f₃ (k₃.trans (KA.toks tk)) R₃ ?_))
  exact ⟨[], rfl, by simpa using R₄, by simp, ks_obj (σ := σ) (s := { s₃ with toks := tk }) hl hfz' hsb, rfl⟩

theorem s_append {x : Str} {arg : Expr} {p apos cpos pos : Pos} {o : AV} (K : CxOk prog w mg mb A C) (O : EnvOk C env) (T : Tp mg mb h₀) (hline : apos.endLine = cpos.line) (h1 : getVar C x σ = some o) (hla : listAt σ.hp o = true) (h2 : evE C n arg σ = some (v, hp'))
    (h3 : evAppend o v { σ with hp := hp' } = some σ') (R : Rel h₀ C env ρ σ s.heap) :
    wpAny (model prog w) A (exec (.Expr (.Call (.Attribute (.Name x p) "append" apos) [arg] [] cpos) pos) env) (PS h₀ C env ρ σ s (.next, σ')) E s := by
  have he := star_e (env := env) [] h2
  have hkd : ∃ k, C.kind x = some k := by
    unfold getVar at h1
    cases e : C.kind x with
    | none => rw [e] at h1; cases h1
    | some k => exact ⟨k, rfl⟩
  obtain ⟨kd, hkd⟩ := hkd
  unfold evAppend at h3
  split at h3
  case h_2 => cases h3
  rename_i k
  simp only at h3
  split at h3
  case h_2 => cases h3
  rename_i xs hk
  split at h3
  case isFalse => cases h3
  rename_i hg
  rw [Bool.and_eq_true_iff, decide_eq_true_eq] at hg
  cases h3
  have hfz : k ∉ σ.fz := by simpa using hg.1
  have hi : interactive env = false := by unfold interactive; rw [O.kind]; rfl
  refine wpAny_Expr ?_ hi rfl
  refine wpAny_Call_append rfl (by rw [he]; rfl) (by simpa using hline) (by rw [he]; rfl) ?_
  refine wpAny_Name (name_sound K O T h1 R fun Vo hVo => ?_) (O.ndbg hkd)
  obtain ⟨a, ha, rfl⟩ := hVo
  have hkl : k < σ.hp.length := R.len ▸ get_lt ha
  have body : ∀ Q : Value → Shared → Prop, (∀ s', PS h₀ C env ρ σ s (.next, { vars := σ.vars, hp := hp'.set k (.list (xs ++ [v])), fz := σ.fz }) .next s' → Q .none s') →
      wpAny (model prog w) A (eval arg env) (fun y s₂ => wpAny (model prog w) A (call (.builtin "list.append") [.ref a, y]) Q E s₂) E s := fun Q hQ => by
    refine e_then (snd_all n) K O T h2 R fun V s₁ ρ₁ hV R₁ f₁ k₁ => ?_
    obtain ⟨l, its, e, hl, hpl, hx⟩ := list_at (σ := σ) (V := .ref a) R₁ hk ⟨a, by rw [List.getElem?_append_left (get_lt ha)]; exact ha, rfl⟩
    cases e
    refine wpAny_list_append_plain hpl (fun h' hpl' hsb => hQ _ ?_) (by rw [paired_len hx]; exact textLine_le hg.2)
    have R₂ := R₁.setObj (o := .list (xs ++ [v])) hl hfz ⟨_, hpl', by rw [Array.toList_push]; exact hx.snoc hV⟩ hsb
    refine PS.afterE f₁ k₁ R₁ ?_
    exact ⟨[], rfl, by simpa using R₂, by simp, ks_obj (σ := σ) hl hfz hsb, rfl⟩
  have hob := R.obj k _ a (List.getElem?_eq_getElem hkl) ha
  cases ho : σ.hp[k] with
  | list ys =>
    rw [ho] at hob
    obtain ⟨its, ⟨m, e⟩, _⟩ := hob
    exact ⟨a, its, rfl, ⟨_, m, e, rfl, rfl, rfl⟩, body _ fun s' h => h⟩
  | tup ys =>
    exfalso
    simp [listAt, List.getElem?_eq_getElem hkl, ho] at hla
end
end Mine

namespace Mine
open PySem PyProof.Rows PySem.Calls

theorem ItR.mono {ρ ρ' : List Addr} {h : Heap} {it : It} {V : Value} (x : ItR ρ h it V) : ItR (ρ ++ ρ') h it V := by
  cases it with
  | one v => exact VR.mono (v := v) x
  | two a b => obtain ⟨T, Va, Vb, h1, h2, h3, h4⟩ := x; exact ⟨T, Va, Vb, h1, h2, h3.mono, h4.mono⟩

section
variable {prog : Program} {w : World} {mg mb : Str → Option Value} {A : Around} {h₀ : Heap} {C : Cx} {env : Env} {ρ ρ₁ : List Addr} {σ σ₁ σ' : AS} {s s₀ s₁ s₂ : Shared} {E : Value → Shared → Prop} {hp' hp₁ : List AO} {v : AV} {n : Nat}

theorem Rel.refz {fz : List Nat} {h : Heap} (R : Rel h₀ C env ρ σ h) (hN : ∀ (n : Nat) a, ρ[n]? = some a → n ∉ fz → h₀.get? a = none) : Rel h₀ C env ρ { σ with fz := fz } h :=
  ⟨R.base, R.loc, R.cel, R.len, R.obj, R.nodup, R.locN, R.locρ, R.celN, R.celI, hN⟩
theorem Rel.more {fz : List Nat} {h : Heap} (R : Rel h₀ C env ρ σ h) : Rel h₀ C env ρ { σ with fz := fz ++ σ.fz } h :=
  R.refz fun n a e hn => R.objN n a e fun z => hn (List.mem_append_right _ z)

theorem bindT_fz {t : Expr} {it : It} (h : bindT C t it σ = some σ') : σ'.fz = σ.fz := by
  cases t with
  | Name x p =>
    cases it with
    | one v => exact setVar_fz h
    | two _ _ => cases h
  | Tuple es k r =>
    cases it with
    | one _ => cases h
    | two a b =>
      obtain ⟨xy, _, h⟩ := Option.bind_eq_some_iff.mp h
      obtain ⟨σ₁, h1, h2⟩ := Option.bind_eq_some_iff.mp h
      exact (setVar_fz h2).trans (setVar_fz h1)
  | _ => cases h

/-- what a loop's turns keep -/
structure FI (h₀ : Heap) (C : Cx) (env : Env) (ρ ρ₁ : List Addr) (fz fz' : List Nat) (s₀ : Shared) (St : Nat → List Addr → Shared → Prop) (fin : Bool) (tgt : It → AS → Option AS) (body : AS → Option (AF × AS)) (items : List It) (r : AF × AS) (i : Nat) (s : Shared) : Prop where
  le : i ≤ items.length
  st : ∃ ρ₂ σ₂ W, Rel h₀ C env (ρ₁ ++ ρ₂) σ₂ s.heap ∧ (∀ a ∈ ρ₂, s₀.heap.get? a = none) ∧ σ₂.fz = fz' ++ fz ∧ St i W s ∧ (∀ b ∈ W, Off h₀ C env (ρ₁ ++ ρ₂) s₀ b) ∧ forIt fin tgt body (items.drop i) σ₂ = some r
  ks : KS C env ρ fz s₀ s

theorem for_loop {B : Heap → Prop} {t : Expr} {body : List Stmt} {I : Addr} {gi : Option Nat} {rd ρ' : List Addr} {items : List It} {fin : Bool} {St : Nat → List Addr → Shared → Prop} {fz' : List Nat} {W : List Addr} {r : AF × AS} {R : Result → Shared → Prop}
    {ev : AS → Option (AF × AS)} (hr : Room A) (O : EnvOk C env)
    (hbody : ∀ {σ : AS} {r : AF × AS} {ρ : List Addr} {s : Shared} {E : Value → Shared → Prop}, ev σ = some r → Rel h₀ C env ρ σ s.heap → wpAny (model prog w) A (execs body env) (PS h₀ C env ρ σ s r) E s)
    (R₀ : Rel h₀ C env ρ σ s₀.heap) (R₂ : Rel h₀ C env (ρ ++ ρ') { σ with hp := hp' } s₂.heap) (hf : ∀ a ∈ ρ', s₀.heap.get? a = none) (k₂ : KA s₀ s₂) (hB : ∀ h, (∀ b o, h₀.get? b = some o → h.get? b = some o) → B h) (hI : Itr prog w A B t I gi rd (ρ ++ ρ') items fin St) (hS : St 0 W s₂)
    (hW : ∀ b ∈ W, s₀.heap.get? b = none ∧ b ∉ ρ ++ ρ') (hrd : ∀ b ∈ rd, ∃ n ∈ fz', (ρ ++ ρ')[n]? = some b) (hg : ∀ g, gi = some g → s₀.gens[g]? = none)
    (hit : forIt fin (bindT C t) ev items { σ with hp := hp', fz := fz' ++ σ.fz } = some r)
    (hR : ∀ f s', PS h₀ C env ρ σ s₀ (unfz σ.fz r) f s' → R (.ok f) s') :
    codeAny (model prog w) A (.forLoop t (.ref I) body [] env) R s₂ := by
  refine codeAny_forLoop_any (fun n s => ∃ i, i + n = items.length ∧ FI h₀ C env ρ (ρ ++ ρ') σ.fz fz' s₀ St fin (bindT C t) ev items r i s) ?_ items.length
    ⟨0, by simp, ⟨Nat.zero_le _, ⟨[], _, W, by simpa using R₂.more, by simp, rfl, hS, fun b hb => ?_, hit⟩, k₂.ks⟩⟩
  · rintro n s ⟨i, hin, hle, ⟨ρ₂, σ₂, W, Rc, fc, hz, hSc, hWc, hitc⟩, kc⟩
    -- what is told of the end of a turn
    have endPS : ∀ {ρ₃ : List Addr} {σ₃ : AS} {af : AF} {f : Flow} {s₃ : Shared}, Rel h₀ C env ((ρ ++ ρ') ++ ρ₃) σ₃ s₃.heap → (∀ a ∈ ρ₃, s₀.heap.get? a = none) → KS C env ρ σ.fz s₀ s₃ → FR ((ρ ++ ρ') ++ ρ₃) af f →
        PS h₀ C env ρ σ s₀ (unfz σ.fz (af, σ₃)) f s₃ := fun {ρ₃ σ₃ af f s₃} R₃ f₃ k₃ hfr => by
      refine ⟨ρ' ++ ρ₃, by rw [← List.append_assoc]; exact hfr, ?_, fun a ha => ?_, k₃, rfl⟩
      · rw [← List.append_assoc]
        refine R₃.refz fun n a e hn => ?_
        rcases Nat.lt_or_ge n (ρ ++ ρ').length with hl | hl
        · rw [List.getElem?_append_left hl] at e
          exact R₂.objN n a e hn
        · rw [List.getElem?_append_right hl] at e
          have := f₃ a (List.mem_of_getElem? e)
          cases z : h₀.get? a with
          | none => rfl
          | some o => rw [R₀.base a o z] at this; cases this
      · rcases List.mem_append.mp ha with h | h
        · exact hf a h
        · exact f₃ a h
    have keepW : ∀ {s' : Shared}, Mv gi W s s' → KS C env ρ σ.fz s₀ s' := fun {s'} mv =>
      ⟨fun b o e h1 h2 h3 => mv.keep b o (fun hb => by rw [(hWc b hb).start] at e; cases e) (kc.keep b o e h1 h2 h3), mv.drawn.trans kc.drawn, mv.os.trans kc.os,
        fun j x e => mv.gold j x (fun z => by rw [hg j z] at e; cases e) (kc.gold j x e), fun e => mv.bare (kc.bare e)⟩
    cases hx : items[i]? with
    | none =>
      have hi : i = items.length := Nat.le_antisymm hle (by simpa using hx)
      subst hi
      rw [List.drop_length, forIt] at hitc
      split at hitc
      · rename_i hfin
        cases hitc
        refine hI.done hfin W s _ _ hSc (hB _ Rc.base) fun s' mv => wpAny_execs_nil (hR _ _ ?_)
        exact endPS (Rc.but (· ∈ W) hWc mv.keep) fc (keepW mv) rfl
      · cases hitc
    | some x =>
      have hlt : i < items.length := get_lt hx
      have hdr : items.drop i = x :: items.drop (i + 1) := by
        rw [List.drop_eq_getElem_cons hlt]
        have := List.getElem?_eq_getElem hlt
        rw [hx] at this
        cases this; rfl
      rw [hdr, forIt] at hitc
      obtain ⟨σ₃, hb, hitc⟩ := Option.bind_eq_some_iff.mp hitc
      obtain ⟨⟨af, σ₄⟩, he, hitc⟩ := Option.bind_eq_some_iff.mp hitc
      refine wpAny_mono (hI.next i W x s (fun v s₁ => wpAny (model prog w) A (assign t env v) (fun _ s₂ => wpAny (model prog w) A (execs body env) (fun f s₃ => match f with
            | .next | .cont => ∃ m, m < n ∧ ∃ i, i + m = items.length ∧ FI h₀ C env ρ (ρ ++ ρ') σ.fz fz' s₀ St fin (bindT C t) ev items r i s₃
            | .brk => R (.ok .next) s₃
            | .ret v => R (.ok (.ret v)) s₃) (notedBy (model prog w) A env fun e s' => R (.error e) s') s₂) (notedBy (model prog w) A env fun e s' => R (.error e) s') s₁) (notedBy (model prog w) A env fun e s' => R (.error e) s') hx hSc (hB _ Rc.base) ?_) (fun q s₁ h₁ => ?_) fun _ _ e => e
      · intro V s₁ W' hV hS' mv hW'
        have R₁ : Rel h₀ C env ((ρ ++ ρ') ++ ρ₂) σ₂ s₁.heap := Rc.but (· ∈ W) hWc mv.keep
        have k₁ : KS C env ρ σ.fz s₀ s₁ := keepW mv
        have hWW : ∀ b ∈ W', Off h₀ C env ((ρ ++ ρ') ++ ρ₂) s₀ b := fun b hb => by
          rcases hW' b hb with h | h
          · exact hWc b h
          · -- new in this turn
            have o := Rc.off (s₀ := s) KA.refl h
            refine ⟨o.base, ?_, o.loc, o.cel, o.obj⟩
            cases z : s₀.heap.get? b with
            | none => rfl
            | some ob =>
              rw [kc.keep b ob z o.loc o.cel fun n hn => absurd (List.mem_append_left _ (List.mem_append_left _ (List.mem_of_getElem? hn))) o.obj] at h
              cases h
        refine bind_sound hr O hb hV.mono R₁ fun s₂' R₂' kb => ?_
        refine wpAny_mono (hbody he R₂') (fun f s₃ q => ?_) fun _ _ e => e
        obtain ⟨ρ₃, hfr, R₃, f₃, k₃, hz₃⟩ := q
        have hzb : σ₃.fz = fz' ++ σ.fz := (bindT_fz hb).trans hz
        -- the frame's own
        have f₃' : ∀ a ∈ ρ₃, s₀.heap.get? a = none := fun a ha => by
          have h2 := f₃ a ha
          have o := R₂'.off (s₀ := s₂') KA.refl h2
          cases z : s₀.heap.get? a with
          | none => rfl
          | some ob =>
            have h1 := k₁.keep a ob z o.loc o.cel fun n hn => absurd (List.mem_append_left _ (List.mem_append_left _ (List.mem_of_getElem? hn))) o.obj
            rw [kb.keep a ob h1 o.loc o.cel (by simp)] at h2
            cases h2
        have k₃' : KS C env ρ σ.fz s₀ s₃ := by
          refine ⟨fun b o e h1 h2 h3 => ?_, k₃.drawn.trans (kb.drawn.trans k₁.drawn), k₃.os.trans (kb.os.trans k₁.os), fun j y e => k₃.gold j y (kb.gold j y (k₁.gold j y e)), fun e => k₃.bare (kb.bare (k₁.bare e))⟩
          refine k₃.keep b o (kb.keep b o (k₁.keep b o e h1 h2 h3) h1 h2 (by simp)) h1 h2 fun m hm => ?_
          rw [hzb]
          rcases Nat.lt_or_ge m ρ.length with hl | hl
          · rw [List.append_assoc, List.getElem?_append_left hl] at hm
            exact List.mem_append_right _ (h3 m hm)
          · rw [List.append_assoc, List.getElem?_append_right hl] at hm
            have hmem := List.mem_of_getElem? hm
            have : s₀.heap.get? b = none := by
              rcases List.mem_append.mp hmem with h | h
              · exact hf b h
              · exact fc b h
            rw [this] at e; cases e
        have f₂₃ : ∀ a ∈ ρ₂ ++ ρ₃, s₀.heap.get? a = none := fun a ha => (List.mem_append.mp ha).elim (fc a) (f₃' a)
        have R₃' : Rel h₀ C env ((ρ ++ ρ') ++ (ρ₂ ++ ρ₃)) σ₄ s₃.heap := by rw [← List.append_assoc]; exact R₃
        cases af with
        | next =>
          cases hfr
          refine ⟨n - 1, by omega, i + 1, by omega, hlt, ⟨ρ₂ ++ ρ₃, σ₄, W', R₃', f₂₃, hz₃.trans hzb, ?_, fun b hb => ?_, hitc⟩, k₃'⟩
          · refine hI.frame _ _ _ _ hS' (fun b hb o e => ?_) (fun b hb o e => ?_) fun g y hgi e => k₃.gold g y (kb.gold g y e)
            · have of := hWW b hb
              exact k₃.keep b o (kb.keep b o e of.loc of.cel (by simp)) of.loc of.cel fun m hm => absurd (List.mem_of_getElem? hm) of.obj
            · obtain ⟨m, hm, hmb⟩ := hrd b hb
              have hin : b ∈ (ρ ++ ρ') ++ ρ₂ := List.mem_append_left _ (List.mem_of_getElem? hmb)
              have hl1 : b ≠ env.locals := fun z => R₁.locρ (z ▸ hin)
              have hl2 : ∀ x, C.kind x = some .cell → env.cells.lookup x ≠ some b := fun x hx hl => (R₁.celN x b hx hl).2.2 hin
              refine k₃.keep b o (kb.keep b o e hl1 hl2 (by simp)) hl1 hl2 fun m' hm' => ?_
              have hmb' : ((ρ ++ ρ') ++ ρ₂)[m]? = some b := by rw [List.getElem?_append_left (get_lt hmb)]; exact hmb
              have : m' = m := (List.getElem?_inj (get_lt hm') R₁.nodup).mp (hm'.trans hmb'.symm)
              rw [hzb, this]
              exact List.mem_append_left _ hm
          · have of := hWW b hb
            refine ⟨of.base, of.start, of.loc, of.cel, fun hm => ?_⟩
            rw [← List.append_assoc] at hm
            rcases List.mem_append.mp hm with h | h
            · exact of.obj h
            · obtain ⟨o, e⟩ := hI.live _ _ _ hS' b hb
              have h2 := f₃ b h
              rw [kb.keep b o e of.loc of.cel (by simp)] at h2
              cases h2
        | brk =>
          cases hfr
          simp only at hitc
          cases hitc
          exact hR _ _ (endPS R₃' f₂₃ k₃' rfl)
        | ret v =>
          obtain ⟨V', rfl, hv⟩ := hfr
          simp only at hitc
          cases hitc
          exact hR _ _ (endPS R₃' f₂₃ k₃' ⟨V', rfl, by rw [← List.append_assoc]; exact hv⟩)
      · cases q with
        | none => exact h₁.elim
        | some v => exact h₁
  · obtain ⟨h1, h2⟩ := hW b hb
    have o := R₀.off (s₀ := s₀) KA.refl h1
    exact ⟨o.base, o.start, o.loc, o.cel, by simpa using h2⟩

theorem set_i {t it : Expr} {r : List It × List Nat × List AO} (h : evI C n t it σ = some r) : ∀ es k p, it ≠ .Set es k p := by
  rintro es k p rfl
  cases n with
  | zero => cases h
  | succ n => cases n with
    | zero => cases h
    | succ n => cases h

theorem gen_of {e : Expr} {fa : Str × List Expr} (h : genForm C e = some fa) : ∃ p pos, e = .Call (.Name fa.1 p) fa.2 [] pos := by
  obtain ⟨q, h1, h2⟩ := Option.bind_eq_some_iff.mp h
  obtain ⟨p, pos, rfl⟩ := named_inv h1
  split at h2
  · cases h2; exact ⟨p, pos, rfl⟩
  · cases h2

theorem refs_mem {ρ : List Addr} : ∀ {vs : List AV} {Vs : List Value} {b : Addr}, Paired (VR ρ) vs Vs → Value.ref b ∈ Vs → ∃ n ∈ refsOf vs, ρ[n]? = some b
  | _, _, _, .nil, h => nomatch h
  | v :: vs, V :: Vs, b, .cons x r, h => by
    rcases List.mem_cons.mp h with h | h
    · subst h
      cases v with
      | ref n =>
        obtain ⟨a, e, z⟩ := x
        cases z
        exact ⟨n, by simp [refsOf], e⟩
      | none => cases x
      | bool b => cases x
      | int i => obtain ⟨_, z⟩ := x; cases z
      | str y => obtain ⟨_, z⟩ := x; cases z
    · obtain ⟨n, h1, h2⟩ := refs_mem r h
      refine ⟨n, ?_, h2⟩
      unfold refsOf at h1 ⊢
      rw [List.filterMap_cons]
      split
      · exact h1
      · exact List.mem_cons_of_mem _ h1
end

structure Sst (prog : Program) (w : World) (mg mb : Str → Option Value) (n : Nat) : Prop where
  s : ∀ {A : Around} {C : Cx} {env : Env} {h₀ : Heap} {st : Stmt} {σ : AS} {r : AF × AS}, SxOk prog w mg mb A C → EnvOk C env → Tp mg mb h₀ → evS C n st σ = some r →
    ∀ {ρ : List Addr} {s : Shared} {E : Value → Shared → Prop}, Rel h₀ C env ρ σ s.heap → wpAny (model prog w) A (exec st env) (PS h₀ C env ρ σ s r) E s
  ss : ∀ {A : Around} {C : Cx} {env : Env} {h₀ : Heap} {st : List Stmt} {σ : AS} {r : AF × AS}, SxOk prog w mg mb A C → EnvOk C env → Tp mg mb h₀ → evSs C n st σ = some r →
    ∀ {ρ : List Addr} {s : Shared} {E : Value → Shared → Prop}, Rel h₀ C env ρ σ s.heap → wpAny (model prog w) A (execs st env) (PS h₀ C env ρ σ s r) E s

section
variable {prog : Program} {w : World} {mg mb : Str → Option Value} {A : Around} {h₀ : Heap} {C : Cx} {env : Env} {ρ ρ₁ : List Addr} {σ σ₁ σ' : AS} {s s₀ s₁ s₂ : Shared} {E : Value → Shared → Prop} {hp' hp₁ : List AO} {v : AV} {n : Nat}

theorem s_sound {st : Stmt} {r : AF × AS} (ih : Sst prog w mg mb n) (K : SxOk prog w mg mb A C) (O : EnvOk C env) (T : Tp mg mb h₀) (h : evS C (n + 1) st σ = some r) (R : Rel h₀ C env ρ σ s.heap) :
    wpAny (model prog w) A (exec st env) (PS h₀ C env ρ σ s r) E s := by
  refine stm_cases (C := C) (n := n) (σ := σ) (P := fun st => evS C (n + 1) st σ = some r → wpAny (model prog w) A (exec st env) (PS h₀ C env ρ σ s r) E s) (fun st e _ h => by rw [e] at h; cases h) ?_ ?_ ?_ ?_ ?_ ?_ ?_ ?_ st h
  · intro x q v p h
    · obtain ⟨⟨v, hp₁⟩, h1, h⟩ := Option.bind_eq_some_iff.mp h
      obtain ⟨σ', h2, h3⟩ := Option.map_eq_some_iff.mp h
      cases h3
      exact s_assign K.toCxOk O T h1 h2 R
  · intro x q op v p h
    · obtain ⟨a, h0, h⟩ := Option.bind_eq_some_iff.mp h
      obtain ⟨⟨v, hp₁⟩, h1, h⟩ := Option.bind_eq_some_iff.mp h
      obtain ⟨u, h2, h⟩ := Option.bind_eq_some_iff.mp h
      obtain ⟨σ', h3, h4⟩ := Option.map_eq_some_iff.mp h
      cases h4
      exact s_aug K.toCxOk O T h0 h1 h2 h3 R
  · intro o i q op v p h
    obtain ⟨⟨vo, hp₁⟩, h1, hh⟩ := Option.bind_eq_some_iff.mp h
    obtain ⟨⟨vi, hp₂⟩, h2, hh⟩ := Option.bind_eq_some_iff.mp hh
    clear h
    obtain ⟨a, h3, hh⟩ := Option.bind_eq_some_iff.mp hh
    obtain ⟨σ', h4, h5⟩ := Option.map_eq_some_iff.mp hh
    cases h5
    obtain ⟨c, k, q', rfl, h3⟩ := lit_inv h3
    exact s_put K.toCxOk O T h1 h2 h3 h4 R
  · intro e pe h
    rw [sExpr] at h
    cases hf : appendForm e with
    | some xa =>
      rw [hf] at h
      obtain ⟨x, arg⟩ := xa
      obtain ⟨p, apos, pos, rfl, hline⟩ := append_of hf
      obtain ⟨o, h1, h⟩ := Option.bind_eq_some_iff.mp h
      split at h
      · rename_i hla
        obtain ⟨⟨v, hp₁⟩, h2, h⟩ := Option.bind_eq_some_iff.mp h
        obtain ⟨σ', h3, h4⟩ := Option.map_eq_some_iff.mp h
        cases h4
        exact s_append K.toCxOk O T hline h1 hla h2 h3 R
      · cases h
    | none => rw [hf] at h; cases h
  · intro t bd o p h
    obtain ⟨⟨b, hp₁⟩, h1, hh⟩ := Option.bind_eq_some_iff.mp h
    refine wpAny_If (t_then (snd_all n) K.toCxOk O T h1 R fun s₁ ρ₁ R₁ f₁ k₁ => ?_)
    cases b with
    | true =>
      simp only [if_true] at hh ⊢
      exact wpAny_mono (ih.ss K O T hh R₁) (fun f s₂ q => PS.afterE f₁ k₁ R₁ q) fun _ _ x => x
    | false =>
      simp only [Bool.false_eq_true, if_false] at hh ⊢
      exact wpAny_mono (ih.ss K O T hh R₁) (fun f s₂ q => PS.afterE f₁ k₁ R₁ q) fun _ _ x => x
  · intro t it body p0 h
    rw [sFor] at h
    cases hgf : genForm C it with
    | some fa =>
      rw [hgf] at h
      obtain ⟨f, args⟩ := fa
      obtain ⟨p, pos, rfl⟩ := gen_of hgf
      simp only at h ⊢
      split at h
      case isFalse => cases h
      rename_i hk
      obtain ⟨⟨vs, hp₁⟩, h1, h⟩ := Option.bind_eq_some_iff.mp h
      obtain ⟨ds, h2, h⟩ := Option.bind_eq_some_iff.mp h
      obtain ⟨⟨items, fin⟩, h3, h⟩ := Option.bind_eq_some_iff.mp h
      split at h
      case isFalse => cases h
      rename_i ht
      obtain ⟨r', h4, h5⟩ := Option.map_eq_some_iff.mp h
      subst h5
      obtain ⟨hd, hG⟩ := K.gen f ds _ h3
      obtain ⟨d, hd⟩ := Option.isSome_iff_exists.mp hd
      have Ts := T.keeps R.base
      obtain ⟨a, o, pm, cd, doc, hgl, ho, hdat, hcr⟩ := Ts.fn f d hd
      cases args with
      | nil =>
        have := evL_nil h1; simp only at this; subst this
        simp only [deepAll] at h2
        cases h2
        exfalso
        exact K.gen0 f _ h3
      | cons e rest =>
      obtain ⟨he, hplain⟩ := star_parts (env := env) h1
      refine wpAny_For (Call_Name rfl (ld_gl Ts O hk hgl (O.ndbg hk) (callWith_def hdat (l_then (snd_all n) K.toCxOk O T h1 R fun Vs s₁ ρ₁ hV R₁ f₁ k₁ => ⟨k₁.keep _ _ ho, ?_⟩) he))) (fun _ => rfl)
      refine wpAny_mono (hG h₀ _ (ρ ++ ρ₁) s₁ Vs a E ht T R₁.base hgl (deepAll_sound (σ := σ) R₁ h2 hV)) (fun xv s₂ q => wpAny_mono q (fun V s₃ q => ?_) fun _ _ x => x) fun _ _ x => x
      obtain ⟨I, g, rd, St, W, rfl, k₃, hI, hS, hW, hgn, hrd⟩ := q
      refine for_loop (fz' := refsOf vs) K.room O (fun hh RR => ih.ss K O T hh RR) R (R₁.keeps k₃.keep) f₁ (k₁.trans k₃) (fun _ h => h) hI hS (fun b hb => ⟨k₁.fresh (hW b hb), fun hm => ?_⟩) (fun b hb => refs_mem hV (hrd b hb)) (fun g' e => ?_) h4 fun f s' q => q
      · obtain ⟨o, e⟩ := R₁.live hm; rw [hW b hb] at e; cases e
      · cases e
        cases z : s.gens[g]? with
        | none => rfl
        | some x => rw [k₁.gold g x z] at hgn; cases hgn
    | none =>
      rw [hgf] at h
      obtain ⟨⟨items, fz', hp₁⟩, h1, h⟩ := Option.bind_eq_some_iff.mp h
      obtain ⟨r', h4, h5⟩ := Option.map_eq_some_iff.mp h
      subst h5
      refine wpAny_For (wpAny_mono ((snd_all n).i K.toCxOk O T h1 R) (fun xv s₁ q₁ => wpAny_mono q₁ (fun V s₂ q₂ => ?_) fun _ _ x => x) fun _ _ x => x) (folded_none (set_i h1))
      obtain ⟨ρ', I, rd, St, W, rfl, R₂, hf, k₂, hI, hS, hW, hrd⟩ := q₂
      exact for_loop (fz' := fz') K.room O (fun hh RR => ih.ss K O T hh RR) R R₂ hf k₂ (fun _ _ => trivial) hI hS hW hrd (fun g e => by cases e) h4 fun f s' q => q
  · intro e p h
    · obtain ⟨⟨v, hp₁⟩, h1, h2⟩ := Option.map_eq_some_iff.mp h
      cases h2
      exact wpAny_Return_some (e_then (snd_all n) K.toCxOk O T h1 R fun V s₁ ρ₁ hV R₁ f₁ k₁ => ⟨ρ₁, ⟨V, rfl, hV⟩, R₁, f₁, k₁.ks, rfl⟩)
  · intro p h
    cases h
    exact wpAny_Break ⟨[], rfl, by simpa using R, by simp, KS.refl, rfl⟩

theorem ss_sound {st : List Stmt} {r : AF × AS} (ih : Sst prog w mg mb n) (K : SxOk prog w mg mb A C) (O : EnvOk C env) (T : Tp mg mb h₀) (h : evSs C (n + 1) st σ = some r) (R : Rel h₀ C env ρ σ s.heap) :
    wpAny (model prog w) A (execs st env) (PS h₀ C env ρ σ s r) E s := by
  cases st with
  | nil =>
    cases h
    exact wpAny_execs_nil ⟨[], rfl, by simpa using R, by simp, KS.refl, rfl⟩
  | cons s0 r0 =>
    obtain ⟨⟨af, σ₁⟩, h1, hh⟩ := Option.bind_eq_some_iff.mp h
    refine wpAny_execs_cons (wpAny_mono (ih.s K O T h1 R) (fun f s₁ q => ?_) fun _ _ x => x)
    obtain ⟨ρ₁, hfr, R₁, f₁, k₁, hz⟩ := q
    cases af with
    | next =>
      cases hfr
      exact wpAny_mono (ih.ss K O T hh R₁) (fun f s₂ q => PS.after f₁ k₁ R₁ hz q) fun _ _ x => x
    | brk =>
      cases hfr; cases hh
      exact ⟨ρ₁, rfl, R₁, f₁, k₁, hz⟩
    | ret v =>
      obtain ⟨V, rfl, hv⟩ := hfr
      cases hh
      exact ⟨ρ₁, ⟨V, rfl, hv⟩, R₁, f₁, k₁, hz⟩
end

theorem sst_all {prog : Program} {w : World} {mg mb : Str → Option Value} : ∀ n, Sst prog w mg mb n
  | 0 => by
    exact ⟨fun _ _ _ h => (by cases h), fun _ _ _ h => (by cases h)⟩
  | n + 1 => by
    have ih := sst_all (prog := prog) (w := w) (mg := mg) (mb := mb) n
    exact ⟨fun K O T h _ _ _ R => s_sound ih K O T h R, fun K O T h _ _ _ R => ss_sound ih K O T h R⟩
end Mine

namespace Mine
open PySem PyProof.Rows PySem.Calls

/-! ## calls of the text's own defs -/
/-- room for n calls deep -/
structure Deep (n : Nat) (A : Around) : Prop where
  handled : A.handled = none
  units : A.units + 150 + 10 * n < cLine
  depth : A.depth + 5 + n < recursionLimit
theorem Deep.room {n : Nat} {A : Around} (D : Deep n A) : Room A := ⟨D.handled, by have := D.units; omega⟩
theorem Deep.down {n : Nat} {A : Around} (env : Env) (D : Deep (n + 1) A) : Deep n (A.deeper env) :=
  ⟨D.handled, by have := D.units; show A.units + 3 + 150 + 10 * n < cLine; omega, by have := D.depth; show A.depth + 1 + 5 + n < recursionLimit; omega⟩

theorem cells_lk {x : Str} : ∀ (names : List (Str × NameKind)) (n : Nat) (acc : List (Str × Addr)), (names.lookup x = some .cell ∨ ∃ a, acc.lookup x = some a) → ∃ a, (cellsFrom n names acc).lookup x = some a
  | [], _, _, .inr h => h
  | (y, k) :: r, n, acc, h => by
    rw [cellsFrom]
    by_cases hk : (k == .cell) = true
    · rw [if_pos hk]
      refine cells_lk r (n + 1) _ ?_
      rw [List.lookup_cons] at h ⊢
      cases e : x == y with
      | true => exact .inr ⟨n, rfl⟩
      | false => rw [e] at h; exact h
    · rw [if_neg hk]
      refine cells_lk r n acc ?_
      rw [List.lookup_cons] at h
      cases e : x == y with
      | true =>
        rw [e] at h
        rcases h with h | h
        · cases h; exact absurd rfl hk
        · exact .inr h
      | false => rw [e] at h; exact h

noncomputable def plainP (p : Arguments) : Bool := p.posonlyargs.isEmpty && p.kwonlyargs.isEmpty && p.vararg.isNone && p.kwarg.isNone && decide (p.args.map (·.arg)).Nodup

theorem lookup_zip_some : ∀ (ns : List Str) (Vs : List Value), Vs.length = ns.length → ∀ n ∈ ns, ((ns.zip Vs).lookup n).isNone = false
  | [], _, _, _, h => nomatch h
  | k :: ns, [], h, _, _ => by simp at h
  | k :: ns, V :: Vs, h, n, hn => by
    rw [List.zip_cons_cons, List.lookup_cons]
    cases hb : n == k with
    | true => rfl
    | false =>
      rcases List.mem_cons.mp hn with e | e
      · subst e; simp at hb
      · exact lookup_zip_some ns Vs (by simpa using h) n e
theorem filterMap_zip : ∀ (ns : List Str) (Vs : List Value), ns.Nodup → Vs.length = ns.length → ns.filterMap (fun n => ((ns.zip Vs).lookup n).map (n, ·)) = ns.zip Vs
  | [], _, _, _ => rfl
  | k :: ns, [], _, h => by simp at h
  | k :: ns, V :: Vs, hn, h => by
    rw [List.nodup_cons] at hn
    rw [List.filterMap_cons, List.zip_cons_cons, List.lookup_cons]
    simp only [beq_self_eq_true, Option.map_some]
    congr 1
    have key : ∀ x ∈ ns, (List.lookup x ((k, V) :: ns.zip Vs)) = (ns.zip Vs).lookup x := fun x hx => by
      rw [List.lookup_cons]
      have : (x == k) = false := by
        rw [beq_eq_false_iff_ne]
        rintro rfl
        exact hn.1 hx
      simp [this]
    have e : ∀ l : List Str, (∀ x ∈ l, x ∈ ns) → l.filterMap (fun n => (List.lookup n ((k, V) :: ns.zip Vs)).map (n, ·)) = l.filterMap (fun n => ((ns.zip Vs).lookup n).map (n, ·)) := fun l hl => by
      induction l with
      | nil => rfl
      | cons x r ih => rw [List.filterMap_cons, List.filterMap_cons, key x (hl x List.mem_cons_self), ih fun y hy => hl y (List.mem_cons_of_mem _ hy)]
    exact (e ns fun _ h => h).trans (filterMap_zip ns Vs hn.2 (by simpa using h))
theorem bind_plain {fd : FuncData} {Vs : List Value} (hp : plainP fd.params = true) (hl : Vs.length = fd.params.args.length) (hd : fd.defaults = .none) :
    bindArgs fd ⟨Vs, []⟩ = pure ((fd.params.args.map (·.arg)).zip Vs) := by
  unfold plainP at hp
  simp only [Bool.and_eq_true, List.isEmpty_iff, Option.isNone_iff_eq_none, decide_eq_true_eq] at hp
  obtain ⟨⟨⟨⟨h1, h2⟩, h3⟩, h4⟩, h5⟩ := hp
  have e1 : seqItems? .none = pure none := rfl
  have hl' : Vs.length = (fd.params.args.map (·.arg)).length := by simpa using hl
  have hm : (fd.params.args.map (·.arg)).filter (fun n => (((fd.params.args.map (·.arg)).zip Vs).lookup n).isNone) = [] := by
    rw [List.filter_eq_nil_iff]
    intro n hn
    rw [lookup_zip_some _ _ hl' n hn]
    simp
  unfold bindArgs
  simp only [h1, h2, h3, h4, hd, e1, List.map_nil, List.nil_append, List.forIn_nil, pure_bind, Option.getD_none, List.length_nil, List.drop_nil, Nat.sub_zero, List.take_length, List.drop_length, List.zip_nil_left, hm,
    List.isEmpty_nil, Bool.not_true, Bool.false_eq_true, if_false, List.append_nil, filterMap_zip _ _ h5 hl', hl']
  simp

/-- what is so of every def of the text -/
noncomputable def defFit (d : Str × Arguments × List Stmt × Scope) : Bool :=
  plainP d.2.1 && decide (d.2.2.2.kind = .function) && (!d.2.2.2.isCoroutine && (decide (d.2.2.2.isGenerator = isGen d.1) && ((d.2.2.2.names.lookup ("__debug__" : Str)).isNone &&
    d.2.1.args.all (fun a => decide (d.2.2.2.names.lookup a.arg = some .local) || decide (d.2.2.2.names.lookup a.arg = some .cell)))))
theorem defs_fit : defs.all defFit = true := by decide +kernel

theorem mem_lk {α : Type} : ∀ {l : List (Str × α)} {n : Str} {c : α}, l.lookup n = some c → (n, c) ∈ l := fun h => PySem.mem_of_lookup h

structure DefFit (f : Str) (d : Arguments × List Stmt × Scope) : Prop where
  plain : plainP d.1 = true
  kind : d.2.2.kind = .function
  co : d.2.2.isCoroutine = false
  gen : d.2.2.isGenerator = isGen f
  dbg : d.2.2.names.lookup ("__debug__" : Str) = none
  args : ∀ a ∈ d.1.args, d.2.2.names.lookup a.arg = some .local ∨ d.2.2.names.lookup a.arg = some .cell
theorem def_fit {f : Str} {d : Arguments × List Stmt × Scope} (h : defs.lookup f = some d) : DefFit f d := by
  have := List.all_eq_true.mp defs_fit _ (mem_lk h)
  unfold defFit at this
  simp only [Bool.and_eq_true, decide_eq_true_eq, Bool.not_eq_true', Option.isNone_iff_eq_none, List.all_eq_true, Bool.or_eq_true] at this
  obtain ⟨⟨h1, h2⟩, h3, h4, h5, h6⟩ := this
  exact ⟨h1, h2, h3, h4, h5, h6⟩

/-- what stands when the arguments are laid -/
structure Lay (h : Heap) (kd : Str → Option NameKind) (σ : AS) (m cm : Str → Option Value) (ρ : List Addr) : Prop where
  loc : ∀ x v, kd x = some .local → σ.vars x = some v → ∃ V, m x = some V ∧ VR ρ v V
  cel : ∀ x v, kd x = some .cell → σ.vars x = some v → ∃ V, cm x = some V ∧ VR ρ v V
  len : ρ.length = σ.hp.length
  obj : ∀ (n : Nat) o a, σ.hp[n]? = some o → ρ[n]? = some a → OR ρ h a o
  nodup : ρ.Nodup
  fz : ∀ n, n < ρ.length → n ∈ σ.fz

theorem lay_one {h : Heap} {kd : Str → Option NameKind} {σ : AS} {m cm : Str → Option Value} {ρ ρ' : List Addr} {hp' : List AO} {fz' : List Nat} {x : Str} {v : AV} {V : Value} (L : Lay h kd σ m cm ρ) (hv : VR (ρ ++ ρ') v V)
    (h1 : (ρ ++ ρ').length = hp'.length) (h2 : ∀ (n : Nat) o a, hp'[n]? = some o → (ρ ++ ρ')[n]? = some a → OR (ρ ++ ρ') h a o) (h3 : (ρ ++ ρ').Nodup) (h4 : ∀ n, n < (ρ ++ ρ').length → n ∈ fz') :
    Lay h kd { vars := fun y => if y = x then some v else σ.vars y, hp := hp', fz := fz' } (if kd x = some .local then fun y => if y = x then some V else m y else m) (if kd x = some .local then cm else fun y => if y = x then some V else cm y) (ρ ++ ρ') where
  loc := fun y u hy hu => by
    by_cases hyx : y = x
    · subst hyx
      simp only [if_true] at hu
      cases hu
      exact ⟨V, by simp [hy], hv⟩
    · simp only [hyx, if_false] at hu
      obtain ⟨U, e, r⟩ := L.loc y u hy hu
      refine ⟨U, ?_, r.mono⟩
      split
      · simp [hyx, e]
      · exact e
  cel := fun y u hy hu => by
    by_cases hyx : y = x
    · subst hyx
      simp only [if_true] at hu
      cases hu
      exact ⟨V, by simp [hy], hv⟩
    · simp only [hyx, if_false] at hu
      obtain ⟨U, e, r⟩ := L.cel y u hy hu
      refine ⟨U, ?_, r.mono⟩
      split
      · exact e
      · simp [hyx, e]
  len := h1
  obj := h2
  nodup := h3
  fz := h4

theorem lay_all {h : Heap} {kd : Str → Option NameKind} : ∀ {as : List Arg} {ds : List DA} {Vs : List Value} {σ σ' : AS} {m cm : Str → Option Value} {ρ : List Addr}, layArgs as ds σ = some σ' → Paired (DAR h) ds Vs → Lay h kd σ m cm ρ →
    ∃ ρ', Lay h kd σ' (bindL kd ((as.map (·.arg)).zip Vs) m) (bindC kd ((as.map (·.arg)).zip Vs) cm) ρ' ∧ Vs.length = as.length ∧ ∀ b ∈ ρ', b ∈ ρ ∨ Value.ref b ∈ Vs
  | [], [], _, σ, σ', m, cm, ρ, h1, .nil, L => by
    rw [layArgs] at h1; cases h1
    exact ⟨ρ, L, rfl, fun b hb => .inl hb⟩
  | a :: as, .val v :: ds, V :: Vs, σ, σ', m, cm, ρ, h1, .cons x r, L => by
    rw [layArgs] at h1
    split at h1
    · rename_i hv
      obtain ⟨_, hV⟩ := x
      have L' := lay_one (x := a.arg) (ρ' := []) (hp' := σ.hp) (fz' := σ.fz) L (v := v) (V := V) (hV.val hv) (by simpa using L.len) (by simpa using L.obj) (by simpa using L.nodup) (by simpa using L.fz)
      obtain ⟨ρ', h2, h3, h4⟩ := lay_all h1 r L'
      exact ⟨ρ', h2, by simp [h3], fun b hb => (h4 b hb).imp (fun h => by simpa using h) fun h => List.mem_cons_of_mem _ h⟩
    · cases h1
  | a :: as, .lst xs :: ds, V :: Vs, σ, σ', m, cm, ρ, h1, .cons x r, L => by
    rw [layArgs] at h1
    split at h1
    · rename_i hv
      rw [Bool.and_eq_true_iff, List.isEmpty_iff] at hv
      obtain ⟨_, b, items, rfl, hpl, hx⟩ := x
      have hρ : ρ = [] := List.eq_nil_of_length_eq_zero (by rw [L.len, hv.2]; rfl)
      subst hρ
      have L' := lay_one (x := a.arg) (ρ' := [b]) (hp' := σ.hp ++ [.list xs]) (fz' := σ.hp.length :: σ.fz) L (v := .ref σ.hp.length) (V := .ref b) ⟨b, by rw [hv.2]; rfl, rfl⟩ (by rw [hv.2]; rfl) (fun n o c e1 e2 => by
        rw [hv.2] at e1
        cases n with
        | zero =>
          simp at e1 e2
          subst e1 e2
          exact ⟨items, hpl, vals_mono hv.1 hx⟩
        | succ n => simp at e1) (by simp) (fun n hn => by
          have : n = 0 := by simpa using hn
          rw [this, hv.2]; simp)
      obtain ⟨ρ', h2, h3, h4⟩ := lay_all h1 r L'
      refine ⟨ρ', h2, by simp [h3], fun c hc => .inr ?_⟩
      rcases h4 c hc with h | h
      · have : c = b := by simpa using h
        rw [this]; exact List.mem_cons_self
      · exact List.mem_cons_of_mem _ h
    · cases h1
  | [], .val _ :: _, _, _, _, _, _, _, h1, _, _ => by simp [layArgs] at h1
  | [], .lst _ :: _, _, _, _, _, _, _, h1, _, _ => by simp [layArgs] at h1
  | _ :: _, [], _, _, _, _, _, _, h1, _, _ => by simp [layArgs] at h1

theorem as0_lay {h : Heap} {kd : Str → Option NameKind} : Lay h kd as0 (fun _ => none) (fun _ => none) [] :=
  ⟨fun x v _ e => (by cases e), fun x v _ e => (by cases e), rfl, fun n o a e => (by cases e), List.nodup_nil, fun n e => absurd e (Nat.not_lt_zero _)⟩

theorem DRR_of {C : Cx} {env : Env} {ρ : List Addr} {σ : AS} {s s' : Shared} {v : AV} {V : Value} {r : DR} (R : Rel s.heap C env ρ σ s'.heap) (h : toDR σ.fz σ.hp v = some r) (hv : VR ρ v V) : DRR s s'.heap r V := by
  unfold toDR at h
  split at h
  · rename_i n
    split at h
    · cases h
    · rename_i hfz
      split at h
      · rename_i xs hn
        split at h
        · rename_i ha
          cases h
          obtain ⟨a, items, rfl, hρ, hpl, hx⟩ := list_at (σ := σ) R hn hv
          exact ⟨ha, a, items, rfl, R.objN n a hρ (by simpa using hfz), hpl, vals_down ha hx⟩
        · cases h
      · rename_i u k hn
        split at h
        · cases h
        · rename_i hfk
          split at h
          · rename_i xs hk
            split at h
            · rename_i ha
              cases h
              rw [Bool.and_eq_true_iff] at ha
              obtain ⟨t, items, rfl, hρ, hpt, hx⟩ := tup_at (σ := σ) R hn hv
              obtain ⟨items, rfl⟩ : ∃ l : List Value, items = l.toArray := ⟨items.toList, by simp⟩
              simp only at hx
              cases hx with
              | cons x1 r1 =>
              cases r1 with
              | cons x2 r2 =>
              cases r2
              obtain ⟨a, its, rfl, hρa, hpl, hy⟩ := list_at (σ := σ) R hk x2
              refine ⟨ha.1, ha.2, t, a, _, its, rfl, ?_, R.objN n t hρ (by simpa using hfz), R.objN k a hρa (by simpa using hfk), x1.val ha.1, hpl, vals_down ha.2 hy, hpt⟩
              rintro rfl
              have : n = k := (List.getElem?_inj (get_lt hρ) R.nodup).mp (hρ.trans hρa.symm)
              subst this
              rw [hn] at hk; cases hk
            · cases h
          · cases h
      · cases h
  · cases h
    rename_i hnr
    cases v with
    | ref n => exact absurd rfl (hnr n)
    | none => exact ⟨rfl, hv.val rfl⟩
    | bool b => exact ⟨rfl, hv.val rfl⟩
    | int i => exact ⟨rfl, hv.val rfl⟩
    | str x => exact ⟨rfl, hv.val rfl⟩

/-- the two generators, wherever there is room -/
noncomputable def Gens (prog : Program) (w : World) (mg mb : Str → Option Value) : Prop :=
  ∀ A, Deep 0 A → ∀ f ds items, genSpec f ds = some items → (defs.lookup f).isSome = true ∧ GenAt prog w mg mb A f ds items

theorem fun_at {prog : Program} {w : World} {mg mb : Str → Option Value} (G : Gens prog w mg mb) : ∀ (n : Nat) {A : Around} (f : Str) (ds : List DA) (r : DR), Deep n A → runFn n f ds = some r →
    (defs.lookup f).isSome = true ∧ FunAt prog w mg mb A f ds r
  | 0, _, _, _, _, _, h => by simp [runFn] at h
  | n + 1, A, f, ds, r, D, h => by
    rw [runFn] at h
    obtain ⟨d, hd, h⟩ := Option.bind_eq_some_iff.mp h
    refine ⟨by rw [hd]; rfl, ?_⟩
    split at h
    · cases h
    rename_i hng
    obtain ⟨σ, hlay, h⟩ := Option.bind_eq_some_iff.mp h
    obtain ⟨⟨af, σ'⟩, hev, h⟩ := Option.bind_eq_some_iff.mp h
    have F := def_fit hd
    intro s Vs a Q E T hf hD hQ
    obtain ⟨a', o, pm, cd, doc, hg, ho, hdat, hcr⟩ := T.fn f d hd
    rw [hf] at hg; cases hg
    obtain ⟨ρ, L, hlen, _⟩ := lay_all (kd := fun x => d.2.2.names.lookup x) hlay hD as0_lay
    refine wpAny_call (call_cells_ret (by have := D.depth; (clear G D hd hng hlay hev h F T hf hD hQ hdat hcr ho L hlen; omega)) ho hdat T.nolimit hcr (bind_plain F.plain hlen rfl) (fun x hx => ?_) (fun h₁ tk FF X => ?_) F.co (by rw [F.gen]; simpa using hng) F.kind)
    · have hx1 : x.1 ∈ d.1.args.map (·.arg) := (List.of_mem_zip (a := x.1) (b := x.2) hx).1
      obtain ⟨a1, h1, h2⟩ := List.mem_map.mp hx1
      rw [← h2]
      rcases F.args a1 h1 with h | h
      · exact .inl h
      · exact .inr ⟨h, Option.isSome_iff_exists.mpr (cells_lk _ _ _ (.inl h))⟩
    · have kne : ∀ x c, (cellsFrom (s.heap.objs.size + 1) d.2.2.names []).lookup x = some c → s.heap.get? c = none := fun x c e => by
        have := X.above x c (mem_lk e)
        cases z : s.heap.get? c with
        | none => rfl
        | some o => exact absurd (Heap.lt_size z) (Nat.not_lt.mpr (Nat.le_of_lt this))
      have live : ∀ b ∈ ρ, ∃ ob, s.heap.get? b = some ob := fun b hb => by
        obtain ⟨n, hn, e⟩ := List.getElem_of_mem hb
        exact (L.obj n _ b (List.getElem?_eq_getElem (L.len ▸ hn)) (List.getElem?_eq_some_iff.mpr ⟨hn, e⟩)).live
      have O : EnvOk (cxOf d.2.2.names (runFn n)) (envOfC f d.2.2 s.heap.objs.size a cd) :=
        ⟨F.kind, rfl, rfl, rfl, fun x hx => cells_lk _ _ _ (.inl hx), F.dbg⟩
      have R : Rel s.heap (cxOf d.2.2.names (runFn n)) (envOfC f d.2.2 s.heap.objs.size a cd) ρ σ h₁ :=
        { base := FF.keep
          loc := ⟨_, FF.ns, L.loc⟩
          cel := fun x c hx hc => ⟨_, X.cell x c hc, fun v hv => L.cel x v hx hv⟩
          len := L.len
          obj := fun n o a e1 e2 => (L.obj n o a e1 e2).at fun ob e => FF.keep _ _ e
          nodup := L.nodup
          locN := fresh_size _
          locρ := fun hm => by
            obtain ⟨ob, e⟩ := live _ hm
            have : s.heap.get? s.heap.objs.size = none := fresh_size _
            rw [show (envOfC f d.2.2 s.heap.objs.size a cd).locals = s.heap.objs.size from rfl, this] at e; cases e
          celN := fun x c hx hc => ⟨kne x c hc, Nat.ne_of_gt (X.above x c (mem_lk hc)), fun hm => by
            obtain ⟨ob, e⟩ := live _ hm
            rw [kne x c hc] at e; cases e⟩
          celI := fun x y c _ _ hx hy => name_of_addr X.apart (mem_lk hx) (mem_lk hy)
          objN := fun n b e hn => absurd (L.fz n (get_lt e)) hn }
      have D' := D.down (envOfC f d.2.2 s.heap.objs.size a cd)
      have K : SxOk prog w mg mb (A.deeper (envOfC f d.2.2 s.heap.objs.size a cd)) (cxOf d.2.2.names (runFn n)) :=
        { room := D'.room
          glob := fun x v e => by
            have e' : globSpec x = some v := e
            unfold globSpec at e'
            split at e'
            · cases e'; exact ⟨by assumption, rfl⟩
            · cases e'
          fn := fun g es q e => fun_at G n g es q D' e
          gen := fun g es q e => G _ ⟨D'.handled, by have := D'.units; (clear G D hd hng hlay hev h F T hf hD hQ hdat hcr ho L hlen FF X kne live O R D' e; omega), by have := D'.depth; (clear G D hd hng hlay hev h F T hf hD hQ hdat hcr ho L hlen FF X kne live O R D' e; omega)⟩ g es q e
          gen0 := fun g q e => by
            have e' : genSpec g [] = some q := e
            unfold genSpec at e'
            split at e'
            · cases e'
            · split at e' <;> cases e' }
      refine wpAny_mono ((sst_all 60).ss K O T hev R (E := fun _ _ => False)) (fun f s' q => ?_) fun _ _ x => x
      obtain ⟨ρ', hfr, R', hfr', k, hz⟩ := q
      cases af with
      | next => cases h
      | brk => cases h
      | ret v =>
        obtain ⟨V, rfl, hV⟩ := hfr
        refine hQ V s' (DRR_of R' h hV) ⟨fun b o e => k.keep b o (FF.keep b o e) (fun z => ?_) (fun x hx hc => ?_) (fun m hm => L.fz m (get_lt hm)), k.drawn, k.os, k.gold, k.bare⟩
        · have : s.heap.get? s.heap.objs.size = none := fresh_size _
          rw [z, show (envOfC _ d.2.2 s.heap.objs.size a cd).locals = s.heap.objs.size from rfl, this] at e; cases e
        · rw [kne x b hc] at e; cases e
end Mine

namespace Mine
open PySem PyProof.Rows PySem.Calls

/-! ## generators: rules of a segment -/
section
variable {M : Model} {A : Around} {R : GenEnd} {Y : Protocol} {n : Nat} {s₀ : Shared} {c : Code} {fs : List Frame} {s : Shared} {env : Env}
  {K : Flow → Sem Fin} {H : Value → Sem Fin} {gd : Bool → Bool} {lv : List Value → List Value}

theorem sg_wrap {α : Type} {m : Sem α} {K : α → Sem Fin} {H : Value → Sem Fin} (h : wpAny M (A.over c fs) m (fun a s' => Seg M A R Y n s₀ c (K a) fs s') (fun _ _ => False) s) :
    Seg M A R Y n s₀ c (m.wrap K H gd lv) fs s := seg_wrap (wpAny_mono h (fun _ _ x => x) fun _ _ x => x.elim)

theorem sg_If {test : Expr} {body orelse : List Stmt} {pos : Pos}
    (h : wpAny M (A.over c fs) (isTrue test env (eval test env)) (fun b s' => Seg M A R Y n s₀ c ((execs (if b then body else orelse) env).wrap K H gd lv) fs s') (fun _ _ => False) s) :
    Seg M A R Y n s₀ c ((exec (.If test body orelse pos) env).wrap K H gd lv) fs s := by
  rw [exec_If]
  refine seg_at ?_
  show Seg M A R Y n s₀ c ((isTrue test env (eval test env) >>= fun b => if b then execs body env else execs orelse env).wrap K H gd lv) fs s
  rw [Sem.bind_eq_wrap', Sem.wrap_wrap]
  refine sg_wrap (wpAny_mono h (fun b s' hb => ?_) fun _ _ x => x)
  cases b <;> exact hb

theorem sg_For {target iter : Expr} {body orelse : List Stmt} {pos : Pos} (hs : ∀ x, foldedSetIterable iter env x = pure x)
    (h : wpAny M (A.over c fs) (eval iter env) (fun x s₁ => wpAny M (A.over c fs) (pyIter x) (fun it s₂ => ∀ p k', (∀ f, k' (.ok f) = K f) →
      Seg M A R Y n s₀ (.forLoop target it body orelse env) (M.den (.forLoop target it body orelse env)) (.ret k' none (gd false) (lv []) c p [] :: fs) s₂) (fun _ _ => False) s₁) (fun _ _ => False) s) :
    Seg M A R Y n s₀ c ((exec (.For target iter body orelse pos) env).wrap K H gd lv) fs s := by
  rw [exec_For]
  refine seg_at ?_
  show Seg M A R Y n s₀ c ((eval iter env >>= fun x => foldedSetIterable iter env x >>= fun x => standAt iter.pos >>= fun _ => holding [x] (pyIter x) >>= fun it => runOwn (.forLoop target it body orelse env) env).wrap K H gd lv) fs s
  rw [Sem.bind_eq_wrap', Sem.wrap_wrap]
  refine sg_wrap (wpAny_mono h (fun x s₁ h₁ => ?_) fun _ _ x => x)
  rw [hs x]
  refine seg_at ?_
  show Seg M A R Y n s₀ c ((holding [x] (pyIter x) >>= fun it => runOwn (.forLoop target it body orelse env) env).wrap K H _ _) fs s₁
  rw [Sem.bind_eq_wrap', Sem.wrap_wrap]
  refine sg_wrap (wpAny_holding (wpAny_mono h₁ (fun it s₂ h₂ => ?_) fun _ _ x => x))
  exact seg_call fun p => h₂ p _ fun f => rfl
end

section
variable {prog : Program} {w : World} {A : Around} {R : GenEnd} {Y : Protocol} {n : Nat} {s₀ : Shared} {fs : List Frame} {s : Shared} {env : Env}

/-- what stands behind a loop's turn -/
noncomputable def turnK (target : Expr) (it : Value) (body : List Stmt) (env : Env) : Flow → Sem Fin := fun f => match f with
  | .next | .cont => .pure (.again (.forLoop target it body [] env))
  | .brk => .pure (.done .next)
  | .ret v => .pure (.done (.ret v))

theorem sg_block {k h g l c₁ p₁ kp} (hk : Seg (model prog w) A R Y n s₀ c₁ (k (.ok .next)) fs s) :
    Seg (model prog w) A R Y n s₀ (.block [] env) ((model prog w).den (.block [] env)) (.ret k h g l c₁ p₁ kp :: fs) s := by
  show Seg _ A R Y n s₀ _ (leafOf (.ok .next)) _ s
  exact seg_leaf _ hk

theorem sg_forLoop {target : Expr} {it : Value} {body : List Stmt} {k : Result → Sem Fin} {g : Bool} {l : List Value} {c₁ : Code} {p₁ : Pos}
    (h : wpAny (model prog w) (A.over (.forLoop target it body [] env) (.ret k none g l c₁ p₁ [] :: fs)) (pyNext it) (fun q s₁ => match q with
      | none => Seg (model prog w) A R Y n s₀ c₁ (k (.ok .next)) fs s₁
      | some v => wpAny (model prog w) (A.over (.forLoop target it body [] env) (.ret k none g l c₁ p₁ [] :: fs)) (letOwnedTupleGo target it v) (fun _ s₂ =>
          wpAny (model prog w) (A.over (.forLoop target it body [] env) (.ret k none g l c₁ p₁ [] :: fs)) (assign target env v) (fun _ s₃ =>
            ∀ H', Seg (model prog w) A R Y n s₀ (.forLoop target it body [] env) ((execs body env).wrap (turnK target it body env) H' id id) (.ret k none g l c₁ p₁ [] :: fs) s₃) (fun _ _ => False) s₂) (fun _ _ => False) s₁) (fun _ _ => False) s) :
    Seg (model prog w) A R Y n s₀ (.forLoop target it body [] env) ((model prog w).den (.forLoop target it body [] env)) (.ret k none g l c₁ p₁ [] :: fs) s := by
  show Seg _ A R Y n s₀ _ ((forTurn target it body [] env).onRaise (fun x => do noteFrame x env; theTreesLotGoes x)) _ s
  unfold forTurn
  rw [Sem.onRaise_eq_wrap]
  refine seg_at ?_
  show Seg _ A R Y n s₀ _ (Sem.wrap _ _ _ _ ((pyNext it).onRaise _ >>= _)) _ s
  rw [Sem.bind_eq_wrap', Sem.wrap_wrap]
  refine sg_wrap (wpAny_onRaise (wpAny_mono h (fun q s₁ h₁ => ?_) fun _ _ x => x.elim))
  cases q with
  | none => exact seg_again rfl (sg_block h₁)
  | some v =>
    show Seg _ A R Y n s₀ _ (Sem.wrap _ _ _ _ (letOwnedTupleGo target it v >>= _)) _ s₁
    rw [Sem.bind_eq_wrap', Sem.wrap_wrap]
    refine sg_wrap (wpAny_mono h₁ (fun _ s₂ h₂ => ?_) fun _ _ x => x)
    rw [Sem.bind_eq_wrap', Sem.wrap_wrap]
    refine sg_wrap (wpAny_mono h₂ (fun _ s₃ h₃ => ?_) fun _ _ x => x)
    rw [Sem.bind_eq_wrap', Sem.wrap_wrap]
    rw [Sem.wrap_congr (execs body env) _ _ (K' := turnK target it body env) (fun f => by cases f <;> rfl) (fun e => rfl)]
    exact h₃ _
end
end Mine

namespace Mine
open PySem PyProof.Rows PySem.Calls

/-! ## generators: what their user sees -/
section
variable {prog : Program} {w : World} {A : Around} {E : Value → Shared → Prop} {s : Shared}

/-- the next thing of a generator function's; what stands suspended behind it holds no cleanup -/
theorem pyNext_gen {a : Addr} {g n : Nat} {gs : GenState} {P : Nat → Shared → Shared → Prop} {Y : Protocol} {Q : Option Value → Shared → Prop} (hh : A.handled = none)
    (hl : s.heap.NoLimit) (hroom : A.depth < recursionLimit) (hg : s.heap.IsGen a g) (hgs : s.gens[g]? = some gs)
    (hgo : gs.Goes (model prog w) A.in1 (fun n s₀ r s₁ => r = .ok (.ret .none) ∧ P n s₀ s₁) Y n (.send .none) (s.setGen g .running))
    (hY : ∀ v s₁ gs', gs'.bare = true → Y (n - 1) (s.setGen g .running) v s₁ (fun r' s'' => match n with
        | 0 => False
        | m + 1 => gs'.Goes (model prog w) A.in1 (fun n s₀ r s₁ => r = .ok (.ret .none) ∧ P n s₀ s₁) Y m r' s'') → Q (some v) (s₁.setGen g gs'))
    (hP : ∀ s₁, P n (s.setGen g .running) s₁ → ∀ h', (∀ b o, s₁.heap.get? b = some o → h'.get? b = some o) → Q none { s₁.setGen g .finished with heap := h' }) :
    wpAny (model prog w) A (pyNext (.ref a)) Q E s := by
  have live : gs.status = GenStatus.fresh ∨ gs.status = GenStatus.suspended := by
    cases gs with
    | running => exact hgo.elim
    | finished => exact hgo.elim
    | fresh c => exact .inl rfl
    | suspended k l c p fs cl => exact .inr rfl
  have turn : ∀ {k : GenResult → Sem PySem.Fin} {Q' : PySem.Fin → Shared → Prop} {E' : Value → Shared → Prop}, (∀ v s₁, Q (some v) s₁ → wpAny (model prog w) A.in1 (k (.yielded v)) Q' E' s₁) →
      (∀ s₁, (∀ h', (∀ b o, s₁.heap.get? b = some o → h'.get? b = some o) → Q none { s₁ with heap := h' }) → wpAny (model prog w) A.in1 (k (.returned .none)) Q' E' s₁) →
      wpAny (model prog w) A.in1 (.resume g (.send .none) [] k) Q' E' s := fun {k Q' E'} h1 h2 => by
    refine wpAny_resumeQ hgs hgo (fun x s₁ hx => ?_) fun v s₁ gs' hb hv => h1 v _ (hY v s₁ gs' hb hv)
    obtain ⟨rfl, hp⟩ := hx
    exact h2 _ fun h' hk => hP s₁ hp h' hk
  unfold pyNext
  refine wpAny_bind (wpAny_attempt (wpAny_callSpecial?_slot (name := Str.ofString "__next__") hg.typeIs slot_gen_next
    (wpAny_call_entry slot_gen_next hg.typeIs entry_gen_next ?_ (args_gen_next _))))
  show wpAny _ A.in1 (Builtin.Generator.genWake (.ref a) (.send .none)) _ _ s
  unfold Builtin.Generator.genWake
  refine wpAny_bind (wpAny_holding (wpAny_genNumber hg (wpAny_bind (wpAny_genState hgs ?_))))
  rcases live with e | e
  all_goals
    rw [e]
    refine wpAny_bind (wpAny_roomToWake hl hroom ?_)
    clear e
    refine turn (fun v s₁ h => wpAny_pure ⟨v, rfl, wpAny_pure h⟩) fun s₁ h => ?_
    show wpAny _ A.in1 (newExc (.type "StopIteration") [] >>= _) _ _ _
    refine wpAny_bind ?_
    simp only [newExc, newTuple]
    refine wpAny_bind (wpAny_newObj_type ?_ (by size_fits))
    refine wpAny_bind (m := firstArgMember _ _) (wpAny_of_eq (a := Value.none) (by first | rfl | (simp only [firstArgMember]; rfl)) ?_)
    refine wpAny_newObj_type ?_ (by size_fits)
    simp only [raiseNew]
    refine wpAny_bind (wpAny_bind (wpAny_handled ?_))
    rw [show A.in1.handled = none from hh]
    refine wpAny_throw ?_
    refine wpAny_bind (wpAny_isInstance (T := "StopIteration") (b := true) ⟨_, Heap.get?_push_size _ rfl, rfl⟩ isSubtype_stop ?_)
    exact wpAny_pure (h _ fun b o hb => Heap.get?_push_of_some _ (Heap.get?_push_of_some _ hb))

theorem go_gen {t : Expr} {a : Addr} {g : Nat} {v : Value} {Q : Unit → Shared → Prop} (hg : s.heap.IsGen a g) (ht : ∃ b, tgtOk t b = true) (hQ : Q () s) : wpAny (model prog w) A (letOwnedTupleGo t (.ref a) v) Q E s := by
  obtain ⟨b, ht⟩ := ht
  cases b with
  | false =>
    obtain ⟨x, p, rfl⟩ := tgt_name ht
    exact wpAny_pure hQ
  | true =>
    obtain ⟨x, p, y, q, k, r, rfl⟩ := tgt_two ht
    obtain ⟨o, nm, qn, ho, hc, hd, hsl⟩ := hg
    unfold letOwnedTupleGo
    cases v with
    | ref T =>
      refine wpAny_bind (wpAny_load ho ?_)
      rw [hc, hd]
      show wpAny _ A (if (["enumerate", "zip", "dict_itemiterator", "dict_reverseitemiterator", "odict_iterator", "itertools.zip_longest", "itertools.pairwise"].contains "generator" && _) = true then _ else _) Q E s
      rw [show (["enumerate", "zip", "dict_itemiterator", "dict_reverseitemiterator", "odict_iterator", "itertools.zip_longest", "itertools.pairwise"].contains "generator") = false from by decide, Bool.false_and]
      exact wpAny_pure hQ
    | _ => exact wpAny_pure hQ
end
end Mine

namespace Mine
open PySem PyProof.Rows PySem.Calls

/-- what a sleeping generator leans on stands -/
structure GW (h₀ : Heap) (W rd : List Addr) (s s' : Shared) : Prop where
  own : ∀ b ∈ W, ∀ o, s.heap.get? b = some o → s'.heap.get? b = some o
  rd : ∀ b ∈ rd, ∀ o, s.heap.get? b = some o → s'.heap.get? b = some o
  base : ∀ b o, h₀.get? b = some o → s'.heap.get? b = some o

theorem Mv.refl {gi : Option Nat} {W : List Addr} {s : Shared} : Mv gi W s s := ⟨fun _ _ _ e => e, rfl, rfl, fun _ _ _ e => e, fun e => e⟩
theorem Mv.trans {gi : Option Nat} {W : List Addr} {s s' s'' : Shared} (x : Mv gi W s s') (y : Mv gi W s' s'') : Mv gi W s s'' :=
  ⟨fun b o hb e => y.keep b o hb (x.keep b o hb e), y.drawn.trans x.drawn, y.os.trans x.os, fun i z hi e => y.gold i z hi (x.gold i z hi e), fun e => y.bare (x.bare e)⟩

/-- a yield: the next thing of the row is told, and (if more is asked) the rest goes on; W n: what the segments may turn while n things are left -/
noncomputable def gY (h₀ : Heap) (W : Nat → List Addr) (rd : List Addr) (items : List It) (fin : Bool) : Protocol := fun n s₀ v s₁ kap =>
  ∃ x, items[items.length - (n + 1)]? = some x ∧ ItR [] s₁.heap x v ∧ Mv none (W (n + 1)) s₀ s₁ ∧ (∀ b ∈ W n, ∃ o, s₁.heap.get? b = some o) ∧ (∀ b o, h₀.get? b = some o → s₁.heap.get? b = some o) ∧
    ((fin = true ∨ n ≠ 0) → ∀ s'', GW h₀ (W n) rd s₁ s'' → kap (.send .none) s'')
/-- the end: nothing is left to tell -/
noncomputable def gP (W : Nat → List Addr) (fin : Bool) (n : Nat) (s₀ s₁ : Shared) : Prop := n = 0 ∧ fin = true ∧ Mv none (W 0) s₀ s₁

noncomputable def gGoes (prog : Program) (w : World) (A : Around) (h₀ : Heap) (W : Nat → List Addr) (rd : List Addr) (items : List It) (fin : Bool) (n : Nat) (gs : GenState) (s : Shared) : Prop :=
  gs.Goes (model prog w) A.in1 (fun n s₀ r s₁ => r = .ok (.ret .none) ∧ gP W fin n s₀ s₁) (gY h₀ W rd items fin) n (.send .none) s

/-- the generator sleeps, i things told -/
noncomputable def gSt (prog : Program) (w : World) (A : Around) (h₀ : Heap) (rd : List Addr) (I : Addr) (g : Nat) (items : List It) (fin : Bool) (i : Nat) (W : List Addr) (s : Shared) : Prop :=
  ∃ Wg, W = I :: Wg ∧ s.heap.IsGen I g ∧ (∀ b ∈ Wg, ∃ o, s.heap.get? b = some o) ∧ (∀ b ∈ rd, ∃ o, s.heap.get? b = some o) ∧ ∃ gs, s.gens[g]? = some gs ∧
    ((fin = true ∨ i < items.length) → ∀ s'', s''.heap.IsGen I g → GW h₀ Wg rd s s'' → ∃ Wf : Nat → List Addr, (∀ b ∈ Wf (items.length - i), b ∈ Wg ∨ s''.heap.objs.size ≤ b) ∧ (∀ n, ∀ b ∈ Wf n, b ∈ Wf (n + 1)) ∧ I ∉ Wf (items.length - i) ∧ (∀ b ∈ rd, b ∉ Wf (items.length - i)) ∧ gGoes prog w A h₀ Wf rd items fin (items.length - i) gs s'')

section
variable {prog : Program} {w : World} {A : Around} {h₀ : Heap}

theorem gens_set {s : Shared} {g i : Nat} {x y : GenState} (hi : g ≠ i) (h : s.gens[i]? = some y) : (s.setGen g x).gens[i]? = some y := by
  show (s.gens.setIfInBounds g x)[i]? = some y
  rw [Array.getElem?_setIfInBounds_ne hi]; exact h
theorem bare_set {s : Shared} {g : Nat} {x : GenState} (hx : x.bare = true) (h : AllBare s.gens) : AllBare (s.setGen g x).gens := by
  intro y hy
  obtain ⟨i, hi, rfl⟩ := Array.mem_iff_getElem.mp hy
  have e : (s.gens.setIfInBounds g x)[i]? = some ((s.setGen g x).gens[i]) := Array.getElem?_eq_getElem hi
  rw [Array.getElem?_setIfInBounds] at e
  split at e
  · split at e
    · rw [← Option.some.inj e]; exact hx
    · cases e
  · exact h _ (Array.mem_of_getElem? e)

theorem fresh_of_ge {h : Heap} {b : Addr} (hb : h.objs.size ≤ b) : h.get? b = none := by
  cases e : h.get? b with
  | none => rfl
  | some o => exact absurd (Heap.lt_size e) (Nat.not_lt.mpr hb)

theorem gen_itr {mg mb : Str → Option Value} {I : Addr} {g : Nat} {rd ρ : List Addr} {items : List It} {fin : Bool} {t : Expr} (hh : A.handled = none) (hroom : A.depth < recursionLimit) (T : Tp mg mb h₀) (ht : ∃ b, tgtOk t b = true) :
    Itr prog w A (fun h => ∀ b o, h₀.get? b = some o → h.get? b = some o) t I (some g) rd ρ items fin (gSt prog w A h₀ rd I g items fin) where
  live := fun i W s h b hb => by
    obtain ⟨Wg, rfl, hG, hl, _⟩ := h
    rcases List.mem_cons.mp hb with rfl | hb
    · obtain ⟨o, _, _, ho, _⟩ := hG; exact ⟨o, ho⟩
    · exact hl b hb
  frame := fun i W s s' h h1 h2 h3 => by
    obtain ⟨Wg, rfl, hG, hl, hrl, gs, hgs, hgo⟩ := h
    refine ⟨Wg, rfl, ?_, fun b hb => ?_, fun b hb => ?_, gs, h3 g gs rfl hgs, fun hn s'' hG'' k => ?_⟩
    · obtain ⟨o, nm, qn, ho, r⟩ := hG
      exact ⟨o, nm, qn, h1 I List.mem_cons_self o ho, r⟩
    · obtain ⟨o, ho⟩ := hl b hb
      exact ⟨o, h1 b (List.mem_cons_of_mem _ hb) o ho⟩
    · obtain ⟨o, ho⟩ := hrl b hb
      exact ⟨o, h2 b hb o ho⟩
    · exact hgo hn s'' hG'' ⟨fun b hb o e => k.own b hb o (h1 b (List.mem_cons_of_mem _ hb) o e), fun b hb o e => k.rd b hb o (h2 b hb o e), k.base⟩
  next := fun i W x s Q E hx h hB hQ => by
    obtain ⟨Wg, rfl, hG, hl, hrl, gs, hgs, hgo⟩ := h
    have hlt : i < items.length := get_lt hx
    obtain ⟨Wf, hW', hmono, hI', hrd', hgo⟩ := hgo (.inr hlt) (s.setGen g .running) hG ⟨fun _ _ _ e => e, fun _ _ _ e => e, hB⟩
    have hIl : ∃ o, s.heap.get? I = some o := let ⟨o, _, _, ho, _⟩ := hG; ⟨o, ho⟩
    refine pyNext_gen hh (T.nolimit.keeps hB) hroom hG hgs hgo (fun v s₁ gs' hb hy => ?_) fun s₁ hp => ?_
    · obtain ⟨x', hx', hv, mv, hl', hB', hk⟩ := hy
      rw [show items.length - (items.length - i - 1 + 1) = i by (clear hh hroom T ht hx hB hQ hG hl hrl hgs hW' hmono hI' hrd' hgo hIl hb hx' hv mv hl' hB' hk; omega), hx] at hx'
      cases hx'
      rw [show items.length - i - 1 + 1 = items.length - i by (clear hh hroom T ht hx hB hQ hG hl hrl hgs hW' hmono hI' hrd' hgo hIl hb mv hl' hB' hk hv; omega)] at mv
      have hsub : ∀ b ∈ Wf (items.length - i - 1), b ∈ Wf (items.length - i) := fun b hb => by
        have := hmono _ b hb
        rwa [show items.length - i - 1 + 1 = items.length - i by (clear hh hroom T ht hx hB hQ hG hl hrl hgs hW' hmono hI' hrd' hgo hIl mv hl' hB' hk hv hb this; omega)] at this
      have hG' : (s₁.setGen g gs').heap.IsGen I g := by
        obtain ⟨o, nm, qn, ho, r⟩ := hG
        exact ⟨o, nm, qn, mv.keep I o hI' ho, r⟩
      have hru : s₁.gens[g]? = some .running := mv.gold g _ (by simp) (setGen_self hgs)
      have hgt : (s₁.setGen g gs').gens[g]? = some gs' := setGen_self hru
      refine go_gen hG' ht (hQ v _ (I :: Wf (items.length - i - 1)) ?_ ⟨Wf (items.length - i - 1), rfl, hG', hl', ?_, gs', hgt, fun hn s'' hG'' k => ⟨Wf, fun b hb => .inl (by rw [show items.length - i - 1 = items.length - (i + 1) by (clear hh hroom T ht hx hB hQ hG hl hrl hgs hlt hW' hmono hI' hrd' hgo hIl mv hl' hB' hk hv hsub hG' hru hgt hn hG'' k hb; omega)]; exact hb), hmono, fun h => hI' (hsub I (by rw [show items.length - i - 1 = items.length - (i + 1) by (clear hh hroom T ht hx hB hQ hG hl hrl hgs hlt hW' hmono hI' hrd' hgo hIl hb mv hl' hB' hk hv hsub hG' hru hgt hn hG'' k h; omega)]; exact h)), fun b hb h => hrd' b hb (hsub b (by rw [show items.length - i - 1 = items.length - (i + 1) by (clear hh hroom T ht hx hB hQ hG hl hrl hgs hlt hW' hmono hI' hrd' hgo hIl mv hl' hB' hk hv hsub hG' hru hgt hn hG'' k hb h; omega)]; exact h)), ?_⟩⟩ ⟨?_, mv.drawn, mv.os, ?_, ?_⟩ ?_)
      · have := ItR.mono (ρ' := ρ) hv
        exact this
      · intro b hb
        obtain ⟨o, ho⟩ := hrl b hb
        exact ⟨o, mv.keep b o (hrd' b hb) ho⟩
      · have := hk (hn.imp id fun h => by (clear hh hroom T ht hx hB hQ hG hl hrl hgs hlt hW' hmono hI' hrd' hgo hIl hb mv hl' hB' hk hv hsub hG' hru hgt hn hG'' k; omega)) s'' ⟨k.own, k.rd, k.base⟩
        rw [show items.length - i = (items.length - (i + 1)) + 1 by (clear hh hroom T ht hx hB hQ hG hl hrl hgs hW' hmono hI' hrd' hgo hIl hb mv hl' hB' hk hv hsub hG' hru hgt hn hG'' k this; omega)] at this
        exact this
      · intro b o hb e
        refine mv.keep b o (fun hm => ?_) e
        rcases hW' b hm with h | h
        · exact hb (List.mem_cons_of_mem _ h)
        · have : s.heap.get? b = none := fresh_of_ge h
          rw [this] at e; cases e
      · intro j y hj e
        have hj' : g ≠ j := fun z => hj (by rw [z])
        exact gens_set hj' (mv.gold j y (by simp) (gens_set hj' e))
      · exact fun e => bare_set hb (mv.bare (bare_set rfl e))
      · intro b hb
        rcases List.mem_cons.mp hb with rfl | hb
        · exact .inl List.mem_cons_self
        · rcases hW' b (hsub b hb) with h | h
          · exact .inl (List.mem_cons_of_mem _ h)
          · exact .inr (fresh_of_ge h)
    · intro h' hk
      have := hp.1
      (clear hh hroom T ht hx hB hQ hG hl hrl hgs hW' hmono hI' hrd' hgo hIl hp hk; omega)
  done := fun hf W s Q E h hB hQ => by
    obtain ⟨Wg, rfl, hG, hl, hrl, gs, hgs, hgo⟩ := h
    obtain ⟨Wf, hW', hmono, hI', hrd', hgo⟩ := hgo (.inl hf) (s.setGen g .running) hG ⟨fun _ _ _ e => e, fun _ _ _ e => e, hB⟩
    rw [Nat.sub_self] at hgo
    refine pyNext_gen hh (T.nolimit.keeps hB) hroom hG hgs hgo (fun v s₁ gs' hb hy => ?_) fun s₁ hp h' hk => hQ _ ?_
    · obtain ⟨x', hx', hv, mv, hl', hB', hk⟩ := hy
      exact (hk (.inl hf) s₁ ⟨fun _ _ _ e => e, fun _ _ _ e => e, hB'⟩).elim
    · obtain ⟨_, _, mv⟩ := hp
      refine ⟨fun b o hb e => hk b o (mv.keep b o (fun hm => ?_) e), mv.drawn, mv.os, fun j y hj e => ?_, fun e => ?_⟩
      · rcases hW' b (by rw [Nat.sub_self]; exact hm) with h | h
        · exact hb (List.mem_cons_of_mem _ h)
        · have : s.heap.get? b = none := fresh_of_ge h
          rw [this] at e; cases e
      · have hj' : g ≠ j := fun z => hj (by rw [z])
        exact gens_set hj' (mv.gold j y (by simp) (gens_set hj' e))
      · exact bare_set (x := .finished) rfl (mv.bare (bare_set rfl e))
  self := fun i W s Q E h hQ => by
    obtain ⟨Wg, rfl, hG, _⟩ := h
    exact wpAny_pyIter_gen hG hQ
end
end Mine

namespace Mine
open PySem PyProof.Rows PySem.Calls

/-! ## the two generators: what stands in a segment -/
noncomputable def cxG (names : List (Str × NameKind)) : Cx := ⟨names, globSpec, fun _ _ => none, fun _ => false, fun _ _ => none⟩
theorem cxG_ok {prog : Program} {w : World} {mg mb : Str → Option Value} {A : Around} {names : List (Str × NameKind)} (hr : Room A) : CxOk prog w mg mb A (cxG names) where
  room := hr
  glob := fun x v e => by
    have e' : globSpec x = some v := e
    unfold globSpec at e'
    split at e'
    · cases e'; exact ⟨by assumption, rfl⟩
    · cases e'
  fn := fun f ds r e => by cases e

/-- what stands still all the while -/
structure GS (C : Cx) (env : Env) (rd ρ : List Addr) (fz : List Nat) : Prop where
  noCell : ∀ x, C.kind x ≠ some .cell
  frozen : ∀ n, n < ρ.length → n ∈ fz
  rd : ∀ a ∈ ρ, a ∈ rd
/-- what stands in a segment that began at s₀; W may have turned, V is live -/
structure GI (h₀ : Heap) (C : Cx) (env : Env) (W V ρ : List Addr) (fz : List Nat) (σ : AS) (s₀ s : Shared) : Prop where
  rel : Rel h₀ C env ρ σ s.heap
  fz : σ.fz = fz
  loc : env.locals ∈ W
  mv : Mv none W s₀ s
  live : ∀ b ∈ V, ∃ o, s.heap.get? b = some o

section
variable {prog : Program} {w : World} {mg mb : Str → Option Value} {A : Around} {h₀ : Heap} {C : Cx} {env : Env} {W W' V V' rd ρ : List Addr} {fz : List Nat} {σ σ' : AS} {s₀ s s' : Shared}

theorem GI.ka (g : GI h₀ C env W V ρ fz σ s₀ s) (k : KA s s') : GI h₀ C env W V ρ fz σ s₀ s' where
  rel := g.rel.keeps k.keep
  fz := g.fz
  loc := g.loc
  mv := ⟨fun b o hb e => k.keep b o (g.mv.keep b o hb e), k.drawn.trans g.mv.drawn, k.os.trans g.mv.os, fun i x hi e => k.gold i x (g.mv.gold i x hi e), fun e => k.bare (g.mv.bare e)⟩
  live := fun b hb => let ⟨o, e⟩ := g.live b hb; ⟨o, k.keep b o e⟩
theorem GI.ks (G : GS C env rd ρ fz) (g : GI h₀ C env W V ρ fz σ s₀ s) {ρ' : List Addr} {fz' : List Nat} (k : KS C env ρ' fz' s s') (hρ : ∀ n : Nat, n < ρ'.length → n ∈ fz') (R : Rel h₀ C env ρ σ' s'.heap) (hz : σ'.fz = σ.fz) : GI h₀ C env W V ρ fz σ' s₀ s' := by
  have kp : ∀ b o, s.heap.get? b = some o → b ≠ env.locals → s'.heap.get? b = some o := fun b o e hb => k.keep b o e hb (fun x hx => absurd hx (G.noCell x)) fun n hn => hρ n (get_lt hn)
  refine ⟨R, hz.trans g.fz, g.loc, ⟨fun b o hb e => kp b o (g.mv.keep b o hb e) (fun z => hb (z ▸ g.loc)), k.drawn.trans g.mv.drawn, k.os.trans g.mv.os, fun i x hi e => k.gold i x (g.mv.gold i x hi e), fun e => k.bare (g.mv.bare e)⟩, fun b hb => ?_⟩
  by_cases hL : b = env.locals
  · subst hL; exact R.liveL
  · obtain ⟨o, e⟩ := g.live b hb
    exact ⟨o, kp b o e hL⟩
/-- a new segment begins -/
theorem GI.wake (G : GS C env rd ρ fz) (g : GI h₀ C env W V ρ fz σ s₀ s) (hV : ∀ b ∈ V', b ∈ V) (hL : env.locals ∈ V') (q : GW h₀ V' rd s s') : GI h₀ C env V' V' ρ fz σ s' s' where
  rel := g.rel.frame q.base (fun o e => q.own _ hL o e) (fun x c hx => absurd hx (G.noCell x)) fun a ha o e => q.rd a (G.rd a ha) o e
  fz := g.fz
  loc := hL
  mv := Mv.refl
  live := fun b hb => let ⟨o, e⟩ := g.live b (hV b hb); ⟨o, q.own b hb o e⟩
/-- an iterator of the frame's own moved -/
theorem GI.moved (g : GI h₀ C env W V ρ fz σ s₀ s) {W₁ : List Addr} (hW : ∀ b ∈ W₁, b ∈ W ∧ h₀.get? b = none ∧ b ≠ env.locals ∧ b ∉ ρ) (G : GS C env rd ρ fz) (m : Mv none W₁ s s') (hV : ∀ b ∈ V', b ∈ V ∨ b ∈ W₁) (hl : ∀ b ∈ V', b ∈ W₁ → ∃ o, s'.heap.get? b = some o) : GI h₀ C env W V' ρ fz σ s₀ s' where
  rel := g.rel.frame (fun b o e => m.keep b o (fun hb => by rw [(hW b hb).2.1] at e; cases e) (g.rel.base b o e)) (fun o e => m.keep _ o (fun hb => (hW _ hb).2.2.1 rfl) e) (fun x c hx => absurd hx (G.noCell x)) fun a ha o e => m.keep a o (fun hb => (hW a hb).2.2.2 ha) e
  fz := g.fz
  loc := g.loc
  mv := ⟨fun b o hb e => m.keep b o (fun h1 => hb (hW b h1).1) (g.mv.keep b o hb e), m.drawn.trans g.mv.drawn, m.os.trans g.mv.os, fun i x hi e => m.gold i x hi (g.mv.gold i x hi e), fun e => m.bare (g.mv.bare e)⟩
  live := fun b hb => by
    by_cases h1 : b ∈ W₁
    · exact hl b hb h1
    · obtain ⟨o, e⟩ := g.live b ((hV b hb).resolve_right h1)
      exact ⟨o, m.keep b o h1 e⟩

section
variable {items : List It} {fin : Bool} {n : Nat} {Wf : Nat → List Addr} {c : Code} {fs : List Frame} {K : Flow → Sem Fin} {H : Value → Sem Fin} {gd : Bool → Bool} {lv : List Value → List Value} {k : Nat}

/-- a segment of a generator -/
noncomputable def SG (prog : Program) (w : World) (A : Around) (h₀ : Heap) (W : Nat → List Addr) (rd : List Addr) (items : List It) (fin : Bool) (n : Nat) (s₀ : Shared) (c : Code) (t : Sem Fin) (fs : List Frame) (s : Shared) : Prop :=
  Seg (model prog w) A (fun n s₀ r s₁ => r = .ok (.ret .none) ∧ gP W fin n s₀ s₁) (gY h₀ W rd items fin) n s₀ c t fs s

theorem sg_assign {x : Str} {p pos : Pos} {e : Expr} {v : AV} (G : GS C env rd ρ fz) (hr : Room (A.over c fs)) (hC : ∃ names, C = cxG names) (O : EnvOk C env) (T : Tp mg mb h₀) (h1 : evE C k e σ = some (v, σ.hp)) (h2 : setVar C x v σ = some σ') (g : GI h₀ C env W V ρ fz σ s₀ s)
    (h : ∀ s', GI h₀ C env W V ρ fz σ' s₀ s' → (∀ b o, s.heap.get? b = some o → b ≠ env.locals → s'.heap.get? b = some o) → SG prog w A h₀ Wf rd items fin n s₀ c (K .next) fs s') : SG prog w A h₀ Wf rd items fin n s₀ c ((exec (.Assign [.Name x p] e pos) env).wrap K H gd lv) fs s := by
  obtain ⟨names, rfl⟩ := hC
  refine sg_wrap (wpAny_mono (s_assign (cxG_ok hr) O T h1 (σ := σ) h2 g.rel) (fun f s' q => ?_) fun _ _ x => x)
  obtain ⟨ρ', rfl, R', hf, ks, hz⟩ := q
  have hhp : σ'.hp = σ.hp := by unfold setVar at h2; split at h2 <;> cases h2 <;> rfl
  have hρ' : ρ' = [] := by
    have h3 := R'.len
    have h4 := g.rel.len
    simp only [hhp, List.length_append] at h3
    exact List.eq_nil_of_length_eq_zero (by omega)
  subst hρ'
  rw [List.append_nil] at R'
  exact h s' (g.ks G ks (fun n hn => g.fz ▸ G.frozen n hn) R' hz) fun b o e hb => ks.keep b o e hb (fun x hx => absurd hx (G.noCell x)) fun n hn => g.fz ▸ G.frozen n (get_lt hn)
theorem sg_test {test : Expr} {body orelse : List Stmt} {pos : Pos} {b : Bool} (hr : Room (A.over c fs)) (hC : ∃ names, C = cxG names) (O : EnvOk C env) (T : Tp mg mb h₀) (h1 : evT C k test σ = some (b, σ.hp)) (g : GI h₀ C env W V ρ fz σ s₀ s)
    (h : ∀ s', GI h₀ C env W V ρ fz σ s₀ s' → KA s s' → SG prog w A h₀ Wf rd items fin n s₀ c ((execs (if b then body else orelse) env).wrap K H gd lv) fs s') : SG prog w A h₀ Wf rd items fin n s₀ c ((exec (.If test body orelse pos) env).wrap K H gd lv) fs s := by
  obtain ⟨names, rfl⟩ := hC
  exact sg_If (t_then (snd_all k) (cxG_ok hr) O T h1 g.rel fun s' ρ' _ _ ka => h s' (g.ka ka) ka)
theorem sg_yield {e : Expr} {yp pos : Pos} {x : It} (hco : env.scope.isCoroutine = false) (hi : interactive env = false) (hfs : splitAtGen fs = none) (hgd : gd false = false) (hfg : fs.any Frame.guarded = false) (G : GS C env rd ρ fz) (g : GI h₀ C env (Wf (n + 1)) V ρ fz σ s₀ s)
    (hV : ∀ b ∈ Wf n, b ∈ V) (hL : env.locals ∈ Wf n) (he : ∀ Q : Value → Shared → Prop, (∀ V s', KA s s' → ItR [] s'.heap x V → Q V s') → wpAny (model prog w) (A.over c fs) (eval e env) Q (fun _ _ => False) s) (hx : items[items.length - (n + 1)]? = some x)
    (h : (fin = true ∨ n ≠ 0) → ∀ s'', GI h₀ C env (Wf n) (Wf n) ρ fz σ s'' s'' → (∀ b ∈ Wf n, ∀ o, s.heap.get? b = some o → s''.heap.get? b = some o) → (∀ b ∈ rd, ∀ o, s.heap.get? b = some o → s''.heap.get? b = some o) → SG prog w A h₀ Wf rd items fin n s'' c (K .next) fs s'') : SG prog w A h₀ Wf rd items fin (n + 1) s₀ c ((exec (.Expr (.Yield (some e) yp) pos) env).wrap K H gd lv) fs s := by
  refine seg_Expr_Yield hfs hgd hfg (wpAny_mono (he _ fun V' s' ka hv => ?_) (fun _ _ x => x) fun _ _ x => x.elim) hco hi
  intro kap hkap
  have g' := g.ka ka
  refine ⟨x, hx, hv, g'.mv, fun b hb => g'.live b (hV b hb), g'.rel.base, fun hn s'' q => hkap .none s'' (h hn s'' (g'.wake G hV hL q) (fun b hb o e => q.own b hb o (ka.keep b o e)) fun b hb o e => q.rd b hb o (ka.keep b o e))⟩
theorem eval_two {e : Expr} {a b : AV} (hr : Room (A.over c fs)) (hC : ∃ names, C = cxG names) (O : EnvOk C env) (T : Tp mg mb h₀) (h1 : evE C k e σ = some (.ref σ.hp.length, σ.hp ++ [.tup [a, b]])) (ha : a.isVal = true) (hb : b.isVal = true) (g : GI h₀ C env W V ρ fz σ s₀ s) :
    ∀ Q : Value → Shared → Prop, (∀ V s', KA s s' → ItR [] s'.heap (.two a b) V → Q V s') → wpAny (model prog w) (A.over c fs) (eval e env) Q (fun _ _ => False) s := fun Q hQ => by
  obtain ⟨names, rfl⟩ := hC
  refine e_then (snd_all k) (cxG_ok hr) O T h1 g.rel fun V s' ρ' hV R' _ ka => hQ V s' ka ?_
  obtain ⟨T', its, rfl, _, hpt, hx⟩ := tup_at (σ := σ) (xs := [a, b]) R' (by simp) hV
  obtain ⟨its, rfl⟩ : ∃ l : List Value, its = l.toArray := ⟨its.toList, by simp⟩
  simp only at hx
  cases hx with
  | cons x1 r1 =>
  cases r1 with
  | cons x2 r2 =>
  cases r2
  obtain ⟨m, hm⟩ := hpt
  exact ⟨T', _, _, rfl, ⟨_, hm, rfl, m, rfl⟩, x1.val ha, x2.val hb⟩
theorem eval_one {e : Expr} {v : AV} (hr : Room (A.over c fs)) (hC : ∃ names, C = cxG names) (O : EnvOk C env) (T : Tp mg mb h₀) (h1 : evE C k e σ = some (v, σ.hp)) (hv : v.isVal = true) (g : GI h₀ C env W V ρ fz σ s₀ s) :
    ∀ Q : Value → Shared → Prop, (∀ V s', KA s s' → ItR [] s'.heap (.one v) V → Q V s') → wpAny (model prog w) (A.over c fs) (eval e env) Q (fun _ _ => False) s := fun Q hQ => by
  obtain ⟨names, rfl⟩ := hC
  exact e_then (snd_all k) (cxG_ok hr) O T h1 g.rel fun V s' ρ' hV R' _ ka => hQ V s' ka (VR.val hv hV)
end
end
end Mine

namespace Mine
open PySem PyProof.Rows PySem.Calls
set_option maxRecDepth 20000

set_option linter.unusedVariables false

theorem eqOf' {α : Type} {a b : α} (h : a = b) : a = b := h
noncomputable def gen1 : Arguments × List Stmt × Scope := (defs[0]'(by decide +kernel)).2
noncomputable def g1t : Expr := match gen1.2.1.drop 2 with
  | .For t _ _ _ _ :: _ => t
  | _ => .Name "" default
noncomputable def g1i : Expr := match gen1.2.1.drop 2 with
  | .For _ i _ _ _ :: _ => i
  | _ => .Name "" default
noncomputable def g1f : List Stmt := match gen1.2.1.drop 2 with
  | .For _ _ b _ _ :: _ => b
  | _ => []

section
variable {prog : Program} {w : World} {mg mb : Str → Option Value} {A : Around} {h₀ : Heap} {env : Env}

theorem room_func {body : List Stmt} (D : Deep 0 A) : Room (A.in1.over (.func body env) []) := by
  refine ⟨D.handled, ?_⟩
  have := D.units
  show A.units + 1 + 0 + 3 + 100 < cLine
  omega
theorem room_for {t : Expr} {it : Value} {fb o body : List Stmt} {k : Result → Sem Fin} {l : List Value} {p : Pos} {kp} {g : Bool} (D : Deep 0 A) : Room (A.in1.over (.forLoop t it fb o env) [.ret k none g l (.func body env) p kp]) := by
  refine ⟨?_, ?_⟩
  · show markOver none A.handled A.handled = none
    rw [D.handled]; rfl
  · have := D.units
    show A.units + 1 + (3 + 0) + 0 + 100 < cLine
    omega

/-- the text's iterator and the enumerate over it -/
theorem enum_itr {A : Around} {B : Heap → Prop} (hr : Room A) {N : Addr} {x : List Nat} {u : Tok} {es : List Expr} {k : Nat} {p : Pos} :
    Itr prog w A B (.Tuple es k p) (N + 1) none [] [] (x.zipIdx.map fun p => .two (.int p.2) (.str [p.1])) true (fun i W s => W = [N + 1, N] ∧ (∃ old, IsEnum s.heap (N + 1) N i old) ∧ s.heap.IsStrIter N "str_ascii_iterator" ⟨x.toArray⟩ u i) := by
  refine Itr.ofWalksT (rd := []) (WalksT.enumerateD (A := A) (Draws.strAscii (A := A.in1) hr.handled N ⟨x.toArray⟩ u) (N + 1) (Nat.succ_ne_self _) (by simp) (by simp)) _ (fun _ hb => hb) (by simp) (fun b hb => ?_) ?_ ?_
  · simp at hb ⊢; exact hb
  · intro i y vals hi hV
    obtain ⟨t, V, ⟨c, u', h1, rfl⟩, rfl⟩ := hV
    rw [List.getElem?_map] at hi
    obtain ⟨v, h2, rfl⟩ := Option.map_eq_some_iff.mp hi
    rw [List.getElem?_zipIdx] at h2
    obtain ⟨v', h3, rfl⟩ := Option.map_eq_some_iff.mp h2
    have h1' : x[i]? = some c := by simpa using h1
    rw [h3] at h1'; cases h1'
    exact ⟨_, _, _, _, rfl, rfl, by simpa using vInt, vStr⟩
  · intro i h hs b hb
    obtain ⟨⟨old, h1⟩, ⟨o, h2, _⟩⟩ := hs
    simp at hb
    rcases hb with rfl | rfl
    · exact ⟨_, h1⟩
    · exact ⟨_, h2⟩

theorem g1_noCell : ∀ x, (cxG gen1.2.2.names).kind x ≠ some .cell := by
  intro x h
  have hm := mem_lk (show gen1.2.2.names.lookup x = some .cell from h)
  have := List.all_eq_true.mp (show (gen1.2.2.names.all fun p => decide (p.2 ≠ .cell)) = true by decide +kernel) _ hm
  simp at this

/-- whether the row ends behind a lone backslash -/
noncomputable def escEnd : Bool → List Nat → Bool
  | e, [] => e
  | true, _ :: r => escEnd false r
  | false, c :: r => if c = 92 then escEnd true r else escEnd false r
theorem escEnd_pos : ∀ (r : List Nat) (e : Bool) (i : Nat), escEnd e r = true → (escI e i r).length ≠ 0
  | [], true, i, _ => by simp [escI]
  | [], false, i, h => by simp [escEnd] at h
  | c :: r, true, i, h => by simp [escI]
  | c :: r, false, i, h => by
    rw [escI]
    rw [escEnd] at h
    split
    · rename_i hc
      rw [if_pos hc] at h
      exact escEnd_pos r true (i + 1) h
    · simp
noncomputable def Wf1 (L N : Addr) (fe : Bool) (n : Nat) : List Addr := if n = 0 ∧ fe = true then [L] else [L, N + 1, N]
theorem Wf1_full {L N : Addr} {fe : Bool} {n : Nat} (h : n = 0 → fe = false) : Wf1 L N fe n = [L, N + 1, N] := by
  unfold Wf1
  rw [if_neg]
  rintro ⟨h1, h2⟩
  rw [h h1] at h2; cases h2
theorem idx_of {items done : List It} {y : It} {r : List It} (h : items = done ++ y :: r) : items[items.length - (r.length + 1)]? = some y := by
  subst h
  rw [List.length_append, List.length_cons, Nat.add_sub_cancel, List.getElem?_append_right (Nat.le_refl _), Nat.sub_self]; rfl

theorem esc_loop {x : List Nat} {u : Tok} {N L : Addr} {items : List It} {k : Result → Sem Fin} {g : Bool} {l : List Value} {p : Pos} {body : List Stmt} {fe : Bool} (D : Deep 0 A) (O : EnvOk (cxG gen1.2.2.names) env) (T : Tp mg mb h₀)
    (hL : env.locals = L) (hLN : L < N) (hN : ∀ b, N ≤ b → h₀.get? b = none) (hco : env.scope.isCoroutine = false) (hg : g = false)
    (hend : ∀ (n : Nat) (σ : AS) (s₀ s : Shared) (done : List It), n = (escI fe x.length []).length → items = done ++ escI fe x.length [] → σ.hp = [] → GI h₀ (cxG gen1.2.2.names) env [L, N + 1, N] [L] [] [] σ s₀ s → σ.vars "escape" = some (.bool fe) → (fe = true → σ.vars "pos" = some (.int ((x.length : Int) - 1))) →
      SG prog w A.in1 h₀ (Wf1 L N fe) [] items true n s₀ (.func body env) (k (.ok .next)) [] s) :
    ∀ (rest : List Nat) (i : Nat) (e : Bool) (n : Nat) (σ : AS) (s₀ s : Shared) (done : List It), n = (escI e i rest).length → items = done ++ escI e i rest → escEnd e rest = fe → x.drop i = rest → i + rest.length = x.length → σ.hp = [] → GI h₀ (cxG gen1.2.2.names) env [L, N + 1, N] [L, N + 1, N] [] [] σ s₀ s →
      ((∃ old, IsEnum s.heap (N + 1) N i old) ∧ s.heap.IsStrIter N "str_ascii_iterator" ⟨x.toArray⟩ u i) → σ.vars "escape" = some (.bool e) → (e = true → σ.vars "pos" = some (.int ((i : Int) - 1))) →
      SG prog w A.in1 h₀ (Wf1 L N fe) [] items true n s₀ (.forLoop g1t (.ref (N + 1)) g1f [] env) ((model prog w).den (.forLoop g1t (.ref (N + 1)) g1f [] env)) [.ret k none g l (.func body env) p []] s := by
  have hT := eqOf' (a := g1t) (b := .Tuple [.Name _ _, .Name _ _] _ _) rfl
  have hB := eqOf' (a := g1f) (b := [.If _ _ _ _]) rfl
  have hN' := eqOf' (a := gen1.2.2.names) (b := [_, _, _, _, _]) rfl
  have G : GS (cxG gen1.2.2.names) env [] [] [] := ⟨g1_noCell, by simp, by simp⟩
  have hW : ∀ b ∈ [N + 1, N], b ∈ [L, N + 1, N] ∧ h₀.get? b = none ∧ b ≠ env.locals ∧ b ∉ ([] : List Addr) := by
    intro b hb
    refine ⟨List.mem_cons_of_mem _ hb, hN b ?_, ?_, by simp⟩
    · simp at hb; rcases hb with rfl | rfl
      · exact Nat.le_succ _
      · exact Nat.le_refl _
    · rw [hL]; simp at hb
      rcases hb with rfl | rfl
      · exact Nat.ne_of_gt (Nat.lt_succ_of_lt hLN)
      · exact Nat.ne_of_gt hLN
  have hLW : ∀ b ∈ [L, N + 1, N], b = L ∨ b ∈ [N + 1, N] := fun b hb => by simpa using hb
  intro rest
  induction rest with
  | nil =>
    intro i e n σ s₀ s done hn hi hfe hd hlen hhp gi hst he hpos
    have hil : i = x.length := by simpa using hlen
    subst hil
    have : e = fe := by cases e <;> exact hfe
    subst this
    unfold SG
    refine sg_forLoop ?_
    have I := enum_itr (prog := prog) (w := w) (A := A.in1.over (.forLoop g1t (.ref (N + 1)) g1f [] env) [.ret k none g l (.func body env) p []]) (B := fun _ => True) (room_for D) (N := N) (x := x) (u := u) (es := []) (k := 0) (p := p)
    refine I.done rfl [N + 1, N] s _ _ ?_ trivial fun s' mv => ?_
    · simpa using hst
    · have gi' := gi.moved (V' := [L]) hW G mv (fun b hb => .inl (by simp at hb; simp [hb])) (fun b hb h => by
        simp at hb; subst hb
        exact absurd hL.symm ((hW _ h).2.2.1))
      exact hend n σ s₀ s' done hn hi hhp gi' he hpos
  | cons c r ih =>
    intro i e n σ s₀ s done hn hi hfe hd hlen hhp gi hst he hpos
    unfold SG
    refine sg_forLoop ?_
    have hr : Room (A.in1.over (.forLoop g1t (.ref (N + 1)) g1f [] env) [.ret k none g l (.func body env) p []]) := room_for D
    have I : ∀ A₂, Room A₂ → Itr prog w A₂ (fun _ => True) g1t (N + 1) none [] [] (x.zipIdx.map fun p => .two (.int p.2) (.str [p.1])) true (fun i W s => W = [N + 1, N] ∧ (∃ old, IsEnum s.heap (N + 1) N i old) ∧ s.heap.IsStrIter N "str_ascii_iterator" ⟨x.toArray⟩ u i) := fun A₂ h₂ => by
      rw [hT]; exact enum_itr h₂
    have I := I _ hr
    have hxc : x[i]? = some c := by
      have h0 : (x.drop i)[0]? = some c := by rw [hd]; rfl
      rw [List.getElem?_drop, Nat.add_zero] at h0
      exact h0
    have hxi : (x.zipIdx.map fun p : Nat × Nat => It.two (.int p.2) (.str [p.1]))[i]? = some (.two (.int i) (.str [c])) := by
      rw [List.getElem?_map, List.getElem?_zipIdx, hxc]; simp
    have hdr : x.drop (i + 1) = r := by rw [← List.drop_drop, hd]; rfl
    have hlr : i + 1 + r.length = x.length := by simp only [List.length_cons] at hlen; (clear D O T hL hLN hN hco hg hend hT hB hN' G hW hLW ih hn hi hfe hd hhp gi hst he hpos hr I hxc hxi hdr; omega)
    have hkd : ∀ y, (cxG gen1.2.2.names).kind y = gen1.2.2.names.lookup y := fun y => rfl
    obtain ⟨vars, hp, fz⟩ := σ
    simp only at hhp he hpos
    subst hhp
    have hfz := gi.fz
    simp only at hfz
    subst hfz
    have hb : bindT (cxG gen1.2.2.names) g1t (.two (.int i) (.str [c])) ⟨vars, [], []⟩ = some ⟨fun y => if y = "ch" then some (.str [c]) else if y = "pos" then some (.int i) else vars y, [], []⟩ := by
      rw [hT]; simp only [Option.bind_some, setVar, Cx.kind, List.lookup_cons, ofString_beq, String.reduceBEq, bt2, eq_self, cxG, hN']
    refine wpAny_mono (I.next i [N + 1, N] (.two (.int i) (.str [c])) s _ _ hxi ⟨rfl, hst⟩ trivial (fun V s₁ W' hV hst' mv _ => ?_)) (fun q s₁ hq => by cases q with | none => exact hq.elim | some v => exact hq) fun _ _ e => e
    obtain ⟨rfl, hst'⟩ := hst'
    have gi₁ := gi.moved (V' := [L, N + 1, N]) hW G mv (fun b hb => .inl hb) (fun b _ h => I.live (i + 1) [N + 1, N] s₁ ⟨rfl, hst'⟩ b h)
    refine bind_sound hr O hb hV gi₁.rel fun s₂ R₂ k₂ H' => ?_
    have gi₂ := gi₁.ks G k₂ (by simp) R₂ rfl
    have keepSt : ∀ (s s' : Shared), ((∃ old, IsEnum s.heap (N + 1) N ((i + 1 : Nat) : Int) old) ∧ s.heap.IsStrIter N "str_ascii_iterator" ⟨x.toArray⟩ u (i + 1)) → (∀ b ∈ [N + 1, N], ∀ o, s.heap.get? b = some o → s'.heap.get? b = some o) →
        ((∃ old, IsEnum s'.heap (N + 1) N ((i + 1 : Nat) : Int) old) ∧ s'.heap.IsStrIter N "str_ascii_iterator" ⟨x.toArray⟩ u (i + 1)) := fun s s' h hk =>
      (I.frame (i + 1) [N + 1, N] s s' ⟨rfl, h⟩ hk (by simp) (by simp)).2
    have hst₂ := keepSt s₁ s₂ hst' fun b hb o e => k₂.keep b o e (hW b hb).2.2.1 (fun y hy => absurd hy (g1_noCell y)) (by simp)
    clear hst hst' gi gi₁ mv R₂ hV k₂
    have hfi : interactive env = false := by unfold interactive; rw [O.kind]; rfl
    have hsp : splitAtGen [Frame.ret k none g l (.func body env) p []] = none := rfl
    have hgu : [Frame.ret k none g l (.func body env) p []].any Frame.guarded = false := by
      show (g || false) = false
      rw [hg]; rfl
    rw [show execs g1f env = execs _ env from congrArg (fun b => execs b env) hB]
    refine seg_execs_cons ?_
    cases e with
    | true =>
      have hm : escI true i (c :: r) = .two (.int i) (.str [92, c]) :: escI false (i + 1) r := rfl
      rw [hm] at hn hi
      rw [List.length_cons] at hn
      subst hn
      refine sg_test (k := 5) (b := true) hr ⟨_, rfl⟩ O T (by simp only [xName, tName, Option.bind_some, Option.map_some, getVar, Cx.kind, List.lookup_cons, ofString_inj, ofString_beq, String.reduceEq, String.reduceBEq, reduceIte, ↓reduceIte, eq_self, cxG, hN', he]) gi₂ fun s₃ gi₃ ka₃ => ?_
      have hst₃ := keepSt s₂ s₃ hst₂ fun b _ o e => ka₃.keep b o e
      have hf0 : (escI false (i + 1) r).length = 0 → fe = false := fun h0 => by
        cases hfe' : fe with
        | false => rfl
        | true => exact absurd h0 (escEnd_pos r false (i + 1) (by rw [← hfe', ← hfe]; rfl))
      have hWn := Wf1_full (L := L) (N := N) hf0
      have hWn1 : Wf1 L N fe ((escI false (i + 1) r).length + 1) = [L, N + 1, N] := Wf1_full (by (clear D O T hL hLN hN hco hg hend hT hB hN' G hW hLW ih hd hlen hr I hxc hxi hdr hlr hkd hb gi₂ keepSt hst₂ hfi hsp hgu hi hfe he hpos hm gi₃ ka₃ hst₃ hf0 hWn; omega))
      show SG _ _ _ _ _ _ _ _ _ _ _ ((execs [_, _] env).wrap _ _ _ _) _ _
      refine seg_execs_cons ?_
      refine sg_yield (V := [L, N + 1, N]) hco hfi hsp rfl hgu G (by rw [hWn1]; exact gi₃) (by rw [hWn]; exact fun _ h => h) (by rw [hWn, hL]; simp) (eval_two (k := 8) (a := .int i) (b := .str [92, c]) hr ⟨_, rfl⟩ O T (by simp only [textLine, Nat.reduceLeDiff, xConst, xName, xBin, xTup, lNil, lCons, Option.bind_some, Option.map_some, constAV, getVar, Cx.kind, List.lookup_cons, ofString_inj, ofString_beq, String.reduceEq, String.reduceBEq, reduceIte, ↓reduceIte, bAddS, decide_true, List.nil_append, List.cons_append, List.length_nil, List.length_cons, Nat.reduceAdd, Nat.zero_add, s92, eq_self, cxG, hN']) rfl rfl gi₃) (idx_of hi) fun _ s₄ gi₄ ko _ => ?_
      rw [hWn] at gi₄ ko
      have hst₄ := keepSt s₃ s₄ hst₃ fun b hb o e => ko b (List.mem_cons_of_mem _ hb) o e
      show SG _ _ _ _ _ _ _ _ _ _ _ ((execs [_] env).wrap _ _ _ _) _ _
      refine seg_execs_cons ?_
      refine sg_assign (k := 5) (v := .bool false) (σ' := ⟨fun y => if y = "escape" then some (.bool false) else if y = "ch" then some (.str [c]) else if y = "pos" then some (.int i) else vars y, [], []⟩) G hr ⟨_, rfl⟩ O T (by simp only [xConst, Option.map_some, constAV, eq_self]) (by simp only [setVar, Cx.kind, List.lookup_cons, ofString_beq, String.reduceBEq, eq_self, cxG, hN']) gi₄ fun s₅ gi₅ kp₅ => ?_
      have hst₅ := keepSt s₄ s₅ hst₄ fun b hb o e => kp₅ b o e (hW b hb).2.2.1
      show SG _ _ _ _ _ _ _ _ _ _ _ (.pure (.again (.forLoop g1t (.ref (N + 1)) g1f [] env))) _ _
      exact seg_again rfl (ih (i + 1) false _ _ _ _ (done ++ [.two (.int i) (.str [92, c])]) rfl (by rw [hi]; simp) hfe hdr hlr rfl gi₅ hst₅ (by simp) (by simp))
    | false =>
      refine sg_test (k := 5) (b := false) hr ⟨_, rfl⟩ O T (by simp only [xName, tName, Option.bind_some, Option.map_some, getVar, Cx.kind, List.lookup_cons, ofString_inj, ofString_beq, String.reduceEq, String.reduceBEq, reduceIte, ↓reduceIte, eq_self, cxG, hN', he]) gi₂ fun s₃ gi₃ ka₃ => ?_
      have hst₃ := keepSt s₂ s₃ hst₂ fun b _ o e => ka₃.keep b o e
      show SG _ _ _ _ _ _ _ _ _ _ _ ((execs [_] env).wrap _ _ _ _) _ _
      refine seg_execs_cons ?_
      by_cases hc : c = 92
      · subst hc
        have hm : escI false i (92 :: r) = escI true (i + 1) r := rfl
        rw [hm] at hn hi
        refine sg_test (k := 8) (b := true) hr ⟨_, rfl⟩ O T (by simp only [xConst, xName, tCmp, Option.bind_some, Option.map_some, constAV, getVar, Cx.kind, List.lookup_cons, ofString_beq, String.reduceBEq, reduceIte, ↓reduceIte, cEqS, decide_true, s92, eq_self, cxG, hN']) gi₃ fun s₄ gi₄ ka₄ => ?_
        have hst₄ := keepSt s₃ s₄ hst₃ fun b _ o e => ka₄.keep b o e
        show SG _ _ _ _ _ _ _ _ _ _ _ ((execs [_] env).wrap _ _ _ _) _ _
        refine seg_execs_cons ?_
        refine sg_assign (k := 5) (v := .bool true) (σ' := ⟨fun y => if y = "escape" then some (.bool true) else if y = "ch" then some (.str [92]) else if y = "pos" then some (.int i) else vars y, [], []⟩) G hr ⟨_, rfl⟩ O T (by simp only [xConst, Option.map_some, constAV, eq_self]) (by simp only [setVar, Cx.kind, List.lookup_cons, ofString_beq, String.reduceBEq, eq_self, cxG, hN']) gi₄ fun s₅ gi₅ kp₅ => ?_
        have hst₅ := keepSt s₄ s₅ hst₄ fun b hb o e => kp₅ b o e (hW b hb).2.2.1
        show SG _ _ _ _ _ _ _ _ _ _ _ (.pure (.again (.forLoop g1t (.ref (N + 1)) g1f [] env))) _ _
        exact seg_again rfl (ih (i + 1) true _ _ _ _ done hn hi (by rw [escEnd, if_pos rfl] at hfe; exact hfe) hdr hlr rfl gi₅ hst₅ (by simp) (fun _ => by simp [ofString_inj]))
      · have hm : escI false i (c :: r) = .two (.int i) (.str [c]) :: escI false (i + 1) r := by rw [escI, if_neg hc]
        rw [hm] at hn hi
        rw [List.length_cons] at hn
        subst hn
        rw [escEnd, if_neg hc] at hfe
        have hf0 : (escI false (i + 1) r).length = 0 → fe = false := fun h0 => by
          cases hfe' : fe with
          | false => rfl
          | true => exact absurd h0 (escEnd_pos r false (i + 1) (by rw [← hfe', ← hfe]))
        have hWn := Wf1_full (L := L) (N := N) hf0
        have hWn1 : Wf1 L N fe ((escI false (i + 1) r).length + 1) = [L, N + 1, N] := Wf1_full (by (clear D O T hL hLN hN hco hg hend hT hB hN' G hW hLW ih hd hlen hr I hxc hxi hdr hlr hkd hb gi₂ keepSt hst₂ hfi hsp hgu hi hfe he hpos gi₃ ka₃ hst₃ hc hm hf0 hWn; omega))
        refine sg_test (k := 8) (b := false) hr ⟨_, rfl⟩ O T (by simp only [xConst, xName, tCmp, Option.bind_some, Option.map_some, constAV, getVar, Cx.kind, List.lookup_cons, ofString_beq, String.reduceBEq, reduceIte, ↓reduceIte, cEqS, decide_false, and_true, s92, eq_self, cxG, hN', List.cons.injEq, hc]) gi₃ fun s₄ gi₄ ka₄ => ?_
        have hst₄ := keepSt s₃ s₄ hst₃ fun b _ o e => ka₄.keep b o e
        show SG _ _ _ _ _ _ _ _ _ _ _ ((execs [_] env).wrap _ _ _ _) _ _
        refine seg_execs_cons ?_
        refine sg_yield (V := [L, N + 1, N]) hco hfi hsp rfl hgu G (by rw [hWn1]; exact gi₄) (by rw [hWn]; exact fun _ h => h) (by rw [hWn, hL]; simp) (eval_two (k := 8) (a := .int i) (b := .str [c]) hr ⟨_, rfl⟩ O T (by simp only [textLine, Nat.reduceLeDiff, xName, xTup, lNil, lCons, Option.bind_some, Option.map_some, getVar, Cx.kind, List.lookup_cons, ofString_inj, ofString_beq, String.reduceEq, String.reduceBEq, reduceIte, ↓reduceIte, decide_true, List.nil_append, List.length_nil, List.length_cons, Nat.reduceAdd, Nat.zero_add, eq_self, cxG, hN']) rfl rfl gi₄) (idx_of hi) fun _ s₅ gi₅ ko _ => ?_
        rw [hWn] at gi₅ ko
        have hst₅ := keepSt s₄ s₅ hst₄ fun b hb o e => ko b (List.mem_cons_of_mem _ hb) o e
        show SG _ _ _ _ _ _ _ _ _ _ _ (.pure (.again (.forLoop g1t (.ref (N + 1)) g1f [] env))) _ _
        exact seg_again rfl (ih (i + 1) false _ _ _ _ (done ++ [.two (.int i) (.str [c])]) rfl (by rw [hi]; simp) hfe hdr hlr rfl gi₅ hst₅ (by simp [ofString_inj, he]) (by simp))
end
end Mine

namespace Mine
open PySem PyProof.Rows PySem.Calls
set_option maxRecDepth 20000

set_option linter.unusedVariables false

section
variable {prog : Program} {w : World} {mg mb : Str → Option Value} {A : Around} {h₀ : Heap} {C : Cx} {env : Env} {W V rd ρ : List Addr} {fz : List Nat} {σ σ' : AS} {s₀ s s' : Shared}
variable {items : List It} {fin : Bool} {n : Nat} {Wf : Nat → List Addr} {c : Code} {fs : List Frame} {K : Flow → Sem Fin} {H : Value → Sem Fin} {gd : Bool → Bool} {lv : List Value → List Value} {k : Nat}

/-- a plain thing is stored: nothing new stands -/
theorem sg_const {x : Str} {p pos cp : Pos} {kk : Nat} {cst : Const} {v : AV} (G : GS C env rd ρ fz) (O : EnvOk C env) (hcst : constAV cst = some v) (hv : (∃ i, v = .int i) ∨ (∃ b, v = .bool b) ∨ v = .none) (hk : C.kind x = some .local) (g : GI h₀ C env W V ρ fz σ s₀ s)
    (h : ∀ s', GI h₀ C env W V ρ fz { σ with vars := fun y => if y = x then some v else σ.vars y } s₀ s' → s'.heap.objs.size = s.heap.objs.size → SG prog w A h₀ Wf rd items fin n s₀ c (K .next) fs s') :
    SG prog w A h₀ Wf rd items fin n s₀ c ((exec (.Assign [.Name x p] (.Constant cst kk cp) pos) env).wrap K H gd lv) fs s := by
  obtain ⟨m, hn, hm⟩ := g.rel.loc
  have ev : ∀ Q : Value → Shared → Prop, (∀ U tk, (∀ ρ, VR ρ v U) → Q U { s with toks := tk }) → wpAny (model prog w) (A.over c fs) (eval (.Constant cst kk cp) env) Q (fun _ _ => False) s := fun Q hQ => by
    rcases hv with ⟨i, rfl⟩ | ⟨b, rfl⟩ | rfl
    · cases cst <;> simp [constAV] at hcst
      subst hcst
      exact wpAny_Constant_int (hQ _ _ fun _ => vInt)
    · cases cst <;> simp [constAV] at hcst
      subst hcst
      exact wpAny_Constant_bool (hQ _ s.toks fun _ => vBool)
    · cases cst <;> simp [constAV] at hcst
      exact wpAny_Constant_none (hQ _ s.toks fun _ => vNone)
  refine sg_wrap (wpAny_Assign_Name (ev _ fun U tk hU => wpAny_storeName_local ((O.kindOf x).trans hk) hn (fun h' hn' hs' => ?_) O.fun_kind))
  have R' := g.rel.setLocal hm hk (hU ρ) hn' hs'
  refine h _ (g.ks (s' := { s with heap := h', toks := tk + 1 }) (ρ' := []) (fz' := []) G ⟨fun b o e h1 _ _ => hs'.extBut b o h1 e, rfl, rfl, fun _ _ e => e, fun e => e⟩ (by simp) R' rfl) hs'.1
end

section
variable {prog : Program} {w : World} {mg mb : Str → Option Value} {A : Around} {h₀ : Heap} {env : Env}

theorem esc_func {x : List Nat} {L : Addr} {s : Shared} {σ : AS} (D : Deep 0 A) (O : EnvOk (cxG gen1.2.2.names) env) (T : Tp mg mb h₀) (hL : env.locals = L) (hco : env.scope.isCoroutine = false) (hx : x.all (fun c => decide (c < 128)) = true)
    (R : Rel h₀ (cxG gen1.2.2.names) env [] σ s.heap) (hhp : σ.hp = []) (hfz : σ.fz = []) (ha : σ.vars "addr" = some (.str x)) :
    SG prog w A.in1 h₀ (Wf1 L s.heap.objs.size (escEnd false x)) [] (escI false 0 x) true (escI false 0 x).length s (.func gen1.2.1 env) ((model prog w).den (.func gen1.2.1 env)) [] s := by
  have hB := eqOf' (a := gen1.2.1) (b := [.Assign [.Name _ _] (.Constant _ _ _) _, .Assign [.Name _ _] (.Constant _ _ _) _, .For g1t (.Call (.Name _ _) [.Name _ _] [] _) g1f [] _, .If _ [.Expr (.Yield (some _) _) _] [] _]) rfl
  have hN' := eqOf' (a := gen1.2.2.names) (b := [_, _, _, _, _]) rfl
  have hkd : ∀ y, (cxG gen1.2.2.names).kind y = gen1.2.2.names.lookup y := fun y => rfl
  have G : GS (cxG gen1.2.2.names) env [] [] [] := ⟨g1_noCell, by simp, by simp⟩
  have hr : Room (A.in1.over (.func gen1.2.1 env) []) := room_func D
  have hfi : interactive env = false := by unfold interactive; rw [O.kind]; rfl
  generalize hNs : s.heap.objs.size = N
  have hLlt : L < N := by
    obtain ⟨o, e⟩ := R.liveL
    rw [hL] at e; rw [← hNs]; exact Heap.lt_size e
  have hN0 : ∀ b, N ≤ b → h₀.get? b = none := fun b hb => by
    cases e : h₀.get? b with
    | none => rfl
    | some o => have := R.base b o e; rw [fresh_of_ge (by rw [hNs]; exact hb)] at this; cases this
  have hfull : Wf1 L N (escEnd false x) (escI false 0 x).length = [L, N + 1, N] := Wf1_full fun h0 => by
    cases h : escEnd false x with
    | false => rfl
    | true => exact absurd h0 (escEnd_pos x false 0 h)
  have gi : GI h₀ (cxG gen1.2.2.names) env [L, N + 1, N] [L] [] [] σ s s := ⟨R, hfz, by rw [hL]; simp, Mv.refl, fun b hb => by rw [List.mem_singleton] at hb; subst hb; rw [← hL]; exact R.liveL⟩
  unfold SG
  refine seg_func ?_
  rw [show execs gen1.2.1 env = execs _ env from congrArg (fun b => execs b env) hB]
  refine seg_execs_cons ?_
  refine sg_const (v := .int 0) G O rfl (.inl ⟨_, rfl⟩) (by simp only [Cx.kind, List.lookup_cons, ofString_beq, String.reduceBEq, eq_self, cxG, hN']) gi fun s₁ gi₁ z₁ => ?_
  show SG _ _ _ _ _ _ _ _ _ _ _ ((execs [_, _, _] env).wrap _ _ _ _) _ _
  refine seg_execs_cons ?_
  refine sg_const (v := .bool false) G O rfl (.inr (.inl ⟨_, rfl⟩)) (by simp only [Cx.kind, List.lookup_cons, ofString_beq, String.reduceBEq, eq_self, cxG, hN']) gi₁ fun s₂ gi₂ z₂ => ?_
  show SG _ _ _ _ _ _ _ _ _ _ _ ((execs [_, _] env).wrap _ _ _ _) _ _
  refine seg_execs_cons ?_
  have hsz : s₂.heap.objs.size = N := by rw [z₂, z₁, hNs]
  have Ts : Tp mg mb s₂.heap := T.keeps gi₂.rel.base
  refine sg_For (fun _ => rfl) ?_
  refine Call_Name rfl (ld_bi Ts O (by simp only [Cx.kind, List.lookup_cons, ofString_beq, String.reduceBEq, eq_self, cxG, hN']) (by decide) boot_enum' (by decide) (callWith_type1 (args_cons (wpAny_Name (name_sound (v := .str x) (cxG_ok hr) O T (by simp only [getVar, Cx.kind, List.lookup_cons, ofString_inj, ofString_beq, String.reduceEq, String.reduceBEq, reduceIte, ↓reduceIte, eq_self, cxG, hN', ha]) gi₂.rel fun Vx hVx => args_nil ?_) (by decide)) rfl) rfl rfl))
  obtain ⟨u, rfl⟩ := hVx
  refine call_enumerate_str fun h' he hit hsz' hk => ?_
  refine wpAny_pyIter_enum he ?_
  have hty : strIterType ⟨x.toArray⟩ = "str_ascii_iterator" := by
    unfold strIterType
    rw [if_pos (by simpa using hx)]
  rw [hty] at hit
  rw [hsz] at he hit ⊢
  intro p k' hk'
  have gi₃ := gi₂.ka (KA.heap (s := s₂) s₂.toks hk)
  have gi₄ : GI h₀ (cxG gen1.2.2.names) env [L, N + 1, N] [L, N + 1, N] [] [] { σ with vars := fun y => if y = "escape" then some (.bool false) else if y = "pos" then some (.int 0) else σ.vars y } s { s₂ with heap := h' } := by
    refine ⟨gi₃.rel, gi₃.fz, gi₃.loc, gi₃.mv, fun b hb => ?_⟩
    simp only [List.mem_cons, List.not_mem_nil, or_false] at hb
    rcases hb with rfl | rfl | rfl
    · exact gi₃.live b (by simp)
    · exact ⟨_, he⟩
    · obtain ⟨o, ho, _⟩ := hit; exact ⟨o, ho⟩
  obtain ⟨vars, hp, fz⟩ := σ
  simp only at hhp hfz
  subst hhp hfz
  refine esc_loop (u := u) (fe := escEnd false x) D O T hL hLlt hN0 hco rfl (fun n σ s₀ s done hn hi hhp gi he hpos => ?_) x 0 false _ _ s _ [] rfl rfl rfl rfl (by simp) rfl gi₄ ⟨⟨_, he⟩, hit⟩ (by simp) (by simp)
  obtain ⟨vars', hp', fz'⟩ := σ
  have hfz := gi.fz
  simp only at hhp hfz he hpos
  subst hhp hfz
  rw [hk' .next]
  show SG _ _ _ _ _ _ _ _ _ _ _ ((execs [_] env).wrap _ _ _ _) _ _
  refine seg_execs_cons ?_
  refine sg_test (k := 5) (b := escEnd false x) hr ⟨_, rfl⟩ O T (by simp only [xName, tName, Option.bind_some, Option.map_some, getVar, Cx.kind, List.lookup_cons, ofString_beq, String.reduceBEq, eq_self, cxG, hN', he]) gi fun s₁ gi₁ _ => ?_
  cases hfe : escEnd false x with
  | false =>
    rw [hfe] at hn
    simp only [escI, List.length_nil] at hn
    subst hn
    have hW0 : Wf1 L N false 0 = [L, N + 1, N] := Wf1_full fun _ => rfl
    show SG _ _ _ _ _ _ _ _ _ _ _ (leafOf (.ok (.ret .none))) _ _
    exact seg_end _ ⟨rfl, rfl, rfl, by rw [hW0]; exact gi₁.mv⟩
  | true =>
    rw [hfe] at hn hi hpos
    have hm : escI true x.length [] = .two (.int ((x.length : Int) - 1)) (.str [92]) :: [] := rfl
    rw [hm] at hn hi
    simp only [List.length_cons, List.length_nil, Nat.zero_add] at hn
    subst hn
    have hW0 : Wf1 L N true 0 = [L] := rfl
    have hW1 : Wf1 L N true (0 + 1) = [L, N + 1, N] := rfl
    show SG _ _ _ _ _ _ _ _ _ _ _ ((execs [_] env).wrap _ _ _ _) _ _
    refine seg_execs_cons ?_
    refine sg_yield (n := 0) (V := [L]) hco hfi rfl rfl rfl G (by rw [hW1]; exact gi₁) (by rw [hW0]; exact fun _ h => h) (by rw [hW0, hL]; simp) (eval_two (k := 8) (a := .int ((x.length : Int) - 1)) (b := .str [92]) hr ⟨_, rfl⟩ O T (by simp only [textLine, Nat.reduceLeDiff, xConst, xName, xTup, lNil, lCons, Option.bind_some, Option.map_some, constAV, getVar, Cx.kind, List.lookup_cons, ofString_beq, String.reduceBEq, reduceIte, ↓reduceIte, decide_true, List.nil_append, List.length_nil, List.length_cons, Nat.reduceAdd, Nat.zero_add, s92, eq_self, cxG, hN', hpos rfl]) rfl rfl gi₁) (idx_of hi) fun _ s₂ gi₂ _ _ => ?_
    show SG _ _ _ _ _ _ _ _ _ _ _ (leafOf (.ok (.ret .none))) _ _
    exact seg_end _ ⟨rfl, rfl, rfl, gi₂.mv⟩
end
end Mine

namespace Mine
open PySem PyProof.Rows PySem.Calls
set_option maxRecDepth 20000

set_option linter.unusedVariables false

noncomputable def gen2 : Arguments × List Stmt × Scope := (defs[4]'(by decide +kernel)).2
noncomputable def g2t : Expr := match gen2.2.1.drop 1 with
  | .For t _ _ _ _ :: _ => t
  | _ => .Name "" default
noncomputable def g2f : List Stmt := match gen2.2.1.drop 1 with
  | .For _ _ b _ _ :: _ => b
  | _ => []
noncomputable def g2w : Expr × List Stmt := match g2f.drop 1 with
  | .If _ b _ _ :: _ => (match b.drop 1 with
    | .While t b _ _ :: _ => (t, b)
    | _ => (.Name "" default, []))
  | _ => (.Name "" default, [])

section
variable {prog : Program} {w : World} {mg mb : Str → Option Value} {A : Around} {h₀ : Heap} {env : Env}

theorem room_while {t e : Expr} {it : Value} {wb fb o o' body : List Stmt} {k k' : Result → Sem Fin} {l l' : List Value} {p p' : Pos} {kp kp'} {g g' : Bool} (D : Deep 0 A) :
    Room (A.in1.over (.whileLoop e wb o' env) [.ret k' none g' l' (.forLoop t it fb o env) p' kp', .ret k none g l (.func body env) p kp]) := by
  refine ⟨?_, ?_⟩
  · show markOver none (markOver none A.handled A.handled) A.handled = none
    rw [D.handled]; rfl
  · have := D.units
    show A.units + 1 + (0 + (3 + 0)) + 0 + 100 < cLine
    omega
theorem g2_noCell : ∀ x, (cxG gen2.2.2.names).kind x ≠ some .cell := by
  intro x h
  have hm := mem_lk (show gen2.2.2.names.lookup x = some .cell from h)
  have := List.all_eq_true.mp (show (gen2.2.2.names.all fun p => decide (p.2 ≠ .cell)) = true by decide +kernel) _ hm
  simp at this
noncomputable def lastV : Option Int → AV
  | none => .none
  | some v => .int v

/-- the same thing told on and on -/
theorem grp_while {N L ax : Addr} {ns : List Int} {items : List It} {k k' : Result → Sem Fin} {g g' : Bool} {l l' : List Value} {p p' : Pos} {body : List Stmt} (D : Deep 0 A) (O : EnvOk (cxG gen2.2.2.names) env) (T : Tp mg mb h₀)
    (hL : env.locals = L) (hco : env.scope.isCoroutine = false) (hg : g = false) (hg' : g' = false) {v : Int} :
    ∀ (m : Nat) (σ : AS) (s₀ s : Shared) (done : List It), items = done ++ List.replicate (m + 1) (.one (.int v)) → σ.hp = [.list (ns.map .int)] → GI h₀ (cxG gen2.2.2.names) env [L, N] [L, N] [ax] [0] σ s₀ s → σ.vars "last_interval" = some (.int v) →
      SG prog w A.in1 h₀ (fun _ => [L, N]) [ax] items false (m + 1) s₀ (.whileLoop g2w.1 g2w.2 [] env) ((model prog w).den (.whileLoop g2w.1 g2w.2 [] env)) [.ret k' none g' l' (.forLoop g2t (.ref N) g2f [] env) p' [], .ret k none g l (.func body env) p []] s := by
  have hT := eqOf' (a := g2w.1) (b := .Constant (.bool true) _ _) rfl
  have hB := eqOf' (a := g2w.2) (b := [.Expr (.Yield (some _) _) _]) rfl
  have hN' := eqOf' (a := gen2.2.2.names) (b := [_, _, _, _, _]) rfl
  have hkd : ∀ y, (cxG gen2.2.2.names).kind y = gen2.2.2.names.lookup y := fun y => rfl
  have G : GS (cxG gen2.2.2.names) env [ax] [ax] [0] := ⟨g2_noCell, by simp, by simp⟩
  have hfi : interactive env = false := by unfold interactive; rw [O.kind]; rfl
  intro m
  induction m with
  | zero =>
    intro σ s₀ s done hi hhp gi hl
    have hr : Room (A.in1.over (.whileLoop g2w.1 g2w.2 [] env) [.ret k' none g' l' (.forLoop g2t (.ref N) g2f [] env) p' [], .ret k none g l (.func body env) p []]) := room_while D
    have hgu : [Frame.ret k' none g' l' (.forLoop g2t (.ref N) g2f [] env) p' [], .ret k none g l (.func body env) p []].any Frame.guarded = false := by
      show (g' || (g || false)) = false
      rw [hg, hg']; rfl
    unfold SG
    refine seg_whileLoop ?_
    rw [show isTrue g2w.1 env (eval g2w.1 env) = isTrue (.Constant (.bool true) _ _) env (eval (.Constant (.bool true) _ _) env) from congrArg (fun e => isTrue e env (eval e env)) hT]
    refine wpAny_isTrue_value (wpAny_Constant_bool (wpAny_truthy_bool ?_))
    rw [if_pos rfl]
    rw [show execs g2w.2 env = execs _ env from congrArg (fun b => execs b env) hB]
    refine seg_execs_cons ?_
    have hfz := gi.fz
    obtain ⟨vars, hp, fz⟩ := σ
    simp only at hhp hfz hl
    subst hhp hfz
    refine sg_yield (n := 0) (V := [L, N]) hco hfi rfl rfl hgu G gi (fun _ h => h) (by rw [hL]; simp) (eval_one (k := 8) (v := .int v) hr ⟨_, rfl⟩ O T (by simp only [xName, Option.map_some, getVar, Cx.kind, List.lookup_cons, ofString_beq, String.reduceBEq, eq_self, cxG, hN', hl]) rfl gi) (idx_of (r := []) hi) fun hn _ _ _ _ => ?_
    rcases hn with h | h
    · cases h
    · exact absurd rfl h
  | succ m ih =>
    intro σ s₀ s done hi hhp gi hl
    have hr : Room (A.in1.over (.whileLoop g2w.1 g2w.2 [] env) [.ret k' none g' l' (.forLoop g2t (.ref N) g2f [] env) p' [], .ret k none g l (.func body env) p []]) := room_while D
    have hgu : [Frame.ret k' none g' l' (.forLoop g2t (.ref N) g2f [] env) p' [], .ret k none g l (.func body env) p []].any Frame.guarded = false := by
      show (g' || (g || false)) = false
      rw [hg, hg']; rfl
    unfold SG
    refine seg_whileLoop ?_
    rw [show isTrue g2w.1 env (eval g2w.1 env) = isTrue (.Constant (.bool true) _ _) env (eval (.Constant (.bool true) _ _) env) from congrArg (fun e => isTrue e env (eval e env)) hT]
    refine wpAny_isTrue_value (wpAny_Constant_bool (wpAny_truthy_bool ?_))
    rw [if_pos rfl]
    rw [show execs g2w.2 env = execs _ env from congrArg (fun b => execs b env) hB]
    refine seg_execs_cons ?_
    have hfz := gi.fz
    obtain ⟨vars, hp, fz⟩ := σ
    simp only at hhp hfz hl
    subst hhp hfz
    refine sg_yield (n := m + 1) (V := [L, N]) hco hfi rfl rfl hgu G gi (fun _ h => h) (by rw [hL]; simp) (eval_one (k := 8) (v := .int v) hr ⟨_, rfl⟩ O T (by simp only [xName, Option.map_some, getVar, Cx.kind, List.lookup_cons, ofString_beq, String.reduceBEq, eq_self, cxG, hN', hl]) rfl gi) (by have := idx_of (r := List.replicate (m + 1) (.one (.int v))) hi; rw [List.length_replicate] at this; exact this) fun _ s₂ gi₂ _ _ => ?_
    show SG _ _ _ _ _ _ _ _ _ _ _ (.pure (.again (.whileLoop g2w.1 g2w.2 [] env))) _ _
    exact seg_again rfl (ih _ _ _ (done ++ [.one (.int v)]) (by rw [hi, List.replicate_succ]; simp) rfl gi₂ hl)

theorem list_itr {A : Around} {B : Heap → Prop} (hr : Room A) {N ax : Addr} (hne : ax ≠ N) {its : Array Value} {xs : List AV} (hx : Paired (VR [ax]) xs its.toList) {x : Str} {p : Pos} :
    Itr prog w A B (.Name x p) N none [ax] [ax] (xs.map .one) true (fun i W s => W = [N] ∧ (s.heap.IsListIter N ax i ∧ s.heap.IsList ax its)) := by
  refine Itr.ofWalks (rd := [ax]) (Walks.list hr.handled N ax hne its) (by simp [paired_len hx]) (fun b hb => ?_) ?_ ?_
  · simp at hb ⊢; exact hb
  · intro i y V h hi hV
    rw [List.getElem?_map] at hi
    obtain ⟨v, h1, rfl⟩ := Option.map_eq_some_iff.mp hi
    obtain ⟨V', h2, h3⟩ := Paired.get hx h1
    have : its[i]? = some V' := by simpa using h2
    rw [hV] at this; cases this
    exact h3
  · intro i h hs b hb
    rw [List.mem_singleton] at hb; subst hb
    obtain ⟨o, ho, _⟩ := hs.1
    exact ⟨o, ho⟩

theorem grp_loop {N L ax : Addr} {ns : List Int} {its : Array Value} {items : List It} {fin : Bool} {k : Result → Sem Fin} {g : Bool} {l : List Value} {p : Pos} {body : List Stmt} (D : Deep 0 A) (O : EnvOk (cxG gen2.2.2.names) env) (T : Tp mg mb h₀)
    (hL : env.locals = L) (hLN : L < N) (hN : ∀ b, N ≤ b → h₀.get? b = none) (hax : ax ≠ N) (hx : Paired (VR [ax]) (ns.map .int) its.toList) (hco : env.scope.isCoroutine = false) (hg : g = false)
    (hend : fin = true → ∀ (f : Flow) (s₀ s : Shared) (σ : AS), (f = .next ∨ f = .ret .none) → GI h₀ (cxG gen2.2.2.names) env [L, N] [L] [ax] [0] σ s₀ s → SG prog w A.in1 h₀ (fun _ => [L, N]) [ax] items fin 0 s₀ (.func body env) (k (.ok f)) [] s) :
    ∀ (rest : List Int) (i : Nat) (last : Option Int) (its' : List It) (σ : AS) (s₀ s : Shared) (done : List It), grpI last rest = some (its', fin) → items = done ++ its' → ns.drop i = rest → i + rest.length = ns.length → σ.hp = [.list (ns.map .int)] →
      GI h₀ (cxG gen2.2.2.names) env [L, N] [L, N] [ax] [0] σ s₀ s → (s.heap.IsListIter N ax i ∧ s.heap.IsList ax its) → σ.vars "last_interval" = some (lastV last) →
      SG prog w A.in1 h₀ (fun _ => [L, N]) [ax] items fin its'.length s₀ (.forLoop g2t (.ref N) g2f [] env) ((model prog w).den (.forLoop g2t (.ref N) g2f [] env)) [.ret k none g l (.func body env) p []] s := by
  have hT := eqOf' (a := g2t) (b := .Name _ _) rfl
  have hB := eqOf' (a := g2f) (b := [.If _ [.Return none _] [] _, .If _ [.If _ _ [] _, .While g2w.1 g2w.2 [] _] [] _, .Expr (.Yield (some _) _) _, .Assign [.Name _ _] _ _]) rfl
  have hN' := eqOf' (a := gen2.2.2.names) (b := [_, _, _, _, _]) rfl
  have hkd : ∀ y, (cxG gen2.2.2.names).kind y = gen2.2.2.names.lookup y := fun y => rfl
  have G : GS (cxG gen2.2.2.names) env [ax] [ax] [0] := ⟨g2_noCell, by simp, by simp⟩
  have hfi : interactive env = false := by unfold interactive; rw [O.kind]; rfl
  have hW : ∀ b ∈ [N], b ∈ [L, N] ∧ h₀.get? b = none ∧ b ≠ env.locals ∧ b ∉ [ax] := by
    intro b hb
    rw [List.mem_singleton] at hb; subst hb
    exact ⟨by simp, hN _ (Nat.le_refl _), by rw [hL]; exact Nat.ne_of_gt hLN, by simp; exact fun h => hax h.symm⟩
  have hr : Room (A.in1.over (.forLoop g2t (.ref N) g2f [] env) [.ret k none g l (.func body env) p []]) := room_for D
  have I : ∀ A₂, Room A₂ → Itr prog w A₂ (fun _ => True) g2t N none [ax] [ax] ((ns.map AV.int).map .one) true (fun i W s => W = [N] ∧ (s.heap.IsListIter N ax i ∧ s.heap.IsList ax its)) := fun A₂ h₂ => by
    rw [hT]; exact list_itr h₂ hax hx
  have I := I _ hr
  have hsp : splitAtGen [Frame.ret k none g l (.func body env) p []] = none := rfl
  have hgu : [Frame.ret k none g l (.func body env) p []].any Frame.guarded = false := by
    show (g || false) = false
    rw [hg]; rfl
  intro rest
  induction rest with
  | nil =>
    intro i last its' σ s₀ s done hgr hi hd hlen hhp gi hst hl
    rw [grpI] at hgr
    cases hgr
    have hil : i = ns.length := by simpa using hlen
    subst hil
    unfold SG
    refine sg_forLoop ?_
    refine I.done rfl [N] s _ _ (by simpa using hst) trivial fun s' mv => ?_
    have gi' := gi.moved (V' := [L]) hW G mv (fun b hb => .inl (by simp at hb; simp [hb])) (fun b hb h => by
      simp at hb; subst hb
      exact absurd hL.symm ((hW _ h).2.2.1))
    exact hend rfl .next s₀ s' σ (.inl rfl) gi'
  | cons v r ih =>
    intro i last its' σ s₀ s done hgr hi hd hlen hhp gi hst hl
    unfold SG
    refine sg_forLoop ?_
    have hxc : ns[i]? = some v := by
      have h0 : (ns.drop i)[0]? = some v := by rw [hd]; rfl
      rw [List.getElem?_drop, Nat.add_zero] at h0
      exact h0
    have hxi : ((ns.map AV.int).map It.one)[i]? = some (.one (.int v)) := by rw [List.getElem?_map, List.getElem?_map, hxc]; rfl
    have hdr : ns.drop (i + 1) = r := by rw [← List.drop_drop, hd]; rfl
    have hlr : i + 1 + r.length = ns.length := by simp only [List.length_cons] at hlen; omega
    have hfz := gi.fz
    obtain ⟨vars, hp, fz⟩ := σ
    simp only at hhp hfz hl
    subst hhp hfz
    have hb : bindT (cxG gen2.2.2.names) g2t (.one (.int v)) ⟨vars, [.list (ns.map .int)], [0]⟩ = some ⟨fun y => if y = "interval" then some (.int v) else vars y, [.list (ns.map .int)], [0]⟩ := by
      rw [hT]; simp only [setVar, Cx.kind, List.lookup_cons, ofString_beq, String.reduceBEq, bt1, eq_self, cxG, hN']
    refine wpAny_mono (I.next i [N] (.one (.int v)) s _ _ hxi ⟨rfl, hst⟩ trivial (fun V s₁ W' hV hst' mv _ => ?_)) (fun q s₁ hq => by cases q with | none => exact hq.elim | some v => exact hq) fun _ _ e => e
    obtain ⟨rfl, hst'⟩ := hst'
    have gi₁ := gi.moved (V' := [L, N]) hW G mv (fun b hb => .inl hb) (fun b _ h => I.live (i + 1) [N] s₁ ⟨rfl, hst'⟩ b h)
    refine bind_sound hr O hb hV gi₁.rel fun s₂ R₂ k₂ H' => ?_
    have gi₂ := gi₁.ks G k₂ (by simp) R₂ rfl
    have keepSt : ∀ (s s' : Shared), (s.heap.IsListIter N ax (i + 1) ∧ s.heap.IsList ax its) → (∀ b, b = N ∨ b = ax → ∀ o, s.heap.get? b = some o → s'.heap.get? b = some o) → (s'.heap.IsListIter N ax (i + 1) ∧ s'.heap.IsList ax its) := fun s s' h hk =>
      (I.frame (i + 1) [N] s s' ⟨rfl, h⟩ (fun b hb => hk b (.inl (by simpa using hb))) (fun b hb => hk b (.inr (by simpa using hb))) (by simp)).2
    have hneL : ∀ b, b = N ∨ b = ax → b ≠ env.locals := fun b hb => by
      rcases hb with rfl | rfl
      · exact (hW _ (by simp)).2.2.1
      · rintro rfl
        exact gi.rel.locρ (by simp)
    have hst₂ := keepSt s₁ s₂ hst' fun b hb o e => k₂.keep b o e (hneL b hb) (fun y hy => absurd hy (g2_noCell y)) (by simp)
    clear hst hst' gi gi₁ mv R₂ hV k₂
    rw [show execs g2f env = execs _ env from congrArg (fun b => execs b env) hB]
    refine seg_execs_cons ?_
    rw [grpI] at hgr
    by_cases h127 : v = 127
    · subst h127
      rw [if_pos rfl] at hgr
      cases hgr
      refine sg_test (k := 8) (b := true) hr ⟨_, rfl⟩ O T (by simp only [xName, tCmp, Option.bind_some, Option.map_some, getVar, Cx.kind, globSpec, List.lookup_cons, ofString_beq, String.reduceBEq, reduceIte, ↓reduceIte, cEqI, decide_true, eq_self, cxG, hN']) gi₂ fun s₃ gi₃ ka₃ => ?_
      show SG _ _ _ _ _ _ _ _ _ _ _ ((execs [_] env).wrap _ _ _ _) _ _
      refine seg_execs_cons ?_
      refine sg_wrap (wpAny_Return_none ?_)
      show SG _ _ _ _ _ _ _ _ _ _ _ (leafOf (.ok (.ret .none))) _ _
      exact seg_leaf _ (hend rfl (.ret .none) s₀ s₃ _ (.inr rfl) ⟨gi₃.rel, gi₃.fz, gi₃.loc, gi₃.mv, fun b hb => gi₃.live b (by simp at hb; simp [hb])⟩)
    · rw [if_neg h127] at hgr
      refine sg_test (k := 8) (b := false) hr ⟨_, rfl⟩ O T (by simp only [xName, tCmp, Option.bind_some, Option.map_some, getVar, Cx.kind, globSpec, List.lookup_cons, ofString_beq, String.reduceBEq, reduceIte, ↓reduceIte, cEqI, decide_false, eq_self, cxG, hN', h127]) gi₂ fun s₃ gi₃ ka₃ => ?_
      have hst₃ := keepSt s₂ s₃ hst₂ fun b _ o e => ka₃.keep b o e
      show SG _ _ _ _ _ _ _ _ _ _ _ ((execs [_, _, _] env).wrap _ _ _ _) _ _
      refine seg_execs_cons ?_
      by_cases h0 : v = 0
      · subst h0
        rw [if_pos rfl] at hgr
        obtain ⟨l0, rfl, hgr⟩ := Option.map_eq_some_iff.mp hgr
        cases hgr
        refine sg_test (k := 8) (b := true) hr ⟨_, rfl⟩ O T (by simp only [xConst, xName, tCmp, Option.bind_some, Option.map_some, constAV, getVar, Cx.kind, List.lookup_cons, ofString_beq, String.reduceBEq, reduceIte, ↓reduceIte, cEqI, decide_true, eq_self, cxG, hN']) gi₃ fun s₄ gi₄ ka₄ => ?_
        show SG _ _ _ _ _ _ _ _ _ _ _ ((execs [_, _] env).wrap _ _ _ _) _ _
        refine seg_execs_cons ?_
        refine sg_test (k := 8) (b := false) hr ⟨_, rfl⟩ O T (by simp only [xConst, xName, tCmp, Option.bind_some, Option.map_some, constAV, getVar, Cx.kind, List.lookup_cons, ofString_inj, ofString_beq, String.reduceEq, String.reduceBEq, reduceIte, ↓reduceIte, cIsIN, eq_self, cxG, hN', hl, lastV]) gi₄ fun s₅ gi₅ ka₅ => ?_
        show SG _ _ _ _ _ _ _ _ _ _ _ ((execs [_] env).wrap _ _ _ _) _ _
        refine seg_execs_cons ?_
        refine seg_While fun p' => ?_
        exact grp_while (ns := ns) (v := l0) D O T hL hco hg rfl 11 _ s₀ s₅ done hi rfl gi₅ (by simp [ofString_inj, hl, lastV])
      · rw [if_neg h0] at hgr
        obtain ⟨⟨its₂, fin₂⟩, hgr₂, hgr⟩ := Option.map_eq_some_iff.mp hgr
        cases hgr
        refine sg_test (k := 8) (b := false) hr ⟨_, rfl⟩ O T (by simp only [xConst, xName, tCmp, Option.bind_some, Option.map_some, constAV, getVar, Cx.kind, List.lookup_cons, ofString_beq, String.reduceBEq, reduceIte, ↓reduceIte, cEqI, decide_false, eq_self, cxG, hN', h0]) gi₃ fun s₄ gi₄ ka₄ => ?_
        have hst₄ := keepSt s₃ s₄ hst₃ fun b _ o e => ka₄.keep b o e
        show SG _ _ _ _ _ _ _ _ _ _ _ ((execs [_, _] env).wrap _ _ _ _) _ _
        refine seg_execs_cons ?_
        rw [List.length_cons]
        refine sg_yield (V := [L, N]) hco hfi hsp rfl hgu G gi₄ (fun _ h => h) (by rw [hL]; simp) (eval_one (k := 8) (v := .int v) hr ⟨_, rfl⟩ O T (by simp only [xName, Option.map_some, getVar, Cx.kind, List.lookup_cons, ofString_beq, String.reduceBEq, reduceIte, ↓reduceIte, eq_self, cxG, hN']) rfl gi₄) (idx_of hi) fun _ s₅ gi₅ ko kr => ?_
        have hst₅ := keepSt s₄ s₅ hst₄ fun b hb o e => by
          rcases hb with rfl | rfl
          · exact ko _ (by simp) o e
          · exact kr _ (by simp) o e
        show SG _ _ _ _ _ _ _ _ _ _ _ ((execs [_] env).wrap _ _ _ _) _ _
        refine seg_execs_cons ?_
        refine sg_assign (k := 5) (v := .int v) (σ' := ⟨fun y => if y = "last_interval" then some (.int v) else if y = "interval" then some (.int v) else vars y, [.list (ns.map .int)], [0]⟩) G hr ⟨_, rfl⟩ O T (by simp only [xName, Option.map_some, getVar, Cx.kind, List.lookup_cons, ofString_beq, String.reduceBEq, reduceIte, ↓reduceIte, eq_self, cxG, hN']) (by simp only [setVar, Cx.kind, List.lookup_cons, ofString_beq, String.reduceBEq, eq_self, cxG, hN']) gi₅ fun s₆ gi₆ kp₆ => ?_
        have hst₆ := keepSt s₅ s₆ hst₅ fun b hb o e => kp₆ b o e (hneL b hb)
        show SG _ _ _ _ _ _ _ _ _ _ _ (.pure (.again (.forLoop g2t (.ref N) g2f [] env))) _ _
        exact seg_again rfl (ih (i + 1) (some v) its₂ _ _ _ (done ++ [.one (.int v)]) hgr₂ (by rw [hi]; simp) hdr hlr rfl gi₆ hst₆ (by simp [lastV]))
end

section
variable {prog : Program} {w : World} {mg mb : Str → Option Value} {A : Around} {h₀ : Heap} {env : Env}

theorem grp_func {ns : List Int} {L b : Addr} {s : Shared} {σ : AS} {items : List It} {fin : Bool} (D : Deep 0 A) (O : EnvOk (cxG gen2.2.2.names) env) (T : Tp mg mb h₀) (hL : env.locals = L) (hco : env.scope.isCoroutine = false)
    (R : Rel h₀ (cxG gen2.2.2.names) env [b] σ s.heap) (hhp : σ.hp = [.list (ns.map .int)]) (hfz : σ.fz = [0]) (ha : σ.vars "grouping" = some (.ref 0)) (hgr : grpI none ns = some (items, fin)) :
    SG prog w A.in1 h₀ (fun _ => [L, s.heap.objs.size]) [b] items fin items.length s (.func gen2.2.1 env) ((model prog w).den (.func gen2.2.1 env)) [] s := by
  have hB := eqOf' (a := gen2.2.1) (b := [.Assign [.Name _ _] (.Constant _ _ _) _, .For g2t (.Name _ _) g2f [] _]) rfl
  have hN' := eqOf' (a := gen2.2.2.names) (b := [_, _, _, _, _]) rfl
  have hkd : ∀ y, (cxG gen2.2.2.names).kind y = gen2.2.2.names.lookup y := fun y => rfl
  have G : GS (cxG gen2.2.2.names) env [b] [b] [0] := ⟨g2_noCell, by simp, by simp⟩
  have hr : Room (A.in1.over (.func gen2.2.1 env) []) := room_func D
  generalize hNs : s.heap.objs.size = N
  have hLlt : L < N := by
    obtain ⟨o, e⟩ := R.liveL
    rw [hL] at e; rw [← hNs]; exact Heap.lt_size e
  have hN0 : ∀ b, N ≤ b → h₀.get? b = none := fun b hb => by
    cases e : h₀.get? b with
    | none => rfl
    | some o => have := R.base b o e; rw [fresh_of_ge (by rw [hNs]; exact hb)] at this; cases this
  have hbN : b ≠ N := by
    obtain ⟨o, e⟩ := R.live (a := b) (by simp)
    rw [← hNs]; exact Nat.ne_of_lt (Heap.lt_size e)
  obtain ⟨vars, hp, fz⟩ := σ
  simp only at hhp hfz ha
  subst hhp hfz
  have gi : GI h₀ (cxG gen2.2.2.names) env [L, N] [L] [b] [0] ⟨vars, [.list (ns.map .int)], [0]⟩ s s := ⟨R, rfl, by rw [hL]; simp, Mv.refl, fun b hb => by rw [List.mem_singleton] at hb; subst hb; rw [← hL]; exact R.liveL⟩
  unfold SG
  refine seg_func ?_
  rw [show execs gen2.2.1 env = execs _ env from congrArg (fun b => execs b env) hB]
  refine seg_execs_cons ?_
  refine sg_const (v := .none) G O rfl (.inr (.inr rfl)) (by simp only [Cx.kind, List.lookup_cons, ofString_beq, String.reduceBEq, eq_self, cxG, hN']) gi fun s₁ gi₁ z₁ => ?_
  show SG _ _ _ _ _ _ _ _ _ _ _ ((execs [_] env).wrap _ _ _ _) _ _
  refine seg_execs_cons ?_
  have hsz : s₁.heap.objs.size = N := by rw [z₁, hNs]
  refine sg_For (fun _ => rfl) ?_
  refine wpAny_Name (name_sound (v := .ref 0) (cxG_ok hr) O T (by simp only [getVar, Cx.kind, List.lookup_cons, ofString_inj, ofString_beq, String.reduceEq, String.reduceBEq, reduceIte, ↓reduceIte, eq_self, cxG, hN', ha]) gi₁.rel fun Vx hVx => ?_) (by decide)
  obtain ⟨b', its, rfl, hb', hl, hx⟩ := list_at (σ := ⟨fun y => if y = "last_interval" then some .none else vars y, [.list (ns.map .int)], [0]⟩) gi₁.rel (n := 0) rfl hVx
  simp at hb'
  subst hb'
  refine wpAny_pyIter_list hl.isList ?_
  rw [hsz]
  intro p k' hk'
  have hk : ∀ c o, s₁.heap.get? c = some o → (s₁.heap.push { cls := .type "list_iterator", data := .fields #[.ref b, .int 0 0] }).get? c = some o := fun c o e => Heap.get?_push_of_some _ e
  have hit : (s₁.heap.push { cls := .type "list_iterator", data := .fields #[.ref b, .int 0 0] }).get? N = some { cls := .type "list_iterator", data := .fields #[.ref b, .int 0 0] } := by
    rw [← hsz]; exact Heap.get?_push_size _ rfl
  have gi₂ := gi₁.ka (KA.heap (s := s₁) s₁.toks hk)
  have gi₃ : GI h₀ (cxG gen2.2.2.names) env [L, N] [L, N] [b] [0] ⟨fun y => if y = "last_interval" then some .none else vars y, [.list (ns.map .int)], [0]⟩ s { s₁ with heap := s₁.heap.push { cls := .type "list_iterator", data := .fields #[.ref b, .int 0 0] } } := by
    refine ⟨gi₂.rel, gi₂.fz, gi₂.loc, gi₂.mv, fun c hc => ?_⟩
    simp only [List.mem_cons, List.not_mem_nil, or_false] at hc
    rcases hc with rfl | rfl
    · exact gi₂.live c (by simp)
    · exact ⟨_, hit⟩
  refine grp_loop (its := its) D O T hL hLlt hN0 hbN hx hco rfl (fun hfin f s₀ s' σ hf gi' => ?_) ns 0 none items _ s _ [] hgr rfl rfl (by simp) rfl gi₃ ⟨⟨_, hit, rfl, rfl⟩, hl.isList.push _⟩ (by simp [lastV])
  subst hfin
  rw [hk' f]
  have key : SG prog w A.in1 h₀ (fun _ => [L, N]) [b] items true 0 s₀ (.func gen2.2.1 env) (leafOf (.ok (.ret .none))) [] s' := seg_end _ ⟨rfl, rfl, rfl, gi'.mv⟩
  rcases hf with rfl | rfl
  · exact key
  · exact key

/-! ## a generator, made -/
theorem gen_at {f : Str} {d : Arguments × List Stmt × Scope} {ds : List DA} {items : List It × Bool} {σ : AS} (hd : defs.lookup f = some d) (hgen : isGen f = true) (hlay : layArgs d.1.args ds as0 = some σ) (D : Deep 0 A) (hnc : ∀ x, (cxG d.2.2.names).kind x ≠ some .cell)
    (hgo : ∀ (h₀ : Heap) (env : Env) (ρ : List Addr) (L : Addr) (s : Shared), EnvOk (cxG d.2.2.names) env → Tp mg mb h₀ → env.locals = L → env.scope.isCoroutine = false → Rel h₀ (cxG d.2.2.names) env ρ σ s.heap →
      ∃ Wf : Nat → List Addr, (∀ b ∈ Wf items.1.length, b = L ∨ s.heap.objs.size ≤ b) ∧ (∀ n, ∀ b ∈ Wf n, b ∈ Wf (n + 1)) ∧ SG prog w A.in1 h₀ Wf ρ items.1 items.2 items.1.length s (.func d.2.1 env) ((model prog w).den (.func d.2.1 env)) [] s) :
    GenAt prog w mg mb A f ds items := by
  intro h₀ t ρ₀ s Vs a E ht T hsub hf hD
  have F := def_fit hd
  have Ts := T.keeps hsub
  obtain ⟨a', o, pm, cd, doc, hg, ho, hdat, hcr⟩ := Ts.fn f d hd
  rw [hf] at hg; cases hg
  obtain ⟨ρ, L, hlen, hρV⟩ := lay_all (kd := fun x => d.2.2.names.lookup x) hlay hD as0_lay
  refine wpAny_call (codeAny_call_generator (fd := docDef f d.1 d.2.1 d.2.2 pm cd doc) (by have := D.depth; (clear hd hgen hlay D hnc hgo ht T hsub hf hD F Ts hdat hcr ho L hlen hρV; omega)) ho hdat F.co (by rw [show (docDef f d.1 d.2.1 d.2.2 pm cd doc).scope = d.2.2 from rfl, F.gen]; exact hgen) rfl hcr ?_)
  rw [bind_plain F.plain hlen rfl]
  refine wpAny_pure (wpAny_newFunctionEnv_cells F.kind (fun x hx => ?_) fun env he s₁ X => ?_)
  · have hx1 : x.1 ∈ d.1.args.map (·.arg) := (List.of_mem_zip (a := x.1) (b := x.2) hx).1
    obtain ⟨a1, h1, h2⟩ := List.mem_map.mp hx1
    rw [← h2]
    rcases F.args a1 h1 with h | h
    · exact .inl h
    · exact .inr ⟨h, Option.isSome_iff_exists.mpr (cells_lk _ _ _ (.inl h))⟩
  · subst he
    obtain ⟨h₁, tk, rfl, keep⟩ := X.done
    have hL0 : s.heap.get? s.heap.objs.size = none := fresh_size _
    have live : ∀ b ∈ ρ, ∃ ob, s.heap.get? b = some ob := fun b hb => by
      obtain ⟨n, hn, e⟩ := List.getElem_of_mem hb
      exact (L.obj n _ b (List.getElem?_eq_getElem (L.len ▸ hn)) (List.getElem?_eq_some_iff.mpr ⟨hn, e⟩)).live
    have nc : ∀ {x : Str} {P : Prop}, (cxG d.2.2.names).kind x = some .cell → P := fun {x P} h => absurd h (hnc x)
    generalize henv : newEnv (docDef f d.1 d.2.1 d.2.2 pm cd doc).scope s.heap.objs.size (docDef f d.1 d.2.1 d.2.2 pm cd doc).globals (cellsFrom (s.heap.objs.size + 1) (docDef f d.1 d.2.1 d.2.2 pm cd doc).scope.names []) ((docDef f d.1 d.2.1 d.2.2 pm cd doc).qualname ++ Str.ofString ".<locals>.") (some a) (docDef f d.1 d.2.1 d.2.2 pm cd doc).code none (docDef f d.1 d.2.1 d.2.2 pm cd doc).builtins = env at X
    have eL : env.locals = s.heap.objs.size := by rw [← henv]; rfl
    have O : EnvOk (cxG d.2.2.names) env := by
      rw [← henv]
      exact ⟨F.kind, rfl, rfl, rfl, fun x hx => nc hx, F.dbg⟩
    have hco : env.scope.isCoroutine = false := by rw [← henv]; exact F.co
    have R₁ : Rel h₀ (cxG d.2.2.names) env ρ σ h₁ :=
      { base := fun b o e => keep b o (hsub b o e)
        loc := ⟨_, X.toInCall.ns, fun x v h1 h2 => by
          obtain ⟨V, e, r⟩ := L.loc x v h1 h2
          refine ⟨V, ?_, r⟩
          rw [← henv]; exact e⟩
        cel := fun x c hx => nc hx
        len := L.len
        obj := fun n o a e1 e2 => (L.obj n o a e1 e2).at fun ob e => keep _ _ e
        nodup := L.nodup
        locN := by
          rw [eL]
          cases e : h₀.get? s.heap.objs.size with
          | none => rfl
          | some o => rw [hsub _ _ e] at hL0; cases hL0
        locρ := fun hm => by
          obtain ⟨ob, e⟩ := live _ hm
          rw [eL, hL0] at e; cases e
        celN := fun x c hx => nc hx
        celI := fun x y c hx => nc hx
        objN := fun n b e hn => absurd (L.fz n (get_lt e)) hn }
    refine ⟨Ts.nolimit.keeps keep, ?_⟩
    have hG : (h₁.push { cls := .type "generator", data := .fields #[.int s.gens.size 0, .str (docDef f d.1 d.2.1 d.2.2 pm cd doc).name tk, .str (docDef f d.1 d.2.1 d.2.2 pm cd doc).qualname (tk + 1)] }).IsGen h₁.objs.size s.gens.size :=
      ⟨_, _, _, Heap.get?_push_size _ rfl, rfl, rfl, rfl⟩
    have kpush : ∀ b o, h₁.get? b = some o → (h₁.push { cls := .type "generator", data := .fields #[.int s.gens.size 0, .str (docDef f d.1 d.2.1 d.2.2 pm cd doc).name tk, .str (docDef f d.1 d.2.1 d.2.2 pm cd doc).qualname (tk + 1)] }).get? b = some o := fun b o e => Heap.get?_push_of_some _ e
    have R₂ := R₁.keeps kpush
    have hLlt : s.heap.objs.size < h₁.objs.size := by
      obtain ⟨o, e⟩ := R₁.liveL
      rw [eL] at e; exact Heap.lt_size e
    refine wpAny_pyIter_gen hG ⟨h₁.objs.size, s.gens.size, ρ, gSt prog w A h₀ ρ h₁.objs.size s.gens.size items.1 items.2, [h₁.objs.size, s.heap.objs.size], rfl, ?_, gen_itr D.handled (by have := D.depth; (clear hd hgen hlay D hnc hgo ht T hsub hf hD F Ts hdat hcr ho L hlen hρV keep hL0 live nc henv X eL O hco R₁ hG kpush R₂ hLlt; omega)) T ⟨_, ht⟩, ?_, ?_, ?_, ?_⟩
    · exact ⟨fun b o e => kpush b o (keep b o e), rfl, rfl, fun i x e => by
        show (s.gens.push _)[i]? = some x
        rw [Array.getElem?_push_lt (Array.getElem?_eq_some_iff.mp e).1]
        rw [Array.getElem?_eq_some_iff] at e
        exact congrArg some e.2, fun e => AllBare.push e rfl⟩
    · refine ⟨[s.heap.objs.size], rfl, hG, fun b hb => ?_, fun b hb => ?_, .fresh (.func d.2.1 env), ?_, fun hn s'' hG'' k => ?_⟩
      · rw [List.mem_singleton] at hb; subst hb
        obtain ⟨o, e⟩ := R₂.liveL
        rw [eL] at e; exact ⟨o, e⟩
      · obtain ⟨o, e⟩ := live b hb
        exact ⟨o, kpush b o (keep b o e)⟩
      · show (s.gens.push _)[s.gens.size]? = _
        simp
      · have R'' : Rel h₀ (cxG d.2.2.names) env ρ σ s''.heap := R₂.frame k.base (fun o e => k.own _ (by rw [eL]; simp) o e) (fun x c hx => nc hx) fun a ha o e => k.rd a ha o e
        obtain ⟨Wf, w1, w2, hsg⟩ := hgo h₀ env ρ s.heap.objs.size s'' O T eL hco R''
        have hI : h₁.objs.size < s''.heap.objs.size := by
          obtain ⟨o, _, _, e, _⟩ := hG''
          exact Heap.lt_size e
        refine ⟨Wf, fun b hb => ?_, w2, fun hm => ?_, fun b hb hm => ?_, ?_⟩
        · rw [Nat.sub_zero] at hb
          exact (w1 b hb).imp (fun h => by rw [h]; simp) id
        · rw [Nat.sub_zero] at hm
          rcases w1 _ hm with h | h
          · exact absurd h (Nat.ne_of_gt hLlt)
          · exact absurd hI (Nat.not_lt.mpr h)
        · rw [Nat.sub_zero] at hm
          obtain ⟨o, e⟩ := live b hb
          rcases w1 _ hm with h | h
          · rw [h, hL0] at e; cases e
          · have := Heap.lt_size (k.rd b hb o (kpush b o (keep b o e)))
            exact absurd this (Nat.not_lt.mpr h)
        · rw [Nat.sub_zero]
          exact ⟨rfl, hsg⟩
    · intro b hb
      simp only [List.mem_cons, List.not_mem_nil, or_false] at hb
      rcases hb with rfl | rfl
      · cases e : s.heap.get? h₁.objs.size with
        | none => rfl
        | some o => exact absurd (Heap.lt_size (keep _ _ e)) (Nat.lt_irrefl _)
      · exact hL0
    · simp
    · intro b hb
      rcases hρV b hb with h | h
      · cases h
      · exact h

theorem Wf1_sub {L N : Addr} {fe : Bool} {n : Nat} : ∀ b ∈ Wf1 L N fe n, b = L ∨ N ≤ b := by
  intro b hb
  unfold Wf1 at hb
  split at hb
  · exact .inl (by simpa using hb)
  · simp only [List.mem_cons, List.not_mem_nil, or_false] at hb
    rcases hb with h | h | h
    · exact .inl h
    · exact .inr (h ▸ Nat.le_succ N)
    · exact .inr (h ▸ Nat.le_refl N)
theorem Wf1_mono {L N : Addr} {fe : Bool} (n : Nat) : ∀ b ∈ Wf1 L N fe n, b ∈ Wf1 L N fe (n + 1) := by
  intro b hb
  have : Wf1 L N fe (n + 1) = [L, N + 1, N] := Wf1_full (by omega)
  rw [this]
  unfold Wf1 at hb
  split at hb
  · simp at hb; simp [hb]
  · exact hb
theorem ints_of' : ∀ {xs : List AV} {ns : List Int}, allInts xs = some ns → xs = ns.map .int
  | [], ns, h => by rw [allInts] at h; cases h; rfl
  | .int i :: r, ns, h => by
    rw [allInts] at h
    obtain ⟨ms, h1, h2⟩ := Option.map_eq_some_iff.mp h
    cases h2
    rw [List.map_cons, ints_of' h1]
  | .none :: r, ns, h => by simp [allInts] at h
  | .bool _ :: r, ns, h => by simp [allInts] at h
  | .str _ :: r, ns, h => by simp [allInts] at h
  | .ref _ :: r, ns, h => by simp [allInts] at h

theorem gens_ok : Gens prog w mg mb := by
  intro A D f ds items h
  unfold genSpec at h
  split at h
  · rename_i hf
    subst hf
    split at h
    · rename_i x
      split at h
      · rename_i hx
        cases h
        rw [Bool.and_eq_true] at hx
        have hd : defs.lookup ("_iter_escaped_chars" : Str) = some gen1 := lk_at 0 (by decide +kernel) rfl
        have hA := eqOf' (a := gen1.1.args) (b := [⟨"addr", _, _⟩]) rfl
        refine ⟨by rw [hd]; rfl, gen_at (σ := ⟨fun y => if y = "addr" then some (.str x) else none, [], []⟩) hd (by decide +kernel) (by rw [hA]; rfl) D g1_noCell fun h₀ env ρ L s O T hL hco R => ?_⟩
        have hρ : ρ = [] := List.eq_nil_of_length_eq_zero (by rw [R.len]; rfl)
        subst hρ
        exact ⟨Wf1 L s.heap.objs.size (escEnd false x), Wf1_sub, Wf1_mono, esc_func D O T hL hco hx.1 R rfl rfl (by simp)⟩
      · cases h
    · cases h
  · split at h
    · rename_i hf
      subst hf
      split at h
      · rename_i xs
        obtain ⟨ns, h1, h2⟩ := Option.bind_eq_some_iff.mp h
        have := ints_of' h1
        subst this
        have hd : defs.lookup ("_grouping_intervals" : Str) = some gen2 := lk_at 4 (by decide +kernel) rfl
        have hA := eqOf' (a := gen2.1.args) (b := [⟨"grouping", _, _⟩]) rfl
        have hall : (ns.map AV.int).all AV.isVal = true := by rw [List.all_map, List.all_eq_true]; intro _ _; rfl
        refine ⟨by rw [hd]; rfl, gen_at (σ := ⟨fun y => if y = "grouping" then some (.ref 0) else none, [.list (ns.map .int)], [0]⟩) hd (by decide +kernel) (by rw [hA]; simp only [layArgs, hall]; rfl) D g2_noCell fun h₀ env ρ L s O T hL hco R => ?_⟩
        have hl : ρ.length = 1 := R.len
        obtain ⟨b, rfl⟩ := List.length_eq_one_iff.mp hl
        exact ⟨fun _ => [L, s.heap.objs.size], fun c hc => by
          simp only [List.mem_cons, List.not_mem_nil, or_false] at hc
          exact hc.imp id fun h => Nat.le_of_eq h.symm, fun _ _ h => h, grp_func D O T hL hco R rfl rfl (by simp) h2⟩
      · cases h
    · cases h
end
end Mine

namespace Mine
set_option linter.unusedSimpArgs false
open PySem
set_option maxRecDepth 20000


/-! ## what the text's defs tell of stairs: stairs as a row of signs -/
noncomputable def tx (l h : Nat) (w : List Bool) : List Nat := w.map fun b => if b then h else l
noncomputable def ltB : List Bool → List Bool → Bool
  | _, [] => false
  | [], _ :: _ => true
  | a :: x, b :: y => (!a && b) || ((a == b) && ltB x y)
theorem ltL_tx {l h : Nat} (hl : l < h) : ∀ a b, ltL (tx l h a) (tx l h b) = ltB a b
  | [], [] => rfl
  | _ :: _, [] => rfl
  | [], _ :: _ => rfl
  | a :: x, b :: y => by
    have := ltL_tx hl x y
    simp only [tx] at this
    simp only [tx, List.map_cons, ltL, ltB, this]
    cases a <;> cases b <;> simp [hl, Nat.lt_irrefl, Nat.not_lt.mpr (Nat.le_of_lt hl), Nat.ne_of_lt hl, (Nat.ne_of_lt hl).symm]
noncomputable def collB (a b : List Bool) : Int := b2i (ltB b a) - b2i (ltB a b)
theorem tx_ascii {l h : Nat} (hl : l < 128) (hh : h < 128) (w : List Bool) : (tx l h w).all (fun c => decide (c < 128)) = true := by
  rw [List.all_eq_true]
  intro c hc
  obtain ⟨b, _, rfl⟩ := List.mem_map.mp hc
  cases b <;> simp [hl, hh]
theorem tx_len {l h : Nat} (w : List Bool) : (tx l h w).length = w.length := by simp [tx]

theorem run_strcoll' (n : Nat) (a b : List Nat) : runFn (n+1) "_strcoll" [.val (.str a), .val (.str b)] = some (.val (.int (b2i (ltL b a) - b2i (ltL a b)))) := by
  have f1 : ∀ hp, evCmp .Gt (.str a) (.str b) hp = some (ltL b a) := fun _ => cGtS
  have f2 : ∀ hp, evCmp .Lt (.str a) (.str b) hp = some (ltL a b) := fun _ => cLtS
  have f3 : ∀ hp, evBin .Sub (.bool (ltL b a)) (.bool (ltL a b)) hp = some (.int (b2i (ltL b a) - b2i (ltL a b)), hp) := fun _ => bSubB
  exact run_def 3 [oB f1, oB f2, oM f3] (by kernel_rfl) (by kernel_rfl) (σ := ⟨upds [("b", .str b), ("a", .str a)] (fun _ => none), [], []⟩) (by kernel_rfl)
    (And.intro f1 (And.intro f2 (And.intro f3 (tdI (fz := []) (hp := []) (i := b2i (ltL b a) - b2i (ltL a b)))))) (by kernel_rfl)
theorem run_strcoll (n : Nat) {l h : Nat} (hl : l < h) (a b : List Bool) : runFn (n+1) "_strcoll" [.val (.str (tx l h a)), .val (.str (tx l h b))] = some (.val (.int (collB a b))) := by
  rw [run_strcoll', ltL_tx hl, ltL_tx hl]; rfl

theorem run_ups (n : Nat) {l h : Nat} (hl : l < h) (hh : h < 128) (w : List Bool) (hw : w.length ≤ 1000) : runFn (n+1) "_law_ups" [.val (.str (tx l h w)), .val (.str [h])] = some (.val (.int (w.count true))) := by
  have hI := iStr [] (tx_ascii (Nat.lt_trans hl hh) hh w)
  have hC := comp_run (C := dC n 8) (n := 55) (e := eA (cA (rV (sA (dB 8) 0))) 0) (σ := ⟨upds [("high", .str [h]), ("part", .str (tx l h w))] (fun _ => none), [], []⟩) [oI hI] (fun b => .one (.str [if b then h else l])) w (fun b => if b then some (.str [h]) else none) [] [] (by kernel_rfl) (by kernel_rfl)
    (And.intro hI (by rw [tx, List.map_map]; rfl : ((tx l h w).map (fun c => It.one (.str [c])), ([] : List Nat), ([] : List AO)) = (w.map (fun b => .one (.str [if b then h else l])), [], []))) (by kernel_rfl) (Nat.le_trans hw (by decide))
    (fun b _ => by
      cases b with
      | true =>
        have f := eqsT (a := [h]) rfl
        exact stepP [oB f] (And.intro f (gotP (.str [h]))) (by kernel_rfl)
      | false =>
        have f := eqsF (a := [l]) (b := [h]) fun e => Nat.ne_of_lt hl (List.cons.inj e).1
        exact stepP [oB f] (And.intro f (rfl : (none : Option AV) = none)) (by kernel_rfl))
  have hcnt : ∀ w : List Bool, (w.filterMap (fun b => if b = true then some (AV.str [h]) else none)).length = w.count true := by
    intro w
    induction w with
    | nil => rfl
    | cons b w ih => cases b <;> simp [ih]
  have hL := len_list (C := dC n 8) (k := 0) (hp := [.list (w.filterMap (fun b => if b = true then some (AV.str [h]) else none))]) (by kernel_rfl) rfl (by rw [hcnt]; exact Nat.le_trans List.count_le_length (Nat.le_trans hw (by decide)))
  rw [hcnt] at hL
  exact run_def 8 [oP hC, oP hL] (by kernel_rfl) (by kernel_rfl) (σ := ⟨upds [("high", .str [h]), ("part", .str (tx l h w))] (fun _ => none), [], []⟩) (by kernel_rfl)
    (And.intro hC (And.intro hL (tdI (fz := []) (hp := []) (i := (w.count true : Nat))))) (by kernel_rfl)

/-! the parts -/
noncomputable def cutStep (w : List Bool) (p : Nat) (s : List Nat × Nat) : AF × (List Nat × Nat) :=
  (.next, if collB (w.drop p) (w.drop s.2) = -1 then (s.1 ++ [s.2], p) else s)
noncomputable def cutsF (w : List Bool) : List Nat := let r := (loopF (cutStep w) (List.range' 1 (w.length - 1)) ([], 0)).2; r.1 ++ [r.2]
noncomputable def partsF (w : List Bool) : List (List Bool) := ((cutsF w).zip ((cutsF w).drop 1 ++ [w.length])).map fun p => (w.take p.2).drop p.1
theorem tx_drop {l h k : Nat} (w : List Bool) : (tx l h w).drop k = tx l h (w.drop k) := by simp [tx]
theorem tx_take {l h k : Nat} (w : List Bool) : (tx l h w).take k = tx l h (w.take k) := by simp [tx]

noncomputable abbrev nl (l : List Nat) : List AV := l.map fun n : Nat => AV.int (n : Int)
theorem nl_snoc (l : List Nat) (c : Nat) : nl l ++ [AV.int (c : Int)] = nl (l ++ [c]) := (List.map_append (l₁ := l) (l₂ := [c])).symm
section
variable {n l h : Nat}
theorem cut_body (hl : l < h) {w : List Bool} {p last : Nat} {pre : List Nat} {σ : AS} (hw : w.length ≤ 1000) (h1 : p ≤ 1000) (h2 : last ≤ 1000) (h3 : pre.length ≤ 1000)
    (hS : St [("text", .str (tx l h w)), ("cuts", .ref 0)] [.list (nl pre ++ [.int last])] [] σ) :
    ∃ r, (bindT (dC (n+1) 7) (fT (sA (dB 7) 1)) (.one (.int p)) σ).bind (evSs (dC (n+1) 7) 57 (fB (sA (dB 7) 1))) = some r ∧ r.1 = .next ∧
      St [("text", .str (tx l h w)), ("cuts", .ref 0)] [.list (nl (cutStep w p (pre, last)).2.1 ++ [.int (cutStep w p (pre, last)).2.2])] [] r.2 := by
  obtain ⟨f, rfl⟩ := hS.ex
  have hx : (tx l h w).length ≤ 1000000 := by rw [tx_len]; exact Nat.le_trans hw (by decide)
  have s1 := small_nat (Nat.le_trans h1 (by decide : 1000 ≤ 1000000000))
  have s2 := small_nat (Nat.le_trans h2 (by decide : 1000 ≤ 1000000000))
  have c1 := cutS_from [.list (nl pre ++ [.int last])] p hx
  have c2 := cutS_from [.list (nl pre ++ [.int last])] last hx
  rw [tx_drop] at c1 c2
  have g := item_last (hp := [.list (nl pre ++ [.int last])]) (k := 0) rfl
  have hf := call_fn (m := n+1) (n := 7) (hp := [.list (nl pre ++ [.int last])]) (args := [.str (tx l h (w.drop p)), .str (tx l h (w.drop last))]) (by kernel_rfl) (by kernel_rfl) (by kernel_rfl) (run_strcoll n hl (w.drop p) (w.drop last)) (sh_val (v := .int (collB (w.drop p) (w.drop last))) rfl)
  unfold cutStep
  by_cases hc : collB (w.drop p) (w.drop last) = -1
  · have hq := eqiT hc
    have ha := appAt (hp := [.list (nl pre ++ [.int last])]) (k := 0) (v := .int p) (fz := []) rfl rfl (by rw [nl_snoc, List.length_map, List.length_append, List.length_singleton]; (clear hl hw h1 h2 hS hx s1 s2 c1 c2 g hf hc hq; omega))
    have hE := endP .next [("text", .str (tx l h w)), ("cuts", .ref 0)] [.list (nl pre ++ [.int last] ++ [.int p])] []
    obtain ⟨r, e1, e2, e3⟩ := body_run (C := dC (n+1) 7) (n := 57) (t := fT (sA (dB 7) 1)) (body := fB (sA (dB 7) 1)) (x := .one (.int p)) (σ := ⟨upds [("text", .str (tx l h w)), ("cuts", .ref 0)] f, [.list (nl pre ++ [.int last])], []⟩)
      [oP c1, oV g, oP c2, oP hf, oB hq, oH ha] hE (And.intro s1 (And.intro c1 (And.intro g (And.intro s2 (And.intro c2 (And.intro hf (And.intro hq (And.intro (rfl : true = true) (And.intro ha hE))))))))) (by kernel_rfl)
    rw [nl_snoc] at e3
    rw [if_pos hc]
    exact ⟨r, e1, e2, e3⟩
  · have hq := eqiF hc
    have hE := endP .next [("text", .str (tx l h w)), ("cuts", .ref 0)] [.list (nl pre ++ [.int last])] []
    rw [if_neg hc]
    exact body_run [oP c1, oV g, oP c2, oP hf, oB hq] hE (And.intro s1 (And.intro c1 (And.intro g (And.intro s2 (And.intro c2 (And.intro hf (And.intro hq hE))))))) (by kernel_rfl)
end
theorem range'_lt {a n i x : Nat} (h : (List.range' a n)[i]? = some x) : x = a + i ∧ i < n := range'_at h

theorem run_parts (n : Nat) {l h : Nat} (hl : l < h) (hh : h < 128) (w : List Bool) (hw : w.length ≤ 1000) : runFn (n+2) "_law_parts" [.val (.str (tx l h w))] = some (.lst ((partsF w).map fun p => .str (tx l h p))) := by
  have hx : (tx l h w).length ≤ 1000000 := by rw [tx_len]; exact Nat.le_trans hw (by decide)
  have hL := len_str (C := dC (n+1) 7) (hp := [.list [.int 0]]) (by kernel_rfl) hx
  have hI := iRange [.list [.int 0]] (a := 1) (b := (tx l h w).length) 1 w.length rfl (by rw [tx_len]) (by decide) (Nat.le_trans hw (by decide))
  obtain ⟨i, σ', hi, ⟨hS, h5, h6, h7⟩, hF⟩ := for_run (C := dC (n+1) 7) (n := 57) (st := sA (dB 7) 1) (σ := ⟨upds [("cuts", .ref 0), ("text", .str (tx l h w))] (fun _ => none), [.list [.int 0]], []⟩) [oP hL, oI hI] (cutStep w)
    (fun i s σ => St [("text", .str (tx l h w)), ("cuts", .ref 0)] [.list (nl s.1 ++ [.int s.2])] [] σ ∧ s.1.length ≤ i ∧ s.2 ≤ i ∧ ∀ c ∈ s.1, c ≤ i) (fun n : Nat => .one (.int n)) (List.range' 1 (w.length - 1)) ([], 0) [] [.list [.int 0]] (by kernel_rfl) (by kernel_rfl)
    (And.intro hL (And.intro hI (rfl : ((List.range' 1 (w.length - 1)).map (fun n : Nat => It.one (.int n)), ([] : List Nat), [AO.list [.int 0]]) = _))) (by kernel_rfl)
    (fun i x hx s σ ⟨hS, h5, h6, h7⟩ => by
      obtain ⟨rfl, hil⟩ := range'_lt hx
      clear hx
      obtain ⟨r, e1, e2, e3⟩ := cut_body (n := n) (p := 1 + i) hl hw (by (clear hl hh hx hL hI hS h5 h6 h7; omega)) (by (clear hl hh hx hL hI hS h5 h6 h7; omega)) (by (clear hl hh hx hL hI hS h5 h6 h7; omega)) hS
      refine ⟨r, e1, e2, e3, ?_⟩
      unfold cutStep
      by_cases hc : collB (w.drop (1 + i)) (w.drop s.2) = -1
      · rw [if_pos hc]
        refine ⟨?_, Nat.le_of_eq (Nat.add_comm 1 i), fun c hc => ?_⟩
        · show (s.1 ++ [s.2]).length ≤ _
          rw [List.length_append]; exact Nat.succ_le_succ h5
        · rcases List.mem_append.mp hc with h | h
          · exact Nat.le_succ_of_le (h7 c h)
          · rw [List.mem_singleton.mp h]; exact Nat.le_succ_of_le h6
      · rw [if_neg hc]
        exact ⟨Nat.le_succ_of_le h5, Nat.le_succ_of_le h6, fun c hc => Nat.le_succ_of_le (h7 c hc)⟩)
    ⟨kcast (stP [("text", .str (tx l h w)), ("cuts", .ref 0)] [.list (nl [] ++ [.int (0 : Nat)])] []) (by kernel_rfl), Nat.le_refl 0, Nat.le_refl 0, fun c hc => (List.not_mem_nil hc).elim⟩
  rw [loopF_next (fun x s => rfl)] at hF
  have hcuts : cutsF w = (loopF (cutStep w) (List.range' 1 (w.length - 1)) ([], 0)).2.1 ++ [(loopF (cutStep w) (List.range' 1 (w.length - 1)) ([], 0)).2.2] := rfl
  rw [nl_snoc, ← hcuts] at hS
  rw [List.length_range'] at hi
  have hi : i ≤ 1000 := Nat.le_trans hi (Nat.le_trans (Nat.sub_le _ _) hw)
  have hlen : (cutsF w).length ≤ 1001 := by
    rw [hcuts, List.length_append, List.length_singleton]; exact Nat.succ_le_succ (Nat.le_trans h5 hi)
  have hb : ∀ c ∈ cutsF w, c ≤ 1000 := by
    intro c hc
    rw [hcuts] at hc
    rcases List.mem_append.mp hc with h | h
    · exact Nat.le_trans (h7 c h) hi
    · rw [List.mem_singleton.mp h]; exact Nat.le_trans h6 hi
  obtain ⟨f, rfl⟩ := hS.ex
  clear h5 h6 h7 hcuts hS hi
  rw [partsF]
  generalize cutsF w = cuts at *
  have hlen1 : (nl cuts).length ≤ 1000000 := by rw [List.length_map]; exact Nat.le_trans hlen (by decide)
  have c1 := cutR_from (hp := [.list (nl cuts)]) (k := 0) 1 rfl hlen1
  have hL2 := len_str (C := dC (n+1) 7) (hp := [.list (nl cuts), .list ((nl cuts).drop 1)]) (by kernel_rfl) hx
  have a1 := addL (hp := [.list (nl cuts), .list ((nl cuts).drop 1), .list [.int (tx l h w).length]]) (i := 1) (j := 2) rfl rfl (by
    rw [List.length_drop, List.length_map]; exact Nat.le_trans (Nat.add_le_add_right (Nat.sub_le _ _) 1) (Nat.le_trans (Nat.succ_le_succ hlen) (by decide)))
  have z1 := zipI (hp := [.list (nl cuts), .list ((nl cuts).drop 1), .list [.int (tx l h w).length], .list ((nl cuts).drop 1 ++ [.int (tx l h w).length])]) (i := 0) (j := 3) rfl rfl (by decide)
  have hz : (nl cuts).zip ((nl cuts).drop 1 ++ [AV.int ((tx l h w).length : Int)]) = (cuts.zip (cuts.drop 1 ++ [w.length])).map (fun p => (AV.int (p.1 : Int), AV.int (p.2 : Int))) := by
    rw [tx_len, ← List.map_drop, show [AV.int (w.length : Int)] = List.map (fun n : Nat => AV.int (n : Int)) [w.length] from rfl, ← List.map_append, List.zip_map]
    rfl
  have hC := comp_run (C := dC (n+1) 7) (n := 55) (e := rV (sA (dB 7) 2)) (σ := ⟨upds [("text", .str (tx l h w)), ("cuts", .ref 0)] f, [.list (nl cuts)], []⟩) [oP c1, oP hL2, oP a1, oI z1] (fun p : Nat × Nat => .two (.int p.1) (.int p.2)) (cuts.zip (cuts.drop 1 ++ [w.length]))
    (fun p => some (.str (tx l h ((w.take p.2).drop p.1)))) [0, 3] [.list (nl cuts), .list ((nl cuts).drop 1), .list [.int (tx l h w).length], .list ((nl cuts).drop 1 ++ [.int (tx l h w).length])] (by kernel_rfl) (by kernel_rfl)
    (And.intro small1 (And.intro c1 (And.intro hL2 (And.intro a1 (And.intro z1 (by rw [hz, List.map_map]; rfl : (((nl cuts).zip ((nl cuts).drop 1 ++ [AV.int ((tx l h w).length : Int)])).map (fun p => It.two p.1 p.2), [0, 3], [AO.list (nl cuts), .list ((nl cuts).drop 1), .list [.int (tx l h w).length], .list ((nl cuts).drop 1 ++ [.int (tx l h w).length])]) =
      ((cuts.zip (cuts.drop 1 ++ [w.length])).map (fun p : Nat × Nat => It.two (.int p.1) (.int p.2)), [0, 3], [AO.list (nl cuts), .list ((nl cuts).drop 1), .list [.int (tx l h w).length], .list ((nl cuts).drop 1 ++ [.int (tx l h w).length])]))))))) (by kernel_rfl)
    (by rw [List.length_zip]; exact Nat.le_trans (Nat.min_le_left _ _) (Nat.le_trans hlen (by decide)))
    (fun p hp => by
      have h1' := List.of_mem_zip hp
      have s1 := small_nat (Nat.le_trans (hb p.1 h1'.1) (by decide : 1000 ≤ 1000000000))
      have s2 : small (p.2 : Int) = true := by
        rcases List.mem_append.mp h1'.2 with h | h
        · exact small_nat (Nat.le_trans (hb p.2 (List.mem_of_mem_drop h)) (by decide : 1000 ≤ 1000000000))
        · rw [List.mem_singleton.mp h]; exact small_nat (Nat.le_trans hw (by decide : 1000 ≤ 1000000000))
      have c := cutS_both [.list (nl cuts), .list ((nl cuts).drop 1), .list [.int (tx l h w).length], .list ((nl cuts).drop 1 ++ [.int (tx l h w).length])] p.1 p.2 hx
      rw [tx_take, tx_drop] at c
      exact stepP [oP c] (And.intro s1 (And.intro s2 (And.intro c (gotP (.str (tx l h ((w.take p.2).drop p.1))))))) (by kernel_rfl))
  rw [List.filterMap_eq_map'] at hC
  have hR := toDR_lst (fz := []) (hp := [.list (nl cuts), .list ((nl cuts).drop 1), .list [.int (tx l h w).length], .list ((nl cuts).drop 1 ++ [.int (tx l h w).length]), .list ((cuts.zip (cuts.drop 1 ++ [w.length])).map fun p => .str (tx l h ((w.take p.2).drop p.1)))]) (i := 4) rfl rfl (by
    rw [List.all_map, List.all_eq_true]; intro _ _; rfl)
  rw [List.map_map]
  exact run_def 7 [oS hF, oP hC] (by kernel_rfl) (by kernel_rfl) (σ := ⟨upds [("text", .str (tx l h w))] (fun _ => none), [], []⟩) (by kernel_rfl) (And.intro hF (And.intro hC hR)) (by kernel_rfl)
end Mine

namespace Mine
set_option linter.unusedSimpArgs false
open PySem
set_option maxRecDepth 20000

set_option linter.unusedVariables false

/-! the hull -/
noncomputable def topStep (b : Bool) (s : List Nat × Nat) : AF × (List Nat × Nat) := (.next, if b then (s.1, s.2 + 1) else (s.1 ++ [s.2], s.2))
noncomputable def topsF (w : List Bool) : List Nat := let r := (loopF topStep w ([], 0)).2; r.1 ++ [r.2]
noncomputable def colStep (tops : List Nat) (left right c : Nat) (s : Bool × List Nat) : AF × (Bool × List Nat) :=
  (.next, if tops.getD c 0 * (right - left) < tops.getD left 0 * (right - c) + tops.getD right 0 * (c - left) then
    (if tops.getD c 0 * (right - left) + right ≤ tops.getD left 0 * (right - c) + tops.getD right 0 * (c - left) + left then false else s.1, s.2 ++ [c]) else s)
noncomputable def rightStep (tops : List Nat) (left right : Nat) (s : Bool × List Nat) : AF × (Bool × List Nat) := (.next, (loopF (colStep tops left right) (List.range' (left + 1) (right - (left + 1))) s).2)
noncomputable def leftStep (tops : List Nat) (left : Nat) (s : Bool × List Nat) : AF × (Bool × List Nat) := (.next, (loopF (rightStep tops left) (List.range' (left + 2) (tops.length - (left + 2))) s).2)
noncomputable def hullS (tops : List Nat) : Bool × List Nat := (loopF (leftStep tops) (List.range' 0 tops.length) (true, [])).2
noncomputable def touchStep (tops below : List Nat) (c : Nat) (s : List Nat) : AF × List Nat := (.next, if below.contains c then s else s ++ [c + tops.getD c 0])
noncomputable def touchF (tops below : List Nat) : List Nat := (loopF (touchStep tops below) (List.range' 1 (tops.length - 1)) (List.range' 1 (tops.getD 0 0))).2
noncomputable def hullF (w : List Bool) : Bool × List Nat := ((hullS (topsF w)).1, touchF (topsF w) (hullS (topsF w)).2)


theorem nl_at {tops : List Nat} {hp : List AO} (i : Nat) (h : hp[0]? = some (.list (nl tops))) (h1 : i < tops.length) (hl : tops.length ≤ 1000) : evItem (.ref 0) (.int (i : Int)) hp = some (.int (tops.getD i 0 : Nat)) := list_nat h h1 (by omega)

section
variable {n l h : Nat}
theorem top_body (hl : l ≠ h) {b : Bool} {pre : List Nat} {last : Nat} {σ : AS} (h5 : pre.length ≤ 100) (hS : St [("high", .str [h]), ("tops", .ref 0)] [.list (nl pre ++ [.int last])] [] σ) :
    ∃ r, (bindT (dC n 10) (fT (sA (dB 10) 1)) (.one (.str [if b then h else l])) σ).bind (evSs (dC n 10) 57 (fB (sA (dB 10) 1))) = some r ∧ r.1 = .next ∧
      St [("high", .str [h]), ("tops", .ref 0)] [.list (nl (topStep b (pre, last)).2.1 ++ [.int (topStep b (pre, last)).2.2])] [] r.2 := by
  obtain ⟨f, rfl⟩ := hS.ex
  have hl3 : (nl pre ++ [AV.int last]).length ≤ 1000000 := by rw [List.length_append, List.length_map, List.length_singleton]; omega
  cases b with
  | true =>
    have hE := endP .next [("high", .str [h]), ("tops", .ref 0)] [.list (nl pre ++ [.int ((last + 1 : Nat) : Int)])] []
    exact body_run [.b true, .h [.list (nl pre ++ [.int ((last + 1 : Nat) : Int)])]] hE
      (And.intro (eqsT (a := [h]) rfl) (And.intro (putLast (hp := [.list (nl pre ++ [.int last])]) (k := 0) (fz := []) rfl rfl) hE)) (by kernel_rfl)
  | false =>
    have hE := endP .next [("high", .str [h]), ("tops", .ref 0)] [.list (nl pre ++ [.int last] ++ [.int last])] []
    obtain ⟨r, e1, e2, e3⟩ := body_run (C := dC n 10) (n := 57) (t := fT (sA (dB 10) 1)) (body := fB (sA (dB 10) 1)) (x := .one (.str [if false then h else l])) (σ := ⟨upds [("high", .str [h]), ("tops", .ref 0)] f, [.list (nl pre ++ [.int last])], []⟩)
      [.b false, .v (.int last), .h [.list (nl pre ++ [.int last] ++ [.int last])]] hE
      (And.intro (eqsF (a := [l]) (b := [h]) fun e => hl (List.cons.inj e).1) (And.intro (rfl : listAt [.list (nl pre ++ [.int last])] (.ref 0) = true) (And.intro (item_last (hp := [.list (nl pre ++ [.int last])]) (k := 0) rfl) (And.intro (appAt (hp := [.list (nl pre ++ [.int last])]) (k := 0) (v := .int last) (fz := []) rfl rfl hl3) hE)))) (by kernel_rfl)
    rw [nl_snoc] at e3
    exact ⟨r, e1, e2, e3⟩

noncomputable abbrev hullR : Stmt := sA (fB (sA (dB 10) 4)) 0
noncomputable abbrev hullC : Stmt := sA (fB hullR) 0
noncomputable abbrev hullV (near : Bool) (left : Nat) : List (Str × AV) := [("tops", .ref 0), ("near", .bool near), ("below", .ref 1), ("left", .int left)]
noncomputable abbrev hullH (tops below : List Nat) : List AO := [.list (nl tops), .list (nl below)]
theorem col_body {tops below : List Nat} {near : Bool} {left right c : Nat} {σ : AS} (ht : tops.length ≤ 51) (hb : ∀ c ∈ tops, c ≤ 50) (h1 : left < c) (h2 : c < right) (h3 : right < tops.length) (h4 : below.length ≤ 900000)
    (hS : St ((("right", .int right) :: hullV near left)) (hullH tops below) [] σ) :
    ∃ r, (bindT (dC n 10) (fT hullC) (.one (.int c)) σ).bind (evSs (dC n 10) 50 (fB hullC)) = some r ∧ r.1 = .next ∧
      St ((("right", .int right) :: hullV (colStep tops left right c (near, below)).2.1 left)) (hullH tops (colStep tops left right c (near, below)).2.2) [] r.2 := by
  obtain ⟨f, rfl⟩ := hS.ex
  have bd : ∀ i, tops.getD i 0 ≤ 50 := fun i => by
    rw [List.getD]
    cases e : tops[i]? with
    | none => simp
    | some v => exact hb v (List.mem_of_getElem? e)
  have g1 := nl_at (hp := hullH tops below) left rfl (by omega) (by omega)
  have g2 := nl_at (hp := hullH tops below) right rfl (by omega) (by omega)
  have g3 := nl_at (hp := hullH tops below) c rfl (by (clear ht hb h1 h4 hS bd g1 g2; omega)) (by omega)
  have m1 := mulN (x := tops.getD left 0) (m := right - c) (d := (right : Int) - (c : Int)) (by (clear ht hb h1 h3 h4 hS bd g1 g2 g3; omega)) (by have := bd left; (clear ht hb h1 h2 h3 h4 hS bd g1 g2 g3; omega)) (by (clear hb h4 hS bd g1 g2 g3 h2 h1; omega))
  have m2 := mulN (x := tops.getD right 0) (m := c - left) (d := (c : Int) - (left : Int)) (by (clear ht hb h2 h3 h4 hS bd g1 g2 g3 m1; omega)) (by have := bd right; (clear ht hb h1 h2 h3 h4 hS bd g1 g2 g3 m1; omega)) (by omega)
  have m3 := mulN (x := tops.getD c 0) (m := right - left) (d := (right : Int) - (left : Int)) (by (clear ht hb h3 h4 hS bd g1 g2 g3 m1 m2; omega)) (by have := bd c; (clear ht hb h1 h2 h3 h4 hS bd g1 g2 g3 m1 m2; omega)) (by (clear hb h1 h4 hS bd g1 g2 g3 m1 m2 h2; omega))
  have ha := appAt (hp := hullH tops below) (k := 1) (v := .int c) (fz := []) rfl rfl (by rw [List.length_map]; (clear ht hb h1 h2 h3 hS bd g1 g2 g3 m1 m2 m3; omega))
  unfold colStep
  clear hS hb bd
  generalize tops.getD c 0 * (right - left) = X at *
  generalize tops.getD left 0 * (right - c) = Y at *
  generalize tops.getD right 0 * (c - left) = Z at *
  by_cases hc : X < Y + Z
  · have hc' := gtT (show (X : Int) < (Y : Int) + (Z : Int) by (clear ht h1 h2 h3 h4 g1 g2 g3 ha m3 m1 m2; omega))
    by_cases hd : X + right ≤ Y + Z + left
    · have hd' := geT (show (X : Int) + (right : Int) - (left : Int) ≤ (Y : Int) + (Z : Int) by (clear ht h1 h2 h3 h4 g1 g2 g3 ha m3 m1 m2 hc hc'; omega))
      rw [if_pos hc, if_pos hd]
      have hE := endP .next (("right", .int right) :: hullV false left) [.list (nl tops), .list (nl below ++ [.int c])] []
      obtain ⟨r, e1, e2, e3⟩ := body_run (C := dC n 10) (n := 50) (t := fT hullC) (body := fB hullC) (x := .one (.int c)) (σ := ⟨upds ((("right", .int right) :: hullV near left)) f, hullH tops below, []⟩)
        [oV g1, oM m1, oV g2, oM m2, oV g3, oM m3, oB hc', oH ha, oB hd']
        hE (And.intro g1 (And.intro m1 (And.intro g2 (And.intro m2 (And.intro g3 (And.intro m3 (And.intro hc' (And.intro (rfl : listAt (hullH tops below) (.ref 1) = true) (And.intro ha (And.intro hd' hE)))))))))) (by kernel_rfl)
      rw [nl_snoc] at e3
      exact ⟨r, e1, e2, e3⟩
    · have hd' := geF (show ¬ (X : Int) + (right : Int) - (left : Int) ≤ (Y : Int) + (Z : Int) by (clear ht h1 h2 h3 h4 g1 g2 g3 ha m3 m1 m2 hc hc'; omega))
      rw [if_pos hc, if_neg hd]
      have hE := endP .next (("right", .int right) :: hullV near left) [.list (nl tops), .list (nl below ++ [.int c])] []
      obtain ⟨r, e1, e2, e3⟩ := body_run (C := dC n 10) (n := 50) (t := fT hullC) (body := fB hullC) (x := .one (.int c)) (σ := ⟨upds ((("right", .int right) :: hullV near left)) f, hullH tops below, []⟩)
        [oV g1, oM m1, oV g2, oM m2, oV g3, oM m3, oB hc', oH ha, oB hd']
        hE (And.intro g1 (And.intro m1 (And.intro g2 (And.intro m2 (And.intro g3 (And.intro m3 (And.intro hc' (And.intro (rfl : listAt (hullH tops below) (.ref 1) = true) (And.intro ha (And.intro hd' hE)))))))))) (by kernel_rfl)
      rw [nl_snoc] at e3
      exact ⟨r, e1, e2, e3⟩
  · have hc' := gtF (show ¬ (X : Int) < (Y : Int) + (Z : Int) by (clear ht h1 h2 h3 h4 g1 g2 g3 ha m3 m1 m2; omega))
    rw [if_neg hc]
    have hE := endP .next (("right", .int right) :: hullV near left) (hullH tops below) []
    exact body_run [oV g1, oM m1, oV g2, oM m2, oV g3, oM m3, oB hc']
        hE (And.intro g1 (And.intro m1 (And.intro g2 (And.intro m2 (And.intro g3 (And.intro m3 (And.intro hc' hE))))))) (by kernel_rfl)

theorem right_body {tops below : List Nat} {near : Bool} {left right : Nat} {σ : AS} (ht : tops.length ≤ 51) (hb : ∀ c ∈ tops, c ≤ 50) (h1 : left < right) (h3 : right < tops.length) (h4 : below.length ≤ 800000)
    (hS : St (hullV near left) (hullH tops below) [] σ) :
    ∃ r, (bindT (dC n 10) (fT hullR) (.one (.int right)) σ).bind (evSs (dC n 10) 52 (fB hullR)) = some r ∧ r.1 = .next ∧
      St (hullV (rightStep tops left right (near, below)).2.1 left) (hullH tops (rightStep tops left right (near, below)).2.2) [] r.2 ∧ (rightStep tops left right (near, below)).2.2.length ≤ below.length + 60 := by
  obtain ⟨f, rfl⟩ := hS.ex
  obtain ⟨i, σ', hi, ⟨hS', hlen⟩, hF⟩ := for_run (C := dC n 10) (n := 50) (st := hullC) (σ := ⟨upds (("right", .int right) :: hullV near left) f, hullH tops below, []⟩) [.i (((List.range' (left + 1) (right - (left + 1))).map (fun n : Nat => It.one (.int n)), false), [])] (colStep tops left right)
    (fun i s σ => St ((("right", .int right) :: hullV s.1 left)) (hullH tops s.2) [] σ ∧ s.2.length ≤ below.length + i) (fun n : Nat => .one (.int n)) (List.range' (left + 1) (right - (left + 1))) (near, below) [] (hullH tops below) (by kernel_rfl) (by kernel_rfl)
    (And.intro (iRange (hullH tops below) (a := (left : Int) + 1) (b := right) (left + 1) right rfl rfl (by omega) (by omega)) (rfl : ((List.range' (left + 1) (right - (left + 1))).map (fun n : Nat => It.one (.int n)), ([] : List Nat), hullH tops below) = _)) (by kernel_rfl)
    (fun i x hx s σ ⟨hS, hl⟩ => by
      obtain ⟨rfl, hil⟩ := range'_lt hx
      obtain ⟨r, e1, e2, e3⟩ := col_body (n := n) (c := left + 1 + i) ht hb (by omega) (by (clear ht hb h3 h4 hS hl hx h1; omega)) h3 (by omega) hS
      refine ⟨r, e1, e2, e3, ?_⟩
      show List.length (if _ then (if _ then false else s.1, s.2 ++ [left + 1 + i]) else s).2 ≤ _
      split
      · simp only [List.length_append, List.length_singleton]; (clear ht hb h1 h3 h4 hS hl hil hx e1 e2 e3; omega)
      · (clear ht hb h1 h3 h4 hS hl hil hx e1 e2 e3; omega))
    (kcast (And.intro (stP ((("right", .int right) :: hullV near left)) (hullH tops below) []) (Nat.le_refl below.length)) (by kernel_rfl))
  obtain ⟨f', rfl⟩ := hS'.ex
  rw [loopF_next (fun x s => rfl)] at hF
  rw [List.length_range'] at hi
  unfold rightStep
  have hE := endP .next (hullV (loopF (colStep tops left right) (List.range' (left + 1) (right - (left + 1))) (near, below)).2.1 left) (hullH tops (loopF (colStep tops left right) (List.range' (left + 1) (right - (left + 1))) (near, below)).2.2) []
  obtain ⟨r, e1, e2, e3⟩ := body_run (C := dC n 10) (n := 52) (t := fT hullR) (body := fB hullR) (x := .one (.int right)) (σ := ⟨upds (hullV near left) f, hullH tops below, []⟩) [oS hF] hE (And.intro hF hE) (by kernel_rfl)
  refine ⟨r, e1, e2, e3, ?_⟩
  show List.length (loopF (colStep tops left right) (List.range' (left + 1) (right - (left + 1))) (near, below)).2.2 ≤ _
  omega

noncomputable abbrev hullW (near : Bool) : List (Str × AV) := [("tops", .ref 0), ("near", .bool near), ("below", .ref 1)]
theorem left_body {tops below : List Nat} {near : Bool} {left : Nat} {σ : AS} (ht : tops.length ≤ 51) (hb : ∀ c ∈ tops, c ≤ 50) (h1 : left < tops.length) (h4 : below.length ≤ 700000)
    (hS : St (hullW near) (hullH tops below) [] σ) :
    ∃ r, (bindT (dC n 10) (fT (sA (dB 10) 4)) (.one (.int left)) σ).bind (evSs (dC n 10) 54 (fB (sA (dB 10) 4))) = some r ∧ r.1 = .next ∧
      St (hullW (leftStep tops left (near, below)).2.1) (hullH tops (leftStep tops left (near, below)).2.2) [] r.2 ∧ (leftStep tops left (near, below)).2.2.length ≤ below.length + 3100 := by
  obtain ⟨f, rfl⟩ := hS.ex
  have hlen := len_list (C := dC n 10) (k := 0) (hp := hullH tops below) (xs := nl tops) (by kernel_rfl) rfl (by rw [List.length_map]; omega)
  obtain ⟨i, σ', hi, ⟨hS', hlen⟩, hF⟩ := for_run (C := dC n 10) (n := 52) (st := hullR) (σ := ⟨upds (("left", .int left) :: hullW near) f, hullH tops below, []⟩) [oP hlen, .i (((List.range' (left + 2) (tops.length - (left + 2))).map (fun n : Nat => It.one (.int n)), false), [])] (rightStep tops left)
    (fun i s σ => St (hullV s.1 left) (hullH tops s.2) [] σ ∧ s.2.length ≤ below.length + i * 60) (fun n : Nat => .one (.int n)) (List.range' (left + 2) (tops.length - (left + 2))) (near, below) [] (hullH tops below) (by kernel_rfl) (by kernel_rfl)
    (And.intro hlen (And.intro (iRange (hullH tops below) (a := (left : Int) + 2) (b := (nl tops).length) (left + 2) tops.length rfl (by rw [List.length_map]) (by omega) (by omega)) (rfl : ((List.range' (left + 2) (tops.length - (left + 2))).map (fun n : Nat => It.one (.int n)), ([] : List Nat), hullH tops below) = _))) (by kernel_rfl)
    (fun i x hx s σ ⟨hS, hl⟩ => by
      obtain ⟨rfl, hil⟩ := range'_lt hx
      obtain ⟨r, e1, e2, e3, e4⟩ := right_body (n := n) (right := left + 2 + i) ht hb (by omega) (by (clear ht hb h1 h4 hlen hS hl hx; omega)) (by omega) hS
      exact ⟨r, e1, e2, e3, Nat.le_trans e4 (by (clear ht hb h1 h4 hlen hS hl hil hx e1 e2 e3 e4; omega))⟩)
    (kcast (And.intro (stP (hullV near left) (hullH tops below) []) (Nat.le_refl below.length)) (by kernel_rfl))
  obtain ⟨f', rfl⟩ := hS'.ex
  rw [loopF_next (fun x s => rfl)] at hF
  rw [List.length_range'] at hi
  have hE := endP .next (hullW (loopF (rightStep tops left) (List.range' (left + 2) (tops.length - (left + 2))) (near, below)).2.1) (hullH tops (loopF (rightStep tops left) (List.range' (left + 2) (tops.length - (left + 2))) (near, below)).2.2) []
  obtain ⟨r, e1, e2, e3⟩ := body_run (C := dC n 10) (n := 54) (t := fT (sA (dB 10) 4)) (body := fB (sA (dB 10) 4)) (x := .one (.int left)) (σ := ⟨upds (hullW near) f, hullH tops below, []⟩) [oS hF] hE (And.intro hF hE) (by kernel_rfl)
  refine ⟨r, e1, e2, e3, ?_⟩
  show List.length (loopF (rightStep tops left) (List.range' (left + 2) (tops.length - (left + 2))) (near, below)).2.2 ≤ _
  omega
theorem touch_body {tops below t : List Nat} {near : Bool} {c : Nat} {σ : AS} (ht : tops.length ≤ 51) (h1 : c < tops.length) (h4 : t.length ≤ 900000)
    (hS : St (("touched", .ref 2) :: hullW near) [.list (nl tops), .list (nl below), .list (nl t)] [] σ) :
    ∃ r, (bindT (dC n 10) (fT (sA (dB 10) 6)) (.one (.int c)) σ).bind (evSs (dC n 10) 52 (fB (sA (dB 10) 6))) = some r ∧ r.1 = .next ∧
      St (("touched", .ref 2) :: hullW near) [.list (nl tops), .list (nl below), .list (nl (touchStep tops below c t).2)] [] r.2 := by
  obtain ⟨f, rfl⟩ := hS.ex
  unfold touchStep
  cases hc : below.contains c with
  | true =>
    have hE := endP .next (("touched", .ref 2) :: hullW near) [.list (nl tops), .list (nl below), .list (nl t)] []
    have hn := notInT (hp := [.list (nl tops), .list (nl below), .list (nl t)]) (k := 1) (a := c) (l := below) rfl (by rw [hc]; rfl : _ = false)
    exact body_run [oC hn] hE (And.intro hn hE) (by kernel_rfl)
  | false =>
    have hn := notInT (hp := [.list (nl tops), .list (nl below), .list (nl t)]) (k := 1) (a := c) (l := below) rfl (by rw [hc]; rfl : _ = true)
    have g := nl_at (hp := [.list (nl tops), .list (nl below), .list (nl t)]) c rfl h1 (by omega)
    have ha := appAt (hp := [.list (nl tops), .list (nl below), .list (nl t)]) (k := 2) (v := .int ((c : Int) + (tops.getD c 0 : Nat))) (fz := []) rfl rfl (by rw [List.length_map]; (clear ht h1 hS hc hn g; omega))
    have hE := endP .next (("touched", .ref 2) :: hullW near) [.list (nl tops), .list (nl below), .list (nl t ++ [.int ((c : Int) + (tops.getD c 0 : Nat))])] []
    obtain ⟨r, e1, e2, e3⟩ := body_run (C := dC n 10) (n := 52) (t := fT (sA (dB 10) 6)) (body := fB (sA (dB 10) 6)) (x := .one (.int c)) (σ := ⟨upds (("touched", .ref 2) :: hullW near) f, [.list (nl tops), .list (nl below), .list (nl t)], []⟩)
      [oC hn, oV g, oH ha] hE (And.intro hn (And.intro (rfl : true = true) (And.intro g (And.intro ha hE)))) (by kernel_rfl)
    rw [← Int.natCast_add, nl_snoc] at e3
    exact ⟨r, e1, e2, e3⟩
end
theorem toDR_pair {fz : List Nat} {hp : List AO} {v : AV} {xs : List AV} {i k : Nat} (h1 : hp[i]? = some (.tup [v, .ref k])) (h2 : hp[k]? = some (.list xs)) (f1 : fz.contains i = false) (f2 : fz.contains k = false) (hv : v.isVal = true) (hx : xs.all AV.isVal = true) : toDR fz hp (.ref i) = some (.pair v xs) := by
  rw [tdR, f1, h1]
  show (if fz.contains k = true then none else match hp[k]? with
      | some (.list xs) => if v.isVal && xs.all AV.isVal then some (DR.pair v xs) else none
      | _ => none) = _
  rw [f2, h2]
  show (if (v.isVal && xs.all AV.isVal) = true then _ else _) = _
  rw [hv, hx]; rfl
theorem run_hull (n : Nat) {l h : Nat} (hl : l < h) (hh : h < 128) (w : List Bool) (hw : w.length ≤ 50) : runFn (n+1) "_law_hull" [.val (.str (tx l h w)), .val (.str [h])] = some (.pair (.bool (hullF w).1) ((hullF w).2.map fun n : Nat => .int n)) := by
  have hI := iStr [.list [.int 0]] (tx_ascii (Nat.lt_trans hl hh) hh w)
  obtain ⟨i, σ', hi, ⟨hS, h5, h6, h7⟩, hF⟩ := for_run (C := dC n 10) (n := 57) (st := sA (dB 10) 1) (σ := ⟨upds [("tops", .ref 0), ("high", .str [h]), ("text", .str (tx l h w))] (fun _ => none), [.list [.int 0]], []⟩) [oI hI] topStep
    (fun i s σ => St [("high", .str [h]), ("tops", .ref 0)] [.list (nl s.1 ++ [.int s.2])] [] σ ∧ s.1.length ≤ i ∧ s.2 ≤ i ∧ ∀ c ∈ s.1, c ≤ i) (fun b => .one (.str [if b then h else l])) w ([], 0) [] [.list [.int 0]] (by kernel_rfl) (by kernel_rfl)
    (And.intro hI (by rw [tx, List.map_map]; rfl : ((tx l h w).map (fun c => It.one (.str [c])), ([] : List Nat), [AO.list [.int 0]]) = (w.map (fun b => .one (.str [if b then h else l])), [], [.list [.int 0]]))) (by kernel_rfl)
    (fun i x hx s σ ⟨hS, h5, h6, h7⟩ => by
      have hi : i < w.length := (List.getElem?_eq_some_iff.mp hx).1
      obtain ⟨r, e1, e2, e3⟩ := top_body (n := n) (b := x) (Nat.ne_of_lt hl) (by (clear hl hh hI hx hS h5 h6 h7; omega)) hS
      refine ⟨r, e1, e2, e3, ?_⟩
      unfold topStep
      cases x with
      | true => exact ⟨Nat.le_succ_of_le h5, Nat.succ_le_succ h6, fun c hc => Nat.le_succ_of_le (h7 c hc)⟩
      | false =>
        refine ⟨?_, Nat.le_succ_of_le h6, fun c hc => ?_⟩
        · show (s.1 ++ [s.2]).length ≤ _
          rw [List.length_append]; exact Nat.succ_le_succ h5
        · rcases List.mem_append.mp hc with h | h
          · exact Nat.le_succ_of_le (h7 c h)
          · rw [List.mem_singleton.mp h]; exact Nat.le_succ_of_le h6)
    ⟨kcast (stP [("high", .str [h]), ("tops", .ref 0)] [.list (nl [] ++ [.int (0 : Nat)])] []) (by kernel_rfl), Nat.le_refl 0, Nat.le_refl 0, fun c hc => (List.not_mem_nil hc).elim⟩
  rw [loopF_next (fun x s => rfl)] at hF
  have htops : topsF w = (loopF topStep w ([], 0)).2.1 ++ [(loopF topStep w ([], 0)).2.2] := rfl
  rw [nl_snoc, ← htops] at hS
  have hlen : (topsF w).length ≤ 51 := by
    rw [htops, List.length_append, List.length_singleton]; clear hF hS htops h6 h7; (clear hl hh hI; omega)
  have hb : ∀ c ∈ topsF w, c ≤ 50 := by
    intro c hc
    rw [htops] at hc
    rcases List.mem_append.mp hc with h | h
    · exact Nat.le_trans (h7 c h) (Nat.le_trans hi hw)
    · rw [List.mem_singleton.mp h]; exact Nat.le_trans h6 (Nat.le_trans hi hw)
  have hpos : 0 < (topsF w).length := by rw [htops, List.length_append]; exact Nat.succ_pos _
  obtain ⟨f, rfl⟩ := hS.ex
  clear h5 h6 h7 htops hS hi
  rw [hullF]
  generalize topsF w = tops at *
  have hlen1 : tops.length ≤ 1000000 := Nat.le_trans hlen (by decide)
  have hL := len_list (C := dC n 10) (k := 0) (hp := hullH tops []) (xs := nl tops) (by kernel_rfl) rfl (by rw [List.length_map]; exact hlen1)
  have hI2 := iRange0 (hullH tops []) (b := (nl tops).length) tops.length (by rw [List.length_map]) (Nat.le_trans hlen (by decide))
  obtain ⟨i, σ', hi, ⟨hS, h5⟩, hF2⟩ := for_run (C := dC n 10) (n := 54) (st := sA (dB 10) 4) (σ := ⟨upds [("below", .ref 1), ("near", .bool true), ("high", .str [h]), ("tops", .ref 0)] f, hullH tops [], []⟩) [oP hL, oI hI2] (leftStep tops)
    (fun i s σ => St (hullW s.1) (hullH tops s.2) [] σ ∧ s.2.length ≤ i * 3100) (fun n : Nat => .one (.int n)) (List.range' 0 tops.length) (true, []) [] (hullH tops []) (by kernel_rfl) (by kernel_rfl)
    (And.intro hL (And.intro hI2 (rfl : ((List.range' 0 tops.length).map (fun n : Nat => It.one (.int n)), ([] : List Nat), hullH tops []) = _))) (by kernel_rfl)
    (fun i x hx s σ ⟨hS, h5⟩ => by
      obtain ⟨rfl, hil⟩ := range'_lt hx
      obtain ⟨r, e1, e2, e3, e4⟩ := left_body (n := n) (left := 0 + i) hlen hb (by (clear hl hh hw hI hlen hb hpos hF hlen1 hL hI2 hS h5 hx; omega)) (by (clear hl hh hw hI hb hF hlen1 hL hI2 hS h5 hx hpos; omega)) hS
      exact ⟨r, e1, e2, e3, Nat.le_trans e4 (by (clear hl hh hw hI hlen hb hpos hF hlen1 hL hI2 hS h5 hil hx e1 e2 e3 e4; omega))⟩)
    (kcast (And.intro (stP (hullW true) (hullH tops []) []) (Nat.le_refl 0)) (by kernel_rfl))
  rw [loopF_next (fun x s => rfl)] at hF2
  obtain ⟨f2, rfl⟩ := hS.ex
  change evS _ _ _ _ = some (.next, ⟨upds (hullW (hullS tops).1) f2, hullH tops (hullS tops).2, []⟩) at hF2
  clear hS h5 hi
  generalize (hullS tops).1 = near at *
  generalize (hullS tops).2 = below at *
  have bd : tops.getD 0 0 ≤ 50 := by
    rw [List.getD]
    cases e : tops[0]? with
    | none => exact Nat.zero_le _
    | some v => exact hb v (List.mem_of_getElem? e)
  have g0 := nl_at (hp := hullH tops below) 0 rfl hpos (Nat.le_trans hlen (by decide))
  have hR := listRange (hp := hullH tops below) (a := 1) (b := (tops.getD 0 0 : Nat) + 1) 1 (tops.getD 0 0 + 1) rfl rfl (by decide) (by (clear hl hh hw hI hlen hb hpos hF hlen1 hL hI2 hF2 g0; omega))
  have hL3 := len_list (C := dC n 10) (k := 0) (hp := [.list (nl tops), .list (nl below), .list (nl (List.range' 1 (tops.getD 0 0)))]) (xs := nl tops) (by kernel_rfl) rfl (by rw [List.length_map]; exact hlen1)
  have hI3 := iRange [.list (nl tops), .list (nl below), .list (nl (List.range' 1 (tops.getD 0 0)))] (a := 1) (b := (nl tops).length) 1 tops.length rfl (by rw [List.length_map]) (by decide) (Nat.le_trans hlen (by decide))
  obtain ⟨i, σ', hi, ⟨hS, h5⟩, hF3⟩ := for_run (C := dC n 10) (n := 52) (st := sA (dB 10) 6) (σ := ⟨upds (("touched", .ref 2) :: hullW near) f2, [.list (nl tops), .list (nl below), .list (nl (List.range' 1 (tops.getD 0 0)))], []⟩) [oP hL3, oI hI3] (touchStep tops below)
    (fun i s σ => St (("touched", .ref 2) :: hullW near) [.list (nl tops), .list (nl below), .list (nl s)] [] σ ∧ s.length ≤ i + 50) (fun n : Nat => .one (.int n)) (List.range' 1 (tops.length - 1)) (List.range' 1 (tops.getD 0 0)) [] [.list (nl tops), .list (nl below), .list (nl (List.range' 1 (tops.getD 0 0)))] (by kernel_rfl) (by kernel_rfl)
    (And.intro hL3 (And.intro hI3 (rfl : ((List.range' 1 (tops.length - 1)).map (fun n : Nat => It.one (.int n)), ([] : List Nat), [AO.list (nl tops), .list (nl below), .list (nl (List.range' 1 (tops.getD 0 0)))]) = _))) (by kernel_rfl)
    (fun i x hx s σ ⟨hS, h5⟩ => by
      obtain ⟨rfl, hil⟩ := range'_lt hx
      obtain ⟨r, e1, e2, e3⟩ := touch_body (n := n) (c := 1 + i) (below := below) hlen (by (clear hl hh hw hI hb hF hlen1 hL hI2 hF2 bd g0 hR hL3 hI3 hS h5 hx hpos hlen; omega)) (by (clear hl hh hw hI hb hF hlen1 hL hI2 hF2 bd g0 hR hL3 hI3 hS h5 hx; omega)) hS
      refine ⟨r, e1, e2, e3, ?_⟩
      show List.length (if _ then s else s ++ [1 + i + tops.getD (1 + i) 0]) ≤ _
      split
      · (clear hl hh hw hI hlen hb hpos hF hlen1 hL hI2 hF2 bd g0 hR hL3 hI3 hS h5 hil hx e1 e2 e3; omega)
      · rw [List.length_append, List.length_singleton]; (clear hl hh hw hI hlen hb hpos hF hlen1 hL hI2 hF2 bd g0 hR hL3 hI3 hS h5 hil hx e1 e2 e3; omega))
    (kcast (And.intro (stP (("touched", .ref 2) :: hullW near) [.list (nl tops), .list (nl below), .list (nl (List.range' 1 (tops.getD 0 0)))] []) (by rw [List.length_range']; omega : (List.range' 1 (tops.getD 0 0)).length ≤ 0 + 50)) (by kernel_rfl))
  rw [loopF_next (fun x s => rfl)] at hF3
  obtain ⟨f3, rfl⟩ := hS.ex
  refine run_def 10 [oS hF, oS hF2, oV g0, oP hR, oS hF3] (by kernel_rfl) (by kernel_rfl) (σ := ⟨upds [("high", .str [h]), ("text", .str (tx l h w))] (fun _ => none), [], []⟩) (by kernel_rfl)
    (And.intro hF (And.intro hF2 (And.intro g0 (And.intro hR (And.intro hF3
      (toDR_pair (fz := []) (hp := [.list (nl tops), .list (nl below), .list (nl (touchF tops below)), .tup [.bool near, .ref 2]]) (i := 3) (k := 2) rfl rfl rfl rfl rfl (all_ints _))))))) (by kernel_rfl)
end Mine

namespace Mine
set_option linter.unusedSimpArgs false
open PySem
set_option maxRecDepth 20000

set_option linter.unusedVariables false

/-! the check of brackets -/
noncomputable def escN : Bool → Nat → List Nat → List (Nat × List Nat)
  | true, p, [] => [(p - 1, [92])]
  | false, _, [] => []
  | true, p, c :: r => (p, [92, c]) :: escN false (p + 1) r
  | false, p, c :: r => if c = 92 then escN true (p + 1) r else (p, [c]) :: escN false (p + 1) r
theorem escI_eq : ∀ (b : Bool) (p : Nat) (x : List Nat), (b = true → 1 ≤ p) → escI b p x = (escN b p x).map fun q => .two (.int (q.1 : Nat)) (.str q.2)
  | true, p, [], h => by
    have := h rfl
    simp only [escI, escN, List.map_cons, List.map_nil]
    rw [show ((p - 1 : Nat) : Int) = (p : Int) - 1 by omega]
  | false, _, [], _ => rfl
  | true, p, c :: r, h => by
    simp only [escI, escN, List.map_cons]
    rw [escI_eq false (p + 1) r (by simp)]
  | false, p, c :: r, _ => by
    simp only [escI, escN]
    split
    · exact escI_eq true (p + 1) r (by omega)
    · rw [List.map_cons, escI_eq false (p + 1) r (by simp)]
theorem escN_le : ∀ (b : Bool) (p : Nat) (x : List Nat), ∀ q ∈ escN b p x, q.1 ≤ p + x.length
  | true, p, [], q, h => by simp only [escN, List.mem_singleton] at h; subst h; simp only; omega
  | false, _, [], q, h => by simp [escN] at h
  | true, p, c :: r, q, h => by
    simp only [escN, List.mem_cons] at h
    rcases h with rfl | h
    · simp only; omega
    · have := escN_le false (p + 1) r q h; simp only [List.length_cons]; omega
  | false, p, c :: r, q, h => by
    simp only [escN] at h
    split at h
    · have := escN_le true (p + 1) r q h; simp only [List.length_cons]; omega
    · simp only [List.mem_cons] at h
      rcases h with rfl | h
      · simp only; omega
      · have := escN_le false (p + 1) r q h; simp only [List.length_cons]; omega
theorem escN_len : ∀ (b : Bool) (p : Nat) (x : List Nat), (escN b p x).length ≤ x.length + 1
  | true, p, [] => by simp [escN]
  | false, _, [] => by simp [escN]
  | true, p, c :: r => by have := escN_len false (p + 1) r; simp only [escN, List.length_cons]; omega
  | false, p, c :: r => by
    simp only [escN]
    split
    · have := escN_len true (p + 1) r; simp only [List.length_cons]; omega
    · have := escN_len false (p + 1) r; simp only [List.length_cons]; omega

structure SQ where
  start : Nat
  op : Option Nat
  res : List (List Nat)
noncomputable def stripStep (x : List Nat) (q : Nat × List Nat) (s : SQ) : AF × SQ :=
  (.next, if q.2 = [34] then (match s.op with
    | none => ⟨s.start, some q.1, s.res⟩
    | some o => ⟨q.1 + 1, none, if s.start ≠ o then s.res ++ [(x.take o).drop s.start] else s.res⟩) else s)
noncomputable def stripS (x : List Nat) : SQ := (loopF (stripStep x) (escN false 0 x) ⟨0, none, []⟩).2
noncomputable def stripF (x : List Nat) : List Nat := if x.contains 34 then ((stripS x).res ++ if (stripS x).start < x.length then [x.drop (stripS x).start] else []).flatten else x
noncomputable def opV : Option Nat → AV
  | none => .none
  | some o => .int o

noncomputable abbrev sl (l : List (List Nat)) : List AV := l.map fun y => AV.str y
theorem sl_snoc (l : List (List Nat)) (c : List Nat) : sl l ++ [AV.str c] = sl (l ++ [c]) := (List.map_append (l₁ := l) (l₂ := [c])).symm
noncomputable abbrev stV (x : List Nat) (s : SQ) : List (Str × AV) := [("addr", .str x), ("start", .int s.start), ("open_pos", opV s.op), ("result", .ref 0)]
theorem strip_body {n : Nat} {x : List Nat} {q : Nat × List Nat} {s : SQ} {σ : AS} (hx : x.length ≤ 900) (h7 : s.start ≤ 10000) (h8 : ∀ o, s.op = some o → o ≤ 1000) (h9 : s.res.length ≤ 1000)
    (hS : St (stV x s) [.list (sl s.res)] [] σ) :
    ∃ r, (bindT (dC n 1) (fT (sA (dB 1) 4)) (.two (.int q.1) (.str q.2)) σ).bind (evSs (dC n 1) 54 (fB (sA (dB 1) 4))) = some r ∧ r.1 = .next ∧ St (stV x (stripStep x q s).2) [.list (sl (stripStep x q s).2.res)] [] r.2 := by
  obtain ⟨f, rfl⟩ := hS.ex
  obtain ⟨p, t⟩ := q
  obtain ⟨st, op, res⟩ := s
  simp only at h7 h8 h9
  unfold stripStep
  by_cases ht : t = [34]
  · simp only [if_pos ht]
    have f1 := eqsT ht
    cases op with
    | none =>
      have f2 : ∀ hp, evCmp .Is .none .none hp = some true := fun _ => cIsN
      have hE := endP .next (stV x ⟨st, some p, res⟩) [.list (sl res)] []
      exact body_run [oB f1, oB f2] hE (And.intro f1 (And.intro f2 hE)) (by kernel_rfl)
    | some o =>
      have ho := h8 o rfl
      have f2 : ∀ hp, evCmp .Is (.int (o : Nat)) .none hp = some false := fun _ => cIsIN
      by_cases hso : st = o
      · have f3 := neiF (congrArg (fun n : Nat => (n : Int)) hso)
        have hE := endP .next (stV x ⟨p + 1, none, res⟩) [.list (sl res)] []
        simp only [if_neg (not_not_intro hso)]
        exact body_run [oB f1, oB f2, oB f3] hE (And.intro f1 (And.intro f2 (And.intro f3 hE))) (by kernel_rfl)
      · have f3 := neiT (fun e => hso (Int.ofNat.inj e) : ((st : Nat) : Int) ≠ ((o : Nat) : Int))
        have s1 := small_nat (Nat.le_trans h7 (by decide : 10000 ≤ 1000000000))
        have s2 := small_nat (Nat.le_trans ho (by decide : 1000 ≤ 1000000000))
        have c := cutS_both [.list (sl res)] st o (Nat.le_trans hx (by decide))
        have ha := appAt (hp := [.list (sl res)]) (k := 0) (v := .str ((x.take o).drop st)) (fz := []) rfl rfl (by rw [List.length_map]; exact Nat.le_trans h9 (by decide))
        have hE := endP .next (stV x ⟨p + 1, none, res⟩) [.list (sl res ++ [.str ((x.take o).drop st)])] []
        obtain ⟨r, e1, e2, e3⟩ := body_run (C := dC n 1) (n := 54) (t := fT (sA (dB 1) 4)) (body := fB (sA (dB 1) 4)) (x := .two (.int p) (.str t)) (σ := ⟨upds (stV x ⟨st, some o, res⟩) f, [.list (sl res)], []⟩) [oB f1, oB f2, oB f3, oP c, oH ha] hE
          (And.intro f1 (And.intro f2 (And.intro f3 (And.intro (rfl : true = true) (And.intro s1 (And.intro s2 (And.intro c (And.intro ha hE)))))))) (by kernel_rfl)
        rw [sl_snoc] at e3
        simp only [if_pos hso]
        exact ⟨r, e1, e2, e3⟩
  · simp only [if_neg ht]
    have f1 := eqsF ht
    have hE := endP .next (stV x ⟨st, op, res⟩) [.list (sl res)] []
    exact body_run [oB f1] hE (And.intro f1 hE) (by kernel_rfl)
noncomputable def StripI (x : List Nat) (i : Nat) (s : SQ) : Prop := s.start ≤ 10000 ∧ (∀ o, s.op = some o → o ≤ 1000) ∧ s.res.length ≤ i ∧ ∀ y ∈ s.res, y.length ≤ 900
theorem strip_inv {x : List Nat} {i : Nat} {q : Nat × List Nat} {s : SQ} (hx : x.length ≤ 900) (hq : q.1 ≤ 900) (h : StripI x i s) : StripI x (i + 1) (stripStep x q s).2 := by
  obtain ⟨p, t⟩ := q
  obtain ⟨st, op, res⟩ := s
  obtain ⟨h1, h2, h3, h4⟩ := h
  unfold stripStep
  by_cases ht : t = [34]
  · simp only [if_pos ht]
    cases op with
    | none => exact ⟨h1, fun o e => by cases e; exact Nat.le_trans hq (by decide), Nat.le_succ_of_le h3, h4⟩
    | some o =>
      refine ⟨Nat.le_trans (Nat.succ_le_succ hq) (by decide), fun o e => (by cases e), ?_⟩
      by_cases hso : st = o
      · simp only [if_neg (not_not_intro hso)]
        exact ⟨Nat.le_succ_of_le h3, h4⟩
      · simp only [if_pos hso]
        refine ⟨?_, fun y hy => ?_⟩
        · rw [List.length_append]; exact Nat.succ_le_succ h3
        · rcases List.mem_append.mp hy with h | h
          · exact h4 y h
          · rw [List.mem_singleton.mp h, List.length_drop, List.length_take]
            exact Nat.le_trans (Nat.sub_le _ _) (Nat.le_trans (Nat.min_le_right _ _) hx)
  · simp only [if_neg ht]
    exact ⟨h1, h2, Nat.le_succ_of_le h3, h4⟩
theorem sum_900 : ∀ l : List (List Nat), (∀ y ∈ l, y.length ≤ 900) → (l.map List.length).sum ≤ l.length * 900
  | [], _ => Nat.le_refl _
  | y :: l, h => by
    have h1 := h y List.mem_cons_self
    have h2 := sum_900 l fun z hz => h z (List.mem_cons_of_mem _ hz)
    rw [List.map_cons, List.sum_cons, List.length_cons, Nat.succ_mul]; omega
theorem notInS (hp : List AO) {c : Nat} {x : List Nat} {b : Bool} (hb : (!x.contains c) = b) : evCmp .NotIn (.str [c]) (.str x) hp = some b := by rw [cNotInS, hb]

theorem run_strip (n : Nat) (x : List Nat) (hx : x.all (fun c => decide (c < 128)) = true) (hlen : x.length ≤ 900) : runFn (n+1) "_strip_quoted_realnames" [.val (.str x)] = some (.val (.str (stripF x))) := by
  unfold stripF
  cases hc : x.contains 34 with
  | false =>
    have f1 : ∀ hp, evCmp .NotIn (.str [34]) (.str x) hp = some true := fun hp => notInS hp (by rw [hc]; rfl)
    exact run_def 1 [oB f1] (by kernel_rfl) (by kernel_rfl) (σ := ⟨upds [("addr", .str x)] (fun _ => none), [], []⟩) (by kernel_rfl) (And.intro f1 (tdS (fz := []) (hp := []) (x := x))) (by kernel_rfl)
  | true =>
    have f1 : ∀ hp, evCmp .NotIn (.str [34]) (.str x) hp = some false := fun hp => notInS hp (by rw [hc]; rfl)
    have ht : x.length ≤ 1000000 := Nat.le_trans hlen (by decide)
    have hgen : (dC n 1).gen "_iter_escaped_chars" [.val (.str x)] = some ((escN false 0 x).map (fun q => It.two (.int q.1) (.str q.2)), true) := by
      show genSpec "_iter_escaped_chars" [.val (.str x)] = _
      unfold genSpec
      rw [if_pos rfl]
      show (if (x.all (fun c => decide (c < 128)) && decide (x.length ≤ textLine)) = true then some (escI false 0 x, true) else none) = _
      rw [hx, escI_eq false 0 x (fun h => by cases h)]
      exact if_pos (decide_eq_true ht)
    have hG : loopG true (stripStep x) (escN false 0 x) ⟨0, none, []⟩ = some (.next, stripS x) := by
      have : ∀ (l : List (Nat × List Nat)) (s : SQ), loopG true (stripStep x) l s = some (.next, (loopF (stripStep x) l s).2)
        := fun l => by
          induction l with
          | nil => intro s; rfl
          | cons a l ih => intro s; exact ih _
      exact this _ _
    have hle := escN_le false 0 x
    have hln := escN_len false 0 x
    obtain ⟨i, σ', hi, ⟨hS, hI⟩, hF⟩ := for_gen (C := dC n 1) (n := 54) (st := sA (dB 1) 4) (σ := ⟨upds [("result", .ref 0), ("open_pos", .none), ("start", .int 0), ("addr", .str x)] (fun _ => none), [.list []], []⟩)
      "_iter_escaped_chars" [.str x] [.val (.str x)] true (stripStep x) (fun i s σ => St (stV x s) [.list (sl s.res)] [] σ ∧ StripI x i s) (fun q => .two (.int q.1) (.str q.2)) (escN false 0 x) ⟨0, none, []⟩
      (by kernel_rfl) (by kernel_rfl) (by kernel_rfl) (by kernel_rfl) (by kernel_rfl) hgen (by kernel_rfl) hG
      (fun i q hq s σ ⟨hS, hI⟩ => by
        have hq1 := hle q (List.mem_of_getElem? hq)
        rw [Nat.zero_add] at hq1
        have hi : i < (escN false 0 x).length := (List.getElem?_eq_some_iff.mp hq).1
        obtain ⟨r, e1, e2, e3⟩ := strip_body (n := n) (q := q) hlen hI.1 hI.2.1 (Nat.le_trans hI.2.2.1 (by omega)) hS
        exact ⟨r, e1, e2, e3, strip_inv hlen (Nat.le_trans hq1 hlen) hI⟩)
      ⟨kcast (stP (stV x ⟨0, none, []⟩) [.list (sl [])] []) (by kernel_rfl), by decide, fun o e => (by cases e), Nat.le_refl _, fun y hy => (List.not_mem_nil hy).elim⟩
    obtain ⟨h1, -, h3, h4⟩ := hI
    obtain ⟨f, rfl⟩ := hS.ex
    change evS _ _ _ _ = some (.next, _) at hF
    generalize stripS x = s at *
    obtain ⟨st, op, res⟩ := s
    simp only at h1 h3 h4
    have hL := len_str (C := dC n 1) (hp := [.list (sl res)]) (by kernel_rfl) ht
    by_cases hs : st < x.length
    · have f2 := ltT (Int.ofNat_lt.mpr hs)
      have s1 := small_nat (Nat.le_trans h1 (by decide : 10000 ≤ 1000000000))
      have c := cutS_from [.list (sl res)] st ht
      have ha := appAt (hp := [.list (sl res)]) (k := 0) (v := .str (x.drop st)) (fz := []) rfl rfl (by rw [List.length_map]; omega)
      have hJ := joinL (hp := [.list (sl res ++ [.str (x.drop st)])]) (k := 0) (zs := res ++ [x.drop st]) rfl (by rw [sl_snoc]; simpa using allStrs_map (fun y => y) (res ++ [x.drop st])) (by
        refine Nat.le_trans (sum_900 _ fun y hy => ?_) (by rw [List.length_append, List.length_singleton]; omega)
        rcases List.mem_append.mp hy with h | h
        · exact h4 y h
        · rw [List.mem_singleton.mp h, List.length_drop]; exact Nat.le_trans (Nat.sub_le _ _) hlen)
      simp only [if_pos hs, if_true]
      exact run_def 1 [oB f1, oS hF, oP hL, oB f2, oP c, oH ha, oP hJ] (by kernel_rfl) (by kernel_rfl) (σ := ⟨upds [("addr", .str x)] (fun _ => none), [], []⟩) (by kernel_rfl)
        (And.intro f1 (And.intro hF (And.intro hL (And.intro f2 (And.intro (rfl : true = true) (And.intro s1 (And.intro c (And.intro ha (And.intro hJ (tdS (fz := []) (hp := []) (x := (res ++ [x.drop st]).flatten))))))))))) (by kernel_rfl)
    · have f2 := ltF (fun e => hs (Int.ofNat_lt.mp e) : ¬ ((st : Nat) : Int) < ((x.length : Nat) : Int))
      have hJ := joinL (hp := [.list (sl res)]) (k := 0) (zs := res) rfl (by simpa using allStrs_map (fun y => y) res) (Nat.le_trans (sum_900 _ h4) (by omega))
      simp only [if_neg hs, if_true, List.append_nil]
      exact run_def 1 [oB f1, oS hF, oP hL, oB f2, oP hJ] (by kernel_rfl) (by kernel_rfl) (σ := ⟨upds [("addr", .str x)] (fun _ => none), [], []⟩) (by kernel_rfl)
        (And.intro f1 (And.intro hF (And.intro hL (And.intro f2 (And.intro hJ (tdS (fz := []) (hp := []) (x := res.flatten))))))) (by kernel_rfl)
end Mine

namespace Mine
set_option linter.unusedSimpArgs false
open PySem
set_option maxRecDepth 20000

set_option linter.unusedVariables false

theorem loopF_inv {α S : Type} {step : α → S → AF × S} (P : Nat → S → Prop) : ∀ (l : List α) (k : Nat) (s : S), (∀ i x, l[i]? = some x → ∀ s, P (k + i) s → P (k + i + 1) (step x s).2) → (∀ x s, (step x s).1 = .next) → P k s → P (k + l.length) (loopF step l s).2
  | [], k, s, _, _, h => h
  | x :: xs, k, s, hs, hn, h => by
    have h1 := hs 0 x rfl s h
    have ih := loopF_inv P xs (k + 1) (step x s).2 (fun i y hy s hr => by
      have := hs (i + 1) y (by simpa using hy) s (by rw [show k + (i + 1) = k + 1 + i by omega]; exact hr)
      rw [show k + (i + 1) + 1 = k + 1 + i + 1 by omega] at this
      exact this) hn h1
    rw [loopF]
    have h2 := hn x s
    cases he : step x s with
    | mk a b =>
      rw [he] at h2 ih
      simp only at h2 ih
      subst h2
      rw [List.length_cons, show k + (xs.length + 1) = k + 1 + xs.length by omega]
      exact ih

theorem strip_fit {x : List Nat} (hx : x.all (fun c => decide (c < 128)) = true) (hlen : x.length ≤ 900) : (stripF x).all (fun c => decide (c < 128)) = true ∧ (stripF x).length ≤ 1000000 := by
  unfold stripF
  split
  · have h := loopF_inv (step := stripStep x) (fun i s => s.res.length ≤ i ∧ ∀ y ∈ s.res, y.length ≤ 900 ∧ ∀ c ∈ y, c ∈ x) (escN false 0 x) 0 ⟨0, none, []⟩ (by
      rintro i ⟨p, t⟩ hq ⟨st, op, res⟩ ⟨h1, h2⟩
      simp only at h1 h2
      unfold stripStep
      by_cases ht : t = [34]
      · cases op with
        | none =>
          simp only [ht, if_true]
          exact ⟨by (clear hx hlen hq h2 ht; omega), h2⟩
        | some o =>
          simp only [ht, if_true]
          by_cases hso : st = o
          · simp only [hso, ne_eq, not_true_eq_false, if_false]
            exact ⟨by (clear hx hlen hq h2 ht hso; omega), h2⟩
          · simp only [ne_eq, hso, not_false_eq_true, if_true]
            refine ⟨by simp; (clear hx hlen hq h2 ht hso; omega), fun y hy => ?_⟩
            rcases List.mem_append.mp hy with h | h
            · exact h2 y h
            · rw [List.mem_singleton] at h; subst h
              exact ⟨by rw [List.length_drop, List.length_take]; (clear hx hq h1 h2 ht hso hy; omega), fun c hc => List.mem_of_mem_take (List.mem_of_mem_drop hc)⟩
      · simp only [ht, if_false]
        exact ⟨by (clear hx hlen hq h2 ht; omega), h2⟩) (fun x s => rfl) ⟨by simp, by simp⟩
    obtain ⟨h1, h2⟩ := h
    change (stripS x).res.length ≤ _ at h1
    change ∀ y ∈ (stripS x).res, _ at h2
    have hi2 := escN_len false 0 x
    have h3 : ∀ y ∈ (stripS x).res ++ (if (stripS x).start < x.length then [x.drop (stripS x).start] else []), y.length ≤ 900 ∧ ∀ c ∈ y, c ∈ x := by
      intro y hy
      rcases List.mem_append.mp hy with h | h
      · exact h2 y h
      · split at h
        · rw [List.mem_singleton] at h; subst h
          exact ⟨by rw [List.length_drop]; (clear hx h1 h2 hi2 hy; omega), fun c hc => List.mem_of_mem_drop hc⟩
        · cases h
    constructor
    · rw [List.all_eq_true] at hx ⊢
      intro c hc
      obtain ⟨y, hy, hcy⟩ := List.mem_flatten.mp hc
      exact hx c ((h3 y hy).2 c hcy)
    · have hsum : ∀ l : List (List Nat), (∀ y ∈ l, y.length ≤ 900) → l.flatten.length ≤ l.length * 900 := by
        intro l
        induction l with
        | nil => intro _; simp
        | cons y l ih =>
          intro h
          have h1 := h y List.mem_cons_self
          have h2 := ih fun z hz => h z (List.mem_cons_of_mem _ hz)
          simp only [List.flatten_cons, List.length_append, List.length_cons]; (clear hx hlen hi2 h3 ih h; omega)
      have h4 := hsum _ fun y hy => (h3 y hy).1
      rw [List.length_append] at h4
      have h5 : (if (stripS x).start < x.length then [x.drop (stripS x).start] else []).length ≤ 1 := by split <;> simp
      omega
  · exact ⟨hx, by omega⟩

theorem loopF_ret {α S : Type} {step : α → S → AF × S} {v : AV} (h : ∀ x s, (step x s).1 = .next ∨ (step x s).1 = .ret v) : ∀ (l : List α) (s : S), (loopF step l s).1 = .next ∨ (loopF step l s).1 = .ret v
  | [], _ => .inl rfl
  | x :: xs, s => by
    rw [loopF]
    have h1 := h x s
    have ih := loopF_ret h xs (step x s).2
    cases he : step x s with
    | mk a b =>
      rw [he] at h1 ih
      rcases h1 with h1 | h1
      · simp only at h1; subst h1; exact ih
      · simp only at h1; subst h1; exact .inr rfl

noncomputable def checkStep (t : List Nat) (o : Int) : AF × Int := if t = [40] then (.next, o + 1) else if t = [41] then (if o - 1 < 0 then (.ret (.bool false), o - 1) else (.next, o - 1)) else (.next, o)
noncomputable def chkR (r : AF × Int) : Bool := match r with
  | (.next, o) => decide (o = 0)
  | _ => false
noncomputable def checkQ (q : Nat × List Nat) (o : Int) : AF × Int := checkStep q.2 o
noncomputable def checkF (x : List Nat) : Bool := chkR (loopF checkQ (escN false 0 (stripF x)) 0)

section
variable {n : Nat}
theorem check_body {q : Nat × List Nat} {o : Int} {σ : AS} (hS : St [("opens", .int o)] [] [] σ) :
    ∃ r, (bindT (dC n 2) (fT (sA (dB 2) 2)) (.two (.int q.1) (.str q.2)) σ).bind (evSs (dC n 2) 56 (fB (sA (dB 2) 2))) = some r ∧ r.1 = (checkQ q o).1 ∧ St [("opens", .int (checkQ q o).2)] [] [] r.2 := by
  obtain ⟨f, rfl⟩ := hS.ex
  obtain ⟨p, t⟩ := q
  unfold checkQ checkStep
  by_cases h40 : t = [40]
  · simp only [if_pos h40]
    have f1 := eqsT h40
    have hE := endP .next [("opens", .int (o + 1))] [] []
    exact body_run [oB f1] hE (And.intro f1 hE) (by kernel_rfl)
  · simp only [if_neg h40]
    have f1 := eqsF h40
    by_cases h41 : t = [41]
    · simp only [if_pos h41]
      have f2 := eqsT h41
      by_cases ho : o - 1 < 0
      · simp only [if_pos ho]
        have f3 := ltT ho
        have hE := endP (.ret (.bool false)) [("opens", .int (o - 1))] [] []
        exact body_run [oB f1, oB f2, oB f3] hE (And.intro f1 (And.intro f2 (And.intro f3 hE))) (by kernel_rfl)
      · simp only [if_neg ho]
        have f3 := ltF ho
        have hE := endP .next [("opens", .int (o - 1))] [] []
        exact body_run [oB f1, oB f2, oB f3] hE (And.intro f1 (And.intro f2 (And.intro f3 hE))) (by kernel_rfl)
    · simp only [if_neg h41]
      have f2 := eqsF h41
      have hE := endP .next [("opens", .int o)] [] []
      exact body_run [oB f1, oB f2] hE (And.intro f1 (And.intro f2 hE)) (by kernel_rfl)
end
theorem gen_esc {n i : Nat} {x : List Nat} (hx : x.all (fun c => decide (c < 128)) = true) (ht : x.length ≤ 1000000) : (dC n i).gen "_iter_escaped_chars" [.val (.str x)] = some ((escN false 0 x).map (fun q => It.two (.int q.1) (.str q.2)), true) := by
  show genSpec "_iter_escaped_chars" [.val (.str x)] = _
  unfold genSpec
  rw [if_pos rfl]
  show (if (x.all (fun c => decide (c < 128)) && decide (x.length ≤ textLine)) = true then some (escI false 0 x, true) else none) = _
  rw [hx, escI_eq false 0 x (fun h => by cases h)]
  exact if_pos (decide_eq_true ht)
theorem loopG_F {α S : Type} (step : α → S → AF × S) : ∀ (l : List α) (s : S), (loopG true step l s) = some (loopF step l s)
  | [], _ => rfl
  | x :: l, s => by
    rw [loopG, loopF]
    cases step x s with
    | mk a b => cases a with
      | next => exact loopG_F step l b
      | brk => rfl
      | ret v => rfl
theorem run_check (n : Nat) (x : List Nat) (hx : x.all (fun c => decide (c < 128)) = true) (hlen : x.length ≤ 900) : runFn (n+2) "_check_parenthesis" [.val (.str x)] = some (.val (.bool (checkF x))) := by
  obtain ⟨f1, f2⟩ := strip_fit hx hlen
  have c1 := call_fn (m := n+1) (n := 2) (hp := []) (args := [.str x]) (by kernel_rfl) (by kernel_rfl) (by kernel_rfl) (run_strip n x hx hlen) (sh_val (v := .str (stripF x)) rfl)
  unfold checkF
  generalize stripF x = y at *
  obtain ⟨i, σ', hi, hS, hF⟩ := for_gen (C := dC (n+1) 2) (n := 56) (st := sA (dB 2) 2) (σ := ⟨upds [("opens", .int 0), ("addr", .str y), ("addr", .str x)] (fun _ => none), [], []⟩)
    "_iter_escaped_chars" [.str y] [.val (.str y)] true checkQ (fun _ o σ => St [("opens", .int o)] [] [] σ) (fun q => .two (.int q.1) (.str q.2)) (escN false 0 y) 0
    (by kernel_rfl) (by kernel_rfl) (by kernel_rfl) (by kernel_rfl) (by kernel_rfl) (gen_esc f1 f2) (by kernel_rfl) (loopG_F _ _ _)
    (fun i q hq o σ hS => check_body hS) (kcast (stP [("opens", .int 0)] [] []) (by kernel_rfl))
  obtain ⟨f, rfl⟩ := hS.ex
  have hcase := loopF_ret (step := checkQ) (v := .bool false) (fun q s => by
    unfold checkQ checkStep
    by_cases h40 : q.2 = [40]
    · rw [if_pos h40]; exact .inl rfl
    · by_cases h41 : q.2 = [41]
      · rw [if_neg h40, if_pos h41]
        by_cases ho : s - 1 < 0
        · rw [if_pos ho]; exact .inr rfl
        · rw [if_neg ho]; exact .inl rfl
      · rw [if_neg h40, if_neg h41]; exact .inl rfl) (escN false 0 y) 0
  generalize loopF checkQ (escN false 0 y) 0 = r at *
  obtain ⟨a, o⟩ := r
  rcases hcase with h | h
  · cases h
    have f3 : ∀ hp, evCmp .Eq (.int o) (.int 0) hp = some (decide (o = 0)) := fun _ => cEqI
    exact run_def 2 [oP c1, oS hF, oB f3] (by kernel_rfl) (by kernel_rfl) (σ := ⟨upds [("addr", .str x)] (fun _ => none), [], []⟩) (by kernel_rfl)
      (And.intro c1 (And.intro hF (And.intro f3 (tdB (fz := []) (hp := []) (i := decide (o = 0)))))) (by kernel_rfl)
  · cases h
    exact run_def 2 [oP c1, oS hF] (by kernel_rfl) (by kernel_rfl) (σ := ⟨upds [("addr", .str x)] (fun _ => none), [], []⟩) (by kernel_rfl)
      (And.intro c1 (And.intro hF (tdB (fz := []) (hp := []) (i := false)))) (by kernel_rfl)

/-! weighed -/
noncomputable def firstF (w : List Bool) : List Nat := (w.map fun b => if b then List.replicate (w.count false) 41 else List.replicate (w.count true) 40).flatten
noncomputable def secondF (w : List Bool) : List Nat := (w.map fun b => if b then List.replicate (w.count false) 40 else List.replicate (w.count true) 41).flatten
noncomputable def weighedF (w : List Bool) (hid : List Nat) : List Nat := firstF w ++ List.replicate (w.length - 1) 40 ++ hid ++ secondF w ++ List.replicate (w.length - 1) 41
theorem count_tf (w : List Bool) : w.count true + w.count false = w.length := by
  induction w with
  | nil => rfl
  | cons b w ih => cases b <;> simp <;> omega
theorem sum_le (l : List (List Nat)) (m : Nat) (h : ∀ y ∈ l, y.length ≤ m) : (l.map List.length).sum ≤ l.length * m := by
  induction l with
  | nil => simp
  | cons y l ih =>
    have h1 := h y List.mem_cons_self
    have h2 := ih fun z hz => h z (List.mem_cons_of_mem _ hz)
    simp only [List.map_cons, List.sum_cons, List.length_cons, Nat.add_mul]; omega
theorem first_sum (w : List Bool) (a b : List Nat) (hw : w.length ≤ 100) (ha : a.length ≤ 100) (hb : b.length ≤ 100) : ((w.map fun x => if x = true then a else b).map List.length).sum ≤ 10000 := by
  have h := sum_le (w.map fun x => if x = true then a else b) 100 (fun y hy => by
    obtain ⟨x, _, rfl⟩ := List.mem_map.mp hy
    split <;> assumption)
  rw [List.length_map] at h
  (clear ha hb; omega)
theorem flat_len (l : List (List Nat)) : l.flatten.length = (l.map List.length).sum := by rw [List.length_flatten]

theorem run_weighed (n : Nat) {l h : Nat} (hl : l < h) (hh : h < 128) (w : List Bool) (hid : List Nat) (hw : w.length ≤ 100) (hhid : hid.length ≤ 100) :
    runFn (n+2) "_law_weighed" [.val (.str (tx l h w)), .val (.str [h]), .val (.str hid)] = some (.val (.str (weighedF w hid))) := by
  have hc := count_tf w
  have ht : (tx l h w).length ≤ 1000000 := by rw [tx_len]; exact Nat.le_trans hw (by decide)
  have hcI : ((tx l h w).length : Int) - ((w.count true : Nat) : Int) = ((w.count false : Nat) : Int) := by rw [tx_len, ← hc, Int.natCast_add, Int.add_comm]; exact Int.add_sub_cancel _ _
  have hb1 : w.count true ≤ 100 := Nat.le_trans List.count_le_length hw
  have hb2 : w.count false ≤ 100 := Nat.le_trans List.count_le_length hw
  have hall := tx_ascii (Nat.lt_trans hl hh) hh w
  have hs1 := first_sum w (List.replicate (w.count false) 41) (List.replicate (w.count true) 40) hw (by rw [List.length_replicate]; exact hb2) (by rw [List.length_replicate]; exact hb1)
  have hs2 := first_sum w (List.replicate (w.count false) 40) (List.replicate (w.count true) 41) hw (by rw [List.length_replicate]; exact hb2) (by rw [List.length_replicate]; exact hb1)
  have g1 : (firstF w).length ≤ 10000 := by unfold firstF; rw [flat_len]; exact hs1
  have g2 : (secondF w).length ≤ 10000 := by unfold secondF; rw [flat_len]; exact hs2
  have c1 := call_fn (m := n+1) (n := 9) (hp := []) (args := [.str (tx l h w), .str [h]]) (by kernel_rfl) (by kernel_rfl) (by kernel_rfl) (run_ups n hl hh w (Nat.le_trans hw (by decide))) (sh_val (v := .int (w.count true : Nat)) rfl)
  have c2 := len_str (C := dC (n+1) 9) (hp := []) (by kernel_rfl) ht
  have m41 := mulS 41 (w.count false) hcI (Nat.le_trans hb2 (by decide))
  have m40 := mulS 40 (d := (w.count true : Nat)) (w.count true) rfl (Nat.le_trans hb1 (by decide))
  have n40 := mulS 40 (w.count false) hcI (Nat.le_trans hb2 (by decide))
  have n41 := mulS 41 (d := (w.count true : Nat)) (w.count true) rfl (Nat.le_trans hb1 (by decide))
  have fT := eqsT (a := [h]) rfl
  have fF := eqsF (a := [l]) (b := [h]) fun e => Nat.ne_of_lt hl (List.cons.inj e).1
  have i1 := iStr [] hall
  have hC := comp_run (C := dC (n+1) 9) (n := 54) (e := eA (cA (aV (sA (dB 9) 2))) 0) (σ := ⟨upds [("right", .int (((tx l h w).length : Nat) - (w.count true : Nat) : Int)), ("up", .int (w.count true : Nat)), ("hidden", .str hid), ("high", .str [h]), ("part", .str (tx l h w))] (fun _ => none), [], []⟩) [oI i1] (fun b => .one (.str [if b then h else l])) w
    (fun b => some (.str (if b = true then List.replicate (w.count false) 41 else List.replicate (w.count true) 40))) [] [] (by kernel_rfl) (by kernel_rfl)
    (And.intro i1 (by rw [tx, List.map_map]; rfl : ((tx l h w).map (fun c => It.one (.str [c])), ([] : List Nat), ([] : List AO)) = (w.map (fun b => .one (.str [if b then h else l])), [], []))) (by kernel_rfl) (Nat.le_trans hw (by decide))
    (fun b _ => by
      cases b with
      | true => exact stepP [oB fT, oM m41] (And.intro fT (And.intro m41 (gotP (.str (List.replicate (w.count false) 41))))) (by kernel_rfl)
      | false => exact stepP [oB fF, oM m40] (And.intro fF (And.intro m40 (gotP (.str (List.replicate (w.count true) 40))))) (by kernel_rfl))
  rw [List.filterMap_eq_map'] at hC
  have j1 := joinL (hp := [.list (w.map fun b => .str (if b = true then List.replicate (w.count false) 41 else List.replicate (w.count true) 40))]) (k := 0) rfl (allStrs_map _ w) (Nat.le_trans hs1 (by decide))
  generalize hL1 : (w.map fun b => AV.str (if b = true then List.replicate (w.count false) 41 else List.replicate (w.count true) 40)) = L1 at *
  change evJoin _ _ = some (.str (firstF w), _) at j1
  have i2 := iStr [.list L1] hall
  have hD := comp_run (C := dC (n+1) 9) (n := 53) (e := eA (cA (aV (sA (dB 9) 3))) 0) (σ := ⟨upds [("first", .str (firstF w)), ("right", .int (((tx l h w).length : Nat) - (w.count true : Nat) : Int)), ("up", .int (w.count true : Nat)), ("hidden", .str hid), ("high", .str [h]), ("part", .str (tx l h w))] (fun _ => none), [.list L1], []⟩) [oI i2] (fun b => .one (.str [if b then h else l])) w
    (fun b => some (.str (if b = true then List.replicate (w.count false) 40 else List.replicate (w.count true) 41))) [] [.list L1] (by kernel_rfl) (by kernel_rfl)
    (And.intro i2 (by rw [tx, List.map_map]; rfl : ((tx l h w).map (fun c => It.one (.str [c])), ([] : List Nat), [AO.list L1]) = (w.map (fun b => .one (.str [if b then h else l])), [], [AO.list L1]))) (by kernel_rfl) (Nat.le_trans hw (by decide))
    (fun b _ => by
      cases b with
      | true => exact stepP [oB fT, oM n40] (And.intro fT (And.intro n40 (gotP (.str (List.replicate (w.count false) 40))))) (by kernel_rfl)
      | false => exact stepP [oB fF, oM n41] (And.intro fF (And.intro n41 (gotP (.str (List.replicate (w.count true) 41))))) (by kernel_rfl))
  rw [List.filterMap_eq_map'] at hD
  have j2 := joinL (hp := [.list L1, .list (w.map fun b => .str (if b = true then List.replicate (w.count false) 40 else List.replicate (w.count true) 41))]) (k := 1) rfl (allStrs_map _ w) (Nat.le_trans hs2 (by decide))
  generalize (w.map fun b => AV.str (if b = true then List.replicate (w.count false) 40 else List.replicate (w.count true) 41)) = L2 at *
  change evJoin _ _ = some (.str (secondF w), _) at j2
  have hwl : w.length - 1 ≤ 100 := Nat.le_trans (Nat.sub_le _ _) hw
  by_cases h0 : w = []
  · subst h0
    have m1 : ∀ hp, evBin .Mult (.str [40]) (.int (((tx l h []).length : Nat) - (List.count true ([] : List Bool) : Nat) + (List.count true ([] : List Bool) : Nat) - 1 : Int)) hp = some (.str [], hp) := fun _ => rfl
    have m2 : ∀ hp, evBin .Mult (.str [41]) (.int (((tx l h []).length : Nat) - (List.count true ([] : List Bool) : Nat) + (List.count true ([] : List Bool) : Nat) - 1 : Int)) hp = some (.str [], hp) := fun _ => rfl
    have a1 := addS (firstF []) [] (by decide)
    have a2 := addS (firstF [] ++ []) hid (by rw [List.append_nil]; show 0 + hid.length ≤ _; (clear hl hh fT fF hw hc ht hcI hb1 hb2 hall hs1 hs2 g1 g2 c1 c2 m41 m40 n40 n41 i1 hL1 hC j1 i2 hD j2 hwl m1 m2 a1; omega))
    have a3 := addS (firstF [] ++ [] ++ hid) (secondF []) (by show hid.length + 0 ≤ _; (clear hl hh fT fF hw hc ht hcI hb1 hb2 hall hs1 hs2 g1 g2 c1 c2 m41 m40 n40 n41 i1 hL1 hC j1 i2 hD j2 hwl m1 m2 a1 a2; omega))
    have a4 := addS (firstF [] ++ [] ++ hid ++ secondF []) [] (by show (hid ++ []).length + 0 ≤ _; rw [List.append_nil]; (clear hl hh fT fF hw hc ht hcI hb1 hb2 hall hs1 hs2 g1 g2 c1 c2 m41 m40 n40 n41 i1 hL1 hC j1 i2 hD j2 hwl m1 m2 a1 a2 a3; omega))
    exact run_def 9 [oP c1, oP c2, oP hC, oP j1, oP hD, oP j2, oM m1, oM a1, oM a2, oM a3, oM m2, oM a4] (by kernel_rfl) (by kernel_rfl) (σ := ⟨upds [("hidden", .str hid), ("high", .str [h]), ("part", .str (tx l h []))] (fun _ => none), [], []⟩) (by kernel_rfl)
      (And.intro c1 (And.intro c2 (And.intro hC (And.intro j1 (And.intro hD (And.intro j2 (And.intro m1 (And.intro a1 (And.intro a2 (And.intro a3 (And.intro m2 (And.intro a4 (tdS (fz := []) (hp := []) (x := weighedF [] hid)))))))))))))) (by kernel_rfl)
  · have hr : ((tx l h w).length : Int) - ((w.count true : Nat) : Int) + ((w.count true : Nat) : Int) - 1 = ((w.length - 1 : Nat) : Int) := by
      rw [tx_len, Int.sub_add_cancel, Int.natCast_sub (Nat.one_le_iff_ne_zero.mpr fun e => h0 (List.eq_nil_of_length_eq_zero e))]; rfl
    have m1 := mulS 40 (w.length - 1) hr (Nat.le_trans hwl (by decide))
    have m2 := mulS 41 (w.length - 1) hr (Nat.le_trans hwl (by decide))
    clear hr hcI hs1 hs2 hc hb1 hb2
    have a1 := addS (firstF w) (List.replicate (w.length - 1) 40) (by rw [List.length_replicate]; (clear hl hh hw hhid ht hall g2 c1 c2 m41 m40 n40 n41 fT fF i1 hL1 hC j1 i2 hD j2 h0 m1 m2; omega))
    have a2 := addS (firstF w ++ List.replicate (w.length - 1) 40) hid (by rw [List.length_append, List.length_replicate]; (clear hl hh hw ht hall g2 c1 c2 m41 m40 n40 n41 fT fF i1 hL1 hC j1 i2 hD j2 h0 m1 m2 a1; omega))
    have a3 := addS (firstF w ++ List.replicate (w.length - 1) 40 ++ hid) (secondF w) (by rw [List.length_append, List.length_append, List.length_replicate]; (clear hl hh hw ht hall c1 c2 m41 m40 n40 n41 fT fF i1 hL1 hC j1 i2 hD j2 h0 m1 m2 a1 a2; omega))
    have a4 := addS (firstF w ++ List.replicate (w.length - 1) 40 ++ hid ++ secondF w) (List.replicate (w.length - 1) 41) (by rw [List.length_append, List.length_append, List.length_append, List.length_replicate, List.length_replicate]; (clear hl hh hw ht hall c1 c2 m41 m40 n40 n41 fT fF i1 hL1 hC j1 i2 hD j2 h0 m1 m2 a1 a2 a3; omega))
    exact run_def 9 [oP c1, oP c2, oP hC, oP j1, oP hD, oP j2, oM m1, oM a1, oM a2, oM a3, oM m2, oM a4] (by kernel_rfl) (by kernel_rfl) (σ := ⟨upds [("hidden", .str hid), ("high", .str [h]), ("part", .str (tx l h w))] (fun _ => none), [], []⟩) (by kernel_rfl)
      (And.intro c1 (And.intro c2 (And.intro hC (And.intro j1 (And.intro hD (And.intro j2 (And.intro m1 (And.intro a1 (And.intro a2 (And.intro a3 (And.intro m2 (And.intro a4 (tdS (fz := []) (hp := []) (x := weighedF w hid)))))))))))))) (by kernel_rfl)

/-! slopes -/
noncomputable def slopesF (a b : List Bool) : Bool :=
  let much := a.count true * b.count false
  let less := b.count true * a.count false
  (checkF (List.replicate much 40 ++ List.replicate less 41) == decide (much = less)) && (collB a b == b2i (decide (less < much)) - b2i (decide (much < less)) && collB b a == b2i (decide (much < less)) - b2i (decide (less < much)))
theorem gtN (a b : Nat) : ∀ hp, evCmp .Gt (.int (a : Nat)) (.int (b : Nat)) hp = some (decide (b < a)) := fun _ => by
  rw [cGtI, show decide ((b : Int) < (a : Int)) = decide (b < a) from decide_eq_decide.mpr Int.ofNat_lt]
theorem ltN (a b : Nat) : ∀ hp, evCmp .Lt (.int (a : Nat)) (.int (b : Nat)) hp = some (decide (a < b)) := fun _ => by
  rw [cLtI, show decide ((a : Int) < (b : Int)) = decide (a < b) from decide_eq_decide.mpr Int.ofNat_lt]
theorem subB (a b : Bool) : ∀ hp, evBin .Sub (.bool a) (.bool b) hp = some (.int (b2i a - b2i b), hp) := fun _ => bSubB
theorem run_slopes (n : Nat) {l h : Nat} (hl : l < h) (hh : h < 128) (a b : List Bool) (ha : a.length ≤ 20) (hb : b.length ≤ 20) :
    runFn (n+3) "_law_slopes" [.val (.str (tx l h a)), .val (.str (tx l h b)), .val (.str [h])] = some (.val (.bool (slopesF a b))) := by
  have rest : ∀ x : List Bool, x.length ≤ 20 → ((tx l h x).length : Int) - ((x.count true : Nat) : Int) = ((x.count false : Nat) : Int) := fun x _ => by
    rw [tx_len, ← count_tf x, Int.natCast_add, Int.add_comm]; exact Int.add_sub_cancel _ _
  have cnt : ∀ (x : List Bool) (v : Bool), x.length ≤ 20 → x.count v ≤ 20 := fun x v hx => Nat.le_trans List.count_le_length hx
  have big : ∀ {m : Nat}, m ≤ 20 → m ≤ 1000000000 := fun h => Nat.le_trans h (by decide)
  have ups : ∀ x : List Bool, x.length ≤ 20 → evCall (dC (n+2) 11) "_law_ups" [.str (tx l h x), .str [h]] [] = some (.int (x.count true : Nat), []) := fun x hx =>
    call_fn (m := n+2) (n := 11) (hp := []) (args := [.str (tx l h x), .str [h]]) (by kernel_rfl) (by kernel_rfl) (by kernel_rfl) (run_ups (n+1) hl hh x (Nat.le_trans hx (by decide))) (sh_val (v := .int (x.count true : Nat)) rfl)
  have len : ∀ x : List Bool, x.length ≤ 20 → evCall (dC (n+2) 11) "len" [.str (tx l h x)] [] = some (.int ((tx l h x).length : Nat), []) := fun x hx =>
    len_str (C := dC (n+2) 11) (hp := []) (by kernel_rfl) (by rw [tx_len]; exact Nat.le_trans hx (by decide))
  have coll : ∀ x y : List Bool, evCall (dC (n+2) 11) "_strcoll" [.str (tx l h x), .str (tx l h y)] [] = some (.int (collB x y), []) := fun x y =>
    call_fn (m := n+2) (n := 11) (hp := []) (args := [.str (tx l h x), .str (tx l h y)]) (by kernel_rfl) (by kernel_rfl) (by kernel_rfl) (run_strcoll (n+1) hl x y) (sh_val (v := .int (collB x y)) rfl)
  have uA := ups a ha
  have uB := ups b hb
  have lA := len a ha
  have lB := len b hb
  have xAB := coll a b
  have xBA := coll b a
  have p1 := mulN (rest b hb) (big (cnt a true ha)) (big (cnt b false hb))
  have p2 := mulN (rest a ha) (big (cnt b true hb)) (big (cnt a false ha))
  unfold slopesF
  have m1 : a.count true * b.count false ≤ 400 := Nat.mul_le_mul (cnt a true ha) (cnt b false hb)
  have m2 : b.count true * a.count false ≤ 400 := Nat.mul_le_mul (cnt b true hb) (cnt a false ha)
  clear rest cnt big ups len coll ha hb
  generalize a.count true * b.count false = much at *
  generalize b.count true * a.count false = less at *
  have r1 := mulS 40 (d := (much : Nat)) much rfl (Nat.le_trans m1 (by decide))
  have r2 := mulS 41 (d := (less : Nat)) less rfl (Nat.le_trans m2 (by decide))
  have r3 := addS (List.replicate much 40) (List.replicate less 41) (by rw [List.length_replicate, List.length_replicate]; (clear hl hh uA uB lA lB xAB xBA p1 p2 r1 r2; omega))
  have ck := call_fn (m := n+2) (n := 11) (hp := []) (args := [.str (List.replicate much 40 ++ List.replicate less 41)]) (by kernel_rfl) (by kernel_rfl) (by kernel_rfl) (run_check n (List.replicate much 40 ++ List.replicate less 41) (by simp) (by rw [List.length_append, List.length_replicate, List.length_replicate]; (clear hl hh uA uB lA lB xAB xBA p1 p2 r1 r2 r3; omega))) (sh_val (v := .bool (checkF (List.replicate much 40 ++ List.replicate less 41))) rfl)
  have e1 := eqNat much less
  have g1 := gtN much less
  have g2 := ltN much less
  have s1 := subB (decide (less < much)) (decide (much < less))
  have s2 := subB (decide (much < less)) (decide (less < much))
  clear m1 m2
  simp only
  generalize checkF (List.replicate much 40 ++ List.replicate less 41) = ch at *
  by_cases hc : ch = decide (much = less)
  · have i1 := isNotF hc
    rw [show (ch == decide (much = less)) = true from beq_iff_eq.mpr hc]
    by_cases hd : collB a b = b2i (decide (less < much)) - b2i (decide (much < less))
    · have i2 := neiF hd
      rw [show (collB a b == b2i (decide (less < much)) - b2i (decide (much < less))) = true from beq_iff_eq.mpr hd]
      have e2 : ∀ hp, evCmp .Eq (.int (collB b a)) (.int (b2i (decide (much < less)) - b2i (decide (less < much)))) hp = some (collB b a == b2i (decide (much < less)) - b2i (decide (less < much))) := fun _ => by
        rw [cEqI]; rfl
      exact run_def 11 [oP uA, oP lB, oP uB, oM p1, oP uB, oP lA, oP uA, oM p2, oM r1, oM r2, oM r3, oP ck, oB e1, oB i1, oP xAB, oB g1, oB g2, oM s1, oB i2, oP xBA, oB g2, oB g1, oM s2, oB e2] (by kernel_rfl) (by kernel_rfl) (σ := ⟨upds [("high", .str [h]), ("behind", .str (tx l h b)), ("before", .str (tx l h a))] (fun _ => none), [], []⟩) (by kernel_rfl)
        (And.intro uA (And.intro lB (And.intro uB (And.intro p1 (And.intro uB (And.intro lA (And.intro uA (And.intro p2 (And.intro r1 (And.intro r2 (And.intro r3 (And.intro ck (And.intro e1 (And.intro i1 (And.intro xAB (And.intro g1 (And.intro g2 (And.intro s1 (And.intro i2 (And.intro xBA (And.intro g2 (And.intro g1 (And.intro s2 (And.intro e2
          (tdB (fz := []) (hp := []) (i := collB b a == b2i (decide (much < less)) - b2i (decide (less < much)))))))))))))))))))))))))))) (by kernel_rfl)
    · have i2 := neiT hd
      rw [show (collB a b == b2i (decide (less < much)) - b2i (decide (much < less))) = false from beq_eq_false_iff_ne.mpr hd]
      exact run_def 11 [oP uA, oP lB, oP uB, oM p1, oP uB, oP lA, oP uA, oM p2, oM r1, oM r2, oM r3, oP ck, oB e1, oB i1, oP xAB, oB g1, oB g2, oM s1, oB i2] (by kernel_rfl) (by kernel_rfl) (σ := ⟨upds [("high", .str [h]), ("behind", .str (tx l h b)), ("before", .str (tx l h a))] (fun _ => none), [], []⟩) (by kernel_rfl)
        (And.intro uA (And.intro lB (And.intro uB (And.intro p1 (And.intro uB (And.intro lA (And.intro uA (And.intro p2 (And.intro r1 (And.intro r2 (And.intro r3 (And.intro ck (And.intro e1 (And.intro i1 (And.intro xAB (And.intro g1 (And.intro g2 (And.intro s1 (And.intro i2 (tdB (fz := []) (hp := []) (i := false))))))))))))))))))))) (by kernel_rfl)
  · have i1 := isNotT hc
    rw [show (ch == decide (much = less)) = false from beq_eq_false_iff_ne.mpr hc]
    exact run_def 11 [oP uA, oP lB, oP uB, oM p1, oP uB, oP lA, oP uA, oM p2, oM r1, oM r2, oM r3, oP ck, oB e1, oB i1] (by kernel_rfl) (by kernel_rfl) (σ := ⟨upds [("high", .str [h]), ("behind", .str (tx l h b)), ("before", .str (tx l h a))] (fun _ => none), [], []⟩) (by kernel_rfl)
      (And.intro uA (And.intro lB (And.intro uB (And.intro p1 (And.intro uB (And.intro lA (And.intro uA (And.intro p2 (And.intro r1 (And.intro r2 (And.intro r3 (And.intro ck (And.intro e1 (And.intro i1 (tdB (fz := []) (hp := []) (i := false)))))))))))))))) (by kernel_rfl)
end Mine

namespace Mine
set_option linter.unusedSimpArgs false
open PySem
set_option maxRecDepth 20000

set_option linter.unusedVariables false

/-! rulers -/
noncomputable def markStep (row : List Nat) (place : Nat) (q : Nat × Nat) (told : Nat) : AF × Nat :=
  if q.1 = 127 then (.ret (.bool false), told) else if q.1 = 0 then (.ret (.bool (decide (((place : Int) - (told : Int)).fmod ((row.getD (q.2 - 1) 0 : Nat) : Int) = 0))), told) else
    if place ≤ told + q.1 then (.ret (.bool (decide (told + q.1 = place))), told + q.1) else (.next, told + q.1)
noncomputable def markR : AF × Nat → Bool
  | (.ret (.bool b), _) => b
  | _ => false
noncomputable def markF (row : List Nat) (place : Nat) : Bool := markR (loopF (markStep row place) row.zipIdx 0)
/-- a nought does not stand first, nor behind a nought -/
noncomputable def zeroOk (row : List Nat) : Bool := row.zipIdx.all fun q => q.1 != 0 || (decide (1 ≤ q.2) && row.getD (q.2 - 1) 0 != 0)

section
variable {n : Nat}
noncomputable abbrev markV (place told : Nat) : List (Str × AV) := [("row", .ref 0), ("place", .int place), ("told", .int told)]
theorem mark_body {row : List Nat} {place told : Nat} {q : Nat × Nat} {σ : AS} (h0 : q.1 = 0 → 1 ≤ q.2 ∧ row.getD (q.2 - 1) 0 ≠ 0) (hk : q.2 < row.length) (hl : row.length ≤ 100)
    (hS : St (markV place told) [.list (nl row)] [0, 0] σ) :
    ∃ r, (bindT (dC n 5) (fT (sA (dB 5) 1)) (.two (.int q.2) (.int q.1)) σ).bind (evSs (dC n 5) 57 (fB (sA (dB 5) 1))) = some r ∧ r.1 = (markStep row place q told).1 ∧
      St (markV place (markStep row place q told).2) [.list (nl row)] [0, 0] r.2 := by
  obtain ⟨f, rfl⟩ := hS.ex
  obtain ⟨v, k⟩ := q
  unfold markStep
  by_cases e1 : v = 127
  · rw [if_pos e1]
    have f1 := eqiT (show (v : Int) = 127 from congrArg _ e1)
    have hE := endP (.ret (.bool false)) (markV place told) [.list (nl row)] [0, 0]
    exact body_run [oB f1] hE (And.intro f1 hE) (by kernel_rfl)
  · rw [if_neg e1]
    have f1 := eqiF (show ¬ (v : Int) = 127 from fun e => e1 (Int.ofNat.inj e))
    by_cases e2 : v = 0
    · rw [if_pos e2]
      obtain ⟨hk1, hz⟩ := h0 e2
      simp only at hk1 hz hk
      have f2 := eqiT (show (v : Int) = 0 from congrArg _ e2)
      have g1 := list_nat (hp := [.list (nl row)]) (k := 0) (i := k - 1) (tops := row) rfl (Nat.lt_of_le_of_lt (Nat.sub_le _ _) hk) (Nat.le_trans (Nat.sub_le _ _) (Nat.le_trans (Nat.le_of_lt hk) (Nat.le_trans hl (by decide))))
      rw [Int.natCast_sub hk1] at g1
      have f3 := modI (a := (place : Int) - (told : Int)) (b := (row.getD (k - 1) 0 : Nat)) fun e => hz (Int.ofNat.inj e)
      have f4 : ∀ hp, evCmp .Eq (.int (((place : Int) - (told : Int)).fmod ((row.getD (k - 1) 0 : Nat) : Int))) (.int 0) hp = some (decide (((place : Int) - (told : Int)).fmod ((row.getD (k - 1) 0 : Nat) : Int) = 0)) := fun _ => cEqI
      have hE := endP (.ret (.bool (decide (((place : Int) - (told : Int)).fmod ((row.getD (k - 1) 0 : Nat) : Int) = 0)))) (markV place told) [.list (nl row)] [0, 0]
      exact body_run [oB f1, oB f2, oV g1, oM f3, oB f4] hE (And.intro f1 (And.intro f2 (And.intro g1 (And.intro f3 (And.intro f4 hE))))) (by kernel_rfl)
    · rw [if_neg e2]
      have f2 := eqiF (show ¬ (v : Int) = 0 from fun e => e2 (Int.ofNat.inj e))
      by_cases e3 : place ≤ told + v
      · rw [if_pos e3]
        have f3 := geT (Int.ofNat_le.mpr e3)
        have f4 := eqNat (told + v) place
        have hE := endP (.ret (.bool (decide (told + v = place)))) (markV place (told + v)) [.list (nl row)] [0, 0]
        exact body_run [oB f1, oB f2, oB f3, oB f4] hE (And.intro f1 (And.intro f2 (And.intro f3 (And.intro f4 hE)))) (by kernel_rfl)
      · rw [if_neg e3]
        have f3 := geF (fun e => e3 (Int.ofNat_le.mp e) : ¬ ((place : Nat) : Int) ≤ ((told + v : Nat) : Int))
        have hE := endP .next (markV place (told + v)) [.list (nl row)] [0, 0]
        exact body_run [oB f1, oB f2, oB f3] hE (And.intro f1 (And.intro f2 (And.intro f3 hE))) (by kernel_rfl)
theorem mark_end (row : List Nat) (place : Nat) : ∀ (l : List (Nat × Nat)) (s : Nat), (loopF (markStep row place) l s).1 = .next ∨ ∃ b, (loopF (markStep row place) l s).1 = .ret (.bool b)
  | [], _ => .inl rfl
  | q :: l, s => by
    have ih := mark_end row place l (s + q.1)
    rw [loopF]
    unfold markStep at ih ⊢
    by_cases e1 : q.1 = 127
    · rw [if_pos e1]; exact .inr ⟨_, rfl⟩
    · rw [if_neg e1]
      by_cases e2 : q.1 = 0
      · rw [if_pos e2]; exact .inr ⟨_, rfl⟩
      · rw [if_neg e2]
        by_cases e3 : place ≤ s + q.1
        · rw [if_pos e3]; exact .inr ⟨_, rfl⟩
        · rw [if_neg e3]; exact ih
theorem run_marked (n : Nat) (row : List Nat) (place : Nat) (h0 : zeroOk row = true) (hp : 1 ≤ place) (hl : row.length ≤ 100) :
    runFn (n+1) "_law_marked" [.lst (row.map fun n : Nat => .int n), .val (.int place)] = some (.val (.bool (markF row place))) := by
  have hI := enumI (hp := [.list (nl row)]) (i := 0) rfl
  obtain ⟨i, σ', hi, hS, hF⟩ := for_run (C := dC n 5) (n := 57) (st := sA (dB 5) 1) (σ := ⟨upds [("told", .int 0), ("place", .int place), ("row", .ref 0)] (fun _ => none), [.list (nl row)], [0]⟩) [oI hI] (markStep row place)
    (fun _ s σ => St (markV place s) [.list (nl row)] [0, 0] σ) (fun q : Nat × Nat => .two (.int q.2) (.int q.1)) row.zipIdx 0 [0] [.list (nl row)] (by kernel_rfl) (by kernel_rfl)
    (And.intro hI (by rw [List.zipIdx_map, List.map_map]; rfl : ((nl row).zipIdx.map (fun p => It.two (.int p.2) p.1), [0], [AO.list (nl row)]) = (row.zipIdx.map (fun q : Nat × Nat => It.two (.int q.2) (.int q.1)), [0], [AO.list (nl row)]))) (by kernel_rfl)
    (fun i x hx s σ hS => by
      have hz := List.all_eq_true.mp h0 _ (List.mem_of_getElem? hx)
      have hm := List.mem_zipIdx (List.mem_of_getElem? hx)
      rw [Nat.zero_add] at hm
      refine mark_body (fun e => ?_) hm.2.1 hl hS
      rw [e] at hz
      have := Bool.and_eq_true_iff.mp hz
      exact ⟨of_decide_eq_true this.1, bne_iff_ne.mp this.2⟩)
    (kcast (stP (markV place 0) [.list (nl row)] [0, 0]) (by kernel_rfl))
  obtain ⟨f, rfl⟩ := hS.ex
  have hA := all_ints row
  unfold markF
  have hc := mark_end row place row.zipIdx 0
  generalize loopF (markStep row place) row.zipIdx 0 = r at *
  obtain ⟨a, o⟩ := r
  have hlay : layArgs (dA 5) [.lst (nl row), .val (.int place)] as0 = some ⟨upds [("place", .int place), ("row", .ref 0)] (fun _ => none), [.list (nl row)], [0]⟩ := lay_lst (by kernel_rfl) hA (by kernel_rfl)
  rcases hc with rfl | ⟨b, rfl⟩
  · exact run_def 5 [oS hF] (by kernel_rfl) (by kernel_rfl) hlay (And.intro hF (tdB (fz := [0]) (hp := [.list (nl row)]) (i := false))) (by kernel_rfl)
  · exact run_def 5 [oS hF] (by kernel_rfl) (by kernel_rfl) hlay (And.intro hF (tdB (fz := [0]) (hp := [.list (nl row)]) (i := b))) (by kernel_rfl)
end

noncomputable def grpN : Option Nat → List Nat → Option (List Nat × Bool)
  | _, [] => some ([], true)
  | last, v :: r => if v = 127 then some ([], true) else if v = 0 then last.map fun l => (List.replicate 12 l, false) else
    (grpN (some v) r).map fun p => (v :: p.1, p.2)
theorem grpI_eq : ∀ (row : List Nat) (last : Option Nat), grpI (last.map fun n : Nat => (n : Int)) (row.map fun n : Nat => (n : Int)) = (grpN last row).map fun p => (p.1.map fun n : Nat => .one (.int n), p.2)
  | [], _ => rfl
  | v :: r, last => by
    rw [List.map_cons, grpI, grpN]
    by_cases h1 : v = 127
    · subst h1; rfl
    · have h1' : ¬ (v : Int) = 127 := by omega
      by_cases h2 : v = 0
      · subst h2
        cases last <;> simp
      · have h2' : ¬ (v : Int) = 0 := by omega
        have ih := grpI_eq r (some v)
        simp only [Option.map_some] at ih
        simp only [h1, h1', h2, h2', if_false, ih, Option.map_map]
        rfl
noncomputable def wStep (v : Nat) (s : Nat × List Nat) : AF × (Nat × List Nat) :=
  if v = 127 then (.ret (.str []), s) else if 11 < s.1 + v then (.brk, (s.1 + v, s.2)) else (.next, (s.1 + v, s.2 ++ [s.1 + v]))
noncomputable def writtenF (row : List Nat) : Option (List Bool) := (grpN none row).bind fun q => match loopG q.2 wStep q.1 (0, []) with
  | some (.next, s) => if q.1.length ≤ 1000 then some ((List.range' 1 11).map fun p => s.2.contains p) else none
  | _ => none

section
variable {n l h : Nat}
noncomputable abbrev wrV (l h at' : Nat) : List (Str × AV) := [("marks", .ref 1), ("at", .int at'), ("low", .str [l]), ("high", .str [h])]
theorem written_body {row marks : List Nat} {at' v : Nat} {σ : AS} (hm : marks.length ≤ 1000000) (hS : St (wrV l h at') [.list (nl row), .list (nl marks)] [0, 0] σ) :
    ∃ r, (bindT (dC n 6) (fT (sA (dB 6) 2)) (.one (.int v)) σ).bind (evSs (dC n 6) 56 (fB (sA (dB 6) 2))) = some r ∧ r.1 = (wStep v (at', marks)).1 ∧
      St (wrV l h (wStep v (at', marks)).2.1) [.list (nl row), .list (nl (wStep v (at', marks)).2.2)] [0, 0] r.2 := by
  obtain ⟨f, rfl⟩ := hS.ex
  unfold wStep
  by_cases e1 : v = 127
  · rw [if_pos e1]
    have f1 := eqiT (show (v : Int) = 127 from congrArg _ e1)
    have hE := endP (.ret (.str [])) (wrV l h at') [.list (nl row), .list (nl marks)] [0, 0]
    exact body_run [oB f1] hE (And.intro f1 hE) (by kernel_rfl)
  · rw [if_neg e1]
    have f1 := eqiF (show ¬ (v : Int) = 127 from fun e => e1 (Int.ofNat.inj e))
    by_cases e2 : 11 < at' + v
    · rw [if_pos e2]
      have f2 := gtT (Int.ofNat_lt.mpr e2)
      have hE := endP .brk (wrV l h (at' + v)) [.list (nl row), .list (nl marks)] [0, 0]
      exact body_run [oB f1, oB f2] hE (And.intro f1 (And.intro f2 hE)) (by kernel_rfl)
    · rw [if_neg e2]
      have f2 := gtF (fun e => e2 (Int.ofNat_lt.mp e) : ¬ ((11 : Nat) : Int) < ((at' + v : Nat) : Int))
      have ha := appAt (hp := [.list (nl row), .list (nl marks)]) (k := 1) (v := .int (at' + v : Nat)) (fz := [0, 0]) rfl rfl (by rw [List.length_map]; exact hm)
      have hE := endP .next (wrV l h (at' + v)) [.list (nl row), .list (nl marks ++ [.int (at' + v : Nat)])] [0, 0]
      obtain ⟨r, e1, e2, e3⟩ := body_run (C := dC n 6) (n := 56) (t := fT (sA (dB 6) 2)) (body := fB (sA (dB 6) 2)) (x := .one (.int v)) (σ := ⟨upds (wrV l h at') f, [.list (nl row), .list (nl marks)], [0, 0]⟩) [oB f1, oB f2, oH ha] hE (And.intro f1 (And.intro f2 (And.intro (rfl : true = true) (And.intro ha hE)))) (by kernel_rfl)
      rw [nl_snoc] at e3
      exact ⟨r, e1, e2, e3⟩
theorem run_written (n : Nat) {l h : Nat} (row : List Nat) (w : List Bool) (hw : writtenF row = some w) :
    runFn (n+1) "_law_written" [.lst (row.map fun n : Nat => .int n), .val (.str [l]), .val (.str [h])] = some (.val (.str (tx l h w))) := by
  unfold writtenF at hw
  obtain ⟨⟨items, fin⟩, h1, hw⟩ := Option.bind_eq_some_iff.mp hw
  simp only at hw
  cases hg : loopG fin wStep items (0, []) with
  | none => rw [hg] at hw; cases hw
  | some ss =>
  obtain ⟨a, at', marks⟩ := ss
  rw [hg] at hw
  cases a with
  | brk => cases hw
  | ret v => cases hw
  | next =>
  by_cases hil : items.length ≤ 1000
  case neg =>
    change (if items.length ≤ 1000 then _ else _) = _ at hw
    rw [if_neg hil] at hw; cases hw
  change (if items.length ≤ 1000 then some ((List.range' 1 11).map fun p => marks.contains p) else none) = _ at hw
  rw [if_pos hil] at hw
  cases hw
  have hgr := grpI_eq row none
  simp only [Option.map_none, h1, Option.map_some] at hgr
  have hA := all_ints row
  have hgen : (dC n 6).gen "_grouping_intervals" [.lst (nl row)] = some (items.map (fun n : Nat => It.one (.int n)), fin) := by
    show genSpec "_grouping_intervals" [.lst (nl row)] = _
    unfold genSpec
    rw [if_neg (by decide +kernel), if_pos rfl]
    show (allInts (nl row)).bind _ = _
    rw [allInts_nat]
    exact hgr
  obtain ⟨i, σ', hi, ⟨hS, h7⟩, hF⟩ := for_gen (C := dC n 6) (n := 56) (st := sA (dB 6) 2) (σ := ⟨upds [("at", .int 0), ("marks", .ref 1), ("high", .str [h]), ("low", .str [l]), ("row", .ref 0)] (fun _ => none), [.list (nl row), .list []], [0]⟩)
    "_grouping_intervals" [.ref 0] [.lst (nl row)] fin wStep (fun i s σ => St (wrV l h s.1) [.list (nl row), .list (nl s.2)] [0, 0] σ ∧ s.2.length ≤ i) (fun n : Nat => .one (.int n)) items (0, [])
    (by kernel_rfl) (by kernel_rfl) (by kernel_rfl) (by kernel_rfl)
    (by show (deep _ (.ref 0)).bind _ = _; rw [deep_lst (hp := [.list (nl row), .list []]) rfl hA]; rfl) hgen (by kernel_rfl) hg
    (fun i v hx s σ ⟨hS, h7⟩ => by
      have hi : i < items.length := (List.getElem?_eq_some_iff.mp hx).1
      obtain ⟨r, e1, e2, e3⟩ := written_body (n := n) (v := v) (Nat.le_trans h7 (Nat.le_trans (Nat.le_of_lt hi) (Nat.le_trans hil (by decide)))) hS
      refine ⟨r, e1, e2, e3, ?_⟩
      unfold wStep
      by_cases e1 : v = 127
      · rw [if_pos e1]; exact Nat.le_succ_of_le h7
      · rw [if_neg e1]
        by_cases e2 : 11 < s.1 + v
        · rw [if_pos e2]; exact Nat.le_succ_of_le h7
        · rw [if_neg e2]
          show (s.2 ++ [s.1 + v]).length ≤ _
          rw [List.length_append]; exact Nat.succ_le_succ h7)
    ⟨kcast (stP (wrV l h 0) [.list (nl row), .list (nl [])] [0, 0]) (by kernel_rfl), Nat.zero_le _⟩
  obtain ⟨f, rfl⟩ := hS.ex
  have hI := iRange [.list (nl row), .list (nl marks)] (a := 1) (b := 12) 1 12 rfl rfl (by decide) (by decide)
  have hC := comp_run (C := dC n 6) (n := 53) (e := eA (cA (rV (sA (dB 6) 3))) 0) (σ := ⟨upds (wrV l h at') f, [.list (nl row), .list (nl marks)], [0]⟩) [oI hI] (fun n : Nat => .one (.int n)) (List.range' 1 11) (fun p => some (.str [if marks.contains p then h else l])) [] [.list (nl row), .list (nl marks)] (by kernel_rfl) (by kernel_rfl)
    (And.intro hI (rfl : ((List.range' 1 11).map (fun n : Nat => It.one (.int n)), ([] : List Nat), [AO.list (nl row), AO.list (nl marks)]) = _)) (by kernel_rfl) (by decide)
    (fun p _ => by
      have hB := inB (hp := [.list (nl row), .list (nl marks)]) (k := 1) (l := marks) p rfl
      cases hm : marks.contains p with
      | true => rw [hm] at hB; exact stepP [oC hB] (And.intro hB (gotP (.str [h]))) (by kernel_rfl)
      | false => rw [hm] at hB; exact stepP [oC hB] (And.intro hB (gotP (.str [l]))) (by kernel_rfl))
  rw [List.filterMap_eq_map'] at hC
  have e3 : ∀ L : List Nat, (L.map fun p => [if marks.contains p = true then h else l]).flatten = tx l h (L.map fun p => marks.contains p) := by
    intro L
    induction L with
    | nil => rfl
    | cons a L ih => rw [List.map_cons, List.flatten_cons, ih]; rfl
  have hJ := joinL (hp := [.list (nl row), .list (nl marks), .list ((List.range' 1 11).map (fun p => .str [if marks.contains p then h else l]))]) (k := 2) rfl (allStrs_map (fun p => [if marks.contains p then h else l]) (List.range' 1 11)) (by rw [List.map_map]; exact (by decide : ((List.range' 1 11).map fun _ => 1).sum ≤ 1000000))
  rw [e3] at hJ
  exact run_def 6 [oS hF, oP hC, oP hJ] (by kernel_rfl) (by kernel_rfl) (σ := ⟨upds [("high", .str [h]), ("low", .str [l]), ("row", .ref 0)] (fun _ => none), [.list (nl row)], [0]⟩) (lay_lst (by kernel_rfl) hA (by kernel_rfl))
    (And.intro hF (And.intro hC (And.intro hJ (tdS (fz := [0]) (hp := []) (x := tx l h ((List.range' 1 11).map fun p => marks.contains p)))))) (by kernel_rfl)
end
end Mine

namespace Mine
open PySem
set_option maxRecDepth 20000
set_option linter.unusedSimpArgs false
set_option linter.unusedVariables false

/-! the law -/
noncomputable def drawsF (ns : List Int) : List Nat := (ns.take 5).map (fun x => (x.fmod 1000000).toNat) ++ [24, 37, 23, 16, 36].drop (ns.take 5).length

theorem sum_cast (l : List Nat) : (l.map fun n : Nat => (n : Int)).sum = ((l.sum : Nat) : Int) := by
  induction l with
  | nil => rfl
  | cons a l ih => rw [List.map_cons, List.sum_cons, List.sum_cons, ih]; (clear ih; omega)
theorem sum_le' (l : List Nat) (m : Nat) (h : ∀ d ∈ l, d ≤ m) : l.sum ≤ l.length * m := by
  induction l with
  | nil => simp
  | cons a l ih =>
    have h1 := h a List.mem_cons_self
    have h2 := ih fun d hd => h d (List.mem_cons_of_mem _ hd)
    rw [List.sum_cons, List.length_cons, Nat.add_mul]; omega
noncomputable def closeF (i : Nat) : List Nat := ([[0, 5], [127, 2], []] : List (List Nat)).getD i []
theorem clos_at {a0 a1 a2 a3 a4 a5 : AO} {X : List AO} {i : Nat} (h : i < 3) : (a0 :: a1 :: a2 :: a3 :: a4 :: a5 :: AO.list [.int 0, .int 5] :: AO.list [.int 127, .int 2] :: AO.list [] :: X)[6 + i]? = some (.list ((closeF i).map fun n : Nat => .int n)) := by
  rcases i with _ | _ | _ | i
  · rfl
  · rfl
  · rfl
  · omega
theorem clos_it {i : Nat} (h : i < 3) {hp : List AO} {k : Nat} (hk : hp[k]? = some (.list [.ref 6, .ref 7, .ref 8])) : evItem (.ref k) (.int (i : Nat)) hp = some (.ref (6 + i)) := by
  refine item_nat hk (by omega) ?_
  rcases i with _ | _ | _ | i
  · rfl
  · rfl
  · rfl
  · omega
noncomputable def hidesF : List (List Nat) := [[34], [92, 40], [34, 40, 34], [92, 41], [34, 41, 34], [34, 92, 34, 41, 34], [92, 92], [34, 41, 34, 34, 40, 34]]
theorem sh1 : (Str.ofString "\\(").cps.toList = [92, 40] := by decide +kernel
theorem sh2 : (Str.ofString "\"(\"").cps.toList = [34, 40, 34] := by decide +kernel
theorem sh3 : (Str.ofString "\\)").cps.toList = [92, 41] := by decide +kernel
theorem sh4 : (Str.ofString "\")\"").cps.toList = [34, 41, 34] := by decide +kernel
theorem sh5 : (Str.ofString "\"\\\")\"").cps.toList = [34, 92, 34, 41, 34] := by decide +kernel
theorem sh6 : (Str.ofString "\\\\").cps.toList = [92, 92] := by decide +kernel
theorem sh7 : (Str.ofString "\")\"\"(\"").cps.toList = [34, 41, 34, 34, 40, 34] := by decide +kernel

/-! the rows -/
noncomputable def scan1 (u r : Nat) : List Bool → Nat → Option Nat
  | [], o => some o
  | true :: w, o => if o < r then none else scan1 u r w (o - r)
  | false :: w, o => scan1 u r w (o + u)
noncomputable def scan2 (u r : Nat) : List Bool → Nat → Option Nat
  | [], o => some o
  | true :: w, o => scan2 u r w (o + r)
  | false :: w, o => if o < u then none else scan2 u r w (o - u)
noncomputable def partOK (w : List Bool) : Bool := match scan1 (w.count true) (w.count false) w 0 with
  | none => false
  | some o => match scan2 (w.count true) (w.count false) w (o + (w.length - 1)) with
    | none => false
    | some o' => o' == w.length - 1
noncomputable def slopesQ (a b : List Bool) : Bool :=
  let much := a.count true * b.count false
  let less := b.count true * a.count false
  collB a b == b2i (decide (less < much)) - b2i (decide (much < less)) && collB b a == b2i (decide (much < less)) - b2i (decide (less < much))
structure PQ where
  last : List Bool
  whole : Bool
  front : List Bool
  stops : List Nat
noncomputable def partStep (p : List Bool) (s : PQ) : AF × PQ :=
  if partOK p = (hullF p).1 then
    (if ((hullF p).1 && !s.last.isEmpty && !slopesQ s.last p) = true then (.ret (.bool false), s) else
      (.next, ⟨if (hullF p).1 then p else [], s.whole && (hullF p).1, if s.whole && (hullF p).1 then s.front ++ p else s.front, if s.whole && (hullF p).1 then s.stops ++ [(s.front ++ p).length] else s.stops⟩))
  else (.ret (.bool false), s)
noncomputable def bodyOK (w : List Bool) : Bool := match loopF partStep (partsF w) ⟨[], true, [], []⟩ with
  | (.next, s) => (hullF w).1 == s.whole && (decide (s.front.length ≤ 50) && ((hullF s.front).1 && (hullF s.front).2 == s.stops))
  | _ => false
noncomputable def rowGood (R : List Nat) : Prop := ∃ w, writtenF R = some w ∧ w.length = 11 ∧ zeroOk R = true ∧ R.length ≤ 100 ∧ (List.range' 1 11).map (markF R) = w ∧ bodyOK w = true

theorem app_one {H : List AO} {k : Nat} {v : AO} (h : H[k]? = some v) (X : List AO) : (H ++ X)[k]? = some v := by
  rw [List.getElem?_append_left (List.getElem?_eq_some_iff.mp h).1]; exact h
theorem app_at {H : List AO} {a : AO} {X : List AO} : (H ++ a :: X)[H.length]? = some a := by simp
theorem app_at1 {H : List AO} {a b : AO} {X : List AO} : (H ++ a :: b :: X)[H.length + 1]? = some b := by
  rw [List.getElem?_append_right (by omega)]
  simp
theorem app_at2 {H : List AO} {a b c : AO} {X : List AO} : (H ++ a :: b :: c :: X)[H.length + 1 + 1]? = some c := by
  rw [List.getElem?_append_right (by omega), show H.length + 1 + 1 - H.length = 2 by omega]
  rfl
theorem app_at2' {H : List AO} {a b c : AO} {X : List AO} : (H ++ a :: b :: c :: X)[H.length + 2]? = some c := app_at2
theorem tup0 {hp : List AO} {k : Nat} {v : AV} {r : List AV} (h : hp[k]? = some (.tup (v :: r))) : evItem (.ref k) (.int 0) hp = some v := by
  unfold evItem
  simp only [h, small0]
  rfl
theorem weighed_fit (p : List Bool) (hid : List Nat) (hp : p.length ≤ 11) (hh : hid ∈ hidesF) : (weighedF p hid).all (fun c => decide (c < 128)) = true ∧ (weighedF p hid).length ≤ 900 := by
  have h1 : ∀ hid ∈ hidesF, hid.all (fun c => decide (c < 128)) = true ∧ hid.length ≤ 10 := by decide
  obtain ⟨h2, h3⟩ := h1 hid hh
  have hc := count_tf p
  have hs : ∀ (a b : List Nat), a.length ≤ 11 → b.length ≤ 11 → ((p.map fun x => if x = true then a else b).flatten).length ≤ 121 := by
    intro a b ha hb
    rw [flat_len]
    have h := sum_le (p.map fun x => if x = true then a else b) 11 (fun y hy => by
      obtain ⟨x, _, rfl⟩ := List.mem_map.mp hy
      split <;> assumption)
    rw [List.length_map] at h
    (clear hh h1 h2 h3 ha hb hc; omega)
  have hf := hs (List.replicate (p.count false) 41) (List.replicate (p.count true) 40) (by simp; (clear hh h1 h2 h3 hs; omega)) (by simp; (clear hh h1 h2 h3 hs; omega))
  have hg := hs (List.replicate (p.count false) 40) (List.replicate (p.count true) 41) (by simp; (clear hh h1 h2 h3 hs hf; omega)) (by simp; (clear hh h1 h2 h3 hs hf; omega))
  change (firstF p).length ≤ 121 at hf
  change (secondF p).length ≤ 121 at hg
  have ha : ∀ (a b : List Nat), (∀ c ∈ a, c < 128) → (∀ c ∈ b, c < 128) → ∀ c ∈ (p.map fun x => if x = true then a else b).flatten, c < 128 := by
    intro a b ha hb c hc
    obtain ⟨y, hy, hcy⟩ := List.mem_flatten.mp hc
    obtain ⟨x, _, rfl⟩ := List.mem_map.mp hy
    split at hcy
    · exact ha c hcy
    · exact hb c hcy
  have rep : ∀ (n k : Nat), k < 128 → ∀ c ∈ List.replicate n k, c < 128 := fun n k hk c hc => by rw [List.eq_of_mem_replicate hc]; exact hk
  constructor
  · rw [List.all_eq_true]
    intro c hc
    rw [decide_eq_true_eq]
    unfold weighedF at hc
    rcases List.mem_append.mp hc with hc | hc
    · rcases List.mem_append.mp hc with hc | hc
      · rcases List.mem_append.mp hc with hc | hc
        · rcases List.mem_append.mp hc with hc | hc
          · exact ha _ _ (rep _ _ (by decide)) (rep _ _ (by decide)) c hc
          · exact rep _ _ (by decide) c hc
        · have := List.all_eq_true.mp h2 c hc
          simpa using this
      · exact ha _ _ (rep _ _ (by decide)) (rep _ _ (by decide)) c hc
    · exact rep _ _ (by decide) c hc
  · unfold weighedF
    simp only [List.length_append, List.length_replicate]
    (clear hh h1 h2 hs ha rep hc; omega)
theorem parts_len {w p : List Bool} (h : p ∈ partsF w) : p.length ≤ w.length := by
  obtain ⟨q, _, rfl⟩ := List.mem_map.mp h
  rw [List.length_drop, List.length_take]; omega
theorem cuts_len (w : List Bool) : (cutsF w).length ≤ w.length + 1 := by
  have h := loopF_inv (step := cutStep w) (fun i s => s.1.length ≤ i) (List.range' 1 (w.length - 1)) 0 ([], 0) (by
    rintro i x hx ⟨a, b⟩ h
    unfold cutStep
    simp only at h ⊢
    split
    · simp only [List.length_append, List.length_singleton]; omega
    · simp only; omega) (fun _ _ => rfl) (by simp)
  rw [List.length_range'] at h
  unfold cutsF
  simp only [List.length_append, List.length_singleton]
  omega
theorem parts_num (w : List Bool) : (partsF w).length ≤ w.length + 1 := by
  have h := cuts_len w
  unfold partsF
  rw [List.length_map, List.length_zip]
  omega
theorem all_tt {α : Type} (L : List α) : (L.all fun _ => true) = true := by simp
theorem pairAt_at {hp : List AO} {i k : Nat} {a : Bool} {ms : List Nat} (h1 : hp[i]? = some (.tup [.bool a, .ref k])) (h3 : hp[k]? = some (.list (ms.map fun n : Nat => .int n))) : pairAt hp i = some (a, ms.map fun n : Nat => (n : Int)) := by
  unfold pairAt
  simp only [h1, h3, allInts_nat, Option.map_some]
theorem nePair {hp : List AO} {i j k m : Nat} {a b : Bool} {ms ns : List Nat} (h1 : hp[i]? = some (.tup [.bool a, .ref k])) (h2 : hp[j]? = some (.tup [.bool b, .ref m])) (h3 : hp[k]? = some (.list (ms.map fun n : Nat => .int n))) (h4 : hp[m]? = some (.list (ns.map fun n : Nat => .int n)))
    (ha : a = b) (hm : ms = ns) : evCmp .NotEq (.ref i) (.ref j) hp = some false := by
  show ((pairAt hp i).bind fun p => (pairAt hp j).map fun q => !(decide (p.1 = q.1) && decide (p.2 = q.2))) = some false
  rw [pairAt_at h1 h3, pairAt_at h2 h4, ha, hm]
  simp
theorem tx_nil {l h : Nat} : tx l h [] = [] := rfl
theorem tx_cons_ne {l h : Nat} {a : Bool} {r : List Bool} : (tx l h (a :: r) = []) = False := by simp [tx]
theorem tx_append {l h : Nat} (a b : List Bool) : tx l h a ++ tx l h b = tx l h (a ++ b) := by simp [tx]
theorem hide_at {hp : List AO} {i : Nat} (h : hp[14]? = some (.list (hidesF.map .str))) (hi : i < 8) : evItem (.ref 14) (.int (i : Nat)) hp = some (.str (hidesF.getD i [])) := by
  refine item_nat h (by omega) ?_
  rw [List.getElem?_map, List.getD, List.getElem?_eq_getElem (show i < hidesF.length from hi)]; rfl
theorem hide_mem {i : Nat} (hi : i < 8) : hidesF.getD i [] ∈ hidesF := by
  rw [List.getD, List.getElem?_eq_getElem (show i < hidesF.length from hi)]
  exact List.getElem_mem _
end Mine

namespace Mine
open PySem
set_option maxRecDepth 20000

theorem listAt_of {hp : List AO} {k : Nat} {xs : List AV} (h : hp[k]? = some (.list xs)) : listAt hp (.ref k) = true := by
  unfold listAt
  simp only [h]
noncomputable abbrev rowS : Stmt := sA (dB 12) 11
noncomputable abbrev partS : Stmt := sA (fB rowS) 6
/-- the heap, as far as it is known -/
structure HB (R1 R2 : List Nat) (H : List AO) : Prop where
  m14 : H[14]? = some (.list (hidesF.map .str))
  m11 : H[11]? = some (.list (nl R1))
  m13 : H[13]? = some (.list (nl R2))
  len : 16 ≤ H.length
theorem HB.app {R1 R2 : List Nat} {H : List AO} (h : HB R1 R2 H) (X : List AO) : HB R1 R2 (H ++ X) :=
  ⟨app_one h.m14 X, app_one h.m11 X, app_one h.m13 X, by rw [List.length_append]; exact Nat.le_add_right_of_le h.len⟩
theorem HB.put {R1 R2 : List Nat} {K : Nat} {H : List AO} (h : HB R1 R2 H) (hK : 16 ≤ K) (a : AO) : HB R1 R2 (H.set K a) :=
  ⟨by rw [List.getElem?_set_ne (by omega)]; exact h.m14, by rw [List.getElem?_set_ne (by omega)]; exact h.m11, by rw [List.getElem?_set_ne (by omega)]; exact h.m13, by rw [List.length_set]; exact h.len⟩
noncomputable abbrev partV (l h : Nat) (w : List Bool) (K seen : Nat) (s : PQ) : List (Str × AV) :=
  [("seen", .int seen), ("low", .str [l]), ("high", .str [h]), ("hides", .ref 14), ("text", .str (tx l h w)), ("last", .str (tx l h s.last)), ("whole", .bool s.whole), ("front", .str (tx l h s.front)), ("stops", .ref K)]
noncomputable def PRep (l h : Nat) (w : List Bool) (R1 R2 : List Nat) (K F seen j : Nat) (s : PQ) (σ : AS) : Prop :=
  ∃ (seen' : Nat) (H : List AO), seen' ≤ seen + j ∧ St (partV l h w K seen' s) H [F, 15, 0] σ ∧ HB R1 R2 H ∧ H[K]? = some (.list (nl s.stops)) ∧ s.last.length ≤ 11 ∧ s.front.length ≤ 11 * j ∧ s.stops.length ≤ j

theorem part_step (n : Nat) {l h : Nat} (hlh : l < h) (hh : h < 128) (hck : ∀ hid ∈ hidesF, ∀ p : List Bool, p.length ≤ 11 → checkF (weighedF p hid) = partOK p) (hsl : ∀ a b : List Bool, slopesF a b = slopesQ a b) {w p : List Bool} {R1 R2 : List Nat} {K F seen j : Nat} {s : PQ} {σ : AS}
    (hp : p.length ≤ 11) (hS : 16 ≤ K) (hKF : K ≠ F) (hj : j < 20) (R : PRep l h w R1 R2 K F seen j s σ) :
    ∃ r, (bindT (dC (n+3) 12) (fT partS) (.one (.str (tx l h p))) σ).bind (evSs (dC (n+3) 12) 39 (fB partS)) = some r ∧ r.1 = (partStep p s).1 ∧ PRep l h w R1 R2 K F seen (j + 1) (partStep p s).2 r.2 := by
  obtain ⟨last, whole, front, stops⟩ := s
  obtain ⟨seen', H, k0, hSt, hB, hK, b1, b2, b3⟩ := R
  obtain ⟨f, rfl⟩ := hSt.ex
  simp only at b1 b2 b3 hK
  have c1 := call_fn (m := n+3) (n := 12) (hp := H) (args := [.str (tx l h p), .str [h]]) (by kernel_rfl) (by kernel_rfl) (by kernel_rfl) (run_hull (n+2) hlh hh p (Nat.le_trans hp (by decide))) (sh_pair rfl (all_ints _))
  have g0 := tup0 (app_at1 (H := H) (a := .list (nl (hullF p).2)) (b := .tup [.bool (hullF p).1, .ref H.length]) (X := []))
  have hB2 := hB.app [.list (nl (hullF p).2), .tup [.bool (hullF p).1, .ref H.length]]
  have hK2 := app_one hK [.list (nl (hullF p).2), .tup [.bool (hullF p).1, .ref H.length]]
  generalize H ++ [AO.list (nl (hullF p).2), .tup [.bool (hullF p).1, .ref H.length]] = H2 at *
  have hs8 : seen' % 8 < 8 := Nat.mod_lt _ (by decide)
  have hm := hide_mem hs8
  obtain ⟨wf1, wf2⟩ := weighed_fit p (hidesF.getD (seen' % 8) []) hp hm
  have m8 : ∀ hp, evBin .Mod (.int (seen' : Nat)) (.int 8) hp = some (.int (seen' % 8 : Nat), hp) := fun _ => md8
  have hd := hide_at hB2.m14 hs8
  have cw := call_fn (m := n+3) (n := 12) (hp := H2) (args := [.str (tx l h p), .str [h], .str (hidesF.getD (seen' % 8) [])]) (by kernel_rfl) (by kernel_rfl) (by kernel_rfl)
    (run_weighed (n+1) hlh hh p _ (Nat.le_trans hp (by decide)) ((by decide : ∀ y ∈ hidesF, y.length ≤ 100) _ hm)) (sh_val (v := .str (weighedF p (hidesF.getD (seen' % 8) []))) rfl)
  have cc := call_fn (m := n+3) (n := 12) (hp := H2) (args := [.str (weighedF p (hidesF.getD (seen' % 8) []))]) (by kernel_rfl) (by kernel_rfl) (by kernel_rfl)
    (run_check (n+1) _ wf1 wf2) (sh_val (v := .bool (checkF (weighedF p (hidesF.getD (seen' % 8) [])))) rfl)
  rw [hck _ hm p hp] at cc
  have cs := call_fn (m := n+3) (n := 12) (hp := H2) (args := [.str (tx l h last), .str (tx l h p), .str [h]]) (by kernel_rfl) (by kernel_rfl) (by kernel_rfl)
    (run_slopes n hlh hh last p (Nat.le_trans b1 (by decide)) (Nat.le_trans hp (by decide))) (sh_val (v := .bool (slopesF last p)) rfl)
  rw [hsl last p] at cs
  have aF := addS (tx l h front) (tx l h p) (by rw [tx_len, tx_len]; (clear hlh hh hck hsl hS hKF k0 hB hK b1 b3 hSt c1 g0 hB2 hK2 hs8 hm wf1 wf2 m8 hd cw cc cs; omega))
  rw [tx_append] at aF
  have cl := len_str (C := dC (n+3) 12) (hp := H2) (x := tx l h (front ++ p)) (by kernel_rfl) (by rw [tx_len, List.length_append]; (clear hlh hh hck hsl hS hKF k0 hB hK b1 b3 hSt c1 g0 hB2 hK2 hs8 hm wf1 wf2 m8 hd cw cc cs aF; omega))
  rw [tx_len] at cl
  have hfz : ([F, 15, 0] : List Nat).contains K = false := by
    rw [List.contains_cons, List.contains_cons, List.contains_cons, List.contains_nil, beq_eq_false_iff_ne.mpr hKF, beq_eq_false_iff_ne.mpr (by (clear hlh hh hck hsl hp hKF hj k0 hB hK b1 b2 b3 hSt c1 g0 hB2 hK2 hs8 hm wf1 wf2 m8 hd cw cc cs aF cl; omega) : K ≠ 15), beq_eq_false_iff_ne.mpr (by (clear hlh hh hck hsl hp hKF hj k0 hB hK b1 b2 b3 hSt c1 g0 hB2 hK2 hs8 hm wf1 wf2 m8 hd cw cc cs aF cl; omega) : K ≠ 0)]
    rfl
  have hA := appAt (v := .int ((front ++ p).length : Nat)) hK2 hfz (by rw [List.length_map]; (clear hlh hh hck hsl hp hS hKF k0 hB hK b1 b2 hSt c1 g0 hB2 hK2 hs8 hm wf1 wf2 m8 hd cw cc cs aF cl hfz; omega))
  rw [nl_snoc] at hA
  have hLA := listAt_of hK2
  have k0' : seen' + 1 ≤ seen + (j + 1) := Nat.succ_le_succ k0
  have b2' : front.length ≤ 11 * (j + 1) := Nat.le_trans b2 (Nat.mul_le_mul_left _ (Nat.le_succ j))
  have b3' : stops.length ≤ j + 1 := Nat.le_succ_of_le b3
  have q1 : (front ++ p).length ≤ 11 * (j + 1) := by rw [List.length_append]; exact Nat.add_le_add b2 hp
  have q2 : (stops ++ [(front ++ p).length]).length ≤ j + 1 := by rw [List.length_append]; exact Nat.succ_le_succ b3
  unfold partStep
  simp only
  have hP := hB2.put hS (.list (nl (stops ++ [(front ++ p).length])))
  have hQ : (H2.set K (.list (nl (stops ++ [(front ++ p).length]))))[K]? = some (.list (nl (stops ++ [(front ++ p).length]))) := List.getElem?_set_self (List.getElem?_eq_some_iff.mp hK2).1
  clear hsl hck hSt hB hK wf1 wf2 hm hs8 hj
  generalize partOK p = ok at *
  generalize (hullF p).1 = nb at *
  generalize slopesQ last p = sq at *
  by_cases hok : ok = nb
  · rw [if_pos hok]
    have i2 := isNotF hok
    cases nb with
    | false =>
      cases whole with
      | false =>
        have hE := endP .next (partV l h w K (seen' + 1) ⟨[], false, front, stops⟩) H2 [F, 15, 0]
        obtain ⟨r, e1, e2, e3⟩ := body_run (C := dC (n+3) 12) (n := 39) (t := fT partS) (body := fB partS) (x := .one (.str (tx l h p))) (σ := ⟨upds (partV l h w K seen' ⟨last, false, front, stops⟩) f, H, [F, 15, 0]⟩) [oP c1, oV g0, oM m8, oV hd, oP cw, oP cc, oB i2] hE (And.intro c1 (And.intro g0 (And.intro m8 (And.intro hd (And.intro cw (And.intro cc (And.intro i2 hE))))))) (by kernel_rfl)
        exact ⟨r, e1, e2, (seen' + 1), H2, k0', e3, hB2, hK2, (Nat.zero_le _), b2', b3'⟩
      | true =>
        have hE := endP .next (partV l h w K (seen' + 1) ⟨[], false, front, stops⟩) H2 [F, 15, 0]
        obtain ⟨r, e1, e2, e3⟩ := body_run (C := dC (n+3) 12) (n := 39) (t := fT partS) (body := fB partS) (x := .one (.str (tx l h p))) (σ := ⟨upds (partV l h w K seen' ⟨last, true, front, stops⟩) f, H, [F, 15, 0]⟩) [oP c1, oV g0, oM m8, oV hd, oP cw, oP cc, oB i2] hE (And.intro c1 (And.intro g0 (And.intro m8 (And.intro hd (And.intro cw (And.intro cc (And.intro i2 hE))))))) (by kernel_rfl)
        exact ⟨r, e1, e2, (seen' + 1), H2, k0', e3, hB2, hK2, (Nat.zero_le _), b2', b3'⟩
    | true =>
      cases last with
      | nil =>
        have f2 := nesF (a := tx l h []) (b := []) rfl
        cases whole with
        | false =>
          have hE := endP .next (partV l h w K (seen' + 1) ⟨p, false, front, stops⟩) H2 [F, 15, 0]
          obtain ⟨r, e1, e2, e3⟩ := body_run (C := dC (n+3) 12) (n := 39) (t := fT partS) (body := fB partS) (x := .one (.str (tx l h p))) (σ := ⟨upds (partV l h w K seen' ⟨[], false, front, stops⟩) f, H, [F, 15, 0]⟩) [oP c1, oV g0, oM m8, oV hd, oP cw, oP cc, oB i2, oB f2] hE (And.intro c1 (And.intro g0 (And.intro m8 (And.intro hd (And.intro cw (And.intro cc (And.intro i2 (And.intro f2 hE)))))))) (by kernel_rfl)
          exact ⟨r, e1, e2, (seen' + 1), H2, k0', e3, hB2, hK2, hp, b2', b3'⟩
        | true =>
          have hE := endP .next (partV l h w K (seen' + 1) ⟨p, true, front ++ p, stops ++ [(front ++ p).length]⟩) (H2.set K (.list (nl (stops ++ [(front ++ p).length])))) [F, 15, 0]
          obtain ⟨r, e1, e2, e3⟩ := body_run (C := dC (n+3) 12) (n := 39) (t := fT partS) (body := fB partS) (x := .one (.str (tx l h p))) (σ := ⟨upds (partV l h w K seen' ⟨[], true, front, stops⟩) f, H, [F, 15, 0]⟩) [oP c1, oV g0, oM m8, oV hd, oP cw, oP cc, oB i2, oB f2, oM aF, oP cl, oH hA] hE (And.intro c1 (And.intro g0 (And.intro m8 (And.intro hd (And.intro cw (And.intro cc (And.intro i2 (And.intro f2 (And.intro aF (And.intro hLA (And.intro cl (And.intro hA hE)))))))))))) (by kernel_rfl)
          exact ⟨r, e1, e2, (seen' + 1), (H2.set K (.list (nl (stops ++ [(front ++ p).length])))), k0', e3, hP, hQ, hp, q1, q2⟩
      | cons a r =>
        have f2 := nesT (a := tx l h (a :: r)) (b := []) (fun e => by cases e)
        cases sq with
        | false =>
          have hE := endP (.ret (.bool false)) (partV l h w K seen' ⟨a :: r, whole, front, stops⟩) H2 [F, 15, 0]
          obtain ⟨r, e1, e2, e3⟩ := body_run (C := dC (n+3) 12) (n := 39) (t := fT partS) (body := fB partS) (x := .one (.str (tx l h p))) (σ := ⟨upds (partV l h w K seen' ⟨a :: r, whole, front, stops⟩) f, H, [F, 15, 0]⟩) [oP c1, oV g0, oM m8, oV hd, oP cw, oP cc, oB i2, oB f2, oP cs] hE (And.intro c1 (And.intro g0 (And.intro m8 (And.intro hd (And.intro cw (And.intro cc (And.intro i2 (And.intro f2 (And.intro cs hE))))))))) (by kernel_rfl)
          exact ⟨r, e1, e2, seen', H2, (Nat.le_succ_of_le k0), e3, hB2, hK2, b1, b2', b3'⟩
        | true =>
          cases whole with
          | false =>
            have hE := endP .next (partV l h w K (seen' + 1) ⟨p, false, front, stops⟩) H2 [F, 15, 0]
            obtain ⟨r, e1, e2, e3⟩ := body_run (C := dC (n+3) 12) (n := 39) (t := fT partS) (body := fB partS) (x := .one (.str (tx l h p))) (σ := ⟨upds (partV l h w K seen' ⟨a :: r, false, front, stops⟩) f, H, [F, 15, 0]⟩) [oP c1, oV g0, oM m8, oV hd, oP cw, oP cc, oB i2, oB f2, oP cs] hE (And.intro c1 (And.intro g0 (And.intro m8 (And.intro hd (And.intro cw (And.intro cc (And.intro i2 (And.intro f2 (And.intro cs hE))))))))) (by kernel_rfl)
            exact ⟨r, e1, e2, (seen' + 1), H2, k0', e3, hB2, hK2, hp, b2', b3'⟩
          | true =>
            have hE := endP .next (partV l h w K (seen' + 1) ⟨p, true, front ++ p, stops ++ [(front ++ p).length]⟩) (H2.set K (.list (nl (stops ++ [(front ++ p).length])))) [F, 15, 0]
            obtain ⟨r, e1, e2, e3⟩ := body_run (C := dC (n+3) 12) (n := 39) (t := fT partS) (body := fB partS) (x := .one (.str (tx l h p))) (σ := ⟨upds (partV l h w K seen' ⟨a :: r, true, front, stops⟩) f, H, [F, 15, 0]⟩) [oP c1, oV g0, oM m8, oV hd, oP cw, oP cc, oB i2, oB f2, oP cs, oM aF, oP cl, oH hA] hE (And.intro c1 (And.intro g0 (And.intro m8 (And.intro hd (And.intro cw (And.intro cc (And.intro i2 (And.intro f2 (And.intro cs (And.intro aF (And.intro hLA (And.intro cl (And.intro hA hE))))))))))))) (by kernel_rfl)
            exact ⟨r, e1, e2, (seen' + 1), (H2.set K (.list (nl (stops ++ [(front ++ p).length])))), k0', e3, hP, hQ, hp, q1, q2⟩
  · rw [if_neg hok]
    have i2 := isNotT hok
    have hE := endP (.ret (.bool false)) (partV l h w K seen' ⟨last, whole, front, stops⟩) H2 [F, 15, 0]
    obtain ⟨r, e1, e2, e3⟩ := body_run (C := dC (n+3) 12) (n := 39) (t := fT partS) (body := fB partS) (x := .one (.str (tx l h p))) (σ := ⟨upds (partV l h w K seen' ⟨last, whole, front, stops⟩) f, H, [F, 15, 0]⟩) [oP c1, oV g0, oM m8, oV hd, oP cw, oP cc, oB i2] hE (And.intro c1 (And.intro g0 (And.intro m8 (And.intro hd (And.intro cw (And.intro cc (And.intro i2 hE))))))) (by kernel_rfl)
    exact ⟨r, e1, e2, seen', H2, (Nat.le_succ_of_le k0), e3, hB2, hK2, b1, b2', b3'⟩
end Mine

namespace Mine
open PySem
set_option maxRecDepth 20000

theorem call_in {m n : Nat} {s : Scope} {f : Str} {args : List AV} {ds : List DA} {r : DR} {q : AV × List AO} {hp : List AO} (hk : ((dC m n).inner s).kind f = some .globalImplicit) (hn : (f == "len" || (f == "sum" || f == "chr")) = false) (hd : deepAll hp args = some ds) (hc : runFn m f ds = some r) (hs : shallow hp r = some q) : evCall ((dC m n).inner s) f args hp = some q := by
  rw [Bool.or_eq_false_iff, Bool.or_eq_false_iff] at hn
  unfold evCall
  rw [if_pos hk, if_neg (beq_eq_false_iff_ne.mp hn.1), if_neg (beq_eq_false_iff_ne.mp hn.2.1), if_neg (beq_eq_false_iff_ne.mp hn.2.2), hd, Option.bind_some]
  show (runFn m f ds).bind _ = _
  rw [hc]
  exact hs
noncomputable abbrev rowV (l h seen : Nat) : List (Str × AV) := [("seen", .int seen), ("low", .str [l]), ("high", .str [h]), ("hides", .ref 14)]
noncomputable def RRep (l h : Nat) (R1 R2 : List Nat) (i : Nat) (σ : AS) : Prop :=
  ∃ (seen : Nat) (H : List AO), seen ≤ 5000000 + 100 * i ∧ St (rowV l h seen) H [15, 0] σ ∧ HB R1 R2 H
theorem deep_row {H : List AO} {ix : Nat} {R : List Nat} {r : List AV} {ds : List DA} (h : H[ix]? = some (.list (nl R))) (hr : deepAll H r = some ds) : deepAll H (.ref ix :: r) = some (.lst (nl R) :: ds) := by
  show (deep H (.ref ix)).bind _ = _
  rw [deep_lst h (all_ints R), Option.bind_some, hr]; rfl
theorem row_step (n : Nat) {l h : Nat} (hlh : l < h) (hh : h < 128) (hck : ∀ hid ∈ hidesF, ∀ p : List Bool, p.length ≤ 11 → checkF (weighedF p hid) = partOK p) (hsl : ∀ a b : List Bool, slopesF a b = slopesQ a b) {R1 R2 R : List Nat} {i ix : Nat} {σ : AS}
    (hRx : ∀ H, HB R1 R2 H → H[ix]? = some (.list (nl R))) (hG : rowGood R) (RR : RRep l h R1 R2 i σ) :
    ∃ r, (bindT (dC (n+3) 12) (fT rowS) (.one (.ref ix)) σ).bind (evSs (dC (n+3) 12) 47 (fB rowS)) = some r ∧ r.1 = .next ∧ RRep l h R1 R2 (i + 1) r.2 := by
  obtain ⟨seen, H, hseen, hS, hB⟩ := RR
  obtain ⟨f, rfl⟩ := hS.ex
  obtain ⟨w, q1, q2, q3, q4, q5, q6⟩ := hG
  have hRx := hRx H hB
  have hw : w.length ≤ 50 := by rw [q2]; decide
  have cW := call_fn (m := n+3) (n := 12) (hp := H) (args := [.ref ix, .str [l], .str [h]]) (by kernel_rfl) (by kernel_rfl) (deep_row hRx (by kernel_rfl : deepAll H [.str [l], .str [h]] = some [.val (.str [l]), .val (.str [h])])) (run_written (n+2) R w q1) (sh_val (v := .str (tx l h w)) rfl)
  have hI := iRange H (a := 1) (b := 12) 1 12 rfl rfl (by decide) (by decide)
  have hC := comp_run (C := dC (n+3) 12) (n := 41) (e := eA (cA (qR (iT (sA (fB rowS) 1)))) 0) (σ := ⟨upds (("text", .str (tx l h w)) :: ("row", .ref ix) :: rowV l h seen) f, H, [15, 0]⟩) [oI hI] (fun n : Nat => .one (.int n)) (List.range' 1 11) (fun p => some (.str [if markF R p then h else l])) [] H (by kernel_rfl) (by kernel_rfl)
    (And.intro hI (rfl : ((List.range' 1 11).map (fun n : Nat => It.one (.int n)), ([] : List Nat), H) = _)) (by kernel_rfl) (by decide)
    (fun p hp => by
      have cM := call_in (m := n+3) (n := 12) (s := cS (eA (cA (qR (iT (sA (fB rowS) 1)))) 0)) (hp := H) (args := [.ref ix, .int (p : Nat)]) (by kernel_rfl) (by kernel_rfl) (deep_row hRx (by kernel_rfl : deepAll H [.int (p : Nat)] = some [.val (.int (p : Nat))])) (run_marked (n+2) R p q3 (List.mem_range'_1.mp hp).1 q4) (sh_val (v := .bool (markF R p)) rfl)
      cases hm : markF R p with
      | true => rw [hm] at cM; exact stepP [oP cM] (And.intro cM (gotP (.str [h]))) (by kernel_rfl)
      | false => rw [hm] at cM; exact stepP [oP cM] (And.intro cM (gotP (.str [l]))) (by kernel_rfl))
  rw [List.filterMap_eq_map'] at hC
  have e3 : ∀ L : List Nat, (L.map fun p => [if markF R p = true then h else l]).flatten = tx l h (L.map (markF R)) := by
    intro L
    induction L with
    | nil => rfl
    | cons a L ih => rw [List.map_cons, List.flatten_cons, ih]; rfl
  have hJ := joinL (hp := H ++ [.list ((List.range' 1 11).map (fun p => .str [if markF R p then h else l]))]) (k := H.length) (app_at (X := [])) (allStrs_map (fun p => [if markF R p then h else l]) (List.range' 1 11)) (by rw [List.map_map]; exact (by decide : ((List.range' 1 11).map fun _ => 1).sum ≤ 1000000))
  rw [e3, q5] at hJ
  have fne := nesF (a := tx l h w) (b := tx l h w) rfl
  have hB1 := hB.app [.list ((List.range' 1 11).map (fun p => .str [if markF R p then h else l]))]
  generalize H ++ [AO.list ((List.range' 1 11).map (fun p => AV.str [if markF R p then h else l]))] = H1 at *
  clear q1 q3 q4 q5 e3 hRx hI
  have hB2 := hB1.app [.list []]
  have cP := call_fn (m := n+3) (n := 12) (hp := H1 ++ [.list []]) (args := [.str (tx l h w)]) (by kernel_rfl) (by kernel_rfl) (by kernel_rfl) (run_parts (n+1) hlh hh w (Nat.le_trans hw (by decide))) (sh_lst (by rw [List.all_map, List.all_eq_true]; intro _ _; rfl))
  have hB3 := hB2.app [.list ((partsF w).map fun p => .str (tx l h p))]
  have iP := iList (hp := H1 ++ [AO.list []] ++ [.list ((partsF w).map fun p => .str (tx l h p))]) (i := (H1 ++ [AO.list []]).length) (app_at (X := []))
  have hK3 : (H1 ++ [AO.list []] ++ [AO.list ((partsF w).map fun p => .str (tx l h p))])[H1.length]? = some (.list (nl [])) := app_one (app_at (H := H1) (X := [])) _
  have hKF : H1.length ≠ (H1 ++ [AO.list []]).length := by rw [List.length_append, List.length_singleton]; (clear hlh hh hck hsl hRx hseen hB hS q2 q6 hw cW fne hC hJ hB1 hB2 cP hB3 iP hK3; omega)
  have hpn : (partsF w).length ≤ 12 := by have := parts_num w; rw [q2] at this; exact this
  unfold bodyOK at q6
  generalize hres : loopF partStep (partsF w) ⟨[], true, [], []⟩ = res at q6
  obtain ⟨af, sf⟩ := res
  cases af with
  | brk => cases q6
  | ret v => cases q6
  | next =>
  simp only [Bool.and_eq_true, beq_iff_eq, decide_eq_true_eq] at q6
  obtain ⟨z1, z2, z3, z4⟩ := q6
  obtain ⟨j, σ', hj, ⟨seen', H', k0, hSt, hB4, hK4, -, -, -⟩, hF⟩ := for_run (C := dC (n+3) 12) (n := 39) (st := partS) (σ := ⟨upds (("last", .str []) :: ("stops", .ref H1.length) :: ("front", .str []) :: ("whole", .bool true) :: ("text", .str (tx l h w)) :: ("row", .ref ix) :: rowV l h seen) f, H1 ++ [.list []], [15, 0]⟩) [oP cP, oI iP] partStep
    (fun j s σ => PRep l h w R1 R2 H1.length (H1 ++ [AO.list []]).length seen j s σ) (fun p => It.one (.str (tx l h p))) (partsF w) ⟨[], true, [], []⟩ [(H1 ++ [AO.list []]).length] (H1 ++ [.list []] ++ [.list ((partsF w).map fun p => .str (tx l h p))]) (by kernel_rfl) (by kernel_rfl)
    (And.intro cP (And.intro iP (by rw [List.map_map]; rfl : (((partsF w).map fun p => AV.str (tx l h p)).map It.one, [(H1 ++ [AO.list []]).length], H1 ++ [.list []] ++ [AO.list ((partsF w).map fun p => .str (tx l h p))]) = ((partsF w).map (fun p => It.one (.str (tx l h p))), [(H1 ++ [AO.list []]).length], H1 ++ [.list []] ++ [AO.list ((partsF w).map fun p => .str (tx l h p))])))) (by kernel_rfl)
    (fun j p hx s σ hP => by
      have hj : j < (partsF w).length := (List.getElem?_eq_some_iff.mp hx).1
      have hpl := parts_len (List.mem_of_getElem? hx)
      rw [q2] at hpl
      exact part_step n hlh hh hck hsl hpl hB1.len hKF (by (clear hlh hh hck hsl hRx hseen hB hS q2 hw cW fne hC hJ hB1 hB2 cP hB3 iP hK3 hKF hres z1 z2 z3 z4 hx hP hpl; omega)) hP)
    ⟨seen, _, Nat.le_refl _, kcast (stP (partV l h w H1.length seen ⟨[], true, [], []⟩) (H1 ++ [.list []] ++ [.list ((partsF w).map fun p => .str (tx l h p))]) [(H1 ++ [AO.list []]).length, 15, 0]) (by kernel_rfl), hB3, hK3, Nat.zero_le _, Nat.zero_le _, Nat.zero_le _⟩
  rw [hres] at hSt hF hK4
  simp only at hK4
  obtain ⟨f', rfl⟩ := hSt.ex
  have hseen' : seen' ≤ 5000000 + 100 * (i + 1) := by (clear hlh hh hck hsl hRx hB hS q2 hw cW fne hC hJ hB1 hB2 cP hB3 iP hK3 hKF hres z1 z2 z3 z4 hB4 hK4 hF hSt; omega)
  clear hres hSt hK3 hB3 hKF hpn hB2 hB1 hj k0 hseen
  have c7 := call_fn (m := n+3) (n := 12) (hp := H') (args := [.str (tx l h w), .str [h]]) (by kernel_rfl) (by kernel_rfl) (by kernel_rfl) (run_hull (n+2) hlh hh w hw) (sh_pair rfl (all_ints _))
  have g7 := tup0 (app_at1 (H := H') (a := .list (nl (hullF w).2)) (b := .tup [.bool (hullF w).1, .ref H'.length]) (X := []))
  have hB5 := hB4.app [.list (nl (hullF w).2), .tup [.bool (hullF w).1, .ref H'.length]]
  have hK5 := app_one hK4 [.list (nl (hullF w).2), .tup [.bool (hullF w).1, .ref H'.length]]
  generalize H' ++ [AO.list (nl (hullF w).2), .tup [.bool (hullF w).1, .ref H'.length]] = H5 at *
  have i7 := isNotF z1
  have c8 := call_fn (m := n+3) (n := 12) (hp := H5) (args := [.str (tx l h sf.front), .str [h]]) (by kernel_rfl) (by kernel_rfl) (by kernel_rfl) (run_hull (n+2) hlh hh sf.front z2) (sh_pair rfl (all_ints _))
  have a0 : (H5 ++ [AO.list (nl (hullF sf.front).2), .tup [.bool (hullF sf.front).1, .ref H5.length]])[H5.length]? = some (.list (nl (hullF sf.front).2)) := app_at
  have a1 : (H5 ++ [AO.list (nl (hullF sf.front).2), .tup [.bool (hullF sf.front).1, .ref H5.length]])[H5.length + 1]? = some (.tup [.bool (hullF sf.front).1, .ref H5.length]) := app_at1
  have hK6 := app_one hK5 [.list (nl (hullF sf.front).2), .tup [.bool (hullF sf.front).1, .ref H5.length]]
  have hB6 := hB5.app [.list (nl (hullF sf.front).2), .tup [.bool (hullF sf.front).1, .ref H5.length]]
  generalize H5 ++ [AO.list (nl (hullF sf.front).2), .tup [.bool (hullF sf.front).1, .ref H5.length]] = H6 at *
  have hne : evCmp .NotEq (.ref (H5.length + 1)) (.ref H6.length) (H6 ++ [.tup [.bool true, .ref H1.length]]) = some false :=
    nePair (app_one a1 _) (app_at (X := [])) (app_one a0 _) (app_one hK6 _) z3 z4
  have hE := endP .next (rowV l h seen') (H6 ++ [.tup [.bool true, .ref H1.length]]) [15, 0]
  obtain ⟨r, e1, e2, e3⟩ := body_run (C := dC (n+3) 12) (n := 47) (t := fT rowS) (body := fB rowS) (x := .one (.ref ix)) (σ := ⟨upds (rowV l h seen) f, H, [15, 0]⟩) [oP cW, oP hC, oP hJ, oB fne, oS hF, oP c7, oV g7, oB i7, oP c8, oC hne] hE
    (And.intro cW (And.intro hC (And.intro hJ (And.intro fne (And.intro hF (And.intro c7 (And.intro g7 (And.intro i7 (And.intro c8 (And.intro hne hE)))))))))) (by kernel_rfl)
  exact ⟨r, e1, e2, seen', _, hseen', e3, hB6.app _⟩
end Mine

namespace Mine
open PySem
set_option maxRecDepth 20000

section
variable {C : Cx} {hp : List AO}
theorem sum_list {k : Nat} {l : List Nat} (hk : C.kind "sum" = some .globalImplicit) (h : hp[k]? = some (.list (nl l))) (h1 : ∀ d ∈ l, d ≤ 1000000) (h2 : l.length ≤ 1000) : evCall C "sum" [.ref k] hp = some (.int (l.sum : Nat), hp) := by
  unfold evCall
  rw [if_pos hk, if_neg (by decide +kernel), if_pos rfl]
  simp only [h, allInts_nat, Option.bind_some]
  rw [if_pos, sum_cast]
  rw [Bool.and_eq_true_iff, decide_eq_true_eq, List.all_map, List.all_eq_true, List.length_map]
  exact ⟨fun d hd => decide_eq_true (h1 d hd), h2⟩
theorem chrN {a : Int} (m : Nat) (hk : C.kind "chr" = some .globalImplicit) (ha : a = (m : Nat)) (hm : m ≤ 1114111) : evCall C "chr" [.int a] hp = some (.str [m], hp) := by
  unfold evCall
  rw [if_pos hk, if_neg (by decide +kernel), if_neg (by decide +kernel), if_pos rfl, ha]
  exact if_pos (by rw [decide_eq_true (Int.natCast_nonneg m), decide_eq_true (by (clear hk ha; omega) : (m : Int) ≤ 1114111)]; rfl)
end
theorem nl_map {α : Type} (f : α → Nat) (l : List α) : l.map (fun x => AV.int (f x : Nat)) = nl (l.map f) := by
  show _ = List.map _ (List.map _ _)
  rw [List.map_map]; rfl
theorem nl_app (a b : List Nat) : nl a ++ nl b = nl (a ++ b) := List.map_append.symm

theorem run_law (n : Nat) (ns : List Int) (hns : ns.length ≤ 1000) (hck : ∀ hid ∈ hidesF, ∀ p : List Bool, p.length ≤ 11 → checkF (weighedF p hid) = partOK p) (hsl : ∀ a b : List Bool, slopesF a b = slopesQ a b)
    (hrow1 : ∀ ds : List Nat, ds.length = 5 → ∀ i, i < 3 → rowGood (ds.map (fun x => 1 + x % 4) ++ closeF i)) (hrow2 : ∀ ds : List Nat, ds.length = 5 → ∀ j, j < 3 → ∀ i, i < 3 → rowGood (ds.map (fun x => 1 + j + x / 4 % 2) ++ closeF i)) : runFn (n+4) "law" [.lst (ns.map .int)] = some (.val (.bool true)) := by
  have hall : (ns.map AV.int).all AV.isVal = true := by rw [List.all_map, List.all_eq_true]; intro _ _; rfl
  have hl1 : (ns.map AV.int).length ≤ 1000000 := by rw [List.length_map]; exact Nat.le_trans hns (by decide)
  have hlay : layArgs (dA 12) [.lst (ns.map .int)] as0 = some ⟨upds [("script", .ref 0)] (fun _ => none), [.list (ns.map .int)], [0]⟩ := lay_lst (by kernel_rfl) hall (by kernel_rfl)
  have c0 := cutR_to (hp := [.list (ns.map .int)]) (k := 0) 5 rfl hl1
  have i0 := iList (hp := [AO.list (ns.map .int), .list ((ns.map .int).take 5)]) (i := 1) rfl
  have pw : ∀ hp, evBin .Pow (.int 10) (.int 6) hp = some (.int 1000000, hp) := fun _ => bPow
  have hC0 := comp_run (C := dC (n+3) 12) (n := 57) (e := aV (sA (dB 12) 0)) (σ := ⟨upds [("script", .ref 0)] (fun _ => none), [.list (ns.map .int)], [0]⟩) [oP c0, oI i0] (fun x : Int => .one (.int x)) (ns.take 5) (fun x => some (.int ((x.fmod 1000000).toNat : Nat))) [1] [AO.list (ns.map .int), .list ((ns.map .int).take 5)] (by kernel_rfl) (by kernel_rfl)
    (And.intro small5 (And.intro c0 (And.intro i0 (by rw [← List.map_take, List.map_map]; rfl : (((ns.map AV.int).take 5).map It.one, [1], [AO.list (ns.map .int), .list ((ns.map .int).take 5)]) = ((ns.take 5).map (fun x : Int => It.one (.int x)), [1], [AO.list (ns.map .int), .list ((ns.map .int).take 5)]))))) (by kernel_rfl)
    (by rw [List.length_take]; exact Nat.le_trans (Nat.min_le_left _ _) (by decide))
    (fun x _ => by
      have m : ∀ hp, evBin .Mod (.int x) (.int 1000000) hp = some (.int ((x.fmod 1000000).toNat : Nat), hp) := fun _ => md1e6
      exact stepP [oM pw, oM m] (And.intro pw (And.intro m (gotP (.int ((x.fmod 1000000).toNat : Nat))))) (by kernel_rfl))
  rw [List.filterMap_eq_map', nl_map (fun x : Int => (x.fmod 1000000).toNat)] at hC0
  have hd1 : ((ns.take 5).map (fun x => (x.fmod 1000000).toNat)).length ≤ 5 := by rw [List.length_map, List.length_take]; exact Nat.min_le_left _ _
  have hd2 : ∀ d ∈ (ns.take 5).map (fun x => (x.fmod 1000000).toNat), d ≤ 1000000 := by
    intro d hd
    obtain ⟨x, _, rfl⟩ := List.mem_map.mp hd
    exact Int.toNat_le.mpr (Int.le_of_lt (Int.fmod_lt_of_pos x (by decide)))
  generalize (ns.take 5).map (fun x => (x.fmod 1000000).toNat) = D at *
  have hL := len_list (C := dC (n+3) 12) (k := 2) (hp := [AO.list (ns.map .int), .list ((ns.map .int).take 5), .list (nl D), .list [.int 24, .int 37, .int 23, .int 16, .int 36]]) (by kernel_rfl) rfl (by rw [List.length_map]; exact Nat.le_trans hd1 (by decide))
  rw [List.length_map] at hL
  have sD := small_nat (Nat.le_trans hd1 (by decide : 5 ≤ 1000000000))
  have c1 := cutR_from (hp := [AO.list (ns.map .int), .list ((ns.map .int).take 5), .list (nl D), .list [.int 24, .int 37, .int 23, .int 16, .int 36]]) (k := 3) D.length rfl (by decide)
  have hX4 : ([.int 24, .int 37, .int 23, .int 16, .int 36] : List AV).drop D.length = nl (([24, 37, 23, 16, 36] : List Nat).drop D.length) := (List.map_drop (f := fun n : Nat => AV.int (n : Int)) (l := [24, 37, 23, 16, 36]) (i := D.length)).symm
  have a1 := addL (hp := [AO.list (ns.map .int), .list ((ns.map .int).take 5), .list (nl D), .list [.int 24, .int 37, .int 23, .int 16, .int 36], .list (([.int 24, .int 37, .int 23, .int 16, .int 36] : List AV).drop D.length)]) (i := 2) (j := 4) rfl rfl (by rw [List.length_map, List.length_drop]; exact Nat.le_trans (Nat.add_le_add hd1 (Nat.sub_le _ _)) (by decide))
  rw [hX4, nl_app] at a1
  rw [hX4] at c1
  have hd3 : (D ++ ([24, 37, 23, 16, 36] : List Nat).drop D.length).length = 5 := by rw [List.length_append, List.length_drop]; exact Nat.add_sub_cancel' hd1
  have hd4 : ∀ d ∈ D ++ ([24, 37, 23, 16, 36] : List Nat).drop D.length, d ≤ 1000000 := by
    intro d hd
    rcases List.mem_append.mp hd with h | h
    · exact hd2 d h
    · exact (by decide : ∀ d ∈ ([24, 37, 23, 16, 36] : List Nat), d ≤ 1000000) d (List.mem_of_mem_drop h)
  generalize nl (([24, 37, 23, 16, 36] : List Nat).drop D.length) = X4 at *
  generalize D ++ ([24, 37, 23, 16, 36] : List Nat).drop D.length = ds at *
  clear hX4 hd1 hd2 hall hl1 i0 c0 pw hns
  have hSum := sum_list (C := dC (n+3) 12) (k := 5) (hp := [AO.list (ns.map .int), .list ((ns.map .int).take 5), .list (nl D), .list [.int 24, .int 37, .int 23, .int 16, .int 36], .list X4, .list (nl ds)]) (l := ds) (by kernel_rfl) rfl hd4 (by rw [hd3]; decide)
  have htot : ds.sum ≤ 5000000 := by have := sum_le' ds 1000000 hd4; rw [hd3] at this; exact this
  generalize ds.sum = t at *
  have q1 : ∀ hp, evBin .FloorDiv (.int (t : Nat)) (.int 9) hp = some (.int (t / 9 : Nat), hp) := fun _ => fd9
  have q2 : ∀ hp, evBin .Mod (.int (t / 9 : Nat)) (.int 3) hp = some (.int (t / 9 % 3 : Nat), hp) := fun _ => md3
  have q3 : ∀ hp, evBin .Mod (.int (t : Nat)) (.int 3) hp = some (.int (t % 3 : Nat), hp) := fun _ => md3
  have q4 : ∀ hp, evBin .FloorDiv (.int (t : Nat)) (.int 3) hp = some (.int (t / 3 : Nat), hp) := fun _ => fd3
  have q5 : ∀ hp, evBin .Mod (.int (t / 3 : Nat)) (.int 3) hp = some (.int (t / 3 % 3 : Nat), hp) := fun _ => md3
  have q6 : ∀ hp, evBin .Mod (.int (t : Nat)) (.int 40) hp = some (.int (t % 40 : Nat), hp) := fun _ => md40
  have q7 : ∀ hp, evBin .FloorDiv (.int (t : Nat)) (.int 40) hp = some (.int (t / 40 : Nat), hp) := fun _ => fd40
  have q8 : ∀ hp, evBin .Mod (.int (t / 40 : Nat)) (.int 40) hp = some (.int (t / 40 % 40 : Nat), hp) := fun _ => md40
  have k1 : t % 3 < 3 := Nat.mod_lt _ (by decide)
  have k2 : t / 3 % 3 < 3 := Nat.mod_lt _ (by decide)
  have cl : ∀ i, i < 3 → (closeF i).length ≤ 2 := by decide
  have i5 := iList (hp := [AO.list (ns.map .int), .list ((ns.map .int).take 5), .list (nl D), .list [.int 24, .int 37, .int 23, .int 16, .int 36], .list X4, .list (nl ds), .list [.int 0, .int 5], .list [.int 127, .int 2], .list [], .list [.ref 6, .ref 7, .ref 8]]) (i := 5) rfl
  have hC5 := comp_run (C := dC (n+3) 12) (n := 51) (e := bL (aV (sA (dB 12) 5))) (σ := ⟨upds [("lesser", .int (1 + (t / 9 % 3 : Nat) : Int)), ("closes", .ref 9), ("total", .int (t : Nat)), ("draws", .ref 5), ("draws", .ref 2), ("script", .ref 0)] (fun _ => none), [AO.list (ns.map .int), .list ((ns.map .int).take 5), .list (nl D), .list [.int 24, .int 37, .int 23, .int 16, .int 36], .list X4, .list (nl ds), .list [.int 0, .int 5], .list [.int 127, .int 2], .list [], .list [.ref 6, .ref 7, .ref 8]], [0]⟩) [oI i5] (fun x : Nat => .one (.int x)) ds (fun x => some (.int (1 + x % 4 : Nat))) [5] [AO.list (ns.map .int), .list ((ns.map .int).take 5), .list (nl D), .list [.int 24, .int 37, .int 23, .int 16, .int 36], .list X4, .list (nl ds), .list [.int 0, .int 5], .list [.int 127, .int 2], .list [], .list [.ref 6, .ref 7, .ref 8]] (by kernel_rfl) (by kernel_rfl)
    (And.intro i5 (by unfold nl; rw [List.map_map]; rfl : ((nl ds).map It.one, [5], [AO.list (ns.map .int), .list ((ns.map .int).take 5), .list (nl D), .list [.int 24, .int 37, .int 23, .int 16, .int 36], .list X4, .list (nl ds), .list [.int 0, .int 5], .list [.int 127, .int 2], .list [], .list [.ref 6, .ref 7, .ref 8]]) = (ds.map (fun x : Nat => It.one (.int x)), [5], [AO.list (ns.map .int), .list ((ns.map .int).take 5), .list (nl D), .list [.int 24, .int 37, .int 23, .int 16, .int 36], .list X4, .list (nl ds), .list [.int 0, .int 5], .list [.int 127, .int 2], .list [], .list [.ref 6, .ref 7, .ref 8]]))) (by kernel_rfl)
    (by rw [hd3]; decide)
    (fun x _ => by
      have m : ∀ hp, evBin .Mod (.int (x : Nat)) (.int 4) hp = some (.int (x % 4 : Nat), hp) := fun _ => md4
      exact stepP [oM m] (And.intro m (gotP (.int (1 + x % 4 : Nat)))) (by kernel_rfl))
  rw [List.filterMap_eq_map', nl_map (fun x : Nat => 1 + x % 4)] at hC5
  have G1 := hrow1 ds hd3 _ k1
  have n1 : (ds.map (fun x => 1 + x % 4)).length = 5 := by rw [List.length_map]; exact hd3
  generalize ds.map (fun x => 1 + x % 4) = r1 at *
  have t1 := clos_it k1 (hp := [AO.list (ns.map .int), .list ((ns.map .int).take 5), .list (nl D), .list [.int 24, .int 37, .int 23, .int 16, .int 36], .list X4, .list (nl ds), .list [.int 0, .int 5], .list [.int 127, .int 2], .list [], .list [.ref 6, .ref 7, .ref 8], .list (nl r1)]) (k := 9) rfl
  have a5 := addL (hp := [AO.list (ns.map .int), .list ((ns.map .int).take 5), .list (nl D), .list [.int 24, .int 37, .int 23, .int 16, .int 36], .list X4, .list (nl ds), .list [.int 0, .int 5], .list [.int 127, .int 2], .list [], .list [.ref 6, .ref 7, .ref 8], .list (nl r1)]) (i := 10) (j := 6 + t % 3) rfl (clos_at k1) (by rw [List.length_map, List.length_map, n1]; exact Nat.le_trans (Nat.add_le_add_left (cl _ k1) 5) (by decide))
  rw [nl_app] at a5
  generalize r1 ++ closeF (t % 3) = R1 at *
  have i6 := iList (hp := [AO.list (ns.map .int), .list ((ns.map .int).take 5), .list (nl D), .list [.int 24, .int 37, .int 23, .int 16, .int 36], .list X4, .list (nl ds), .list [.int 0, .int 5], .list [.int 127, .int 2], .list [], .list [.ref 6, .ref 7, .ref 8], .list (nl r1), .list (nl R1)]) (i := 5) rfl
  have hC6 := comp_run (C := dC (n+3) 12) (n := 50) (e := bL (aV (sA (dB 12) 6))) (σ := ⟨upds [("first", .ref 11), ("lesser", .int (1 + (t / 9 % 3 : Nat) : Int)), ("closes", .ref 9), ("total", .int (t : Nat)), ("draws", .ref 5), ("draws", .ref 2), ("script", .ref 0)] (fun _ => none), [AO.list (ns.map .int), .list ((ns.map .int).take 5), .list (nl D), .list [.int 24, .int 37, .int 23, .int 16, .int 36], .list X4, .list (nl ds), .list [.int 0, .int 5], .list [.int 127, .int 2], .list [], .list [.ref 6, .ref 7, .ref 8], .list (nl r1), .list (nl R1)], [0]⟩) [oI i6] (fun x : Nat => .one (.int x)) ds (fun x => some (.int (1 + t / 9 % 3 + x / 4 % 2 : Nat))) [5] [AO.list (ns.map .int), .list ((ns.map .int).take 5), .list (nl D), .list [.int 24, .int 37, .int 23, .int 16, .int 36], .list X4, .list (nl ds), .list [.int 0, .int 5], .list [.int 127, .int 2], .list [], .list [.ref 6, .ref 7, .ref 8], .list (nl r1), .list (nl R1)] (by kernel_rfl) (by kernel_rfl)
    (And.intro i6 (by unfold nl; rw [List.map_map]; rfl : ((nl ds).map It.one, [5], [AO.list (ns.map .int), .list ((ns.map .int).take 5), .list (nl D), .list [.int 24, .int 37, .int 23, .int 16, .int 36], .list X4, .list (nl ds), .list [.int 0, .int 5], .list [.int 127, .int 2], .list [], .list [.ref 6, .ref 7, .ref 8], .list (nl r1), .list (nl R1)]) = (ds.map (fun x : Nat => It.one (.int x)), [5], [AO.list (ns.map .int), .list ((ns.map .int).take 5), .list (nl D), .list [.int 24, .int 37, .int 23, .int 16, .int 36], .list X4, .list (nl ds), .list [.int 0, .int 5], .list [.int 127, .int 2], .list [], .list [.ref 6, .ref 7, .ref 8], .list (nl r1), .list (nl R1)]))) (by kernel_rfl)
    (by rw [hd3]; decide)
    (fun x _ => by
      have m1 : ∀ hp, evBin .FloorDiv (.int (x : Nat)) (.int 4) hp = some (.int (x / 4 : Nat), hp) := fun _ => fd4
      have m2 : ∀ hp, evBin .Mod (.int (x / 4 : Nat)) (.int 2) hp = some (.int (x / 4 % 2 : Nat), hp) := fun _ => md2
      exact stepP [oM m1, oM m2] (And.intro m1 (And.intro m2 (gotP (.int (1 + t / 9 % 3 + x / 4 % 2 : Nat))))) (by kernel_rfl))
  rw [List.filterMap_eq_map', nl_map (fun x : Nat => 1 + t / 9 % 3 + x / 4 % 2)] at hC6
  have G2 := hrow2 ds hd3 (t / 9 % 3) (Nat.mod_lt _ (by decide)) _ k2
  have n2 : (ds.map (fun x => 1 + t / 9 % 3 + x / 4 % 2)).length = 5 := by rw [List.length_map]; exact hd3
  generalize ds.map (fun x => 1 + t / 9 % 3 + x / 4 % 2) = r2 at *
  have t2 := clos_it k2 (hp := [AO.list (ns.map .int), .list ((ns.map .int).take 5), .list (nl D), .list [.int 24, .int 37, .int 23, .int 16, .int 36], .list X4, .list (nl ds), .list [.int 0, .int 5], .list [.int 127, .int 2], .list [], .list [.ref 6, .ref 7, .ref 8], .list (nl r1), .list (nl R1), .list (nl r2)]) (k := 9) rfl
  have a6 := addL (hp := [AO.list (ns.map .int), .list ((ns.map .int).take 5), .list (nl D), .list [.int 24, .int 37, .int 23, .int 16, .int 36], .list X4, .list (nl ds), .list [.int 0, .int 5], .list [.int 127, .int 2], .list [], .list [.ref 6, .ref 7, .ref 8], .list (nl r1), .list (nl R1), .list (nl r2)]) (i := 12) (j := 6 + t / 3 % 3) rfl (clos_at k2) (by rw [List.length_map, List.length_map, n2]; exact Nat.le_trans (Nat.add_le_add_left (cl _ k2) 5) (by decide))
  rw [nl_app] at a6
  generalize r2 ++ closeF (t / 3 % 3) = R2 at *
  have h40 : t % 40 < 40 := Nat.mod_lt _ (by decide)
  have h41 : t / 40 % 40 < 40 := Nat.mod_lt _ (by decide)
  clear hrow1 hrow2 cl k1 k2 n1 n2 i5 i6 hd3 hd4
  have ch1 := chrN (C := dC (n+3) 12) (hp := [AO.list (ns.map .int), .list ((ns.map .int).take 5), .list (nl D), .list [.int 24, .int 37, .int 23, .int 16, .int 36], .list X4, .list (nl ds), .list [.int 0, .int 5], .list [.int 127, .int 2], .list [], .list [.ref 6, .ref 7, .ref 8], .list (nl r1), .list (nl R1), .list (nl r2), .list (nl R2)]) (a := 40 + (t % 40 : Nat)) (40 + t % 40) (by kernel_rfl) rfl (by omega)
  have ch2 := chrN (C := dC (n+3) 12) (hp := [AO.list (ns.map .int), .list ((ns.map .int).take 5), .list (nl D), .list [.int 24, .int 37, .int 23, .int 16, .int 36], .list X4, .list (nl ds), .list [.int 0, .int 5], .list [.int 127, .int 2], .list [], .list [.ref 6, .ref 7, .ref 8], .list (nl r1), .list (nl R1), .list (nl r2), .list (nl R2)]) (a := 81 + (t / 40 % 40 : Nat)) (81 + t / 40 % 40) (by kernel_rfl) rfl (by (clear hck hsl hlay hC0 hL sD c1 a1 hSum htot q1 q2 q3 q4 q5 q6 q7 q8 hC5 t1 G1 a5 hC6 t2 G2 a6 h40 ch1 h41; omega))
  have hlh : 40 + t % 40 < 81 + t / 40 % 40 := by omega
  have hh : 81 + t / 40 % 40 < 128 := by (clear hck hsl hlay hC0 hL sD c1 a1 hSum htot q1 q2 q3 q4 q5 q6 q7 q8 hC5 t1 G1 a5 hC6 t2 G2 a6 h40 ch1 ch2 hlh h41; omega)
  clear h40 h41
  generalize 40 + t % 40 = l at *
  generalize 81 + t / 40 % 40 = h at *
  have i11 := iList (hp := [AO.list (ns.map .int), .list ((ns.map .int).take 5), .list (nl D), .list [.int 24, .int 37, .int 23, .int 16, .int 36], .list X4, .list (nl ds), .list [.int 0, .int 5], .list [.int 127, .int 2], .list [], .list [.ref 6, .ref 7, .ref 8], .list (nl r1), .list (nl R1), .list (nl r2), .list (nl R2), .list (hidesF.map .str), .list [.ref 11, .ref 13]]) (i := 15) rfl
  obtain ⟨i, σ', -, ⟨seen, H', -, hSt, -⟩, hF⟩ := for_run (C := dC (n+3) 12) (n := 47) (st := rowS) (σ := ⟨upds [("seen", .int (t : Nat)), ("hides", .ref 14), ("high", .str [h]), ("low", .str [l]), ("second", .ref 13), ("first", .ref 11), ("lesser", .int (1 + (t / 9 % 3 : Nat) : Int)), ("closes", .ref 9), ("total", .int (t : Nat)), ("draws", .ref 5), ("draws", .ref 2), ("script", .ref 0)] (fun _ => none), [AO.list (ns.map .int), .list ((ns.map .int).take 5), .list (nl D), .list [.int 24, .int 37, .int 23, .int 16, .int 36], .list X4, .list (nl ds), .list [.int 0, .int 5], .list [.int 127, .int 2], .list [], .list [.ref 6, .ref 7, .ref 8], .list (nl r1), .list (nl R1), .list (nl r2), .list (nl R2), .list (hidesF.map .str)], [0]⟩) [oI i11] (fun (q : Nat × List Nat) (s : Unit) => ((.next, ()) : AF × Unit))
    (fun i _ σ => RRep l h R1 R2 i σ) (fun q => It.one (.ref q.1)) [(11, R1), (13, R2)] () [15] [AO.list (ns.map .int), .list ((ns.map .int).take 5), .list (nl D), .list [.int 24, .int 37, .int 23, .int 16, .int 36], .list X4, .list (nl ds), .list [.int 0, .int 5], .list [.int 127, .int 2], .list [], .list [.ref 6, .ref 7, .ref 8], .list (nl r1), .list (nl R1), .list (nl r2), .list (nl R2), .list (hidesF.map .str), .list [.ref 11, .ref 13]] (by kernel_rfl) (by kernel_rfl)
    (And.intro i11 (rfl : (([.ref 11, .ref 13] : List AV).map It.one, [15], [AO.list (ns.map .int), .list ((ns.map .int).take 5), .list (nl D), .list [.int 24, .int 37, .int 23, .int 16, .int 36], .list X4, .list (nl ds), .list [.int 0, .int 5], .list [.int 127, .int 2], .list [], .list [.ref 6, .ref 7, .ref 8], .list (nl r1), .list (nl R1), .list (nl r2), .list (nl R2), .list (hidesF.map .str), .list [.ref 11, .ref 13]]) = _)) (by kernel_rfl)
    (fun i q hx s σ hRR => by
      obtain ⟨ix, R⟩ := q
      have hR : (∀ H, HB R1 R2 H → H[ix]? = some (.list (nl R))) ∧ rowGood R := by
        rcases i with _ | _ | i
        · cases hx; exact ⟨fun H hB => hB.m11, G1⟩
        · cases hx; exact ⟨fun H hB => hB.m13, G2⟩
        · cases hx
      exact row_step n hlh hh hck hsl hR.1 hR.2 hRR)
    ⟨t, [AO.list (ns.map .int), .list ((ns.map .int).take 5), .list (nl D), .list [.int 24, .int 37, .int 23, .int 16, .int 36], .list X4, .list (nl ds), .list [.int 0, .int 5], .list [.int 127, .int 2], .list [], .list [.ref 6, .ref 7, .ref 8], .list (nl r1), .list (nl R1), .list (nl r2), .list (nl R2), .list (hidesF.map .str), .list [.ref 11, .ref 13]], htot, kcast (stP (rowV l h t) [AO.list (ns.map .int), .list ((ns.map .int).take 5), .list (nl D), .list [.int 24, .int 37, .int 23, .int 16, .int 36], .list X4, .list (nl ds), .list [.int 0, .int 5], .list [.int 127, .int 2], .list [], .list [.ref 6, .ref 7, .ref 8], .list (nl r1), .list (nl R1), .list (nl r2), .list (nl R2), .list (hidesF.map .str), .list [.ref 11, .ref 13]] [15, 0]) (by kernel_rfl), ⟨rfl, rfl, rfl, Nat.le_refl 16⟩⟩
  rw [loopF_next (fun x s => rfl)] at hF
  exact run_def 12 [oP hC0, oP hL, oP c1, oP a1, oP hSum, oM q1, oM q2, oP hC5, oM q3, oV t1, oP a5, oP hC6, oM q4, oM q5, oV t2, oP a6, oM q6, oP ch1, oM q7, oM q8, oP ch2, oS hF] (by kernel_rfl) (by kernel_rfl) hlay
    (And.intro hC0 (And.intro hL (And.intro sD (And.intro c1 (And.intro a1 (And.intro hSum (And.intro q1 (And.intro q2 (And.intro hC5 (And.intro q3 (And.intro t1 (And.intro a5 (And.intro hC6 (And.intro q4 (And.intro q5 (And.intro t2 (And.intro a6 (And.intro q6 (And.intro ch1 (And.intro q7 (And.intro q8 (And.intro ch2 (And.intro hF (tdB (fz := [0]) (hp := []) (i := true))))))))))))))))))))))))) (by kernel_rfl)
end Mine

namespace Mine
open PySem
set_option maxRecDepth 20000
set_option linter.unusedVariables false

/-! the same, told so that the kernel is quick -/
noncomputable def colsX (a v k l : Nat) : List Nat → Nat → Bool × Nat → Bool × Nat
  | [], _, s => s
  | u :: us, j, s => colsX a v k l us (Nat.succ j) (bif Nat.ble (Nat.succ (Nat.mul u k)) (Nat.add (Nat.mul a (Nat.sub k j)) (Nat.mul v j)) then (bif Nat.ble (Nat.add (Nat.mul u k) k) (Nat.add (Nat.mul a (Nat.sub k j)) (Nat.mul v j)) then false else s.1, Nat.lor s.2 (Nat.shiftLeft 1 (Nat.add l j))) else s)
noncomputable def rightsX (a l : Nat) : List Nat → List Nat → Nat → Bool × Nat → Bool × Nat
  | [], _, _, s => s
  | v :: rest, mids, k, s => rightsX a l rest (mids ++ [v]) (Nat.succ k) (colsX a v k l mids 1 s)
noncomputable def leftsX : List Nat → Nat → Bool × Nat → Bool × Nat
  | [], _, s => s
  | a :: vs, l, s => leftsX vs (Nat.succ l) (match vs with
    | [] => s
    | v :: rest => rightsX a l rest [v] 2 s)
noncomputable def topsX : Nat → List Bool → List Nat
  | a, [] => [a]
  | a, true :: w => topsX (Nat.succ a) w
  | a, false :: w => a :: topsX a w
noncomputable def touchX (m : Nat) : List Nat → Nat → List Nat
  | [], _ => []
  | u :: us, c => bif Nat.testBit m c then touchX m us (Nat.succ c) else Nat.add c u :: touchX m us (Nat.succ c)
noncomputable def hullX (w : List Bool) : Bool × List Nat :=
  match topsX 0 w with
  | [] => (true, [])
  | a :: vs => match leftsX (a :: vs) 0 (true, 0) with
    | (n, m) => (n, List.range' 1 a ++ touchX m vs 1)

theorem loopF_go {α S : Type} {step : α → S → AF × S} {x : α} {xs : List α} {s : S} (h : (step x s).1 = .next) : loopF step (x :: xs) s = loopF step xs (step x s).2 := by
  rw [loopF]
  cases he : step x s with
  | mk a b => rw [he] at h; simp only at h; subst h; rfl
theorem tops_eq : ∀ (w : List Bool) (pre : List Nat) (a : Nat), (loopF topStep w (pre, a)).2.1 ++ [(loopF topStep w (pre, a)).2.2] = pre ++ topsX a w
  | [], pre, a => rfl
  | true :: w, pre, a => by rw [loopF_go rfl]; exact tops_eq w pre (a + 1)
  | false :: w, pre, a => by
    rw [loopF_go rfl]
    have := tops_eq w (pre ++ [a]) a
    simp only [topStep, Bool.false_eq_true, if_false] at this ⊢
    rw [this, topsX]; simp
theorem topsF_eq (w : List Bool) : topsF w = topsX 0 w := tops_eq w [] 0

/-- the same near; the same below -/
structure Rl (s : Bool × List Nat) (t : Bool × Nat) : Prop where
  near : s.1 = t.1
  below : ∀ c, s.2.contains c = t.2.testBit c

theorem drop_at {tops : List Nat} {i u : Nat} {r : List Nat} (h : tops.drop i = u :: r) : tops.getD i 0 = u ∧ tops.drop (i + 1) = r := by
  have h1 : (tops.drop i)[0]? = some u := by rw [h]; rfl
  rw [List.getElem?_drop, Nat.add_zero] at h1
  refine ⟨by rw [List.getD, h1]; rfl, ?_⟩
  have h2 : (tops.drop i).drop 1 = r := by rw [h]; rfl
  rw [List.drop_drop] at h2
  exact h2

theorem cols_eq {tops : List Nat} {a v k l : Nat} (ha : tops.getD l 0 = a) (hv : tops.getD (l + k) 0 = v) : ∀ (us : List Nat) (j : Nat) (rest : List Nat) (s : Bool × List Nat) (t : Bool × Nat), tops.drop (l + j) = us ++ rest → j + us.length = k → Rl s t →
    Rl (loopF (colStep tops l (l + k)) (List.range' (l + j) us.length) s).2 (colsX a v k l us j t)
  | [], _, _, s, t, _, _, h => h
  | u :: us, j, rest, s, t, hd, hj, h => by
    obtain ⟨hu, hd'⟩ := drop_at hd
    rw [List.length_cons] at hj ⊢
    rw [List.range'_succ, loopF_go rfl, colsX]
    refine cols_eq ha hv us (j + 1) rest _ _ hd' (by (clear ha hv hd h hu hd'; omega)) ?_
    unfold colStep
    simp only [hu, ha, hv, show l + k - l = k by (clear ha hv hd h hu hd' hj; omega), show l + k - (l + j) = k - j by (clear ha hv hd h hu hd' hj; omega), show l + j - l = j by (clear ha hv hd h hu hd' hj; omega)]
    show Rl (if u * k < a * (k - j) + v * j then _ else s) (bif Nat.ble (u * k + 1) (a * (k - j) + v * j) then (bif Nat.ble (u * k + k) (a * (k - j) + v * j) then false else t.1, t.2 ||| (1 <<< (l + j))) else t)
    by_cases hc : u * k < a * (k - j) + v * j
    · rw [if_pos hc, Nat.ble_eq_true_of_le hc, cond_true]
      constructor
      · show (if u * k + (l + k) ≤ a * (k - j) + v * j + l then false else s.1) = (bif Nat.ble (u * k + k) (a * (k - j) + v * j) then false else t.1)
        by_cases h2 : u * k + k ≤ a * (k - j) + v * j
        · rw [if_pos (by (clear ha hv hd hj h hu hd' hc; omega)), Nat.ble_eq_true_of_le h2, cond_true]
        · rw [if_neg (by (clear ha hv hd hj h hu hd' hc; omega)), h.near]
          have : Nat.ble (u * k + k) (a * (k - j) + v * j) = false := by
            cases hb : Nat.ble (u * k + k) (a * (k - j) + v * j) with
            | false => rfl
            | true => exact absurd (Nat.le_of_ble_eq_true hb) h2
          rw [this, cond_false]
      · intro c
        show (s.2 ++ [l + j]).contains c = (t.2 ||| 1 <<< (l + j)).testBit c
        rw [Nat.testBit_or, ← h.below c, List.contains_append]
        congr 1
        rw [List.contains_cons, List.contains_nil, Bool.or_false, Nat.one_shiftLeft, Nat.testBit_two_pow]
        by_cases hcl : c = l + j
        · subst hcl; simp
        · have : ¬ l + j = c := fun e => hcl e.symm
          simp [hcl, this]
    · rw [if_neg hc]
      have : Nat.ble (u * k + 1) (a * (k - j) + v * j) = false := by
        cases hb : Nat.ble (u * k + 1) (a * (k - j) + v * j) with
        | false => rfl
        | true => exact absurd (Nat.le_of_ble_eq_true hb) hc
      rw [this, cond_false]
      exact h
theorem rights_eq {tops : List Nat} {a l : Nat} (ha : tops.getD l 0 = a) : ∀ (rest mids : List Nat) (k : Nat) (s : Bool × List Nat) (t : Bool × Nat), tops.drop (l + 1) = mids ++ rest → mids.length + 1 = k → Rl s t →
    Rl (loopF (rightStep tops l) (List.range' (l + k) rest.length) s).2 (rightsX a l rest mids k t)
  | [], _, _, s, t, _, _, h => h
  | v :: rest, mids, k, s, t, hd, hk, h => by
    rw [List.length_cons, List.range'_succ, loopF_go rfl, rightsX]
    refine rights_eq ha rest (mids ++ [v]) (k + 1) _ _ (by rw [hd]; simp) (by rw [List.length_append, List.length_singleton]; (clear ha hd h; omega)) ?_
    have hv : tops.getD (l + k) 0 = v := by
      have : tops.drop (l + k) = v :: rest := by
        rw [show l + k = l + 1 + mids.length by (clear ha hd h; omega), ← List.drop_drop, hd, List.drop_left]
      exact (drop_at this).1
    unfold rightStep
    rw [show l + k - (l + 1) = mids.length by (clear ha hd h hv; omega)]
    exact cols_eq ha hv mids 1 (v :: rest) s t hd (by (clear ha hd h hv; omega)) h
theorem lefts_eq {tops : List Nat} : ∀ (tail : List Nat) (l : Nat) (s : Bool × List Nat) (t : Bool × Nat), tops.drop l = tail → Rl s t → Rl (loopF (leftStep tops) (List.range' l tail.length) s).2 (leftsX tail l t)
  | [], _, s, t, _, h => h
  | a :: vs, l, s, t, hd, h => by
    obtain ⟨ha, hd'⟩ := drop_at hd
    rw [List.length_cons, List.range'_succ, loopF_go rfl, leftsX.eq_def]
    refine lefts_eq vs (l + 1) _ _ hd' ?_
    have hlen : tops.length = l + vs.length + 1 := by
      have := congrArg List.length hd
      rw [List.length_drop, List.length_cons] at this
      (clear hd h ha hd'; omega)
    unfold leftStep
    cases vs with
    | nil =>
      rw [show tops.length - (l + 2) = 0 by simp only [List.length_nil] at hlen; (clear h ha hd hd'; omega)]
      exact h
    | cons v rest =>
      rw [show tops.length - (l + 2) = rest.length by simp only [List.length_cons] at hlen; (clear h ha hd hd'; omega)]
      exact rights_eq ha rest [v] 2 s t hd' rfl h
theorem touch_eq {tops below : List Nat} {m : Nat} (hb : ∀ c, below.contains c = m.testBit c) : ∀ (us : List Nat) (c : Nat) (s : List Nat), tops.drop c = us → (loopF (touchStep tops below) (List.range' c us.length) s).2 = s ++ touchX m us c
  | [], c, s, _ => by simp [loopF, touchX]
  | u :: us, c, s, hd => by
    obtain ⟨hu, hd'⟩ := drop_at hd
    rw [List.length_cons, List.range'_succ, loopF_go rfl, touch_eq hb us (c + 1) _ hd', touchX]
    unfold touchStep
    simp only [hu, hb c]
    cases m.testBit c <;> simp
theorem hull_eq (w : List Bool) : hullF w = hullX w := by
  unfold hullF hullX
  rw [topsF_eq]
  cases ht : topsX 0 w with
  | nil => cases w with
    | nil => simp [topsX] at ht
    | cons b w =>
      exfalso
      have key : ∀ (w : List Bool) (a : Nat), topsX a w ≠ [] := by
        intro w
        induction w with
        | nil => intro a; simp [topsX]
        | cons b w ih => intro a; cases b <;> simp [topsX, ih]
      exact key _ _ ht
  | cons a vs =>
    have h := lefts_eq (tops := a :: vs) (a :: vs) 0 (true, []) (true, 0) rfl ⟨rfl, by simp⟩
    change Rl (hullS (a :: vs)) _ at h
    simp only
    rw [touchF, show (a :: vs).length - 1 = vs.length from rfl, touch_eq h.below vs 1 _ rfl, h.near]
    rfl

theorem ltB_asym : ∀ a b : List Bool, ltB a b = true → ltB b a = false
  | _, [], h => by simp [ltB] at h
  | [], _ :: _, _ => by simp [ltB]
  | a :: x, b :: y, h => by
    have ih := ltB_asym x y
    cases a <;> cases b <;> simp [ltB] at h ⊢
    · exact ih h
    · exact ih h
theorem coll_lt (a b : List Bool) : collB a b = -1 ↔ ltB a b = true := by
  unfold collB b2i
  cases h : ltB a b with
  | true => rw [ltB_asym _ _ h]; simp
  | false => cases ltB b a <;> simp
noncomputable def cutsX : List Bool → List Bool → Nat → List Nat
  | _, [], _ => []
  | last, b :: r, p => bif ltB (b :: r) last then p :: cutsX (b :: r) r (Nat.succ p) else cutsX last r (Nat.succ p)
theorem cuts_go (w : List Bool) : ∀ (suf : List Bool) (p : Nat) (pre : List Nat) (last : Nat), w.drop p = suf →
    (loopF (cutStep w) (List.range' p suf.length) (pre, last)).2.1 ++ [(loopF (cutStep w) (List.range' p suf.length) (pre, last)).2.2] = pre ++ last :: cutsX (w.drop last) suf p
  | [], p, pre, last, _ => rfl
  | b :: r, p, pre, last, hd => by
    have hd' : w.drop (p + 1) = r := by rw [← List.drop_drop, hd]; rfl
    rw [List.length_cons, List.range'_succ, loopF_go rfl, cutsX]
    unfold cutStep
    simp only [hd, coll_lt]
    cases hc : ltB (b :: r) (w.drop last) with
    | true =>
      have := cuts_go w r (p + 1) (pre ++ [last]) p hd'
      simp only [if_true, cond_true]
      unfold cutStep at this
      simp only [coll_lt] at this
      rw [this, hd]; simp
    | false =>
      have := cuts_go w r (p + 1) pre last hd'
      simp only [Bool.false_eq_true, if_false, cond_false]
      unfold cutStep at this
      simp only [coll_lt] at this
      exact this
theorem cuts_eq (w : List Bool) : cutsF w = 0 :: cutsX w (w.drop 1) 1 := by
  have h := cuts_go w (w.drop 1) 1 [] 0 rfl
  rw [List.length_drop, List.drop_zero] at h
  exact h
/-- the parts: cut by cut -/
noncomputable def partsG (w : List Bool) : Nat → List Nat → List (List Bool)
  | c, [] => [w.drop c]
  | c, e :: r => (w.take e).drop c :: partsG w e r
theorem parts_go (w : List Bool) : ∀ (c : Nat) (r : List Nat), ((c :: r).zip (r ++ [w.length])).map (fun p => (w.take p.2).drop p.1) = partsG w c r
  | c, [] => by simp [partsG]
  | c, e :: r => by
    rw [List.cons_append, List.zip_cons_cons, List.map_cons, parts_go w e r]; rfl
theorem parts_eq (w : List Bool) : partsF w = partsG w 0 (cutsX w (w.drop 1) 1) := by
  unfold partsF
  rw [cuts_eq]
  exact parts_go w 0 _
noncomputable def lastX (much less : Nat) (a b : List Bool) : Bool := (ltB b a == Nat.blt less much) && (ltB a b == Nat.blt much less)
noncomputable def slopesX (a b : List Bool) : Bool := lastX (Nat.mul (a.count true) (b.count false)) (Nat.mul (b.count true) (a.count false)) a b
theorem slopes_eq (a b : List Bool) (h : slopesX a b = true) : slopesQ a b = true := by
  unfold slopesX lastX at h
  simp only [Bool.and_eq_true, beq_iff_eq] at h
  obtain ⟨h1, h2⟩ := h
  have e1 : ∀ m k : Nat, Nat.blt m k = decide (m < k) := fun m k => by
    cases h : Nat.blt m k with
    | true => exact (decide_eq_true (Nat.le_of_ble_eq_true h)).symm
    | false =>
      refine (decide_eq_false fun hl => ?_).symm
      have : Nat.blt m k = true := Nat.ble_eq_true_of_le hl
      rw [h] at this; cases this
  rw [e1] at h1 h2
  unfold slopesQ collB
  simp only [Bool.and_eq_true, beq_iff_eq]
  rw [show a.count true * b.count false = Nat.mul (a.count true) (b.count false) from rfl, show b.count true * a.count false = Nat.mul (b.count true) (a.count false) from rfl, h1, h2]
  exact ⟨rfl, rfl⟩
noncomputable def cnt : List Bool → Nat
  | [] => 0
  | true :: w => Nat.succ (cnt w)
  | false :: w => cnt w
theorem cnt_true : ∀ w : List Bool, w.count true = cnt w
  | [] => rfl
  | true :: w => by rw [List.count_cons_self, cnt_true w]; rfl
  | false :: w => by rw [List.count_cons_of_ne (by decide), cnt_true w]; rfl
noncomputable def sX1 (u r : Nat) (K : Nat → Bool) : List Bool → Nat → Bool
  | [], o => K o
  | true :: w, o => bif Nat.ble r o then sX1 u r K w (Nat.sub o r) else false
  | false :: w, o => sX1 u r K w (Nat.add o u)
noncomputable def sX2 (u r : Nat) (K : Nat → Bool) : List Bool → Nat → Bool
  | [], o => K o
  | true :: w, o => sX2 u r K w (Nat.add o r)
  | false :: w, o => bif Nat.ble u o then sX2 u r K w (Nat.sub o u) else false
noncomputable def partX' (n u r : Nat) (w : List Bool) : Bool := sX1 u r (fun o => sX2 u r (fun o' => Nat.beq o' (Nat.pred n)) w (Nat.add o (Nat.pred n))) w 0
noncomputable def partX (w : List Bool) : Bool := partX' w.length (cnt w) (Nat.sub w.length (cnt w)) w
theorem sX1_eq (u r : Nat) (K : Nat → Bool) : ∀ (w : List Bool) (o : Nat), sX1 u r K w o = match scan1 u r w o with | none => false | some o => K o
  | [], o => rfl
  | true :: w, o => by
    rw [sX1, scan1, sX1_eq u r K w]
    by_cases h : o < r
    · rw [if_pos h]
      cases hb : Nat.ble r o with
      | false => rfl
      | true => exact absurd (Nat.le_of_ble_eq_true hb) (Nat.not_le.mpr h)
    · rw [if_neg h, Nat.ble_eq_true_of_le (Nat.not_lt.mp h)]; rfl
  | false :: w, o => by rw [sX1, scan1, sX1_eq u r K w]; rfl
theorem sX2_eq (u r : Nat) (K : Nat → Bool) : ∀ (w : List Bool) (o : Nat), sX2 u r K w o = match scan2 u r w o with | none => false | some o => K o
  | [], o => rfl
  | false :: w, o => by
    rw [sX2, scan2, sX2_eq u r K w]
    by_cases h : o < u
    · rw [if_pos h]
      cases hb : Nat.ble u o with
      | false => rfl
      | true => exact absurd (Nat.le_of_ble_eq_true hb) (Nat.not_le.mpr h)
    · rw [if_neg h, Nat.ble_eq_true_of_le (Nat.not_lt.mp h)]; rfl
  | true :: w, o => by rw [sX2, scan2, sX2_eq u r K w]; rfl
theorem part_eq (w : List Bool) : partOK w = partX w := by
  unfold partOK partX partX'
  have hc := count_tf w
  have h1 : w.count false = Nat.sub w.length (cnt w) := by rw [cnt_true] at hc; show _ = w.length - cnt w; omega
  rw [sX1_eq, h1, cnt_true]
  cases scan1 (cnt w) (Nat.sub w.length (cnt w)) w 0 with
  | none => rfl
  | some o =>
    simp only
    rw [sX2_eq]
    show (match scan2 _ _ w (o + (w.length - 1)) with | none => false | some o' => o' == w.length - 1) = match scan2 _ _ w (o + (w.length - 1)) with | none => false | some o' => Nat.beq o' (w.length - 1)
    cases scan2 (cnt w) (Nat.sub w.length (cnt w)) w (o + (w.length - 1)) with
    | none => rfl
    | some o' =>
      simp only
      cases hb : Nat.beq o' (w.length - 1) with
      | true => rw [Nat.eq_of_beq_eq_true hb]; simp
      | false => exact beq_eq_false_iff_ne.mpr (Nat.ne_of_beq_eq_false hb)
noncomputable def eqB : List Bool → List Bool → Bool
  | [], [] => true
  | a :: x, b :: y => bif a then (bif b then eqB x y else false) else (bif b then false else eqB x y)
  | _, _ => false
noncomputable def eqN : List Nat → List Nat → Bool
  | [], [] => true
  | a :: x, b :: y => bif Nat.beq a b then eqN x y else false
  | _, _ => false
theorem eqB_eq : ∀ {x y : List Bool}, eqB x y = true → x = y
  | [], [], _ => rfl
  | a :: x, b :: y, h => by
    cases a <;> cases b <;> simp only [eqB, cond_true, cond_false] at h
    · rw [eqB_eq h]
    · cases h
    · cases h
    · rw [eqB_eq h]
  | [], _ :: _, h => by simp [eqB] at h
  | _ :: _, [], h => by simp [eqB] at h
theorem eqN_eq : ∀ {x y : List Nat}, eqN x y = true → x = y
  | [], [], _ => rfl
  | a :: x, b :: y, h => by
    rw [eqN] at h
    cases hb : Nat.beq a b with
    | true => rw [hb] at h; rw [Nat.eq_of_beq_eq_true hb, eqN_eq h]
    | false => rw [hb] at h; cases h
  | [], _ :: _, h => by simp [eqN] at h
  | _ :: _, [], h => by simp [eqN] at h
/-- part after part; told only where all is well -/
noncomputable def bodyX (w : List Bool) (hw : Bool) (hs : List Nat) : List (List Bool) → List Bool → Bool → List Bool → List Nat → Bool
  | [], _, whole, front, stops => bif hw then (bif whole then (bif eqB front w then eqN hs stops else false) else false) else bif whole then false else bif Nat.ble front.length 50 then (match hullX front with
    | (n, t) => bif n then eqN t stops else false) else false
  | p :: ps, last, whole, front, stops => bif (hullX p).1 then bif partX p then (bif (match last with | [] => true | a :: r => slopesX (a :: r) p) then bodyX w hw hs ps p whole (bif whole then front ++ p else front) (bif whole then stops ++ [(front ++ p).length] else stops) else false) else false
    else bif partX p then false else bodyX w hw hs ps [] false front stops
noncomputable def wordX (w : List Bool) : Bool := bif Nat.ble w.length 50 then (match hullX w with
  | (n, t) => bodyX w n t (partsG w 0 (cutsX w (w.drop 1) 1)) [] true [] []) else false
noncomputable def finOK (w : List Bool) (r : AF × PQ) : Bool := match r with
  | (.next, s) => (hullF w).1 == s.whole && (decide (s.front.length ≤ 50) && ((hullF s.front).1 && (hullF s.front).2 == s.stops))
  | _ => false
theorem bodyX_eq (w : List Bool) (hl : w.length ≤ 50) : ∀ (ps : List (List Bool)) (last : List Bool) (whole : Bool) (front : List Bool) (stops : List Nat), bodyX w (hullX w).1 (hullX w).2 ps last whole front stops = true →
    finOK w (loopF partStep ps ⟨last, whole, front, stops⟩) = true
  | [], last, whole, front, stops, h => by
    rw [bodyX] at h
    rw [loopF, finOK]
    simp only [hull_eq]
    cases hw : (hullX w).1 with
    | true =>
      rw [hw, cond_true] at h
      cases whole with
      | false => cases h
      | true =>
        rw [cond_true] at h
        cases hb : eqB front w with
        | false => rw [hb] at h; cases h
        | true =>
          rw [hb, cond_true] at h
          rw [eqB_eq hb, hw, eqN_eq h]
          simp [hl]
    | false =>
      rw [hw, cond_false] at h
      cases whole with
      | true => cases h
      | false =>
        rw [cond_false] at h
        cases hb : Nat.ble front.length 50 with
        | false => rw [hb] at h; cases h
        | true =>
          rw [hb, cond_true] at h
          have := Nat.le_of_ble_eq_true hb
          cases hx : hullX front with
          | mk n t =>
            rw [hx] at h
            cases n with
            | false => cases h
            | true =>
              have := eqN_eq h
              subst this
              simp only [beq_self_eq_true, Bool.and_true, Bool.and_eq_true, decide_eq_true_eq]
              simp [*]
  | p :: ps, last, whole, front, stops, h => by
    rw [bodyX.eq_def] at h
    simp only at h
    cases hn : (hullX p).1 with
    | true =>
      rw [hn, cond_true] at h
      cases hp : partX p with
      | false => rw [hp] at h; cases h
      | true =>
        rw [hp, cond_true] at h
        have hs : (!last.isEmpty && !slopesQ last p) = false := by
          cases last with
          | nil => rfl
          | cons a r =>
            simp only at h
            cases hx : slopesX (a :: r) p with
            | false => rw [hx] at h; cases h
            | true => rw [slopes_eq _ _ hx]; simp
        have h' : bodyX w (hullX w).1 (hullX w).2 ps p whole (bif whole then front ++ p else front) (bif whole then stops ++ [(front ++ p).length] else stops) = true := by
          generalize bodyX w (hullX w).1 (hullX w).2 ps p whole (bif whole then front ++ p else front) (bif whole then stops ++ [(front ++ p).length] else stops) = z at h ⊢
          revert h
          generalize (match last with | [] => true | a :: r => slopesX (a :: r) p) = y
          cases y <;> simp
        have ih := bodyX_eq w hl ps _ _ _ _ h'
        have hst : partStep p ⟨last, whole, front, stops⟩ = (.next, ⟨p, whole, bif whole then front ++ p else front, bif whole then stops ++ [(front ++ p).length] else stops⟩) := by
          unfold partStep
          rw [part_eq, hp, hull_eq, hn]
          simp only [if_true, Bool.true_and, Bool.and_true, hs]
          cases whole <;> rfl
        rw [loopF_go (by rw [hst]), hst]
        exact ih
    | false =>
      rw [hn, cond_false] at h
      cases hp : partX p with
      | true => rw [hp] at h; cases h
      | false =>
        rw [hp, cond_false] at h
        have ih := bodyX_eq w hl ps _ _ _ _ h
        have hst : partStep p ⟨last, whole, front, stops⟩ = (.next, ⟨[], false, front, stops⟩) := by
          unfold partStep
          rw [part_eq, hp, hull_eq, hn]
          cases whole <;> rfl
        rw [loopF_go (by rw [hst]), hst]
        exact ih
theorem word_eq (w : List Bool) (h : wordX w = true) : bodyOK w = true := by
  unfold wordX at h
  cases hb : Nat.ble w.length 50 with
  | false => rw [hb] at h; cases h
  | true =>
    rw [hb, cond_true] at h
    have := bodyX_eq w (Nat.le_of_ble_eq_true hb) _ _ _ _ _ h
    rw [← parts_eq] at this
    exact this
end Mine

namespace Mine
open PySem
set_option maxRecDepth 20000
set_option linter.unusedVariables false
set_option linter.unusedSimpArgs false

/-! what is hidden is not weighed -/
noncomputable def Par (l : List Nat) : Prop := ∀ c ∈ l, c = 40 ∨ c = 41
theorem Par.cons {c : Nat} {l : List Nat} (h : Par (c :: l)) : (c = 40 ∨ c = 41) ∧ Par l := ⟨h c List.mem_cons_self, fun d hd => h d (List.mem_cons_of_mem _ hd)⟩
theorem Par.append {a b : List Nat} (ha : Par a) (hb : Par b) : Par (a ++ b) := fun c hc => (List.mem_append.mp hc).elim (ha c) (hb c)
theorem Par.rep40 (n : Nat) : Par (List.replicate n 40) := fun c hc => .inl (List.eq_of_mem_replicate hc)
theorem Par.rep41 (n : Nat) : Par (List.replicate n 41) := fun c hc => .inr (List.eq_of_mem_replicate hc)

theorem loopF_go' {α S : Type} {step : α → S → AF × S} {x : α} {xs : List α} {s : S} (h : (step x s).1 = .next) : loopF step (x :: xs) s = loopF step xs (step x s).2 := by
  rw [loopF]
  cases he : step x s with
  | mk a b => rw [he] at h; simp only at h; subst h; rfl
theorem strip_skip (x : List Nat) : ∀ (A : List Nat) (p : Nat) (R : List Nat) (s : SQ), Par A → loopF (stripStep x) (escN false p (A ++ R)) s = loopF (stripStep x) (escN false (p + A.length) R) s
  | [], p, R, s, _ => by simp
  | c :: A, p, R, s, h => by
    obtain ⟨hc, hA⟩ := h.cons
    have ih := strip_skip x A (p + 1) R s hA
    have h92 : c ≠ 92 := by rcases hc with rfl | rfl <;> decide
    have h34 : ¬ [c] = [34] := by rcases hc with rfl | rfl <;> decide
    rw [List.cons_append, escN, if_neg h92, loopF]
    unfold stripStep at ih ⊢
    simp only [h34, if_false]
    rw [ih, List.length_cons, show p + 1 + A.length = p + (A.length + 1) by omega]
noncomputable def cP (c : Nat) (o : Int) : AF × Int := checkStep [c] o
noncomputable def thenP (r : AF × Int) (K : Int → AF × Int) : AF × Int := match r with
  | (.next, o) => K o
  | r => r
theorem cP40 (o : Int) : cP 40 o = (.next, o + 1) := rfl
theorem cP41 (o : Int) : cP 41 o = if o - 1 < 0 then (.ret (.bool false), o - 1) else (.next, o - 1) := rfl
theorem check_skip : ∀ (A : List Nat) (p : Nat) (R : List Nat) (o : Int), Par A → loopF checkQ (escN false p (A ++ R)) o = thenP (loopF cP A o) fun o' => loopF checkQ (escN false (p + A.length) R) o'
  | [], p, R, o, _ => by simp [loopF, thenP]
  | c :: A, p, R, o, h => by
    obtain ⟨hc, hA⟩ := h.cons
    have h92 : c ≠ 92 := by rcases hc with rfl | rfl <;> decide
    have ih := fun o => check_skip A (p + 1) R o hA
    rw [List.cons_append, escN, if_neg h92, loopF, loopF, List.length_cons, show p + (A.length + 1) = p + 1 + A.length by omega]
    have e : checkQ (p, [c]) o = cP c o := rfl
    rw [e]
    rcases hc with rfl | rfl
    · rw [cP40]; exact ih _
    · rw [cP41]
      by_cases ho : o - 1 < 0
      · rw [if_pos ho]; rfl
      · rw [if_neg ho]; exact ih _
theorem cP_append : ∀ (A B : List Nat) (o : Int), Par A → loopF cP (A ++ B) o = thenP (loopF cP A o) fun o' => loopF cP B o'
  | [], B, o, _ => rfl
  | c :: A, B, o, h => by
    obtain ⟨hc, hA⟩ := h.cons
    have ih := fun o => cP_append A B o hA
    rw [List.cons_append, loopF, loopF]
    rcases hc with rfl | rfl
    · rw [cP40]; exact ih _
    · rw [cP41]
      by_cases ho : o - 1 < 0
      · rw [if_pos ho]; rfl
      · rw [if_neg ho]; exact ih _
theorem thenP_id (r : AF × Int) : thenP r (fun o => (.next, o)) = r := by
  obtain ⟨a, o⟩ := r
  cases a <;> rfl
noncomputable def chkP (l : List Nat) : Bool := chkR (loopF cP l 0)
theorem par_no {l : List Nat} (h : Par l) {c : Nat} (h1 : c ≠ 40) (h2 : c ≠ 41) : c ∉ l := fun hc => (h c hc).elim h1 h2
theorem check_plain {A B hid : List Nat} (hA : Par A) (hB : Par B) (hs : stripF (A ++ (hid ++ B)) = A ++ (hid ++ B)) (hn : ∀ (p : Nat) (o : Int), loopF checkQ (escN false p (hid ++ B)) o = loopF checkQ (escN false (p + hid.length) B) o) :
    checkF (A ++ (hid ++ B)) = chkP (A ++ B) := by
  unfold checkF chkP
  rw [hs, check_skip A _ _ _ hA, cP_append A B 0 hA]
  congr 2
  funext o
  rw [hn]
  have := check_skip B (0 + A.length + hid.length) [] o hB
  rw [List.append_nil] at this
  rw [this]
  exact thenP_id _
theorem check_cut {x A B : List Nat} (hA : Par A) (hB : Par B) (hs : stripF x = A ++ B) : checkF x = chkP (A ++ B) := by
  unfold checkF chkP
  rw [hs]
  have := check_skip (A ++ B) 0 [] 0 (hA.append hB)
  rw [List.append_nil] at this
  rw [this]
  congr 1
  exact thenP_id _
theorem strip_none {x : List Nat} (h : 34 ∉ x) : stripF x = x := by
  unfold stripF
  rw [if_neg]
  rw [List.contains_iff_mem]
  exact h
theorem strip_end (x : List Nat) {B : List Nat} (hB : Par B) (p : Nat) (s : SQ) : loopF (stripStep x) (escN false p B) s = (.next, s) := by
  have := strip_skip x B p [] s hB
  rw [List.append_nil] at this
  rw [this]; rfl
theorem strip_cut {x A B : List Nat} {k : Nat} (hc : x.contains 34 = true) (hx1 : x.take A.length = A) (hx2 : x.drop (A.length + k) = B) (hl : x.length = A.length + k + B.length) (hs : (stripS x).start = A.length + k) (hr : (stripS x).res = if 0 ≠ A.length then [(x.take A.length).drop 0] else []) : stripF x = A ++ B := by
  unfold stripF
  rw [if_pos hc, hs, hr, hx2, hx1]
  cases A with
  | nil =>
    cases B with
    | nil => simp [hl]
    | cons b B => simp [hl]
  | cons a A =>
    cases B with
    | nil => simp [hl]
    | cons b B => simp [hl]
theorem s1 (x : List Nat) {A B : List Nat} (hA : Par A) (hB : Par B) : (loopF (stripStep x) (escN false 0 (A ++ (34 :: B))) ⟨0, none, []⟩).2 = ⟨0, some A.length, []⟩ := by
  rw [strip_skip _ A 0 _ _ hA, Nat.zero_add, escN, if_neg (by decide), loopF_go' rfl]
  simp only [stripStep, if_true]
  have := strip_end x hB (A.length + 1) ⟨0, some A.length, []⟩
  rw [this]
theorem s3 (x : List Nat) {A B : List Nat} {c : Nat} (hA : Par A) (hB : Par B) (hc : c = 40 ∨ c = 41) : (loopF (stripStep x) (escN false 0 (A ++ (34 :: c :: 34 :: B))) ⟨0, none, []⟩).2 = ⟨A.length + 3, none, if 0 ≠ A.length then [(x.take A.length).drop 0] else []⟩ := by
  have h92 : c ≠ 92 := by rcases hc with rfl | rfl <;> decide
  have h34 : ¬ [c] = [34] := by rcases hc with rfl | rfl <;> decide
  rw [strip_skip _ A 0 _ _ hA, Nat.zero_add, escN, if_neg (by decide), loopF_go' rfl, escN, if_neg h92, loopF_go' rfl, escN, if_neg (by decide), loopF_go' rfl]
  simp only [stripStep, if_true, h34, if_false, List.nil_append]
  have := strip_end x hB (A.length + 1 + 1 + 1) ⟨A.length + 1 + 1 + 1, none, if 0 ≠ A.length then [(x.take A.length).drop 0] else []⟩
  rw [this]
theorem s5 (x : List Nat) {A B : List Nat} (hA : Par A) (hB : Par B) : (loopF (stripStep x) (escN false 0 (A ++ (34 :: 92 :: 34 :: 41 :: 34 :: B))) ⟨0, none, []⟩).2 = ⟨A.length + 5, none, if 0 ≠ A.length then [(x.take A.length).drop 0] else []⟩ := by
  rw [strip_skip _ A 0 _ _ hA, Nat.zero_add, escN, if_neg (by decide), loopF_go' rfl, escN, if_pos rfl, escN, loopF_go' rfl, escN, if_neg (by decide), loopF_go' rfl, escN, if_neg (by decide), loopF_go' rfl]
  simp only [stripStep, if_true, (by decide : ¬ [92, 34] = [34]), (by decide : ¬ [41] = [34]), if_false, List.nil_append]
  have := strip_end x hB (A.length + 1 + 1 + 1 + 1 + 1) ⟨A.length + 1 + 1 + 1 + 1 + 1, none, if 0 ≠ A.length then [(x.take A.length).drop 0] else []⟩
  rw [this]
theorem s6 (x : List Nat) {A B : List Nat} (hA : Par A) (hB : Par B) : (loopF (stripStep x) (escN false 0 (A ++ (34 :: 41 :: 34 :: 34 :: 40 :: 34 :: B))) ⟨0, none, []⟩).2 = ⟨A.length + 6, none, if 0 ≠ A.length then [(x.take A.length).drop 0] else []⟩ := by
  rw [strip_skip _ A 0 _ _ hA, Nat.zero_add, escN, if_neg (by decide), loopF_go' rfl, escN, if_neg (by decide), loopF_go' rfl, escN, if_neg (by decide), loopF_go' rfl, escN, if_neg (by decide), loopF_go' rfl, escN, if_neg (by decide), loopF_go' rfl, escN, if_neg (by decide), loopF_go' rfl]
  simp only [stripStep, if_true, (by decide : ¬ [40] = [34]), (by decide : ¬ [41] = [34]), if_false, List.nil_append, ne_eq, not_true_eq_false]
  have := strip_end x hB (A.length + 1 + 1 + 1 + 1 + 1 + 1) ⟨A.length + 1 + 1 + 1 + 1 + 1 + 1, none, if 0 ≠ A.length then [(x.take A.length).drop 0] else []⟩
  simp only [ne_eq] at this
  rw [this]
theorem hide_neutral {A B hid : List Nat} (hA : Par A) (hB : Par B) (hh : hid ∈ hidesF) : checkF (A ++ (hid ++ B)) = chkP (A ++ B) := by
  have h34 : ∀ {m : List Nat}, Par m → 34 ∉ m := fun h => par_no h (by decide) (by decide)
  have hcon : ∀ (r : List Nat), (A ++ (34 :: r)).contains 34 = true := fun r => by rw [List.contains_iff_mem]; simp
  have hno : ∀ m : List Nat, 34 ∉ m → 34 ∉ A ++ (m ++ B) := fun m hm h => by
    rcases List.mem_append.mp h with h | h
    · exact h34 hA h
    · rcases List.mem_append.mp h with h | h
      · exact hm h
      · exact h34 hB h
  have ht : ∀ m : List Nat, (A ++ (m ++ B)).take A.length = A := fun m => by simp
  have hd : ∀ m : List Nat, (A ++ (m ++ B)).drop (A.length + m.length) = B := fun m => by rw [← List.append_assoc, ← List.length_append, List.drop_left]
  have hll : ∀ m : List Nat, (A ++ (m ++ B)).length = A.length + m.length + B.length := fun m => by simp; omega
  simp only [hidesF, List.mem_cons, List.not_mem_nil, or_false] at hh
  rcases hh with rfl | rfl | rfl | rfl | rfl | rfl | rfl | rfl
  · refine check_plain hA hB ?_ (fun p o => by simp [escN, loopF, checkQ, checkStep])
    unfold stripF
    have hcc : (A ++ ([34] ++ B)).contains 34 = true := hcon B
    rw [if_pos hcc]
    have hS : stripS (A ++ ([34] ++ B)) = ⟨0, some A.length, []⟩ := s1 _ hA hB
    rw [hS]
    have hpos : 0 < (A ++ ([34] ++ B)).length := by rw [List.length_append, List.length_append, List.length_singleton]; omega
    simp only [hpos, if_true]
    simp
  · exact check_plain hA hB (strip_none (hno _ (by decide))) (fun p o => by simp [escN, loopF, checkQ, checkStep])
  · refine check_cut hA hB (strip_cut (k := 3) (hcon _) (ht [34, 40, 34]) (hd [34, 40, 34]) (hll [34, 40, 34]) ?_ ?_) <;> unfold stripS
    · exact congrArg SQ.start (s3 _ hA hB (.inl rfl))
    · exact congrArg SQ.res (s3 _ hA hB (.inl rfl))
  · exact check_plain hA hB (strip_none (hno _ (by decide))) (fun p o => by simp [escN, loopF, checkQ, checkStep])
  · refine check_cut hA hB (strip_cut (k := 3) (hcon _) (ht [34, 41, 34]) (hd [34, 41, 34]) (hll [34, 41, 34]) ?_ ?_) <;> unfold stripS
    · exact congrArg SQ.start (s3 _ hA hB (.inr rfl))
    · exact congrArg SQ.res (s3 _ hA hB (.inr rfl))
  · refine check_cut hA hB (strip_cut (k := 5) (hcon _) (ht [34, 92, 34, 41, 34]) (hd [34, 92, 34, 41, 34]) (hll [34, 92, 34, 41, 34]) ?_ ?_) <;> unfold stripS
    · exact congrArg SQ.start (s5 _ hA hB)
    · exact congrArg SQ.res (s5 _ hA hB)
  · exact check_plain hA hB (strip_none (hno _ (by decide))) (fun p o => by simp [escN, loopF, checkQ, checkStep])
  · refine check_cut hA hB (strip_cut (k := 6) (hcon _) (ht [34, 41, 34, 34, 40, 34]) (hd [34, 41, 34, 34, 40, 34]) (hll [34, 41, 34, 34, 40, 34]) ?_ ?_) <;> unfold stripS
    · exact congrArg SQ.start (s6 _ hA hB)
    · exact congrArg SQ.res (s6 _ hA hB)

/-! what is weighed, block by block -/
theorem run40 (R : List Nat) : ∀ (k : Nat) (o : Nat), loopF cP (List.replicate k 40 ++ R) (o : Int) = loopF cP R ((o + k : Nat) : Int)
  | 0, o => rfl
  | k + 1, o => by
    rw [List.replicate_succ, List.cons_append, loopF_go' rfl, cP40]
    have := run40 R k (o + 1)
    rw [show o + (k + 1) = o + 1 + k by omega]
    exact this
theorem run41 (R : List Nat) : ∀ (k : Nat) (o : Nat), loopF cP (List.replicate k 41 ++ R) (o : Int) = if o < k then (.ret (.bool false), -1) else loopF cP R ((o - k : Nat) : Int)
  | 0, o => by simp
  | k + 1, 0 => by
    rw [if_pos (by omega), List.replicate_succ, List.cons_append, loopF, cP41]
    rfl
  | k + 1, o + 1 => by
    have h1 : ¬ (((o + 1 : Nat) : Int) - 1 < 0) := by omega
    have h2 : ((o + 1 : Nat) : Int) - 1 = (o : Int) := by omega
    rw [List.replicate_succ, List.cons_append, loopF_go' (by rw [cP41, if_neg h1]), cP41, if_neg h1, h2, run41 R k o]
    by_cases h : o < k
    · rw [if_pos h, if_pos (by omega)]
    · rw [if_neg h, if_neg (by omega), show o + 1 - (k + 1) = o - k by omega]
theorem run_first (u r : Nat) (R : List Nat) : ∀ (w : List Bool) (o : Nat), loopF cP ((w.map fun b => if b then List.replicate r 41 else List.replicate u 40).flatten ++ R) (o : Int) = match scan1 u r w o with
    | none => (.ret (.bool false), -1)
    | some o' => loopF cP R (o' : Int)
  | [], o => rfl
  | true :: w, o => by
    rw [List.map_cons, List.flatten_cons, List.append_assoc, scan1]
    simp only [if_true]
    rw [run41]
    by_cases h : o < r
    · rw [if_pos h, if_pos h]
    · rw [if_neg h, if_neg h]; exact run_first u r R w _
  | false :: w, o => by
    rw [List.map_cons, List.flatten_cons, List.append_assoc, scan1]
    simp only [Bool.false_eq_true, if_false]
    rw [run40]
    exact run_first u r R w _
theorem run_second (u r : Nat) (R : List Nat) : ∀ (w : List Bool) (o : Nat), loopF cP ((w.map fun b => if b then List.replicate r 40 else List.replicate u 41).flatten ++ R) (o : Int) = match scan2 u r w o with
    | none => (.ret (.bool false), -1)
    | some o' => loopF cP R (o' : Int)
  | [], o => rfl
  | false :: w, o => by
    rw [List.map_cons, List.flatten_cons, List.append_assoc, scan2]
    simp only [Bool.false_eq_true, if_false]
    rw [run41]
    by_cases h : o < u
    · rw [if_pos h, if_pos h]
    · rw [if_neg h, if_neg h]; exact run_second u r R w _
  | true :: w, o => by
    rw [List.map_cons, List.flatten_cons, List.append_assoc, scan2]
    simp only [if_true]
    rw [run40]
    exact run_second u r R w _
theorem last41 (m o : Nat) : chkR (loopF cP (List.replicate m 41) (o : Int)) = (o == m) := by
  have h := run41 [] m o
  rw [List.append_nil] at h
  rw [h]
  by_cases h : o < m
  · rw [if_pos h]
    have : o ≠ m := by omega
    rw [beq_eq_false_iff_ne.mpr this]; rfl
  · rw [if_neg h]
    show decide (((o - m : Nat) : Int) = 0) = (o == m)
    by_cases he : o = m
    · subst he; simp
    · rw [beq_eq_false_iff_ne.mpr he]
      exact decide_eq_false (by omega)
theorem par_flat {a b : List Nat} (ha : Par a) (hb : Par b) (w : List Bool) : Par (w.map fun x => if x = true then a else b).flatten := by
  intro c hc
  obtain ⟨y, hy, hcy⟩ := List.mem_flatten.mp hc
  obtain ⟨x, _, rfl⟩ := List.mem_map.mp hy
  split at hcy
  · exact ha c hcy
  · exact hb c hcy
theorem weigh_eq (hid : List Nat) (hh : hid ∈ hidesF) (p : List Bool) : checkF (weighedF p hid) = partOK p := by
  have e : weighedF p hid = (firstF p ++ List.replicate (p.length - 1) 40) ++ (hid ++ (secondF p ++ List.replicate (p.length - 1) 41)) := by
    unfold weighedF; simp
  have hP1 : Par (firstF p ++ List.replicate (p.length - 1) 40) := (par_flat (Par.rep41 _) (Par.rep40 _) p).append (Par.rep40 _)
  have hP2 : Par (secondF p ++ List.replicate (p.length - 1) 41) := (par_flat (Par.rep40 _) (Par.rep41 _) p).append (Par.rep41 _)
  rw [e, hide_neutral hP1 hP2 hh]
  unfold chkP partOK firstF secondF
  rw [List.append_assoc]
  have h1 := run_first (p.count true) (p.count false) (List.replicate (p.length - 1) 40 ++ ((p.map fun b => if b = true then List.replicate (p.count false) 40 else List.replicate (p.count true) 41).flatten ++ List.replicate (p.length - 1) 41)) p 0
  rw [Int.natCast_zero] at h1
  rw [h1]
  cases scan1 (p.count true) (p.count false) p 0 with
  | none => rfl
  | some o =>
    simp only
    rw [run40, run_second]
    cases scan2 (p.count true) (p.count false) p (o + (p.length - 1)) with
    | none => rfl
    | some o' =>
      simp only
      exact last41 _ _
theorem slopes_pure (a b : List Bool) : slopesF a b = slopesQ a b := by
  unfold slopesF slopesQ
  simp only
  generalize a.count true * b.count false = m
  generalize b.count true * a.count false = k
  have hP : Par (List.replicate m 40 ++ List.replicate k 41) := (Par.rep40 _).append (Par.rep41 _)
  have h := check_cut (x := List.replicate m 40 ++ List.replicate k 41) (A := List.replicate m 40) (B := List.replicate k 41) (Par.rep40 _) (Par.rep41 _) (strip_none (par_no hP (by decide) (by decide)))
  have h2 : chkP (List.replicate m 40 ++ List.replicate k 41) = decide (m = k) := by
    unfold chkP
    have h1 := run40 (List.replicate k 41) m 0
    rw [Int.natCast_zero] at h1
    rw [h1, last41, Nat.zero_add]
    by_cases h : m = k
    · subst h; simp
    · simp [h]
  rw [h, h2, beq_self_eq_true, Bool.true_and]
end Mine

namespace Mine
open PySem
set_option maxRecDepth 20000
set_option linter.unusedVariables false
set_option linter.unusedSimpArgs false

/-! rulers: what is written is what is marked -/
noncomputable def markB (p : Nat) : Nat → List Nat → Nat → Bool
  | _, [], _ => false
  | last, v :: r, told => if v = 127 then false else if v = 0 then decide (((p : Int) - (told : Int)).fmod ((last : Nat) : Int) = 0) else if p ≤ told + v then decide (told + v = p) else markB p v r (told + v)
theorem mark_go (p : Nat) : ∀ (rest pre : List Nat) (told : Nat), markR (loopF (markStep (pre ++ rest) p) (rest.zipIdx pre.length) told) = markB p ((pre ++ rest).getD (pre.length - 1) 0) rest told
  | [], pre, told => rfl
  | v :: rest, pre, told => by
    have ih := mark_go p rest (pre ++ [v]) (told + v)
    rw [List.append_assoc, List.length_append, List.length_singleton, List.singleton_append] at ih
    have hlast : (pre ++ v :: rest).getD (pre.length + 1 - 1) 0 = v := by
      rw [Nat.add_sub_cancel, List.getD, List.getElem?_append_right (Nat.le_refl _), Nat.sub_self]; rfl
    rw [hlast] at ih
    rw [List.zipIdx_cons, loopF, markB]
    unfold markStep
    by_cases h1 : v = 127
    · simp only [h1, if_true]; rfl
    · by_cases h2 : v = 0
      · simp only [h2, if_true, (by decide : ¬ (0 = 127)), if_false]; rfl
      · by_cases h3 : p ≤ told + v
        · simp only [h1, h2, h3, if_true, if_false]; rfl
        · simp only [h1, h2, h3, if_false]
          unfold markStep at ih
          exact ih
theorem mark_eq (p : Nat) (row : List Nat) : markF row p = markB p (row.getD 0 0) row 0 := mark_go p row [] 0
theorem markB_last {p x y v : Nat} {r : List Nat} {told : Nat} (h : v ≠ 0) : markB p x (v :: r) told = markB p y (v :: r) told := by
  rw [markB, markB]
  simp only [h, if_false]

theorem loopG_w {fin : Bool} : ∀ (items : List Nat) (t : Nat) (m : List Nat), loopG fin wStep items (t, m) = (loopG fin wStep items (t, [])).map fun r => (r.1, (r.2.1, m ++ r.2.2))
  | [], t, m => by
    rw [loopG, loopG]
    cases fin with
    | true => show some (AF.next, t, m) = some (AF.next, t, m ++ []); rw [List.append_nil]
    | false => rfl
  | v :: items, t, m => by
    rw [loopG, loopG]
    by_cases h1 : v = 127
    · have e : ∀ m, wStep v (t, m) = (.ret (.str []), (t, m)) := fun m => if_pos h1
      rw [e, e]; show some (_, t, m) = some (_, t, m ++ []); rw [List.append_nil]
    · by_cases h2 : 11 < t + v
      · have e : ∀ m, wStep v (t, m) = (.brk, (t + v, m)) := fun m => (if_neg h1).trans (if_pos h2)
        rw [e, e]; show some (AF.next, t + v, m) = some (AF.next, t + v, m ++ []); rw [List.append_nil]
      · have e : ∀ m, wStep v (t, m) = (.next, (t + v, m ++ [t + v])) := fun m => (if_neg h1).trans (if_neg h2)
        rw [e, e]
        show loopG fin wStep items (t + v, m ++ [t + v]) = (loopG fin wStep items (t + v, [] ++ [t + v])).map _
        rw [loopG_w items (t + v) (m ++ [t + v]), loopG_w items (t + v) ([] ++ [t + v]), Option.map_map]
        congr 1
        funext r
        show (r.1, (r.2.1, m ++ [t + v] ++ r.2.2)) = (r.1, (r.2.1, m ++ ([] ++ [t + v] ++ r.2.2)))
        rw [List.append_assoc]; rfl
theorem written_pre {fin : Bool} (items : List Nat) (told : Nat) (marks : List Nat) (at' : Nat) (ms : List Nat) (h : loopG fin wStep items (told, []) = some (.next, (at', ms))) : loopG fin wStep items (told, marks) = some (.next, (at', marks ++ ms)) := by
  rw [loopG_w, h]; rfl
/-- what stands at a place of a ruler -/
noncomputable def baseOk (told last i : Nat) : Bool := match grpN (some last) (closeF i) with
  | none => false
  | some q => match loopG q.2 wStep q.1 (told, []) with
    | some (.next, (_, ms)) => decide (q.1.length ≤ 12) && ((List.range' (told + 1) (11 - told)).all fun p => markB p last (closeF i) told == ms.contains p) && ms.all fun m => decide (told < m)
    | _ => false
theorem base_all : ((List.range 12).all fun told => [1, 2, 3, 4].all fun last => [0, 1, 2].all fun i => baseOk told last i) = true := by decide +kernel

theorem ruler (i : Nat) (hi : i < 3) : ∀ (l : List Nat) (last told : Nat), (∀ v ∈ l, 1 ≤ v ∧ v ≤ 4) → 1 ≤ last → last ≤ 4 → told ≤ 11 → ∃ items fin at' ms, grpN (some last) (l ++ closeF i) = some (items, fin) ∧ items.length ≤ l.length + 12 ∧ loopG fin wStep items (told, []) = some (.next, (at', ms)) ∧
    (∀ p, told < p → p ≤ 11 → markB p last (l ++ closeF i) told = ms.contains p) ∧ ∀ m ∈ ms, told < m
  | [], last, told, _, h1, h2, h3 => by
    have hb : baseOk told last i = true := by
      have h := List.all_eq_true.mp base_all told (List.mem_range.mpr (by (clear hi h1 h2; omega)))
      have h := List.all_eq_true.mp h last (by simp; omega)
      exact List.all_eq_true.mp h i (by simp; omega)
    unfold baseOk at hb
    rw [List.nil_append]
    split at hb
    · cases hb
    · rename_i q hq
      split at hb
      · rename_i at' ms hg
        rw [Bool.and_eq_true, Bool.and_eq_true, decide_eq_true_eq] at hb
        obtain ⟨⟨b1, b2⟩, b3⟩ := hb
        refine ⟨q.1, q.2, at', ms, hq, by simpa using b1, hg, fun p hp1 hp2 => ?_, fun m hm => ?_⟩
        · have := List.all_eq_true.mp b2 p (List.mem_range'_1.mpr (by (clear hi h1 h2 hq hg b3 b1 b2; omega)))
          simpa using this
        · simpa using List.all_eq_true.mp b3 m hm
      · cases hb
  | v :: l, last, told, hl, h1, h2, h3 => by
    obtain ⟨hv1, hv2⟩ := hl v List.mem_cons_self
    have n1 : ¬ v = 127 := by (clear hi hl h1 h2 h3 hv1; omega)
    have n2 : ¬ v = 0 := by (clear hi hl h1 h2 h3 n1 hv2; omega)
    have hl' : ∀ u ∈ l, 1 ≤ u ∧ u ≤ 4 := fun u hu => hl u (List.mem_cons_of_mem _ hu)
    by_cases h : 11 < told + v
    · obtain ⟨items, fin, at', ms, g1, g2, g3, g4, g5⟩ := ruler i hi l v 11 hl' hv1 hv2 (Nat.le_refl _)
      refine ⟨v :: items, fin, told + v, [], ?_, by simp only [List.length_cons]; (clear hi hl h1 h2 h3 hv1 hv2 n1 n2 hl' h g1 g3 g4 g5; omega), ?_, fun p hp1 hp2 => ?_, by simp⟩
      · rw [List.cons_append, grpN, if_neg n1, if_neg n2, g1]; rfl
      · rw [loopG]; unfold wStep; simp only [n1, h, if_true, if_false]
      · rw [List.cons_append, markB, if_neg n1, if_neg n2, if_pos (by (clear hi hl h1 h2 h3 hv1 hv2 n1 n2 hl' g1 g2 g3 g4 g5 hp1; omega))]
        simp; (clear hi hl h1 h2 h3 hv1 hv2 n1 n2 hl' g1 g2 g3 g4 g5 hp1; omega)
    · obtain ⟨items, fin, at', ms, g1, g2, g3, g4, g5⟩ := ruler i hi l v (told + v) hl' hv1 hv2 (by (clear hi hl h1 h2 h3 hv1 hv2 n1 n2 hl'; omega))
      refine ⟨v :: items, fin, at', (told + v) :: ms, ?_, by simp only [List.length_cons]; (clear hi hl h1 h2 h3 hv1 hv2 n1 n2 hl' h g1 g3 g4 g5; omega), ?_, fun p hp1 hp2 => ?_, fun m hm => ?_⟩
      · rw [List.cons_append, grpN, if_neg n1, if_neg n2, g1]; rfl
      · rw [loopG]
        have hw : wStep v (told, []) = (.next, (told + v, [told + v])) := by unfold wStep; simp only [n1, h, if_false]; rfl
        rw [hw]
        exact written_pre items (told + v) [told + v] at' ms g3
      · rw [List.cons_append, markB, if_neg n1, if_neg n2, List.contains_cons]
        by_cases hp : p ≤ told + v
        · rw [if_pos hp]
          have hno : ms.contains p = false := by
            cases hc : ms.contains p with
            | false => rfl
            | true =>
              have := g5 p (List.contains_iff_mem.mp hc)
              (clear hi hl h1 h2 h3 hv1 hv2 n1 n2 hl' h g1 g2 g3 g4 g5 hp1 hp2 hc; omega)
          rw [hno, Bool.or_false]
          by_cases he : told + v = p
          · simp [he]
          · have : ¬ p = told + v := fun e => he e.symm
            rw [beq_eq_false_iff_ne.mpr this]; exact decide_eq_false he
        · rw [if_neg hp, g4 p (by (clear hi hl h1 h2 h3 hv1 hv2 n1 n2 hl' h g1 g2 g3 g4 g5 hp1 hp2; omega)) hp2]
          have : ¬ p = told + v := by (clear hi hl h1 h2 h3 hv1 hv2 n1 n2 hl' h g1 g2 g3 g4 g5 hp1 hp2; omega)
          rw [beq_eq_false_iff_ne.mpr this, Bool.false_or]
      · rcases List.mem_cons.mp hm with rfl | hm
        · (clear hi hl h1 h2 h3 n1 n2 hl' h g1 g2 g3 g4 g5 hm hv2; omega)
        · have := g5 m hm; (clear hi hl h1 h2 h3 n1 n2 hl' h g1 g2 g3 g4 g5 hm hv2 hv1; omega)
theorem grp_none {v : Nat} {r : List Nat} {last : Nat} (h : v ≠ 0) : grpN none (v :: r) = grpN (some last) (v :: r) := by
  rw [grpN, grpN]; simp only [h, if_false]

theorem row_good (hword : ∀ w : List Bool, w.length = 11 → bodyOK w = true) (sz : List Nat) (h5 : sz.length = 5) (hs : ∀ v ∈ sz, 1 ≤ v ∧ v ≤ 4) (i : Nat) (hi : i < 3) : rowGood (sz ++ closeF i) := by
  obtain ⟨items, fin, at', ms, g1, g2, g3, g4, g5⟩ := ruler i hi sz 1 0 hs (by decide) (by decide) (by decide)
  have hcl : (closeF i).length ≤ 2 := (by decide : ∀ i, i < 3 → (closeF i).length ≤ 2) i hi
  match sz, h5, hs with
  | [a, b, c, d, e], _, hs =>
    have ha := hs a (by simp)
    have hb := hs b (by simp)
    have hc := hs c (by simp)
    have hd := hs d (by simp)
    have he := hs e (by simp)
    refine ⟨(List.range' 1 11).map fun p => ms.contains p, ?_, by simp, ?_, by simp; (clear hword h5 hi g3 g5 hs g1 g2 g4 ha hb hc hd he; omega), ?_, hword _ (by simp)⟩
    · unfold writtenF
      rw [List.cons_append, grp_none (last := 1) (by (clear hword h5 hi g3 g5 hcl hs g1 g2 g4 hb hc hd he; omega)), ← List.cons_append, g1, Option.bind_some]
      simp only [g3]
      rw [if_pos (by simp only [List.length_cons, List.length_nil] at g2; (clear hword h5 hi g3 g5 hcl hs g1 g4 ha hb hc hd he; omega))]
    · have a0 : (a != 0) = true := by simp; (clear hword h5 hi g3 g5 hcl hs g1 g2 g4 hb hc hd he; omega)
      have b0 : (b != 0) = true := by simp; (clear hword h5 hi g3 g5 hcl hs g1 g2 g4 ha hc hd he a0; omega)
      have c0 : (c != 0) = true := by simp; (clear hword h5 hi g3 g5 hcl hs g1 g2 g4 ha hb hd he a0 b0; omega)
      have d0 : (d != 0) = true := by simp; (clear hword h5 hi g3 g5 hcl hs g1 g2 g4 ha hb hc he a0 b0 c0; omega)
      have e0 : (e != 0) = true := by simp; (clear hword h5 hi g3 g5 hcl hs g1 g2 g4 ha hb hc hd a0 b0 c0 d0; omega)
      rcases i with _ | _ | _ | i
      · simp [zeroOk, closeF, a0, b0, c0, d0, e0]
      · simp [zeroOk, closeF, a0, b0, c0, d0, e0]
      · simp [zeroOk, closeF, a0, b0, c0, d0, e0]
      · (clear hword h5 g3 g5 hs g2 ha hb hc hd he a0 b0 c0 d0 e0 hcl g1 g4; omega)
    · refine List.map_congr_left fun p hp => ?_
      have hp' := List.mem_range'_1.mp hp
      rw [mark_eq, ← g4 p (by (clear hword h5 hi g3 g5 hcl hs g1 g2 g4 ha hb hc hd he hp; omega)) (by (clear hword h5 hi g3 g5 hcl hs g1 g2 g4 ha hb hc hd he hp; omega)), List.cons_append]
      exact markB_last (by (clear hword h5 hi g3 g5 hcl hs g1 g2 g4 hb hc hd he hp hp'; omega))
end Mine

namespace Mine
open PySem
set_option maxRecDepth 100000
set_option linter.unusedVariables false

/-! every word of eleven signs -/
noncomputable def words : Nat → List (List Bool)
  | 0 => [[]]
  | n + 1 => (words n).flatMap fun w => [true :: w, false :: w]
theorem words_mem : ∀ (w : List Bool), w ∈ words w.length
  | [] => by simp [words]
  | b :: w => by
    have := words_mem w
    rw [List.length_cons, words, List.mem_flatMap]
    refine ⟨w, this, ?_⟩
    cases b <;> simp

theorem word_b0000 : ((words 7).all fun w => wordX ([false, false, false, false] ++ w)) = true := by decide +kernel
theorem word_b0001 : ((words 7).all fun w => wordX ([false, false, false, true] ++ w)) = true := by decide +kernel
theorem word_b0010 : ((words 7).all fun w => wordX ([false, false, true, false] ++ w)) = true := by decide +kernel
theorem word_b0011 : ((words 7).all fun w => wordX ([false, false, true, true] ++ w)) = true := by decide +kernel
theorem word_b0100 : ((words 7).all fun w => wordX ([false, true, false, false] ++ w)) = true := by decide +kernel
theorem word_b0101 : ((words 7).all fun w => wordX ([false, true, false, true] ++ w)) = true := by decide +kernel
theorem word_b0110 : ((words 7).all fun w => wordX ([false, true, true, false] ++ w)) = true := by decide +kernel
theorem word_b0111 : ((words 7).all fun w => wordX ([false, true, true, true] ++ w)) = true := by decide +kernel
theorem word_b1000 : ((words 7).all fun w => wordX ([true, false, false, false] ++ w)) = true := by decide +kernel
theorem word_b1001 : ((words 7).all fun w => wordX ([true, false, false, true] ++ w)) = true := by decide +kernel
theorem word_b1010 : ((words 7).all fun w => wordX ([true, false, true, false] ++ w)) = true := by decide +kernel
theorem word_b1011 : ((words 7).all fun w => wordX ([true, false, true, true] ++ w)) = true := by decide +kernel
theorem word_b1100 : ((words 7).all fun w => wordX ([true, true, false, false] ++ w)) = true := by decide +kernel
theorem word_b1101 : ((words 7).all fun w => wordX ([true, true, false, true] ++ w)) = true := by decide +kernel
theorem word_b1110 : ((words 7).all fun w => wordX ([true, true, true, false] ++ w)) = true := by decide +kernel
theorem word_b1111 : ((words 7).all fun w => wordX ([true, true, true, true] ++ w)) = true := by decide +kernel
theorem word_all (w : List Bool) (h : w.length = 11) : bodyOK w = true := by
  match w, h with
  | a :: b :: c :: d :: r, h =>
    have hr : r.length = 7 := by simpa using h
    have hm := words_mem r
    rw [hr] at hm
    refine word_eq _ ?_
    cases a with
    | false =>
      cases b with
      | false =>
        cases c with
        | false =>
          cases d with
          | false => exact List.all_eq_true.mp word_b0000 r hm
          | true => exact List.all_eq_true.mp word_b0001 r hm
        | true =>
          cases d with
          | false => exact List.all_eq_true.mp word_b0010 r hm
          | true => exact List.all_eq_true.mp word_b0011 r hm
      | true =>
        cases c with
        | false =>
          cases d with
          | false => exact List.all_eq_true.mp word_b0100 r hm
          | true => exact List.all_eq_true.mp word_b0101 r hm
        | true =>
          cases d with
          | false => exact List.all_eq_true.mp word_b0110 r hm
          | true => exact List.all_eq_true.mp word_b0111 r hm
    | true =>
      cases b with
      | false =>
        cases c with
        | false =>
          cases d with
          | false => exact List.all_eq_true.mp word_b1000 r hm
          | true => exact List.all_eq_true.mp word_b1001 r hm
        | true =>
          cases d with
          | false => exact List.all_eq_true.mp word_b1010 r hm
          | true => exact List.all_eq_true.mp word_b1011 r hm
      | true =>
        cases c with
        | false =>
          cases d with
          | false => exact List.all_eq_true.mp word_b1100 r hm
          | true => exact List.all_eq_true.mp word_b1101 r hm
        | true =>
          cases d with
          | false => exact List.all_eq_true.mp word_b1110 r hm
          | true => exact List.all_eq_true.mp word_b1111 r hm

theorem law_pure (ns : List Int) (h : ns.length ≤ 1000) : runFn 10 "law" [.lst (ns.map .int)] = some (.val (.bool true)) := by
  refine run_law 6 ns h (fun hid hh p _ => weigh_eq hid hh p) slopes_pure (fun ds hd i hi => ?_) fun ds hd j hj i hi => ?_
  · refine row_good word_all _ (by rw [List.length_map]; exact hd) (fun v hv => ?_) i hi
    obtain ⟨x, _, rfl⟩ := List.mem_map.mp hv
    (clear h hd hi hv; omega)
  · refine row_good word_all _ (by rw [List.length_map]; exact hd) (fun v hv => ?_) i hi
    obtain ⟨x, _, rfl⟩ := List.mem_map.mp hv
    (clear h hd hi hv; omega)
end Mine

namespace Mine
open PySem PySem.W PyProof.Rows PySem.Calls
set_option maxRecDepth 100000

theorem ints_paired {vs : List Value} {ns : List Int} (h : IntsAre vs ns) : Paired (VR []) (ns.map .int) vs := by
  induction h with
  | nil => exact .nil
  | cons n t _ ih => exact .cons ⟨t, rfl⟩ ih

theorem deep_caller : Deep 10 callerA := ⟨rfl, by decide, by decide⟩

theorem tp_of_top {q : Program} {loose : List Str} {mean : ExcName → Option Value} {mg mb : Str → Option Value} {h : Heap} (T : Top q loose mean mg mb h)
    (hrec : defs = (recsOf q).map fun r => (r.name, r.params, r.body, r.scope)) (hcm : valOf q "CHAR_MAX" = some (.int 127))
    (hfree : ∀ x ∈ (["len", "sum", "chr", "range", "enumerate", "zip", "list"] : List Str), x ∉ startupNames ∧ x ∉ loose ∧ x ∉ (recsOf q).map (·.name) ∧ x ∉ (litsOf q).map (·.1) ∧ x ∉ (clssOf q loose).map (·.name)) : Tp mg mb h where
  g := T.g
  b := T.b
  nolimit := T.nolimit
  fn := fun f d e => by
    have hm := mem_lk e
    rw [hrec] at hm
    obtain ⟨r, hr, he⟩ := List.mem_map.mp hm
    cases he
    exact T.fn r hr
  cmax := by
    obtain ⟨v, hv, hr⟩ := T.const _ _ hcm
    have := hr h
    cases this
    exact ⟨_, hv⟩
  bi := fun x hx => by
    obtain ⟨h1, h2, h3, h4, h5⟩ := hfree x hx
    refine ⟨T.free x h1 h2 h3 h4 h5, T.builtins x ?_⟩
    have := (by decide +kernel : ∀ x ∈ (["len", "sum", "chr", "range", "enumerate", "zip", "list"] : List Str), x ≠ "__name__")
    exact this x hx

theorem join {q : Program} {XP : (Str → Option Value) → Heap → Prop} {YP : World → Heap → Prop} {d : DefRec} {kwd : List (Str × Expr)} (hdn : d.name = "law")
    (hrec : defs = (recsOf q).map fun r => (r.name, r.params, r.body, r.scope)) (hcm : valOf q "CHAR_MAX" = some (.int 127))
    (hfree : ∀ x ∈ (["len", "sum", "chr", "range", "enumerate", "zip", "list"] : List Str), x ∉ startupNames ∧ x ∉ looseW q [] ∧ x ∉ (recsOf q).map (·.name) ∧ x ∉ (litsOf q).map (·.1) ∧ x ∉ (clssOf q (looseW q [])).map (·.name)) :
    WalkO q [] XP YP PySem.Challenge.rw_ph0039_01.row.toRowW d kwd (fun f vs => PySem.call f vs) := by
  intro w s₀ s₁ mg mb G Y fa o pm cd doc dV kV ho hdd hcd hD hmg hg args vals as hpre hlay hrd hwl hlo
  refine Ground.open G ?_
  intro T B D TE TW
  have Tq := tp_of_top T hrec hcm hfree
  wrow_args hpre hlay hrd hwl hlo
  rename_i ns hs hlay0 hL1 hr1 hl2 a4 a3 la lvs a0 hLs ra w1 r0 hI hr hlen _
  have hpl : s₁.heap.PlainList la lvs.toArray := by
    obtain ⟨o', ho', _, n, hdat⟩ := hLs
    cases w1 with
    | list hget _ =>
      rw [hget] at ho'
      cases ho'
      cases hdat
      exact ⟨_, hget⟩
  have hall : (ns.map AV.int).all AV.isVal = true := by rw [List.all_map, List.all_eq_true]; intro _ _; rfl
  have F := (fun_at (prog := PySem.Challenge.rw_ph0039_01.row.prog) (w := w) (mg := mg) (mb := mb) gens_ok 10 "law" [.lst (ns.map .int)] (.val (.bool true)) deep_caller (law_pure ns (by omega))).2
  refine F s₁ [.ref la] fa _ _ Tq (by rw [← hdn]; exact hmg) (.cons ⟨hall, la, lvs.toArray, rfl, hpl, by simpa using ints_paired hI⟩ .nil) fun V s' hV k => ?_
  obtain ⟨_, hV⟩ := hV
  cases hV
  refine ⟨.inl ⟨.bool true, .bool true, [], rfl, fun cls => ?_, .bool true, ?_, fun _ => ⟨List.nodup_nil, by simp⟩⟩, OldK.of_keep k.keep, k.os, k.bare (.of_eq hg)⟩
  · rfl
  · wrow_post
/-- the row is well said: look by look -/
theorem well : PySem.Challenge.rw_ph0039_01.wellSaid = true := by
  unfold OpenLaw.wellSaid OpenRow.wellSaid OpenRow.partSaid looksOpen
  repeat' (with_reducible refine look_both ?_ ?_)
  all_goals decide +kernel
end Mine

open PySem PySem.W PyProof.Rows
set_option maxRecDepth 100000 in
set_option maxHeartbeats 8000000 in
theorem PySem.Challenge.cw_ph0039_01_holds : PySem.Challenge.rw_ph0039_01.Holds := by
  (w_on; (refine holds_law Mine.well fun said => ?_); o_head Hook.none; (case hw => w_witness2); (refine Mine.join rfl ?_ ?_ ?_))
  · kernel_rfl
  · kernel_rfl
  · decide +kernel
