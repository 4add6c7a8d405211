import PyProof.Rows.All
import Wide.All
import OpenK.AllK
import Wide.FinOn
import Open.Tops
import Lean
import PySem.Challenge.RW_wr0045_01
set_option Elab.async false
set_option maxRecDepth 100000
set_option linter.all false
namespace Mine
open PySem

/-- an atom: a value that is no object -/
inductive A0 where
  | none
  | bool (b : Bool)
  /-- an int; own: the book of tokens knows it -/
  | int (i : Int) (own : Bool)
  | str (x : Str)
  deriving DecidableEq
/-- an abstract value: an atom, a tuple of atoms, a list by its number in the store -/
inductive V where
  | a0 (a : A0)
  | tup (l : List A0)
  | lst (n : Nat)
  deriving DecidableEq
noncomputable abbrev Mem := List (List V)
noncomputable abbrev Loc := List (Str × V)
inductive Fl where
  | next
  | ret (v : V)

noncomputable abbrev vint (i : Int) : V := .a0 (.int i true)
noncomputable abbrev vraw (i : Int) : V := .a0 (.int i false)
noncomputable abbrev vstr (x : Str) : V := .a0 (.str x)
noncomputable abbrev vbool (b : Bool) : V := .a0 (.bool b)
noncomputable abbrev vnone : V := .a0 .none

noncomputable def lim : Nat := 1048576
noncomputable def big : Nat := 4611686018427387904

noncomputable def upd (x : Str) (v : V) : Loc → Loc
  | [] => [(x, v)]
  | (y, w) :: r => if x = y then (y, v) :: r else (y, w) :: upd x v r
noncomputable def updAll : List (Str × V) → Loc → Loc
  | [], ρ => ρ
  | (x, v) :: r, ρ => updAll r (upd x v ρ)

noncomputable def allInts : List V → Option (List Int)
  | [] => some []
  | .a0 (.int i _) :: r => (allInts r).map (i :: ·)
  | _ :: _ => none
noncomputable def allStrs : List V → Option (List Str)
  | [] => some []
  | .a0 (.str x) :: r => (allStrs r).map (x :: ·)
  | _ :: _ => none
noncomputable def allAtoms : List V → Option (List A0)
  | [] => some []
  | .a0 a :: r => (allAtoms r).map (a :: ·)
  | _ :: _ => none

noncomputable def newList (l : List V) (μ : Mem) : Option (V × Mem) := if l.length ≤ lim then some (.lst μ.length, μ ++ [l]) else none
noncomputable def notLst : V → Bool
  | .lst _ => false
  | _ => true
noncomputable def newItems (l : List V) (μ : Mem) : Option (V × Mem) := if l.all notLst then newList l μ else none
noncomputable def newStr (x : Str) (μ : Mem) : Option (V × Mem) := if x.length ≤ lim then some (vstr x, μ) else none

noncomputable def binInt (op : Operator) (i j : Int) : Option Int := match op with
  | .Add => some (i + j)
  | .Sub => some (i - j)
  | .Mult => if i.natAbs < big ∧ j.natAbs < big then some (i * j) else none
  | .Mod => if j = 0 then none else some (i.fmod j)
  | .FloorDiv => if j = 0 ∨ big ≤ i.natAbs ∨ big ≤ j.natAbs then none else some (i.fdiv j)
  | .Pow => if i = 10 ∧ j = 6 then some 1000000 else none
  | _ => none
noncomputable def isAdd : Operator → Bool
  | .Add => true
  | _ => false
noncomputable def binA (op : Operator) (a b : A0) (μ : Mem) : Option (V × Mem) := match a, b with
  | .int i _, .int j _ => (binInt op i j).map fun k => (vint k, μ)
  | .str x, .str y => if isAdd op then newStr (x ++ y) μ else none
  | _, _ => none
noncomputable def binop (op : Operator) (a b : V) (μ : Mem) : Option (V × Mem) := match a, b with
  | .a0 a, .a0 b => binA op a b μ
  | .lst m, .lst n => if isAdd op then (μ[m]?).bind fun l => (μ[n]?).bind fun r => newList (l ++ r) μ else none
  | _, _ => none

/-- tuples of ints and strs alone, of one shape -/
noncomputable def sameShape : List A0 → List A0 → Bool
  | [], [] => true
  | .int _ _ :: l, .int _ _ :: r => sameShape l r
  | .str x :: l, .str y :: r => PyData.strOk x && PyData.strOk y && sameShape l r
  | _, _ => false
noncomputable def sameVals : List A0 → List A0 → Bool
  | [], [] => true
  | .int i _ :: l, .int j _ :: r => i == j && sameVals l r
  | .str x :: l, .str y :: r => x == y && sameVals l r
  | _, _ => false

noncomputable def cmpInt (op : CmpOp) (i j : Int) : Option Bool := match op with
  | .Eq => some (i == j)
  | .NotEq => some (i != j)
  | .Lt => some (decide (i < j))
  | .Gt => some (decide (j < i))
  | .GtE => some (decide (j ≤ i))
  | _ => none
noncomputable def cmpStr (op : CmpOp) (x y : Str) : Option Bool := match op with
  | .Eq => some (x == y)
  | .NotEq => some (x != y)
  | .NotIn => some ((Builtin.Str.occurrences y x 0 y.length 1).isEmpty)
  | _ => none
noncomputable def cmpBool (op : CmpOp) (i j : Bool) : Option Bool := match op with
  | .Is => some (i == j)
  | .IsNot => some (i != j)
  | _ => none
noncomputable def cmpNone (op : CmpOp) (b : Bool) : Option Bool := match op with
  | .IsNot => some b
  | _ => none
noncomputable def cmpA (op : CmpOp) (a b : A0) : Option Bool := match a, b with
  | .int i _, .int j _ => cmpInt op i j
  | .str x, .str y => cmpStr op x y
  | .bool i, .bool j => cmpBool op i j
  | .none, .none => cmpNone op false
  | .str _, .none => cmpNone op true
  | _, _ => none
noncomputable def cmpTup (op : CmpOp) (l r : List A0) : Option Bool := match op with
  | .Eq => if sameShape l r then some (sameVals l r) else none
  | .NotEq => if sameShape l r then some (!sameVals l r) else none
  | _ => none
noncomputable def cmpop (op : CmpOp) (a b : V) : Option Bool := match a, b with
  | .a0 a, .a0 b => cmpA op a b
  | .tup l, .tup r => cmpTup op l r
  | _, _ => none

noncomputable def asInt? : V → Option Int
  | .a0 (.int i _) => some i
  | _ => none
/-- a slice's part: absent, or an int -/
noncomputable def part? : Option V → Option (Option Int)
  | none => some none
  | some (.a0 (.int i _)) => some (some i)
  | some _ => none

/-- an index of a sequence of n items -/
noncomputable def place? (i : Int) (n : Nat) : Option Nat := if 0 ≤ i ∧ i < n then some i.toNat else if i < 0 ∧ -(n : Int) ≤ i then some (i + n).toNat else none

noncomputable def index (o i : V) (μ : Mem) : Option V := match o, i with
  | .lst m, .a0 (.int i _) => (μ[m]?).bind fun l => (place? i l.length).bind fun k => l[k]?
  | .tup l, .a0 (.int i _) => (place? i l.length).bind fun k => (l[k]?).map .a0
  | .a0 (.str x), .a0 (.int i _) => (place? i x.length).bind fun k => (x.cps[k]?).map fun c => vstr ⟨#[c]⟩
  | _, _ => none

noncomputable def pick (l : List V) (lo hi st : Option Int) : List V :=
  (sliceRange (sliceBounds lo hi st l.length).1 (sliceBounds lo hi st l.length).2.1 (sliceBounds lo hi st l.length).2.2).filterMap (l[·]?)

noncomputable def find4 (x y : Str) (i j : Int) : Int := match Builtin.Str.occurrences x y (fromIndex x.length i) (min (fromIndex x.length j) x.length) 1 with
  | k :: _ => (k : Int)
  | [] => -1

noncomputable def slice (o : V) (lo hi st : Option Int) (μ : Mem) : Option (V × Mem) := match o with
  | .lst m => if st = some 0 then none else (match μ[m]? with
    | some l => newList (pick l lo hi st) μ
    | none => none)
  | .a0 (.str x) => if st = none then newStr (Txt.slice x lo hi) μ else none
  | _ => none

noncomputable def bcall (f : Str) (args : List V) (μ : Mem) : Option (V × Mem) :=
  if f = ("len" : Str) then (match args with
    | [.lst n] => (μ[n]?).map fun l => (vint l.length, μ)
    | [.a0 (.str x)] => some (vint x.length, μ)
    | _ => none)
  else if f = ("chr" : Str) then (match args with
    | [.a0 (.int i _)] => if 0 ≤ i ∧ i ≤ 1114111 then some (vstr ⟨#[i.toNat]⟩, μ) else none
    | _ => none)
  else if f = ("ord" : Str) then (match args with
    | [.a0 (.str x)] => if x.length = 1 then some (vint (x.cps.getD 0 0), μ) else none
    | _ => none)
  else if f = ("sum" : Str) then (match args with
    | [.lst n] => ((μ[n]?).bind allInts).map fun l => (vraw l.sum, μ)
    | _ => none)
  else if f = ("min" : Str) then (match args with
    | [.lst n] => (μ[n]?).bind fun l => (allInts l).bind fun is => if 0 < is.length then (l[argBest (fun i j => decide (is.getD i 0 < is.getD j 0)) (is.length - 1)]?).map (·, μ) else none
    | _ => none)
  else if f = ("max" : Str) then (match args with
    | [.lst n] => (μ[n]?).bind fun l => (allInts l).bind fun is => if 0 < is.length then (l[argBest (fun i j => decide (is.getD i 0 > is.getD j 0)) (is.length - 1)]?).map (·, μ) else none
    | _ => none)
  else if f = ("str" : Str) then (match args with
    | [.a0 (.int i _)] => if i.natAbs < big then newStr (Str.ofString (toString i)) μ else none
    | _ => none)
  else if f = ("int" : Str) then (match args with
    | [.a0 (.str x)] => if x.length ≤ 640 then (intText? x).map fun n => (vint n, μ) else none
    | _ => none)
  else none

noncomputable def mcall (o : V) (m : Str) (args : List V) (μ : Mem) : Option (V × Mem) := match o with
  | .a0 (.str x) =>
    if m = ("startswith" : Str) then (match args with
      | [.a0 (.str y)] => some (vbool (Txt.startswith x y), μ)
      | _ => none)
    else if m = ("endswith" : Str) then (match args with
      | [.a0 (.str y)] => some (vbool (Txt.endswith x y), μ)
      | _ => none)
    else if m = ("find" : Str) then (match args with
      | [.a0 (.str y)] => some (vint (Txt.find x y), μ)
      | [.a0 (.str y), .a0 (.int i _)] => some (vint (Txt.find3 x y i), μ)
      | [.a0 (.str y), .a0 (.int i _), .a0 (.int j _)] => some (vint (find4 x y i j), μ)
      | _ => none)
    else if m = ("split" : Str) then (match args with
      | [.a0 (.str y)] => if y.length = 0 ∨ ((Txt.split x y).any fun z => decide (lim < z.length)) then none else newList ((Txt.split x y).map vstr) μ
      | _ => none)
    else if m = ("join" : Str) then (match args with
      | [.lst n] => ((μ[n]?).bind allStrs).bind fun l => if (l.map (·.length)).sum + l.length * x.length ≤ lim then newStr (Txt.join x l) μ else none
      | _ => none)
    else if m = ("lower" : Str) then (if args = [] then newStr (Txt.lower x) μ else none)
    else if m = ("upper" : Str) then (if args = [] then newStr (Txt.upper x) μ else none)
    else none
  | _ => none

/-- where the items of a loop come from: the items; the list of the store that must stand meanwhile -/
structure Src where
  items : List V
  chk : Option (Nat × List V)
noncomputable def okSrc (k : Option (Nat × List V)) (μ : Mem) : Bool := match k with
  | none => true
  | some (n, l) => decide (μ[n]? = some l)

noncomputable def asName : Expr → Option (Str × Pos)
  | .Name x p => some (x, p)
  | _ => none
noncomputable def asPair : Expr → Option (Expr × Expr)
  | .Tuple es _ _ => (match es with
    | [e, f] => some (e, f)
    | _ => none)
  | _ => none
noncomputable def bindT (tgt : Expr) (v : V) : Option (List (Str × V)) := match tgt with
  | .Name x _ => some [(x, v)]
  | .Tuple [.Name x _, .Name y _] _ _ => (match v with
    | .tup [a, b] => some [(x, .a0 a), (y, .a0 b)]
    | _ => none)
  | _ => none

noncomputable def rangeV (a b : Int) : List V := (List.range (b - a).toNat).map fun (i : Nat) => vraw (a + i)
noncomputable def enumV (l : List V) : Option (List V) := (allAtoms l).map fun as => (as.zipIdx).map fun (a, i) => .tup [.int i true, a]

noncomputable def evs (f : Expr → Mem → Option (V × Mem)) : List Expr → Mem → Option (List V × Mem)
  | [], μ => some ([], μ)
  | e :: r, μ => (f e μ).bind fun a => (evs f r a.2).bind fun b => some (a.1 :: b.1, b.2)
noncomputable def evo (f : Expr → Mem → Option (V × Mem)) : Option Expr → Mem → Option (Option Int × Mem)
  | none, μ => some (none, μ)
  | some e, μ => (f e μ).bind fun a => (asInt? a.1).bind fun i => some (some i, a.2)
noncomputable def compGo (f : V → Mem → Option (V × Mem)) : List V → Mem → Option (List V × Mem)
  | [], μ => some ([], μ)
  | e :: r, μ => (f e μ).bind fun a => (compGo f r a.2).bind fun b => some (a.1 :: b.1, b.2)

structure Cfg where
  names : List (Str × NameKind)
  call : Str → List V → Mem → Option (V × Mem)
  /-- b1_set, b3_exceptions, ELLIPSIS_MARKER -/
  inSet : Int → Bool
  get : Int → Option Str
  marker : Str

noncomputable def Cfg.isGlob (c : Cfg) (x : Str) : Bool := c.names.lookup x == some .globalImplicit

/-- the block of a comprehension: what it closes over stands in cells -/
noncomputable def relab (names outer : List (Str × NameKind)) : List (Str × NameKind) :=
  names.map fun (n, k) => if (k == .free && outer.lookup n == some .cell) then (n, .cell) else (n, k)

noncomputable def isTupT : Expr → Bool
  | .Tuple _ _ _ => true
  | _ => false
noncomputable def tgtNames : Expr → List Str
  | .Name x _ => [x]
  | .Tuple [.Name x _, .Name y _] _ _ => [x, y]
  | _ => []
/-- a comprehension's block: its targets are its locals, all else is the outer block's cells or global -/
noncomputable def compOk (scope : Scope) (outer : List (Str × NameKind)) (ρ : Loc) (tgt : Expr) : Bool :=
  (scope.kind == .function) && (scope.names.all fun p => match p.2 with
    | .globalImplicit => true
    | .local => ((tgtNames tgt).contains p.1 || (ρ.lookup p.1).isNone) && scope.names.lookup p.1 == some .local
    | .free => outer.lookup p.1 == some .cell && scope.names.lookup p.1 == some .free
    | _ => false) && ((tgtNames tgt).all fun x => scope.names.lookup x == some .local) && decide (tgtNames tgt).Nodup && !(tgtNames tgt).isEmpty && (scope.names.lookup ("__debug__" : Str)).isNone

noncomputable def isRange : Expr → Option (List Expr)
  | .Call (.Name f _) args [] _ => if f = ("range" : Str) then some args else none
  | _ => none
noncomputable def isEnum : Expr → Option Expr
  | .Call (.Name f _) [a] [] _ => if f = ("enumerate" : Str) then some a else none
  | _ => none

noncomputable def srcRange (l : List V) : Option (List V) := match l with
  | [.a0 (.int b _)] => if b.natAbs ≤ lim then some (rangeV 0 b) else none
  | [.a0 (.int a _), .a0 (.int b _)] => if a.natAbs ≤ lim ∧ b.natAbs ≤ lim then some (rangeV a b) else none
  | _ => none

noncomputable def truth : V → Option Bool
  | .a0 (.bool b) => some b
  | .a0 (.str x) => some (decide (0 < x.length))
  | _ => none

/-- x is y or x == y, of ints or bools -/
noncomputable def isOrEq (a b : V) : Option Bool := match a, b with
  | .a0 (.int i true), .a0 (.int j true) => some (i == j)
  | .a0 (.bool i), .a0 (.bool j) => some (i == j)
  | _, _ => none

/-- what a method is called of -/
noncomputable def plainBase : Expr → Bool
  | .Name _ _ => true
  | .Constant _ _ _ => true
  | .Subscript _ _ _ => true
  | _ => false

/-- one comparison, by this operator -/
noncomputable def asCmp (is : CmpOp → Bool) : Expr → Option (Expr × Expr)
  | .Compare l ops rs _ => (match ops with
    | [op] => (match rs with
      | [r] => if is op then some (l, r) else none
      | _ => none)
    | _ => none)
  | _ => none
noncomputable def isIs : CmpOp → Bool
  | .Is => true
  | _ => false
noncomputable def isEq : CmpOp → Bool
  | .Eq => true
  | _ => false
/-- x is y or x == y -/
noncomputable def isEqPair (x : Expr) (r : List Expr) : Option ((Expr × Expr) × Expr × Expr) := match r with
  | [y] => (asCmp isIs x).bind fun a => (asCmp isEq y).map fun b => (a, b)
  | _ => none

mutual
noncomputable def ev : Nat → Cfg → Loc → Expr → Mem → Option (V × Mem)
  | 0, _, _, _, _ => none
  | n + 1, c, ρ, e, μ => match e with
    | .Constant k _ _ => (match k with
      | .none => some (vnone, μ)
      | .bool b => some (vbool b, μ)
      | .int i => some (vint i, μ)
      | .str x => newStr x μ
      | _ => none)
    | .Name x _ => (match c.names.lookup x with
      | some .local => (ρ.lookup x).map (·, μ)
      | some .cell => (ρ.lookup x).map (·, μ)
      | some .globalImplicit => if x = ("ELLIPSIS_MARKER" : Str) then newStr c.marker μ else none
      | _ => none)
    | .BinOp l op r _ => (ev n c ρ l μ).bind fun a => (ev n c ρ r a.2).bind fun b => binop op a.1 b.1 b.2
    | .UnaryOp op x _ => (match op with
      | .USub => (ev n c ρ x μ).bind fun a => (asInt? a.1).bind fun i => some (vint (-i), a.2)
      | _ => none)
    | .IfExp t b o _ => (tr n c ρ t μ).bind fun a => if a.1 then ev n c ρ b a.2 else ev n c ρ o a.2
    | .Compare l ops rs _ => (match ops, rs with
      | [op], [r] => cmpE n c ρ l op r μ
      | _, _ => none)
    | .List es _ => (evs (ev n c ρ) es μ).bind fun a => newItems a.1 a.2
    | .Tuple es _ _ => (evs (ev n c ρ) es μ).bind fun a => (allAtoms a.1).bind fun as => if as.length ≤ 8 then some (.tup as, a.2) else none
    | .Subscript o i _ => (match i with
      | .Slice l u s _ => (ev n c ρ o μ).bind fun a => (evo (ev n c ρ) l a.2).bind fun lo => (evo (ev n c ρ) u lo.2).bind fun hi => (evo (ev n c ρ) s hi.2).bind fun st =>
        slice a.1 lo.1 hi.1 st.1 st.2
      | i => (ev n c ρ o μ).bind fun a => (ev n c ρ i a.2).bind fun b => (index a.1 b.1 b.2).map (·, b.2))
    | .Call f args kws pos => (match kws with
      | [] => (match f with
        | .Name f _ => if c.isGlob f then callE n c ρ f args μ else none
        | .Attribute o m ap => if (ap.endLine == pos.line) && plainBase o && decide (args.length < 8) then methE n c ρ o m args μ else none
        | _ => none)
      | _ :: _ => none)
    | .ListComp elt gens scope _ => (match gens with
      | [⟨tgt, iter, [], 0⟩] => if compOk scope c.names ρ tgt && ((isEnum iter).isNone || isTupT tgt) then (src n c ρ iter μ).bind fun s =>
        (compGo (fun v μ => (bindT tgt v).bind fun bs => ev n { c with names := relab scope.names c.names } (updAll bs ρ) elt μ) s.1.items s.2).bind fun r => newItems r.1 r.2 else none
      | _ => none)
    | _ => none
noncomputable def cmpE : Nat → Cfg → Loc → Expr → CmpOp → Expr → Mem → Option (V × Mem)
  | 0, _, _, _, _, _, _ => none
  | n + 1, c, ρ, l, op, r, μ => match op, r with
    | .In, .Name x _ => if c.isGlob x then (if x = ("b1_set" : Str) then (ev n c ρ l μ).bind fun a => (asInt? a.1).bind fun i => some (vbool (c.inSet i), a.2) else none)
        else (ev n c ρ l μ).bind fun a => (ev n c ρ r a.2).bind fun b => (cmpop op a.1 b.1).map (vbool ·, b.2)
    | _, _ => (ev n c ρ l μ).bind fun a => (ev n c ρ r a.2).bind fun b => (cmpop op a.1 b.1).map (vbool ·, b.2)
noncomputable def callE : Nat → Cfg → Loc → Str → List Expr → Mem → Option (V × Mem)
  | 0, _, _, _, _, _ => none
  | n + 1, c, ρ, f, args, μ =>
    if f = ("isinstance" : Str) then (match args with
      | [e, .Name t _] => if c.isGlob t && t = ("int" : Str) then (ev n c ρ e μ).bind fun a => (match a.1 with
          | .a0 (.int _ _) => some (vbool true, a.2)
          | _ => none) else none
      | _ => none)
    else if f = ("list" : Str) then (match args with
      | [.Call (.Name g _) as [] _] => if c.isGlob g && g = ("range" : Str) then (evs (ev n c ρ) as μ).bind fun a => (srcRange a.1).bind fun l => newList l a.2 else none
      | _ => none)
    else (evs (ev n c ρ) args μ).bind fun a => match bcall f a.1 a.2 with
      | some r => some r
      | none => c.call f a.1 a.2
noncomputable def methE : Nat → Cfg → Loc → Expr → Str → List Expr → Mem → Option (V × Mem)
  | 0, _, _, _, _, _, _ => none
  | n + 1, c, ρ, o, m, args, μ =>
    if m = ("get" : Str) then (match o, args with
      | .Name x _, [e] => if c.isGlob x && x = ("b3_exceptions" : Str) then (ev n c ρ e μ).bind fun a => (asInt? a.1).bind fun i => (match c.get i with
          | some t => newStr t a.2
          | none => some (vnone, a.2)) else none
      | _, _ => none)
    else (ev n c ρ o μ).bind fun a => (evs (ev n c ρ) args a.2).bind fun b => mcall a.1 m b.1 b.2
noncomputable def src : Nat → Cfg → Loc → Expr → Mem → Option (Src × Mem)
  | 0, _, _, _, _ => none
  | n + 1, c, ρ, e, μ => match isRange e with
    | some args => if c.isGlob ("range" : Str) then (evs (ev n c ρ) args μ).bind fun a => (srcRange a.1).map fun l => (⟨l, none⟩, a.2) else none
    | none => (match isEnum e with
      | some a => if c.isGlob ("enumerate" : Str) then (ev n c ρ a μ).bind fun a => (match a.1 with
          | .lst m => (a.2[m]?).bind fun l => (enumV l).map fun es => (⟨es, some (m, l)⟩, a.2)
          | _ => none) else none
      | none => (match e with
        | .Name _ _ => (ev n c ρ e μ).bind fun a => (match a.1 with
          | .lst m => (a.2[m]?).map fun l => (⟨l, some (m, l)⟩, a.2)
          | _ => none)
        | _ => none))
noncomputable def tr : Nat → Cfg → Loc → Expr → Mem → Option (Bool × Mem)
  | 0, _, _, _, _ => none
  | n + 1, c, ρ, e, μ => match e with
    | .Compare l ops rs _ => (match ops, rs with
      | [op], [r] => (cmpE n c ρ l op r μ).bind fun a => (truth a.1).map (·, a.2)
      | _, _ => none)
    | .BoolOp op es _ => trs n c ρ op es μ
    | .UnaryOp op x _ => (match op with
      | .Not => (tr n c ρ x μ).map fun a => (!a.1, a.2)
      | _ => none)
    | .Name x p => (ev n c ρ (.Name x p) μ).bind fun a => (truth a.1).map (·, a.2)
    | .Call f as ks p => (ev n c ρ (.Call f as ks p) μ).bind fun a => (truth a.1).map (·, a.2)
    | _ => none
noncomputable def trs : Nat → Cfg → Loc → BoolOp → List Expr → Mem → Option (Bool × Mem)
  | 0, _, _, _, _, _ => none
  | n + 1, c, ρ, op, es, μ => match es with
    | [] => (match op with
      | .And => some (true, μ)
      | .Or => some (false, μ))
    | x :: r => (match op with
      | .And => (tr n c ρ x μ).bind fun a => if a.1 then trs n c ρ .And r a.2 else some (false, a.2)
      | .Or => (match isEqPair x r with
        | some ((l, r), l', r') => (ev n c ρ l μ).bind fun a => (ev n c ρ r a.2).bind fun b => (ev n c ρ l' b.2).bind fun a' => (ev n c ρ r' a'.2).bind fun b' =>
            if b.2 = μ ∧ b'.2 = μ ∧ a'.1 = a.1 ∧ b'.1 = b.1 then (isOrEq a.1 b.1).map (·, μ) else none
        | none => (tr n c ρ x μ).bind fun a => if a.1 then some (true, a.2) else trs n c ρ .Or r a.2))
end

noncomputable def forGo (body : Loc → Mem → Option (Fl × Loc × Mem)) (tgt : Expr) (k : Option (Nat × List V)) : List V → Loc → Mem → Option (Fl × Loc × Mem)
  | [], ρ, μ => if okSrc k μ then some (.next, ρ, μ) else none
  | v :: r, ρ, μ => if okSrc k μ then (bindT tgt v).bind fun bs => (body (updAll bs ρ) μ).bind fun a => (match a.1 with
      | .next => forGo body tgt k r a.2.1 a.2.2
      | .ret w => some (.ret w, a.2)) else none
noncomputable def whGo (test : Loc → Mem → Option (Bool × Mem)) (body : Loc → Mem → Option (Fl × Loc × Mem)) : Nat → Loc → Mem → Option (Fl × Loc × Mem)
  | 0, _, _ => none
  | n + 1, ρ, μ => (test ρ μ).bind fun t => if t.1 then (body ρ t.2).bind fun a => (match a.1 with
      | .next => whGo test body n a.2.1 a.2.2
      | .ret w => some (.ret w, a.2)) else some (.next, ρ, t.2)

noncomputable def Cfg.isLoc (c : Cfg) (x : Str) : Bool := c.names.lookup x == some .local || c.names.lookup x == some .cell

noncomputable def locT (c : Cfg) (tgt : Expr) : Bool := !(tgtNames tgt).isEmpty && (tgtNames tgt).all fun x => c.names.lookup x == some .local

noncomputable def exsG (f : Stmt → Loc → Mem → Option (Fl × Loc × Mem)) : List Stmt → Loc → Mem → Option (Fl × Loc × Mem)
  | [], ρ, μ => some (.next, ρ, μ)
  | s :: r, ρ, μ => (f s ρ μ).bind fun a => (match a.1 with
      | .next => exsG f r a.2.1 a.2.2
      | .ret w => some (.ret w, a.2))

noncomputable def isComp : Expr → Bool
  | .ListComp _ _ _ _ => true
  | .SetComp _ _ _ _ => true
  | .DictComp _ _ _ _ _ => true
  | _ => false
/-- `x = [.. for ..]`: the list is stored before the block's variables go -/
noncomputable def useGood (c : Cfg) (x : Str) (px : Pos) (sp : Pos) : Expr → Bool
  | .ListComp _ _ sc p => (c.names.lookup x == some .local) && (px.line == p.line) && !(sc.names.any fun (n, k) => n == x && (k == .local || k == .cell)) && (sp.line == sp.line)
  | .SetComp _ _ _ _ => false
  | .DictComp _ _ _ _ _ => false
  | _ => true
noncomputable def notStarred : Expr → Bool
  | .Starred _ _ => false
  | _ => true
noncomputable def swapGood (c : Cfg) (x y : Str) (px py : Pos) (e f : Expr) : Bool :=
  (c.names.lookup x == some .local) && (c.names.lookup y == some .local) && (x != y) && (py.line == px.line) && notStarred e && notStarred f && !(foldedForSure 8 e && foldedForSure 8 f) && !(constantsAlone 8 e && constantsAlone 8 f)

noncomputable def asAppend : Expr → Option ((Expr × Pos) × Expr × Pos)
  | .Call f args kws pos => (match kws with
    | [] => (match args with
      | [e] => (match f with
        | .Attribute o m ap => if m = ("append" : Str) then some ((o, ap), e, pos) else none
        | _ => none)
      | _ => none)
    | _ :: _ => none)
  | _ => none
noncomputable def asSub : List Expr → Option (Expr × Expr)
  | [e] => (match e with
    | .Subscript o i _ => some (o, i)
    | _ => none)
  | _ => none
noncomputable def ex : Nat → Nat → Cfg → Stmt → Loc → Mem → Option (Fl × Loc × Mem)
  | 0, _, _, _, _, _ => none
  | n + 1, k0, c, s, ρ, μ => match s with
    | .Assign ts e sp => (match ts with
      | [t] => (match asName t with
        | some (x, px) => if c.isLoc x && useGood c x px sp e then (ev n c ρ e μ).bind fun a => some (.next, upd x a.1 ρ, a.2) else none
        | none => (asPair t).bind fun t2 => (asName t2.1).bind fun x => (asName t2.2).bind fun y => (asPair e).bind fun ef => if swapGood c x.1 y.1 x.2 y.2 ef.1 ef.2 then
          (evs (ev n c ρ) [ef.1, ef.2] μ).bind fun a => (match a.1 with
            | [u, v] => some (.next, upd x.1 u (upd y.1 v ρ), a.2)
            | _ => none) else none)
      | _ => none)
    | .AugAssign t op e _ => (asName t).bind fun x => if c.isLoc x.1 then (match ρ.lookup x.1 with
        | some (.a0 (.int i _)) => (ev n c ρ e μ).bind fun a => (asInt? a.1).bind fun j => (match op with
          | .Add => some (.next, upd x.1 (vint (i + j)) ρ, a.2)
          | .Sub => some (.next, upd x.1 (vint (i - j)) ρ, a.2)
          | _ => none)
        | _ => none) else none
    | .Expr v _ => (asAppend v).bind fun q => if (q.1.2.endLine == q.2.2.line) = true ∧ plainBase q.1.1 = true then (ev n c ρ q.1.1 μ).bind fun a => (ev n c ρ q.2.1 a.2).bind fun b => (match a.1 with
        | .lst i => if notLst b.1 = true ∧ k0 ≤ i then (b.2[i]?).bind fun l => if l.length < lim then some (.next, ρ, b.2.set i (l ++ [b.1])) else none else none
        | _ => none) else none
    | .If t b o _ => (tr n c ρ t μ).bind fun a => if a.1 then exsG (ex n k0 c) b ρ a.2 else exsG (ex n k0 c) o ρ a.2
    | .Return e _ => (match e with
      | some e => (ev n c ρ e μ).bind fun a => some (.ret a.1, ρ, a.2)
      | none => none)
    | .Assert t _ _ => (tr n c ρ t μ).bind fun a => if a.1 then some (.next, ρ, a.2) else none
    | .Delete ts _ => (asSub ts).bind fun q => (ev n c ρ q.1 μ).bind fun a => (ev n c ρ q.2 a.2).bind fun b => (asInt? b.1).bind fun i => (match a.1 with
        | .lst m => if k0 ≤ m then (b.2[m]?).bind fun l => (place? i l.length).bind fun j => if i.natAbs < big then some (.next, ρ, b.2.set m (l.eraseIdx j)) else none else none
        | _ => none)
    | .For tgt iter body orelse _ => if locT c tgt && ((isEnum iter).isNone || isTupT tgt) then (src n c ρ iter μ).bind fun s => (forGo (exsG (ex n k0 c) body) tgt s.1.chk s.1.items ρ s.2).bind fun a => (match a.1 with
        | .next => exsG (ex n k0 c) orelse a.2.1 a.2.2
        | .ret w => some (.ret w, a.2)) else none
    | .While t body orelse _ => (whGo (fun ρ μ => tr n c ρ t μ) (exsG (ex n k0 c) body) 64 ρ μ).bind fun a => (match a.1 with
        | .next => exsG (ex n k0 c) orelse a.2.1 a.2.2
        | .ret w => some (.ret w, a.2))
    | _ => none

structure Def where
  params : List Str
  body : List Stmt
  names : List (Str × NameKind)

/-- a call of a def: its own frame; lists that stood before it may be read alone -/
noncomputable def runDef (n : Nat) (c : Cfg) (d : Def) (args : List V) (μ : Mem) : Option (V × Mem) :=
  if d.params.length = args.length then (exsG (ex n μ.length { c with names := d.names }) d.body (d.params.zip args) μ).bind fun a => (match a.1 with
    | .next => some (vnone, a.2.2)
    | .ret v => some (v, a.2.2)) else none
end Mine
namespace Mine
open PySem
noncomputable abbrev pw : Program := PySem.Challenge.pw_wr0045_01
/-- the i-th statement of the text, if it is a def -/
noncomputable def defAt (i : Nat) : Def := match pw.main.body[i]? with
  | some (.FunctionDef _ args body _ _ _ scope _ _ _) => ⟨args.args.map (·.arg), body, scope.names⟩
  | _ => ⟨[], [], []⟩
/-- the pairs of the table b3_exceptions, as its display has them -/
noncomputable def b3pairs : List (Int × Str) := match (pw.main.body[20]? : Option PySem.Stmt) with
  | some (.Assign _ (.Dict ks vs _) _) => (ks.zip vs).filterMap fun (k, v) => match k, v with
    | some (.Constant (.int i) _ _), .Constant (.str x) _ _ => some (i, x)
    | _, _ => none
  | _ => []
noncomputable def b1list : List Int := [173, 847, 6150, 6155, 6156, 6157, 8203, 8204, 8205, 8288, 65279, 65024, 65025, 65026, 65027, 65028, 65029, 65030, 65031, 65032, 65033, 65034, 65035, 65036, 65037, 65038, 65039]
noncomputable def leafCfg : Cfg := { names := [], call := fun _ _ _ => none, inSet := fun i => b1list.contains i, get := fun i => b3pairs.lookup i, marker := "..." }
noncomputable def defs : List (Str × Nat) := [("_ellipsis_match", 2), ("parse229", 7), ("lt", 9), ("gt", 10), ("add", 11), ("mod", 12), ("mul", 13), ("sub", 14), ("countOf", 15), ("indexOf", 16), ("in_table_b1", 19), ("map_table_b3", 21), ("_law_reply", 23), ("_law_typed", 24)]
noncomputable def callT (f : Str) (args : List V) (μ : Mem) : Option (V × Mem) := match defs.lookup f with
  | some i => runDef 30 leafCfg (defAt i) args μ
  | none => none
noncomputable def lawCfg : Cfg := { leafCfg with names := (defAt 25).names, call := callT }
noncomputable def runLaw (ns : List Int) : Option (V × Mem) := runDef 30 lawCfg (defAt 25) [.lst 0] [ns.map vraw]
end Mine
namespace Mine
open PySem
noncomputable abbrev dObj (es : List DictEntry) (n : Nat) : Obj := ⟨.type "dict", none, .dict es.toArray n, #[]⟩
noncomputable def entsL : Nat → List (Int × Str) → List DictEntry
  | _, [] => []
  | t, (i, x) :: r => ⟨i, .int i t, .str x (t + 1)⟩ :: entsL (t + 3) r
noncomputable def entsS : Nat → List (Int × Str) → List DictEntry
  | _, [] => []
  | t, (i, x) :: r => ⟨i, .int i t, .str x (t + 1)⟩ :: entsS (t + 2) r
/-- the entries of a display of 17 c + 4 pairs; the dicts of its chunks -/
noncomputable def allE : Nat → Nat → List (Int × Str) → List DictEntry
  | 0, t, L => entsS t L
  | c + 1, t, L => entsL t (L.take 17) ++ allE c (t + 51) (L.drop 17)
noncomputable def chunkO : Nat → Nat → List (Int × Str) → List Obj
  | 0, t, L => [dObj (entsS t L) L.length]
  | c + 1, t, L => dObj (entsL t (L.take 17)) 17 :: chunkO c (t + 51) (L.drop 17)
end Mine
namespace Mine
open PySem PySem.W PyProof.Rows

/-! the looks at the text, in small steps -/
noncomputable abbrev rw0 : OpenLaw := PySem.Challenge.rw_wr0045_01
theorem said_v : readsOut rw0.prog rw0.prog.main.body "vars" = false := by kernel_rfl
theorem said_d : readsOut rw0.prog rw0.prog.main.body "dir" = false := by kernel_rfl
theorem said_l : readsOut rw0.prog rw0.prog.main.body "locals" = false := by kernel_rfl
theorem said_imp : importedModules rw0.prog.main.body = [] := by kernel_rfl
theorem said_names : namesResolve rw0.prog = true := by rw [PySem.W.Fast.te8377067652309620493]; kernel_rfl
theorem said_world : (rw0.prog.boundNames.all fun n => !worldNames.contains n) = true := by kernel_rfl
theorem said_road : noRoadLSs { strict := false, foot := none, bare := [] } rw0.prog.main.body = true := by rw [PySem.W.Fast.te8326940854005059898]; kernel_rfl
theorem said_meet : (namesMeet rw0.prog rw0.prog.main.body fun _ n => attrL n) = true := by rw [PySem.W.Fast.te17868728402115742887]; kernel_rfl
theorem said_looks : looksOpen rw0.prog = true := by
  unfold looksOpen
  rw [said_names, said_world, said_meet, said_imp, List.filter_cons_of_neg (by rw [said_v]; decide), List.filter_cons_of_neg (by rw [said_d]; decide), List.filter_cons_of_neg (by rw [said_l]; decide), List.filter_nil]
  with_reducible refine look_both (look_both (look_both (look_both (look_both ?_ ?_) rfl) rfl) ?_) rfl
  · kernel_rfl
  · kernel_rfl
  · exact said_road
theorem said_row : rw0.row.wellSaid = true := by
  unfold OpenRow.wellSaid OpenRow.partSaid
  repeat' with_reducible refine look_both ?_ ?_
  · exact said_looks
  all_goals kernel_rfl
theorem said_above : namesMeet rw0.prog rw0.above (fun _ n => !rw0.own.contains n) = true := by kernel_rfl
theorem said_stands : defStands rw0.about rw0.above = true := by kernel_rfl
theorem said_all : (rw0.bound'.all fun n => !builtinNamed n || rw0.about == [n] || !rw0.reads n) = true := by kernel_rfl
theorem said_foot : noRoadLSs { strict := true, foot := some rw0.bound', writes := rw0.writes, may := rw0.may } rw0.footing = true := by rw [PySem.W.Fast.te8326940854005059898]; kernel_rfl
theorem said : rw0.wellSaid = true := by
  unfold OpenLaw.wellSaid
  with_reducible refine look_both (look_both ?_ said_above) ?_
  all_goals repeat' with_reducible refine look_both ?_ ?_
  all_goals first | with_reducible exact said_row | with_reducible exact said_all | with_reducible exact said_foot | skip
  all_goals kernel_rfl
end Mine
namespace Mine
open PySem PySem.W PySem.Calls PyProof.Rows
noncomputable def fnOf (i : Nat) : Arguments × List PySem.Stmt × Scope := match (pw.main.body[i]? : Option PySem.Stmt) with
  | some (.FunctionDef _ a b _ _ _ s _ _ _) => (a, b, s)
  | _ => default
noncomputable def envT : Env := { scope := pw.main.scope, locals := mainNs, globals := mainNs, cells := [], code := .ref 13, frame := some 14 }
noncomputable def stmts (i n : Nat) : List PySem.Stmt := (pw.main.body.drop i).take n
noncomputable abbrev codeT : Code := Code.body pw.main.body envT

noncomputable def hP_11 (P : Params) : Obj := ⟨(.type "tuple"), none, (.seq (List.toArray []) 0), (List.toArray [])⟩
noncomputable def hP_12 (P : Params) : Obj := ⟨.none, none, (.fields (List.toArray [])), (List.toArray [])⟩
noncomputable def hP_13 (P : Params) : Obj := ⟨(.type "code"), none, (.fields (List.toArray [(.str ("<module>" : Str) 182), (.str ("<module>" : Str) 183), (.str ("/claim/cut.py" : Str) 184), (.int (1) 0), (.int (0) 0), (.int (0) 0), (.int (0) 0), (.int (0) 0), (.ref 11), (.bool false), (.int (181) 0), (.ref 12), .none, .none, .none, .none, (.int (185) 0), (.int (1) 0), (.str ("/claim/cut.py" : Str) 186)])), (List.toArray [])⟩
noncomputable def hP_14 (P : Params) : Obj := ⟨(.type "frame"), none, .plain, (List.toArray [(some (.ref 13)), (some (.ref 3)), (some (.ref 3)), none, (some (.str ("__main__" : Str) 164)), none, (some (.ref 0))])⟩
noncomputable def h4_2 (P : Params) : Obj := ⟨.none, none, (.dict (List.toArray [⟨PyData.keyHash P ("type.__subclasses__.Exception.0" : Str), (.str ("type.__subclasses__.Exception.0" : Str) 221), (.int (31) 0)⟩, ⟨PyData.keyHash P ("type.__subclasses__.Exception.n" : Str), (.str ("type.__subclasses__.Exception.n" : Str) 222), (.int (1) 0)⟩]) 2), (List.toArray [])⟩
noncomputable def h4_3 (P : Params) : Obj := ⟨(.type "dict"), none, (.dict (List.toArray [⟨PyData.keyHash P ("__name__" : Str), (.str ("__name__" : Str) 165), (.str ("cpy313.ftplib" : Str) 203)⟩, ⟨PyData.keyHash P ("__doc__" : Str), (.str ("__doc__" : Str) 166), .none⟩, ⟨PyData.keyHash P ("__package__" : Str), (.str ("__package__" : Str) 167), .none⟩, ⟨PyData.keyHash P ("__loader__" : Str), (.str ("__loader__" : Str) 168), (.builtin "__main__.__loader__#opaque")⟩, ⟨PyData.keyHash P ("__spec__" : Str), (.str ("__spec__" : Str) 169), .none⟩, ⟨PyData.keyHash P ("__annotations__" : Str), (.str ("__annotations__" : Str) 170), (.ref 6)⟩, ⟨PyData.keyHash P ("__builtins__" : Str), (.str ("__builtins__" : Str) 171), (.ref 4)⟩, ⟨PyData.keyHash P ("__file__" : Str), (.str ("__file__" : Str) 173), (.str ("/claim/cut.py" : Str) 172)⟩, ⟨PyData.keyHash P ("__cached__" : Str), (.str ("__cached__" : Str) 174), .none⟩, ⟨PyData.keyHash P ("ELLIPSIS_MARKER" : Str), (.str ("ELLIPSIS_MARKER" : Str) 190), (.str ("..." : Str) 189)⟩, ⟨PyData.keyHash P ("_ellipsis_match" : Str), (.str ("_ellipsis_match" : Str) 202), (.ref 21)⟩, ⟨PyData.keyHash P ("Error" : Str), (.str ("Error" : Str) 224), (.ref 31)⟩]) 12), (List.toArray [])⟩
noncomputable def h4_12 (P : Params) : Obj := ⟨.none, none, (.fields (List.toArray [(.int (3) 0), (.int (0) 0), (.ref 20), (.int (32) 0), (.int (0) 0), (.ref 27)])), (List.toArray [])⟩
noncomputable def h4_15 (P : Params) : Obj := ⟨(.type "tuple"), none, (.seq (List.toArray []) 0), (List.toArray [])⟩
noncomputable def h4_16 (P : Params) : Obj := ⟨.none, none, (.fields (List.toArray [])), (List.toArray [])⟩
noncomputable def h4_17 (P : Params) : Obj := ⟨(.type "tuple"), none, (.seq (List.toArray [(.str ("want" : Str) 194), (.str ("got" : Str) 195), (.str ("ws" : Str) 196), (.str ("startpos" : Str) 197), (.str ("endpos" : Str) 198), (.str ("w" : Str) 199)]) 0), (List.toArray [])⟩
noncomputable def h4_18 (P : Params) : Obj := ⟨(.type "tuple"), none, (.seq (List.toArray []) 0), (List.toArray [])⟩
noncomputable def h4_19 (P : Params) : Obj := ⟨.none, none, (.func { name := ("_ellipsis_match" : Str), qualname := ("_ellipsis_match" : Str), params := (fnOf 2).1, body := .stmts (fnOf 2).2.1, scope := (fnOf 2).2.2, globals := 0, closure := [], defaults := .none, kwdefaults := .none, doc := .none, pyModule := .none, annotations := none, code := .none, closureTuple := .none, builtins := 0 }), (List.toArray [])⟩
noncomputable def h4_20 (P : Params) : Obj := ⟨(.type "code"), none, (.fields (List.toArray [(.str ("_ellipsis_match" : Str) 191), (.str ("_ellipsis_match" : Str) 192), (.str ("/claim/cut.py" : Str) 193), (.int (3) 0), (.int (2) 0), (.int (0) 0), (.int (0) 0), (.int (3) 0), (.ref 15), (.bool true), (.int (181) 0), (.ref 16), .none, (.ref 17), (.ref 18), (.ref 19), (.int (200) 0), (.int (3) 0), (.str ("/claim/cut.py" : Str) 201)])), (List.toArray [])⟩
noncomputable def h4_21 (P : Params) : Obj := ⟨(.type "function"), none, (.func { name := ("_ellipsis_match" : Str), qualname := ("_ellipsis_match" : Str), params := (fnOf 2).1, body := .stmts (fnOf 2).2.1, scope := (fnOf 2).2.2, globals := 3, closure := [], defaults := .none, kwdefaults := .none, doc := .none, pyModule := (.str ("cpy313.doctest" : Str) 187), annotations := none, code := (.ref 20), closureTuple := .none, builtins := 0 }), (List.toArray [])⟩
noncomputable def h4_22 (P : Params) : Obj := ⟨(.type "tuple"), none, (.seq (List.toArray [(.type "Exception")]) 0), (List.toArray [])⟩
noncomputable def h4_23 (P : Params) : Obj := ⟨(.type "builtin_function_or_method"), none, (.fields (List.toArray [(.builtin "type.__prepare__"), (.type "type")])), (List.toArray [])⟩
noncomputable def h4_24 (P : Params) : Obj := ⟨(.type "dict"), none, (.dict (List.toArray [⟨PyData.keyHash P ("__module__" : Str), (.str ("__module__" : Str) 212), (.str ("cpy313.ftplib" : Str) 203)⟩, ⟨PyData.keyHash P ("__qualname__" : Str), (.str ("__qualname__" : Str) 214), (.str ("Error" : Str) 213)⟩, ⟨PyData.keyHash P ("__firstlineno__" : Str), (.str ("__firstlineno__" : Str) 216), (.int (32) 215)⟩, ⟨PyData.keyHash P ("__static_attributes__" : Str), (.str ("__static_attributes__" : Str) 217), (.ref 29)⟩]) 4), (List.toArray [])⟩
noncomputable def h4_25 (P : Params) : Obj := ⟨(.type "tuple"), none, (.seq (List.toArray []) 0), (List.toArray [])⟩
noncomputable def h4_26 (P : Params) : Obj := ⟨.none, none, (.fields (List.toArray [])), (List.toArray [])⟩
noncomputable def h4_27 (P : Params) : Obj := ⟨(.type "code"), none, (.fields (List.toArray [(.str ("Error" : Str) 207), (.str ("Error" : Str) 208), (.str ("/claim/cut.py" : Str) 209), (.int (32) 0), (.int (0) 0), (.int (0) 0), (.int (0) 0), (.int (0) 0), (.ref 25), (.bool false), (.int (181) 0), (.ref 26), .none, .none, .none, .none, (.int (210) 0), (.int (32) 0), (.str ("/claim/cut.py" : Str) 211)])), (List.toArray [])⟩
noncomputable def h4_28 (P : Params) : Obj := ⟨(.type "frame"), none, .plain, (List.toArray [(some (.ref 27)), (some (.ref 3)), (some (.ref 24)), none, (some (.str ("cpy313.ftplib" : Str) 203)), none, (some (.ref 0))])⟩
noncomputable def h4_29 (P : Params) : Obj := ⟨(.type "tuple"), none, (.seq (List.toArray []) 0), (List.toArray [])⟩
noncomputable def h4_30 (P : Params) : Obj := ⟨(.type "dict"), none, (.dict (List.toArray [⟨PyData.keyHash P ("__module__" : Str), (.str ("__module__" : Str) 212), (.str ("cpy313.ftplib" : Str) 203)⟩, ⟨PyData.keyHash P ("__firstlineno__" : Str), (.str ("__firstlineno__" : Str) 216), (.int (32) 215)⟩, ⟨PyData.keyHash P ("__static_attributes__" : Str), (.str ("__static_attributes__" : Str) 217), (.ref 29)⟩, ⟨PyData.keyHash P ("__weakref__" : Str), (.str ("__weakref__" : Str) 219), (.ref 32)⟩, ⟨PyData.keyHash P ("__doc__" : Str), (.str ("__doc__" : Str) 220), .none⟩]) 3), (List.toArray [])⟩
noncomputable def h4_31 (P : Params) : Obj := ⟨(.type "type"), none, (.cls { name := ("Error" : Str), bases := [(.type "Exception")], mro := [(.ref 31), (.type "Exception"), (.type "BaseException"), (.type "object")], ns := 30, qualname := ("Error" : Str), hasDict := true, slotNames := [], subclasses := [] }), (List.toArray [(some (.ref 22)), none, (some (.str ("Error" : Str) 205)), (some (.str ("Error" : Str) 213)), (some (.builtin "Exception.__new__")), (some (.bool true))])⟩
noncomputable def h4_32 (P : Params) : Obj := ⟨(.type "getset_descriptor"), none, (.fields (List.toArray [(.str ("__weakref__" : Str) 218), (.ref 31), (.builtin "ExceptionGroup.__weakref__"), .none])), (List.toArray [])⟩
noncomputable def h4_33 (P : Params) : Obj := ⟨(.type "super"), none, (.fields (List.toArray [(.ref 31), (.ref 31), (.ref 31)])), (List.toArray [])⟩
noncomputable def h4_34 (P : Params) : Obj := ⟨(.type "builtin_function_or_method"), none, (.fields (List.toArray [(.builtin "object.__init_subclass__"), (.ref 31)])), (List.toArray [])⟩
noncomputable def h8_3 (P : Params) : Obj := ⟨(.type "dict"), none, (.dict (List.toArray [⟨PyData.keyHash P ("__name__" : Str), (.str ("__name__" : Str) 165), (.str ("cpy313.operator" : Str) 270)⟩, ⟨PyData.keyHash P ("__doc__" : Str), (.str ("__doc__" : Str) 166), .none⟩, ⟨PyData.keyHash P ("__package__" : Str), (.str ("__package__" : Str) 167), .none⟩, ⟨PyData.keyHash P ("__loader__" : Str), (.str ("__loader__" : Str) 168), (.builtin "__main__.__loader__#opaque")⟩, ⟨PyData.keyHash P ("__spec__" : Str), (.str ("__spec__" : Str) 169), .none⟩, ⟨PyData.keyHash P ("__annotations__" : Str), (.str ("__annotations__" : Str) 170), (.ref 6)⟩, ⟨PyData.keyHash P ("__builtins__" : Str), (.str ("__builtins__" : Str) 171), (.ref 4)⟩, ⟨PyData.keyHash P ("__file__" : Str), (.str ("__file__" : Str) 173), (.str ("/claim/cut.py" : Str) 172)⟩, ⟨PyData.keyHash P ("__cached__" : Str), (.str ("__cached__" : Str) 174), .none⟩, ⟨PyData.keyHash P ("ELLIPSIS_MARKER" : Str), (.str ("ELLIPSIS_MARKER" : Str) 190), (.str ("..." : Str) 189)⟩, ⟨PyData.keyHash P ("_ellipsis_match" : Str), (.str ("_ellipsis_match" : Str) 202), (.ref 21)⟩, ⟨PyData.keyHash P ("Error" : Str), (.str ("Error" : Str) 224), (.ref 31)⟩, ⟨PyData.keyHash P ("error_reply" : Str), (.str ("error_reply" : Str) 240), (.ref 44)⟩, ⟨PyData.keyHash P ("error_proto" : Str), (.str ("error_proto" : Str) 256), (.ref 56)⟩, ⟨PyData.keyHash P ("parse229" : Str), (.str ("parse229" : Str) 269), (.ref 65)⟩]) 15), (List.toArray [])⟩
noncomputable def h8_12 (P : Params) : Obj := ⟨.none, none, (.fields (List.toArray [(.int (3) 0), (.int (0) 0), (.ref 20), (.int (32) 0), (.int (0) 0), (.ref 27), (.int (34) 0), (.int (0) 0), (.ref 40), (.int (36) 0), (.int (0) 0), (.ref 52), (.int (38) 0), (.int (0) 0), (.ref 64)])), (List.toArray [])⟩
noncomputable def h8_31 (P : Params) : Obj := ⟨(.type "type"), none, (.cls { name := ("Error" : Str), bases := [(.type "Exception")], mro := [(.ref 31), (.type "Exception"), (.type "BaseException"), (.type "object")], ns := 30, qualname := ("Error" : Str), hasDict := true, slotNames := [], subclasses := [(.ref 44), (.ref 56)] }), (List.toArray [(some (.ref 22)), none, (some (.str ("Error" : Str) 205)), (some (.str ("Error" : Str) 213)), (some (.builtin "Exception.__new__")), (some (.bool true))])⟩
noncomputable def h8_35 (P : Params) : Obj := ⟨(.type "tuple"), none, (.seq (List.toArray [(.ref 31)]) 0), (List.toArray [])⟩
noncomputable def h8_36 (P : Params) : Obj := ⟨(.type "builtin_function_or_method"), none, (.fields (List.toArray [(.builtin "type.__prepare__"), (.type "type")])), (List.toArray [])⟩
noncomputable def h8_37 (P : Params) : Obj := ⟨(.type "dict"), none, (.dict (List.toArray [⟨PyData.keyHash P ("__module__" : Str), (.str ("__module__" : Str) 232), (.str ("cpy313.ftplib" : Str) 203)⟩, ⟨PyData.keyHash P ("__qualname__" : Str), (.str ("__qualname__" : Str) 234), (.str ("error_reply" : Str) 233)⟩, ⟨PyData.keyHash P ("__firstlineno__" : Str), (.str ("__firstlineno__" : Str) 236), (.int (34) 235)⟩, ⟨PyData.keyHash P ("__static_attributes__" : Str), (.str ("__static_attributes__" : Str) 237), (.ref 42)⟩]) 4), (List.toArray [])⟩
noncomputable def h8_38 (P : Params) : Obj := ⟨(.type "tuple"), none, (.seq (List.toArray []) 0), (List.toArray [])⟩
noncomputable def h8_39 (P : Params) : Obj := ⟨.none, none, (.fields (List.toArray [])), (List.toArray [])⟩
noncomputable def h8_40 (P : Params) : Obj := ⟨(.type "code"), none, (.fields (List.toArray [(.str ("error_reply" : Str) 227), (.str ("error_reply" : Str) 228), (.str ("/claim/cut.py" : Str) 229), (.int (34) 0), (.int (0) 0), (.int (0) 0), (.int (0) 0), (.int (0) 0), (.ref 38), (.bool false), (.int (181) 0), (.ref 39), .none, .none, .none, .none, (.int (230) 0), (.int (34) 0), (.str ("/claim/cut.py" : Str) 231)])), (List.toArray [])⟩
noncomputable def h8_41 (P : Params) : Obj := ⟨(.type "frame"), none, .plain, (List.toArray [(some (.ref 40)), (some (.ref 3)), (some (.ref 37)), none, (some (.str ("cpy313.ftplib" : Str) 203)), none, (some (.ref 0))])⟩
noncomputable def h8_42 (P : Params) : Obj := ⟨(.type "tuple"), none, (.seq (List.toArray []) 0), (List.toArray [])⟩
noncomputable def h8_43 (P : Params) : Obj := ⟨(.type "dict"), none, (.dict (List.toArray [⟨PyData.keyHash P ("__module__" : Str), (.str ("__module__" : Str) 232), (.str ("cpy313.ftplib" : Str) 203)⟩, ⟨PyData.keyHash P ("__firstlineno__" : Str), (.str ("__firstlineno__" : Str) 236), (.int (34) 235)⟩, ⟨PyData.keyHash P ("__static_attributes__" : Str), (.str ("__static_attributes__" : Str) 237), (.ref 42)⟩, ⟨PyData.keyHash P ("__doc__" : Str), (.str ("__doc__" : Str) 238), .none⟩]) 2), (List.toArray [])⟩
noncomputable def h8_44 (P : Params) : Obj := ⟨(.type "type"), none, (.cls { name := ("error_reply" : Str), bases := [(.ref 31)], mro := [(.ref 44), (.ref 31), (.type "Exception"), (.type "BaseException"), (.type "object")], ns := 43, qualname := ("error_reply" : Str), hasDict := true, slotNames := [], subclasses := [] }), (List.toArray [(some (.ref 35)), none, (some (.str ("error_reply" : Str) 225)), (some (.str ("error_reply" : Str) 233)), (some (.builtin "Exception.__new__")), (some (.bool true))])⟩
noncomputable def h8_45 (P : Params) : Obj := ⟨(.type "super"), none, (.fields (List.toArray [(.ref 44), (.ref 44), (.ref 44)])), (List.toArray [])⟩
noncomputable def h8_46 (P : Params) : Obj := ⟨(.type "builtin_function_or_method"), none, (.fields (List.toArray [(.builtin "object.__init_subclass__"), (.ref 44)])), (List.toArray [])⟩
noncomputable def h8_47 (P : Params) : Obj := ⟨(.type "tuple"), none, (.seq (List.toArray [(.ref 31)]) 0), (List.toArray [])⟩
noncomputable def h8_48 (P : Params) : Obj := ⟨(.type "builtin_function_or_method"), none, (.fields (List.toArray [(.builtin "type.__prepare__"), (.type "type")])), (List.toArray [])⟩
noncomputable def h8_49 (P : Params) : Obj := ⟨(.type "dict"), none, (.dict (List.toArray [⟨PyData.keyHash P ("__module__" : Str), (.str ("__module__" : Str) 248), (.str ("cpy313.ftplib" : Str) 203)⟩, ⟨PyData.keyHash P ("__qualname__" : Str), (.str ("__qualname__" : Str) 250), (.str ("error_proto" : Str) 249)⟩, ⟨PyData.keyHash P ("__firstlineno__" : Str), (.str ("__firstlineno__" : Str) 252), (.int (36) 251)⟩, ⟨PyData.keyHash P ("__static_attributes__" : Str), (.str ("__static_attributes__" : Str) 253), (.ref 54)⟩]) 4), (List.toArray [])⟩
noncomputable def h8_50 (P : Params) : Obj := ⟨(.type "tuple"), none, (.seq (List.toArray []) 0), (List.toArray [])⟩
noncomputable def h8_51 (P : Params) : Obj := ⟨.none, none, (.fields (List.toArray [])), (List.toArray [])⟩
noncomputable def h8_52 (P : Params) : Obj := ⟨(.type "code"), none, (.fields (List.toArray [(.str ("error_proto" : Str) 243), (.str ("error_proto" : Str) 244), (.str ("/claim/cut.py" : Str) 245), (.int (36) 0), (.int (0) 0), (.int (0) 0), (.int (0) 0), (.int (0) 0), (.ref 50), (.bool false), (.int (181) 0), (.ref 51), .none, .none, .none, .none, (.int (246) 0), (.int (36) 0), (.str ("/claim/cut.py" : Str) 247)])), (List.toArray [])⟩
noncomputable def h8_53 (P : Params) : Obj := ⟨(.type "frame"), none, .plain, (List.toArray [(some (.ref 52)), (some (.ref 3)), (some (.ref 49)), none, (some (.str ("cpy313.ftplib" : Str) 203)), none, (some (.ref 0))])⟩
noncomputable def h8_54 (P : Params) : Obj := ⟨(.type "tuple"), none, (.seq (List.toArray []) 0), (List.toArray [])⟩
noncomputable def h8_55 (P : Params) : Obj := ⟨(.type "dict"), none, (.dict (List.toArray [⟨PyData.keyHash P ("__module__" : Str), (.str ("__module__" : Str) 248), (.str ("cpy313.ftplib" : Str) 203)⟩, ⟨PyData.keyHash P ("__firstlineno__" : Str), (.str ("__firstlineno__" : Str) 252), (.int (36) 251)⟩, ⟨PyData.keyHash P ("__static_attributes__" : Str), (.str ("__static_attributes__" : Str) 253), (.ref 54)⟩, ⟨PyData.keyHash P ("__doc__" : Str), (.str ("__doc__" : Str) 254), .none⟩]) 2), (List.toArray [])⟩
noncomputable def h8_56 (P : Params) : Obj := ⟨(.type "type"), none, (.cls { name := ("error_proto" : Str), bases := [(.ref 31)], mro := [(.ref 56), (.ref 31), (.type "Exception"), (.type "BaseException"), (.type "object")], ns := 55, qualname := ("error_proto" : Str), hasDict := true, slotNames := [], subclasses := [] }), (List.toArray [(some (.ref 47)), none, (some (.str ("error_proto" : Str) 241)), (some (.str ("error_proto" : Str) 249)), (some (.builtin "Exception.__new__")), (some (.bool true))])⟩
noncomputable def h8_57 (P : Params) : Obj := ⟨(.type "super"), none, (.fields (List.toArray [(.ref 56), (.ref 56), (.ref 56)])), (List.toArray [])⟩
noncomputable def h8_58 (P : Params) : Obj := ⟨(.type "builtin_function_or_method"), none, (.fields (List.toArray [(.builtin "object.__init_subclass__"), (.ref 56)])), (List.toArray [])⟩
noncomputable def h8_59 (P : Params) : Obj := ⟨(.type "tuple"), none, (.seq (List.toArray []) 0), (List.toArray [])⟩
noncomputable def h8_60 (P : Params) : Obj := ⟨.none, none, (.fields (List.toArray [])), (List.toArray [])⟩
noncomputable def h8_61 (P : Params) : Obj := ⟨(.type "tuple"), none, (.seq (List.toArray [(.str ("resp" : Str) 260), (.str ("peer" : Str) 261), (.str ("left" : Str) 262), (.str ("right" : Str) 263), (.str ("parts" : Str) 264), (.str ("host" : Str) 265), (.str ("port" : Str) 266)]) 0), (List.toArray [])⟩
noncomputable def h8_62 (P : Params) : Obj := ⟨(.type "tuple"), none, (.seq (List.toArray []) 0), (List.toArray [])⟩
noncomputable def h8_63 (P : Params) : Obj := ⟨.none, none, (.func { name := ("parse229" : Str), qualname := ("parse229" : Str), params := (fnOf 7).1, body := .stmts (fnOf 7).2.1, scope := (fnOf 7).2.2, globals := 0, closure := [], defaults := .none, kwdefaults := .none, doc := .none, pyModule := .none, annotations := none, code := .none, closureTuple := .none, builtins := 0 }), (List.toArray [])⟩
noncomputable def h8_64 (P : Params) : Obj := ⟨(.type "code"), none, (.fields (List.toArray [(.str ("parse229" : Str) 257), (.str ("parse229" : Str) 258), (.str ("/claim/cut.py" : Str) 259), (.int (38) 0), (.int (2) 0), (.int (0) 0), (.int (0) 0), (.int (3) 0), (.ref 59), (.bool true), (.int (181) 0), (.ref 60), .none, (.ref 61), (.ref 62), (.ref 63), (.int (267) 0), (.int (38) 0), (.str ("/claim/cut.py" : Str) 268)])), (List.toArray [])⟩
noncomputable def h8_65 (P : Params) : Obj := ⟨(.type "function"), none, (.func { name := ("parse229" : Str), qualname := ("parse229" : Str), params := (fnOf 7).1, body := .stmts (fnOf 7).2.1, scope := (fnOf 7).2.2, globals := 3, closure := [], defaults := .none, kwdefaults := .none, doc := .none, pyModule := (.str ("cpy313.ftplib" : Str) 203), annotations := none, code := (.ref 64), closureTuple := .none, builtins := 0 }), (List.toArray [])⟩
noncomputable def h13_3 (P : Params) : Obj := ⟨(.type "dict"), none, (.dict (List.toArray [⟨PyData.keyHash P ("__name__" : Str), (.str ("__name__" : Str) 165), (.str ("cpy313.operator" : Str) 270)⟩, ⟨PyData.keyHash P ("__doc__" : Str), (.str ("__doc__" : Str) 166), .none⟩, ⟨PyData.keyHash P ("__package__" : Str), (.str ("__package__" : Str) 167), .none⟩, ⟨PyData.keyHash P ("__loader__" : Str), (.str ("__loader__" : Str) 168), (.builtin "__main__.__loader__#opaque")⟩, ⟨PyData.keyHash P ("__spec__" : Str), (.str ("__spec__" : Str) 169), .none⟩, ⟨PyData.keyHash P ("__annotations__" : Str), (.str ("__annotations__" : Str) 170), (.ref 6)⟩, ⟨PyData.keyHash P ("__builtins__" : Str), (.str ("__builtins__" : Str) 171), (.ref 4)⟩, ⟨PyData.keyHash P ("__file__" : Str), (.str ("__file__" : Str) 173), (.str ("/claim/cut.py" : Str) 172)⟩, ⟨PyData.keyHash P ("__cached__" : Str), (.str ("__cached__" : Str) 174), .none⟩, ⟨PyData.keyHash P ("ELLIPSIS_MARKER" : Str), (.str ("ELLIPSIS_MARKER" : Str) 190), (.str ("..." : Str) 189)⟩, ⟨PyData.keyHash P ("_ellipsis_match" : Str), (.str ("_ellipsis_match" : Str) 202), (.ref 21)⟩, ⟨PyData.keyHash P ("Error" : Str), (.str ("Error" : Str) 224), (.ref 31)⟩, ⟨PyData.keyHash P ("error_reply" : Str), (.str ("error_reply" : Str) 240), (.ref 44)⟩, ⟨PyData.keyHash P ("error_proto" : Str), (.str ("error_proto" : Str) 256), (.ref 56)⟩, ⟨PyData.keyHash P ("parse229" : Str), (.str ("parse229" : Str) 269), (.ref 65)⟩, ⟨PyData.keyHash P ("lt" : Str), (.str ("lt" : Str) 279), (.ref 72)⟩, ⟨PyData.keyHash P ("gt" : Str), (.str ("gt" : Str) 287), (.ref 79)⟩, ⟨PyData.keyHash P ("add" : Str), (.str ("add" : Str) 295), (.ref 86)⟩, ⟨PyData.keyHash P ("mod" : Str), (.str ("mod" : Str) 303), (.ref 93)⟩, ⟨PyData.keyHash P ("mul" : Str), (.str ("mul" : Str) 311), (.ref 100)⟩]) 20), (List.toArray [])⟩
noncomputable def h13_12 (P : Params) : Obj := ⟨.none, none, (.fields (List.toArray [(.int (3) 0), (.int (0) 0), (.ref 20), (.int (32) 0), (.int (0) 0), (.ref 27), (.int (34) 0), (.int (0) 0), (.ref 40), (.int (36) 0), (.int (0) 0), (.ref 52), (.int (38) 0), (.int (0) 0), (.ref 64), (.int (56) 0), (.int (0) 0), (.ref 71), (.int (58) 0), (.int (0) 0), (.ref 78), (.int (60) 0), (.int (0) 0), (.ref 85), (.int (62) 0), (.int (0) 0), (.ref 92), (.int (64) 0), (.int (0) 0), (.ref 99)])), (List.toArray [])⟩
noncomputable def h13_66 (P : Params) : Obj := ⟨(.type "tuple"), none, (.seq (List.toArray []) 0), (List.toArray [])⟩
noncomputable def h13_67 (P : Params) : Obj := ⟨.none, none, (.fields (List.toArray [])), (List.toArray [])⟩
noncomputable def h13_68 (P : Params) : Obj := ⟨(.type "tuple"), none, (.seq (List.toArray [(.str ("a" : Str) 275), (.str ("b" : Str) 276)]) 0), (List.toArray [])⟩
noncomputable def h13_69 (P : Params) : Obj := ⟨(.type "tuple"), none, (.seq (List.toArray []) 0), (List.toArray [])⟩
noncomputable def h13_70 (P : Params) : Obj := ⟨.none, none, (.func { name := ("lt" : Str), qualname := ("lt" : Str), params := (fnOf 9).1, body := .stmts (fnOf 9).2.1, scope := (fnOf 9).2.2, globals := 0, closure := [], defaults := .none, kwdefaults := .none, doc := .none, pyModule := .none, annotations := none, code := .none, closureTuple := .none, builtins := 0 }), (List.toArray [])⟩
noncomputable def h13_71 (P : Params) : Obj := ⟨(.type "code"), none, (.fields (List.toArray [(.str ("lt" : Str) 272), (.str ("lt" : Str) 273), (.str ("/claim/cut.py" : Str) 274), (.int (56) 0), (.int (2) 0), (.int (0) 0), (.int (0) 0), (.int (3) 0), (.ref 66), (.bool true), (.int (181) 0), (.ref 67), .none, (.ref 68), (.ref 69), (.ref 70), (.int (277) 0), (.int (56) 0), (.str ("/claim/cut.py" : Str) 278)])), (List.toArray [])⟩
noncomputable def h13_72 (P : Params) : Obj := ⟨(.type "function"), none, (.func { name := ("lt" : Str), qualname := ("lt" : Str), params := (fnOf 9).1, body := .stmts (fnOf 9).2.1, scope := (fnOf 9).2.2, globals := 3, closure := [], defaults := .none, kwdefaults := .none, doc := .none, pyModule := (.str ("cpy313.operator" : Str) 270), annotations := none, code := (.ref 71), closureTuple := .none, builtins := 0 }), (List.toArray [])⟩
noncomputable def h13_73 (P : Params) : Obj := ⟨(.type "tuple"), none, (.seq (List.toArray []) 0), (List.toArray [])⟩
noncomputable def h13_74 (P : Params) : Obj := ⟨.none, none, (.fields (List.toArray [])), (List.toArray [])⟩
noncomputable def h13_75 (P : Params) : Obj := ⟨(.type "tuple"), none, (.seq (List.toArray [(.str ("a" : Str) 283), (.str ("b" : Str) 284)]) 0), (List.toArray [])⟩
noncomputable def h13_76 (P : Params) : Obj := ⟨(.type "tuple"), none, (.seq (List.toArray []) 0), (List.toArray [])⟩
noncomputable def h13_77 (P : Params) : Obj := ⟨.none, none, (.func { name := ("gt" : Str), qualname := ("gt" : Str), params := (fnOf 10).1, body := .stmts (fnOf 10).2.1, scope := (fnOf 10).2.2, globals := 0, closure := [], defaults := .none, kwdefaults := .none, doc := .none, pyModule := .none, annotations := none, code := .none, closureTuple := .none, builtins := 0 }), (List.toArray [])⟩
noncomputable def h13_78 (P : Params) : Obj := ⟨(.type "code"), none, (.fields (List.toArray [(.str ("gt" : Str) 280), (.str ("gt" : Str) 281), (.str ("/claim/cut.py" : Str) 282), (.int (58) 0), (.int (2) 0), (.int (0) 0), (.int (0) 0), (.int (3) 0), (.ref 73), (.bool true), (.int (181) 0), (.ref 74), .none, (.ref 75), (.ref 76), (.ref 77), (.int (285) 0), (.int (58) 0), (.str ("/claim/cut.py" : Str) 286)])), (List.toArray [])⟩
noncomputable def h13_79 (P : Params) : Obj := ⟨(.type "function"), none, (.func { name := ("gt" : Str), qualname := ("gt" : Str), params := (fnOf 10).1, body := .stmts (fnOf 10).2.1, scope := (fnOf 10).2.2, globals := 3, closure := [], defaults := .none, kwdefaults := .none, doc := .none, pyModule := (.str ("cpy313.operator" : Str) 270), annotations := none, code := (.ref 78), closureTuple := .none, builtins := 0 }), (List.toArray [])⟩
noncomputable def h13_80 (P : Params) : Obj := ⟨(.type "tuple"), none, (.seq (List.toArray []) 0), (List.toArray [])⟩
noncomputable def h13_81 (P : Params) : Obj := ⟨.none, none, (.fields (List.toArray [])), (List.toArray [])⟩
noncomputable def h13_82 (P : Params) : Obj := ⟨(.type "tuple"), none, (.seq (List.toArray [(.str ("a" : Str) 291), (.str ("b" : Str) 292)]) 0), (List.toArray [])⟩
noncomputable def h13_83 (P : Params) : Obj := ⟨(.type "tuple"), none, (.seq (List.toArray []) 0), (List.toArray [])⟩
noncomputable def h13_84 (P : Params) : Obj := ⟨.none, none, (.func { name := ("add" : Str), qualname := ("add" : Str), params := (fnOf 11).1, body := .stmts (fnOf 11).2.1, scope := (fnOf 11).2.2, globals := 0, closure := [], defaults := .none, kwdefaults := .none, doc := .none, pyModule := .none, annotations := none, code := .none, closureTuple := .none, builtins := 0 }), (List.toArray [])⟩
noncomputable def h13_85 (P : Params) : Obj := ⟨(.type "code"), none, (.fields (List.toArray [(.str ("add" : Str) 288), (.str ("add" : Str) 289), (.str ("/claim/cut.py" : Str) 290), (.int (60) 0), (.int (2) 0), (.int (0) 0), (.int (0) 0), (.int (3) 0), (.ref 80), (.bool true), (.int (181) 0), (.ref 81), .none, (.ref 82), (.ref 83), (.ref 84), (.int (293) 0), (.int (60) 0), (.str ("/claim/cut.py" : Str) 294)])), (List.toArray [])⟩
noncomputable def h13_86 (P : Params) : Obj := ⟨(.type "function"), none, (.func { name := ("add" : Str), qualname := ("add" : Str), params := (fnOf 11).1, body := .stmts (fnOf 11).2.1, scope := (fnOf 11).2.2, globals := 3, closure := [], defaults := .none, kwdefaults := .none, doc := .none, pyModule := (.str ("cpy313.operator" : Str) 270), annotations := none, code := (.ref 85), closureTuple := .none, builtins := 0 }), (List.toArray [])⟩
noncomputable def h13_87 (P : Params) : Obj := ⟨(.type "tuple"), none, (.seq (List.toArray []) 0), (List.toArray [])⟩
noncomputable def h13_88 (P : Params) : Obj := ⟨.none, none, (.fields (List.toArray [])), (List.toArray [])⟩
noncomputable def h13_89 (P : Params) : Obj := ⟨(.type "tuple"), none, (.seq (List.toArray [(.str ("a" : Str) 299), (.str ("b" : Str) 300)]) 0), (List.toArray [])⟩
noncomputable def h13_90 (P : Params) : Obj := ⟨(.type "tuple"), none, (.seq (List.toArray []) 0), (List.toArray [])⟩
noncomputable def h13_91 (P : Params) : Obj := ⟨.none, none, (.func { name := ("mod" : Str), qualname := ("mod" : Str), params := (fnOf 12).1, body := .stmts (fnOf 12).2.1, scope := (fnOf 12).2.2, globals := 0, closure := [], defaults := .none, kwdefaults := .none, doc := .none, pyModule := .none, annotations := none, code := .none, closureTuple := .none, builtins := 0 }), (List.toArray [])⟩
noncomputable def h13_92 (P : Params) : Obj := ⟨(.type "code"), none, (.fields (List.toArray [(.str ("mod" : Str) 296), (.str ("mod" : Str) 297), (.str ("/claim/cut.py" : Str) 298), (.int (62) 0), (.int (2) 0), (.int (0) 0), (.int (0) 0), (.int (3) 0), (.ref 87), (.bool true), (.int (181) 0), (.ref 88), .none, (.ref 89), (.ref 90), (.ref 91), (.int (301) 0), (.int (62) 0), (.str ("/claim/cut.py" : Str) 302)])), (List.toArray [])⟩
noncomputable def h13_93 (P : Params) : Obj := ⟨(.type "function"), none, (.func { name := ("mod" : Str), qualname := ("mod" : Str), params := (fnOf 12).1, body := .stmts (fnOf 12).2.1, scope := (fnOf 12).2.2, globals := 3, closure := [], defaults := .none, kwdefaults := .none, doc := .none, pyModule := (.str ("cpy313.operator" : Str) 270), annotations := none, code := (.ref 92), closureTuple := .none, builtins := 0 }), (List.toArray [])⟩
noncomputable def h13_94 (P : Params) : Obj := ⟨(.type "tuple"), none, (.seq (List.toArray []) 0), (List.toArray [])⟩
noncomputable def h13_95 (P : Params) : Obj := ⟨.none, none, (.fields (List.toArray [])), (List.toArray [])⟩
noncomputable def h13_96 (P : Params) : Obj := ⟨(.type "tuple"), none, (.seq (List.toArray [(.str ("a" : Str) 307), (.str ("b" : Str) 308)]) 0), (List.toArray [])⟩
noncomputable def h13_97 (P : Params) : Obj := ⟨(.type "tuple"), none, (.seq (List.toArray []) 0), (List.toArray [])⟩
noncomputable def h13_98 (P : Params) : Obj := ⟨.none, none, (.func { name := ("mul" : Str), qualname := ("mul" : Str), params := (fnOf 13).1, body := .stmts (fnOf 13).2.1, scope := (fnOf 13).2.2, globals := 0, closure := [], defaults := .none, kwdefaults := .none, doc := .none, pyModule := .none, annotations := none, code := .none, closureTuple := .none, builtins := 0 }), (List.toArray [])⟩
noncomputable def h13_99 (P : Params) : Obj := ⟨(.type "code"), none, (.fields (List.toArray [(.str ("mul" : Str) 304), (.str ("mul" : Str) 305), (.str ("/claim/cut.py" : Str) 306), (.int (64) 0), (.int (2) 0), (.int (0) 0), (.int (0) 0), (.int (3) 0), (.ref 94), (.bool true), (.int (181) 0), (.ref 95), .none, (.ref 96), (.ref 97), (.ref 98), (.int (309) 0), (.int (64) 0), (.str ("/claim/cut.py" : Str) 310)])), (List.toArray [])⟩
noncomputable def h13_100 (P : Params) : Obj := ⟨(.type "function"), none, (.func { name := ("mul" : Str), qualname := ("mul" : Str), params := (fnOf 13).1, body := .stmts (fnOf 13).2.1, scope := (fnOf 13).2.2, globals := 3, closure := [], defaults := .none, kwdefaults := .none, doc := .none, pyModule := (.str ("cpy313.operator" : Str) 270), annotations := none, code := (.ref 99), closureTuple := .none, builtins := 0 }), (List.toArray [])⟩
noncomputable def h17_3 (P : Params) : Obj := ⟨(.type "dict"), none, (.dict (List.toArray [⟨PyData.keyHash P ("__name__" : Str), (.str ("__name__" : Str) 165), (.str ("cpy313.stringprep" : Str) 340)⟩, ⟨PyData.keyHash P ("__doc__" : Str), (.str ("__doc__" : Str) 166), .none⟩, ⟨PyData.keyHash P ("__package__" : Str), (.str ("__package__" : Str) 167), .none⟩, ⟨PyData.keyHash P ("__loader__" : Str), (.str ("__loader__" : Str) 168), (.builtin "__main__.__loader__#opaque")⟩, ⟨PyData.keyHash P ("__spec__" : Str), (.str ("__spec__" : Str) 169), .none⟩, ⟨PyData.keyHash P ("__annotations__" : Str), (.str ("__annotations__" : Str) 170), (.ref 6)⟩, ⟨PyData.keyHash P ("__builtins__" : Str), (.str ("__builtins__" : Str) 171), (.ref 4)⟩, ⟨PyData.keyHash P ("__file__" : Str), (.str ("__file__" : Str) 173), (.str ("/claim/cut.py" : Str) 172)⟩, ⟨PyData.keyHash P ("__cached__" : Str), (.str ("__cached__" : Str) 174), .none⟩, ⟨PyData.keyHash P ("ELLIPSIS_MARKER" : Str), (.str ("ELLIPSIS_MARKER" : Str) 190), (.str ("..." : Str) 189)⟩, ⟨PyData.keyHash P ("_ellipsis_match" : Str), (.str ("_ellipsis_match" : Str) 202), (.ref 21)⟩, ⟨PyData.keyHash P ("Error" : Str), (.str ("Error" : Str) 224), (.ref 31)⟩, ⟨PyData.keyHash P ("error_reply" : Str), (.str ("error_reply" : Str) 240), (.ref 44)⟩, ⟨PyData.keyHash P ("error_proto" : Str), (.str ("error_proto" : Str) 256), (.ref 56)⟩, ⟨PyData.keyHash P ("parse229" : Str), (.str ("parse229" : Str) 269), (.ref 65)⟩, ⟨PyData.keyHash P ("lt" : Str), (.str ("lt" : Str) 279), (.ref 72)⟩, ⟨PyData.keyHash P ("gt" : Str), (.str ("gt" : Str) 287), (.ref 79)⟩, ⟨PyData.keyHash P ("add" : Str), (.str ("add" : Str) 295), (.ref 86)⟩, ⟨PyData.keyHash P ("mod" : Str), (.str ("mod" : Str) 303), (.ref 93)⟩, ⟨PyData.keyHash P ("mul" : Str), (.str ("mul" : Str) 311), (.ref 100)⟩, ⟨PyData.keyHash P ("sub" : Str), (.str ("sub" : Str) 319), (.ref 107)⟩, ⟨PyData.keyHash P ("countOf" : Str), (.str ("countOf" : Str) 329), (.ref 114)⟩, ⟨PyData.keyHash P ("indexOf" : Str), (.str ("indexOf" : Str) 339), (.ref 121)⟩]) 23), (List.toArray [])⟩
noncomputable def h17_12 (P : Params) : Obj := ⟨.none, none, (.fields (List.toArray [(.int (3) 0), (.int (0) 0), (.ref 20), (.int (32) 0), (.int (0) 0), (.ref 27), (.int (34) 0), (.int (0) 0), (.ref 40), (.int (36) 0), (.int (0) 0), (.ref 52), (.int (38) 0), (.int (0) 0), (.ref 64), (.int (56) 0), (.int (0) 0), (.ref 71), (.int (58) 0), (.int (0) 0), (.ref 78), (.int (60) 0), (.int (0) 0), (.ref 85), (.int (62) 0), (.int (0) 0), (.ref 92), (.int (64) 0), (.int (0) 0), (.ref 99), (.int (66) 0), (.int (0) 0), (.ref 106), (.int (68) 0), (.int (0) 0), (.ref 113), (.int (74) 0), (.int (0) 0), (.ref 120)])), (List.toArray [])⟩
noncomputable def h17_101 (P : Params) : Obj := ⟨(.type "tuple"), none, (.seq (List.toArray []) 0), (List.toArray [])⟩
noncomputable def h17_102 (P : Params) : Obj := ⟨.none, none, (.fields (List.toArray [])), (List.toArray [])⟩
noncomputable def h17_103 (P : Params) : Obj := ⟨(.type "tuple"), none, (.seq (List.toArray [(.str ("a" : Str) 315), (.str ("b" : Str) 316)]) 0), (List.toArray [])⟩
noncomputable def h17_104 (P : Params) : Obj := ⟨(.type "tuple"), none, (.seq (List.toArray []) 0), (List.toArray [])⟩
noncomputable def h17_105 (P : Params) : Obj := ⟨.none, none, (.func { name := ("sub" : Str), qualname := ("sub" : Str), params := (fnOf 14).1, body := .stmts (fnOf 14).2.1, scope := (fnOf 14).2.2, globals := 0, closure := [], defaults := .none, kwdefaults := .none, doc := .none, pyModule := .none, annotations := none, code := .none, closureTuple := .none, builtins := 0 }), (List.toArray [])⟩
noncomputable def h17_106 (P : Params) : Obj := ⟨(.type "code"), none, (.fields (List.toArray [(.str ("sub" : Str) 312), (.str ("sub" : Str) 313), (.str ("/claim/cut.py" : Str) 314), (.int (66) 0), (.int (2) 0), (.int (0) 0), (.int (0) 0), (.int (3) 0), (.ref 101), (.bool true), (.int (181) 0), (.ref 102), .none, (.ref 103), (.ref 104), (.ref 105), (.int (317) 0), (.int (66) 0), (.str ("/claim/cut.py" : Str) 318)])), (List.toArray [])⟩
noncomputable def h17_107 (P : Params) : Obj := ⟨(.type "function"), none, (.func { name := ("sub" : Str), qualname := ("sub" : Str), params := (fnOf 14).1, body := .stmts (fnOf 14).2.1, scope := (fnOf 14).2.2, globals := 3, closure := [], defaults := .none, kwdefaults := .none, doc := .none, pyModule := (.str ("cpy313.operator" : Str) 270), annotations := none, code := (.ref 106), closureTuple := .none, builtins := 0 }), (List.toArray [])⟩
noncomputable def h17_108 (P : Params) : Obj := ⟨(.type "tuple"), none, (.seq (List.toArray []) 0), (List.toArray [])⟩
noncomputable def h17_109 (P : Params) : Obj := ⟨.none, none, (.fields (List.toArray [])), (List.toArray [])⟩
noncomputable def h17_110 (P : Params) : Obj := ⟨(.type "tuple"), none, (.seq (List.toArray [(.str ("a" : Str) 323), (.str ("b" : Str) 324), (.str ("count" : Str) 325), (.str ("i" : Str) 326)]) 0), (List.toArray [])⟩
noncomputable def h17_111 (P : Params) : Obj := ⟨(.type "tuple"), none, (.seq (List.toArray []) 0), (List.toArray [])⟩
noncomputable def h17_112 (P : Params) : Obj := ⟨.none, none, (.func { name := ("countOf" : Str), qualname := ("countOf" : Str), params := (fnOf 15).1, body := .stmts (fnOf 15).2.1, scope := (fnOf 15).2.2, globals := 0, closure := [], defaults := .none, kwdefaults := .none, doc := .none, pyModule := .none, annotations := none, code := .none, closureTuple := .none, builtins := 0 }), (List.toArray [])⟩
noncomputable def h17_113 (P : Params) : Obj := ⟨(.type "code"), none, (.fields (List.toArray [(.str ("countOf" : Str) 320), (.str ("countOf" : Str) 321), (.str ("/claim/cut.py" : Str) 322), (.int (68) 0), (.int (2) 0), (.int (0) 0), (.int (0) 0), (.int (3) 0), (.ref 108), (.bool true), (.int (181) 0), (.ref 109), .none, (.ref 110), (.ref 111), (.ref 112), (.int (327) 0), (.int (68) 0), (.str ("/claim/cut.py" : Str) 328)])), (List.toArray [])⟩
noncomputable def h17_114 (P : Params) : Obj := ⟨(.type "function"), none, (.func { name := ("countOf" : Str), qualname := ("countOf" : Str), params := (fnOf 15).1, body := .stmts (fnOf 15).2.1, scope := (fnOf 15).2.2, globals := 3, closure := [], defaults := .none, kwdefaults := .none, doc := .none, pyModule := (.str ("cpy313.operator" : Str) 270), annotations := none, code := (.ref 113), closureTuple := .none, builtins := 0 }), (List.toArray [])⟩
noncomputable def h17_115 (P : Params) : Obj := ⟨(.type "tuple"), none, (.seq (List.toArray []) 0), (List.toArray [])⟩
noncomputable def h17_116 (P : Params) : Obj := ⟨.none, none, (.fields (List.toArray [])), (List.toArray [])⟩
noncomputable def h17_117 (P : Params) : Obj := ⟨(.type "tuple"), none, (.seq (List.toArray [(.str ("a" : Str) 333), (.str ("b" : Str) 334), (.str ("i" : Str) 335), (.str ("j" : Str) 336)]) 0), (List.toArray [])⟩
noncomputable def h17_118 (P : Params) : Obj := ⟨(.type "tuple"), none, (.seq (List.toArray []) 0), (List.toArray [])⟩
noncomputable def h17_119 (P : Params) : Obj := ⟨.none, none, (.func { name := ("indexOf" : Str), qualname := ("indexOf" : Str), params := (fnOf 16).1, body := .stmts (fnOf 16).2.1, scope := (fnOf 16).2.2, globals := 0, closure := [], defaults := .none, kwdefaults := .none, doc := .none, pyModule := .none, annotations := none, code := .none, closureTuple := .none, builtins := 0 }), (List.toArray [])⟩
noncomputable def h17_120 (P : Params) : Obj := ⟨(.type "code"), none, (.fields (List.toArray [(.str ("indexOf" : Str) 330), (.str ("indexOf" : Str) 331), (.str ("/claim/cut.py" : Str) 332), (.int (74) 0), (.int (2) 0), (.int (0) 0), (.int (0) 0), (.int (3) 0), (.ref 115), (.bool true), (.int (181) 0), (.ref 116), .none, (.ref 117), (.ref 118), (.ref 119), (.int (337) 0), (.int (74) 0), (.str ("/claim/cut.py" : Str) 338)])), (List.toArray [])⟩
noncomputable def h17_121 (P : Params) : Obj := ⟨(.type "function"), none, (.func { name := ("indexOf" : Str), qualname := ("indexOf" : Str), params := (fnOf 16).1, body := .stmts (fnOf 16).2.1, scope := (fnOf 16).2.2, globals := 3, closure := [], defaults := .none, kwdefaults := .none, doc := .none, pyModule := (.str ("cpy313.operator" : Str) 270), annotations := none, code := (.ref 120), closureTuple := .none, builtins := 0 }), (List.toArray [])⟩
noncomputable def h18_3 (P : Params) : Obj := ⟨(.type "dict"), none, (.dict (List.toArray [⟨PyData.keyHash P ("__name__" : Str), (.str ("__name__" : Str) 165), (.str ("cpy313.stringprep" : Str) 340)⟩, ⟨PyData.keyHash P ("__doc__" : Str), (.str ("__doc__" : Str) 166), .none⟩, ⟨PyData.keyHash P ("__package__" : Str), (.str ("__package__" : Str) 167), .none⟩, ⟨PyData.keyHash P ("__loader__" : Str), (.str ("__loader__" : Str) 168), (.builtin "__main__.__loader__#opaque")⟩, ⟨PyData.keyHash P ("__spec__" : Str), (.str ("__spec__" : Str) 169), .none⟩, ⟨PyData.keyHash P ("__annotations__" : Str), (.str ("__annotations__" : Str) 170), (.ref 6)⟩, ⟨PyData.keyHash P ("__builtins__" : Str), (.str ("__builtins__" : Str) 171), (.ref 4)⟩, ⟨PyData.keyHash P ("__file__" : Str), (.str ("__file__" : Str) 173), (.str ("/claim/cut.py" : Str) 172)⟩, ⟨PyData.keyHash P ("__cached__" : Str), (.str ("__cached__" : Str) 174), .none⟩, ⟨PyData.keyHash P ("ELLIPSIS_MARKER" : Str), (.str ("ELLIPSIS_MARKER" : Str) 190), (.str ("..." : Str) 189)⟩, ⟨PyData.keyHash P ("_ellipsis_match" : Str), (.str ("_ellipsis_match" : Str) 202), (.ref 21)⟩, ⟨PyData.keyHash P ("Error" : Str), (.str ("Error" : Str) 224), (.ref 31)⟩, ⟨PyData.keyHash P ("error_reply" : Str), (.str ("error_reply" : Str) 240), (.ref 44)⟩, ⟨PyData.keyHash P ("error_proto" : Str), (.str ("error_proto" : Str) 256), (.ref 56)⟩, ⟨PyData.keyHash P ("parse229" : Str), (.str ("parse229" : Str) 269), (.ref 65)⟩, ⟨PyData.keyHash P ("lt" : Str), (.str ("lt" : Str) 279), (.ref 72)⟩, ⟨PyData.keyHash P ("gt" : Str), (.str ("gt" : Str) 287), (.ref 79)⟩, ⟨PyData.keyHash P ("add" : Str), (.str ("add" : Str) 295), (.ref 86)⟩, ⟨PyData.keyHash P ("mod" : Str), (.str ("mod" : Str) 303), (.ref 93)⟩, ⟨PyData.keyHash P ("mul" : Str), (.str ("mul" : Str) 311), (.ref 100)⟩, ⟨PyData.keyHash P ("sub" : Str), (.str ("sub" : Str) 319), (.ref 107)⟩, ⟨PyData.keyHash P ("countOf" : Str), (.str ("countOf" : Str) 329), (.ref 114)⟩, ⟨PyData.keyHash P ("indexOf" : Str), (.str ("indexOf" : Str) 339), (.ref 121)⟩, ⟨PyData.keyHash P ("b1_set" : Str), (.str ("b1_set" : Str) 401), (.ref 129)⟩]) 24), (List.toArray [])⟩
noncomputable def h18_122 (P : Params) : Obj := ⟨(.type "list"), none, (.seq (List.toArray [(.int (173) 342), (.int (847) 343), (.int (6150) 344), (.int (6155) 345), (.int (6156) 346), (.int (6157) 347), (.int (8203) 348), (.int (8204) 349), (.int (8205) 350), (.int (8288) 351), (.int (65279) 352)]) 0), (List.toArray [])⟩
noncomputable def h18_123 (P : Params) : Obj := ⟨(.type "range"), none, (.fields (List.toArray [(.int (65024) 353), (.int (65040) 354), (.int (1) 355)])), (List.toArray [])⟩
noncomputable def h18_124 (P : Params) : Obj := ⟨(.type "list"), none, (.seq (List.toArray [(.int (65024) 358), (.int (65025) 359), (.int (65026) 360), (.int (65027) 361), (.int (65028) 362), (.int (65029) 363), (.int (65030) 364), (.int (65031) 365), (.int (65032) 366), (.int (65033) 367), (.int (65034) 368), (.int (65035) 369), (.int (65036) 370), (.int (65037) 371), (.int (65038) 372), (.int (65039) 373)]) 18), (List.toArray [])⟩
noncomputable def h18_125 (P : Params) : Obj := ⟨(.type "range_iterator"), none, (.fields (List.toArray [(.int (65040) 0), (.int (0) 0), (.int (1) 0)])), (List.toArray [])⟩
noncomputable def h18_126 (P : Params) : Obj := ⟨(.type "tuple"), none, (.seq (List.toArray []) 0), (List.toArray [])⟩
noncomputable def h18_127 (P : Params) : Obj := ⟨(.type "StopIteration"), none, (.fields (List.toArray [(.ref 126), .none, .none, .none, (.bool false), .none])), (List.toArray [])⟩
noncomputable def h18_128 (P : Params) : Obj := ⟨(.type "list"), none, (.seq (List.toArray [(.int (173) 342), (.int (847) 343), (.int (6150) 344), (.int (6155) 345), (.int (6156) 346), (.int (6157) 347), (.int (8203) 348), (.int (8204) 349), (.int (8205) 350), (.int (8288) 351), (.int (65279) 352), (.int (65024) 358), (.int (65025) 359), (.int (65026) 360), (.int (65027) 361), (.int (65028) 362), (.int (65029) 363), (.int (65030) 364), (.int (65031) 365), (.int (65032) 366), (.int (65033) 367), (.int (65034) 368), (.int (65035) 369), (.int (65036) 370), (.int (65037) 371), (.int (65038) 372), (.int (65039) 373)]) 0), (List.toArray [])⟩
noncomputable def h18_129 (P : Params) : Obj := ⟨(.type "set"), none, (.set (List.toArray [(65024, (.int (65024) 358)), (65025, (.int (65025) 359)), (65026, (.int (65026) 360)), (65027, (.int (65027) 361)), (65028, (.int (65028) 362)), (65029, (.int (65029) 363)), (6150, (.int (6150) 344)), (65030, (.int (65030) 364)), (65031, (.int (65031) 365)), (65032, (.int (65032) 366)), (65033, (.int (65033) 367)), (6155, (.int (6155) 345)), (6156, (.int (6156) 346)), (6157, (.int (6157) 347)), (8203, (.int (8203) 348)), (8204, (.int (8204) 349)), (8205, (.int (8205) 350)), (65034, (.int (65034) 368)), (65035, (.int (65035) 369)), (65036, (.int (65036) 370)), (65037, (.int (65037) 371)), (65038, (.int (65038) 372)), (65039, (.int (65039) 373)), (173, (.int (173) 342)), (847, (.int (847) 343)), (8288, (.int (8288) 351)), (65279, (.int (65279) 352))]) 29 ⟨127, (List.toArray [0, 1, 2, 3, 4, 5, 6, 7, 8, 9, 10, 11, 12, 13, 14, 15, 16, 17, 18, 19, 20, 21, 22, 45, 79, 96, 127]), (List.toArray []), 0, (!P.followText "set-order"), 2, true⟩), (List.toArray [])⟩
noncomputable def h18_130 (P : Params) : Obj := ⟨(.type "list_iterator"), none, (.fields (List.toArray [.none, (.int (27) 0)])), (List.toArray [])⟩
noncomputable def h18_131 (P : Params) : Obj := ⟨(.type "tuple"), none, (.seq (List.toArray []) 0), (List.toArray [])⟩
noncomputable def h18_132 (P : Params) : Obj := ⟨(.type "StopIteration"), none, (.fields (List.toArray [(.ref 131), .none, .none, .none, (.bool false), .none])), (List.toArray [])⟩
noncomputable def h19_3 (P : Params) : Obj := ⟨(.type "dict"), none, (.dict (List.toArray [⟨PyData.keyHash P ("__name__" : Str), (.str ("__name__" : Str) 165), (.str ("cpy313.stringprep" : Str) 340)⟩, ⟨PyData.keyHash P ("__doc__" : Str), (.str ("__doc__" : Str) 166), .none⟩, ⟨PyData.keyHash P ("__package__" : Str), (.str ("__package__" : Str) 167), .none⟩, ⟨PyData.keyHash P ("__loader__" : Str), (.str ("__loader__" : Str) 168), (.builtin "__main__.__loader__#opaque")⟩, ⟨PyData.keyHash P ("__spec__" : Str), (.str ("__spec__" : Str) 169), .none⟩, ⟨PyData.keyHash P ("__annotations__" : Str), (.str ("__annotations__" : Str) 170), (.ref 6)⟩, ⟨PyData.keyHash P ("__builtins__" : Str), (.str ("__builtins__" : Str) 171), (.ref 4)⟩, ⟨PyData.keyHash P ("__file__" : Str), (.str ("__file__" : Str) 173), (.str ("/claim/cut.py" : Str) 172)⟩, ⟨PyData.keyHash P ("__cached__" : Str), (.str ("__cached__" : Str) 174), .none⟩, ⟨PyData.keyHash P ("ELLIPSIS_MARKER" : Str), (.str ("ELLIPSIS_MARKER" : Str) 190), (.str ("..." : Str) 189)⟩, ⟨PyData.keyHash P ("_ellipsis_match" : Str), (.str ("_ellipsis_match" : Str) 202), (.ref 21)⟩, ⟨PyData.keyHash P ("Error" : Str), (.str ("Error" : Str) 224), (.ref 31)⟩, ⟨PyData.keyHash P ("error_reply" : Str), (.str ("error_reply" : Str) 240), (.ref 44)⟩, ⟨PyData.keyHash P ("error_proto" : Str), (.str ("error_proto" : Str) 256), (.ref 56)⟩, ⟨PyData.keyHash P ("parse229" : Str), (.str ("parse229" : Str) 269), (.ref 65)⟩, ⟨PyData.keyHash P ("lt" : Str), (.str ("lt" : Str) 279), (.ref 72)⟩, ⟨PyData.keyHash P ("gt" : Str), (.str ("gt" : Str) 287), (.ref 79)⟩, ⟨PyData.keyHash P ("add" : Str), (.str ("add" : Str) 295), (.ref 86)⟩, ⟨PyData.keyHash P ("mod" : Str), (.str ("mod" : Str) 303), (.ref 93)⟩, ⟨PyData.keyHash P ("mul" : Str), (.str ("mul" : Str) 311), (.ref 100)⟩, ⟨PyData.keyHash P ("sub" : Str), (.str ("sub" : Str) 319), (.ref 107)⟩, ⟨PyData.keyHash P ("countOf" : Str), (.str ("countOf" : Str) 329), (.ref 114)⟩, ⟨PyData.keyHash P ("indexOf" : Str), (.str ("indexOf" : Str) 339), (.ref 121)⟩, ⟨PyData.keyHash P ("b1_set" : Str), (.str ("b1_set" : Str) 401), (.ref 129)⟩, ⟨PyData.keyHash P ("in_table_b1" : Str), (.str ("in_table_b1" : Str) 408), (.ref 139)⟩]) 25), (List.toArray [])⟩
noncomputable def h19_12 (P : Params) : Obj := ⟨.none, none, (.fields (List.toArray [(.int (3) 0), (.int (0) 0), (.ref 20), (.int (32) 0), (.int (0) 0), (.ref 27), (.int (34) 0), (.int (0) 0), (.ref 40), (.int (36) 0), (.int (0) 0), (.ref 52), (.int (38) 0), (.int (0) 0), (.ref 64), (.int (56) 0), (.int (0) 0), (.ref 71), (.int (58) 0), (.int (0) 0), (.ref 78), (.int (60) 0), (.int (0) 0), (.ref 85), (.int (62) 0), (.int (0) 0), (.ref 92), (.int (64) 0), (.int (0) 0), (.ref 99), (.int (66) 0), (.int (0) 0), (.ref 106), (.int (68) 0), (.int (0) 0), (.ref 113), (.int (74) 0), (.int (0) 0), (.ref 120), (.int (82) 0), (.int (0) 0), (.ref 138)])), (List.toArray [])⟩
noncomputable def h19_133 (P : Params) : Obj := ⟨(.type "tuple"), none, (.seq (List.toArray []) 0), (List.toArray [])⟩
noncomputable def h19_134 (P : Params) : Obj := ⟨.none, none, (.fields (List.toArray [])), (List.toArray [])⟩
noncomputable def h19_135 (P : Params) : Obj := ⟨(.type "tuple"), none, (.seq (List.toArray [(.str ("code" : Str) 405)]) 0), (List.toArray [])⟩
noncomputable def h19_136 (P : Params) : Obj := ⟨(.type "tuple"), none, (.seq (List.toArray []) 0), (List.toArray [])⟩
noncomputable def h19_137 (P : Params) : Obj := ⟨.none, none, (.func { name := ("in_table_b1" : Str), qualname := ("in_table_b1" : Str), params := (fnOf 19).1, body := .stmts (fnOf 19).2.1, scope := (fnOf 19).2.2, globals := 0, closure := [], defaults := .none, kwdefaults := .none, doc := .none, pyModule := .none, annotations := none, code := .none, closureTuple := .none, builtins := 0 }), (List.toArray [])⟩
noncomputable def h19_138 (P : Params) : Obj := ⟨(.type "code"), none, (.fields (List.toArray [(.str ("in_table_b1" : Str) 402), (.str ("in_table_b1" : Str) 403), (.str ("/claim/cut.py" : Str) 404), (.int (82) 0), (.int (1) 0), (.int (0) 0), (.int (0) 0), (.int (3) 0), (.ref 133), (.bool true), (.int (181) 0), (.ref 134), .none, (.ref 135), (.ref 136), (.ref 137), (.int (406) 0), (.int (82) 0), (.str ("/claim/cut.py" : Str) 407)])), (List.toArray [])⟩
noncomputable def h19_139 (P : Params) : Obj := ⟨(.type "function"), none, (.func { name := ("in_table_b1" : Str), qualname := ("in_table_b1" : Str), params := (fnOf 19).1, body := .stmts (fnOf 19).2.1, scope := (fnOf 19).2.2, globals := 3, closure := [], defaults := .none, kwdefaults := .none, doc := .none, pyModule := (.str ("cpy313.stringprep" : Str) 340), annotations := none, code := (.ref 138), closureTuple := .none, builtins := 0 }), (List.toArray [])⟩
noncomputable def h20_3 (P : Params) : Obj := ⟨(.type "dict"), none, (.dict (List.toArray [⟨PyData.keyHash P ("__name__" : Str), (.str ("__name__" : Str) 165), (.str ("cpy313.stringprep" : Str) 340)⟩, ⟨PyData.keyHash P ("__doc__" : Str), (.str ("__doc__" : Str) 166), .none⟩, ⟨PyData.keyHash P ("__package__" : Str), (.str ("__package__" : Str) 167), .none⟩, ⟨PyData.keyHash P ("__loader__" : Str), (.str ("__loader__" : Str) 168), (.builtin "__main__.__loader__#opaque")⟩, ⟨PyData.keyHash P ("__spec__" : Str), (.str ("__spec__" : Str) 169), .none⟩, ⟨PyData.keyHash P ("__annotations__" : Str), (.str ("__annotations__" : Str) 170), (.ref 6)⟩, ⟨PyData.keyHash P ("__builtins__" : Str), (.str ("__builtins__" : Str) 171), (.ref 4)⟩, ⟨PyData.keyHash P ("__file__" : Str), (.str ("__file__" : Str) 173), (.str ("/claim/cut.py" : Str) 172)⟩, ⟨PyData.keyHash P ("__cached__" : Str), (.str ("__cached__" : Str) 174), .none⟩, ⟨PyData.keyHash P ("ELLIPSIS_MARKER" : Str), (.str ("ELLIPSIS_MARKER" : Str) 190), (.str ("..." : Str) 189)⟩, ⟨PyData.keyHash P ("_ellipsis_match" : Str), (.str ("_ellipsis_match" : Str) 202), (.ref 21)⟩, ⟨PyData.keyHash P ("Error" : Str), (.str ("Error" : Str) 224), (.ref 31)⟩, ⟨PyData.keyHash P ("error_reply" : Str), (.str ("error_reply" : Str) 240), (.ref 44)⟩, ⟨PyData.keyHash P ("error_proto" : Str), (.str ("error_proto" : Str) 256), (.ref 56)⟩, ⟨PyData.keyHash P ("parse229" : Str), (.str ("parse229" : Str) 269), (.ref 65)⟩, ⟨PyData.keyHash P ("lt" : Str), (.str ("lt" : Str) 279), (.ref 72)⟩, ⟨PyData.keyHash P ("gt" : Str), (.str ("gt" : Str) 287), (.ref 79)⟩, ⟨PyData.keyHash P ("add" : Str), (.str ("add" : Str) 295), (.ref 86)⟩, ⟨PyData.keyHash P ("mod" : Str), (.str ("mod" : Str) 303), (.ref 93)⟩, ⟨PyData.keyHash P ("mul" : Str), (.str ("mul" : Str) 311), (.ref 100)⟩, ⟨PyData.keyHash P ("sub" : Str), (.str ("sub" : Str) 319), (.ref 107)⟩, ⟨PyData.keyHash P ("countOf" : Str), (.str ("countOf" : Str) 329), (.ref 114)⟩, ⟨PyData.keyHash P ("indexOf" : Str), (.str ("indexOf" : Str) 339), (.ref 121)⟩, ⟨PyData.keyHash P ("b1_set" : Str), (.str ("b1_set" : Str) 401), (.ref 129)⟩, ⟨PyData.keyHash P ("in_table_b1" : Str), (.str ("in_table_b1" : Str) 408), (.ref 139)⟩, ⟨PyData.keyHash P ("b3_exceptions" : Str), (.str ("b3_exceptions" : Str) 2359), (.ref 140)⟩]) 26), (List.toArray [])⟩
noncomputable def h20_140 (P : Params) : Obj := dObj (allE 38 409 b3pairs) 650
noncomputable def h20_141 (P : Params) : Obj := (chunkO 37 460 (b3pairs.drop 17)).getD 0 default
noncomputable def h20_142 (P : Params) : Obj := (chunkO 37 460 (b3pairs.drop 17)).getD 1 default
noncomputable def h20_143 (P : Params) : Obj := (chunkO 37 460 (b3pairs.drop 17)).getD 2 default
noncomputable def h20_144 (P : Params) : Obj := (chunkO 37 460 (b3pairs.drop 17)).getD 3 default
noncomputable def h20_145 (P : Params) : Obj := (chunkO 37 460 (b3pairs.drop 17)).getD 4 default
noncomputable def h20_146 (P : Params) : Obj := (chunkO 37 460 (b3pairs.drop 17)).getD 5 default
noncomputable def h20_147 (P : Params) : Obj := (chunkO 37 460 (b3pairs.drop 17)).getD 6 default
noncomputable def h20_148 (P : Params) : Obj := (chunkO 37 460 (b3pairs.drop 17)).getD 7 default
noncomputable def h20_149 (P : Params) : Obj := (chunkO 37 460 (b3pairs.drop 17)).getD 8 default
noncomputable def h20_150 (P : Params) : Obj := (chunkO 37 460 (b3pairs.drop 17)).getD 9 default
noncomputable def h20_151 (P : Params) : Obj := (chunkO 37 460 (b3pairs.drop 17)).getD 10 default
noncomputable def h20_152 (P : Params) : Obj := (chunkO 37 460 (b3pairs.drop 17)).getD 11 default
noncomputable def h20_153 (P : Params) : Obj := (chunkO 37 460 (b3pairs.drop 17)).getD 12 default
noncomputable def h20_154 (P : Params) : Obj := (chunkO 37 460 (b3pairs.drop 17)).getD 13 default
noncomputable def h20_155 (P : Params) : Obj := (chunkO 37 460 (b3pairs.drop 17)).getD 14 default
noncomputable def h20_156 (P : Params) : Obj := (chunkO 37 460 (b3pairs.drop 17)).getD 15 default
noncomputable def h20_157 (P : Params) : Obj := (chunkO 37 460 (b3pairs.drop 17)).getD 16 default
noncomputable def h20_158 (P : Params) : Obj := (chunkO 37 460 (b3pairs.drop 17)).getD 17 default
noncomputable def h20_159 (P : Params) : Obj := (chunkO 37 460 (b3pairs.drop 17)).getD 18 default
noncomputable def h20_160 (P : Params) : Obj := (chunkO 37 460 (b3pairs.drop 17)).getD 19 default
noncomputable def h20_161 (P : Params) : Obj := (chunkO 37 460 (b3pairs.drop 17)).getD 20 default
noncomputable def h20_162 (P : Params) : Obj := (chunkO 37 460 (b3pairs.drop 17)).getD 21 default
noncomputable def h20_163 (P : Params) : Obj := (chunkO 37 460 (b3pairs.drop 17)).getD 22 default
noncomputable def h20_164 (P : Params) : Obj := (chunkO 37 460 (b3pairs.drop 17)).getD 23 default
noncomputable def h20_165 (P : Params) : Obj := (chunkO 37 460 (b3pairs.drop 17)).getD 24 default
noncomputable def h20_166 (P : Params) : Obj := (chunkO 37 460 (b3pairs.drop 17)).getD 25 default
noncomputable def h20_167 (P : Params) : Obj := (chunkO 37 460 (b3pairs.drop 17)).getD 26 default
noncomputable def h20_168 (P : Params) : Obj := (chunkO 37 460 (b3pairs.drop 17)).getD 27 default
noncomputable def h20_169 (P : Params) : Obj := (chunkO 37 460 (b3pairs.drop 17)).getD 28 default
noncomputable def h20_170 (P : Params) : Obj := (chunkO 37 460 (b3pairs.drop 17)).getD 29 default
noncomputable def h20_171 (P : Params) : Obj := (chunkO 37 460 (b3pairs.drop 17)).getD 30 default
noncomputable def h20_172 (P : Params) : Obj := (chunkO 37 460 (b3pairs.drop 17)).getD 31 default
noncomputable def h20_173 (P : Params) : Obj := (chunkO 37 460 (b3pairs.drop 17)).getD 32 default
noncomputable def h20_174 (P : Params) : Obj := (chunkO 37 460 (b3pairs.drop 17)).getD 33 default
noncomputable def h20_175 (P : Params) : Obj := (chunkO 37 460 (b3pairs.drop 17)).getD 34 default
noncomputable def h20_176 (P : Params) : Obj := (chunkO 37 460 (b3pairs.drop 17)).getD 35 default
noncomputable def h20_177 (P : Params) : Obj := (chunkO 37 460 (b3pairs.drop 17)).getD 36 default
noncomputable def h20_178 (P : Params) : Obj := (chunkO 37 460 (b3pairs.drop 17)).getD 37 default
noncomputable def h25_3 (P : Params) : Obj := ⟨(.type "dict"), none, (.dict (List.toArray [⟨PyData.keyHash P ("__name__" : Str), (.str ("__name__" : Str) 165), (.str ("law_wr0045_01" : Str) 2368)⟩, ⟨PyData.keyHash P ("__doc__" : Str), (.str ("__doc__" : Str) 166), .none⟩, ⟨PyData.keyHash P ("__package__" : Str), (.str ("__package__" : Str) 167), .none⟩, ⟨PyData.keyHash P ("__loader__" : Str), (.str ("__loader__" : Str) 168), (.builtin "__main__.__loader__#opaque")⟩, ⟨PyData.keyHash P ("__spec__" : Str), (.str ("__spec__" : Str) 169), .none⟩, ⟨PyData.keyHash P ("__annotations__" : Str), (.str ("__annotations__" : Str) 170), (.ref 6)⟩, ⟨PyData.keyHash P ("__builtins__" : Str), (.str ("__builtins__" : Str) 171), (.ref 4)⟩, ⟨PyData.keyHash P ("__file__" : Str), (.str ("__file__" : Str) 173), (.str ("/claim/cut.py" : Str) 172)⟩, ⟨PyData.keyHash P ("__cached__" : Str), (.str ("__cached__" : Str) 174), .none⟩, ⟨PyData.keyHash P ("ELLIPSIS_MARKER" : Str), (.str ("ELLIPSIS_MARKER" : Str) 190), (.str ("..." : Str) 189)⟩, ⟨PyData.keyHash P ("_ellipsis_match" : Str), (.str ("_ellipsis_match" : Str) 202), (.ref 21)⟩, ⟨PyData.keyHash P ("Error" : Str), (.str ("Error" : Str) 224), (.ref 31)⟩, ⟨PyData.keyHash P ("error_reply" : Str), (.str ("error_reply" : Str) 240), (.ref 44)⟩, ⟨PyData.keyHash P ("error_proto" : Str), (.str ("error_proto" : Str) 256), (.ref 56)⟩, ⟨PyData.keyHash P ("parse229" : Str), (.str ("parse229" : Str) 269), (.ref 65)⟩, ⟨PyData.keyHash P ("lt" : Str), (.str ("lt" : Str) 279), (.ref 72)⟩, ⟨PyData.keyHash P ("gt" : Str), (.str ("gt" : Str) 287), (.ref 79)⟩, ⟨PyData.keyHash P ("add" : Str), (.str ("add" : Str) 295), (.ref 86)⟩, ⟨PyData.keyHash P ("mod" : Str), (.str ("mod" : Str) 303), (.ref 93)⟩, ⟨PyData.keyHash P ("mul" : Str), (.str ("mul" : Str) 311), (.ref 100)⟩, ⟨PyData.keyHash P ("sub" : Str), (.str ("sub" : Str) 319), (.ref 107)⟩, ⟨PyData.keyHash P ("countOf" : Str), (.str ("countOf" : Str) 329), (.ref 114)⟩, ⟨PyData.keyHash P ("indexOf" : Str), (.str ("indexOf" : Str) 339), (.ref 121)⟩, ⟨PyData.keyHash P ("b1_set" : Str), (.str ("b1_set" : Str) 401), (.ref 129)⟩, ⟨PyData.keyHash P ("in_table_b1" : Str), (.str ("in_table_b1" : Str) 408), (.ref 139)⟩, ⟨PyData.keyHash P ("b3_exceptions" : Str), (.str ("b3_exceptions" : Str) 2359), (.ref 140)⟩, ⟨PyData.keyHash P ("map_table_b3" : Str), (.str ("map_table_b3" : Str) 2367), (.ref 185)⟩, ⟨PyData.keyHash P ("_law_reply" : Str), (.str ("_law_reply" : Str) 2382), (.ref 192)⟩, ⟨PyData.keyHash P ("_law_typed" : Str), (.str ("_law_typed" : Str) 2392), (.ref 199)⟩, ⟨PyData.keyHash P ("law" : Str), (.str ("law" : Str) 2398), (.ref 204)⟩]) 30), (List.toArray [])⟩
noncomputable def h25_12 (P : Params) : Obj := ⟨.none, none, (.fields (List.toArray [(.int (3) 0), (.int (0) 0), (.ref 20), (.int (32) 0), (.int (0) 0), (.ref 27), (.int (34) 0), (.int (0) 0), (.ref 40), (.int (36) 0), (.int (0) 0), (.ref 52), (.int (38) 0), (.int (0) 0), (.ref 64), (.int (56) 0), (.int (0) 0), (.ref 71), (.int (58) 0), (.int (0) 0), (.ref 78), (.int (60) 0), (.int (0) 0), (.ref 85), (.int (62) 0), (.int (0) 0), (.ref 92), (.int (64) 0), (.int (0) 0), (.ref 99), (.int (66) 0), (.int (0) 0), (.ref 106), (.int (68) 0), (.int (0) 0), (.ref 113), (.int (74) 0), (.int (0) 0), (.ref 120), (.int (82) 0), (.int (0) 0), (.ref 138), (.int (85) 0), (.int (0) 0), (.ref 184), (.int (91) 0), (.int (0) 0), (.ref 191), (.int (98) 0), (.int (0) 0), (.ref 198), (.int (110) 0), (.int (0) 0), (.ref 203)])), (List.toArray [])⟩
noncomputable def h25_179 (P : Params) : Obj := ⟨(.type "tuple"), none, (.seq (List.toArray []) 0), (List.toArray [])⟩
noncomputable def h25_180 (P : Params) : Obj := ⟨.none, none, (.fields (List.toArray [])), (List.toArray [])⟩
noncomputable def h25_181 (P : Params) : Obj := ⟨(.type "tuple"), none, (.seq (List.toArray [(.str ("code" : Str) 2363), (.str ("r" : Str) 2364)]) 0), (List.toArray [])⟩
noncomputable def h25_182 (P : Params) : Obj := ⟨(.type "tuple"), none, (.seq (List.toArray []) 0), (List.toArray [])⟩
noncomputable def h25_183 (P : Params) : Obj := ⟨.none, none, (.func { name := ("map_table_b3" : Str), qualname := ("map_table_b3" : Str), params := (fnOf 21).1, body := .stmts (fnOf 21).2.1, scope := (fnOf 21).2.2, globals := 0, closure := [], defaults := .none, kwdefaults := .none, doc := .none, pyModule := .none, annotations := none, code := .none, closureTuple := .none, builtins := 0 }), (List.toArray [])⟩
noncomputable def h25_184 (P : Params) : Obj := ⟨(.type "code"), none, (.fields (List.toArray [(.str ("map_table_b3" : Str) 2360), (.str ("map_table_b3" : Str) 2361), (.str ("/claim/cut.py" : Str) 2362), (.int (85) 0), (.int (1) 0), (.int (0) 0), (.int (0) 0), (.int (3) 0), (.ref 179), (.bool true), (.int (181) 0), (.ref 180), .none, (.ref 181), (.ref 182), (.ref 183), (.int (2365) 0), (.int (85) 0), (.str ("/claim/cut.py" : Str) 2366)])), (List.toArray [])⟩
noncomputable def h25_185 (P : Params) : Obj := ⟨(.type "function"), none, (.func { name := ("map_table_b3" : Str), qualname := ("map_table_b3" : Str), params := (fnOf 21).1, body := .stmts (fnOf 21).2.1, scope := (fnOf 21).2.2, globals := 3, closure := [], defaults := .none, kwdefaults := .none, doc := .none, pyModule := (.str ("cpy313.stringprep" : Str) 340), annotations := none, code := (.ref 184), closureTuple := .none, builtins := 0 }), (List.toArray [])⟩
noncomputable def h25_186 (P : Params) : Obj := ⟨(.type "tuple"), none, (.seq (List.toArray []) 0), (List.toArray [])⟩
noncomputable def h25_187 (P : Params) : Obj := ⟨.none, none, (.fields (List.toArray [])), (List.toArray [])⟩
noncomputable def h25_188 (P : Params) : Obj := ⟨(.type "tuple"), none, (.seq (List.toArray [(.str ("place" : Str) 2373), (.str ("n" : Str) 2374), (.str ("mark" : Str) 2375), (.str ("figures" : Str) 2376), (.str ("front" : Str) 2377), (.str ("fields" : Str) 2378), (.str ("tail" : Str) 2379)]) 0), (List.toArray [])⟩
noncomputable def h25_189 (P : Params) : Obj := ⟨(.type "tuple"), none, (.seq (List.toArray []) 0), (List.toArray [])⟩
noncomputable def h25_190 (P : Params) : Obj := ⟨.none, none, (.func { name := ("_law_reply" : Str), qualname := ("_law_reply" : Str), params := (fnOf 23).1, body := .stmts (fnOf 23).2.1, scope := (fnOf 23).2.2, globals := 0, closure := [], defaults := .none, kwdefaults := .none, doc := .none, pyModule := .none, annotations := none, code := .none, closureTuple := .none, builtins := 0 }), (List.toArray [])⟩
noncomputable def h25_191 (P : Params) : Obj := ⟨(.type "code"), none, (.fields (List.toArray [(.str ("_law_reply" : Str) 2370), (.str ("_law_reply" : Str) 2371), (.str ("/claim/cut.py" : Str) 2372), (.int (91) 0), (.int (2) 0), (.int (0) 0), (.int (0) 0), (.int (3) 0), (.ref 186), (.bool true), (.int (181) 0), (.ref 187), .none, (.ref 188), (.ref 189), (.ref 190), (.int (2380) 0), (.int (91) 0), (.str ("/claim/cut.py" : Str) 2381)])), (List.toArray [])⟩
noncomputable def h25_192 (P : Params) : Obj := ⟨(.type "function"), none, (.func { name := ("_law_reply" : Str), qualname := ("_law_reply" : Str), params := (fnOf 23).1, body := .stmts (fnOf 23).2.1, scope := (fnOf 23).2.2, globals := 3, closure := [], defaults := .none, kwdefaults := .none, doc := .none, pyModule := (.str ("law_wr0045_01" : Str) 2368), annotations := none, code := (.ref 191), closureTuple := .none, builtins := 0 }), (List.toArray [])⟩
noncomputable def h25_193 (P : Params) : Obj := ⟨(.type "tuple"), none, (.seq (List.toArray []) 0), (List.toArray [])⟩
noncomputable def h25_194 (P : Params) : Obj := ⟨.none, none, (.fields (List.toArray [])), (List.toArray [])⟩
noncomputable def h25_195 (P : Params) : Obj := ⟨(.type "tuple"), none, (.seq (List.toArray [(.str ("letters" : Str) 2386), (.str ("n" : Str) 2387), (.str ("hidden" : Str) 2388), (.str ("sign" : Str) 2389)]) 0), (List.toArray [])⟩
noncomputable def h25_196 (P : Params) : Obj := ⟨(.type "tuple"), none, (.seq (List.toArray []) 0), (List.toArray [])⟩
noncomputable def h25_197 (P : Params) : Obj := ⟨.none, none, (.func { name := ("_law_typed" : Str), qualname := ("_law_typed" : Str), params := (fnOf 24).1, body := .stmts (fnOf 24).2.1, scope := (fnOf 24).2.2, globals := 0, closure := [], defaults := .none, kwdefaults := .none, doc := .none, pyModule := .none, annotations := none, code := .none, closureTuple := .none, builtins := 0 }), (List.toArray [])⟩
noncomputable def h25_198 (P : Params) : Obj := ⟨(.type "code"), none, (.fields (List.toArray [(.str ("_law_typed" : Str) 2383), (.str ("_law_typed" : Str) 2384), (.str ("/claim/cut.py" : Str) 2385), (.int (98) 0), (.int (2) 0), (.int (0) 0), (.int (0) 0), (.int (3) 0), (.ref 193), (.bool true), (.int (181) 0), (.ref 194), .none, (.ref 195), (.ref 196), (.ref 197), (.int (2390) 0), (.int (98) 0), (.str ("/claim/cut.py" : Str) 2391)])), (List.toArray [])⟩
noncomputable def h25_199 (P : Params) : Obj := ⟨(.type "function"), none, (.func { name := ("_law_typed" : Str), qualname := ("_law_typed" : Str), params := (fnOf 24).1, body := .stmts (fnOf 24).2.1, scope := (fnOf 24).2.2, globals := 3, closure := [], defaults := .none, kwdefaults := .none, doc := .none, pyModule := (.str ("law_wr0045_01" : Str) 2368), annotations := none, code := (.ref 198), closureTuple := .none, builtins := 0 }), (List.toArray [])⟩
noncomputable def h25_200 (P : Params) : Obj := ⟨(.type "tuple"), none, (.seq (List.toArray []) 0), (List.toArray [])⟩
noncomputable def h25_201 (P : Params) : Obj := ⟨.none, none, (.fields (List.toArray [])), (List.toArray [])⟩
noncomputable def h25_202 (P : Params) : Obj := ⟨.none, none, (.func { name := ("law" : Str), qualname := ("law" : Str), params := (fnOf 25).1, body := .stmts (fnOf 25).2.1, scope := (fnOf 25).2.2, globals := 0, closure := [], defaults := .none, kwdefaults := .none, doc := .none, pyModule := .none, annotations := none, code := .none, closureTuple := .none, builtins := 0 }), (List.toArray [])⟩
noncomputable def h25_203 (P : Params) : Obj := ⟨(.type "code"), none, (.fields (List.toArray [(.str ("law" : Str) 2393), (.str ("law" : Str) 2394), (.str ("/claim/cut.py" : Str) 2395), (.int (110) 0), (.int (1) 0), (.int (0) 0), (.int (0) 0), (.int (3) 0), (.ref 200), (.bool true), (.int (181) 0), (.ref 201), .none, .none, .none, (.ref 202), (.int (2396) 0), (.int (110) 0), (.str ("/claim/cut.py" : Str) 2397)])), (List.toArray [])⟩
noncomputable def h25_204 (P : Params) : Obj := ⟨(.type "function"), none, (.func { name := ("law" : Str), qualname := ("law" : Str), params := (fnOf 25).1, body := .stmts (fnOf 25).2.1, scope := (fnOf 25).2.2, globals := 3, closure := [], defaults := .none, kwdefaults := .none, doc := .none, pyModule := (.str ("law_wr0045_01" : Str) 2368), annotations := none, code := (.ref 203), closureTuple := .none, builtins := 0 }), (List.toArray [])⟩
noncomputable def TP (P : Params) : BT := (.node (boot_o_0 P) (.node (boot_o_1 P) (.node (boot_o_3 P) (.node (boot_o_7 P) .nil .nil) (.node (hP_11 P) .nil .nil)) (.node (boot_o_5 P) (.node (boot_o_9 P) .nil .nil) (.node (hP_13 P) .nil .nil))) (.node (boot_o_2 P) (.node (boot_o_4 P) (.node (boot_o_8 P) .nil .nil) (.node (hP_12 P) .nil .nil)) (.node (boot_o_6 P) (.node (boot_o_10 P) .nil .nil) (.node (hP_14 P) .nil .nil))))
noncomputable abbrev SP_ (w : World) (os : OsState) : SharedT := ⟨TP w.params, 15, {}, #[], {}, 187, os⟩
noncomputable def TB (P : Params) : BT := (.node (boot_o_0 P) (.node (boot_o_1 P) (.node (boot_o_3 P) (.node (boot_o_7 P) .nil .nil) (.node (hP_11 P) .nil .nil)) (.node (boot_o_5 P) (.node (boot_o_9 P) .nil .nil) (.node (hP_13 P) .nil .nil))) (.node (boot_o_2 P) (.node (boot_o_4 P) (.node (boot_o_8 P) .nil .nil) (.node (hP_12 P) .nil .nil)) (.node (boot_o_6 P) (.node (boot_o_10 P) .nil .nil) (.node (hP_14 P) .nil .nil))))
noncomputable abbrev SB_ (w : World) (os : OsState) : SharedT := ⟨TB w.params, 15, {}, #[], {}, 187, os⟩
noncomputable def T4 (P : Params) : BT := (.node (boot_o_0 P) (.node (boot_o_1 P) (.node (h4_3 P) (.node (boot_o_7 P) (.node (h4_15 P) (.node (h4_31 P) .nil .nil) .nil) (.node (h4_23 P) .nil .nil)) (.node (hP_11 P) (.node (h4_19 P) .nil .nil) (.node (h4_27 P) .nil .nil))) (.node (boot_o_5 P) (.node (boot_o_9 P) (.node (h4_17 P) (.node (h4_33 P) .nil .nil) .nil) (.node (h4_25 P) .nil .nil)) (.node (hP_13 P) (.node (h4_21 P) .nil .nil) (.node (h4_29 P) .nil .nil)))) (.node (h4_2 P) (.node (boot_o_4 P) (.node (boot_o_8 P) (.node (h4_16 P) (.node (h4_32 P) .nil .nil) .nil) (.node (h4_24 P) .nil .nil)) (.node (h4_12 P) (.node (h4_20 P) .nil .nil) (.node (h4_28 P) .nil .nil))) (.node (boot_o_6 P) (.node (boot_o_10 P) (.node (h4_18 P) (.node (h4_34 P) .nil .nil) .nil) (.node (h4_26 P) .nil .nil)) (.node (hP_14 P) (.node (h4_22 P) .nil .nil) (.node (h4_30 P) .nil .nil)))))
noncomputable abbrev S4_ (w : World) (os : OsState) : SharedT := ⟨T4 w.params, 35, {}, #[], {}, 225, os⟩
noncomputable def T8 (P : Params) : BT := (.node (boot_o_0 P) (.node (boot_o_1 P) (.node (h8_3 P) (.node (boot_o_7 P) (.node (h4_15 P) (.node (h8_31 P) (.node (h8_63 P) .nil .nil) .nil) (.node (h8_47 P) .nil .nil)) (.node (h4_23 P) (.node (h8_39 P) .nil .nil) (.node (h8_55 P) .nil .nil))) (.node (hP_11 P) (.node (h4_19 P) (.node (h8_35 P) .nil .nil) (.node (h8_51 P) .nil .nil)) (.node (h4_27 P) (.node (h8_43 P) .nil .nil) (.node (h8_59 P) .nil .nil)))) (.node (boot_o_5 P) (.node (boot_o_9 P) (.node (h4_17 P) (.node (h4_33 P) (.node (h8_65 P) .nil .nil) .nil) (.node (h8_49 P) .nil .nil)) (.node (h4_25 P) (.node (h8_41 P) .nil .nil) (.node (h8_57 P) .nil .nil))) (.node (hP_13 P) (.node (h4_21 P) (.node (h8_37 P) .nil .nil) (.node (h8_53 P) .nil .nil)) (.node (h4_29 P) (.node (h8_45 P) .nil .nil) (.node (h8_61 P) .nil .nil))))) (.node (h4_2 P) (.node (boot_o_4 P) (.node (boot_o_8 P) (.node (h4_16 P) (.node (h4_32 P) (.node (h8_64 P) .nil .nil) .nil) (.node (h8_48 P) .nil .nil)) (.node (h4_24 P) (.node (h8_40 P) .nil .nil) (.node (h8_56 P) .nil .nil))) (.node (h8_12 P) (.node (h4_20 P) (.node (h8_36 P) .nil .nil) (.node (h8_52 P) .nil .nil)) (.node (h4_28 P) (.node (h8_44 P) .nil .nil) (.node (h8_60 P) .nil .nil)))) (.node (boot_o_6 P) (.node (boot_o_10 P) (.node (h4_18 P) (.node (h4_34 P) .nil .nil) (.node (h8_50 P) .nil .nil)) (.node (h4_26 P) (.node (h8_42 P) .nil .nil) (.node (h8_58 P) .nil .nil))) (.node (hP_14 P) (.node (h4_22 P) (.node (h8_38 P) .nil .nil) (.node (h8_54 P) .nil .nil)) (.node (h4_30 P) (.node (h8_46 P) .nil .nil) (.node (h8_62 P) .nil .nil))))))
noncomputable abbrev S8_ (w : World) (os : OsState) : SharedT := ⟨T8 w.params, 66, {}, #[], {}, 272, os⟩
noncomputable def T13 (P : Params) : BT := (.node (boot_o_0 P) (.node (boot_o_1 P) (.node (h13_3 P) (.node (boot_o_7 P) (.node (h4_15 P) (.node (h8_31 P) (.node (h8_63 P) .nil .nil) (.node (h13_95 P) .nil .nil)) (.node (h8_47 P) (.node (h13_79 P) .nil .nil) .nil)) (.node (h4_23 P) (.node (h8_39 P) (.node (h13_71 P) .nil .nil) .nil) (.node (h8_55 P) (.node (h13_87 P) .nil .nil) .nil))) (.node (hP_11 P) (.node (h4_19 P) (.node (h8_35 P) (.node (h13_67 P) .nil .nil) (.node (h13_99 P) .nil .nil)) (.node (h8_51 P) (.node (h13_83 P) .nil .nil) .nil)) (.node (h4_27 P) (.node (h8_43 P) (.node (h13_75 P) .nil .nil) .nil) (.node (h8_59 P) (.node (h13_91 P) .nil .nil) .nil)))) (.node (boot_o_5 P) (.node (boot_o_9 P) (.node (h4_17 P) (.node (h4_33 P) (.node (h8_65 P) .nil .nil) (.node (h13_97 P) .nil .nil)) (.node (h8_49 P) (.node (h13_81 P) .nil .nil) .nil)) (.node (h4_25 P) (.node (h8_41 P) (.node (h13_73 P) .nil .nil) .nil) (.node (h8_57 P) (.node (h13_89 P) .nil .nil) .nil))) (.node (hP_13 P) (.node (h4_21 P) (.node (h8_37 P) (.node (h13_69 P) .nil .nil) .nil) (.node (h8_53 P) (.node (h13_85 P) .nil .nil) .nil)) (.node (h4_29 P) (.node (h8_45 P) (.node (h13_77 P) .nil .nil) .nil) (.node (h8_61 P) (.node (h13_93 P) .nil .nil) .nil))))) (.node (h4_2 P) (.node (boot_o_4 P) (.node (boot_o_8 P) (.node (h4_16 P) (.node (h4_32 P) (.node (h8_64 P) .nil .nil) (.node (h13_96 P) .nil .nil)) (.node (h8_48 P) (.node (h13_80 P) .nil .nil) .nil)) (.node (h4_24 P) (.node (h8_40 P) (.node (h13_72 P) .nil .nil) .nil) (.node (h8_56 P) (.node (h13_88 P) .nil .nil) .nil))) (.node (h13_12 P) (.node (h4_20 P) (.node (h8_36 P) (.node (h13_68 P) .nil .nil) (.node (h13_100 P) .nil .nil)) (.node (h8_52 P) (.node (h13_84 P) .nil .nil) .nil)) (.node (h4_28 P) (.node (h8_44 P) (.node (h13_76 P) .nil .nil) .nil) (.node (h8_60 P) (.node (h13_92 P) .nil .nil) .nil)))) (.node (boot_o_6 P) (.node (boot_o_10 P) (.node (h4_18 P) (.node (h4_34 P) (.node (h13_66 P) .nil .nil) (.node (h13_98 P) .nil .nil)) (.node (h8_50 P) (.node (h13_82 P) .nil .nil) .nil)) (.node (h4_26 P) (.node (h8_42 P) (.node (h13_74 P) .nil .nil) .nil) (.node (h8_58 P) (.node (h13_90 P) .nil .nil) .nil))) (.node (hP_14 P) (.node (h4_22 P) (.node (h8_38 P) (.node (h13_70 P) .nil .nil) .nil) (.node (h8_54 P) (.node (h13_86 P) .nil .nil) .nil)) (.node (h4_30 P) (.node (h8_46 P) (.node (h13_78 P) .nil .nil) .nil) (.node (h8_62 P) (.node (h13_94 P) .nil .nil) .nil))))))
noncomputable abbrev S13_ (w : World) (os : OsState) : SharedT := ⟨T13 w.params, 101, {}, #[], {}, 312, os⟩
noncomputable def T17 (P : Params) : BT := (.node (boot_o_0 P) (.node (boot_o_1 P) (.node (h17_3 P) (.node (boot_o_7 P) (.node (h4_15 P) (.node (h8_31 P) (.node (h8_63 P) .nil .nil) (.node (h13_95 P) .nil .nil)) (.node (h8_47 P) (.node (h13_79 P) .nil .nil) (.node (h17_111 P) .nil .nil))) (.node (h4_23 P) (.node (h8_39 P) (.node (h13_71 P) .nil .nil) (.node (h17_103 P) .nil .nil)) (.node (h8_55 P) (.node (h13_87 P) .nil .nil) (.node (h17_119 P) .nil .nil)))) (.node (hP_11 P) (.node (h4_19 P) (.node (h8_35 P) (.node (h13_67 P) .nil .nil) (.node (h13_99 P) .nil .nil)) (.node (h8_51 P) (.node (h13_83 P) .nil .nil) (.node (h17_115 P) .nil .nil))) (.node (h4_27 P) (.node (h8_43 P) (.node (h13_75 P) .nil .nil) (.node (h17_107 P) .nil .nil)) (.node (h8_59 P) (.node (h13_91 P) .nil .nil) .nil)))) (.node (boot_o_5 P) (.node (boot_o_9 P) (.node (h4_17 P) (.node (h4_33 P) (.node (h8_65 P) .nil .nil) (.node (h13_97 P) .nil .nil)) (.node (h8_49 P) (.node (h13_81 P) .nil .nil) (.node (h17_113 P) .nil .nil))) (.node (h4_25 P) (.node (h8_41 P) (.node (h13_73 P) .nil .nil) (.node (h17_105 P) .nil .nil)) (.node (h8_57 P) (.node (h13_89 P) .nil .nil) (.node (h17_121 P) .nil .nil)))) (.node (hP_13 P) (.node (h4_21 P) (.node (h8_37 P) (.node (h13_69 P) .nil .nil) (.node (h17_101 P) .nil .nil)) (.node (h8_53 P) (.node (h13_85 P) .nil .nil) (.node (h17_117 P) .nil .nil))) (.node (h4_29 P) (.node (h8_45 P) (.node (h13_77 P) .nil .nil) (.node (h17_109 P) .nil .nil)) (.node (h8_61 P) (.node (h13_93 P) .nil .nil) .nil))))) (.node (h4_2 P) (.node (boot_o_4 P) (.node (boot_o_8 P) (.node (h4_16 P) (.node (h4_32 P) (.node (h8_64 P) .nil .nil) (.node (h13_96 P) .nil .nil)) (.node (h8_48 P) (.node (h13_80 P) .nil .nil) (.node (h17_112 P) .nil .nil))) (.node (h4_24 P) (.node (h8_40 P) (.node (h13_72 P) .nil .nil) (.node (h17_104 P) .nil .nil)) (.node (h8_56 P) (.node (h13_88 P) .nil .nil) (.node (h17_120 P) .nil .nil)))) (.node (h17_12 P) (.node (h4_20 P) (.node (h8_36 P) (.node (h13_68 P) .nil .nil) (.node (h13_100 P) .nil .nil)) (.node (h8_52 P) (.node (h13_84 P) .nil .nil) (.node (h17_116 P) .nil .nil))) (.node (h4_28 P) (.node (h8_44 P) (.node (h13_76 P) .nil .nil) (.node (h17_108 P) .nil .nil)) (.node (h8_60 P) (.node (h13_92 P) .nil .nil) .nil)))) (.node (boot_o_6 P) (.node (boot_o_10 P) (.node (h4_18 P) (.node (h4_34 P) (.node (h13_66 P) .nil .nil) (.node (h13_98 P) .nil .nil)) (.node (h8_50 P) (.node (h13_82 P) .nil .nil) (.node (h17_114 P) .nil .nil))) (.node (h4_26 P) (.node (h8_42 P) (.node (h13_74 P) .nil .nil) (.node (h17_106 P) .nil .nil)) (.node (h8_58 P) (.node (h13_90 P) .nil .nil) .nil))) (.node (hP_14 P) (.node (h4_22 P) (.node (h8_38 P) (.node (h13_70 P) .nil .nil) (.node (h17_102 P) .nil .nil)) (.node (h8_54 P) (.node (h13_86 P) .nil .nil) (.node (h17_118 P) .nil .nil))) (.node (h4_30 P) (.node (h8_46 P) (.node (h13_78 P) .nil .nil) (.node (h17_110 P) .nil .nil)) (.node (h8_62 P) (.node (h13_94 P) .nil .nil) .nil))))))
noncomputable abbrev S17_ (w : World) (os : OsState) : SharedT := ⟨T17 w.params, 122, {}, #[], {}, 342, os⟩
noncomputable def T18 (P : Params) : BT := (.node (boot_o_0 P) (.node (boot_o_1 P) (.node (h18_3 P) (.node (boot_o_7 P) (.node (h4_15 P) (.node (h8_31 P) (.node (h8_63 P) (.node (h18_127 P) .nil .nil) .nil) (.node (h13_95 P) .nil .nil)) (.node (h8_47 P) (.node (h13_79 P) .nil .nil) (.node (h17_111 P) .nil .nil))) (.node (h4_23 P) (.node (h8_39 P) (.node (h13_71 P) .nil .nil) (.node (h17_103 P) .nil .nil)) (.node (h8_55 P) (.node (h13_87 P) .nil .nil) (.node (h17_119 P) .nil .nil)))) (.node (hP_11 P) (.node (h4_19 P) (.node (h8_35 P) (.node (h13_67 P) (.node (h18_131 P) .nil .nil) .nil) (.node (h13_99 P) .nil .nil)) (.node (h8_51 P) (.node (h13_83 P) .nil .nil) (.node (h17_115 P) .nil .nil))) (.node (h4_27 P) (.node (h8_43 P) (.node (h13_75 P) .nil .nil) (.node (h17_107 P) .nil .nil)) (.node (h8_59 P) (.node (h13_91 P) .nil .nil) (.node (h18_123 P) .nil .nil))))) (.node (boot_o_5 P) (.node (boot_o_9 P) (.node (h4_17 P) (.node (h4_33 P) (.node (h8_65 P) (.node (h18_129 P) .nil .nil) .nil) (.node (h13_97 P) .nil .nil)) (.node (h8_49 P) (.node (h13_81 P) .nil .nil) (.node (h17_113 P) .nil .nil))) (.node (h4_25 P) (.node (h8_41 P) (.node (h13_73 P) .nil .nil) (.node (h17_105 P) .nil .nil)) (.node (h8_57 P) (.node (h13_89 P) .nil .nil) (.node (h17_121 P) .nil .nil)))) (.node (hP_13 P) (.node (h4_21 P) (.node (h8_37 P) (.node (h13_69 P) .nil .nil) (.node (h17_101 P) .nil .nil)) (.node (h8_53 P) (.node (h13_85 P) .nil .nil) (.node (h17_117 P) .nil .nil))) (.node (h4_29 P) (.node (h8_45 P) (.node (h13_77 P) .nil .nil) (.node (h17_109 P) .nil .nil)) (.node (h8_61 P) (.node (h13_93 P) .nil .nil) (.node (h18_125 P) .nil .nil)))))) (.node (h4_2 P) (.node (boot_o_4 P) (.node (boot_o_8 P) (.node (h4_16 P) (.node (h4_32 P) (.node (h8_64 P) (.node (h18_128 P) .nil .nil) .nil) (.node (h13_96 P) .nil .nil)) (.node (h8_48 P) (.node (h13_80 P) .nil .nil) (.node (h17_112 P) .nil .nil))) (.node (h4_24 P) (.node (h8_40 P) (.node (h13_72 P) .nil .nil) (.node (h17_104 P) .nil .nil)) (.node (h8_56 P) (.node (h13_88 P) .nil .nil) (.node (h17_120 P) .nil .nil)))) (.node (h17_12 P) (.node (h4_20 P) (.node (h8_36 P) (.node (h13_68 P) (.node (h18_132 P) .nil .nil) .nil) (.node (h13_100 P) .nil .nil)) (.node (h8_52 P) (.node (h13_84 P) .nil .nil) (.node (h17_116 P) .nil .nil))) (.node (h4_28 P) (.node (h8_44 P) (.node (h13_76 P) .nil .nil) (.node (h17_108 P) .nil .nil)) (.node (h8_60 P) (.node (h13_92 P) .nil .nil) (.node (h18_124 P) .nil .nil))))) (.node (boot_o_6 P) (.node (boot_o_10 P) (.node (h4_18 P) (.node (h4_34 P) (.node (h13_66 P) (.node (h18_130 P) .nil .nil) .nil) (.node (h13_98 P) .nil .nil)) (.node (h8_50 P) (.node (h13_82 P) .nil .nil) (.node (h17_114 P) .nil .nil))) (.node (h4_26 P) (.node (h8_42 P) (.node (h13_74 P) .nil .nil) (.node (h17_106 P) .nil .nil)) (.node (h8_58 P) (.node (h13_90 P) .nil .nil) (.node (h18_122 P) .nil .nil)))) (.node (hP_14 P) (.node (h4_22 P) (.node (h8_38 P) (.node (h13_70 P) .nil .nil) (.node (h17_102 P) .nil .nil)) (.node (h8_54 P) (.node (h13_86 P) .nil .nil) (.node (h17_118 P) .nil .nil))) (.node (h4_30 P) (.node (h8_46 P) (.node (h13_78 P) .nil .nil) (.node (h17_110 P) .nil .nil)) (.node (h8_62 P) (.node (h13_94 P) .nil .nil) (.node (h18_126 P) .nil .nil)))))))
noncomputable abbrev S18_ (w : World) (os : OsState) : SharedT := ⟨T18 w.params, 133, {}, #[], {}, 402, os⟩
noncomputable def T19 (P : Params) : BT := (.node (boot_o_0 P) (.node (boot_o_1 P) (.node (h19_3 P) (.node (boot_o_7 P) (.node (h4_15 P) (.node (h8_31 P) (.node (h8_63 P) (.node (h18_127 P) .nil .nil) .nil) (.node (h13_95 P) .nil .nil)) (.node (h8_47 P) (.node (h13_79 P) .nil .nil) (.node (h17_111 P) .nil .nil))) (.node (h4_23 P) (.node (h8_39 P) (.node (h13_71 P) (.node (h19_135 P) .nil .nil) .nil) (.node (h17_103 P) .nil .nil)) (.node (h8_55 P) (.node (h13_87 P) .nil .nil) (.node (h17_119 P) .nil .nil)))) (.node (hP_11 P) (.node (h4_19 P) (.node (h8_35 P) (.node (h13_67 P) (.node (h18_131 P) .nil .nil) .nil) (.node (h13_99 P) .nil .nil)) (.node (h8_51 P) (.node (h13_83 P) .nil .nil) (.node (h17_115 P) .nil .nil))) (.node (h4_27 P) (.node (h8_43 P) (.node (h13_75 P) (.node (h19_139 P) .nil .nil) .nil) (.node (h17_107 P) .nil .nil)) (.node (h8_59 P) (.node (h13_91 P) .nil .nil) (.node (h18_123 P) .nil .nil))))) (.node (boot_o_5 P) (.node (boot_o_9 P) (.node (h4_17 P) (.node (h4_33 P) (.node (h8_65 P) (.node (h18_129 P) .nil .nil) .nil) (.node (h13_97 P) .nil .nil)) (.node (h8_49 P) (.node (h13_81 P) .nil .nil) (.node (h17_113 P) .nil .nil))) (.node (h4_25 P) (.node (h8_41 P) (.node (h13_73 P) (.node (h19_137 P) .nil .nil) .nil) (.node (h17_105 P) .nil .nil)) (.node (h8_57 P) (.node (h13_89 P) .nil .nil) (.node (h17_121 P) .nil .nil)))) (.node (hP_13 P) (.node (h4_21 P) (.node (h8_37 P) (.node (h13_69 P) (.node (h19_133 P) .nil .nil) .nil) (.node (h17_101 P) .nil .nil)) (.node (h8_53 P) (.node (h13_85 P) .nil .nil) (.node (h17_117 P) .nil .nil))) (.node (h4_29 P) (.node (h8_45 P) (.node (h13_77 P) .nil .nil) (.node (h17_109 P) .nil .nil)) (.node (h8_61 P) (.node (h13_93 P) .nil .nil) (.node (h18_125 P) .nil .nil)))))) (.node (h4_2 P) (.node (boot_o_4 P) (.node (boot_o_8 P) (.node (h4_16 P) (.node (h4_32 P) (.node (h8_64 P) (.node (h18_128 P) .nil .nil) .nil) (.node (h13_96 P) .nil .nil)) (.node (h8_48 P) (.node (h13_80 P) .nil .nil) (.node (h17_112 P) .nil .nil))) (.node (h4_24 P) (.node (h8_40 P) (.node (h13_72 P) (.node (h19_136 P) .nil .nil) .nil) (.node (h17_104 P) .nil .nil)) (.node (h8_56 P) (.node (h13_88 P) .nil .nil) (.node (h17_120 P) .nil .nil)))) (.node (h19_12 P) (.node (h4_20 P) (.node (h8_36 P) (.node (h13_68 P) (.node (h18_132 P) .nil .nil) .nil) (.node (h13_100 P) .nil .nil)) (.node (h8_52 P) (.node (h13_84 P) .nil .nil) (.node (h17_116 P) .nil .nil))) (.node (h4_28 P) (.node (h8_44 P) (.node (h13_76 P) .nil .nil) (.node (h17_108 P) .nil .nil)) (.node (h8_60 P) (.node (h13_92 P) .nil .nil) (.node (h18_124 P) .nil .nil))))) (.node (boot_o_6 P) (.node (boot_o_10 P) (.node (h4_18 P) (.node (h4_34 P) (.node (h13_66 P) (.node (h18_130 P) .nil .nil) .nil) (.node (h13_98 P) .nil .nil)) (.node (h8_50 P) (.node (h13_82 P) .nil .nil) (.node (h17_114 P) .nil .nil))) (.node (h4_26 P) (.node (h8_42 P) (.node (h13_74 P) (.node (h19_138 P) .nil .nil) .nil) (.node (h17_106 P) .nil .nil)) (.node (h8_58 P) (.node (h13_90 P) .nil .nil) (.node (h18_122 P) .nil .nil)))) (.node (hP_14 P) (.node (h4_22 P) (.node (h8_38 P) (.node (h13_70 P) (.node (h19_134 P) .nil .nil) .nil) (.node (h17_102 P) .nil .nil)) (.node (h8_54 P) (.node (h13_86 P) .nil .nil) (.node (h17_118 P) .nil .nil))) (.node (h4_30 P) (.node (h8_46 P) (.node (h13_78 P) .nil .nil) (.node (h17_110 P) .nil .nil)) (.node (h8_62 P) (.node (h13_94 P) .nil .nil) (.node (h18_126 P) .nil .nil)))))))
noncomputable abbrev S19_ (w : World) (os : OsState) : SharedT := ⟨T19 w.params, 140, {}, #[], {}, 409, os⟩
noncomputable def T20 (P : Params) : BT := (.node (boot_o_0 P) (.node (boot_o_1 P) (.node (h20_3 P) (.node (boot_o_7 P) (.node (h4_15 P) (.node (h8_31 P) (.node (h8_63 P) (.node (h18_127 P) .nil .nil) .nil) (.node (h13_95 P) (.node (h20_159 P) .nil .nil) .nil)) (.node (h8_47 P) (.node (h13_79 P) (.node (h20_143 P) .nil .nil) .nil) (.node (h17_111 P) (.node (h20_175 P) .nil .nil) .nil))) (.node (h4_23 P) (.node (h8_39 P) (.node (h13_71 P) (.node (h19_135 P) .nil .nil) .nil) (.node (h17_103 P) (.node (h20_167 P) .nil .nil) .nil)) (.node (h8_55 P) (.node (h13_87 P) (.node (h20_151 P) .nil .nil) .nil) (.node (h17_119 P) .nil .nil)))) (.node (hP_11 P) (.node (h4_19 P) (.node (h8_35 P) (.node (h13_67 P) (.node (h18_131 P) .nil .nil) .nil) (.node (h13_99 P) (.node (h20_163 P) .nil .nil) .nil)) (.node (h8_51 P) (.node (h13_83 P) (.node (h20_147 P) .nil .nil) .nil) (.node (h17_115 P) .nil .nil))) (.node (h4_27 P) (.node (h8_43 P) (.node (h13_75 P) (.node (h19_139 P) .nil .nil) .nil) (.node (h17_107 P) (.node (h20_171 P) .nil .nil) .nil)) (.node (h8_59 P) (.node (h13_91 P) (.node (h20_155 P) .nil .nil) .nil) (.node (h18_123 P) .nil .nil))))) (.node (boot_o_5 P) (.node (boot_o_9 P) (.node (h4_17 P) (.node (h4_33 P) (.node (h8_65 P) (.node (h18_129 P) .nil .nil) .nil) (.node (h13_97 P) (.node (h20_161 P) .nil .nil) .nil)) (.node (h8_49 P) (.node (h13_81 P) (.node (h20_145 P) .nil .nil) .nil) (.node (h17_113 P) (.node (h20_177 P) .nil .nil) .nil))) (.node (h4_25 P) (.node (h8_41 P) (.node (h13_73 P) (.node (h19_137 P) .nil .nil) .nil) (.node (h17_105 P) (.node (h20_169 P) .nil .nil) .nil)) (.node (h8_57 P) (.node (h13_89 P) (.node (h20_153 P) .nil .nil) .nil) (.node (h17_121 P) .nil .nil)))) (.node (hP_13 P) (.node (h4_21 P) (.node (h8_37 P) (.node (h13_69 P) (.node (h19_133 P) .nil .nil) .nil) (.node (h17_101 P) (.node (h20_165 P) .nil .nil) .nil)) (.node (h8_53 P) (.node (h13_85 P) (.node (h20_149 P) .nil .nil) .nil) (.node (h17_117 P) .nil .nil))) (.node (h4_29 P) (.node (h8_45 P) (.node (h13_77 P) (.node (h20_141 P) .nil .nil) .nil) (.node (h17_109 P) (.node (h20_173 P) .nil .nil) .nil)) (.node (h8_61 P) (.node (h13_93 P) (.node (h20_157 P) .nil .nil) .nil) (.node (h18_125 P) .nil .nil)))))) (.node (h4_2 P) (.node (boot_o_4 P) (.node (boot_o_8 P) (.node (h4_16 P) (.node (h4_32 P) (.node (h8_64 P) (.node (h18_128 P) .nil .nil) .nil) (.node (h13_96 P) (.node (h20_160 P) .nil .nil) .nil)) (.node (h8_48 P) (.node (h13_80 P) (.node (h20_144 P) .nil .nil) .nil) (.node (h17_112 P) (.node (h20_176 P) .nil .nil) .nil))) (.node (h4_24 P) (.node (h8_40 P) (.node (h13_72 P) (.node (h19_136 P) .nil .nil) .nil) (.node (h17_104 P) (.node (h20_168 P) .nil .nil) .nil)) (.node (h8_56 P) (.node (h13_88 P) (.node (h20_152 P) .nil .nil) .nil) (.node (h17_120 P) .nil .nil)))) (.node (h19_12 P) (.node (h4_20 P) (.node (h8_36 P) (.node (h13_68 P) (.node (h18_132 P) .nil .nil) .nil) (.node (h13_100 P) (.node (h20_164 P) .nil .nil) .nil)) (.node (h8_52 P) (.node (h13_84 P) (.node (h20_148 P) .nil .nil) .nil) (.node (h17_116 P) .nil .nil))) (.node (h4_28 P) (.node (h8_44 P) (.node (h13_76 P) (.node (h20_140 P) .nil .nil) .nil) (.node (h17_108 P) (.node (h20_172 P) .nil .nil) .nil)) (.node (h8_60 P) (.node (h13_92 P) (.node (h20_156 P) .nil .nil) .nil) (.node (h18_124 P) .nil .nil))))) (.node (boot_o_6 P) (.node (boot_o_10 P) (.node (h4_18 P) (.node (h4_34 P) (.node (h13_66 P) (.node (h18_130 P) .nil .nil) .nil) (.node (h13_98 P) (.node (h20_162 P) .nil .nil) .nil)) (.node (h8_50 P) (.node (h13_82 P) (.node (h20_146 P) .nil .nil) .nil) (.node (h17_114 P) (.node (h20_178 P) .nil .nil) .nil))) (.node (h4_26 P) (.node (h8_42 P) (.node (h13_74 P) (.node (h19_138 P) .nil .nil) .nil) (.node (h17_106 P) (.node (h20_170 P) .nil .nil) .nil)) (.node (h8_58 P) (.node (h13_90 P) (.node (h20_154 P) .nil .nil) .nil) (.node (h18_122 P) .nil .nil)))) (.node (hP_14 P) (.node (h4_22 P) (.node (h8_38 P) (.node (h13_70 P) (.node (h19_134 P) .nil .nil) .nil) (.node (h17_102 P) (.node (h20_166 P) .nil .nil) .nil)) (.node (h8_54 P) (.node (h13_86 P) (.node (h20_150 P) .nil .nil) .nil) (.node (h17_118 P) .nil .nil))) (.node (h4_30 P) (.node (h8_46 P) (.node (h13_78 P) (.node (h20_142 P) .nil .nil) .nil) (.node (h17_110 P) (.node (h20_174 P) .nil .nil) .nil)) (.node (h8_62 P) (.node (h13_94 P) (.node (h20_158 P) .nil .nil) .nil) (.node (h18_126 P) .nil .nil)))))))
noncomputable abbrev S20_ (w : World) (os : OsState) : SharedT := ⟨T20 w.params, 179, {}, #[], {}, 2360, os⟩
noncomputable def T25 (P : Params) : BT := (.node (boot_o_0 P) (.node (boot_o_1 P) (.node (h25_3 P) (.node (boot_o_7 P) (.node (h4_15 P) (.node (h8_31 P) (.node (h8_63 P) (.node (h18_127 P) .nil .nil) (.node (h25_191 P) .nil .nil)) (.node (h13_95 P) (.node (h20_159 P) .nil .nil) .nil)) (.node (h8_47 P) (.node (h13_79 P) (.node (h20_143 P) .nil .nil) .nil) (.node (h17_111 P) (.node (h20_175 P) .nil .nil) .nil))) (.node (h4_23 P) (.node (h8_39 P) (.node (h13_71 P) (.node (h19_135 P) .nil .nil) (.node (h25_199 P) .nil .nil)) (.node (h17_103 P) (.node (h20_167 P) .nil .nil) .nil)) (.node (h8_55 P) (.node (h13_87 P) (.node (h20_151 P) .nil .nil) .nil) (.node (h17_119 P) (.node (h25_183 P) .nil .nil) .nil)))) (.node (hP_11 P) (.node (h4_19 P) (.node (h8_35 P) (.node (h13_67 P) (.node (h18_131 P) .nil .nil) (.node (h25_195 P) .nil .nil)) (.node (h13_99 P) (.node (h20_163 P) .nil .nil) .nil)) (.node (h8_51 P) (.node (h13_83 P) (.node (h20_147 P) .nil .nil) .nil) (.node (h17_115 P) (.node (h25_179 P) .nil .nil) .nil))) (.node (h4_27 P) (.node (h8_43 P) (.node (h13_75 P) (.node (h19_139 P) .nil .nil) (.node (h25_203 P) .nil .nil)) (.node (h17_107 P) (.node (h20_171 P) .nil .nil) .nil)) (.node (h8_59 P) (.node (h13_91 P) (.node (h20_155 P) .nil .nil) .nil) (.node (h18_123 P) (.node (h25_187 P) .nil .nil) .nil))))) (.node (boot_o_5 P) (.node (boot_o_9 P) (.node (h4_17 P) (.node (h4_33 P) (.node (h8_65 P) (.node (h18_129 P) .nil .nil) (.node (h25_193 P) .nil .nil)) (.node (h13_97 P) (.node (h20_161 P) .nil .nil) .nil)) (.node (h8_49 P) (.node (h13_81 P) (.node (h20_145 P) .nil .nil) .nil) (.node (h17_113 P) (.node (h20_177 P) .nil .nil) .nil))) (.node (h4_25 P) (.node (h8_41 P) (.node (h13_73 P) (.node (h19_137 P) .nil .nil) (.node (h25_201 P) .nil .nil)) (.node (h17_105 P) (.node (h20_169 P) .nil .nil) .nil)) (.node (h8_57 P) (.node (h13_89 P) (.node (h20_153 P) .nil .nil) .nil) (.node (h17_121 P) (.node (h25_185 P) .nil .nil) .nil)))) (.node (hP_13 P) (.node (h4_21 P) (.node (h8_37 P) (.node (h13_69 P) (.node (h19_133 P) .nil .nil) (.node (h25_197 P) .nil .nil)) (.node (h17_101 P) (.node (h20_165 P) .nil .nil) .nil)) (.node (h8_53 P) (.node (h13_85 P) (.node (h20_149 P) .nil .nil) .nil) (.node (h17_117 P) (.node (h25_181 P) .nil .nil) .nil))) (.node (h4_29 P) (.node (h8_45 P) (.node (h13_77 P) (.node (h20_141 P) .nil .nil) .nil) (.node (h17_109 P) (.node (h20_173 P) .nil .nil) .nil)) (.node (h8_61 P) (.node (h13_93 P) (.node (h20_157 P) .nil .nil) .nil) (.node (h18_125 P) (.node (h25_189 P) .nil .nil) .nil)))))) (.node (h4_2 P) (.node (boot_o_4 P) (.node (boot_o_8 P) (.node (h4_16 P) (.node (h4_32 P) (.node (h8_64 P) (.node (h18_128 P) .nil .nil) (.node (h25_192 P) .nil .nil)) (.node (h13_96 P) (.node (h20_160 P) .nil .nil) .nil)) (.node (h8_48 P) (.node (h13_80 P) (.node (h20_144 P) .nil .nil) .nil) (.node (h17_112 P) (.node (h20_176 P) .nil .nil) .nil))) (.node (h4_24 P) (.node (h8_40 P) (.node (h13_72 P) (.node (h19_136 P) .nil .nil) (.node (h25_200 P) .nil .nil)) (.node (h17_104 P) (.node (h20_168 P) .nil .nil) .nil)) (.node (h8_56 P) (.node (h13_88 P) (.node (h20_152 P) .nil .nil) .nil) (.node (h17_120 P) (.node (h25_184 P) .nil .nil) .nil)))) (.node (h25_12 P) (.node (h4_20 P) (.node (h8_36 P) (.node (h13_68 P) (.node (h18_132 P) .nil .nil) (.node (h25_196 P) .nil .nil)) (.node (h13_100 P) (.node (h20_164 P) .nil .nil) .nil)) (.node (h8_52 P) (.node (h13_84 P) (.node (h20_148 P) .nil .nil) .nil) (.node (h17_116 P) (.node (h25_180 P) .nil .nil) .nil))) (.node (h4_28 P) (.node (h8_44 P) (.node (h13_76 P) (.node (h20_140 P) .nil .nil) (.node (h25_204 P) .nil .nil)) (.node (h17_108 P) (.node (h20_172 P) .nil .nil) .nil)) (.node (h8_60 P) (.node (h13_92 P) (.node (h20_156 P) .nil .nil) .nil) (.node (h18_124 P) (.node (h25_188 P) .nil .nil) .nil))))) (.node (boot_o_6 P) (.node (boot_o_10 P) (.node (h4_18 P) (.node (h4_34 P) (.node (h13_66 P) (.node (h18_130 P) .nil .nil) (.node (h25_194 P) .nil .nil)) (.node (h13_98 P) (.node (h20_162 P) .nil .nil) .nil)) (.node (h8_50 P) (.node (h13_82 P) (.node (h20_146 P) .nil .nil) .nil) (.node (h17_114 P) (.node (h20_178 P) .nil .nil) .nil))) (.node (h4_26 P) (.node (h8_42 P) (.node (h13_74 P) (.node (h19_138 P) .nil .nil) (.node (h25_202 P) .nil .nil)) (.node (h17_106 P) (.node (h20_170 P) .nil .nil) .nil)) (.node (h8_58 P) (.node (h13_90 P) (.node (h20_154 P) .nil .nil) .nil) (.node (h18_122 P) (.node (h25_186 P) .nil .nil) .nil)))) (.node (hP_14 P) (.node (h4_22 P) (.node (h8_38 P) (.node (h13_70 P) (.node (h19_134 P) .nil .nil) (.node (h25_198 P) .nil .nil)) (.node (h17_102 P) (.node (h20_166 P) .nil .nil) .nil)) (.node (h8_54 P) (.node (h13_86 P) (.node (h20_150 P) .nil .nil) .nil) (.node (h17_118 P) (.node (h25_182 P) .nil .nil) .nil))) (.node (h4_30 P) (.node (h8_46 P) (.node (h13_78 P) (.node (h20_142 P) .nil .nil) .nil) (.node (h17_110 P) (.node (h20_174 P) .nil .nil) .nil)) (.node (h8_62 P) (.node (h13_94 P) (.node (h20_158 P) .nil .nil) .nil) (.node (h18_126 P) (.node (h25_190 P) .nil .nil) .nil)))))))
noncomputable abbrev S25_ (w : World) (os : OsState) : SharedT := ⟨T25 w.params, 205, {}, #[], {}, 2399, os⟩
end Mine
namespace Mine
open PySem PySem.W PySem.Calls PyProof.Rows
theorem piece_4 (w : World) : (fun os => segRunT treeTable pw w 11 (some (.ref 6)) 1 258 (SB_ w os) (piecesOf (stmts 0 5) envT codeT ⟨0, 0, 0, 0⟩ [topFrame ⟨0, 0, 0, 0⟩])) = fun os => some (.next, S4_ w os, codeT, ⟨32, 0, 33, 8⟩)  := by rw [PySem.W.Fast.te10110043849684766642, PySem.W.Fast.te14364793385576792824]; kernel_rfl
theorem piece_8 (w : World) : (fun os => segRunT treeTable pw w 11 (some (.ref 6)) 1 471 (S4_ w os) (piecesOf (stmts 5 4) envT codeT ⟨32, 0, 33, 8⟩ [topFrame ⟨0, 0, 0, 0⟩])) = fun os => some (.next, S8_ w os, codeT, ⟨55, 0, 55, 8⟩)  := by rw [PySem.W.Fast.te10110043849684766642, PySem.W.Fast.te14364793385576792824]; kernel_rfl
theorem piece_13 (w : World) : (fun os => segRunT treeTable pw w 11 (some (.ref 6)) 1 151 (S8_ w os) (piecesOf (stmts 9 5) envT codeT ⟨55, 0, 55, 8⟩ [topFrame ⟨0, 0, 0, 0⟩])) = fun os => some (.next, S13_ w os, codeT, ⟨64, 0, 65, 16⟩)  := by rw [PySem.W.Fast.te10110043849684766642, PySem.W.Fast.te14364793385576792824]; kernel_rfl
theorem piece_17 (w : World) : (fun os => segRunT treeTable pw w 11 (some (.ref 6)) 1 104 (S13_ w os) (piecesOf (stmts 14 4) envT codeT ⟨64, 0, 65, 16⟩ [topFrame ⟨0, 0, 0, 0⟩])) = fun os => some (.next, S17_ w os, codeT, ⟨80, 0, 80, 8⟩)  := by rw [PySem.W.Fast.te10110043849684766642, PySem.W.Fast.te14364793385576792824]; kernel_rfl
theorem piece_19 (w : World) : (fun os => segRunT treeTable pw w 11 (some (.ref 6)) 1 30 (S18_ w os) (piecesOf (stmts 19 1) envT codeT ⟨81, 0, 81, 6⟩ [topFrame ⟨0, 0, 0, 0⟩])) = fun os => some (.next, S19_ w os, codeT, ⟨82, 0, 83, 30⟩)  := by rw [PySem.W.Fast.te10110043849684766642, PySem.W.Fast.te14364793385576792824]; kernel_rfl
theorem piece_25 (w : World) : (fun os => segRunT treeTable pw w 11 (some (.ref 6)) 1 133 (S20_ w os) (piecesOf (stmts 21 5) envT codeT ⟨84, 0, 84, 13⟩ [topFrame ⟨0, 0, 0, 0⟩])) = fun os => some (.next, S25_ w os, codeT, ⟨110, 0, 187, 15⟩)  := by rw [PySem.W.Fast.te10110043849684766642, PySem.W.Fast.te14364793385576792824]; kernel_rfl
end Mine
namespace Mine
open PySem PySem.W PySem.Calls PyProof.Rows
theorem p18_f (w : World) : (fun os => segRunT treeTable pw (w.withFollow "special-get-raises" false) 11 (some (.ref 6)) 1 999 (S17_ (w.withFollow "special-get-raises" false) os) (piecesOf (stmts 18 1) envT codeT ⟨80, 0, 80, 8⟩ [topFrame ⟨0, 0, 0, 0⟩])) = fun os => some (.next, S18_ (w.withFollow "special-get-raises" false) os, codeT, ⟨81, 0, 81, 6⟩) := by
  rw [PySem.W.Fast.te10110043849684766642, PySem.W.Fast.te14364793385576792824]
  kernel_rfl
theorem p18_t (w : World) : (fun os => segRunT treeTable pw (w.withFollow "special-get-raises" true) 11 (some (.ref 6)) 1 999 (S17_ (w.withFollow "special-get-raises" true) os) (piecesOf (stmts 18 1) envT codeT ⟨80, 0, 80, 8⟩ [topFrame ⟨0, 0, 0, 0⟩])) = fun os => some (.next, S18_ (w.withFollow "special-get-raises" true) os, codeT, ⟨81, 0, 81, 6⟩) := by
  rw [PySem.W.Fast.te10110043849684766642, PySem.W.Fast.te14364793385576792824]
  kernel_rfl
theorem piece_18 (w : World) : (fun os => segRunT treeTable pw w 11 (some (.ref 6)) 1 999 (S17_ w os) (piecesOf (stmts 18 1) envT codeT ⟨80, 0, 80, 8⟩ [topFrame ⟨0, 0, 0, 0⟩])) = fun os => some (.next, S18_ w os, codeT, ⟨81, 0, 81, 6⟩) := byRow2 "special-get-raises" (P := fun w => (fun os => segRunT treeTable pw w 11 (some (.ref 6)) 1 999 (S17_ w os) (piecesOf (stmts 18 1) envT codeT ⟨80, 0, 80, 8⟩ [topFrame ⟨0, 0, 0, 0⟩])) = fun os => some (.next, S18_ w os, codeT, ⟨81, 0, 81, 6⟩)) p18_f p18_t w
end Mine
namespace Mine
open PySem PySem.W PySem.Calls PyProof.Rows
noncomputable abbrev DSt : Type := Option Addr × List (Sem Value × Sem Value)
noncomputable abbrev DItem : Type := Option (Sem Value) × Sem Value
/-- the loop of a dict display: its body and what follows it, found by unification -/
noncomputable def dispSig : Σ' (body : DItem → DSt → Sem (ForInStep DSt)) (fin : DSt → Sem Value), ∀ items : List DItem, dictDisplay items = (forIn items ((none, []) : DSt) body) >>= fin :=
  ⟨_, _, fun _ => rfl⟩
noncomputable abbrev dBody := dispSig.1
noncomputable abbrev dFin := dispSig.2.1
theorem disp_eq (items : List DItem) : dictDisplay items = (forIn items ((none, []) : DSt) dBody) >>= dFin := dispSig.2.2 items
noncomputable abbrev some1 (p : Sem Value × Sem Value) : DItem := (some p.1, p.2)
/-- what a chunk leaves behind when it is merged into the display's dict -/
noncomputable def dMerge (d sub : Addr) : Sem Unit := (holding [.ref d, .ref sub] (mergeMapping d (.ref sub) false)).onRaise fun x => (holding [.ref d, x] (runValue (.builtin "proto.let_go" {}))).bind fun _ => .pure ()
/-- a chunk, whole -/
noncomputable def dFlush (run : List (Sem Value × Sem Value)) : Option Addr → Sem Addr
  | none => subDict run
  | some d => (holding [.ref d] (subDict run)).bind fun sub => (dMerge d sub).bind fun _ => .pure d
theorem body_short {m : Option Addr} {run : List (Sem Value × Sem Value)} {p : Sem Value × Sem Value} (h : (run ++ [p]).length ≠ 17) : dBody (some1 p) (m, run) = .pure (.yield (m, run ++ [p])) := by
  show (if ((run ++ [p]).length == 17) = true then _ else (Pure.pure (ForInStep.yield (m, run ++ [p])) : Sem (ForInStep DSt))) = _
  rw [if_neg (by simpa using h)]; rfl
theorem flush_eq {m : Option Addr} {run : List (Sem Value × Sem Value)} (h : run.isEmpty = false) : dFin (m, run) = (dFlush run m).bind fun d => .pure (.ref d) := by
  show ((if run.isEmpty = true then (Pure.pure m : Sem (Option Addr)) else match m with
        | none => _
        | some d => _ : Sem (Option Addr)) >>= fun r => match r with
      | some d => (Pure.pure (Value.ref d) : Sem Value)
      | none => newDict) = _
  rw [if_neg (by rw [h]; exact Bool.false_ne_true)]
  cases m with
  | none =>
    show ((subDict run).bind fun d => .pure (some d)).bind _ = _
    rw [Sem.bind_assoc]; rfl
  | some d =>
    show ((holding [.ref d] (subDict run)).bind fun sub => (dMerge d sub).bind fun _ => .pure (some d)).bind _ = ((holding [.ref d] (subDict run)).bind fun sub => (dMerge d sub).bind fun _ => .pure d).bind _
    rw [Sem.bind_assoc, Sem.bind_assoc]
    congr 1; funext sub
    rw [Sem.bind_assoc, Sem.bind_assoc]; rfl
theorem body_full {m : Option Addr} {run : List (Sem Value × Sem Value)} {p : Sem Value × Sem Value} (h : (run ++ [p]).length = 17) : dBody (some1 p) (m, run) = (dFlush (run ++ [p]) m).bind fun d => .pure (.yield (some d, [])) := by
  have he : (run ++ [p]).isEmpty = false := by simp
  show (if ((run ++ [p]).length == 17) = true then ((if (run ++ [p]).isEmpty = true then (Pure.pure m : Sem (Option Addr)) else match m with
        | none => _
        | some d => _ : Sem (Option Addr)) >>= fun main => (Pure.pure (ForInStep.yield (main, [])) : Sem (ForInStep DSt))) else _) = _
  rw [if_pos (by simpa using h), if_neg (by rw [he]; exact Bool.false_ne_true)]
  cases m with
  | none =>
    show ((subDict (run ++ [p])).bind fun d => .pure (some d)).bind _ = _
    rw [Sem.bind_assoc]; rfl
  | some d =>
    show ((holding [.ref d] (subDict (run ++ [p]))).bind fun sub => (dMerge d sub).bind fun _ => .pure (some d)).bind _ = ((holding [.ref d] (subDict (run ++ [p]))).bind fun sub => (dMerge d sub).bind fun _ => .pure d).bind _
    rw [Sem.bind_assoc, Sem.bind_assoc]
    congr 1; funext sub
    rw [Sem.bind_assoc, Sem.bind_assoc]; rfl
theorem chunk_eq {m : Option Addr} {rest : List DItem} : ∀ (l run : List (Sem Value × Sem Value)), l ≠ [] → run.length + l.length = 17 →
    forIn (l.map some1 ++ rest) ((m, run) : DSt) dBody = (dFlush (run ++ l) m).bind fun d => forIn rest ((some d, []) : DSt) dBody
  | [], _, h, _ => absurd rfl h
  | [p], run, _, h => by
    show forIn (some1 p :: rest) ((m, run) : DSt) dBody = _
    rw [List.forIn_cons, body_full (by simpa using h)]
    show ((dFlush (run ++ [p]) m).bind _).bind _ = _
    rw [Sem.bind_assoc]; rfl
  | p :: q :: l, run, _, h => by
    show forIn (some1 p :: ((q :: l).map some1 ++ rest)) ((m, run) : DSt) dBody = _
    rw [List.forIn_cons, body_short (by simp at h ⊢; (first | lia | omega))]
    show forIn ((q :: l).map some1 ++ rest) ((m, run ++ [p]) : DSt) dBody = _
    rw [chunk_eq (q :: l) (run ++ [p]) (by simp) (by simp at h ⊢; (first | lia | omega)), List.append_assoc]; rfl
theorem chunk_short {m : Option Addr} : ∀ (l run : List (Sem Value × Sem Value)), run.length + l.length < 17 →
    forIn (l.map some1) ((m, run) : DSt) dBody = .pure (m, run ++ l)
  | [], run, _ => by simp; rfl
  | p :: l, run, h => by
    show forIn (some1 p :: (l.map some1)) ((m, run) : DSt) dBody = _
    rw [List.forIn_cons, body_short (by simp at h ⊢; (first | lia | omega))]
    show forIn (l.map some1) ((m, run ++ [p]) : DSt) dBody = _
    rw [chunk_short l (run ++ [p]) (by simp at h ⊢; (first | lia | omega)), List.append_assoc]; rfl
end Mine
namespace Mine
open PySem PySem.W PySem.Calls PyProof.Rows
noncomputable abbrev top0 : List Frame := [topFrame ⟨0, 0, 0, 0⟩]
noncomputable abbrev tRun (w : World) (n : Nat) (s : Shared) (t : Thread) : Option Shared := topRun treeTable pw w 11 (some (.ref 6)) n s t
/-- n steps of the top, within its one frame: x gives a -/
noncomputable def Go {α : Type} (w : World) (n : Nat) (x : Sem α) (s : Shared) (p : Pos) (a : α) (s' : Shared) (p' : Pos) : Prop :=
  ∀ (K : α → Sem Fin) (H : Value → Sem Fin) (gd : Bool → Bool) (lv : List Value → List Value) (N : Nat) (r : Shared), tRun w N s' ⟨K a, codeT, p', top0⟩ = some r → tRun w (N + n) s ⟨x.wrap K H gd lv, codeT, p, top0⟩ = some r
section
variable {α β : Type} {w : World} {n m : Nat} {s s₁ s' : Shared} {p p₁ p' : Pos} {a : α} {b : β}
theorem go_pure : Go w 0 (.pure a) s p a s p := fun _ _ _ _ _ _ h => h
theorem go_bind {x : Sem α} {f : α → Sem β} (h : Go w n x s p a s₁ p₁) (k : Go w m (f a) s₁ p₁ b s' p') : Go w (m + n) (x.bind f) s p b s' p' := fun K H gd lv N r e => by
  rw [Sem.bind_eq_wrap, Sem.wrap_wrap, ← Nat.add_assoc]
  exact h _ _ _ _ _ _ (k _ _ _ _ _ _ e)
theorem go_keep {vs : List Value} {x : Sem α} (h : Go w n x s p a s' p') : Go w n (x.keep vs) s p a s' p' := fun K H gd lv N r e => by
  rw [Sem.keep_eq_wrap, Sem.wrap_wrap]; exact h _ _ _ _ _ _ e
theorem go_onRaise {f : Value → Sem Unit} {x : Sem α} (h : Go w n x s p a s' p') : Go w n (x.onRaise f) s p a s' p' := fun K H gd lv N r e => by
  rw [Sem.onRaise_eq_wrap, Sem.wrap_wrap]; exact h _ _ _ _ _ _ e
theorem go_holding {vs : List Value} {x : Sem α} (h : Go w n x s p a s' p') : Go w n (holding vs x) s p a s' p' := by
  unfold holding
  split
  · exact h
  · exact go_keep h
theorem go_rule {t : String} {k : Unit → Sem α} (h : Go w n (k ()) s p a s' p') : Go w (n + 1) (.rule t k) s p a s' p' := fun K H gd lv N r e => by
  obtain ⟨heap, gens, drawn, toks, os⟩ := s
  exact h K H gd lv N r e
theorem go_at {q : Pos} {k : Unit → Sem α} (h : Go w n (k ()) s q a s' p') : Go w (n + 1) (.at q k) s p a s' p' := fun K H gd lv N r e => by
  obtain ⟨heap, gens, drawn, toks, os⟩ := s
  exact h K H gd lv N r e
theorem go_fresh {k : Tok → Sem α} (h : Go w n (k s.toks) { s with toks := s.toks + 1 } p a s' p') : Go w (n + 1) (.fresh k) s p a s' p' := fun K H gd lv N r e => by
  obtain ⟨heap, gens, drawn, toks, os⟩ := s
  exact h K H gd lv N r e
theorem go_load {q : Option Value} {x : Addr} {o : Obj} {k : Obj → Sem α} (ho : s.heap.get? x = some o) (h : Go w n (k o) s p a s' p') : Go w (n + 1) (.load x q k) s p a s' p' := fun K H gd lv N r e => by
  obtain ⟨heap, gens, drawn, toks, os⟩ := s
  have h' := h K H gd lv N r e
  show (match step (denote treeTable) pw w ⟨heap, gens, drawn, toks, os⟩ ⟨.load x q fun o => (k o).wrap K H gd lv, codeT, p, top0⟩ with
    | .go s' t' => tRun w (N + n) s' t'
    | .halt _ _ => none) = some r
  have : heap.get? x = some o := ho
  simp only [step, this]
  exact h'
theorem go_update {q : Option Value} {x : Addr} {o : Obj} {f : Obj → Obj} {k : Unit → Sem α} (hx : Nat.ble 11 x = true) (ho : s.heap.get? x = some o) (h : Go w n (k ()) { s with heap := s.heap.update x f } p a s' p') : Go w (n + 1) (.update x q f k) s p a s' p' := fun K H gd lv N r e => by
  obtain ⟨heap, gens, drawn, toks, os⟩ := s
  have h' := h K H gd lv N r e
  show (match Thread.calm ⟨.update x q f fun o => (k o).wrap K H gd lv, codeT, p, top0⟩ && (Nat.ble 11 x || x == mainNs || x == cStatics || some (Value.ref 6) == some (.ref x)) with
      | false => none
      | true => match step (denote treeTable) pw w ⟨heap, gens, drawn, toks, os⟩ ⟨.update x q f fun o => (k o).wrap K H gd lv, codeT, p, top0⟩ with
    | .go s' t' => tRun w (N + n) s' t'
    | .halt _ _ => none) = some r
  have : heap.get? x = some o := ho
  rw [hx, Bool.true_or, Bool.true_or, Bool.true_or]
  simp only [step, this]
  exact h'
theorem go_alloc {o : Obj} {k : Addr → Sem α} (h : Go w n (k s.heap.objs.size) { s with heap := s.heap.push o } p a s' p') : Go w (n + 1) (.alloc o k) s p a s' p' := fun K H gd lv N r e => by
  obtain ⟨heap, gens, drawn, toks, os⟩ := s
  exact h K H gd lv N r e
theorem hash_run (K : Int → Sem Fin) (H : Value → Sem Fin) (gd : Bool → Bool) (lv : List Value → List Value) (N : Nat) (k : Int) (t : Tok) (heap : Heap) (gens : Array GenState) (drawn : Drawn) (toks : Nat) (os : OsState) (p : Pos) (w : World) :
    tRun w (N + 5) ⟨heap, gens, drawn, toks, os⟩ ⟨(pyHash (.int k t)).wrap K H gd lv, codeT, p, top0⟩ = tRun w N ⟨heap, gens, drawn, toks + 1, os⟩ ⟨(pyHashByItsType.reduced (rawHash k)).wrap K H gd lv, codeT, p, top0⟩ := by
  refine byRow2 "special-get-raises" (P := fun w => tRun w (N + 5) ⟨heap, gens, drawn, toks, os⟩ ⟨(pyHash (.int k t)).wrap K H gd lv, codeT, p, top0⟩ = tRun w N ⟨heap, gens, drawn, toks + 1, os⟩ ⟨(pyHashByItsType.reduced (rawHash k)).wrap K H gd lv, codeT, p, top0⟩) (fun w => ?_) (fun w => ?_) w
  · kernel_rfl
  · kernel_rfl
end
end Mine
namespace Mine
open PySem PySem.W PySem.Calls PyProof.Rows
/-- a key of the table -/
noncomputable def okKey (k : Int) : Prop := 0 ≤ k ∧ k < 1000000
theorem dObj_push (es : List DictEntry) (n : Nat) (e : DictEntry) : (dObj es n).mapDictKeys (·.push e) = dObj (es ++ [e]) (n + 1) := by
  show (⟨.type "dict", none, .dict (es.toArray.push e) (n + 1), #[]⟩ : Obj) = _
  rw [List.push_toArray]
theorem upd_id {h : Heap} {x : Addr} {o : Obj} (f : Obj → Obj) (ho : h.get? x = some o) : h.update x f = h.update x fun _ => f o := by
  obtain ⟨objs, l⟩ := h
  show (⟨objs.modify x f, l⟩ : Heap) = ⟨objs.modify x fun _ => f o, l⟩
  congr 1
  have hx : objs[x]? = some o := by
    unfold Heap.get? at ho
    split at ho
    · cases ho
    · exact ho
  apply Array.ext_getElem?
  intro i
  rw [Array.getElem?_modify, Array.getElem?_modify]
  split
  · rename_i e; subst e; rw [hx]; rfl
  · rfl
theorem upd_upd {h : Heap} {x : Addr} {o o' : Obj} : (h.update x fun _ => o).update x (fun _ => o') = h.update x fun _ => o' := by
  obtain ⟨objs, l⟩ := h
  show (⟨(objs.modify x fun _ => o).modify x fun _ => o', l⟩ : Heap) = _
  show _ = (⟨objs.modify x fun _ => o', l⟩ : Heap)
  congr 1
  apply Array.ext_getElem?
  intro i
  simp only [Array.getElem?_modify]
  split
  · cases objs[i]? <;> rfl
  · rfl
theorem upd_get_same {h : Heap} {x : Addr} {o : Obj} {es : List DictEntry} {n : Nat} (ho : h.get? x = some o) : (h.update x fun _ => dObj es n).get? x = some (dObj es n) := by
  obtain ⟨objs, l⟩ := h
  have hx : objs[x]? = some o := by
    unfold Heap.get? at ho
    split at ho
    · cases ho
    · exact ho
  unfold Heap.get?
  show (match (objs.modify x fun _ => dObj es n)[x]? with | some ⟨_, _, .freed, _⟩ => none | o => o) = _
  rw [Array.getElem?_modify, if_pos rfl, hx]; rfl
theorem upd_get_ne {h : Heap} {x y : Addr} {f : Obj → Obj} (hxy : x ≠ y) : (h.update x f).get? y = h.get? y := by
  obtain ⟨objs, l⟩ := h
  unfold Heap.get?
  show (match (objs.modify x f)[y]? with | some ⟨_, _, .freed, _⟩ => none | o => o) = _
  rw [Array.getElem?_modify, if_neg hxy]; rfl
theorem upd_self {h : Heap} {x : Addr} {o : Obj} (ho : h.get? x = some o) : (h.update x fun _ => o) = h := by
  obtain ⟨objs, l⟩ := h
  have hx : objs[x]? = some o := by
    unfold Heap.get? at ho
    split at ho
    · cases ho
    · exact ho
  show (⟨objs.modify x fun _ => o, l⟩ : Heap) = ⟨objs, l⟩
  congr 1
  apply Array.ext_getElem?
  intro i
  rw [Array.getElem?_modify]
  split
  · rename_i e; subst e; rw [hx]; rfl
  · rfl
theorem places_nil {es : List DictEntry} {k : Int} (h : ∀ e ∈ es, e.hash ≠ k) : placesWithHash es.toArray.size (fun i => es.toArray[i]?.map (·.hash)) k = [] := by
  unfold placesWithHash
  rw [List.filter_eq_nil_iff]
  intro i hi
  simp only [List.getElem?_toArray, List.size_toArray, List.mem_range] at hi ⊢
  rw [List.getElem?_eq_getElem hi]
  simp only [Option.map_some, beq_iff_eq, Option.some.injEq]
  exact h _ (List.getElem_mem hi)
theorem raw_key {k : Int} (h : okKey k) : pyHashByItsType.reduced (rawHash k) = .pure k := by
  obtain ⟨h1, h2⟩ := h
  have e1 : rawHash k = k := by
    unfold rawHash
    have e : ((k.natAbs : Int) % ((2 ^ 61 - 1 : Nat) : Int)) = k := by
      have : (k.natAbs : Int) = k := by (first | lia | omega)
      rw [this]
      exact Int.emod_eq_of_lt h1 (by simp; (first | lia | omega))
    simp only [e]
    have hn : ¬ k < 0 := by (first | lia | omega)
    simp only [if_neg hn]
    rw [if_neg (by simp; (first | lia | omega))]
  rw [e1]
  show (if (decide (-(2 : Int) ^ 63 ≤ k) && decide (k < 2 ^ 63)) = true then (Pure.pure (if k == -1 then -2 else k) : Sem Int) else _) = _
  rw [if_pos (by simp; (first | lia | omega)), if_neg (by simp; (first | lia | omega))]; rfl
section
variable {w : World} {s s' : Shared} {p p' : Pos} {n : Nat}
theorem go_hash {k : Int} {t : Tok} (h : okKey k) : Go w 5 (pyHash (.int k t)) s p k { s with toks := s.toks + 1 } p := fun K H gd lv N r e => by
  obtain ⟨heap, gens, drawn, toks, os⟩ := s
  rw [hash_run, raw_key h]; exact e
theorem go_entries {d : Addr} {es : List DictEntry} {q : Nat} {part : Option Value} (ho : s.heap.get? d = some (dObj es q)) : Go w 1 (dictEntries d part) s p es.toArray s p := by
  show Go w 1 (Sem.load d part _) s p es.toArray s p
  exact go_load ho go_pure
theorem go_epoch {d : Addr} {es : List DictEntry} {q : Nat} {part : Option Value} (ho : s.heap.get? d = some (dObj es q)) : Go w 1 (dictEpoch d part) s p q s p := by
  show Go w 1 (Sem.load d part _) s p q s p
  exact go_load ho go_pure
theorem go_find {d : Addr} {es : List DictEntry} {q : Nat} {k : Int} {t : Tok} (ho : s.heap.get? d = some (dObj es q)) (hn : ∀ e ∈ es, e.hash ≠ k) : Go w 1 (dictFind d (.int k t) k) s p none s p := by
  unfold dictFind
  refine go_holding (go_bind (n := 1) (m := 0) (go_entries ho) ?_)
  show Go w 0 (if (Value.int k t :: (placesWithHash es.toArray.size (fun i => es.toArray[i]?.map (·.hash)) k).filterMap fun i => es.toArray[i]?.map (·.key)).all carriedByValue = true
        then dictWalkPlain d (.int k t) k es.toArray (placesWithHash es.toArray.size (fun i => es.toArray[i]?.map (·.hash)) k) else _) s p none s p
  rw [places_nil hn]
  exact go_pure
/-- a new key at the end -/
theorem go_put {d : Addr} {es : List DictEntry} {q : Nat} {e : DictEntry} {part : Option Value} (hd : Nat.ble 11 d = true) (ho : s.heap.get? d = some (dObj es q)) (hs : es.length < 1000000) :
    Go w 3 (updateDictKeys d (·.push e) part) s p () { s with heap := s.heap.update d fun _ => dObj (es ++ [e]) (q + 1) } p := by
  show Go w 3 (Sem.load d part _) s p () _ p
  refine go_load ho ?_
  show Go w 2 (Sem.update d part (Obj.mapDictKeys (·.push e)) _) s p () _ p
  refine go_update hd ho ?_
  rw [upd_id _ ho, dObj_push]
  show Go w 1 (Sem.load d part _) _ p () _ p
  refine go_load (o := dObj (es ++ [e]) (q + 1)) (upd_get_same ho) ?_
  have hp : (dObj (es ++ [e]) (q + 1)).data.pastItsLine = none := if_neg (by simp [sizeLine]; (first | lia | omega))
  show Go w 0 (match (dObj (es ++ [e]) (q + 1)).data.pastItsLine with | some what => unsupported what | _ => (Pure.pure () : Sem Unit)) _ p () _ p
  rw [hp]
  exact go_pure
theorem go_set {d : Addr} {es : List DictEntry} {q : Nat} {k : Int} {t u : Tok} {x : Str} (hd : Nat.ble 11 d = true) (hk : okKey k) (ho : s.heap.get? d = some (dObj es q)) (hs : es.length < 1000000) (hn : ∀ e ∈ es, e.hash ≠ k) :
    Go w 10 (dictSet d (.int k t) (.str x u)) s p () { s with heap := s.heap.update d fun _ => dObj (es ++ [⟨k, .int k t, .str x u⟩]) (q + 1), toks := s.toks + 1 } p := by
  have e0 : dictSet d (.int k t) (.str x u) = (pyHash (.int k t)).bind fun h => (dictFind d (.int k t) h).bind fun i => (match i with
      | some i => _
      | none => Sem.rule "dict.set.new-key-at-the-end" fun _ => updateDictKeys d (·.push ⟨h, .int k t, .str x u⟩) (some (.int k 0)) : Sem Unit) := rfl
  rw [e0]
  refine go_bind (n := 5) (m := 5) (go_hash hk) (go_bind (n := 1) (m := 4) (go_find (s := { s with toks := s.toks + 1 }) ho hn) ?_)
  exact go_rule (go_put (s := { s with toks := s.toks + 1 }) hd ho hs)
end
end Mine
namespace Mine
open PySem PySem.W PySem.Calls PyProof.Rows
/-- a pair of the display: an int, a text -/
noncomputable abbrev mk1 (P : Pos) (e : Int × Str) : Sem Value × Sem Value := (.fresh fun t => .pure (.int e.1 t), .fresh fun t => .at P fun _ => .pure (.str e.2 t))
/-- the keys go up -/
noncomputable def asc : Int → List (Int × Str) → Bool
  | _, [] => true
  | lo, (i, _) :: r => decide (lo < i) && decide (0 ≤ i) && decide (i < 1000000) && asc i r
noncomputable def lastK : Int → List (Int × Str) → Int
  | lo, [] => lo
  | _, (i, _) :: r => lastK i r
theorem asc_le : ∀ {L : List (Int × Str)} {lo : Int}, asc lo L = true → lo ≤ lastK lo L
  | [], _, _ => Int.le_refl _
  | (i, x) :: r, lo, h => by
    unfold asc at h
    simp only [Bool.and_eq_true, decide_eq_true_eq] at h
    have := asc_le h.2
    show lo ≤ lastK i r
    (first | lia | omega)
theorem asc_append : ∀ {L M : List (Int × Str)} {lo : Int}, asc lo (L ++ M) = true → asc lo L = true ∧ asc (lastK lo L) M = true
  | [], _, _, h => ⟨rfl, h⟩
  | (i, x) :: r, M, lo, h => by
    have h' : (decide (lo < i) && decide (0 ≤ i) && decide (i < 1000000) && asc i (r ++ M)) = true := h
    rw [Bool.and_eq_true] at h'
    obtain ⟨k1, k2⟩ := asc_append h'.2
    refine ⟨?_, k2⟩
    show (decide (lo < i) && decide (0 ≤ i) && decide (i < 1000000) && asc i r) = true
    rw [h'.1, k1]; rfl
theorem entsL_length : ∀ (L : List (Int × Str)) (t : Nat), (entsL t L).length = L.length
  | [], _ => rfl
  | _ :: r, t => congrArg (· + 1) (entsL_length r (t + 3))
theorem entsS_length : ∀ (L : List (Int × Str)) (t : Nat), (entsS t L).length = L.length
  | [], _ => rfl
  | _ :: r, t => congrArg (· + 1) (entsS_length r (t + 2))
/-- an entry of ints and texts, its key above lo, at most hi -/
noncomputable def EntOk (lo hi : Int) (e : DictEntry) : Prop := ∃ i t x u, e = (⟨i, .int i t, .str x u⟩ : DictEntry) ∧ lo < i ∧ i ≤ hi ∧ 0 ≤ i ∧ i < 1000000
theorem entsL_ok : ∀ {L : List (Int × Str)} {lo : Int} {t : Nat}, asc lo L = true → ∀ e ∈ entsL t L, EntOk lo (lastK lo L) e
  | [], _, _, _, e, he => by cases he
  | (i, x) :: r, lo, t, h, e, he => by
    unfold asc at h
    simp only [Bool.and_eq_true, decide_eq_true_eq] at h
    obtain ⟨⟨⟨h1, h2⟩, h3⟩, h4⟩ := h
    rcases List.mem_cons.mp he with rfl | he
    · exact ⟨i, t, x, t + 1, rfl, h1, asc_le h4, h2, h3⟩
    · obtain ⟨j, t', x', u, e1, e2, e3, e4, e5⟩ := entsL_ok h4 e he
      exact ⟨j, t', x', u, e1, by (first | lia | omega), e3, e4, e5⟩
theorem entsS_ok : ∀ {L : List (Int × Str)} {lo : Int} {t : Nat}, asc lo L = true → ∀ e ∈ entsS t L, EntOk lo (lastK lo L) e
  | [], _, _, _, e, he => by cases he
  | (i, x) :: r, lo, t, h, e, he => by
    unfold asc at h
    simp only [Bool.and_eq_true, decide_eq_true_eq] at h
    obtain ⟨⟨⟨h1, h2⟩, h3⟩, h4⟩ := h
    rcases List.mem_cons.mp he with rfl | he
    · exact ⟨i, t, x, t + 1, rfl, h1, asc_le h4, h2, h3⟩
    · obtain ⟨j, t', x', u, e1, e2, e3, e4, e5⟩ := entsS_ok h4 e he
      exact ⟨j, t', x', u, e1, by (first | lia | omega), e3, e4, e5⟩
/-- all keys at most hi -/
noncomputable def Upto (hi : Int) (es : List DictEntry) : Prop := ∀ e ∈ es, e.hash ≤ hi

section
variable {w : World} {s s' : Shared} {P : Pos} {n : Nat} {d : Addr}
theorem go_n {α : Type} {x : Sem α} {a : α} {p p' : Pos} {m : Nat} (e : n = m) (h : Go w n x s p a s' p') : Go w m x s p a s' p' := e ▸ h
theorem go_map {α β : Type} {x : Sem α} {a : α} {p p' : Pos} {f : α → Sem β} {b : β} (h : Go w n x s p a s' p') (e : f a = .pure b) : Go w n (x.bind f) s p b s' p' :=
  go_n (Nat.zero_add n) (go_bind (m := 0) h (by rw [e]; exact go_pure))
theorem shared_eta (s : Shared) {h : Heap} {t : Nat} (hh : h = s.heap) (ht : t = s.toks) : { s with heap := h, toks := t } = s := by subst hh ht; rfl
theorem go_long {body : Sem Value × Sem Value → PUnit → Sem (ForInStep PUnit)} (hb : ∀ a r, body a r = a.1.bind fun kv => (holding [kv] a.2).bind fun vv => (holding [kv, vv] (dictSet d kv vv)).bind fun _ => .pure (.yield PUnit.unit)) (hd : Nat.ble 11 d = true) :
    ∀ (L : List (Int × Str)) (lo : Int) (es : List DictEntry) (q : Nat) (s : Shared), asc lo L = true → Upto lo es → es.length + L.length < 1000000 → s.heap.get? d = some (dObj es q) →
    Go w (13 * L.length) (forIn (L.map (mk1 P)) PUnit.unit body) s P PUnit.unit { s with heap := s.heap.update d fun _ => dObj (es ++ entsL s.toks L) (q + L.length), toks := s.toks + 3 * L.length } P
  | [], lo, es, q, s, _, _, _, ho => by
    have e : ({ s with heap := s.heap.update d fun _ => dObj (es ++ entsL s.toks []) (q + 0), toks := s.toks + 3 * 0 } : Shared) = s := shared_eta s (by rw [entsL, List.append_nil, Nat.add_zero]; exact upd_self ho) rfl
    show Go w 0 _ s P PUnit.unit { s with heap := s.heap.update d fun _ => dObj (es ++ entsL s.toks []) (q + 0), toks := s.toks + 3 * 0 } P
    rw [e]
    exact go_pure
  | (i, x) :: r, lo, es, q, s, h, hu, hl, ho => by
    have hh := h
    unfold asc at h
    simp only [Bool.and_eq_true, decide_eq_true_eq] at h
    obtain ⟨⟨⟨h1, h2⟩, h3⟩, h4⟩ := h
    rw [List.map_cons, List.forIn_cons, hb]
    have g1 : Go w 2 (mk1 P (i, x)).2 { s with toks := s.toks + 1 } P (.str x (s.toks + 1)) { s with toks := s.toks + 2 } P := go_fresh (go_at go_pure)
    have g2 : Go w 10 (dictSet d (.int i s.toks) (.str x (s.toks + 1))) { s with toks := s.toks + 2 } P () { s with heap := s.heap.update d fun _ => dObj (es ++ [⟨i, .int i s.toks, .str x (s.toks + 1)⟩]) (q + 1), toks := s.toks + 3 } P :=
      go_set (s := { s with toks := s.toks + 2 }) hd ⟨h2, h3⟩ ho (by simp at hl; (first | lia | omega)) (fun e he => by have := hu e he; (first | lia | omega))
    have g3 := go_long hb hd r i (es ++ [⟨i, .int i s.toks, .str x (s.toks + 1)⟩]) (q + 1) { s with heap := s.heap.update d fun _ => dObj (es ++ [⟨i, .int i s.toks, .str x (s.toks + 1)⟩]) (q + 1), toks := s.toks + 3 } h4
      (fun e he => by
        rcases List.mem_append.mp he with he | he
        · have := hu e he; (first | lia | omega)
        · simp at he; subst he; exact Int.le_refl _) (by simp at hl ⊢; (first | lia | omega)) (upd_get_same ho)
    have e1 : 13 * ((i, x) :: r).length = 13 * r.length + 13 := by simp; (first | lia | omega)
    have e2 : ({ s with heap := s.heap.update d fun _ => dObj (es ++ entsL s.toks ((i, x) :: r)) (q + ((i, x) :: r).length), toks := s.toks + 3 * ((i, x) :: r).length } : Shared)
      = { s with heap := (s.heap.update d fun _ => dObj (es ++ [⟨i, .int i s.toks, .str x (s.toks + 1)⟩]) (q + 1)).update d fun _ => dObj (es ++ [⟨i, .int i s.toks, .str x (s.toks + 1)⟩] ++ entsL (s.toks + 3) r) (q + 1 + r.length), toks := s.toks + 3 + 3 * r.length } := by
      rw [upd_upd, List.append_assoc]
      have a1 : q + ((i, x) :: r).length = q + 1 + r.length := by simp; (first | lia | omega)
      have a2 : s.toks + 3 * ((i, x) :: r).length = s.toks + 3 + 3 * r.length := by simp; (first | lia | omega)
      rw [a1, a2]; rfl
    rw [e1, e2]
    exact go_bind (n := 13) (m := 13 * r.length) (go_bind (n := 1) (m := 12) (go_fresh go_pure) (go_bind (n := 2) (m := 10) (go_holding g1) (go_bind (n := 10) (m := 0) (go_holding g2) go_pure))) g3
theorem push_get_last (h : Heap) (es : List DictEntry) (q : Nat) : (h.push (dObj es q)).get? h.objs.size = some (dObj es q) := by
  obtain ⟨objs, l⟩ := h
  unfold Heap.get?
  show (match (objs.push (dObj es q))[objs.size]? with | some ⟨_, _, .freed, _⟩ => none | o => o) = _
  rw [Array.getElem?_push_size]
theorem push_upd_last (h : Heap) (o : Obj) (f : Obj → Obj) : (h.push o).update h.objs.size f = h.push (f o) := by
  obtain ⟨objs, l⟩ := h
  show (⟨(objs.push o).modify objs.size f, l⟩ : Heap) = ⟨objs.push (f o), l⟩
  congr 1
  apply Array.ext_getElem?
  intro i
  rw [Array.getElem?_modify, Array.getElem?_push, Array.getElem?_push]
  by_cases e : objs.size = i
  · subst e; simp
  · rw [if_neg e, if_neg (fun x => e x.symm), if_neg (fun x => e x.symm)]
theorem push_upd (h : Heap) (o : Obj) {d : Addr} (f : Obj → Obj) (hd : d < h.objs.size) : (h.push o).update d f = (h.update d f).push o := by
  obtain ⟨objs, l⟩ := h
  have hd : d < objs.size := hd
  show (⟨(objs.push o).modify d f, l⟩ : Heap) = ⟨(objs.modify d f).push o, l⟩
  congr 1
  apply Array.ext_getElem?
  intro i
  rw [Array.getElem?_modify, Array.getElem?_push, Array.getElem?_push, Array.getElem?_modify, Array.size_modify]
  by_cases e : d = i
  · subst e
    have hne : ¬ d = objs.size := Nat.ne_of_lt hd
    rw [if_pos rfl, if_pos rfl, if_neg hne, if_neg hne]
  · rw [if_neg e, if_neg e]
theorem upd_size (h : Heap) (d : Addr) (f : Obj → Obj) : (h.update d f).objs.size = h.objs.size := by
  obtain ⟨objs, l⟩ := h
  exact Array.size_modify ..
theorem get_lt {h : Heap} {d : Addr} {o : Obj} (ho : h.get? d = some o) : d < h.objs.size := Heap.lt_size ho
theorem sub_long {L : List (Int × Str)} {lo : Int} (hL : 15 < L.length) (hl : L.length < 1000000) (ha : asc lo L = true) (hs : 11 ≤ s.heap.objs.size) :
    Go w (13 * L.length + 1 + 1) (subDict (L.map (mk1 P))) s P s.heap.objs.size { s with heap := s.heap.push (dObj (entsL s.toks L) L.length), toks := s.toks + 3 * L.length } P := by
  have hif : ¬ (L.map (mk1 P)).length ≤ 15 := by simp; (first | lia | omega)
  unfold subDict
  simp only [if_neg hif]
  have g := go_long (w := w) (P := P) (d := s.heap.objs.size) (body := fun x r => do
        let kv ← x.1
        let vv ← holding [kv] x.2
        let _ ← holding [kv, vv] (dictSet s.heap.objs.size kv vv)
        pure (ForInStep.yield PUnit.unit)) (fun _ _ => rfl) (Nat.ble_eq_true_of_le hs) L lo [] 0 { s with heap := s.heap.push (dObj [] 0) } ha (fun e he => (nomatch he)) (by simpa using hl) (push_get_last _ _ _)
  have e : ({ s with heap := (s.heap.push (dObj [] 0)).update s.heap.objs.size fun _ => dObj ([] ++ entsL s.toks L) (0 + L.length), toks := s.toks + 3 * L.length } : Shared) = { s with heap := s.heap.push (dObj (entsL s.toks L) L.length), toks := s.toks + 3 * L.length } := by
    rw [push_upd_last, List.nil_append, Nat.zero_add]
  rw [← e]
  show Go w (13 * L.length + 1 + 1) (Sem.alloc (dObj [] 0) _) s P _ _ P
  refine go_alloc ?_
  show Go w (13 * L.length + 1) ((holding [.ref s.heap.objs.size] _).bind fun _ => .pure s.heap.objs.size) _ P _ _ P
  exact go_map (go_holding (go_bind (n := 1) (m := 13 * L.length) (go_rule go_pure) (go_map g rfl))) rfl
end
end Mine
namespace Mine
open PySem PySem.W PySem.Calls PyProof.Rows
section
variable {w : World} {s s' : Shared} {P : Pos} {n : Nat} {d : Addr}
noncomputable def valsS : Nat → List (Int × Str) → List (Value × Value)
  | _, [] => []
  | t, (i, x) :: r => (.int i t, .str x (t + 1)) :: valsS (t + 2) r
theorem go_pairs : ∀ (L : List (Int × Str)) (s : Shared), Go w (3 * L.length) (evalPairs (L.map (mk1 P))) s P (valsS s.toks L) { s with toks := s.toks + 2 * L.length } P
  | [], s => by
    have e : ({ s with toks := s.toks + 2 * 0 } : Shared) = s := rfl
    show Go w 0 _ s P [] { s with toks := s.toks + 2 * 0 } P
    exact go_pure
  | (i, x) :: r, s => by
    have g := go_pairs r { s with toks := s.toks + 2 }
    have e1 : 3 * ((i, x) :: r).length = 3 * r.length + 3 := by simp; (first | lia | omega)
    have e2 : s.toks + 2 * ((i, x) :: r).length = s.toks + 2 + 2 * r.length := by simp; (first | lia | omega)
    rw [e1, e2]
    show Go w (3 * r.length + 3) ((mk1 P (i, x)).1.bind fun kv => (holding [kv] (mk1 P (i, x)).2).bind fun vv => (holding [kv, vv] (evalPairs (r.map (mk1 P)))).bind fun l => .pure ((kv, vv) :: l)) s P _ _ P
    refine go_n (n := 3 * r.length + 2 + 1) (by (first | lia | omega)) (go_bind (n := 1) (m := 3 * r.length + 2) (go_fresh go_pure) (go_bind (n := 2) (m := 3 * r.length) (s₁ := { s with toks := s.toks + 2 }) (go_holding (go_fresh (go_at go_pure))) (go_map (go_holding g) rfl)))
theorem go_short {body : Value × Value → PUnit → Sem (ForInStep PUnit)} (hb : ∀ a r, body a r = (dictSet d a.1 a.2).bind fun _ => .pure (.yield PUnit.unit)) (hd : Nat.ble 11 d = true) :
    ∀ (L : List (Int × Str)) (lo : Int) (t : Nat) (es : List DictEntry) (q : Nat) (s : Shared), asc lo L = true → Upto lo es → es.length + L.length < 1000000 → s.heap.get? d = some (dObj es q) →
    Go w (10 * L.length) (forIn (valsS t L) PUnit.unit body) s P PUnit.unit { s with heap := s.heap.update d fun _ => dObj (es ++ entsS t L) (q + L.length), toks := s.toks + L.length } P
  | [], lo, t, es, q, s, _, _, _, ho => by
    have e : ({ s with heap := s.heap.update d fun _ => dObj (es ++ entsS t []) (q + 0), toks := s.toks + 0 } : Shared) = s := shared_eta s (by rw [entsS, List.append_nil, Nat.add_zero]; exact upd_self ho) rfl
    show Go w 0 _ s P PUnit.unit { s with heap := s.heap.update d fun _ => dObj (es ++ entsS t []) (q + 0), toks := s.toks + 0 } P
    rw [e]
    exact go_pure
  | (i, x) :: r, lo, t, es, q, s, h, hu, hl, ho => by
    unfold asc at h
    simp only [Bool.and_eq_true, decide_eq_true_eq] at h
    obtain ⟨⟨⟨h1, h2⟩, h3⟩, h4⟩ := h
    have g2 : Go w 10 (dictSet d (.int i t) (.str x (t + 1))) s P () { s with heap := s.heap.update d fun _ => dObj (es ++ [⟨i, .int i t, .str x (t + 1)⟩]) (q + 1), toks := s.toks + 1 } P :=
      go_set hd ⟨h2, h3⟩ ho (by simp at hl; (first | lia | omega)) (fun e he => by have := hu e he; (first | lia | omega))
    have g3 := go_short hb hd r i (t + 2) (es ++ [⟨i, .int i t, .str x (t + 1)⟩]) (q + 1) { s with heap := s.heap.update d fun _ => dObj (es ++ [⟨i, .int i t, .str x (t + 1)⟩]) (q + 1), toks := s.toks + 1 } h4
      (fun e he => by
        rcases List.mem_append.mp he with he | he
        · have := hu e he; (first | lia | omega)
        · simp at he; subst he; exact Int.le_refl _) (by simp at hl ⊢; (first | lia | omega)) (upd_get_same ho)
    have e1 : 10 * ((i, x) :: r).length = 10 * r.length + 10 := by simp; (first | lia | omega)
    have e2 : ({ s with heap := s.heap.update d fun _ => dObj (es ++ entsS t ((i, x) :: r)) (q + ((i, x) :: r).length), toks := s.toks + ((i, x) :: r).length } : Shared)
      = { s with heap := (s.heap.update d fun _ => dObj (es ++ [⟨i, .int i t, .str x (t + 1)⟩]) (q + 1)).update d fun _ => dObj (es ++ [⟨i, .int i t, .str x (t + 1)⟩] ++ entsS (t + 2) r) (q + 1 + r.length), toks := s.toks + 1 + r.length } := by
      rw [upd_upd, List.append_assoc]
      have a1 : q + ((i, x) :: r).length = q + 1 + r.length := by simp; (first | lia | omega)
      have a2 : s.toks + ((i, x) :: r).length = s.toks + 1 + r.length := by simp; (first | lia | omega)
      rw [a1, a2]; rfl
    rw [e1, e2]
    show Go w _ (forIn ((.int i t, .str x (t + 1)) :: valsS (t + 2) r) PUnit.unit body) s P _ _ P
    rw [List.forIn_cons, hb]
    exact go_bind (n := 10) (m := 10 * r.length) (go_map g2 rfl) g3
theorem sub_short {L : List (Int × Str)} {lo : Int} (hL : L.length ≤ 15) (ha : asc lo L = true) (hs : 11 ≤ s.heap.objs.size) :
    Go w (10 * L.length + 3 * L.length + 1) (subDict (L.map (mk1 P))) s P s.heap.objs.size { s with heap := s.heap.push (dObj (entsS s.toks L) L.length), toks := s.toks + 3 * L.length } P := by
  have hif : (L.map (mk1 P)).length ≤ 15 := by simpa using hL
  unfold subDict
  simp only [if_pos hif]
  have g := go_short (w := w) (P := P) (d := s.heap.objs.size) (body := fun x r => do
        dictSet s.heap.objs.size x.1 x.2
        pure (ForInStep.yield PUnit.unit)) (fun _ _ => rfl) (Nat.ble_eq_true_of_le hs) L lo s.toks [] 0 { s with heap := s.heap.push (dObj [] 0), toks := s.toks + 2 * L.length } ha (fun e he => (nomatch he)) (by simp; (first | lia | omega)) (push_get_last _ _ _)
  have e : ({ s with heap := (s.heap.push (dObj [] 0)).update s.heap.objs.size fun _ => dObj ([] ++ entsS s.toks L) (0 + L.length), toks := s.toks + 2 * L.length + L.length } : Shared) = { s with heap := s.heap.push (dObj (entsS s.toks L) L.length), toks := s.toks + 3 * L.length } := by
    rw [push_upd_last, List.nil_append, Nat.zero_add]
    have : s.toks + 2 * L.length + L.length = s.toks + 3 * L.length := by (first | lia | omega)
    rw [this]
  rw [← e]
  show Go w (10 * L.length + 3 * L.length + 1) (Sem.alloc (dObj [] 0) _) s P _ _ P
  refine go_alloc ?_
  show Go w (10 * L.length + 3 * L.length) ((holding [.ref s.heap.objs.size] _).bind fun _ => .pure s.heap.objs.size) _ P _ _ P
  exact go_map (go_holding (go_bind (n := 3 * L.length) (m := 10 * L.length) (go_pairs L { s with heap := s.heap.push (dObj [] 0) }) (go_holding (go_map g rfl)))) rfl

/-! the merge of a chunk -/
theorem go_of_eq {α : Type} {x : Sem α} {a : α} (e : x = .pure a) : Go w 0 x s P a s P := by rw [e]; exact go_pure
theorem go_isDict {es : List DictEntry} {q : Nat} {c : Addr} (ho : s.heap.get? c = some (dObj es q)) : Go w 1 (isInstance (.ref c) (.type "dict")) s P true s P := by
  show Go w 1 (Sem.load c _ _) s P true s P
  refine go_load ho (go_of_eq ?_)
  kernel_rfl
theorem go_iterOf {es : List DictEntry} {q : Nat} {c : Addr} (ho : s.heap.get? c = some (dObj es q)) : Go w 1 (specialOf (.ref c) "__iter__") s P (some (.builtin "dict.__iter__")) s P := by
  show Go w 1 (Sem.load c _ _) s P _ s P
  refine go_load ho (go_of_eq ?_)
  kernel_rfl
theorem go_dictPut {es : List DictEntry} {q : Nat} {k : Int} {t u : Tok} {x : Str} (hd : Nat.ble 11 d = true) (ho : s.heap.get? d = some (dObj es q)) (hs : es.length < 1000000) (hn : ∀ e ∈ es, e.hash ≠ k) :
    Go w 4 (dictPut d k (.int k t) (.str x u)) s P () { s with heap := s.heap.update d fun _ => dObj (es ++ [⟨k, .int k t, .str x u⟩]) (q + 1) } P := by
  unfold dictPut
  exact go_bind (n := 1) (m := 3) (go_find ho hn) (go_put hd ho hs)
theorem go_merge1 {body : Nat → PUnit → Sem (ForInStep PUnit)} {c : Addr} {q' : Nat}
    (hb : ∀ i r, body i r = (dictEntries c).bind fun es => (match es[i]? with
      | some e => (holding [e.key, e.val] (dictPut d e.hash e.key e.val)).bind fun _ => (dictEpoch c).bind fun ep => if (ep != q') = true then (unsupported "dict.changed-during-merge").bind fun (_ : Unit) => .pure (.yield PUnit.unit) else .pure (.yield PUnit.unit)
      | none => unsupported "dict.changed-during-merge")) (hd : Nat.ble 11 d = true) (hcd : c ≠ d) {ce : List DictEntry} {lo hi : Int} (hce : ce.Pairwise fun a b => a.hash < b.hash) (hok : ∀ e ∈ ce, EntOk lo hi e) :
    ∀ (k i : Nat) (es : List DictEntry) (q : Nat) (s : Shared), i + k = ce.length → (∀ e ∈ es, ∀ e' ∈ ce.drop i, e.hash < e'.hash) → es.length + k < 1000000 → s.heap.get? d = some (dObj es q) → s.heap.get? c = some (dObj ce q') →
    Go w (6 * k) (forIn (List.range' i k) PUnit.unit body) s P PUnit.unit { s with heap := s.heap.update d fun _ => dObj (es ++ ce.drop i) (q + k) } P
  | 0, i, es, q, s, hi, _, _, ho, _ => by
    have e : ({ s with heap := s.heap.update d fun _ => dObj (es ++ ce.drop i) (q + 0) } : Shared) = s := shared_eta s (by rw [List.drop_of_length_le (by (first | lia | omega)), List.append_nil, Nat.add_zero]; exact upd_self ho) rfl
    rw [e]
    exact go_pure
  | k + 1, i, es, q, s, hi, hu, hl, ho, hc => by
    have hlt : i < ce.length := by (first | lia | omega)
    obtain ⟨j, t, x, u, e1, _⟩ := hok ce[i] (List.getElem_mem hlt)
    have hdr : ce.drop i = ⟨j, .int j t, .str x u⟩ :: ce.drop (i + 1) := by rw [List.drop_eq_getElem_cons hlt, e1]
    have hc2 : (s.heap.update d fun _ => dObj (es ++ [⟨j, .int j t, .str x u⟩]) (q + 1)).get? c = some (dObj ce q') := by rw [upd_get_ne (fun e => hcd e.symm)]; exact hc
    have hpw : (ce.drop i).Pairwise fun a b => a.hash < b.hash := hce.sublist (List.drop_sublist i ce)
    rw [hdr] at hpw
    obtain ⟨p1, p2⟩ := List.pairwise_cons.mp hpw
    have g3 := go_merge1 hb hd hcd hce hok k (i + 1) (es ++ [⟨j, .int j t, .str x u⟩]) (q + 1) { s with heap := s.heap.update d fun _ => dObj (es ++ [⟨j, .int j t, .str x u⟩]) (q + 1) } (by (first | lia | omega))
      (fun e he e' he' => by
        rcases List.mem_append.mp he with he | he
        · exact hu e he e' (by rw [hdr]; exact List.mem_cons_of_mem _ he')
        · simp at he; subst he; exact p1 e' he') (by simp at hl ⊢; (first | lia | omega)) (upd_get_same ho) hc2
    have e2 : ({ s with heap := s.heap.update d fun _ => dObj (es ++ ce.drop i) (q + (k + 1)) } : Shared)
      = { s with heap := (s.heap.update d fun _ => dObj (es ++ [⟨j, .int j t, .str x u⟩]) (q + 1)).update d fun _ => dObj (es ++ [⟨j, .int j t, .str x u⟩] ++ ce.drop (i + 1)) (q + 1 + k) } := by
      rw [upd_upd, List.append_assoc, hdr]
      have a1 : q + (k + 1) = q + 1 + k := by (first | lia | omega)
      rw [a1]; rfl
    rw [e2, List.range'_succ, List.forIn_cons, hb]
    have hg : ce.toArray[i]? = some (⟨j, .int j t, .str x u⟩ : DictEntry) := by rw [List.getElem?_toArray, List.getElem?_eq_getElem hlt, e1]
    refine go_n (n := 6 * k + 6) (by (first | lia | omega)) (go_bind (n := 6) (m := 6 * k) (a := ForInStep.yield PUnit.unit) (p₁ := P) (s₁ := { s with heap := s.heap.update d fun _ => dObj (es ++ [⟨j, .int j t, .str x u⟩]) (q + 1) }) (go_bind (n := 1) (m := 5) (go_entries hc) ?_) g3)
    rw [hg]
    refine go_bind (n := 4) (m := 1) (go_holding (go_dictPut hd ho (by (first | lia | omega)) fun e he => ?_)) (go_bind (n := 1) (m := 0) (go_epoch hc2) ?_)
    · have := hu e he _ (by rw [hdr]; exact List.mem_cons_self ..)
      exact Int.ne_of_lt this
    · rw [if_neg (by simp)]
      exact go_pure
end
end Mine
namespace Mine
open PySem PySem.W PySem.Calls PyProof.Rows
section
variable {w : World} {s s' : Shared} {P : Pos} {n : Nat} {d : Addr}
theorem go_merge {c : Addr} {q q' : Nat} {es ce : List DictEntry} {lo hi : Int} (hd : Nat.ble 11 d = true) (hcd : c ≠ d) (hsys : (c == sysModules) = false) (hne : es ≠ []) (hce : ce.Pairwise fun a b => a.hash < b.hash) (hok : ∀ e ∈ ce, EntOk lo hi e)
    (hu : Upto lo es) (hl : es.length + ce.length < 1000000) (ho : s.heap.get? d = some (dObj es q)) (hc : s.heap.get? c = some (dObj ce q')) :
    Go w (6 * ce.length + 5) (mergeMapping d (.ref c) false) s P () { s with heap := s.heap.update d fun _ => dObj (es ++ ce) (q + ce.length) } P := by
  have hq : (some (Value.builtin "dict.__iter__") == some (Value.builtin "dict.__iter__")) = true := by simp
  have g := go_merge1 (w := w) (P := P) (d := d) (c := c) (q' := q') (body := fun i _ => do
      let __do_lift ← dictEntries c
      match __do_lift[i]? with
        | some e => do
          holding [e.key, e.val] (dictPut d e.hash e.key e.val)
          let __do_lift ← dictEpoch c
          if (__do_lift != q') = true then do
              unsupported "dict.changed-during-merge"
              pure (ForInStep.yield PUnit.unit)
            else pure (ForInStep.yield PUnit.unit)
        | x => do
          unsupported "dict.changed-during-merge"
          pure (ForInStep.yield PUnit.unit)) (fun i r => by
        show (dictEntries c).bind _ = (dictEntries c).bind _
        congr 1; funext es
        cases es[i]? with
        | none => rfl
        | some e => rfl) hd hcd hce hok ce.length 0 es q s (by (first | lia | omega)) (fun e he e' he' => by
      obtain ⟨i, t, x, u, e1, e2, _⟩ := hok e' he'
      have := hu e he
      subst e1
      show e.hash < i
      (first | lia | omega)) hl ho hc
  rw [← List.range_eq_range'] at g
  unfold mergeMapping
  refine go_bind (n := 1) (m := 6 * ce.length + 4) (go_isDict hc) ?_
  refine go_bind (n := 1) (m := 6 * ce.length + 3) (go_iterOf hc) ?_
  rw [hq]
  show Go w (6 * ce.length + 3) (if (c == sysModules) = true then _ else _) s P () _ P
  rw [if_neg (by rw [hsys]; exact Bool.false_ne_true)]
  refine go_bind (n := 1) (m := 6 * ce.length + 2) (go_entries ho) ?_
  rw [if_neg (by simpa using hne)]
  refine go_bind (n := 1) (m := 6 * ce.length + 1) (go_entries hc) ?_
  refine go_bind (n := 1) (m := 6 * ce.length) (go_epoch hc) ?_
  show Go w (6 * ce.length) ((forIn (List.range ce.toArray.size) PUnit.unit _ : Sem PUnit).bind fun _ => .pure ()) s P () _ P
  rw [List.size_toArray]
  exact go_map g rfl

/-! the display -/
noncomputable def pushAll (h : Heap) (os : List Obj) : Heap := os.foldl Heap.push h
noncomputable def cnt : Nat → Nat
  | 0 => 19 * 4 + 6
  | c + 1 => cnt c + (19 * 17 + 7)
theorem entsL_pair : ∀ (L : List (Int × Str)) (t : Nat) (lo : Int), asc lo L = true → (entsL t L).Pairwise fun a b => a.hash < b.hash
  | [], _, _, _ => List.Pairwise.nil
  | (i, x) :: r, t, lo, h => by
    unfold asc at h
    simp only [Bool.and_eq_true, decide_eq_true_eq] at h
    refine List.pairwise_cons.mpr ⟨fun e he => ?_, entsL_pair r (t + 3) i h.2⟩
    obtain ⟨j, t', x', u, rfl, h1, _⟩ := entsL_ok h.2 e he
    exact h1
theorem entsS_pair : ∀ (L : List (Int × Str)) (t : Nat) (lo : Int), asc lo L = true → (entsS t L).Pairwise fun a b => a.hash < b.hash
  | [], _, _, _ => List.Pairwise.nil
  | (i, x) :: r, t, lo, h => by
    unfold asc at h
    simp only [Bool.and_eq_true, decide_eq_true_eq] at h
    refine List.pairwise_cons.mpr ⟨fun e he => ?_, entsS_pair r (t + 2) i h.2⟩
    obtain ⟨j, t', x', u, rfl, h1, _⟩ := entsS_ok h.2 e he
    exact h1
theorem merged_heap {h : Heap} {o o' : Obj} (hd : d < h.objs.size) : ((h.push o).update d fun _ => o') = (h.update d fun _ => o').push o := push_upd h o _ hd
theorem get_push_old {h : Heap} {o o' : Obj} (ho : h.get? d = some o) : (h.push o').get? d = some o := Heap.get?_push_of_some _ ho
theorem flush_long {L : List (Int × Str)} {lo : Int} {es : List DictEntry} {q : Nat} (hL : L.length = 17) (ha : asc lo L = true) (hu : Upto lo es) (hne : es ≠ []) (hl : es.length < 900000) (hd : Nat.ble 11 d = true) (ho : s.heap.get? d = some (dObj es q)) :
    Go w (19 * 17 + 7) (dFlush (L.map (mk1 P)) (some d)) s P d { s with heap := (s.heap.update d fun _ => dObj (es ++ entsL s.toks L) (q + 17)).push (dObj (entsL s.toks L) 17), toks := s.toks + 51 } P := by
  have hlt := get_lt ho
  have h11 : 11 ≤ s.heap.objs.size := Nat.le_of_lt (Nat.lt_of_le_of_lt (Nat.le_of_ble_eq_true hd) hlt)
  have g1 := sub_long (w := w) (P := P) (s := s) (L := L) (by (first | lia | omega)) (by (first | lia | omega)) ha h11
  rw [hL] at g1
  have g2 := go_merge (w := w) (P := P) (d := d) (c := s.heap.objs.size) (s := { s with heap := s.heap.push (dObj (entsL s.toks L) 17), toks := s.toks + 51 }) (ce := entsL s.toks L) (q' := 17) hd (Nat.ne_of_gt hlt)
    (by rw [beq_eq_false_iff_ne]; intro e; rw [e] at h11; exact absurd h11 (by decide)) hne (entsL_pair L _ lo ha) (entsL_ok ha) hu (by rw [entsL_length]; (first | lia | omega)) (get_push_old ho) (push_get_last _ _ _)
  rw [entsL_length, hL, merged_heap hlt] at g2
  show Go w (19 * 17 + 7) ((holding [.ref d] (subDict (L.map (mk1 P)))).bind fun sub => (dMerge d sub).bind fun _ => .pure d) s P d _ P
  exact go_bind (n := 13 * 17 + 1 + 1) (m := 6 * 17 + 5) (go_holding g1) (go_map (go_onRaise (go_holding g2)) rfl)
theorem flush_short {L : List (Int × Str)} {lo : Int} {es : List DictEntry} {q : Nat} (hL : L.length = 4) (ha : asc lo L = true) (hu : Upto lo es) (hne : es ≠ []) (hl : es.length < 900000) (hd : Nat.ble 11 d = true) (ho : s.heap.get? d = some (dObj es q)) :
    Go w (19 * 4 + 6) (dFlush (L.map (mk1 P)) (some d)) s P d { s with heap := (s.heap.update d fun _ => dObj (es ++ entsS s.toks L) (q + 4)).push (dObj (entsS s.toks L) 4), toks := s.toks + 12 } P := by
  have hlt := get_lt ho
  have h11 : 11 ≤ s.heap.objs.size := Nat.le_of_lt (Nat.lt_of_le_of_lt (Nat.le_of_ble_eq_true hd) hlt)
  have g1 := sub_short (w := w) (P := P) (s := s) (L := L) (by (first | lia | omega)) ha h11
  rw [hL] at g1
  have g2 := go_merge (w := w) (P := P) (d := d) (c := s.heap.objs.size) (s := { s with heap := s.heap.push (dObj (entsS s.toks L) 4), toks := s.toks + 12 }) (ce := entsS s.toks L) (q' := 4) hd (Nat.ne_of_gt hlt)
    (by rw [beq_eq_false_iff_ne]; intro e; rw [e] at h11; exact absurd h11 (by decide)) hne (entsS_pair L _ lo ha) (entsS_ok ha) hu (by rw [entsS_length]; (first | lia | omega)) (get_push_old ho) (push_get_last _ _ _)
  rw [entsS_length, hL, merged_heap hlt] at g2
  show Go w (19 * 4 + 6) ((holding [.ref d] (subDict (L.map (mk1 P)))).bind fun sub => (dMerge d sub).bind fun _ => .pure d) s P d _ P
  exact go_bind (n := 10 * 4 + 3 * 4 + 1) (m := 6 * 4 + 5) (go_holding g1) (go_map (go_onRaise (go_holding g2)) rfl)
theorem rest_go (hd : Nat.ble 11 d = true) : ∀ (c : Nat) (L : List (Int × Str)) (lo : Int) (es : List DictEntry) (q : Nat) (s : Shared), L.length = 17 * c + 4 → asc lo L = true → Upto lo es → es ≠ [] → es.length + L.length < 900000 → s.heap.get? d = some (dObj es q) →
    Go w (cnt c) ((forIn ((L.map (mk1 P)).map some1) ((some d, []) : DSt) dBody).bind dFin) s P (.ref d) { s with heap := pushAll (s.heap.update d fun _ => dObj (es ++ allE c s.toks L) (q + L.length)) (chunkO c s.toks L), toks := s.toks + 3 * L.length } P
  | 0, L, lo, es, q, s, hL, ha, hu, hne, hl, ho => by
    rw [chunk_short _ _ (by simp; (first | lia | omega))]
    show Go w (cnt 0) (dFin (some d, [] ++ L.map (mk1 P))) s P _ _ P
    rw [List.nil_append, flush_eq (by cases L with | nil => simp at hL | cons _ _ => rfl)]
    have hL : L.length = 4 := by (first | lia | omega)
    have g := flush_short (w := w) (P := P) hL ha hu hne (by (first | lia | omega)) hd ho
    have e : ({ s with heap := pushAll (s.heap.update d fun _ => dObj (es ++ allE 0 s.toks L) (q + L.length)) (chunkO 0 s.toks L), toks := s.toks + 3 * L.length } : Shared) = { s with heap := (s.heap.update d fun _ => dObj (es ++ entsS s.toks L) (q + 4)).push (dObj (entsS s.toks L) 4), toks := s.toks + 12 } := by
      unfold chunkO
      rw [hL]; rfl
    rw [e]
    exact go_map g rfl
  | c + 1, L, lo, es, q, s, hL, ha, hu, hne, hl, ho => by
    have h17 : (L.take 17).length = 17 := by rw [List.length_take]; (first | lia | omega)
    have hsp : L.take 17 ++ L.drop 17 = L := List.take_append_drop 17 L
    rw [← hsp] at ha
    obtain ⟨a1, a2⟩ := asc_append ha
    have g := flush_long (w := w) (P := P) h17 a1 hu hne (by (first | lia | omega)) hd ho
    have hlt := get_lt ho
    have g3 := rest_go hd c (L.drop 17) (lastK lo (L.take 17)) (es ++ entsL s.toks (L.take 17)) (q + 17) { s with heap := (s.heap.update d fun _ => dObj (es ++ entsL s.toks (L.take 17)) (q + 17)).push (dObj (entsL s.toks (L.take 17)) 17), toks := s.toks + 51 } (by rw [List.length_drop]; (first | lia | omega)) a2
      (fun e he => by
        rcases List.mem_append.mp he with he | he
        · have := hu e he
          have := asc_le a1
          (first | lia | omega)
        · obtain ⟨i, t, x, u, rfl, h1, h2, _⟩ := entsL_ok a1 e he
          exact h2) (by simp [hne]) (by rw [List.length_append, entsL_length, h17, List.length_drop]; (first | lia | omega)) (get_push_old (upd_get_same ho))
    have e : ({ s with heap := pushAll (s.heap.update d fun _ => dObj (es ++ allE (c + 1) s.toks L) (q + L.length)) (chunkO (c + 1) s.toks L), toks := s.toks + 3 * L.length } : Shared) =
        { s with heap := pushAll (((s.heap.update d fun _ => dObj (es ++ entsL s.toks (L.take 17)) (q + 17)).push (dObj (entsL s.toks (L.take 17)) 17)).update d fun _ => dObj (es ++ entsL s.toks (L.take 17) ++ allE c (s.toks + 51) (L.drop 17)) (q + 17 + (L.drop 17).length)) (chunkO c (s.toks + 51) (L.drop 17)), toks := s.toks + 51 + 3 * (L.drop 17).length } := by
      rw [push_upd _ _ _ (by rw [upd_size]; exact hlt), upd_upd, List.append_assoc]
      have b1 : q + L.length = q + 17 + (L.drop 17).length := by rw [List.length_drop]; (first | lia | omega)
      have b2 : s.toks + 3 * L.length = s.toks + 51 + 3 * (L.drop 17).length := by rw [List.length_drop]; (first | lia | omega)
      rw [b1, b2]; rfl
    rw [e]
    have hm : (L.map (mk1 P)).map some1 = ((L.take 17).map (mk1 P)).map some1 ++ ((L.drop 17).map (mk1 P)).map some1 := by
      rw [← List.map_append, ← List.map_append, hsp]
    rw [hm, chunk_eq _ _ (by rw [Ne, List.map_eq_nil_iff]; intro q; rw [q] at h17; cases h17) (by simp; (first | lia | omega)), Sem.bind_assoc, List.nil_append]
    exact go_bind (n := 19 * 17 + 7) (m := cnt c) g g3
theorem display_go {c : Nat} {L : List (Int × Str)} {lo : Int} (hL : L.length = 17 * (c + 1) + 4) (ha : asc lo L = true) (hl : L.length < 900000) (h11 : 11 ≤ s.heap.objs.size) :
    Go w (cnt c + (13 * 17 + 2)) (dictDisplay ((L.map (mk1 P)).map some1)) s P (.ref s.heap.objs.size) { s with heap := pushAll (s.heap.push (dObj (allE (c + 1) s.toks L) L.length)) (chunkO c (s.toks + 51) (L.drop 17)), toks := s.toks + 3 * L.length } P := by
  have h17 : (L.take 17).length = 17 := by rw [List.length_take]; (first | lia | omega)
  have hsp : L.take 17 ++ L.drop 17 = L := List.take_append_drop 17 L
  rw [← hsp] at ha
  obtain ⟨a1, a2⟩ := asc_append ha
  have g1 := sub_long (w := w) (P := P) (s := s) (L := L.take 17) (by (first | lia | omega)) (by (first | lia | omega)) a1 h11
  rw [h17] at g1
  have g3 := rest_go (w := w) (P := P) (d := s.heap.objs.size) (Nat.ble_eq_true_of_le h11) c (L.drop 17) (lastK lo (L.take 17)) (entsL s.toks (L.take 17)) 17 { s with heap := s.heap.push (dObj (entsL s.toks (L.take 17)) 17), toks := s.toks + 51 } (by rw [List.length_drop]; (first | lia | omega)) a2
    (fun e he => by
      obtain ⟨i, t, x, u, rfl, h1, h2, _⟩ := entsL_ok a1 e he
      exact h2) (by intro q; have := congrArg List.length q; rw [entsL_length, h17] at this; cases this) (by rw [entsL_length, h17, List.length_drop]; (first | lia | omega)) (push_get_last _ _ _)
  have e : ({ s with heap := pushAll (s.heap.push (dObj (allE (c + 1) s.toks L) L.length)) (chunkO c (s.toks + 51) (L.drop 17)), toks := s.toks + 3 * L.length } : Shared) =
      { s with heap := pushAll ((s.heap.push (dObj (entsL s.toks (L.take 17)) 17)).update s.heap.objs.size fun _ => dObj (entsL s.toks (L.take 17) ++ allE c (s.toks + 51) (L.drop 17)) (17 + (L.drop 17).length)) (chunkO c (s.toks + 51) (L.drop 17)), toks := s.toks + 51 + 3 * (L.drop 17).length } := by
    rw [push_upd_last]
    have b1 : L.length = 17 + (L.drop 17).length := by rw [List.length_drop]; (first | lia | omega)
    have b2 : s.toks + 3 * L.length = s.toks + 51 + 3 * (L.drop 17).length := by rw [List.length_drop]; (first | lia | omega)
    rw [b2, ← b1]; rfl
  rw [e, disp_eq]
  have hm : (L.map (mk1 P)).map some1 = ((L.take 17).map (mk1 P)).map some1 ++ ((L.drop 17).map (mk1 P)).map some1 := by
    rw [← List.map_append, ← List.map_append, hsp]
  rw [hm, chunk_eq _ _ (by rw [Ne, List.map_eq_nil_iff]; intro q; rw [q] at h17; cases h17) (by simp; (first | lia | omega))]
  show Go w _ (((dFlush ([] ++ (L.take 17).map (mk1 P)) none).bind _).bind _) s P _ _ P
  rw [Sem.bind_assoc, List.nil_append]
  exact go_bind (n := 13 * 17 + 2) (m := cnt c) g1 g3
end
end Mine
namespace Mine
open PySem PySem.W PySem.Calls PyProof.Rows
/-- the table's statement: its targets, keys, values, positions -/
noncomputable def q20 : List Expr × List (Option Expr) × List Expr × Pos × Pos := match (pw.main.body[20]? : Option PySem.Stmt) with
  | some (.Assign ts (.Dict ks vs p2) p1) => (ts, ks, vs, p2, p1)
  | _ => default
noncomputable abbrev st20 : PySem.Stmt := .Assign q20.1 (.Dict q20.2.1 q20.2.2.1 q20.2.2.2.1) q20.2.2.2.2
noncomputable abbrev P20 : Pos := q20.2.2.2.1
theorem body20 : pw.main.body = pw.main.body.take 20 ++ st20 :: pw.main.body.drop 21 := by kernel_rfl
noncomputable def asgSig (ts : List Expr) (ks : List (Option Expr)) (vs : List Expr) (p2 p1 : Pos) (env : Env) : Σ' (X : Sem Flow) (R : Value → Sem Flow), exec (.Assign ts (.Dict ks vs p2) p1) env = (Sem.at p1 fun _ => .pure ()).bind fun _ => (swapsWithSole ts (.Dict ks vs p2) p1.line env).bind fun b => if b = true then X else
    (eval (.Dict ks vs p2) env).bind R := ⟨_, _, rfl⟩
noncomputable abbrev R20 := (asgSig q20.1 q20.2.1 q20.2.2.1 q20.2.2.2.1 q20.2.2.2.2 envT).2.1
theorem items20 : ((evalEachOpt q20.2.1 envT).zip ((evalEach q20.2.2.1 envT).map fun v => v.bind fun x => .at P20 fun _ => .pure x)) = (b3pairs.map (mk1 P20)).map some1 := by kernel_rfl
theorem b3asc : asc 0 b3pairs = true := by kernel_rfl
theorem b3len : b3pairs.length = 17 * (37 + 1) + 4 := by kernel_rfl
theorem swaps20 : swapsWithSole q20.1 (.Dict q20.2.1 q20.2.2.1 P20) q20.2.2.2.2.line envT = .pure false := by kernel_rfl
noncomputable def insAll (T : BT) (n : Nat) : List Obj → BT
  | [] => T
  | o :: os => insAll (T.ins n o) (n + 1) os
noncomputable def insOk (T : BT) (n : Nat) : List Obj → Bool
  | [] => true
  | o :: os => ((T.ins n o).get n).isSome && insOk (T.ins n o) (n + 1) os
theorem abs_pushAll {life : Life} : ∀ (os : List Obj) (T : BT) (n : Nat), insOk T n os = true → pushAll (absHeap T n life) os = absHeap (insAll T n os) (n + os.length) life
  | [], T, n, _ => rfl
  | o :: os, T, n, h => by
    obtain ⟨h1, h2⟩ := Bool.and_eq_true_iff.mp h
    show pushAll ((absHeap T n life).push o) os = absHeap (insAll (T.ins n o) (n + 1) os) (n + (os.length + 1)) life
    rw [← absHeap_ins h1, abs_pushAll os _ _ h2, show n + 1 + os.length = n + (os.length + 1) by (first | lia | omega)]
noncomputable abbrev objs20 : List Obj := dObj (allE 38 409 b3pairs) 650 :: chunkO 37 460 (b3pairs.drop 17)
theorem ins20 (w : World) : insOk (T19 w.params) 140 objs20 = true := by kernel_rfl
noncomputable abbrev SM_ (w : World) (os : OsState) : SharedT := ⟨insAll (T19 w.params) 140 objs20, 179, {}, #[], {}, 2359, os⟩
theorem pieceR (w : World) : (fun os => segRunT treeTable pw w 11 (some (.ref 6)) 1 40 (SM_ w os) ⟨(R20 (.ref 140)).wrap doneF deadEnd id id, codeT, P20, top0⟩) = fun os => some (.next, S20_ w os, codeT, ⟨84, 0, 84, 13⟩) := by kernel_rfl
theorem chunkO_length : ∀ (c t : Nat) (L : List (Int × Str)), (chunkO c t L).length = c + 1
  | 0, _, _ => rfl
  | c + 1, t, L => congrArg (· + 1) (chunkO_length c (t + 51) (L.drop 17))
theorem pushAll_cons {h : Heap} {o : Obj} {os : List Obj} : pushAll h (o :: os) = pushAll (h.push o) os := rfl
theorem mid_gen {T : BT} {L : List (Int × Str)} {os : OsState} (hL : L.length = 650) (hi : insOk T 140 (dObj (allE 38 409 L) 650 :: chunkO 37 460 (L.drop 17)) = true) :
    (⟨pushAll ((absHeap T 140 {}).push (dObj (allE 38 409 L) L.length)) (chunkO 37 460 (L.drop 17)), #[], {}, 409 + 3 * L.length, os⟩ : Shared) = ⟨absHeap (insAll T 140 (dObj (allE 38 409 L) 650 :: chunkO 37 460 (L.drop 17))) 179 {}, #[], {}, 2359, os⟩ := by
  have h := abs_pushAll (life := {}) _ T 140 hi
  rw [List.length_cons, chunkO_length, pushAll_cons] at h
  have h' : pushAll ((absHeap T 140 {}).push (dObj (allE 38 409 L) 650)) (chunkO 37 460 (L.drop 17)) = absHeap (insAll T 140 (dObj (allE 38 409 L) 650 :: chunkO 37 460 (L.drop 17))) 179 {} := h
  rw [hL, h']
theorem disp_gen {w : World} {P : Pos} {T : BT} {L : List (Int × Str)} {os : OsState} (hL : L.length = 17 * (37 + 1) + 4) (ha : asc 0 L = true) (hi : insOk T 140 (dObj (allE 38 409 L) 650 :: chunkO 37 460 (L.drop 17)) = true) :
    Go w (cnt 37 + (13 * 17 + 2)) (dictDisplay ((L.map (mk1 P)).map some1)) ⟨absHeap T 140 {}, #[], {}, 409, os⟩ P (.ref 140) ⟨absHeap (insAll T 140 (dObj (allE 38 409 L) 650 :: chunkO 37 460 (L.drop 17))) 179 {}, #[], {}, 2359, os⟩ P := by
  have g := display_go (w := w) (P := P) (s := ⟨absHeap T 140 {}, #[], {}, 409, os⟩) (c := 37) (L := L) hL ha (by (first | lia | omega)) (by show 11 ≤ (absHeap T 140 {}).objs.size; rw [absHeap_size]; decide)
  have hsz : (absHeap T 140 {}).objs.size = 140 := absHeap_size ..
  rw [← mid_gen (by (first | lia | omega)) hi]
  dsimp only at g
  rw [hsz] at g
  exact g
theorem g20 (w : World) (os : OsState) : Go w (cnt 37 + (13 * 17 + 2)) (dictDisplay ((b3pairs.map (mk1 P20)).map some1)) (S19_ w os).abs P20 (.ref 140) (SM_ w os).abs P20 := by
  have h1 := b3len
  have h2 := b3asc
  have h3 := ins20 w
  unfold objs20 at h3
  unfold SharedT.abs SM_ S19_ objs20
  dsimp only
  generalize T19 w.params = T at *
  generalize b3pairs = L at *
  exact disp_gen h1 h2 h3
theorem go20_gen {w : World} {env : Env} {ts vs : List Expr} {ks : List (Option Expr)} {p2 p1 p0 pe : Pos} {s sm se : Shared} {n : Nat} {items : List DItem} {v : Value} {X : Sem Flow} {R : Value → Sem Flow}
    (hE : exec (.Assign ts (.Dict ks vs p2) p1) env = (Sem.at p1 fun _ => .pure ()).bind fun _ => (swapsWithSole ts (.Dict ks vs p2) p1.line env).bind fun b => if b = true then X else (eval (.Dict ks vs p2) env).bind R) (hsw : swapsWithSole ts (.Dict ks vs p2) p1.line env = .pure false)
    (hit : (evalEachOpt ks env).zip ((evalEach vs env).map fun v => v.bind fun x => .at p2 fun _ => .pure x) = items) (g : Go w n (dictDisplay items) s p2 v sm p2)
    (hR : segRun treeTable pw w 11 (some (.ref 6)) 1 40 sm ⟨(R v).wrap doneF deadEnd id id, codeT, p2, top0⟩ = some (.next, se, codeT, pe))
    {rest : List PySem.Stmt} {N : Nat} {r : Shared} (k : topRun treeTable pw w 11 (some (.ref 6)) N se (restOf rest env codeT pe top0) = some r) :
    topRun treeTable pw w 11 (some (.ref 6)) (40 + N + (n + 2)) s (restOf (.Assign ts (.Dict ks vs p2) p1 :: rest) env codeT p0 top0) = some r := by
  obtain ⟨a, ha, hN⟩ := seg_top (res := id) (K' := fun f => match f with | .next => (execs rest env).wrap doneF (leaveH env) id id | f => doneF f) (H' := leaveH env) (B := top0) rfl 40 sm ⟨(R v).wrap doneF deadEnd id id, codeT, p2, top0⟩
    ⟨(R v).wrap (fun f => match f with | .next => (execs rest env).wrap doneF (leaveH env) id id | f => doneF f) (leaveH env) id id, codeT, p2, top0⟩ _ _ _ _ ⟨rfl, rfl, .inl ⟨rfl, rfl, _, rfl, rfl⟩⟩ hR
  obtain rfl : a = .next := ha
  have k2 := hN N r k
  have hx : Go w (n + 2) ((Sem.at p1 fun _ => .pure ()).bind fun _ => (swapsWithSole ts (.Dict ks vs p2) p1.line env).bind fun _ => eval (.Dict ks vs p2) env) s p0 v sm p2 := by
    refine go_bind (n := 1) (m := n + 1) (go_at go_pure) ?_
    rw [hsw]
    show Go w (n + 1) (Sem.at p2 fun _ => dictDisplay ((evalEachOpt ks env).zip ((evalEach vs env).map fun v => v.bind fun x => .at p2 fun _ => .pure x))) _ _ _ _ _
    rw [hit]
    exact go_at g
  have hk := hx (fun v => (R v).wrap (fun f => match f with | .next => (execs rest env).wrap doneF (leaveH env) id id | f => doneF f) (leaveH env) id id) (leaveH env) id id (40 + N) r k2
  unfold restOf
  rw [execs_cons_wrap, hE]
  rw [hsw] at hk ⊢
  have e : ((Sem.at p1 fun _ => .pure ()).bind fun _ => (Sem.pure false).bind fun b => if b = true then X else (eval (.Dict ks vs p2) env).bind R)
      = ((Sem.at p1 fun _ => .pure ()).bind fun _ => (Sem.pure false).bind fun _ => eval (.Dict ks vs p2) env).bind R := by
    rw [Sem.bind_assoc]; rfl
  rw [e, Sem.bind_eq_wrap _ R, Sem.wrap_wrap]
  exact hk
theorem go20 (w : World) (os : OsState) {rest : List PySem.Stmt} {N : Nat} {r : Shared} (k : topRun treeTable pw w 11 (some (.ref 6)) N (S20_ w os).abs (restOf rest envT codeT ⟨84, 0, 84, 13⟩ top0) = some r) :
    topRun treeTable pw w 11 (some (.ref 6)) (40 + N + (cnt 37 + (13 * 17 + 2) + 2)) (S19_ w os).abs (restOf (st20 :: rest) envT codeT ⟨82, 0, 83, 30⟩ top0) = some r :=
  go20_gen (w := w) (env := envT) (ts := q20.1) (ks := q20.2.1) (vs := q20.2.2.1) (p2 := P20) (p1 := q20.2.2.2.2) (p0 := ⟨82, 0, 83, 30⟩) (pe := ⟨84, 0, 84, 13⟩) (s := (S19_ w os).abs) (sm := (SM_ w os).abs) (se := (S20_ w os).abs) (v := .ref 140) (asgSig q20.1 q20.2.1 q20.2.2.1 q20.2.2.2.1 q20.2.2.2.2 envT).2.2 swaps20 items20 (g20 w os) (segRun_of (congrFun (pieceR w) os)) k
end Mine

namespace Mine
open PySem PySem.W PySem.Calls PyProof.Rows
theorem pre_run (w : World) : (fun os => topGo treeTable pw w 11 (some (.ref 6)) 12 ⟨boot_heap w.params, #[], boot_drawn, boot_toks, os⟩ (topStub pw)) = fun os => some ((SB_ w os).abs, ⟨denote treeTable codeT, codeT, ⟨0, 0, 0, 0⟩, top0⟩) := by kernel_rfl
theorem block_run (w : World) : (fun os => segRun treeTable pw w 11 (some (.ref 6)) 1 1 (SB_ w os).abs (blockOf pw.main.body envT codeT ⟨0, 0, 0, 0⟩ top0)) = fun os => some (.next, (SB_ w os).abs, codeT, ⟨0, 0, 0, 0⟩) := by kernel_rfl
theorem fin_run (w : World) : (fun os => topRun treeTable pw w 11 (some (.ref 6)) 2 (S25_ w os).abs ⟨doneF .next, codeT, ⟨110, 0, 187, 15⟩, top0⟩) = fun os => some (S25_ w os).abs := by kernel_rfl
theorem body_eq : pw.main.body = stmts 0 5 ++ (stmts 5 4 ++ (stmts 9 5 ++ (stmts 14 4 ++ (stmts 18 1 ++ (stmts 19 1 ++ (st20 :: (stmts 21 5 ++ []))))))) := by kernel_rfl
section
variable {w : World} {os : OsState}
theorem seg_app {n N : Nat} {s s' : SharedT} {r : Shared} {l rest : List PySem.Stmt} {p p' : Pos} (h : segRunT treeTable pw w 11 (some (.ref 6)) 1 n s (piecesOf l envT codeT p top0) = some (.next, s', codeT, p'))
    (k : topRun treeTable pw w 11 (some (.ref 6)) N s'.abs (restOf rest envT codeT p' top0) = some r) : topRun treeTable pw w 11 (some (.ref 6)) (n + N) s.abs (restOf (l ++ rest) envT codeT p top0) = some r := piece_app (segRun_of h) k
theorem body_run : topRun treeTable pw w 11 (some (.ref 6)) (258 + (471 + (151 + (104 + (999 + (30 + (40 + (133 + 2) + (cnt 37 + (13 * 17 + 2) + 2)))))))) (SB_ w os).abs
    (restOf (stmts 0 5 ++ (stmts 5 4 ++ (stmts 9 5 ++ (stmts 14 4 ++ (stmts 18 1 ++ (stmts 19 1 ++ (st20 :: (stmts 21 5 ++ [])))))))) envT codeT ⟨0, 0, 0, 0⟩ top0) = some (S25_ w os).abs :=
  seg_app (congrFun (piece_4 w) os) (seg_app (congrFun (piece_8 w) os) (seg_app (congrFun (piece_13 w) os) (seg_app (congrFun (piece_17 w) os) (seg_app (congrFun (piece_18 w) os) (seg_app (congrFun (piece_19 w) os)
    (go20 w os (seg_app (congrFun (piece_25 w) os) (piece_nil (congrFun (fin_run w) os)))))))))
noncomputable def topSteps : Nat := 12 + (1 + (258 + (471 + (151 + (104 + (999 + (30 + (40 + (133 + 2) + (cnt 37 + (13 * 17 + 2) + 2)))))))))
theorem top_run : topRun treeTable pw w 11 (some (.ref 6)) topSteps ⟨boot_heap w.params, #[], boot_drawn, boot_toks, os⟩ (topStub pw) = some (S25_ w os).abs := by
  refine go_top (congrFun (pre_run w) os) (piece_block (congrFun (block_run w) os) ?_)
  rw [body_eq]
  exact body_run
end
/-- the law alone -/
noncomputable def qv : Program := { pw with main := { pw.main with body := stmts 25 1 } }
noncomputable def looseV : List Str := ["ELLIPSIS_MARKER", "_ellipsis_match", "Error", "error_reply", "error_proto", "parse229", "lt", "gt", "add", "mod", "mul", "sub", "countOf", "indexOf", "b1_set", "in_table_b1", "b3_exceptions", "map_table_b3", "_law_reply", "_law_typed"]
theorem left_ok : LeftO pw qv looseV (fun _ => true) (fun s => (s.heap, s.toks)) (fun w => (absHeap (T25 w.params) 205 {}, 2399)) 20000 true :=
  LeftO.of_pieces (H₀ := boot_heap) (H₁ := fun P => absHeap (T25 P) 205 {}) (gs₀ := #[]) (gs₁ := #[]) (d₀ := boot_drawn) (d₁ := {}) (k₀ := boot_toks) (k₁ := 2399) (m₀ := 11) (ann := some (.ref 6)) (M := topSteps)
    (boot_open (by kernel_rfl) (by kernel_rfl) (fun s => by kernel_rfl)) (fun w => by kernel_rfl) (fun w os => top_run) (by kernel_rfl) (fun w => by kernel_rfl)
end Mine
namespace Mine
open PySem PySem.Calls PyProof.Rows
theorem no_some {α : Type} {a : α} {P : Prop} (h : none = some a) : P := nomatch h

/-! the relation between the abstract and the concrete state -/
noncomputable def L2 {α β : Type} (R : α → β → Prop) : List α → List β → Prop
  | [], [] => True
  | a :: l, b :: r => R a b ∧ L2 R l r
  | _, _ => False
section
variable {α β : Type} {R R' : α → β → Prop}
theorem L2.length : ∀ {l : List α} {r : List β}, L2 R l r → l.length = r.length
  | [], [], _ => rfl
  | _ :: l, _ :: r, h => congrArg (· + 1) (L2.length (l := l) (r := r) h.2)
  | [], _ :: _, h => h.elim
  | _ :: _, [], h => h.elim
theorem L2.mono (hR : ∀ a b, R a b → R' a b) : ∀ {l : List α} {r : List β}, L2 R l r → L2 R' l r
  | [], [], _ => trivial
  | _ :: _, _ :: _, h => ⟨hR _ _ h.1, L2.mono hR h.2⟩
  | [], _ :: _, h => h.elim
  | _ :: _, [], h => h.elim
theorem L2.get : ∀ {l : List α} {r : List β} {i : Nat} {a : α}, L2 R l r → l[i]? = some a → ∃ b, r[i]? = some b ∧ R a b
  | [], [], _, _, _, e => by simp at e
  | x :: l, y :: r, 0, a, h, e => by
    simp at e; subst e
    exact ⟨y, by simp, h.1⟩
  | x :: l, y :: r, i + 1, a, h, e => by
    simp at e
    obtain ⟨b, h1, h2⟩ := L2.get (l := l) (r := r) h.2 e
    exact ⟨b, by simpa using h1, h2⟩
  | [], _ :: _, _, _, h, _ => h.elim
  | _ :: _, [], _, _, h, _ => h.elim
theorem L2.append : ∀ {l l' : List α} {r r' : List β}, L2 R l r → L2 R l' r' → L2 R (l ++ l') (r ++ r')
  | [], _, [], _, _, h' => h'
  | _ :: _, _, _ :: _, _, h, h' => ⟨h.1, L2.append h.2 h'⟩
  | [], _, _ :: _, _, h, _ => h.elim
  | _ :: _, _, [], _, h, _ => h.elim
theorem L2.snoc {l : List α} {r : List β} {a : α} {b : β} (h : L2 R l r) (h' : R a b) : L2 R (l ++ [a]) (r ++ [b]) := h.append ⟨h', trivial⟩
theorem L2.eraseIdx : ∀ {l : List α} {r : List β} (i : Nat), L2 R l r → L2 R (l.eraseIdx i) (r.eraseIdx i)
  | [], [], _, _ => trivial
  | _ :: _, _ :: _, 0, h => h.2
  | _ :: _, _ :: _, i + 1, h => ⟨h.1, L2.eraseIdx i h.2⟩
  | [], _ :: _, _, h => h.elim
  | _ :: _, [], _, h => h.elim
theorem L2.pick : ∀ {l : List α} {r : List β}, L2 R l r → ∀ (ks : List Nat), L2 R (ks.filterMap (l[·]?)) (ks.filterMap (r[·]?))
  | _, _, _, [] => trivial
  | l, r, h, k :: ks => by
    rw [List.filterMap_cons, List.filterMap_cons]
    cases e : l[k]? with
    | none =>
      have : r[k]? = none := by rw [List.getElem?_eq_none_iff] at e ⊢; rw [← h.length]; exact e
      rw [this]; exact h.pick ks
    | some a =>
      obtain ⟨b, e', hb⟩ := h.get e
      rw [e']; exact ⟨hb, h.pick ks⟩
end

/-- the ghost: where the lists of the store lie; which int a token stands for -/
structure Gh where
  ad : List Addr
  bk : Tok → Option Int

/-- an atom stands for a value -/
noncomputable def AR (bk : Tok → Option Int) : A0 → Value → Prop
  | .none, v => v = .none
  | .bool b, v => v = .bool b
  | .int i own, v => ∃ t, v = .int i t ∧ (own = true → bk t = some i)
  | .str x, v => (∃ t, v = .str x t) ∧ x.length ≤ lim
/-- an item of a list: an atom, or a tuple of atoms -/
noncomputable def IR (bk : Tok → Option Int) (h : Heap) : V → Value → Prop
  | .a0 a, v => AR bk a v
  | .tup l, v => ∃ p vals, v = .ref p ∧ IsTup h p vals ∧ L2 (AR bk) l vals.toList ∧ l.length ≤ 8
  | .lst _, _ => False
noncomputable def VR (g : Gh) (h : Heap) : V → Value → Prop
  | .lst n, v => ∃ p, g.ad[n]? = some p ∧ v = .ref p
  | .a0 a, v => AR g.bk a v
  | .tup l, v => ∃ p vals, v = .ref p ∧ IsTup h p vals ∧ L2 (AR g.bk) l vals.toList ∧ l.length ≤ 8
theorem IR.vr {g : Gh} {h : Heap} {a : V} {v : Value} (x : IR g.bk h a v) : VR g h a v := by
  cases a with
  | a0 => exact x
  | tup => exact x
  | lst => exact x.elim
theorem VR.ir {g : Gh} {h : Heap} {a : V} {v : Value} (x : VR g h a v) (hn : ∀ n, a ≠ .lst n) : IR g.bk h a v := by
  cases a with
  | a0 => exact x
  | tup => exact x
  | lst n => exact (hn n rfl).elim

noncomputable abbrev KeepsH (h h' : Heap) : Prop := ∀ b o, h.get? b = some o → h'.get? b = some o
noncomputable abbrev BkLe (b b' : Tok → Option Int) : Prop := ∀ t i, b t = some i → b' t = some i
theorem AR.grow {b b' : Tok → Option Int} {a : A0} {v : Value} (x : AR b a v) (k : BkLe b b') : AR b' a v := by
  cases a with
  | int i own => obtain ⟨t, e, h⟩ := x; exact ⟨t, e, fun o => k _ _ (h o)⟩
  | none => exact x
  | bool => exact x
  | str => exact x
theorem IR.grow {b b' : Tok → Option Int} {h h' : Heap} {a : V} {v : Value} (x : IR b h a v) (k : KeepsH h h') (kb : BkLe b b') : IR b' h' a v := by
  cases a with
  | a0 => exact AR.grow x kb
  | tup l => obtain ⟨p, vals, e, t, r, r'⟩ := x; exact ⟨p, vals, e, t.keeps k, r.mono fun _ _ y => y.grow kb, r'⟩
  | lst => exact x
theorem VR.grow {g g' : Gh} {h h' : Heap} {a : V} {v : Value} (x : VR g h a v) (k : KeepsH h h') (kb : BkLe g.bk g'.bk) (e : ∃ ps, g'.ad = g.ad ++ ps) : VR g' h' a v := by
  cases a with
  | a0 => exact AR.grow x kb
  | tup l => obtain ⟨p, vals, e, t, r, r'⟩ := x; exact ⟨p, vals, e, t.keeps k, r.mono fun _ _ y => y.grow kb, r'⟩
  | lst n =>
    obtain ⟨p, hp, hv⟩ := x
    obtain ⟨ps, e⟩ := e
    exact ⟨p, by rw [e, List.getElem?_append_left]; exact hp; exact (List.getElem?_eq_some_iff.mp hp).1, hv⟩

/-- the book of tokens is sound -/
structure Book (bk : Tok → Option Int) (k : Nat) : Prop where
  pos : 0 < k
  low : ∀ t i, bk t = some i → t ≠ 0 ∧ t < k
theorem Book.up {bk : Tok → Option Int} {k k' : Nat} (b : Book bk k) (h : k ≤ k') : Book bk k' := ⟨Nat.lt_of_lt_of_le b.pos h, fun t i e => ⟨(b.low t i e).1, Nat.lt_of_lt_of_le (b.low t i e).2 h⟩⟩
noncomputable def book1 (bk : Tok → Option Int) (t : Tok) (i : Int) : Tok → Option Int := fun u => if u = t then some i else bk u
theorem Book.one {bk : Tok → Option Int} {k k' t : Nat} (b : Book bk k) (i : Int) (h : k ≤ t) (h' : t < k') : Book (book1 bk t i) k' ∧ BkLe bk (book1 bk t i) ∧ book1 bk t i t = some i := by
  refine ⟨⟨Nat.lt_of_le_of_lt (Nat.zero_le _) h', fun u j e => ?_⟩, fun u j e => ?_, by simp [book1]⟩
  · unfold book1 at e
    split at e
    · rename_i hu; subst hu; exact ⟨Nat.ne_of_gt (Nat.lt_of_lt_of_le b.pos h), h'⟩
    · exact ⟨(b.low u j e).1, Nat.lt_trans (Nat.lt_of_lt_of_le (b.low u j e).2 h) h'⟩
  · unfold book1
    have := (b.low u j e).2
    split
    · rename_i hu
      subst hu
      exact absurd (Nat.lt_of_lt_of_le this h) (Nat.lt_irrefl _)
    · exact e

structure Lists (μ : Mem) (g : Gh) (h : Heap) : Prop where
  len : g.ad.length = μ.length
  nd : g.ad.Nodup
  at_ : ∀ (n : Nat) l, μ[n]? = some l → ∃ p vals, g.ad[n]? = some p ∧ h.PlainList p vals ∧ L2 (IR g.bk h) l vals.toList ∧ l.length ≤ lim
theorem Lists.grow {μ : Mem} {g : Gh} {h h' : Heap} {bk : Tok → Option Int} (x : Lists μ g h) (k : KeepsH h h') (kb : BkLe g.bk bk) : Lists μ ⟨g.ad, bk⟩ h' :=
  ⟨x.len, x.nd, fun n l e => let ⟨p, vals, e1, e2, e3, e4⟩ := x.at_ n l e; ⟨p, vals, e1, e2.at fun o e => k _ o e, e3.mono fun _ _ r => r.grow k kb, e4⟩⟩
theorem Lists.keeps {μ : Mem} {g : Gh} {h h' : Heap} (x : Lists μ g h) (k : KeepsH h h') : Lists μ g h' := x.grow k fun _ _ e => e

/-- a quiet step: all objects are kept, lists may be made -/
structure Step (s : Shared) (μ : Mem) (g : Gh) (s' : Shared) (μ' : Mem) (g' : Gh) : Prop where
  keeps : Keeps s s'
  toks : s.toks ≤ s'.toks
  mem : ∃ l, μ' = μ ++ l
  ad : ∃ ps, g'.ad = g.ad ++ ps ∧ ps.Nodup ∧ ∀ p ∈ ps, s.heap.get? p = none
  bk : BkLe g.bk g'.bk
  lists : Lists μ' g' s'.heap
  book : Book g'.bk s'.toks

theorem Keeps.h {s s' : Shared} (k : Keeps s s') : KeepsH s.heap s'.heap := by obtain ⟨h', tk, rfl, k⟩ := k; exact k
theorem Keeps.rfl' (s : Shared) : Keeps s s := ⟨s.heap, s.toks, rfl, fun _ _ e => e⟩
theorem Keeps.trans' {s s' s'' : Shared} (k : Keeps s s') (k' : Keeps s' s'') : Keeps s s'' := by
  obtain ⟨h', tk, rfl, k⟩ := k
  obtain ⟨h'', tk', rfl, k'⟩ := k'
  exact ⟨h'', tk', rfl, fun b o e => k' b o (k b o e)⟩
theorem Keeps.tok (s : Shared) (t : Nat) : Keeps s { s with toks := t } := ⟨s.heap, t, rfl, fun _ _ e => e⟩
theorem Keeps.push (s : Shared) (o : Obj) (t : Nat) : Keeps s { s with heap := s.heap.push o, toks := t } := ⟨_, t, rfl, fun _ _ e => Heap.get?_push_of_some _ e⟩

theorem Step.of_keeps {s s' : Shared} {μ : Mem} {g : Gh} (x : Lists μ g s.heap) (b : Book g.bk s.toks) (k : Keeps s s') (ht : s.toks ≤ s'.toks) : Step s μ g s' μ g :=
  ⟨k, ht, ⟨[], by simp⟩, ⟨[], by simp, List.nodup_nil, fun _ h => (nomatch h)⟩, fun _ _ e => e, x.keeps (Keeps.h k), b.up ht⟩
theorem Step.refl {s : Shared} {μ : Mem} {g : Gh} (x : Lists μ g s.heap) (b : Book g.bk s.toks) : Step s μ g s μ g := Step.of_keeps x b (Keeps.rfl' s) (Nat.le_refl _)
theorem Lists.isSome {μ : Mem} {g : Gh} {h : Heap} (x : Lists μ g h) {p : Addr} (hp : p ∈ g.ad) : (h.get? p).isSome = true := by
  obtain ⟨n, hn, e⟩ := List.getElem_of_mem hp
  have hl : n < μ.length := by rw [← x.len]; exact hn
  obtain ⟨q, vals, e1, ⟨k, e2⟩, _⟩ := x.at_ n μ[n] (by rw [List.getElem?_eq_getElem hl])
  rw [List.getElem?_eq_getElem hn, e] at e1
  cases e1
  rw [e2]; rfl
theorem Step.trans {s s' s'' : Shared} {μ μ' μ'' : Mem} {g g' g'' : Gh} (x : Step s μ g s' μ' g') (y : Step s' μ' g' s'' μ'' g'') : Step s μ g s'' μ'' g'' := by
  obtain ⟨l, hl⟩ := x.mem
  obtain ⟨l', hl'⟩ := y.mem
  obtain ⟨ps, e, nd, fr⟩ := x.ad
  obtain ⟨ps', e', nd', fr'⟩ := y.ad
  refine ⟨Keeps.trans' x.keeps y.keeps, Nat.le_trans x.toks y.toks, ⟨l ++ l', by rw [hl', hl, List.append_assoc]⟩, ⟨ps ++ ps', by rw [e', e, List.append_assoc], ?_, ?_⟩, fun t i e => y.bk t i (x.bk t i e), y.lists, y.book⟩
  · rw [List.nodup_append]
    refine ⟨nd, nd', fun p hp q hq hpq => ?_⟩
    subst hpq
    have h1 := x.lists.isSome (p := p) (by rw [e]; exact List.mem_append_right _ hp)
    rw [fr' p hq] at h1
    cases h1
  · intro p hp
    rcases List.mem_append.mp hp with h | h
    · exact fr p h
    · have := fr' p h
      cases q : s.heap.get? p with
      | none => rfl
      | some o => rw [Keeps.h x.keeps p o q] at this; cases this
theorem Step.grow {s s' : Shared} {μ μ' : Mem} {g g' : Gh} (x : Step s μ g s' μ' g') {a : V} {v : Value} (h : VR g s.heap a v) : VR g' s'.heap a v :=
  h.grow (Keeps.h x.keeps) x.bk (let ⟨ps, e, _⟩ := x.ad; ⟨ps, e⟩)
theorem Step.growI {s s' : Shared} {μ μ' : Mem} {g g' : Gh} (x : Step s μ g s' μ' g') {a : V} {v : Value} (h : IR g.bk s.heap a v) : IR g'.bk s'.heap a v :=
  h.grow (Keeps.h x.keeps) x.bk

structure EnvOk (env : Env) (c : Cfg) : Prop where
  kind : env.scope.kind = .function
  names : env.scope.names = c.names
  globals : env.globals = mainGlobals
  builtins : env.builtins = builtinsNs
  nodebug : c.names.lookup ("__debug__" : Str) = none

structure FrameR (env : Env) (c : Cfg) (ρ : Loc) (g : Gh) (h : Heap) : Prop where
  ns : ∃ m, h.Ns env.locals m ∧ ∀ x v, ρ.lookup x = some v → c.names.lookup x = some .local → ∃ val, m x = some val ∧ VR g h v val
  cells : ∀ x, c.names.lookup x = some .cell → ∃ a o, env.cells.lookup x = some a ∧ h.IsCell a o ∧ ∀ v, ρ.lookup x = some v → ∃ val, o = some val ∧ VR g h v val
theorem FrameR.step {env : Env} {c : Cfg} {ρ : Loc} {s s' : Shared} {μ μ' : Mem} {g g' : Gh} (x : FrameR env c ρ g s.heap) (y : Step s μ g s' μ' g') : FrameR env c ρ g' s'.heap :=
  ⟨let ⟨m, hm, hv⟩ := x.ns; ⟨m, hm.keeps (Keeps.h y.keeps), fun z v e k => let ⟨val, e1, e2⟩ := hv z v e k; ⟨val, e1, y.grow e2⟩⟩,
    fun z k => let ⟨a, o, e1, e2, e3⟩ := x.cells z k; ⟨a, o, e1, e2.keeps (Keeps.h y.keeps), fun v e => let ⟨val, f1, f2⟩ := e3 v e; ⟨val, f1, y.grow f2⟩⟩⟩

/-- room of depth and of C units -/
structure AOk (n : Nat) (A : Around) : Prop where
  handled : A.handled = none
  depth : A.depth + n < recursionLimit
  units : A.units + 8 * n + 64 < cLine

/-- what the module's top leaves -/
structure GOk (mg mb : Str → Option Value) (hT : Heap) (c : Cfg) (h : Heap) : Prop where
  g : h.Ns mainGlobals mg
  b : h.Ns builtinsNs mb
  nolimit : h.NoLimit
  top : KeepsH hT h
  nobook : NoneBooked h
  free : ∀ f ∈ (["len", "chr", "ord", "sum", "min", "max", "str", "int", "isinstance", "list", "range", "enumerate"] : List Str), mg f = none ∧ mb f = bootBuiltins f
  marker : (∃ t, mg "ELLIPSIS_MARKER" = some (.str c.marker t)) ∧ c.marker.length ≤ lim
  set : ∃ a es n t, mg "b1_set" = some (.ref a) ∧ h.get? a = some ⟨.type "set", none, .set es n t, #[]⟩ ∧ es.size < 100 ∧ t.place.size = es.size ∧ t.fill ≤ t.mask ∧
    (∀ e ∈ es, ∃ i k, e = ((i : Int), Value.int i k) ∧ 0 ≤ i ∧ i < 1000000) ∧ ∀ i : Int, c.inSet i = es.any fun e => e.1 == i
  dict : ∃ a es n, mg "b3_exceptions" = some (.ref a) ∧ (a == sysModules) = false ∧ h.get? a = some ⟨.type "dict", none, .dict es n, #[]⟩ ∧
    (∀ e ∈ es, ∃ i k x t, e = (⟨i, .int i k, .str x t⟩ : DictEntry) ∧ 0 ≤ i ∧ i < 1000000) ∧
    ∀ i : Int, c.get i = (es.find? fun e => e.hash == i).bind fun e => match e.val with | .str x _ => some x | _ => none
theorem GOk.keeps {mg mb : Str → Option Value} {hT : Heap} {c : Cfg} {h h' : Heap} (x : GOk mg mb hT c h) (k : KeepsH h h') : GOk mg mb hT c h' :=
  ⟨x.g.keeps k, x.b.keeps k, x.nolimit.keeps k, fun b o e => k b o (x.top b o e), (let ⟨mc, a, b⟩ := x.nobook; ⟨mc, a.keeps k, b⟩), x.free, x.marker,
    let ⟨a, es, n, t, e1, e2, r⟩ := x.set; ⟨a, es, n, t, e1, k _ _ e2, r⟩,
    let ⟨a, es, n, e1, e0, e2, r⟩ := x.dict; ⟨a, es, n, e1, e0, k _ _ e2, r⟩⟩

noncomputable abbrev WP {α : Type} (prog : Program) (w : World) (A : Around) (t : Sem α) (Q : α → Shared → Prop) (s : Shared) : Prop := wpAny (model prog w) A t Q (fun _ _ => False) s
theorem WP.any {α : Type} {prog : Program} {w : World} {A : Around} {t : Sem α} {Q Q' : α → Shared → Prop} {E : Value → Shared → Prop} {s : Shared} (h : WP prog w A t Q s) (hQ : ∀ a s', Q a s' → Q' a s') : wpAny (model prog w) A t Q' E s :=
  wpAny_mono h hQ fun _ _ f => f.elim
theorem WP.mono {α : Type} {prog : Program} {w : World} {A : Around} {t : Sem α} {Q Q' : α → Shared → Prop} {s : Shared} (h : WP prog w A t Q s) (hQ : ∀ a s', Q a s' → Q' a s') : WP prog w A t Q' s := WP.any h hQ

theorem WP.tok {α : Type} {prog : Program} {w : World} {A : Around} {t : Sem α} {Q : α → Shared → Prop} {s : Shared} (h : WP prog w A t (fun a s' => s.toks ≤ s'.toks → Q a s') s) : WP prog w A t Q s :=
  wpAny_with_toks (Nat.le_refl _) (WP.any h fun _ _ x => x)

/-- the result of a quiet piece: a value -/
noncomputable abbrev RV (s : Shared) (μ : Mem) (g : Gh) (v : V) (μ' : Mem) : Value → Shared → Prop := fun val s' => ∃ g', Step s μ g s' μ' g' ∧ VR g' s'.heap v val

/-- a call of a def of the text, from a block -/
noncomputable def CallOk (prog : Program) (w : World) (mg mb : Str → Option Value) (hT : Heap) (c : Cfg) (A : Around) : Prop :=
  ∀ f args μ v μ', c.call f args μ = some (v, μ') → ∃ a o fd, mg f = some (.ref a) ∧ hT.get? a = some o ∧ o.data = .func fd ∧ ∀ s g vals, GOk mg mb hT c s.heap → Lists μ g s.heap → Book g.bk s.toks → L2 (VR g s.heap) args vals →
    WP prog w A (call (.ref a) vals) (RV s μ g v μ') s

structure Ctx (prog : Program) (w : World) (mg mb : Str → Option Value) (hT : Heap) (c : Cfg) (ρ : Loc) (env : Env) (A : Around) (s : Shared) (μ : Mem) (g : Gh) : Prop where
  a : AOk 4 A
  envok : EnvOk env c
  glob : GOk mg mb hT c s.heap
  calls : CallOk prog w mg mb hT c A
  frame : FrameR env c ρ g s.heap
  lists : Lists μ g s.heap
  book : Book g.bk s.toks
theorem Ctx.step {prog : Program} {w : World} {mg mb : Str → Option Value} {hT : Heap} {c : Cfg} {ρ : Loc} {env : Env} {A : Around} {s s' : Shared} {μ μ' : Mem} {g g' : Gh} (x : Ctx prog w mg mb hT c ρ env A s μ g) (y : Step s μ g s' μ' g') :
    Ctx prog w mg mb hT c ρ env A s' μ' g' := ⟨x.a, x.envok, x.glob.keeps (Keeps.h y.keeps), x.calls, x.frame.step y, y.lists, y.book⟩
end Mine
namespace Mine
open PySem PySem.Calls PyProof.Rows
section
variable {prog : Program} {w : World} {A : Around} {s : Shared} {μ μ' : Mem} {g : Gh} {a b v : V} {x y : Value}

theorem lim_sizeLine : lim ≤ sizeLine := by decide +kernel
theorem two_lim : lim + lim ≤ sizeLine := by decide +kernel

/-- the end of a piece that makes an atom and no object -/
theorem rv_atom {k : A0} {t : Nat} (L : Lists μ g s.heap) (B : Book g.bk s.toks) (ht : s.toks ≤ t) (h : AR g.bk k x) : RV s μ g (.a0 k) μ x { s with toks := t } :=
  ⟨g, Step.of_keeps L B (Keeps.tok s t) ht, h⟩
theorem rv_atom0 {k : A0} (L : Lists μ g s.heap) (B : Book g.bk s.toks) (h : AR g.bk k x) : RV s μ g (.a0 k) μ x s := ⟨g, Step.refl L B, h⟩
/-- a new int, its token booked; the heap may have grown -/
theorem rv_intK {i : Int} {t k : Nat} {s' : Shared} (L : Lists μ g s.heap) (B : Book g.bk s.toks) (ht : s.toks ≤ t) (hk : t < k) (hs : Keeps s s') (he : s'.toks = k) : RV s μ g (vint i) μ (.int i t) s' := by
  obtain ⟨b1, b2, b3⟩ := B.one i ht hk
  exact ⟨⟨g.ad, book1 g.bk t i⟩, ⟨hs, by rw [he]; exact Nat.le_of_lt (Nat.lt_of_le_of_lt ht hk), ⟨[], by simp⟩, ⟨[], by simp, List.nodup_nil, fun _ h => (nomatch h)⟩, b2, L.grow (Keeps.h hs) b2, by rw [he]; exact b1⟩, ⟨t, rfl, fun _ => b3⟩⟩
theorem rv_int {i : Int} {t k : Nat} (L : Lists μ g s.heap) (B : Book g.bk s.toks) (ht : s.toks ≤ t) (hk : t < k) : RV s μ g (vint i) μ (.int i t) { s with toks := k } :=
  rv_intK L B ht hk (Keeps.tok s k) rfl

/-- a new list on the heap -/
theorem rv_push {l : List V} {vals : List Value} {h' : Heap} {t : Nat} {o : Obj} (L : Lists μ g s.heap) (B : Book g.bk s.toks) (ht : s.toks ≤ t) (hk : KeepsH s.heap h') (hl : L2 (IR g.bk h') l vals) (hlen : l.length ≤ lim)
    (ho : o = { cls := .type "list", data := .seq vals.toArray }) :
    RV s μ g (.lst μ.length) (μ ++ [l]) (.ref h'.objs.size) { s with heap := h'.push o, toks := t } := by
  subst ho
  have hk' : KeepsH s.heap (h'.push { cls := .type "list", data := .seq vals.toArray }) := fun b o e => Heap.get?_push_of_some _ (hk b o e)
  have hfresh : s.heap.get? h'.objs.size = none := by
    cases q : s.heap.get? h'.objs.size with
    | none => rfl
    | some o => exact absurd (Heap.lt_size (hk _ _ q)) (Nat.lt_irrefl _)
  refine ⟨⟨g.ad ++ [h'.objs.size], g.bk⟩, ⟨⟨_, t, rfl, hk'⟩, ht, ⟨[l], rfl⟩, ⟨[h'.objs.size], rfl, by simp, fun p hp => ?_⟩, fun _ _ e => e, ⟨?_, ?_, fun n l' e => ?_⟩, B.up ht⟩, ?_⟩
  · rw [List.mem_singleton] at hp; subst hp; exact hfresh
  · show (g.ad ++ [h'.objs.size]).length = _
    rw [List.length_append, List.length_append, L.len]; rfl
  · show (g.ad ++ [h'.objs.size]).Nodup
    rw [List.nodup_append]
    refine ⟨L.nd, by simp, fun p hp q hq e => ?_⟩
    rw [List.mem_singleton] at hq
    subst hq; subst e
    have := L.isSome hp
    rw [hfresh] at this
    cases this
  · rcases Nat.lt_or_ge n μ.length with hn | hn
    · rw [List.getElem?_append_left hn] at e
      obtain ⟨p, vs, e1, e2, e3, e4⟩ := L.at_ n l' e
      exact ⟨p, vs, by show (g.ad ++ [h'.objs.size])[n]? = _; rw [List.getElem?_append_left (by rw [L.len]; exact hn)]; exact e1, e2.at fun o e => hk' _ o e, e3.mono fun _ _ r => r.grow hk' fun _ _ e => e, e4⟩
    · have hn' : n = μ.length := by
        have := (List.getElem?_eq_some_iff.mp e).1
        rw [List.length_append, List.length_singleton] at this
        (first | lia | omega)
      subst hn'
      rw [List.getElem?_append_right (Nat.le_refl _), Nat.sub_self] at e
      simp at e; subst e
      refine ⟨h'.objs.size, vals.toArray, ?_, ⟨0, Heap.get?_push_size _ rfl⟩, ?_, hlen⟩
      · show (g.ad ++ [h'.objs.size])[μ.length]? = _
        rw [List.getElem?_append_right (by rw [L.len]; exact Nat.le_refl _), L.len, Nat.sub_self]; rfl
      · exact hl.mono fun _ _ r => r.grow (fun b o e => Heap.get?_push_of_some _ e) fun _ _ e => e
  · refine ⟨h'.objs.size, ?_, rfl⟩
    show (g.ad ++ [h'.objs.size])[μ.length]? = _
    rw [List.getElem?_append_right (by rw [L.len]; exact Nat.le_refl _), L.len, Nat.sub_self]; rfl

/-- a list that is new on the heap -/
theorem rv_newlist {l : List V} {p : Addr} {vals : Array Value} {h' : Heap} {t : Nat} (L : Lists μ g s.heap) (B : Book g.bk s.toks) (ht : s.toks ≤ t) (hk : KeepsH s.heap h') (hp : s.heap.get? p = none) (ho : h'.PlainList p vals)
    (hl : L2 (IR g.bk h') l vals.toList) (hlen : l.length ≤ lim) : RV s μ g (.lst μ.length) (μ ++ [l]) (.ref p) { s with heap := h', toks := t } := by
  have hat : (g.ad ++ [p])[μ.length]? = some p := by rw [List.getElem?_append_right (by rw [L.len]; exact Nat.le_refl _), L.len, Nat.sub_self]; rfl
  refine ⟨⟨g.ad ++ [p], g.bk⟩, ⟨⟨_, t, rfl, hk⟩, ht, ⟨[l], rfl⟩, ⟨[p], rfl, by simp, fun q hq => by rw [List.mem_singleton] at hq; subst hq; exact hp⟩, fun _ _ e => e, ⟨?_, ?_, fun n l' e => ?_⟩, B.up ht⟩, ⟨p, hat, rfl⟩⟩
  · show (g.ad ++ [p]).length = _
    rw [List.length_append, List.length_append, L.len]; rfl
  · show (g.ad ++ [p]).Nodup
    rw [List.nodup_append]
    refine ⟨L.nd, by simp, fun q hq r hr e => ?_⟩
    rw [List.mem_singleton] at hr
    subst hr; subst e
    have := L.isSome hq
    rw [hp] at this
    cases this
  · rcases Nat.lt_or_ge n μ.length with hn | hn
    · rw [List.getElem?_append_left hn] at e
      obtain ⟨q, vs, e1, e2, e3, e4⟩ := L.at_ n l' e
      exact ⟨q, vs, by show (g.ad ++ [p])[n]? = _; rw [List.getElem?_append_left (by rw [L.len]; exact hn)]; exact e1, e2.at fun o e => hk _ o e, e3.mono fun _ _ r => r.grow hk fun _ _ e => e, e4⟩
    · have hn' : n = μ.length := by
        have := (List.getElem?_eq_some_iff.mp e).1
        rw [List.length_append, List.length_singleton] at this
        (first | lia | omega)
      subst hn'
      rw [List.getElem?_append_right (Nat.le_refl _), Nat.sub_self] at e
      simp at e; subst e
      exact ⟨p, vals, hat, ho, hl, hlen⟩

theorem newList_some {l : List V} (h : newList l μ = some (v, μ')) : l.length ≤ lim ∧ v = .lst μ.length ∧ μ' = μ ++ [l] := by
  unfold newList at h
  split at h
  · rename_i hl; cases h; exact ⟨hl, rfl, rfl⟩
  · first | exact no_some h | cases h
theorem newStr_some {z : Str} (h : newStr z μ = some (v, μ')) : z.length ≤ lim ∧ v = vstr z ∧ μ' = μ := by
  unfold newStr at h
  split at h
  · rename_i hl; cases h; exact ⟨hl, rfl, rfl⟩
  · first | exact no_some h | cases h

theorem log_big {n : Nat} (h : n < big) : n.log2 < 62 := by
  by_cases h0 : n = 0
  · subst h0; decide
  · exact (Nat.log2_lt h0).mpr h
theorem mul_ok {i j : Int} (hi : i.natAbs < big) : IntMulOk i j := by
  refine IntMulOk.of_left ?_
  unfold Builtin.Int.intBits
  have := log_big hi
  split <;> (first | lia | omega)
theorem div_ok {i j : Int} (hj : j.natAbs < big) : Builtin.divisionGoesByPylong i j = false := by
  have := log_big hj
  unfold Builtin.divisionGoesByPylong
  dsimp only
  have h : ¬ ((if (j == 0) = true then 0 else j.natAbs.log2 / 30 + 1) > 300) := by split <;> (first | lia | omega)
  rw [decide_eq_false h, Bool.false_and]
theorem pow_ok {t u : Tok} {Q : Value → Shared → Prop} (h : Q (.int 1000000 s.toks) { s with toks := s.toks + 1 }) : WP prog w A (binaryOp .Pow (.int 10 t) (.int 6 u)) Q s :=
  pow_int (by decide) (by decide +kernel) h
theorem cat_ok {p q : Addr} {l r : Array Value} {Q : Value → Shared → Prop} (hp : s.heap.PlainList p l) (hq : s.heap.PlainList q r) (hsz : l.size + r.size ≤ sizeLine)
    (h : Q (.ref s.heap.objs.size) { s with heap := s.heap.push { cls := .type "list", data := .seq (l.toList ++ r.toList).toArray } }) : WP prog w A (binaryOp .Add (.ref p) (.ref q)) Q s := by
  obtain ⟨n, ho⟩ := hp
  obtain ⟨n2, ho2⟩ := hq
  have e : l ++ r = (l.toList ++ r.toList).toArray := by simp
  refine concat_meets ⟨_, ho, rfl⟩ ⟨_, ho2, rfl⟩ noFill_list_add seq_list_add PySem.F.slot_list_add PySem.F.entry_list_add (PySem.F.args_list_add_2 _ _) (list_addW p q l r n n2 none none #[] #[] (by simpa using hsz)) ⟨ho, ho2, ?_⟩
  rw [e]
  exact h

theorem binop_ok {op : Operator} (e : binop op a b μ = some (v, μ')) (L : Lists μ g s.heap) (B : Book g.bk s.toks) (ha : VR g s.heap a x) (hb : VR g s.heap b y) : WP prog w A (binaryOp op x y) (RV s μ g v μ') s := by
  unfold binop at e
  split at e
  · unfold binA at e
    split at e
    · obtain ⟨t, rfl, _⟩ := ha
      obtain ⟨u, rfl, _⟩ := hb
      replace e := Option.map_eq_some_iff.mp e
      obtain ⟨k, e, h⟩ := e
      cases h
      have fin : RV s μ g (vint k) μ (.int k s.toks) { s with toks := s.toks + 1 } := rv_int L B (Nat.le_refl _) (Nat.lt_succ_self _)
      unfold binInt at e
      split at e
      · cases e; exact add_int fin
      · cases e; exact sub_int fin
      · split at e
        · rename_i hg
          cases e
          exact mul_int fin (mul_ok hg.1)
        · cases e
      · split at e
        · cases e
        · rename_i hg
          cases e
          exact mod_int' hg fin
      · split at e
        · cases e
        · rename_i hg
          cases e
          simp only [not_or, Nat.not_le] at hg
          exact floordiv_int hg.1 fin (.inl (div_ok hg.2.2))
      · split at e
        · rename_i hg
          obtain ⟨rfl, rfl⟩ := hg
          cases e
          exact pow_ok fin
        · cases e
      · cases e
    · obtain ⟨⟨t, rfl⟩, hx⟩ := ha
      obtain ⟨⟨u, rfl⟩, hy⟩ := hb
      split at e
      · cases op <;> first | (rename_i hop; exact absurd hop Bool.false_ne_true) | skip
        obtain ⟨hz, rfl, rfl⟩ := newStr_some e
        exact WP.tok (add_str (fun t' k hk => rv_atom L B hk ⟨⟨_, rfl⟩, hz⟩) (Nat.le_trans (Nat.add_le_add hx hy) two_lim))
      · cases e
    · cases e
  · rename_i m n
    obtain ⟨p, hp, rfl⟩ := ha
    obtain ⟨q, hq, rfl⟩ := hb
    split at e
    · cases op <;> first | (rename_i hop; exact absurd hop Bool.false_ne_true) | skip
      replace e := Option.bind_eq_some_iff.mp e
      obtain ⟨l, el, e⟩ := e
      replace e := Option.bind_eq_some_iff.mp e
      obtain ⟨r, er, e⟩ := e
      obtain ⟨hz, rfl, rfl⟩ := newList_some e
      obtain ⟨p', vs, e1, e2, e3, e4⟩ := L.at_ m l el
      obtain ⟨q', us, f1, f2, f3, f4⟩ := L.at_ n r er
      rw [hp] at e1; cases e1
      rw [hq] at f1; cases f1
      have k1 := e3.length
      have k2 := f3.length
      simp only [Array.length_toList] at k1 k2
      refine cat_ok e2 f2 (by rw [← k1, ← k2]; exact Nat.le_trans (Nat.add_le_add e4 f4) two_lim) ?_
      exact rv_push (s := s) L B (Nat.le_refl _) (fun _ _ e => e) (e3.append f3) hz rfl
    · cases e
  · cases e
end
end Mine
namespace Mine
open PySem PySem.Calls PyProof.Rows
section
variable {prog : Program} {w : World} {A : Around} {s : Shared} {μ μ' : Mem} {g : Gh} {a b v : V} {x y : Value}

/-- tuples as data -/
noncomputable def toD : A0 → PyData
  | .none => .none
  | .bool b => .bool b
  | .int i _ => .int i
  | .str x => .str x
theorem reads_atoms {h : Heap} {bk : Tok → Option Int} : ∀ {l : List A0} {vals : List Value}, L2 (AR bk) l vals → ReadsAll h vals (l.map toD) []
  | [], [], _ => ReadsAll.nil
  | a :: l, v :: vals, H => by
    have h2 := reads_atoms (h := h) (l := l) (vals := vals) H.2
    have h1 : Reads h v (toD a) [] := by
      have := H.1
      cases a with
      | none => cases this; exact .none
      | bool b => cases this; exact .bool b
      | int i o => obtain ⟨t, rfl, _⟩ := this; exact .int i t
      | str x => obtain ⟨⟨t, rfl⟩, _⟩ := this; exact .str x t
    exact ReadsAll.cons h1 h2
  | [], _ :: _, H => H.elim
  | _ :: _, [], H => H.elim
theorem eqv_atoms : ∀ {l r : List A0}, sameShape l r = true → PyData.eqvAll (l.map toD) (r.map toD) = sameVals l r ∧
    (PyData.canLayAll0 (l.map toD) = true ∧ PyData.depthAll (l.map toD) ≤ 1) ∧ PyData.canLayAll0 (r.map toD) = true ∧ PyData.depthAll (r.map toD) ≤ 1
  | [], [], _ => by simp [PyData.eqvAll, sameVals, PyData.canLayAll0, PyData.depthAll]
  | .int i _ :: l, .int j _ :: r, h => by
    have := eqv_atoms (l := l) (r := r) (by simpa [sameShape] using h)
    simp [PyData.eqvAll, sameVals, toD, PyData.eqv, PyData.canLayAll0, PyData.canLay0, PyData.depthAll, PyData.depth, this]
  | .str i :: l, .str j :: r, h => by
    simp only [sameShape, Bool.and_eq_true] at h
    have := eqv_atoms (l := l) (r := r) h.2
    simp [PyData.eqvAll, sameVals, toD, PyData.eqv, PyData.canLayAll0, PyData.canLay0, PyData.depthAll, PyData.depth, this, h.1]
  | [], .int .. :: _, h | [], .str .. :: _, h | [], .bool .. :: _, h | [], .none :: _, h => by simp [sameShape] at h
  | .int .. :: _, [], h | .str .. :: _, [], h | .bool .. :: _, [], h | .none :: _, [], h => by simp [sameShape] at h
  | .int .. :: _, .str .. :: _, h | .int .. :: _, .bool .. :: _, h | .int .. :: _, .none :: _, h => by simp [sameShape] at h
  | .str .. :: _, .int .. :: _, h | .str .. :: _, .bool .. :: _, h | .str .. :: _, .none :: _, h => by simp [sameShape] at h
  | .bool .. :: _, _ :: _, h | .none :: _, _ :: _, h => by simp [sameShape] at h
theorem shaped_atoms {l : List A0} (h1 : PyData.canLayAll0 (l.map toD) = true) (h2 : PyData.depthAll (l.map toD) ≤ 1) : SeqAt.shaped (.tuple (l.map toD)) = true := by
  unfold SeqAt.shaped
  simp [PyData.canLay0, h1, PyData.depth]
  (first | lia | omega)

theorem cmpop_ok {op : CmpOp} {r : Bool} (e : cmpop op a b = some r) (hA : AOk 4 A) (ha : VR g s.heap a x) (hb : VR g s.heap b y) : WP prog w A (compareOp op x y) (fun c s' => c = .bool r ∧ s' = s) s := by
  unfold cmpop at e
  split at e
  · unfold cmpA at e
    split at e
    · obtain ⟨t, rfl, _⟩ := ha
      obtain ⟨u, rfl, _⟩ := hb
      unfold cmpInt at e
      split at e
      · cases e; exact eq_int ⟨rfl, rfl⟩
      · cases e; exact ne_int ⟨rfl, rfl⟩
      · cases e; exact lt_int ⟨rfl, rfl⟩
      · cases e; exact gt_int ⟨rfl, rfl⟩
      · cases e; exact ge_int ⟨rfl, rfl⟩
      · cases e
    · obtain ⟨⟨t, rfl⟩, _⟩ := ha
      obtain ⟨⟨u, rfl⟩, _⟩ := hb
      unfold cmpStr at e
      split at e
      · cases e; exact eq_str ⟨rfl, rfl⟩
      · cases e; exact ne_str ⟨rfl, rfl⟩
      · cases e; exact P.notIn_str ⟨by rw [Bool.not_not], rfl⟩
      · cases e
    · cases ha; first | exact no_some hb | cases hb
      unfold cmpBool at e
      split at e
      · cases e; exact wpAny_is_plain rfl ⟨by congr 1; rename_i i j _; cases i <;> cases j <;> rfl, rfl⟩
      · cases e; exact wpAny_isNot_plain rfl ⟨by congr 1; rename_i i j _; cases i <;> cases j <;> rfl, rfl⟩
      · cases e
    · cases ha; first | exact no_some hb | cases hb
      unfold cmpNone at e
      split at e
      · cases e; exact wpAny_isNot_plain rfl ⟨rfl, rfl⟩
      · cases e
    · obtain ⟨⟨t, rfl⟩, _⟩ := ha
      cases hb
      unfold cmpNone at e
      split at e
      · cases e; exact isnot_str_none ⟨rfl, rfl⟩
      · cases e
    · cases e
  · obtain ⟨p, vals, rfl, ⟨o, h1, h2, n, h3⟩, h4, _⟩ := ha
    obtain ⟨q, vals', rfl, ⟨o', h1', h2', n', h3'⟩, h4', _⟩ := hb
    unfold cmpTup at e
    split at e
    · split at e
      · rename_i hs
        cases e
        refine eq_dataH (reads_tuple_at h1 h2 h3 (reads_atoms h4)) (reads_tuple_at h1' h2' h3' (reads_atoms h4')) (shaped_atoms (eqv_atoms hs).2.1.1 (eqv_atoms hs).2.1.2) (shaped_atoms (eqv_atoms hs).2.2.1 (eqv_atoms hs).2.2.2) (by have := hA.units; (first | lia | omega)) ⟨?_, rfl⟩
        rw [PyData.eqv, (eqv_atoms hs).1]
      · cases e
    · split at e
      · rename_i hs
        cases e
        refine ne_dataH (reads_tuple_at h1 h2 h3 (reads_atoms h4)) (reads_tuple_at h1' h2' h3' (reads_atoms h4')) (shaped_atoms (eqv_atoms hs).2.1.1 (eqv_atoms hs).2.1.2) (shaped_atoms (eqv_atoms hs).2.2.1 (eqv_atoms hs).2.2.2) (by have := hA.units; (first | lia | omega)) ⟨?_, rfl⟩
        rw [PyData.eqv, (eqv_atoms hs).1]
      · cases e
    · cases e
  · cases e

theorem truth_ok {r : Bool} (e : truth a = some r) (ha : VR g s.heap a x) : WP prog w A (truthy x) (fun c s' => c = r ∧ Keeps s s' ∧ s.toks ≤ s'.toks) s := by
  unfold truth at e
  split at e
  · cases ha; cases e; exact wpAny_truthy_bool ⟨rfl, Keeps.rfl' s, Nat.le_refl _⟩
  · obtain ⟨⟨t, rfl⟩, hl⟩ := ha
    cases e
    rename_i z
    have hl' : z.length ≤ 1048576 := hl
    refine P.truthy_str (by (first | lia | omega)) ⟨?_, Keeps.tok s _, by show s.toks ≤ s.toks + 1 + 1; (first | lia | omega)⟩
    by_cases h : 0 < z.length
    · rw [decide_eq_true h]; simp; (first | lia | omega)
    · rw [decide_eq_false h]; simp; (first | lia | omega)
  · cases e

theorem is_ints {i j : Int} {t u : Tok} (B : Book g.bk s.toks) (hn : NoneBooked s.heap) (ht : g.bk t = some i) (hu : g.bk u = some j) :
    WP prog w A (compareOp .Is (.int i t) (.int j u)) (fun c s' => ∃ r, c = .bool r ∧ s' = s ∧ (r = true → i = j)) s := by
  have t0 := (B.low t i ht).1
  have u0 := (B.low u j hu).1
  have h0 : ((t == 0) || (u == 0)) = false := by simp [t0, u0]
  show wpAny _ _ (do return .bool (← isSame (.int i t) (.int j u)) : Sem Value) _ _ _
  refine wpAny_bind ?_
  have cr : ∀ {Q : Bool → Shared → Prop}, (∀ r, (r = true → i = j) → Q r s) → WP prog w A (isSame.created (i == j) t u) Q s := by
    intro Q hQ
    unfold isSame.created
    rw [if_neg (by rw [h0]; exact Bool.false_ne_true)]
    split
    · rename_i h
      have e : t = u := beq_iff_eq.mp h
      subst e
      rw [ht] at hu
      exact wpAny_pure (hQ true fun _ => Option.some.inj hu)
    · split
      · rename_i h
        exact wpAny_pure (hQ false fun q => by cases q)
      · rename_i h
        have e : i = j := by simpa using h
        refine wpAny_bind (wpAny_sharingNotTold_none hn ?_)
        simp only [Bool.false_eq_true, if_false]
        refine wpAny_bind (wpAny_sharingNotTold_none hn ?_)
        simp only [Bool.false_eq_true, if_false]
        exact wpAny_bind (wpAny_rule (wpAny_bind (wpAny_askSetting (wpAny_pure (hQ _ fun _ => e)))))
  unfold isSame
  dsimp only
  split
  · rename_i h
    have e : i = j := by simp at h; exact h.1
    unfold isSame.cachedInt
    rw [if_neg (by rw [h0]; exact Bool.false_ne_true)]
    exact wpAny_bind (wpAny_rule (wpAny_pure (wpAny_pure ⟨true, rfl, rfl, fun _ => e⟩)))
  · exact cr fun r hr => wpAny_pure ⟨r, rfl, rfl, hr⟩

/-! items and slices -/
theorem place_seq {i : Int} {n k : Nat} (h : place? i n = some k) : seqIndex? i n = some k ∧ (0 ≤ i ∧ i < n ∧ k = i.toNat ∨ i < 0 ∧ -(n : Int) ≤ i ∧ k = (i + n).toNat) ∧ k < n := by
  unfold place? at h
  unfold seqIndex?
  split at h
  · rename_i c; first | exact no_some h | cases h
    refine ⟨?_, .inl ⟨c.1, c.2, rfl⟩, by (first | lia | omega)⟩
    have : ¬ i < 0 := by (first | lia | omega)
    simp [this]
    (first | lia | omega)
  · split at h
    · rename_i c; first | exact no_some h | cases h
      refine ⟨?_, .inr ⟨c.1, c.2, rfl⟩, by (first | lia | omega)⟩
      simp [c.1]
      (first | lia | omega)
    · first | exact no_some h | cases h

theorem len63 {n : Nat} (h : n ≤ lim) : (n : Int) < 2 ^ 63 := by
  have : n ≤ 1048576 := h
  (first | lia | omega)

theorem getStr_ok {z : Str} {i : Int} {t u : Tok} {k ch : Nat} (hz : z.length ≤ lim) (L : Lists μ g s.heap) (B : Book g.bk s.toks) (ek : place? i z.length = some k) (ec : z.cps[k]? = some ch) :
    WP prog w A (getItem (.str z t) (.int i u)) (RV s μ g (vstr ⟨#[ch]⟩) μ) s := by
  obtain ⟨hs, hk, hlt⟩ := place_seq ek
  have h1 : z.length ≤ 1048576 := hz
  refine P.getItem_str (c := ch) (by simp; (first | lia | omega)) (by rw [hs]; exact ec) (rv_atom L B (Nat.le_succ _) ⟨⟨_, rfl⟩, ?_⟩)
  show 1 ≤ lim
  decide

theorem getItem_ok (e : index a b μ = some v) (L : Lists μ g s.heap) (B : Book g.bk s.toks) (ha : VR g s.heap a x) (hb : VR g s.heap b y) :
    WP prog w A (getItem x y) (RV s μ g v μ) s := by
  unfold index at e
  split at e
  · rename_i m i o
    obtain ⟨p, hp, rfl⟩ := ha
    obtain ⟨t, rfl, _⟩ := hb
    replace e := Option.bind_eq_some_iff.mp e
    obtain ⟨l, el, e⟩ := e
    replace e := Option.bind_eq_some_iff.mp e
    obtain ⟨k, ek, e⟩ := e
    obtain ⟨p', vs, e1, e2, e3, e4⟩ := L.at_ m l el
    rw [hp] at e1; cases e1
    obtain ⟨r, er, hr⟩ := e3.get e
    obtain ⟨_, hk, hlt⟩ := place_seq ek
    have hsz : l.length = vs.size := by rw [e3.length, Array.length_toList]
    have h63 := len63 e4
    have er' : vs[k]? = some r := by rw [← er, Array.getElem?_toList]
    rcases hk with ⟨h0, h1, rfl⟩ | ⟨h0, h1, rfl⟩
    · exact wpAny_getItem_list e2.isList h0 (by (first | lia | omega)) er' ⟨g, Step.refl L B, hr.vr⟩
    · exact wpAny_getItem_list_neg e2.isList h0 (by (first | lia | omega)) (by (first | lia | omega)) (by rw [← hsz]; exact er') ⟨g, Step.refl L B, hr.vr⟩
  · rename_i l i o
    obtain ⟨p, vals, rfl, h1, h2, h3⟩ := ha
    obtain ⟨t, rfl, _⟩ := hb
    replace e := Option.bind_eq_some_iff.mp e
    obtain ⟨k, ek, e⟩ := e
    obtain ⟨z, ez, rfl⟩ := Option.map_eq_some_iff.mp e
    obtain ⟨r, er, hr⟩ := h2.get ez
    obtain ⟨hs, hk, hlt⟩ := place_seq ek
    have hsz : l.length = vals.size := by rw [h2.length, Array.length_toList]
    exact getItem_tuple h1 (by (first | lia | omega)) (by (first | lia | omega)) (by rw [← hsz]; exact hs) (by rw [← Array.getElem?_toList]; exact er) ⟨g, Step.refl L B, hr⟩
  · rename_i z i o
    obtain ⟨⟨t, rfl⟩, hz⟩ := ha
    obtain ⟨u, rfl, _⟩ := hb
    replace e := Option.bind_eq_some_iff.mp e
    obtain ⟨k, ek, e⟩ := e
    obtain ⟨ch, ec, rfl⟩ := Option.map_eq_some_iff.mp e
    exact getStr_ok hz L B ek ec
  · cases e
end
end Mine
namespace Mine
open PySem PySem.Calls PyProof.Rows PySem.Builtin PySem.Builtin.Str
section
variable {prog : Program} {w : World} {A : Around} {s : Shared} {μ μ' : Mem} {g : Gh} {a b v : V} {x y : Value}

theorem isPart_value {vl : Value} {lo : Option Int} (h : IsPart vl lo) : ∃ p : Option (Int × Tok), vl = partValue p ∧ p.map (·.1) = lo := by
  cases h with
  | none => exact ⟨none, rfl, rfl⟩
  | int i t => exact ⟨some (i, t), rfl, rfl⟩

theorem slice_ok {lo hi st : Option Int} {p : Addr} {vl vu vs : Value} (e : slice a lo hi st μ = some (v, μ')) (L : Lists μ g s.heap) (B : Book g.bk s.toks) (ha : VR g s.heap a x)
    (hs : s.heap.IsSliceOf p vl vu vs) (h1 : IsPart vl lo) (h2 : IsPart vu hi) (h3 : IsPart vs st) : WP prog w A (getItem x (.ref p)) (RV s μ g v μ') s := by
  unfold slice at e
  split at e
  · rename_i m
    obtain ⟨q, hq, rfl⟩ := ha
    split at e
    · cases e
    · rename_i hst
      split at e
      · rename_i l el
        obtain ⟨hz, rfl, rfl⟩ := newList_some e
        obtain ⟨q', its, e1, e2, e3, e4⟩ := L.at_ m l el
        rw [hq] at e1; cases e1
        have hsz : l.length = its.size := by rw [e3.length, Array.length_toList]
        refine wpAny_getItem_list_slice e2.isList hs h1 h2 h3 hst ?_ (by rw [← hsz]; exact Nat.le_trans e4 lim_sizeLine)
        refine rv_push (s := s) (vals := (slicePick its lo hi st).toList) L B (Nat.le_refl _) (fun _ _ e => e) ?_ hz (by simp)
        unfold slicePick pick
        rw [← hsz]
        have := L2.pick e3 (sliceRange (sliceBounds lo hi st l.length).1 (sliceBounds lo hi st l.length).2.1 (sliceBounds lo hi st l.length).2.2)
        simpa using this
      · cases e
  · rename_i z
    obtain ⟨⟨t, rfl⟩, hz⟩ := ha
    split at e
    · rename_i hst
      subst hst
      obtain ⟨hz', rfl, rfl⟩ := newStr_some e
      obtain ⟨pl, rfl, rfl⟩ := isPart_value h1
      obtain ⟨pu, rfl, rfl⟩ := isPart_value h2
      cases h3
      refine wpAny_getItem_str_slice (st := none) hs rfl ?_
      unfold sliceMade
      unfold Txt.slice at hz' ⊢
      have e0 : slicePicked z pl pu none = strSliceIndices (pl.map (·.1)) (pu.map (·.1)) 1 z.length := rfl
      rw [e0]
      split
      · rename_i hw
        have hw' : ((1 : Int) == 1 && (strSliceIndices (pl.map (·.1)) (pu.map (·.1)) 1 z.length).length == z.length) = true := hw
        rw [if_pos hw']
        exact rv_atom0 L B ⟨⟨_, rfl⟩, hz⟩
      · rename_i hw
        have hw' : ¬ ((1 : Int) == 1 && (strSliceIndices (pl.map (·.1)) (pu.map (·.1)) 1 z.length).length == z.length) = true := hw
        rw [if_neg hw'] at hz' ⊢
        refine ⟨Nat.le_trans hz' lim_sizeLine, ?_⟩
        exact rv_atom L B (Nat.le_succ _) ⟨⟨_, rfl⟩, hz'⟩
    · cases e
  · cases e

/-- an item or a slice in an expression -/
theorem sub_ok {env : Env} {value sl : Expr} {pos : Pos} {Q : Value → Shared → Prop}
    (h : WP prog w A (eval value env) (fun o s₁ => WP prog w A (eval sl env) (fun i s₂ => (∃ T id, s₂.TypeIs o T ∧ typeLookup (.type T) "__getitem__" = pure (some (.builtin id))) ∧ WP prog w A (getItem o i) Q s₂) s₁) s) :
    WP prog w A (eval (.Subscript value sl pos) env) Q s := by
  refine Subscript_ (WP.mono h fun o s₁ h₁ => WP.mono h₁ fun i s₂ h₂ => ?_)
  obtain ⟨⟨T, id, hT, hl⟩, hq⟩ := h₂
  have e : ∃ ops, subscripted sl false o i = operate ops (getItem o i) := by
    unfold subscripted
    split
    · exact ⟨_, rfl⟩
    · exact absurd ‹false = true› Bool.false_ne_true
    · exact ⟨_, rfl⟩
  obtain ⟨ops, e⟩ := e
  exact tail_any hT hl hq e
theorem VR.getT {a : V} {x : Value} (L : Lists μ g s.heap) (h : VR g s.heap a x) (hne : (index a b μ).isSome = true ∨ ∃ lo hi st, (slice a lo hi st μ).isSome = true) :
    ∃ T id, s.TypeIs x T ∧ typeLookup (.type T) "__getitem__" = pure (some (.builtin id)) := by
  cases a with
  | lst n =>
    obtain ⟨p, hp, rfl⟩ := h
    have hn : n < μ.length := by rw [← L.len]; exact (List.getElem?_eq_some_iff.mp hp).1
    obtain ⟨q, its, e1, e2, _⟩ := L.at_ n μ[n] (List.getElem?_eq_getElem hn)
    rw [hp] at e1; cases e1
    exact ⟨"list", _, e2.isList.typeIs, slot_list_getitem.lookup⟩
  | tup l =>
    obtain ⟨p, vals, rfl, ⟨o, h1, h2, _⟩, _⟩ := h
    exact ⟨"tuple", _, ⟨o, h1, h2⟩, PySem.F.slot_tuple_getitem.lookup⟩
  | a0 k =>
    cases k with
    | str z => obtain ⟨⟨t, rfl⟩, _⟩ := h; exact ⟨"str", _, typeIs_str s z t, PySem.F.slot_str_getitem.lookup⟩
    | none => rcases hne with h | ⟨lo, hi, st, h⟩ <;> simp [index, slice] at h
    | bool => rcases hne with h | ⟨lo, hi, st, h⟩ <;> simp [index, slice] at h
    | int => rcases hne with h | ⟨lo, hi, st, h⟩ <;> simp [index, slice] at h
end
end Mine
namespace Mine
open PySem PySem.Calls PyProof.Rows PySem.Builtin PySem.Builtin.Str
section
variable {prog : Program} {w : World} {A : Around} {s : Shared} {μ μ' : Mem} {g : Gh} {a b v : V} {x y : Value}

theorem ints_items {bk : Tok → Option Int} {h : Heap} : ∀ {l : List V} {is : List Int} {vl : List Value}, allInts l = some is → L2 (IR bk h) l vl → ∃ xs : List (Int × Tok), vl = xs.map (fun p => .int p.1 p.2) ∧ xs.map (·.1) = is
  | [], is, [], e, _ => by cases e; exact ⟨[], rfl, rfl⟩
  | .a0 (.int i o) :: l, is, u :: vl, e, H => by
    obtain ⟨r, er, rfl⟩ := Option.map_eq_some_iff.mp (show (allInts l).map (i :: ·) = some is from e)
    obtain ⟨t, rfl, _⟩ := H.1
    obtain ⟨xs, e1, e2⟩ := ints_items er H.2
    exact ⟨(i, t) :: xs, by rw [e1]; rfl, by rw [List.map_cons, e2]⟩
  | .a0 .none :: _, _, _, e, _ | .a0 (.bool _) :: _, _, _, e, _ | .a0 (.str _) :: _, _, _, e, _ | .tup _ :: _, _, _, e, _ | .lst _ :: _, _, _, e, _ => by simp [allInts] at e
  | [], _, _ :: _, _, H => H.elim
  | _ :: _, _, [], _, H => H.elim
theorem strs_items {bk : Tok → Option Int} {h : Heap} : ∀ {l : List V} {is : List Str} {vl : List Value}, allStrs l = some is → L2 (IR bk h) l vl → StrsAre vl is ∧ ∀ z ∈ is, z.length ≤ lim
  | [], is, [], e, _ => by cases e; exact ⟨.nil, fun _ h => (nomatch h)⟩
  | .a0 (.str x) :: l, is, u :: vl, e, H => by
    obtain ⟨r, er, rfl⟩ := Option.map_eq_some_iff.mp (show (allStrs l).map (x :: ·) = some is from e)
    obtain ⟨⟨t, rfl⟩, hz⟩ := H.1
    obtain ⟨e1, e2⟩ := strs_items er H.2
    exact ⟨.cons _ _ e1, fun y hy => by
      rcases List.mem_cons.mp hy with rfl | hy
      · exact hz
      · exact e2 y hy⟩
  | .a0 .none :: _, _, _, e, _ | .a0 (.bool _) :: _, _, _, e, _ | .a0 (.int _ _) :: _, _, _, e, _ | .tup _ :: _, _, _, e, _ | .lst _ :: _, _, _, e, _ => by simp [allStrs] at e
  | [], _, _ :: _, _, H => H.elim
  | _ :: _, _, [], _, H => H.elim

theorem bcall_ok {f : Str} {args : List V} {vals : List Value} (e : bcall f args μ = some (v, μ')) (hA : AOk 4 A) (L : Lists μ g s.heap) (B : Book g.bk s.toks) (H : L2 (VR g s.heap) args vals) :
    ∃ F, bootBuiltins f = some F ∧ ((∃ id, F = .builtin id) ∨ ∃ T, F = .type T) ∧ WP prog w A (call F vals) (RV s μ g v μ') s := by
  unfold bcall at e
  split at e
  · rename_i hf; subst hf
    refine ⟨.builtin "len", by decide +kernel, .inl ⟨_, rfl⟩, ?_⟩
    split at e
    · rename_i n
      match vals, H with
      | [x], H =>
        obtain ⟨p, hp, rfl⟩ := H.1
        obtain ⟨l, el, h⟩ := Option.map_eq_some_iff.mp e
        cases h
        obtain ⟨q', its, e1, e2, e3, e4⟩ := L.at_ n l el
        rw [hp] at e1; cases e1
        have hsz : l.length = its.size := by rw [e3.length, Array.length_toList]
        have h63 := len63 e4
        rw [hsz]
        exact len_list e2.isList (by (first | lia | omega)) (rv_int L B (Nat.le_succ _) (Nat.lt_succ_self _))
    · rename_i z
      match vals, H with
      | [x], H =>
        obtain ⟨⟨t, rfl⟩, hz⟩ := H.1
        cases e
        have h63 := len63 hz
        exact P.len_str (by (first | lia | omega)) (rv_int L B (Nat.le_succ _) (Nat.lt_succ_self _))
    · cases e
  split at e
  · rename_i hf; subst hf
    refine ⟨.builtin "chr", by decide +kernel, .inl ⟨_, rfl⟩, ?_⟩
    split at e
    · match vals, H with
      | [x], H =>
        obtain ⟨t, rfl, _⟩ := H.1
        split at e
        · rename_i hi
          cases e
          refine P.chr_of_int (by simp; (first | lia | omega)) (rv_atom L B (Nat.le_succ _) ⟨⟨_, rfl⟩, ?_⟩)
          show 1 ≤ lim
          decide
        · cases e
    · cases e
  split at e
  · rename_i hf; subst hf
    refine ⟨.builtin "ord", by decide +kernel, .inl ⟨_, rfl⟩, ?_⟩
    split at e
    · match vals, H with
      | [x], H =>
        obtain ⟨⟨t, rfl⟩, _⟩ := H.1
        split at e
        · rename_i hi
          cases e
          exact ord_of_one hi (rv_int L B (Nat.le_refl _) (Nat.lt_succ_self _))
        · cases e
    · cases e
  split at e
  · rename_i hf; subst hf
    refine ⟨.builtin "sum", by decide +kernel, .inl ⟨_, rfl⟩, ?_⟩
    split at e
    · rename_i n
      match vals, H with
      | [x], H =>
        obtain ⟨p, hp, rfl⟩ := H.1
        obtain ⟨is, ei, h⟩ := Option.map_eq_some_iff.mp e
        cases h
        replace ei := Option.bind_eq_some_iff.mp ei
        obtain ⟨l, el, ei⟩ := ei
        obtain ⟨q', its, e1, e2, e3, e4⟩ := L.at_ n l el
        rw [hp] at e1; cases e1
        obtain ⟨xs, h1, h2⟩ := ints_items ei e3
        have e2' := e2.isList
        have h3 : its = intItems xs.toArray := by
          apply Array.toList_inj.mp
          rw [h1]; simp [intItems]
        rw [h3] at e2'
        refine WP.tok (sum_intListG hA.handled e2' fun h' tk t' hk ht => ⟨g, Step.of_keeps L B ⟨h', tk, rfl, hk⟩ ht, ⟨t', ?_, fun q => by cases q⟩⟩)
        rw [preSum_eq, List.take_of_length_le (by simp)]
        rw [← h2]
    · cases e
  split at e
  · rename_i hf; subst hf
    refine ⟨.builtin "min", by decide +kernel, .inl ⟨_, rfl⟩, ?_⟩
    split at e
    · rename_i n
      match vals, H with
      | [x], H =>
        obtain ⟨p, hp, rfl⟩ := H.1
        replace e := Option.bind_eq_some_iff.mp e
        obtain ⟨l, el, e⟩ := e
        replace e := Option.bind_eq_some_iff.mp e
        obtain ⟨is, ei, e⟩ := e
        split at e
        · rename_i hpos
          obtain ⟨r, er, h⟩ := Option.map_eq_some_iff.mp e
          cases h
          obtain ⟨q', its, e1, e2, e3, e4⟩ := L.at_ n l el
          rw [hp] at e1; cases e1
          obtain ⟨xs, h1, h2⟩ := ints_items ei e3
          have e2' := e2.isList
          have h3 : its = intItems xs.toArray := by
            apply Array.toList_inj.mp
            rw [h1]; simp [intItems]
          rw [h3] at e2'
          have hn : ∀ i, numAt xs.toArray i = is.getD i 0 := by
            intro i; rw [← h2]; simp [numAt]
          have hsz : xs.toArray.size = is.length := by rw [← h2]; simp
          refine WP.tok (min_intList hA.handled e2' (by rw [hsz]; exact hpos) fun v' h' tk hv hk ht => ⟨g, Step.of_keeps L B ⟨h', tk, rfl, hk⟩ ht, ?_⟩)
          obtain ⟨u, eu, hu⟩ := e3.get er
          have : (fun i j => decide (numAt xs.toArray i < numAt xs.toArray j)) = fun i j => decide (is.getD i 0 < is.getD j 0) := by
            funext i j; rw [hn, hn]
          rw [this, hsz, ← h3, ← Array.getElem?_toList, eu] at hv
          cases hv
          exact (hu.grow hk fun _ _ e => e).vr
        · cases e
    · cases e
  split at e
  · rename_i hf; subst hf
    refine ⟨.builtin "max", by decide +kernel, .inl ⟨_, rfl⟩, ?_⟩
    split at e
    · rename_i n
      match vals, H with
      | [x], H =>
        obtain ⟨p, hp, rfl⟩ := H.1
        replace e := Option.bind_eq_some_iff.mp e
        obtain ⟨l, el, e⟩ := e
        replace e := Option.bind_eq_some_iff.mp e
        obtain ⟨is, ei, e⟩ := e
        split at e
        · rename_i hpos
          obtain ⟨r, er, h⟩ := Option.map_eq_some_iff.mp e
          cases h
          obtain ⟨q', its, e1, e2, e3, e4⟩ := L.at_ n l el
          rw [hp] at e1; cases e1
          obtain ⟨xs, h1, h2⟩ := ints_items ei e3
          have e2' := e2.isList
          have h3 : its = intItems xs.toArray := by
            apply Array.toList_inj.mp
            rw [h1]; simp [intItems]
          rw [h3] at e2'
          have hn : ∀ i, numAt xs.toArray i = is.getD i 0 := by
            intro i; rw [← h2]; simp [numAt]
          have hsz : xs.toArray.size = is.length := by rw [← h2]; simp
          refine WP.tok (max_intList hA.handled e2' (by rw [hsz]; exact hpos) fun v' h' tk hv hk ht => ⟨g, Step.of_keeps L B ⟨h', tk, rfl, hk⟩ ht, ?_⟩)
          obtain ⟨u, eu, hu⟩ := e3.get er
          have : (fun i j => decide (numAt xs.toArray i > numAt xs.toArray j)) = fun i j => decide (is.getD i 0 > is.getD j 0) := by
            funext i j; rw [hn, hn]
          rw [this, hsz, ← h3, ← Array.getElem?_toList, eu] at hv
          cases hv
          exact (hu.grow hk fun _ _ e => e).vr
        · cases e
    · cases e
  split at e
  · rename_i hf; subst hf
    refine ⟨.type "str", by decide +kernel, .inr ⟨_, rfl⟩, ?_⟩
    split at e
    · match vals, H with
      | [x], H =>
        obtain ⟨t, rfl, _⟩ := H.1
        split at e
        · rename_i i o hi
          obtain ⟨hz, rfl, rfl⟩ := newStr_some e
          have := log_big hi
          exact P.str_of_int (by (first | lia | omega)) (rv_atom L B (Nat.le_succ _) ⟨⟨_, rfl⟩, hz⟩)
        · cases e
    · cases e
  split at e
  · rename_i hf; subst hf
    refine ⟨.type "int", by decide +kernel, .inr ⟨_, rfl⟩, ?_⟩
    split at e
    · match vals, H with
      | [x], H =>
        obtain ⟨⟨t, rfl⟩, _⟩ := H.1
        split at e
        · rename_i hi
          obtain ⟨n, hn, h⟩ := Option.map_eq_some_iff.mp e
          cases h
          exact W.KIN.call_text hn hi (rv_int L B (Nat.le_refl _) (Nat.lt_succ_self _))
        · cases e
    · cases e
  cases e
end
end Mine
namespace Mine
open PySem PySem.Calls PyProof.Rows PySem.Builtin PySem.Builtin.Str
section
variable {prog : Program} {w : World} {A : Around} {s : Shared} {μ μ' : Mem} {g : Gh} {a b v : V} {x y : Value}

theorem strs_ir {bk : Tok → Option Int} {h : Heap} : ∀ (l : List (Str × Tok)), (∀ z ∈ l.map (·.1), z.length ≤ lim) → L2 (IR bk h) ((l.map (·.1)).map vstr) (strValues l)
  | [], _ => trivial
  | (z, t) :: l, H => ⟨⟨⟨t, rfl⟩, H z (by simp)⟩, strs_ir l fun y hy => H y (by simp at hy ⊢; exact .inr hy)⟩

theorem split_ok {z y : Str} {t u : Tok} (L : Lists μ g s.heap) (B : Book g.bk s.toks) (hz : z.length ≤ lim) (hy : y.length ≠ 0) (hl : (Txt.split z y).length ≤ lim) (hp : ∀ q ∈ Txt.split z y, q.length ≤ lim) :
    WP prog w A (call (.builtin "str.split") [.str z t, .str y u]) (RV s μ g (.lst μ.length) (μ ++ [(Txt.split z y).map vstr])) s := by
  have hy' : (y.length == 0) = false := by simp [hy]
  have fin : ∀ (l : List (Str × Tok)) (k : Nat), s.toks ≤ k → l.map (·.1) = Txt.split z y → RV s μ g (.lst μ.length) (μ ++ [(Txt.split z y).map vstr]) (.ref s.heap.objs.size) { s with heap := s.heap.push { cls := .type "list", data := .seq (strValues l).toArray }, toks := k } := by
    intro l k hk he
    rw [← he]
    exact rv_push (s := s) L B hk (fun _ _ e => e) (strs_ir l (by rw [he]; exact hp)) (by rw [List.length_map, he]; exact hl) rfl
  cases h1 : (decide (z.length < y.length) || decide (strKind z < strKind y))
  · cases hf : (occurrences z y 0 z.length (z.length + 1)).isEmpty
    · have hs : Txt.split z y = partsBetween z (occurrences z y 0 z.length (z.length + 1)) y.length := (if_neg (ne_true_of_eq_false h1)).trans (if_neg (ne_true_of_eq_false hf))
      refine call_meets F.slot_str_split (typeIs_str _ _ _) F.entry_str_split (F.args_str_split_2 _ _) (meets_str_split_sep z y t u h1 hy' hf (Nat.le_trans hz lim_sizeLine) (by rw [← hs]; exact Nat.le_trans hl lim_sizeLine)) ?_
      show wants _ _ _ { s with toks := _, heap := s.heap.push { cls := .type "list", data := .seq (strsFrom s.toks (partsBetween z (occurrences z y 0 z.length (z.length + 1)) y.length)).toArray } }
      rw [strsFrom_eq]
      exact fin (numbered s.toks _) _ (Nat.le_add_right _ _) ((numbered_texts _ _).trans hs.symm)
    · exact call_meets F.slot_str_split (typeIs_str _ _ _) F.entry_str_split (F.args_str_split_2 _ _) (meets_str_split_not_found z y t u h1 hy' hf)
        (fin [(z, t)] s.toks (Nat.le_refl _) ((if_neg (ne_true_of_eq_false h1)).trans (if_pos hf)).symm)
  · exact call_meets F.slot_str_split (typeIs_str _ _ _) F.entry_str_split (F.args_str_split_2 _ _) (meets_str_split_cannot_occur z y t u h1)
      (fin [(z, t)] s.toks (Nat.le_refl _) (if_pos h1).symm)

theorem gives_str_find4 (x y : Str) (i j : Int) (t u v v' : Tok) : Gives («str.find» ⟨[.str x t, .str y u, .int i v, .int j v'], []⟩) (.int (find4 x y i j)) := by
  show Gives (match occurrences x y (fromIndex x.length i) (min (fromIndex x.length j) x.length) 1 with | k :: _ => retInt k | [] => (do rule "str.find.not-found"; retInt (-1))) _
  unfold find4
  cases occurrences x y (fromIndex x.length i) (min (fromIndex x.length j) x.length) 1 with
  | nil => exact .rule (.of_eq rfl)
  | cons k _ => exact .of_eq rfl
theorem find4_ok {z y : Str} {i j : Int} {t u v v' : Tok} {Q : Value → Shared → Prop} (h : Q (.int (find4 z y i j) s.toks) { s with toks := s.toks + 1 }) :
    WP prog w A (call (.builtin "str.find") [.str z t, .str y u, .int i v, .int j v']) Q s :=
  call_gives F.slot_str_find (typeIs_str _ _ _) F.entry_str_find (F.args_str_find_4 _ _ _ _) (gives_str_find4 z y i j t u v v') h

theorem strs_len : ∀ {l : List Str}, (∀ z ∈ l, z.length ≤ lim) → True := fun _ => trivial

/-- a method of a str -/
theorem mcall_ok {o : V} {m : Str} {args : List V} (e : mcall o m args μ = some (v, μ')) : (∃ z, o = vstr z) ∧ ∃ id, Slot "str" m id ∧ typeOf (.builtin id) = pure (.type "method_descriptor") ∧
    ∀ {A : Around} {s : Shared} {g : Gh} {ov : Value} {vals : List Value}, Lists μ g s.heap → Book g.bk s.toks → VR g s.heap o ov → L2 (VR g s.heap) args vals → WP prog w A (call (.builtin id) (ov :: vals)) (RV s μ g v μ') s := by
  unfold mcall at e
  split at e
  · rename_i z
    refine ⟨⟨z, rfl⟩, ?_⟩
    split at e
    · rename_i hf; subst hf
      refine ⟨"str.startswith", F.slot_str_startswith, F.type_str_startswith, fun {A s g ov vals} L B ho H => ?_⟩
      obtain ⟨⟨t, rfl⟩, hz⟩ := ho
      split at e
      · match vals, H with
        | [x], H =>
          obtain ⟨⟨u, rfl⟩, _⟩ := H.1
          cases e
          exact SC.startswith (rv_atom0 L B rfl)
      · cases e
    split at e
    · rename_i hf; subst hf
      refine ⟨"str.endswith", F.slot_str_endswith, F.type_str_endswith, fun {A s g ov vals} L B ho H => ?_⟩
      obtain ⟨⟨t, rfl⟩, hz⟩ := ho
      split at e
      · match vals, H with
        | [x], H =>
          obtain ⟨⟨u, rfl⟩, _⟩ := H.1
          cases e
          exact SC.endswith (rv_atom0 L B rfl)
      · cases e
    split at e
    · rename_i hf; subst hf
      refine ⟨"str.find", F.slot_str_find, F.type_str_find, fun {A s g ov vals} L B ho H => ?_⟩
      obtain ⟨⟨t, rfl⟩, hz⟩ := ho
      split at e
      · match vals, H with
        | [x], H =>
          obtain ⟨⟨u, rfl⟩, _⟩ := H.1
          cases e
          exact SC.find (rv_int L B (Nat.le_refl _) (Nat.lt_succ_self _))
      · match vals, H with
        | [x, x'], H =>
          obtain ⟨⟨u, rfl⟩, _⟩ := H.1
          obtain ⟨u', rfl, _⟩ := H.2.1
          cases e
          exact SC.find3 (rv_int L B (Nat.le_refl _) (Nat.lt_succ_self _))
      · match vals, H with
        | [x, x', x''], H =>
          obtain ⟨⟨u, rfl⟩, _⟩ := H.1
          obtain ⟨u', rfl, _⟩ := H.2.1
          obtain ⟨u'', rfl, _⟩ := H.2.2.1
          cases e
          exact find4_ok (rv_int L B (Nat.le_refl _) (Nat.lt_succ_self _))
      · cases e
    split at e
    · rename_i hf; subst hf
      refine ⟨"str.split", F.slot_str_split, F.type_str_split, fun {A s g ov vals} L B ho H => ?_⟩
      obtain ⟨⟨t, rfl⟩, hz⟩ := ho
      split at e
      · match vals, H with
        | [x], H =>
          obtain ⟨⟨u, rfl⟩, _⟩ := H.1
          split at e
          · cases e
          · rename_i hg
            obtain ⟨hl, rfl, rfl⟩ := newList_some e
            simp only [not_or, List.any_eq_true, decide_eq_true_eq, not_exists, not_and, Nat.not_lt] at hg
            exact split_ok L B hz hg.1 (by rw [List.length_map] at hl; exact hl) hg.2
      · cases e
    split at e
    · rename_i hf; subst hf
      refine ⟨"str.join", F.slot_str_join, F.type_str_join, fun {A s g ov vals} L B ho H => ?_⟩
      obtain ⟨⟨t, rfl⟩, hz⟩ := ho
      split at e
      · rename_i n
        match vals, H with
        | [x], H =>
          obtain ⟨p, hp, rfl⟩ := H.1
          replace e := Option.bind_eq_some_iff.mp e
          obtain ⟨ls, el, e⟩ := e
          replace el := Option.bind_eq_some_iff.mp el
          obtain ⟨l, el, ei⟩ := el
          split at e
          · rename_i hg
            obtain ⟨hl, rfl, rfl⟩ := newStr_some e
            obtain ⟨q', its, e1, e2, e3, e4⟩ := L.at_ n l el
            rw [hp] at e1; cases e1
            obtain ⟨h1, h2⟩ := strs_items ei e3
            have hl' : lim ≤ 16777216 := by decide
            exact WP.tok (join_list e2.isList h1 (Nat.le_trans hg hl') fun t' k hk => rv_atom L B hk ⟨⟨_, rfl⟩, hl⟩)
          · cases e
      · cases e
    split at e
    · rename_i hf; subst hf
      refine ⟨"str.lower", F.slot_str_lower, F.type_str_lower, fun {A s g ov vals} L B ho H => ?_⟩
      obtain ⟨⟨t, rfl⟩, hz⟩ := ho
      split at e
      · rename_i ha; subst ha
        match vals, H with
        | [], H =>
          obtain ⟨hl, rfl, rfl⟩ := newStr_some e
          refine SC.lower ?_ (rv_atom L B (Nat.le_succ _) ⟨⟨_, rfl⟩, hl⟩)
          have := Nat.le_trans hl lim_sizeLine
          unfold tooLong
          simp; (first | lia | omega)
      · cases e
    split at e
    · rename_i hf; subst hf
      refine ⟨"str.upper", F.slot_str_upper, F.type_str_upper, fun {A s g ov vals} L B ho H => ?_⟩
      obtain ⟨⟨t, rfl⟩, hz⟩ := ho
      split at e
      · rename_i ha; subst ha
        match vals, H with
        | [], H =>
          obtain ⟨hl, rfl, rfl⟩ := newStr_some e
          refine SC.upper ?_ (rv_atom L B (Nat.le_succ _) ⟨⟨_, rfl⟩, hl⟩)
          have := Nat.le_trans hl lim_sizeLine
          unfold tooLong
          simp; (first | lia | omega)
      · cases e
    cases e
  · cases e
end
end Mine
namespace Mine
open PySem PySem.Calls PyProof.Rows PySem.Builtin PySem.Builtin.Str

/-- all objects but those of W are kept -/
noncomputable abbrev KeepsW (W : Addr → Prop) (h h' : Heap) : Prop := ∀ b o, ¬ W b → h.get? b = some o → h'.get? b = some o
/-- no object of W is a tuple -/
noncomputable abbrev NoTup (W : Addr → Prop) (h : Heap) : Prop := ∀ b, W b → ∀ vals, ¬ IsTup h b vals
section
variable {W W' : Addr → Prop} {h h' h'' : Heap} {bk : Tok → Option Int} {g : Gh} {a : V} {v : Value} {μ : Mem}
theorem KeepsW.of (k : KeepsH h h') : KeepsW W h h' := fun b o _ e => k b o e
theorem KeepsW.mono (k : KeepsW W h h') (hw : ∀ b, W b → W' b) : KeepsW W' h h' := fun b o n e => k b o (fun x => n (hw b x)) e
theorem KeepsW.trans (k : KeepsW W h h') (k' : KeepsW W h' h'') : KeepsW W h h'' := fun b o n e => k' b o n (k b o n e)
theorem KeepsW.sameBut {b : Addr} (k : Heap.SameBut b h h') : KeepsW (· = b) h h' := fun c o n e => k.extBut c o n e
theorem IR.but (x : IR bk h a v) (k : KeepsW W h h') (n : NoTup W h) : IR bk h' a v := by
  cases a with
  | a0 => exact x
  | tup l =>
    obtain ⟨p, vals, e, t, r, r'⟩ := x
    obtain ⟨o, ho, r2⟩ := id t
    exact ⟨p, vals, e, ⟨o, k p o (fun hw => n p hw vals t) ho, r2⟩, r, r'⟩
  | lst => exact x.elim
theorem VR.but (x : VR g h a v) (k : KeepsW W h h') (n : NoTup W h) : VR g h' a v := by
  cases a with
  | a0 => exact x
  | tup l =>
    obtain ⟨p, vals, e, t, r, r'⟩ := x
    obtain ⟨o, ho, r2⟩ := id t
    exact ⟨p, vals, e, ⟨o, k p o (fun hw => n p hw vals t) ho, r2⟩, r, r'⟩
  | lst => exact x
theorem Lists.but (x : Lists μ g h) (k : KeepsW W h h') (n : NoTup W h) (hw : ∀ p ∈ g.ad, ¬ W p) : Lists μ g h' :=
  ⟨x.len, x.nd, fun i l e => let ⟨p, vals, e1, e2, e3, e4⟩ := x.at_ i l e
    ⟨p, vals, e1, e2.at fun o e => k _ o (hw p (List.mem_of_getElem? e1)) e, e3.mono fun _ _ r => r.but k n, e4⟩⟩
theorem Lists.but_item {l : List V} {vals : List Value} (x : L2 (IR bk h) l vals) (k : KeepsW W h h') (n : NoTup W h) : L2 (IR bk h') l vals := x.mono fun _ _ r => r.but k n
theorem FrameR.but {env : Env} {c : Cfg} {ρ : Loc} (x : FrameR env c ρ g h) (k : KeepsW W h h') (n : NoTup W h) (hl : ¬ W env.locals) (hc : ∀ y a, c.names.lookup y = some .cell → env.cells.lookup y = some a → ¬ W a) : FrameR env c ρ g h' :=
  ⟨let ⟨m, hm, hv⟩ := x.ns; ⟨m, hm.at' fun o e => k _ o hl e, fun z v e q => let ⟨val, e1, e2⟩ := hv z v e q; ⟨val, e1, e2.but k n⟩⟩,
    fun z q => let ⟨a, o, e1, e2, e3⟩ := x.cells z q; ⟨a, o, e1, (let ⟨ob, ho, r⟩ := e2; ⟨ob, k _ _ (hc z a q e1) ho, r⟩), fun v e => let ⟨val, f1, f2⟩ := e3 v e; ⟨val, f1, f2.but k n⟩⟩⟩

/-! what an object is -/
theorem ns_noTup {p : Addr} {m : Str → Option Value} (x : h.Ns p m) (vals : Array Value) : ¬ IsTup h p vals := fun ⟨o, ho, _, n, hd⟩ => by
  obtain ⟨o', es, ep, ho', hd', _⟩ := x
  rw [ho] at ho'; first | exact no_some ho' | cases ho'
  rw [hd] at hd'; first | exact no_some hd' | cases hd'
theorem cell_noTup {p : Addr} {m : Option Value} (x : h.IsCell p m) (vals : Array Value) : ¬ IsTup h p vals := fun ⟨o, ho, _, n, hd⟩ => by
  obtain ⟨o', ho', hd'⟩ := x
  rw [ho] at ho'; first | exact no_some ho' | cases ho'
  rw [hd] at hd'; first | exact no_some hd' | cases hd'
theorem list_noTup {p : Addr} {its : Array Value} (x : h.PlainList p its) (vals : Array Value) : ¬ IsTup h p vals := fun ⟨o, ho, hc, n, hd⟩ => by
  obtain ⟨n', ho'⟩ := x
  rw [ho] at ho'; first | exact no_some ho' | cases ho'
  exact absurd (Value.type.inj hc) (by decide)
theorem Lists.noTup (x : Lists μ g h) {p : Addr} (hp : p ∈ g.ad) (vals : Array Value) : ¬ IsTup h p vals := by
  obtain ⟨n, hn, e⟩ := List.getElem_of_mem hp
  have hl : n < μ.length := by rw [← x.len]; exact hn
  obtain ⟨q, its, e1, e2, _⟩ := x.at_ n μ[n] (by rw [List.getElem?_eq_getElem hl])
  rw [List.getElem?_eq_getElem hn, e] at e1
  cases e1
  exact list_noTup e2 vals
theorem Lists.plain (x : Lists μ g h) {p : Addr} (hp : p ∈ g.ad) : ∃ its, h.PlainList p its := by
  obtain ⟨n, hn, e⟩ := List.getElem_of_mem hp
  have hl : n < μ.length := by rw [← x.len]; exact hn
  obtain ⟨q, its, e1, e2, _⟩ := x.at_ n μ[n] (by rw [List.getElem?_eq_getElem hl])
  rw [List.getElem?_eq_getElem hn, e] at e1
  cases e1
  exact ⟨its, e2⟩

/-- an iterator's object -/
noncomputable def IsIter (h : Heap) (b : Addr) : Prop := ∃ o fs, h.get? b = some o ∧ o.data = .fields fs
theorem iter_noTup {p : Addr} (x : IsIter h p) (vals : Array Value) : ¬ IsTup h p vals := fun ⟨o, ho, _, n, hd⟩ => by
  obtain ⟨o', fs, ho', hd'⟩ := x
  rw [ho] at ho'; first | exact no_some ho' | cases ho'
  rw [hd] at hd'; first | exact no_some hd' | cases hd'
theorem iter_noList {p : Addr} (x : IsIter h p) {its : Array Value} : ¬ h.PlainList p its := fun ⟨n, ho⟩ => by
  obtain ⟨o', fs, ho', hd'⟩ := x
  rw [ho] at ho'; first | exact no_some ho' | cases ho'
  cases hd'
theorem iter_noNs {p : Addr} (x : IsIter h p) {m : Str → Option Value} : ¬ h.Ns p m := fun ⟨o, es, ep, ho, hd, _⟩ => by
  obtain ⟨o', fs, ho', hd'⟩ := x
  rw [ho] at ho'; first | exact no_some ho' | cases ho'
  rw [hd] at hd'; first | exact no_some hd' | cases hd'
theorem iter_noCell {p : Addr} (x : IsIter h p) {m : Option Value} : ¬ h.IsCell p m := fun ⟨o, ho, hd⟩ => by
  obtain ⟨o', fs, ho', hd'⟩ := x
  rw [ho] at ho'; first | exact no_some ho' | cases ho'
  rw [hd] at hd'; first | exact no_some hd' | cases hd'
theorem ns_noList {p : Addr} {m : Str → Option Value} (x : h.Ns p m) {its : Array Value} : ¬ h.PlainList p its := fun ⟨n, ho⟩ => by
  obtain ⟨o', es, ep, ho', hd', _⟩ := x
  rw [ho] at ho'; first | exact no_some ho' | cases ho'
  cases hd'
theorem ns_noCell {p : Addr} {m : Str → Option Value} (x : h.Ns p m) {v : Option Value} : ¬ h.IsCell p v := fun ⟨o, ho, hd⟩ => by
  obtain ⟨o', es, ep, ho', hd', _⟩ := x
  rw [ho] at ho'; first | exact no_some ho' | cases ho'
  rw [hd] at hd'; first | exact no_some hd' | cases hd'
theorem cell_noList {p : Addr} {m : Option Value} (x : h.IsCell p m) {its : Array Value} : ¬ h.PlainList p its := fun ⟨n, ho⟩ => by
  obtain ⟨o', ho', hd'⟩ := x
  rw [ho] at ho'; first | exact no_some ho' | cases ho'
  cases hd'
end

theorem upd_lookup (x : Str) (v : V) : ∀ (ρ : Loc) (y : Str), (upd x v ρ).lookup y = if y = x then some v else ρ.lookup y
  | [], y => by
    unfold upd
    by_cases h : y = x
    · subst h; simp
    · simp [h, List.lookup_cons, beq_eq_false_iff_ne.mpr h]
  | (z, w) :: r, y => by
    unfold upd
    by_cases hz : x = z
    · subst hz
      by_cases h : y = x
      · subst h; simp
      · simp [h, List.lookup_cons, beq_eq_false_iff_ne.mpr h]
    · rw [if_neg hz]
      by_cases h : y = z
      · subst h
        have : ¬ y = x := fun e => hz e.symm
        simp [this]
      · simp only [List.lookup_cons, beq_eq_false_iff_ne.mpr h]
        exact upd_lookup x v r y

/-! loops' sources -/
/-- the iterator I of the source src stands before its i-th item; what it is made of is new against hb -/
noncomputable def ItSt (hb : Heap) (tgt : Expr) (I : Addr) (src : Src) (i : Nat) (g : Gh) (h : Heap) : Prop :=
  hb.get? I = none ∧
  ((∃ (a : Int) (n : Nat), src = ⟨(List.range n).map fun (k : Nat) => vraw (a + k), none⟩ ∧ i ≤ n ∧ IsRangeIter h I (a + i) ((n : Int) - (i : Nat)) 1) ∨
  (∃ m p, src.chk = some (m, src.items) ∧ i ≤ src.items.length ∧ g.ad[m]? = some p ∧ h.IsListIter I p i) ∨
  (∃ m p l it old, isTupT tgt = true ∧ src.chk = some (m, l) ∧ enumV l = some src.items ∧ i ≤ src.items.length ∧ g.ad[m]? = some p ∧ hb.get? it = none ∧ IsEnum h I it (i : Nat) old ∧ h.IsListIter it p i))

theorem ItSt.iter {hb h : Heap} {tgt : Expr} {I : Addr} {src : Src} {i : Nat} {g : Gh} (x : ItSt hb tgt I src i g h) : IsIter h I := by
  obtain ⟨_, ⟨a, n, _, _, e⟩ | ⟨m, p, _, _, _, o, ho, _, hd⟩ | ⟨m, p, l, it, old, _, _, _, _, _, _, e, _⟩⟩ := x
  · exact ⟨_, _, e, rfl⟩
  · exact ⟨_, _, ho, hd⟩
  · exact ⟨_, _, e, rfl⟩
theorem ItSt.but {hb h h' : Heap} {tgt : Expr} {I : Addr} {src : Src} {i : Nat} {g g' : Gh} {W : Addr → Prop} (x : ItSt hb tgt I src i g h) (k : KeepsW W h h') (hw : ∀ b, W b → ¬ IsIter h b) (e : ∃ ps, g'.ad = g.ad ++ ps) : ItSt hb tgt I src i g' h' := by
  obtain ⟨ps, e⟩ := e
  have up : ∀ {m p}, g.ad[m]? = some p → g'.ad[m]? = some p := fun q => by rw [e, List.getElem?_append_left]; exact q; exact (List.getElem?_eq_some_iff.mp q).1
  obtain ⟨hI, ⟨a, n, h1, h2, h3⟩ | ⟨m, p, h1, h2, h3, o, ho, hc, hd⟩ | ⟨m, p, l, it, old, h1, h2, h3, h4, h5, h6, h7, o, ho, hc, hd⟩⟩ := x
  · exact ⟨hI, .inl ⟨a, n, h1, h2, k _ _ (fun q => hw _ q ⟨_, _, h3, rfl⟩) h3⟩⟩
  · exact ⟨hI, .inr (.inl ⟨m, p, h1, h2, up h3, o, k _ _ (fun q => hw _ q ⟨_, _, ho, hd⟩) ho, hc, hd⟩)⟩
  · exact ⟨hI, .inr (.inr ⟨m, p, l, it, old, h1, h2, h3, h4, up h5, h6, k _ _ (fun q => hw _ q ⟨_, _, h7, rfl⟩) h7, o, k _ _ (fun q => hw _ q ⟨_, _, ho, hd⟩) ho, hc, hd⟩)⟩
end Mine
namespace Mine
open PySem PySem.Calls PyProof.Rows PySem.Builtin PySem.Builtin.Str

noncomputable abbrev NW (hb h : Heap) (b : Addr) : Prop := hb.get? b = none ∧ IsIter h b
structure NS (hb : Heap) (s : Shared) (g : Gh) (s' : Shared) (g' : Gh) : Prop where
  shape : ∃ h tk, s' = { s with heap := h, toks := tk }
  toks : s.toks ≤ s'.toks
  keeps : KeepsW (NW hb s.heap) s.heap s'.heap
  bk : BkLe g.bk g'.bk
  book : Book g'.bk s'.toks
  ad : g'.ad = g.ad
theorem NW.noTup (hb h : Heap) : NoTup (NW hb h) h := fun _ x vals => iter_noTup x.2 vals
theorem NW.noList {hb h : Heap} {μ : Mem} {g : Gh} (L : Lists μ g h) : ∀ p ∈ g.ad, ¬ NW hb h p := fun p hp x => by
  obtain ⟨its, e⟩ := L.plain hp
  exact iter_noList x.2 e
theorem NS.lists {hb : Heap} {s s' : Shared} {g g' : Gh} {μ : Mem} (x : NS hb s g s' g') (L : Lists μ g s.heap) : Lists μ g' s'.heap := by
  have L1 := L.but x.keeps (NW.noTup hb s.heap) (NW.noList L)
  have e : g' = ⟨g.ad, g'.bk⟩ := by rw [← x.ad]
  rw [e]
  exact L1.grow (fun _ _ e => e) x.bk

theorem enumV_get {l es : List V} (e : enumV l = some es) : es.length = l.length ∧ ∀ (i : Nat) (a : V), es[i]? = some a → ∃ k : A0, l[i]? = some (V.a0 k) ∧ a = V.tup [.int i true, k] := by
  obtain ⟨as, h1, rfl⟩ := Option.map_eq_some_iff.mp e
  have key : ∀ {l : List V} {as : List A0}, allAtoms l = some as → l = as.map .a0 := by
    intro l
    induction l with
    | nil => intro as h; cases h; rfl
    | cons z l ih =>
      intro as h
      cases z with
      | a0 k =>
        obtain ⟨r, hr, rfl⟩ := Option.map_eq_some_iff.mp (show (allAtoms l).map (k :: ·) = some as from h)
        rw [ih hr]; rfl
      | tup _ => first | exact no_some h | cases h
      | lst _ => first | exact no_some h | cases h
  have hl := key h1
  subst hl
  refine ⟨by simp, fun i a h => ?_⟩
  simp only [List.getElem?_map, List.getElem?_zipIdx, Option.map_map, Option.map_eq_some_iff] at h
  obtain ⟨k, hk, rfl⟩ := h
  exact ⟨k, by simp [hk], by simp⟩

section
variable {prog : Program} {w : World} {A : Around} {s : Shared} {μ μ' : Mem} {g : Gh} {hb : Heap} {tgt : Expr} {I : Addr} {src : Src} {i : Nat}

theorem tgt_cases {a : V} (h : (bindT tgt a).isSome = true) : (∃ x p, tgt = .Name x p) ∨ ∃ x p y q k r u v, tgt = .Tuple [.Name x p, .Name y q] k r ∧ a = .tup [u, v] := by
  unfold bindT at h
  split at h
  · exact .inl ⟨_, _, rfl⟩
  · split at h
    · exact .inr ⟨_, _, _, _, _, _, _, _, rfl, rfl⟩
    · first | exact no_some h | cases h
  · first | exact no_some h | cases h

theorem next_ok (hh : A.handled = none) (st : ItSt hb tgt I src i g s.heap) (L : Lists μ g s.heap) (B : Book g.bk s.toks) (ok : okSrc src.chk μ = true) (ht : ∀ a, src.items[i]? = some a → (bindT tgt a).isSome = true) :
    WP prog w A (pyNext (.ref I)) (fun r s₁ => match r with
      | none => src.items[i]? = none ∧ NS hb s g s₁ g
      | some val => WP prog w A (letOwnedTupleGo tgt (.ref I) val) (fun _ s₂ => ∃ a g₂, src.items[i]? = some a ∧ NS hb s g s₂ g₂ ∧ IR g₂.bk s₂.heap a val ∧ ItSt hb tgt I src (i + 1) g₂ s₂.heap) s₁) s := by
  have hiI : IsIter s.heap I := st.iter
  have wI : ∀ b o, ¬ NW hb s.heap b → s.heap.get? b = some o → b ≠ I := fun b o n _ e => by
    subst e
    exact n ⟨st.1, hiI⟩
  obtain ⟨hI, ⟨a, n, h1, h2, h3⟩ | ⟨m, p, h1, h2, h3, h4⟩ | ⟨m, p, l, it, old, h0, h1, h2, h3, h4, h5, h6, h7⟩⟩ := st
  · subst h1
    rcases Nat.lt_or_ge i n with hi | hi
    · have e : (⟨(List.range n).map fun (k : Nat) => vraw (a + k), none⟩ : Src).items[i]? = some (vraw (a + i)) := by simp [hi]
      refine wpAny_pyNext_range_item h3 (by (first | lia | omega)) fun h' hit' hs' => ?_
      rcases tgt_cases (ht _ e) with ⟨x, q, rfl⟩ | ⟨x, q, y, q', k, r, a', b', _, e'⟩
      · refine wpAny_of_eq (rfl : letOwnedTupleGo (.Name x q) _ _ = pure ()) ⟨_, g, e, ⟨⟨_, _, rfl⟩, Nat.le_succ _, fun b o nb e => hs'.extBut b o (wI b o nb e) e, fun _ _ e => e, B.up (Nat.le_succ _), rfl⟩, ⟨_, rfl, fun q => by cases q⟩, hI, .inl ⟨a, n, rfl, hi, ?_⟩⟩
        have e1 : a + (i : Int) + 1 = a + ((i + 1 : Nat) : Int) := by push_cast; (first | lia | omega)
        have e2 : (n : Int) - (i : Int) - 1 = (n : Int) - ((i + 1 : Nat) : Int) := by push_cast; (first | lia | omega)
        rw [← e1, ← e2]; exact hit'
      · cases e'
    · refine wpAny_pyNext_range_end hh h3 (by (first | lia | omega)) fun h' he' => ⟨by simp; (first | lia | omega), ⟨⟨h', s.toks, rfl⟩, Nat.le_refl _, fun b o nb e => he' b o (wI b o nb e) e, fun _ _ e => e, B, rfl⟩⟩
  · obtain ⟨items, chk⟩ := src
    simp only at h1 h2 ht ⊢
    subst h1
    have hm : μ[m]? = some items := of_decide_eq_true ok
    obtain ⟨p', vs, e1, e2, e3, e4⟩ := L.at_ m items hm
    rw [h3] at e1; cases e1
    have hsz : items.length = vs.size := by rw [e3.length, Array.length_toList]
    cases hx : items[i]? with
    | none =>
      refine wpAny_pyNext_list_end hh h4 e2.isList (by rw [← Array.getElem?_toList]; rw [List.getElem?_eq_none_iff] at hx ⊢; rw [← e3.length]; exact hx) fun h' he' => ⟨rfl, ⟨⟨h', s.toks, rfl⟩, Nat.le_refl _, fun b o nb e => he' b o (wI b o nb e) e, fun _ _ e => e, B, rfl⟩⟩
    | some a =>
      obtain ⟨val, ev, hv⟩ := e3.get hx
      refine wpAny_pyNext_list_item h4 e2.isList (x := val) (by rw [← ev, Array.getElem?_toList]) fun h' hit' hs' => ?_
      have ks : KeepsW (NW hb s.heap) s.heap h' := fun b o nb e => hs'.extBut b o (wI b o nb e) e
      have hlt : i < items.length := (List.getElem?_eq_some_iff.mp hx).1
      have fin : ∃ a_1 g₂, some a = some a_1 ∧ NS hb s g { s with heap := h' } g₂ ∧ IR g₂.bk h' a_1 val ∧ ItSt hb tgt I ⟨items, some (m, items)⟩ (i + 1) g₂ h' :=
        ⟨a, g, rfl, ⟨⟨h', s.toks, rfl⟩, Nat.le_refl _, ks, fun _ _ e => e, B, rfl⟩, hv.but ks (NW.noTup hb s.heap), hI, .inr (.inl ⟨m, p, rfl, hlt, h3, hit'⟩)⟩
      rcases tgt_cases (ht _ hx) with ⟨x, q, rfl⟩ | ⟨x, q, y, q', k, r, a', b', rfl, rfl⟩
      · exact wpAny_of_eq (rfl : letOwnedTupleGo (.Name x q) _ _ = pure ()) fin
      · obtain ⟨T, vals, rfl, _⟩ := hv
        exact wpAny_letOwnedTupleGo_listiter (s := { s with heap := h' }) hit' fin
  · obtain ⟨items, chk⟩ := src
    simp only at h1 h2 h3 ht ⊢
    subst h1
    have hm : μ[m]? = some l := of_decide_eq_true ok
    obtain ⟨p', vs, e1, e2, e3, e4⟩ := L.at_ m l hm
    rw [h4] at e1; cases e1
    have hsz : l.length = vs.size := by rw [e3.length, Array.length_toList]
    obtain ⟨hl, hg⟩ := enumV_get h2
    have hit : IsIter s.heap it := by obtain ⟨o, ho, _, hd⟩ := h7; exact ⟨_, _, ho, hd⟩
    have wit : ∀ b o, ¬ NW hb s.heap b → s.heap.get? b = some o → b ≠ it := fun b o n _ e => by
      subst e
      exact n ⟨h5, hit⟩
    have hne : I ≠ it := fun e => by
      subst e
      obtain ⟨o, ho, hc, _⟩ := h7
      rw [h6] at ho; first | exact no_some ho | cases ho
      exact absurd (Value.type.inj hc) (by decide)
    cases hx : items[i]? with
    | none =>
      have hx' : l[i]? = none := by rw [List.getElem?_eq_none_iff] at hx ⊢; rw [← hl]; exact hx
      refine wpAny_pyNext_enum_end hh h6 h7 e2.isList (by rw [← Array.getElem?_toList]; rw [List.getElem?_eq_none_iff] at hx' ⊢; rw [← e3.length]; exact hx') fun h' he' => ⟨rfl, ⟨⟨h', s.toks, rfl⟩, Nat.le_refl _, fun b o nb e => he' b o (wit b o nb e) e, fun _ _ e => e, B, rfl⟩⟩
    | some a =>
      obtain ⟨k0, hk, rfl⟩ := hg i a hx
      obtain ⟨val, ev, hv⟩ := e3.get hk
      have hlt : i < items.length := (List.getElem?_eq_some_iff.mp hx).1
      refine wpAny_pyNext_enum_item h6 h7 e2.isList (x := val) (by rw [← ev, Array.getElem?_toList]) hne fun h' he' hit' hT hz hk' => ?_
      rcases tgt_cases (ht _ hx) with ⟨x, q, rfl⟩ | ⟨x, q, y, q', k, r, a', b', rfl, ha⟩
      · first | exact no_some h0 | cases h0
      · refine wpAny_letOwnedTupleGo_enum (s := { s with heap := h', toks := s.toks + 1 }) he' fun h'' he'' hs'' => ?_
        obtain ⟨b1, b2, b3⟩ := B.one (i : Int) (Nat.le_refl s.toks) (Nat.lt_succ_self s.toks)
        have ks : KeepsW (NW hb s.heap) s.heap h'' := fun b o nb e => (hs'' : Heap.SameBut I h' h'').extBut b o (wI b o nb e) (hk' b o (wI b o nb e) (wit b o nb e) e)
        have hTI : s.heap.objs.size ≠ I := fun e => by
          have := Heap.lt_size h6
          rw [← e] at this
          exact Nat.lt_irrefl _ this
        refine ⟨_, ⟨g.ad, book1 g.bk s.toks i⟩, rfl, ⟨⟨h'', s.toks + 1, rfl⟩, Nat.le_succ _, ks, b2, b1, rfl⟩, ⟨s.heap.objs.size, #[.int i s.toks, val], rfl, ⟨_, (hs'' : Heap.SameBut I h' h'').extBut _ _ hTI hT, rfl, _, rfl⟩, ⟨⟨s.toks, rfl, fun _ => b3⟩, (hv.but ks (NW.noTup hb s.heap)).grow (fun _ _ e => e) b2, trivial⟩, by simp⟩, hI, .inr (.inr ⟨m, p, l, it, val, h0, rfl, h2, hlt, h4, h5, ?_, ?_⟩)⟩
        · have : ((i + 1 : Nat) : Int) = (i : Int) + 1 := by push_cast; rfl
          rw [this]; exact he''
        · exact (hit' : h'.IsListIter it p (i + 1)).extBut (hs'' : Heap.SameBut I h' h'').extBut (Ne.symm hne)
end
end Mine
namespace Mine
open PySem PySem.Calls PyProof.Rows PySem.Builtin PySem.Builtin.Str

/-- what a block may write: its namespace and its cells -/
noncomputable abbrev own (env : Env) (c : Cfg) (b : Addr) : Prop := b = env.locals ∨ ∃ y, c.names.lookup y = some .cell ∧ env.cells.lookup y = some b
noncomputable def CellsNd (env : Env) : Prop := ∀ x y a, env.cells.lookup x = some a → env.cells.lookup y = some a → x = y

theorem FrameR.weak {env : Env} {c : Cfg} {ρ ρ' : Loc} {g : Gh} {h : Heap} (x : FrameR env c ρ g h) (k : ∀ y v, ρ'.lookup y = some v → ρ.lookup y = some v) : FrameR env c ρ' g h :=
  ⟨let ⟨m, hm, hv⟩ := x.ns; ⟨m, hm, fun z v e q => hv z v (k z v e) q⟩, fun z q => let ⟨a, o, e1, e2, e3⟩ := x.cells z q; ⟨a, o, e1, e2, fun v e => e3 v (k z v e)⟩⟩
theorem FrameR.own_noTup {env : Env} {c : Cfg} {ρ : Loc} {g : Gh} {h : Heap} (x : FrameR env c ρ g h) : NoTup (own env c) h := by
  rintro b (rfl | ⟨y, h1, h2⟩) vals
  · obtain ⟨m, hm, _⟩ := x.ns; exact ns_noTup hm vals
  · obtain ⟨a, o, e1, e2, _⟩ := x.cells y h1
    rw [h2] at e1; cases e1
    exact cell_noTup e2 vals
theorem FrameR.own_noList {env : Env} {c : Cfg} {ρ : Loc} {g : Gh} {h : Heap} (x : FrameR env c ρ g h) {b : Addr} (hb : own env c b) {its : Array Value} : ¬ h.PlainList b its := by
  rcases hb with rfl | ⟨y, h1, h2⟩
  · obtain ⟨m, hm, _⟩ := x.ns; exact ns_noList hm
  · obtain ⟨a, o, e1, e2, _⟩ := x.cells y h1
    rw [h2] at e1; cases e1
    exact cell_noList e2
theorem FrameR.own_noIter {env : Env} {c : Cfg} {ρ : Loc} {g : Gh} {h : Heap} (x : FrameR env c ρ g h) {b : Addr} (hb : own env c b) : ¬ IsIter h b := by
  rcases hb with rfl | ⟨y, h1, h2⟩
  · obtain ⟨m, hm, _⟩ := x.ns; exact fun q => iter_noNs q hm
  · obtain ⟨a, o, e1, e2, _⟩ := x.cells y h1
    rw [h2] at e1; cases e1
    exact fun q => iter_noCell q e2

section
variable {prog : Program} {w : World} {A : Around} {s : Shared} {μ μ' : Mem} {g : Gh} {env : Env} {c : Cfg} {ρ : Loc} {a : V} {val : Value} {x : Str}

theorem notClass (eo : EnvOk env c) : (env.scope.kind == .class || (env.scope.kind == .module && env.locals != env.globals)) = false := by rw [eo.kind]; rfl
theorem kindOf (eo : EnvOk env c) (x : Str) : env.kindOf x = c.names.lookup x := by rw [← eo.names]; rfl

theorem store_local (eo : EnvOk env c) (F : FrameR env c ρ g s.heap) (hv : VR g s.heap a val) (h1 : c.names.lookup x = some .local) :
    WP prog w A (storeName env x val) (fun _ s' => (∃ h tk, s' = { s with heap := h, toks := tk }) ∧ s.toks ≤ s'.toks ∧ KeepsW (· = env.locals) s.heap s'.heap ∧ FrameR env c (upd x a ρ) g s'.heap) s := by
  obtain ⟨m, hm, hl⟩ := F.ns
  have nt : NoTup (· = env.locals) s.heap := fun b hb vals => by subst hb; exact ns_noTup hm vals
  refine wpAny_storeName_local (by rw [kindOf eo]; exact h1) hm (fun h' hn hs => ?_) (notClass eo)
  have ks : KeepsW (· = env.locals) s.heap h' := KeepsW.sameBut hs
  refine ⟨⟨_, _, rfl⟩, Nat.le_succ _, ks, ⟨_, hn, fun z v e q => ?_⟩, fun z q => ?_⟩
  · rw [upd_lookup] at e
    by_cases hz : z = x
    · subst hz
      rw [if_pos rfl] at e; cases e
      exact ⟨val, by simp, hv.but ks nt⟩
    · rw [if_neg hz] at e
      obtain ⟨u, e1, e2⟩ := hl z v e q
      exact ⟨u, by simp [hz, e1], e2.but ks nt⟩
  · obtain ⟨b, o, e1, e2, e3⟩ := F.cells z q
    have hne : b ≠ env.locals := fun e => by subst e; exact ns_noCell hm e2
    refine ⟨b, o, e1, (let ⟨ob, ho, r⟩ := e2; ⟨ob, hs.extBut b ob hne ho, r⟩), fun v e => ?_⟩
    have hz : z ≠ x := fun e => by subst e; rw [h1] at q; cases q
    rw [upd_lookup, if_neg hz] at e
    obtain ⟨u, f1, f2⟩ := e3 v e
    exact ⟨u, f1, f2.but ks nt⟩

theorem store_ok (eo : EnvOk env c) (nd : CellsNd env) (F : FrameR env c ρ g s.heap) (hv : VR g s.heap a val) (hx : c.isLoc x = true) :
    WP prog w A (storeName env x val) (fun _ s' => (∃ h tk, s' = { s with heap := h, toks := tk }) ∧ s.toks ≤ s'.toks ∧ KeepsW (own env c) s.heap s'.heap ∧ FrameR env c (upd x a ρ) g s'.heap) s := by
  have nt := F.own_noTup
  obtain ⟨m, hm, hl⟩ := F.ns
  have hx' : c.names.lookup x = some .local ∨ c.names.lookup x = some .cell := by simpa [Cfg.isLoc] using hx
  rcases hx' with h1 | h1
  · exact WP.mono (store_local eo F hv h1) fun _ s' hs => ⟨hs.1, hs.2.1, hs.2.2.1.mono fun b e => .inl e, hs.2.2.2⟩
  · obtain ⟨b, o, e1, e2, e3⟩ := F.cells x h1
    refine wpAny_storeName_cell eo.kind (by rw [kindOf eo]; exact h1) e1 e2 fun h' hc hs => ?_
    have ks : KeepsW (own env c) s.heap h' := (KeepsW.sameBut hs).mono fun b' e => .inr ⟨x, h1, by rw [e]; exact e1⟩
    have hne : env.locals ≠ b := fun e => by subst e; exact ns_noCell hm e2
    refine ⟨⟨_, s.toks, rfl⟩, Nat.le_refl _, ks, ⟨m, hm.sameBut hs hne, fun z v e q => ?_⟩, fun z q => ?_⟩
    · have hz : z ≠ x := fun e => by subst e; rw [h1] at q; cases q
      rw [upd_lookup, if_neg hz] at e
      obtain ⟨u, f1, f2⟩ := hl z v e q
      exact ⟨u, f1, f2.but ks nt⟩
    · by_cases hz : z = x
      · subst hz
        refine ⟨b, some val, e1, hc, fun v e => ?_⟩
        rw [upd_lookup, if_pos rfl] at e; cases e
        exact ⟨val, rfl, hv.but ks nt⟩
      · obtain ⟨b', o', f1, f2, f3⟩ := F.cells z q
        have hb : b' ≠ b := fun e => by subst e; exact hz (nd _ _ _ f1 e1)
        refine ⟨b', o', f1, (let ⟨ob, ho, r⟩ := f2; ⟨ob, hs.extBut b' ob hb ho, r⟩), fun v e => ?_⟩
        rw [upd_lookup, if_neg hz] at e
        obtain ⟨u, f1, f2⟩ := f3 v e
        exact ⟨u, f1, f2.but ks nt⟩

noncomputable abbrev Stored (env : Env) (c : Cfg) (ρ : Loc) (g : Gh) (s s' : Shared) : Prop := (∃ h tk, s' = { s with heap := h, toks := tk }) ∧ s.toks ≤ s'.toks ∧ KeepsW (own env c) s.heap s'.heap ∧ FrameR env c ρ g s'.heap

theorem assign_name {p : Pos} (eo : EnvOk env c) (nd : CellsNd env) (F : FrameR env c ρ g s.heap) (hv : VR g s.heap a val) (hx : c.isLoc x = true) :
    WP prog w A (assign (.Name x p) env val) (fun _ s' => Stored env c (upd x a ρ) g s s') s := wpAny_assign_Name (store_ok eo nd F hv hx)

theorem assign_local {p : Pos} (eo : EnvOk env c) (F : FrameR env c ρ g s.heap) (hv : VR g s.heap a val) (h1 : c.names.lookup x = some .local) :
    WP prog w A (assign (.Name x p) env val) (fun _ s' => (∃ h tk, s' = { s with heap := h, toks := tk }) ∧ s.toks ≤ s'.toks ∧ KeepsW (· = env.locals) s.heap s'.heap ∧ FrameR env c (upd x a ρ) g s'.heap) s := wpAny_assign_Name (store_local eo F hv h1)
theorem bind_ok {tgt : Expr} {bs : List (Str × V)} (hh : A.handled = none) (hb : bindT tgt a = some bs) (eo : EnvOk env c) (F : FrameR env c ρ g s.heap) (hv : IR g.bk s.heap a val) (hx : ∀ x ∈ tgtNames tgt, c.names.lookup x = some .local) :
    WP prog w A (assign tgt env val) (fun _ s' => (∃ h tk, s' = { s with heap := h, toks := tk }) ∧ s.toks ≤ s'.toks ∧ KeepsW (· = env.locals) s.heap s'.heap ∧ FrameR env c (updAll bs ρ) g s'.heap) s := by
  unfold bindT at hb
  split at hb
  · first | exact no_some hb | cases hb
    exact assign_local eo F hv.vr (hx _ (by simp [tgtNames]))
  · rename_i x px y py k r
    split at hb
    · rename_i u v
      cases hb
      have hx' : c.names.lookup x = some .local ∧ c.names.lookup y = some .local := ⟨hx _ (by simp [tgtNames]), hx _ (by simp [tgtNames])⟩
      obtain ⟨T, vals, rfl, hT, hvs, _⟩ := hv
      have hl : vals.toList.length = 2 := hvs.length.symm
      obtain ⟨v1, v2, hvl⟩ : ∃ v1 v2, vals.toList = [v1, v2] := by
        match vals.toList, hl with
        | [v1, v2], _ => exact ⟨v1, v2, rfl⟩
      have h1 : VR g s.heap (.a0 u) v1 := by rw [hvl] at hvs; exact hvs.1
      have h2 : VR g s.heap (.a0 v) v2 := by rw [hvl] at hvs; exact hvs.2.1
      refine wpAny_assign_Tuple hh hT (by rw [← Array.length_toList, hvl]; rfl) rfl fun h' hx2 => ?_
      have kh : KeepsH s.heap h' := fun b o e => hx2 b o (Nat.ne_of_lt (Heap.lt_size e)) e
      have F' : FrameR env c ρ g h' := F.but (W := fun _ => False) (KeepsW.of kh) (fun _ f => f.elim) id (fun _ _ _ _ => id)
      rw [hvl]
      show WP prog w A (do holding [v2] (assign (.Name x px) env v1); do holding [] (assign (.Name y py) env v2); pure ()) _ _
      refine wpAny_bind (wpAny_holding (WP.mono (assign_local (s := { s with heap := h' }) eo F' (g := g) (a := .a0 u) h1 hx'.1) fun _ s1 hs1 => ?_))
      obtain ⟨⟨ha, ta, rfl⟩, ht, ks, F1⟩ := hs1
      refine wpAny_bind (wpAny_holding (WP.mono (assign_local eo F1 (a := .a0 v) h2 hx'.2) fun _ s2 hs2 => wpAny_pure ?_))
      obtain ⟨⟨hb, tb, rfl⟩, ht2, ks2, F2⟩ := hs2
      exact ⟨⟨hb, tb, rfl⟩, Nat.le_trans ht ht2, ((KeepsW.of kh).trans ks).trans ks2, F2⟩
    · first | exact no_some hb | cases hb
  · first | exact no_some hb | cases hb
end
end Mine
namespace Mine
open PySem PySem.Calls PyProof.Rows PySem.Builtin PySem.Builtin.Str
section
variable {prog : Program} {w : World} {mg mb : Str → Option Value} {hT : Heap} {A : Around} {s : Shared} {μ μ' : Mem} {g : Gh} {env : Env} {c : Cfg} {ρ : Loc} {a : V} {val : Value} {x : Str} {pos p : Pos}

theorem nodebug (eo : EnvOk env c) {k : NameKind} (h : c.names.lookup x = some k) : (x == ("__debug__" : Str)) = false := by
  rw [beq_eq_false_iff_ne]
  rintro rfl
  rw [eo.nodebug] at h; first | exact no_some h | cases h

theorem name_var (C : Ctx prog w mg mb hT c ρ env A s μ g) (h : c.names.lookup x = some .local ∨ c.names.lookup x = some .cell) (hx : ρ.lookup x = some a) : WP prog w A (eval (.Name x p) env) (RV s μ g a μ) s := by
  rcases h with h | h
  · obtain ⟨m, hm, hl⟩ := C.frame.ns
    obtain ⟨v, e1, e2⟩ := hl x a hx h
    exact wpAny_Name (wpAny_loadName_local C.envok.kind (by rw [kindOf C.envok]; exact h) hm e1 ⟨g, Step.refl C.lists C.book, e2⟩) (nodebug C.envok h)
  · obtain ⟨b, o, e1, e2, e3⟩ := C.frame.cells x h
    obtain ⟨v, rfl, f2⟩ := e3 a hx
    exact wpAny_Name (wpAny_loadName_cell C.envok.kind (by rw [kindOf C.envok]; exact h) e1 e2 ⟨g, Step.refl C.lists C.book, f2⟩) (nodebug C.envok h)
theorem isGlob_of {c : Cfg} (h : c.isGlob x = true) : c.names.lookup x = some .globalImplicit := by simpa [Cfg.isGlob] using h
theorem name_glob {Q : Value → Shared → Prop} (C : Ctx prog w mg mb hT c ρ env A s μ g) (h : c.names.lookup x = some .globalImplicit) (hx : mg x = some val) (hQ : Q val s) : WP prog w A (eval (.Name x p) env) Q s :=
  Name_function_global C.envok.kind (by rw [kindOf C.envok]; exact h) (loadGlobal_global (by rw [C.envok.globals]; exact C.glob.g) hx hQ) (nodebug C.envok h)
theorem name_builtin {Q : Value → Shared → Prop} (C : Ctx prog w mg mb hT c ρ env A s μ g) (h : c.names.lookup x = some .globalImplicit) (hx : mg x = none) (hb : mb x = some val) (hQ : Q val s) : WP prog w A (eval (.Name x p) env) Q s :=
  Name_function_global C.envok.kind (by rw [kindOf C.envok]; exact h) (loadGlobal_builtin (by rw [C.envok.globals]; exact C.glob.g) hx (by rw [C.envok.builtins]; exact C.glob.b) hb hQ) (nodebug C.envok h)

/-! the interpreter's own way with what it does not take -/
theorem ev_starred {n : Nat} {e : Expr} : ev n c ρ (.Starred e p) μ = none := by cases n <;> rfl
theorem ev_set {n : Nat} {es : List Expr} {k : Nat} : ev n c ρ (.Set es k p) μ = none := by cases n <;> rfl
theorem noStar {n : Nat} {e : Expr} {r : V × Mem} (h : ev n c ρ e μ = some r) (rest : List Expr) (env : Env) : starEach (e :: rest) env = (false, eval e env) :: starEach rest env := by
  cases e <;> first | rfl | (rw [ev_starred] at h; cases h)
theorem noMarks {n : Nat} {e : Expr} {op : CmpOp} {r : V × Mem} (h : ev n c ρ e μ = some r) : behindInMarks op e = false := by
  cases e <;> first | rfl | (rw [ev_set] at h; cases h)

/-- one expression is sound -/
noncomputable def EvOk (prog : Program) (w : World) (mg mb : Str → Option Value) (hT : Heap) (n : Nat) : Prop :=
  ∀ c ρ e μ v μ', ev n c ρ e μ = some (v, μ') → ∀ env A s g, Ctx prog w mg mb hT c ρ env A s μ g → WP prog w A (eval e env) (RV s μ g v μ') s

theorem evs_plain {n : Nat} : ∀ (es : List Expr) {μ μ' : Mem} {vs : List V}, evs (ev n c ρ) es μ = some (vs, μ') → ((backTo pos (starEach es env)).any (·.1) = false) ∧ vs.length = es.length
  | [], μ, μ', vs, e => by cases e; exact ⟨rfl, rfl⟩
  | x :: r, μ, μ', vs, e => by
    replace e := Option.bind_eq_some_iff.mp (show (ev n c ρ x μ).bind _ = _ from e)
    obtain ⟨⟨v, μ1⟩, h1, e⟩ := e
    replace e := Option.bind_eq_some_iff.mp e
    obtain ⟨⟨vr, μ2⟩, h2, e⟩ := e
    cases e
    obtain ⟨k1, k2⟩ := evs_plain r h2
    rw [noStar h1 r env]
    exact ⟨by simpa [backTo] using k1, by simp [k2]⟩
theorem items_ok {n : Nat} (ih : EvOk prog w mg mb hT n) : ∀ (es : List Expr) {μ μ' : Mem} {vs : List V} {s : Shared} {g : Gh} {pos : Pos}, evs (ev n c ρ) es μ = some (vs, μ') → Ctx prog w mg mb hT c ρ env A s μ g →
    WP prog w A (spliced (backTo pos (starEach es env))) (fun vals s' => ∃ g', Step s μ g s' μ' g' ∧ L2 (VR g' s'.heap) vs vals) s
  | [], μ, μ', vs, s, g, pos, e, C => by
    cases e
    exact wpAny_items_nil ⟨g, Step.refl C.lists C.book, trivial⟩
  | x :: r, μ, μ', vs, s, g, pos, e, C => by
    replace e := Option.bind_eq_some_iff.mp (show (ev n c ρ x μ).bind _ = _ from e)
    obtain ⟨⟨v, μ1⟩, h1, e⟩ := e
    replace e := Option.bind_eq_some_iff.mp e
    obtain ⟨⟨vr, μ2⟩, h2, e⟩ := e
    cases e
    refine wpAny_items_cons (WP.mono (ih _ _ _ _ _ _ h1 _ _ _ _ C) fun v1 s1 hv => ?_) (noStar h1 r env)
    obtain ⟨g1, st1, r1⟩ := hv
    refine WP.mono (items_ok ih r h2 (C.step st1)) fun vals s2 hv2 => ?_
    obtain ⟨g2, st2, r2⟩ := hv2
    exact ⟨g2, st1.trans st2, st2.grow r1, r2⟩

theorem evalArgs_any {f : Value} {args : List (Bool × Sem Value)} {Q : Args → Shared → Prop} (hs : args.any (·.1) = false) (h : WP prog w A (spliced args) (fun vs s' => Q ⟨vs, []⟩ s') s) :
    WP prog w A (evalArgs f true args []) Q s := by
  cases args with
  | nil =>
    unfold evalArgs
    show wpAny _ _ (spliced [] >>= _) _ _ s
    refine wpAny_bind (WP.mono h fun vs s' h' => ?_)
    refine wpAny_holding ?_
    exact wpAny_bind (wpAny_pure (wpAny_bind (wpAny_pure (wpAny_pure h'))))
  | cons y r =>
    obtain ⟨b, y⟩ := y
    cases b with
    | false => exact evalArgs_plain h
    | true => simp at hs

/-- a call of a builtin or of a type -/
theorem callWith_bt {F : Value} {first : List Value} {args : List (Bool × Sem Value)} {Q : Value → Shared → Prop} (hF : (∃ id, F = .builtin id) ∨ ∃ T, F = .type T) (hs : args.any (·.1) = false)
    (h : WP prog w A (spliced args) (fun vals s₁ => WP prog w A (call F (first ++ vals)) Q s₁) s) : WP prog w A (callWith pos F first args []) Q s := by
  rcases hF with ⟨id, rfl⟩ | ⟨T, rfl⟩
  · exact callWith_builtin hs (evalArgs_any hs h)
  · exact PySem.callWith_type hs (evalArgs_any hs h)
theorem call_name {f : Str} {args : List Expr} {F : Value} {Q : Value → Shared → Prop} (hF : (∃ id, F = .builtin id) ∨ ∃ T, F = .type T) (hn : WP prog w A (eval (.Name f p) env) (fun v s' => v = F ∧ s' = s) s)
    (hs : (backTo pos (starEach args env)).any (·.1) = false) (h : WP prog w A (spliced (backTo pos (starEach args env))) (fun vals s₁ => WP prog w A (call F vals) Q s₁) s) :
    WP prog w A (eval (.Call (.Name f p) args [] pos) env) Q s :=
  wpAny_Call_NameR (WP.mono hn fun v s' hv => by
    obtain ⟨rfl, rfl⟩ := hv
    exact callWith_bt hF hs h)
theorem call_def {f : Str} {args : List Expr} {a : Addr} {o : Obj} {fd : FuncData} {Q : Value → Shared → Prop} (hn : WP prog w A (eval (.Name f p) env) (fun v s' => v = .ref a ∧ s' = s) s)
    (hs : (backTo pos (starEach args env)).any (·.1) = false) (h : WP prog w A (spliced (backTo pos (starEach args env))) (fun vals s₁ => (s₁.heap.get? a = some o ∧ o.data = .func fd) ∧ WP prog w A (call (.ref a) vals) Q s₁) s) :
    WP prog w A (eval (.Call (.Name f p) args [] pos) env) Q s :=
  wpAny_Call_NameR (WP.mono hn fun v s' hv => by
    obtain ⟨rfl, rfl⟩ := hv
    exact callWith_function (evalArgs_any hs h))
theorem range_items {bk : Tok → Option Int} {h : Heap} {a b : Int} {acc : Array Value} (hi : ItemsOf (fun i v => ∃ t, v = .int (a + i * 1) t) acc (b - a).toNat) : L2 (IR bk h) (rangeV a b) acc.toList := by
  obtain ⟨h1, h2⟩ := hi
  have key : ∀ (l : List Value) (k : Nat) (ns : List Nat), ns.length = l.length → (∀ (j : Nat) v, l[j]? = some v → ∃ m, ns[j]? = some m ∧ ∃ t, v = .int (a + m) t) → L2 (IR bk h) (ns.map fun (i : Nat) => vraw (a + i)) l := by
    intro l
    induction l with
    | nil => intro k ns hl _; cases ns with
      | nil => trivial
      | cons _ _ => first | exact no_some hl | cases hl
    | cons v l ih => intro k ns hl hj; cases ns with
      | nil => first | exact no_some hl | cases hl
      | cons m ns =>
        obtain ⟨m', e, t, ht⟩ := hj 0 v rfl
        simp at e; subst e
        exact ⟨⟨t, ht, fun q => by cases q⟩, ih k ns (by simpa using hl) fun j u hu => by simpa using hj (j + 1) u (by simpa using hu)⟩
  refine key acc.toList 0 (List.range (b - a).toNat) (by simp [h1]) fun j v hv => ?_
  rw [Array.getElem?_toList] at hv
  obtain ⟨t, ht⟩ := h2 j v hv
  have hlt : j < (b - a).toNat := by rw [← h1]; exact (Array.getElem?_eq_some_iff.mp hv).1
  exact ⟨j, by simp [hlt], t, by rw [ht, Int.mul_one]⟩

/-- a call of range -/
theorem range_ok {l its : List V} {vals : List Value} (L : Lists μ g s.heap) (B : Book g.bk s.toks) (e : srcRange l = some its) (H : L2 (VR g s.heap) l vals) :
    WP prog w A (call (.type "range") vals) (fun x s₁ => ∃ r a b t u v, x = .ref r ∧ Step s μ g s₁ μ g ∧ s.heap.get? r = none ∧ IsRange s₁.heap r a b 1 t u v ∧ its = rangeV a b ∧ a.natAbs ≤ lim ∧ b.natAbs ≤ lim) s := by
  unfold srcRange at e
  have fresh : s.heap.get? s.heap.objs.size = none := by
    cases q : s.heap.get? s.heap.objs.size with
    | none => rfl
    | some o => exact absurd (Heap.lt_size q) (Nat.lt_irrefl _)
  split at e
  · match vals, H with
    | [x], H =>
      obtain ⟨t, rfl, _⟩ := H.1
      split at e
      · rename_i hb
        cases e
        refine call_range_1 ⟨_, 0, _, s.toks, t, s.toks + 1, rfl, ?_, fresh, IsRange.new _ _ _ _ _ _ _, rfl, by simp, hb⟩
        exact Step.of_keeps L B (Keeps.push s _ _) (by show s.toks ≤ s.toks + 1 + 1; (first | lia | omega))
      · cases e
  · match vals, H with
    | [x, y], H =>
      obtain ⟨t, rfl, _⟩ := H.1
      obtain ⟨u, rfl, _⟩ := H.2.1
      split at e
      · rename_i hb
        cases e
        refine call_range_2 ⟨_, _, _, t, u, s.toks, rfl, ?_, fresh, IsRange.new _ _ _ _ _ _ _, rfl, hb.1, hb.2⟩
        exact Step.of_keeps L B (Keeps.push s _ _) (Nat.le_succ _)
      · cases e
  · cases e

theorem lim_small {a b : Int} (ha : a.natAbs ≤ lim) (hb : b.natAbs ≤ lim) : Builtin.Range.small a b 1 = true ∧ (b - a).toNat ≤ 2 ^ 24 ∧ Builtin.Range.rangeSize a b 1 = ((b - a).toNat : Nat) := by
  have h1 : a.natAbs ≤ 1048576 := ha
  have h2 : b.natAbs ≤ 1048576 := hb
  refine ⟨small_one (by (first | lia | omega)) (by (first | lia | omega)) (by (first | lia | omega)) (by (first | lia | omega)), by (first | lia | omega), ?_⟩
  rw [rangeSize_one]
  split <;> (first | lia | omega)

theorem list_range_ok {r : Addr} {a b : Int} {t u v : Tok} {its : List V} (hh : A.handled = none) (L : Lists μ g s.heap) (B : Book g.bk s.toks) (hr : IsRange s.heap r a b 1 t u v) (hi : its = rangeV a b) (ha : a.natAbs ≤ lim) (hb : b.natAbs ≤ lim) (hl : its.length ≤ lim) :
    WP prog w A (call (.type "list") [.ref r]) (RV s μ g (.lst μ.length) (μ ++ [its])) s := by
  obtain ⟨k1, k2, k3⟩ := lim_small ha hb
  refine WP.tok (call_list_range hh hr k1 k3 k2 fun h' tk acc' c' hk hS hacc ht => ?_)
  subst hi
  have hf : s.heap.get? s.heap.objs.size = none := by
    cases q : s.heap.get? s.heap.objs.size with
    | none => rfl
    | some o => exact absurd (Heap.lt_size q) (Nat.lt_irrefl _)
  exact rv_newlist L B ht hk hf ⟨c', hS⟩ (range_items hacc) hl

/-! the set and the table -/
theorem hash_small {i : Int} (h0 : 0 ≤ i) (h1 : i < 1000000) : hashInt i = i := by
  have e : rawHash i = i := by
    obtain ⟨n, rfl⟩ := Int.eq_ofNat_of_zero_le h0
    have h2 : n < 1000000 := by (first | lia | omega)
    have k1 : (((n : Int).natAbs : Nat) : Int) % ((2 ^ 61 - 1 : Nat) : Int) = n := by
      show (n : Int) % ((2 ^ 61 - 1 : Nat) : Int) = n
      exact Int.emod_eq_of_lt (Int.natCast_nonneg n) (by exact_mod_cast (show n < 2 ^ 61 - 1 by (first | lia | omega)))
    unfold rawHash
    dsimp only
    have c1 : ¬ (n : Int) < 0 := by (first | lia | omega)
    have c2 : ¬ (((n : Int) == -1) = true) := by simp
    rw [k1, if_neg c1, if_neg c2]
  unfold hashInt
  rw [e, if_neg]
  simp; (first | lia | omega)

theorem in_set_ok {i : Int} {t : Tok} {a : Addr} (C : Ctx prog w mg mb hT c ρ env A s μ g) (ha : mg "b1_set" = some (.ref a)) : WP prog w A (compareOp .In (.int i t) (.ref a)) (RV s μ g (vbool (c.inSet i)) μ) s := by
  obtain ⟨a', es, n, tb, e1, e2, e3, e4, e5, e6, e7⟩ := C.glob.set
  rw [ha] at e1; cases e1
  have hs : Heap.SetOf (intKind prog w) s.heap a c.inSet es.size := by
    refine ⟨_, es, n, tb, e2, ⟨rfl, rfl, rfl⟩, rfl, fun e he => ?_, fun k => ?_, ?_, ?_, rfl⟩
    · obtain ⟨i, k, rfl, h0, h1⟩ := e6 e (by simpa using he)
      exact ⟨⟨i, intKind_is prog w i k, (hash_small h0 h1).symm⟩, rfl⟩
    · rw [e7, Array.any_eq_true']
      constructor
      · rintro ⟨e, he, h⟩
        obtain ⟨i, t, rfl, _⟩ := e6 e he
        have : i = k := by simpa using h
        subst this
        exact ⟨_, by simpa using he, intKind_is prog w i t⟩
      · rintro ⟨e, he, h⟩
        have he' : e ∈ es := by simpa using he
        obtain ⟨i, t, rfl, _⟩ := e6 e he'
        have : k = i := (intKind prog w).inj _ _ _ h (intKind_is prog w i t)
        subst this
        exact ⟨_, he', by simp⟩
    · unfold scanBound; (first | lia | omega)
    · simp [SetTable.fits, e4, e5]
  exact wpAny_inSet_of (knd := intKind prog w) (intKind_is prog w i t) rfl hs (rv_atom C.lists C.book (Nat.le_succ _) rfl)

theorem get_ok {i : Int} {x : Sem Value} {Q : Value → Shared → Prop} {v : V} {s₀ : Shared} {μ₀ : Mem} {g₀ : Gh} {a : Addr} (C : Ctx prog w mg mb hT c ρ env A s₀ μ₀ g₀) (ha : mg "b3_exceptions" = some (.ref a))
    (e : (match c.get i with | some t => newStr t μ | none => some (vnone, μ)) = some (v, μ'))
    (hx : WP prog w A x (fun key s₁ => ∃ g₁ t, Step s₀ μ₀ g₀ s₁ μ g₁ ∧ key = .int i t ∧ ∀ r, RV s₁ μ g₁ v μ' r { s₁ with toks := s₁.toks + 1 } → Q r { s₁ with toks := s₁.toks + 1 }) s) :
    WP prog w A (callWith pos (.builtin "dict.get") [.ref a] [(false, x)] []) Q s := by
  obtain ⟨a', es, n, e1, e0, e2, e3, e4⟩ := C.glob.dict
  rw [ha] at e1; cases e1
  refine wpAny_dict_get1 (knd := intKind prog w) e0 (WP.mono hx fun key s₁ h => ?_)
  obtain ⟨g₁, t, st, rfl, hQ⟩ := h
  refine ⟨i, fun k => (es.find? fun e => e.hash == k).map (·.val), intKind_is prog w i t, ⟨_, es, n, Keeps.h st.keeps _ _ e2, ⟨rfl, rfl, rfl⟩, rfl, fun e he => ?_, fun k => ?_⟩, hQ _ ?_⟩
  · obtain ⟨i, k, x, t, rfl, h0, h1⟩ := e3 e he
    exact ⟨i, intKind_is prog w i k, (hash_small h0 h1).symm⟩
  · unfold findBy
    congr 1
    have key : ∀ l : List DictEntry, (∀ e ∈ l, e ∈ es) → (l.find? fun e => (intKind prog w).is k e.key) = l.find? fun e => e.hash == k := by
      intro l
      induction l with
      | nil => intro _; rfl
      | cons e l ih =>
        intro hm
        obtain ⟨i, q, x, t, rfl, h0, h1⟩ := e3 e (hm _ (List.mem_cons_self ..))
        rw [List.find?_cons, List.find?_cons, ih fun e he => hm e (List.mem_cons_of_mem _ he)]
        have : (intKind prog w).is k (.int i q) = (i == k) := by
          cases h : i == k with
          | true => rw [beq_iff_eq] at h; subst h; exact intKind_is prog w i q
          | false =>
            rw [beq_eq_false_iff_ne] at h
            cases h2 : (intKind prog w).is k (.int i q) with
            | false => rfl
            | true => exact absurd ((intKind prog w).inj _ _ _ (intKind_is prog w i q) h2) h
        simp only [this]
    have := key es.toList (fun e he => by simpa using he)
    simpa using this
  · rw [e4] at e
    cases hf : es.find? (fun e => e.hash == i) with
    | none =>
      rw [hf] at e
      cases e
      exact rv_atom st.lists st.book (Nat.le_succ _) (by simp only [hf]; rfl)
    | some d =>
      rw [hf] at e
      have hd : d ∈ es := Array.mem_of_find?_eq_some hf
      obtain ⟨i', k, x, t, rfl, h0, h1⟩ := e3 d hd
      obtain ⟨hl, rfl, rfl⟩ := newStr_some e
      exact rv_atom st.lists st.book (Nat.le_succ _) ⟨⟨t, by simp only [hf]; rfl⟩, hl⟩
end
end Mine
namespace Mine
open PySem PySem.Calls PyProof.Rows PySem.Builtin PySem.Builtin.Str
section
variable {prog : Program} {w : World} {mg mb : Str → Option Value} {hT : Heap} {A : Around} {s : Shared} {μ μ' : Mem} {g : Gh} {env : Env} {c : Cfg} {ρ : Loc} {a : V} {val : Value} {x : Str} {pos p : Pos} {n : Nat}

noncomputable abbrev TV (s : Shared) (μ : Mem) (g : Gh) (r : Bool) (μ' : Mem) : Bool → Shared → Prop := fun b s' => b = r ∧ ∃ g', Step s μ g s' μ' g'
/-- where the iterator of a source comes from -/
noncomputable abbrev IV (s : Shared) (μ : Mem) (g : Gh) (tgt : Expr) (src : Src) (μ' : Mem) : Value → Shared → Prop := fun it s' => ∃ I g', it = .ref I ∧ Step s μ g s' μ' g' ∧ ItSt s.heap tgt I src 0 g' s'.heap

structure Snd (prog : Program) (w : World) (mg mb : Str → Option Value) (hT : Heap) (n : Nat) : Prop where
  ev : EvOk prog w mg mb hT n
  cmp : ∀ c ρ l op r μ v μ', cmpE n c ρ l op r μ = some (v, μ') → ∀ env A s g, Ctx prog w mg mb hT c ρ env A s μ g →
    behindInMarks op r = false ∧ WP prog w A (eval l env) (fun a s₁ => WP prog w A (eval r env) (fun b s₂ => WP prog w A (compareOp op a b) (RV s μ g v μ') s₂) s₁) s
  call : ∀ c ρ f args μ v μ', callE n c ρ f args μ = some (v, μ') → c.isGlob f = true → ∀ p pos env A s g, Ctx prog w mg mb hT c ρ env A s μ g → WP prog w A (eval (.Call (.Name f p) args [] pos) env) (RV s μ g v μ') s
  meth : ∀ c ρ o m args μ v μ', methE n c ρ o m args μ = some (v, μ') → plainBase o = true → args.length < 8 → ∀ ap pos env A s g, (ap.endLine == pos.line) = true → Ctx prog w mg mb hT c ρ env A s μ g →
    WP prog w A (eval (.Call (.Attribute o m ap) args [] pos) env) (RV s μ g v μ') s
  src : ∀ c ρ e μ sr μ', src n c ρ e μ = some (sr, μ') → ∀ tgt, ((isEnum e).isSome = true → isTupT tgt = true) → ∀ env A s g, Ctx prog w mg mb hT c ρ env A s μ g →
    (∀ x, foldedSetIterable e env x = pure x) ∧ WP prog w A (eval e env) (fun x s₁ => WP prog w A (pyIter x) (IV s μ g tgt sr μ') s₁) s
  tr : ∀ c ρ e μ r μ', tr n c ρ e μ = some (r, μ') → ∀ env A s g, Ctx prog w mg mb hT c ρ env A s μ g → WP prog w A (isTrue e env (eval e env)) (TV s μ g r μ') s
  trs : ∀ c ρ op es μ r μ', trs n c ρ op es μ = some (r, μ') → ∀ env A s g, Ctx prog w mg mb hT c ρ env A s μ g → WP prog w A (allTrue op es env) (TV s μ g r μ') s

theorem RV.trans {s s₁ : Shared} {μ₁ : Mem} {g₁ : Gh} {v : V} (st : Step s μ g s₁ μ₁ g₁) : ∀ r s₂, RV s₁ μ₁ g₁ v μ' r s₂ → RV s μ g v μ' r s₂ := fun _ _ ⟨g₂, st₂, r₂⟩ => ⟨g₂, st.trans st₂, r₂⟩
theorem TV.trans {s s₁ : Shared} {μ₁ : Mem} {g₁ : Gh} {v : Bool} (st : Step s μ g s₁ μ₁ g₁) : ∀ r s₂, TV s₁ μ₁ g₁ v μ' r s₂ → TV s μ g v μ' r s₂ := fun _ _ ⟨e, g₂, st₂⟩ => ⟨e, g₂, st.trans st₂⟩

theorem asInt_some {i : Int} (h : asInt? a = some i) : ∃ o, a = .a0 (.int i o) := by
  unfold asInt? at h
  split at h
  · cases h; exact ⟨_, rfl⟩
  · first | exact no_some h | cases h

theorem is_bools {i j : Bool} {Q : Value → Shared → Prop} (h : ∀ b, (b = true → (i == j) = true) → Q (.bool b) s) : WP prog w A (compareOp .Is (.bool i) (.bool j)) Q s :=
  wpAny_is_plain rfl (h _ (by cases i <;> cases j <;> decide))

theorem snd_zero : Snd prog w mg mb hT 0 where
  ev := fun _ _ _ _ _ _ h => by cases h
  cmp := fun _ _ _ _ _ _ _ _ h => by cases h
  call := fun _ _ _ _ _ _ _ h => by cases h
  meth := fun _ _ _ _ _ _ _ _ h => by cases h
  src := fun _ _ _ _ _ _ h => by cases h
  tr := fun _ _ _ _ _ _ h => by cases h
  trs := fun _ _ _ _ _ _ _ h => by cases h

theorem two_ok (H : Snd prog w mg mb hT n) {l r : Expr} {a b v : V} {μ₁ μ₂ μ₃ : Mem} {F : Value → Value → Sem Value} (C : Ctx prog w mg mb hT c ρ env A s μ g) (h1 : ev n c ρ l μ = some (a, μ₁)) (h2 : ev n c ρ r μ₁ = some (b, μ₂))
    (h3 : ∀ x y s₂ g₂, Ctx prog w mg mb hT c ρ env A s₂ μ₂ g₂ → VR g₂ s₂.heap a x → VR g₂ s₂.heap b y → WP prog w A (F x y) (RV s₂ μ₂ g₂ v μ₃) s₂) :
    WP prog w A (eval l env) (fun x s₁ => WP prog w A (eval r env) (fun y s₂ => WP prog w A (F x y) (RV s μ g v μ₃) s₂) s₁) s :=
  WP.mono (H.ev _ _ _ _ _ _ h1 _ _ _ _ C) fun _ _ ⟨_, st1, r1⟩ => WP.mono (H.ev _ _ _ _ _ _ h2 _ _ _ _ (C.step st1)) fun _ _ ⟨_, st2, r2⟩ =>
    WP.mono (h3 _ _ _ _ ((C.step st1).step st2) (st2.grow r1) r2) (RV.trans (st1.trans st2))

theorem snd_cmp (H : Snd prog w mg mb hT n) : ∀ c ρ l op r μ v μ', cmpE (n + 1) c ρ l op r μ = some (v, μ') → ∀ env A s g, Ctx prog w mg mb hT c ρ env A s μ g →
    behindInMarks op r = false ∧ WP prog w A (eval l env) (fun a s₁ => WP prog w A (eval r env) (fun b s₂ => WP prog w A (compareOp op a b) (RV s μ g v μ') s₂) s₁) s := by
  intro c ρ l op r μ v μ' h env A s g C
  have gen : ∀ {a b : V} {μ₁ μ₂ : Mem}, ev n c ρ l μ = some (a, μ₁) → ev n c ρ r μ₁ = some (b, μ₂) → (cmpop op a b).map (fun x => (vbool x, μ₂)) = some (v, μ') →
      behindInMarks op r = false ∧ WP prog w A (eval l env) (fun a s₁ => WP prog w A (eval r env) (fun b s₂ => WP prog w A (compareOp op a b) (RV s μ g v μ') s₂) s₁) s := by
    intro a b μ₁ μ₂ h1 h2 h3
    obtain ⟨t, h4, h5⟩ := Option.map_eq_some_iff.mp h3
    cases h5
    exact ⟨noMarks h2, two_ok H C h1 h2 fun x y s₂ g₂ C₂ ha hb => WP.mono (cmpop_ok h4 C₂.a ha hb) fun z s₃ hz => by
      obtain ⟨rfl, rfl⟩ := hz
      exact ⟨g₂, Step.refl C₂.lists C₂.book, rfl⟩⟩
  by_cases hq : ∃ x q, op = .In ∧ r = .Name x q ∧ c.isGlob x = true
  · obtain ⟨z, q, rfl, rfl, hg⟩ := hq
    replace h := (if_pos hg).symm.trans (show (if c.isGlob z then (if z = ("b1_set" : Str) then (ev n c ρ l μ).bind fun a => (asInt? a.1).bind fun i => some (vbool (c.inSet i), a.2) else none)
        else (ev n c ρ l μ).bind fun a => (ev n c ρ (.Name z q) a.2).bind fun b => (cmpop .In a.1 b.1).map (vbool ·, b.2)) = some (v, μ') from h)
    by_cases hz : z = ("b1_set" : Str)
    · subst hz
      replace h := Option.bind_eq_some_iff.mp ((if_pos rfl).symm.trans h)
      obtain ⟨⟨a, μ₁⟩, h1, h⟩ := h
      replace h := Option.bind_eq_some_iff.mp h
      obtain ⟨i, h2, h⟩ := h
      cases h
      obtain ⟨o, rfl⟩ := asInt_some h2
      obtain ⟨ad, es, nn, t, e1, _⟩ := C.glob.set
      refine ⟨rfl, WP.mono (H.ev _ _ _ _ _ _ h1 _ _ _ _ C) fun x s₁ hx => ?_⟩
      obtain ⟨g₁, st1, u, rfl, _⟩ := hx
      refine name_glob (C.step st1) (isGlob_of hg) e1 (WP.mono (in_set_ok (C.step st1) e1) (RV.trans st1))
    · exact no_some ((if_neg hz).symm.trans h)
  · replace h : ((ev n c ρ l μ).bind fun a => (ev n c ρ r a.2).bind fun b => (cmpop op a.1 b.1).map (vbool ·, b.2)) = some (v, μ') := by
      rw [← h]
      cases op with
      | In => cases r with
        | Name x q => exact (if_neg fun e => hq ⟨x, q, rfl, rfl, e⟩).symm
        | _ => rfl
      | _ => rfl
    replace h := Option.bind_eq_some_iff.mp h
    obtain ⟨⟨a, μ₁⟩, h1, h⟩ := h
    replace h := Option.bind_eq_some_iff.mp h
    obtain ⟨⟨b, μ₂⟩, h2, h⟩ := h
    exact gen h1 h2 h

theorem snd_tr (H : Snd prog w mg mb hT n) : ∀ c ρ e μ r μ', tr (n + 1) c ρ e μ = some (r, μ') → ∀ env A s g, Ctx prog w mg mb hT c ρ env A s μ g → WP prog w A (isTrue e env (eval e env)) (TV s μ g r μ') s := by
  intro c ρ e μ r μ' h env A s g C
  have tk : ∀ {v : V} {x : Value} {s₁ : Shared} {g₁ : Gh}, truth v = some r → Step s μ g s₁ μ' g₁ → VR g₁ s₁.heap v x → WP prog w A (truthy x) (TV s μ g r μ') s₁ := by
    intro v x s₁ g₁ ht st hv
    refine WP.mono (truth_ok ht hv) fun b s₂ hb => ?_
    obtain ⟨rfl, k, t⟩ := hb
    exact ⟨rfl, g₁, st.trans (Step.of_keeps st.lists st.book k t)⟩
  have val : ((ev n c ρ e μ).bind fun a => (truth a.1).map (·, a.2)) = some (r, μ') → WP prog w A (eval e env) (fun x s₁ => WP prog w A (truthy x) (TV s μ g r μ') s₁) s := by
    intro h
    replace h := Option.bind_eq_some_iff.mp h
    obtain ⟨⟨a, μ₁⟩, h1, h⟩ := h
    replace h := Option.map_eq_some_iff.mp h
    obtain ⟨t, h2, h⟩ := h
    cases h
    exact WP.mono (H.ev _ _ _ _ _ _ h1 _ _ _ _ C) fun x s₁ hx => tk h2 hx.choose_spec.1 hx.choose_spec.2
  cases e with
  | Compare l ops rs _ => match ops, rs, h with
    | [op], [r], h =>
      replace h := Option.bind_eq_some_iff.mp (show (cmpE n c ρ l op r μ).bind _ = some (_, μ') from h)
      obtain ⟨⟨a, μ₁⟩, h1, h⟩ := h
      replace h := Option.map_eq_some_iff.mp h
      obtain ⟨t, h2, h⟩ := h
      cases h
      obtain ⟨k1, k2⟩ := H.cmp _ _ _ _ _ _ _ _ h1 env A s g C
      exact wpAny_isTrue_Compare1 (WP.mono k2 fun _ _ h1 => WP.mono h1 fun _ _ h2' => WP.mono h2' fun x s₁ hx => tk h2 hx.choose_spec.1 hx.choose_spec.2) k1
    | [], _, h => exact no_some h
    | [_], [], h => exact no_some h
    | [_], _ :: _ :: _, h => exact no_some h
    | _ :: _ :: _, _, h => exact no_some h
  | BoolOp op es _ => exact wpAny_isTrue_BoolOp (H.trs _ _ _ _ _ _ _ h _ _ _ _ C)
  | UnaryOp op x _ => cases op with
    | Not =>
      replace h := Option.map_eq_some_iff.mp (show (tr n c ρ x μ).map _ = some (r, μ') from h)
      obtain ⟨⟨a, μ₁⟩, h1, h⟩ := h
      cases h
      refine isTrue_not (WP.mono (H.tr _ _ _ _ _ _ h1 _ _ _ _ C) fun b s₁ hb => ?_)
      exact ⟨by rw [hb.1], hb.2⟩
    | _ => exact no_some h
  | Name x p => exact wpAny_isTrue_value (val h)
  | Call f as ks p => exact wpAny_isTrue_value (val h)
  | _ => exact no_some h

theorem asCmp_some {is : CmpOp → Bool} {e l r : Expr} (h : asCmp is e = some (l, r)) : ∃ op p, e = .Compare l [op] [r] p ∧ is op = true := by
  cases e with
  | Compare l' ops rs p => match ops, rs, h with
    | [op], [r'], h =>
      replace h : (if is op then some (l', r') else none) = some (l, r) := h
      by_cases hi : is op = true
      · rw [if_pos hi] at h
        cases h
        exact ⟨_, _, rfl, hi⟩
      · exact no_some ((if_neg hi).symm.trans h)
    | [], _, h => exact no_some h
    | [_], [], h => exact no_some h
    | [_], _ :: _ :: _, h => exact no_some h
    | _ :: _ :: _, _, h => exact no_some h
  | _ => exact no_some h
theorem isIs_eq {op : CmpOp} (h : isIs op = true) : op = .Is := by
  cases op with
  | Is => rfl
  | _ => exact absurd (show false = true from h) Bool.false_ne_true
theorem isEq_eq {op : CmpOp} (h : isEq op = true) : op = .Eq := by
  cases op with
  | Eq => rfl
  | _ => exact absurd (show false = true from h) Bool.false_ne_true
theorem isOrEq_some {a b : V} {r : Bool} (h : isOrEq a b = some r) : (∃ i j, a = .a0 (.int i true) ∧ b = .a0 (.int j true) ∧ (i == j) = r) ∨ ∃ i j, a = .a0 (.bool i) ∧ b = .a0 (.bool j) ∧ (i == j) = r := by
  cases a with
  | a0 a => cases a with
    | int i o => cases o with
      | true => cases b with
        | a0 b => cases b with
          | int j o' => cases o' with
            | true => exact .inl ⟨i, j, rfl, rfl, Option.some.inj h⟩
            | false => exact no_some h
          | _ => exact no_some h
        | _ => exact no_some h
      | false => exact no_some h
    | bool i => cases b with
      | a0 b => cases b with
        | bool j => exact .inr ⟨i, j, rfl, rfl, Option.some.inj h⟩
        | _ => exact no_some h
      | _ => exact no_some h
    | _ => exact no_some h
  | _ => exact no_some h
theorem isEqPair_some {x : Expr} {r : List Expr} {l r' l' r'' : Expr} (h : isEqPair x r = some ((l, r'), l', r'')) : ∃ p1 p2, x = .Compare l [.Is] [r'] p1 ∧ r = [.Compare l' [.Eq] [r''] p2] := by
  match r, h with
  | [y], h =>
    replace h := Option.bind_eq_some_iff.mp (show (asCmp isIs x).bind _ = some ((l, r'), l', r'') from h)
    obtain ⟨a, h1, h⟩ := h
    replace h := Option.map_eq_some_iff.mp h
    obtain ⟨b, h2, h⟩ := h
    cases h
    obtain ⟨o1, p1, rfl, i1⟩ := asCmp_some h1
    obtain ⟨o2, p2, rfl, i2⟩ := asCmp_some h2
    rw [isIs_eq i1, isEq_eq i2]
    exact ⟨p1, p2, rfl, rfl⟩
  | [], h => exact no_some h
  | _ :: _ :: _, h => exact no_some h

theorem or_last {r : Bool} {g₁ : Gh} {s₁ : Shared} (st : Step s μ g s₁ μ' g₁) : WP prog w A (truthy (.bool r)) (fun b s₂ => if b = true then TV s μ g r μ' true s₂ else WP prog w A (allTrue .Or [] env) (TV s μ g r μ') s₂) s₁ := by
  refine wpAny_truthy_bool ?_
  cases r with
  | true => exact ⟨rfl, g₁, st⟩
  | false => exact wpAny_allTrue_Or_nil ⟨rfl, g₁, st⟩
theorem eq_again (H : Snd prog w mg mb hT n) {a b : V} {r : Bool} {l' r'' : Expr} {p2 : Pos} {μ₃ : Mem} {s₂ : Shared} {g₂ : Gh} (C2 : Ctx prog w mg mb hT c ρ env A s₂ μ g₂) (st : Step s μ g s₂ μ g₂) (h3 : ev n c ρ l' μ = some (a, μ₃)) (h4 : ev n c ρ r'' μ₃ = some (b, μ))
    (h5 : isOrEq a b = some r) : WP prog w A (allTrue .Or [.Compare l' [.Eq] [r''] p2] env) (TV s μ g r μ) s₂ := by
  refine wpAny_allTrue_Or_cons (wpAny_isTrue_Compare1 ?_ (noMarks h4))
  refine WP.mono (H.ev _ _ _ _ _ _ h3 _ _ _ _ C2) fun x s₃ hx => ?_
  obtain ⟨g₃, st3, r3⟩ := hx
  refine WP.mono (H.ev _ _ _ _ _ _ h4 _ _ _ _ (C2.step st3)) fun y s₄ hy => ?_
  obtain ⟨g₄, st4, r4⟩ := hy
  have r3' := st4.grow r3
  have st' := (st.trans st3).trans st4
  rcases isOrEq_some h5 with ⟨i, j, rfl, rfl, rfl⟩ | ⟨i, j, rfl, rfl, rfl⟩
  · obtain ⟨k1, rfl, _⟩ := r3'
    obtain ⟨k2, rfl, _⟩ := r4
    exact eq_int (or_last st')
  · cases r3'; cases r4
    exact eq_bool (or_last st')
theorem is_or_eq (H : Snd prog w mg mb hT n) {r : Bool} {l r' l' r'' : Expr} {p1 p2 : Pos} (h : ((ev n c ρ l μ).bind fun a => (ev n c ρ r' a.2).bind fun b => (ev n c ρ l' b.2).bind fun a' => (ev n c ρ r'' a'.2).bind fun b' =>
            if b.2 = μ ∧ b'.2 = μ ∧ a'.1 = a.1 ∧ b'.1 = b.1 then (isOrEq a.1 b.1).map (·, μ) else none) = some (r, μ')) (C : Ctx prog w mg mb hT c ρ env A s μ g) : WP prog w A (allTrue .Or [.Compare l [.Is] [r'] p1, .Compare l' [.Eq] [r''] p2] env) (TV s μ g r μ') s := by
  replace h := Option.bind_eq_some_iff.mp h
  obtain ⟨⟨a, μ₁⟩, h1, h⟩ := h
  replace h := Option.bind_eq_some_iff.mp h
  obtain ⟨⟨b, μ₂⟩, h2, h⟩ := h
  replace h := Option.bind_eq_some_iff.mp h
  obtain ⟨⟨a', μ₃⟩, h3, h⟩ := h
  replace h := Option.bind_eq_some_iff.mp h
  obtain ⟨⟨b', μ₄⟩, h4, h⟩ := h
  by_cases hg : μ₂ = μ ∧ μ₄ = μ ∧ a' = a ∧ b' = b
  · replace h := Option.map_eq_some_iff.mp ((if_pos hg).symm.trans h)
    obtain ⟨rfl, e2, rfl, rfl⟩ := hg
    subst e2
    obtain ⟨t, h5, h⟩ := h
    cases h
    refine wpAny_allTrue_Or_cons (wpAny_isTrue_Compare1 ?_ (noMarks h2))
    refine WP.mono (H.ev _ _ _ _ _ _ h1 _ _ _ _ C) fun x s₁ hx => ?_
    obtain ⟨g₁, st1, r1⟩ := hx
    refine WP.mono (H.ev _ _ _ _ _ _ h2 _ _ _ _ (C.step st1)) fun y s₂ hy => ?_
    obtain ⟨g₂, st2, r2⟩ := hy
    have C2 := (C.step st1).step st2
    have again := eq_again (p2 := p2) H C2 (st1.trans st2) h3 h4 h5
    have r1' := st2.grow r1
    rcases isOrEq_some h5 with ⟨i, j, rfl, rfl, rfl⟩ | ⟨i, j, rfl, rfl, rfl⟩
    · obtain ⟨k1, rfl, f1⟩ := r1'
      obtain ⟨k2, rfl, f2⟩ := r2
      refine WP.mono (is_ints C2.book C2.glob.nobook (f1 rfl) (f2 rfl)) fun z s₃ hz => ?_
      obtain ⟨b1, rfl, rfl, hb1⟩ := hz
      refine wpAny_truthy_bool ?_
      cases b1 with
      | true => exact ⟨(beq_iff_eq.mpr (hb1 rfl)).symm, g₂, st1.trans st2⟩
      | false => exact again
    · cases r1'; cases r2
      refine is_bools fun b1 hb => wpAny_truthy_bool ?_
      cases b1 with
      | true => exact ⟨(hb rfl).symm, g₂, st1.trans st2⟩
      | false => exact again
  · exact no_some ((if_neg hg).symm.trans h)
theorem snd_trs (H : Snd prog w mg mb hT n) : ∀ c ρ op es μ r μ', trs (n + 1) c ρ op es μ = some (r, μ') → ∀ env A s g, Ctx prog w mg mb hT c ρ env A s μ g → WP prog w A (allTrue op es env) (TV s μ g r μ') s := by
  intro c ρ op es μ r μ' h env A s g C
  cases es with
  | nil => cases op with
    | And => cases h; exact wpAny_allTrue_And_nil ⟨rfl, g, Step.refl C.lists C.book⟩
    | Or => cases h; exact wpAny_allTrue_Or_nil ⟨rfl, g, Step.refl C.lists C.book⟩
  | cons x es => cases op with
    | And =>
      replace h := Option.bind_eq_some_iff.mp (show (tr n c ρ x μ).bind _ = some (r, μ') from h)
      obtain ⟨⟨a, μ₁⟩, h1, h⟩ := h
      refine wpAny_allTrue_And_cons (WP.mono (H.tr _ _ _ _ _ _ h1 _ _ _ _ C) fun b s₁ hb => ?_)
      obtain ⟨rfl, g₁, st⟩ := hb
      cases b with
      | true => exact WP.mono (H.trs _ _ _ _ _ _ _ h _ _ _ _ (C.step st)) (TV.trans st)
      | false => cases h; exact ⟨rfl, g₁, st⟩
    | Or =>
      cases hq : isEqPair x es with
      | some q =>
        obtain ⟨⟨l, r1⟩, l', r2⟩ := q
        obtain ⟨p1, p2, rfl, rfl⟩ := isEqPair_some hq
        exact is_or_eq H h C
      | none =>
        have e : trs (n + 1) c ρ .Or (x :: es) μ = (match isEqPair x es with
          | some ((l, r), l', r') => (ev n c ρ l μ).bind fun a => (ev n c ρ r a.2).bind fun b => (ev n c ρ l' b.2).bind fun a' => (ev n c ρ r' a'.2).bind fun b' =>
            if b.2 = μ ∧ b'.2 = μ ∧ a'.1 = a.1 ∧ b'.1 = b.1 then (isOrEq a.1 b.1).map (·, μ) else none
          | none => (tr n c ρ x μ).bind fun a => if a.1 then some (true, a.2) else trs n c ρ .Or es a.2) := rfl
        rw [e, hq] at h
        clear e
        replace h := Option.bind_eq_some_iff.mp h
        obtain ⟨⟨a, μ₁⟩, h1, h⟩ := h
        refine wpAny_allTrue_Or_cons (WP.mono (H.tr _ _ _ _ _ _ h1 _ _ _ _ C) fun b s₁ hb => ?_)
        obtain ⟨rfl, g₁, st⟩ := hb
        cases b with
        | true => cases h; exact ⟨rfl, g₁, st⟩
        | false => exact WP.mono (H.trs _ _ _ _ _ _ _ h _ _ _ _ (C.step st)) (TV.trans st)
end
end Mine
namespace Mine
open PySem PySem.Calls PyProof.Rows PySem.Builtin PySem.Builtin.Str
section
variable {prog : Program} {w : World} {mg mb : Str → Option Value} {hT : Heap} {A : Around} {s : Shared} {μ μ' : Mem} {g : Gh} {env : Env} {c : Cfg} {ρ : Loc} {a : V} {val : Value} {x : Str} {pos p : Pos} {n : Nat}

theorem fresh_new {h h' : Heap} (k : KeepsH h h') : h.get? h'.objs.size = none := by
  cases q : h.get? h'.objs.size with
  | none => rfl
  | some o => exact absurd (Heap.lt_size (k _ _ q)) (Nat.lt_irrefl _)
theorem free_ok {f : Str} {v : Value} (G : GOk mg mb hT c s.heap) (hf : f ∈ (["len", "chr", "ord", "sum", "min", "max", "str", "int", "isinstance", "list", "range", "enumerate"] : List Str)) (hv : bootBuiltins f = some v) : mg f = none ∧ mb f = some v := by
  obtain ⟨h1, h2⟩ := G.free f hf
  exact ⟨h1, h2.trans hv⟩

theorem isRange_some {e : Expr} {args : List Expr} (h : isRange e = some args) : ∃ p pos, e = .Call (.Name "range" p) args [] pos := by
  unfold isRange at h
  split at h
  · split at h
    · rename_i hf
      cases h
      subst hf
      exact ⟨_, _, rfl⟩
    · first | exact no_some h | cases h
  · first | exact no_some h | cases h
theorem isEnum_some {e a : Expr} (h : isEnum e = some a) : ∃ p pos, e = .Call (.Name "enumerate" p) [a] [] pos := by
  unfold isEnum at h
  split at h
  · split at h
    · rename_i hf
      cases h
      subst hf
      exact ⟨_, _, rfl⟩
    · first | exact no_some h | cases h
  · first | exact no_some h | cases h

theorem snd_src (H : Snd prog w mg mb hT n) : ∀ c ρ e μ sr μ', src (n + 1) c ρ e μ = some (sr, μ') → ∀ tgt, ((isEnum e).isSome = true → isTupT tgt = true) → ∀ env A s g, Ctx prog w mg mb hT c ρ env A s μ g →
    (∀ x, foldedSetIterable e env x = pure x) ∧ WP prog w A (eval e env) (fun x s₁ => WP prog w A (pyIter x) (IV s μ g tgt sr μ') s₁) s := by
  intro c ρ e μ sr μ' h tgt htgt env A s g C
  unfold src at h
  split at h
  · rename_i args hr
    obtain ⟨p, pos, rfl⟩ := isRange_some hr
    split at h
    · rename_i hg
      replace h := Option.bind_eq_some_iff.mp h
      obtain ⟨⟨l, μ₁⟩, h1, h⟩ := h
      replace h := Option.map_eq_some_iff.mp h
      obtain ⟨its, h2, h⟩ := h
      cases h
      obtain ⟨k1, k2⟩ := free_ok C.glob (f := "range") (by simp) (v := .type "range") (by decide +kernel)
      refine ⟨fun _ => rfl, call_name (.inr ⟨_, rfl⟩) (name_builtin C (isGlob_of hg) k1 k2 ⟨rfl, rfl⟩) (evs_plain args h1).1 (WP.mono (items_ok H.ev args h1 C) fun vals s₁ hv => ?_)⟩
      obtain ⟨g₁, st, r1⟩ := hv
      refine WP.mono (range_ok st.lists st.book h2 r1) fun x s₂ hx => ?_
      obtain ⟨r, a, b, t, u, v, rfl, st2, hf, hr, hi, ha, hb⟩ := hx
      obtain ⟨m1, m2, m3⟩ := lim_small ha hb
      refine wpAny_pyIter_range hr m1 ⟨_, g₁, rfl, (st.trans st2).trans (Step.of_keeps st2.lists st2.book (Keeps.push s₂ _ s₂.toks) (Nat.le_refl _)), fresh_new (Keeps.h (st.trans st2).keeps), .inl ⟨a, (b - a).toNat, by rw [hi]; rfl, Nat.zero_le _, ?_⟩⟩
      show Heap.get? _ _ = some _
      rw [Heap.get?_push_size _ rfl, m3]
      simp
    · first | exact no_some h | cases h
  · rename_i hr
    split at h
    · rename_i a he
      obtain ⟨p, pos, rfl⟩ := isEnum_some he
      split at h
      · rename_i hg
        replace h := Option.bind_eq_some_iff.mp h
        obtain ⟨⟨v, μ₁⟩, h1, h⟩ := h
        dsimp only at h
        split at h
        · rename_i m
          replace h := Option.bind_eq_some_iff.mp h
          obtain ⟨l, h2, h⟩ := h
          replace h := Option.map_eq_some_iff.mp h
          obtain ⟨es, h3, h⟩ := h
          cases h
          obtain ⟨k1, k2⟩ := free_ok C.glob (f := "enumerate") (by simp) (v := .type "enumerate") (by decide +kernel)
          have h1' : evs (ev n c ρ) [a] μ = some ([.lst m], μ') := by simp [evs, h1]
          refine ⟨fun _ => rfl, call_name (.inr ⟨_, rfl⟩) (name_builtin C (isGlob_of hg) k1 k2 ⟨rfl, rfl⟩) (evs_plain [a] h1').1 (WP.mono (items_ok H.ev [a] h1' C) fun vals s₁ hv => ?_)⟩
          obtain ⟨g₁, st, r1⟩ := hv
          match vals, r1 with
          | [x], r1 =>
            obtain ⟨q, hq, rfl⟩ := r1.1
            obtain ⟨q', its, e1, e2, e3, e4⟩ := st.lists.at_ m l h2
            rw [hq] at e1; cases e1
            refine call_enumerate_list e2.isList fun h' he' hit' hz hk => ?_
            have stk : Step s₁ μ' g₁ { s₁ with heap := h' } μ' g₁ := Step.of_keeps st.lists st.book ⟨h', s₁.toks, rfl, hk⟩ (Nat.le_refl _)
            refine wpAny_pyIter_enum he' ⟨_, g₁, rfl, st.trans stk, ?_, .inr (.inr ⟨m, q, l, s₁.heap.objs.size, .none, htgt rfl, rfl, h3, Nat.zero_le _, hq, fresh_new (Keeps.h st.keeps), he', hit'⟩)⟩
            cases qq : s.heap.get? (s₁.heap.objs.size + 1) with
            | none => rfl
            | some o => exact absurd (Heap.lt_size (Keeps.h st.keeps _ _ qq)) (Nat.not_lt.mpr (Nat.le_succ _))
        · first | exact no_some h | cases h
      · first | exact no_some h | cases h
    · rename_i he
      split at h
      · rename_i z q
        replace h := Option.bind_eq_some_iff.mp h
        obtain ⟨⟨v, μ₁⟩, h1, h⟩ := h
        dsimp only at h
        split at h
        · rename_i m
          replace h := Option.map_eq_some_iff.mp h
          obtain ⟨l, h2, h⟩ := h
          cases h
          refine ⟨fun _ => rfl, WP.mono (H.ev _ _ _ _ _ _ h1 _ _ _ _ C) fun x s₁ hx => ?_⟩
          obtain ⟨g₁, st, q, hq, rfl⟩ := hx
          obtain ⟨q', its, e1, e2, e3, e4⟩ := st.lists.at_ m l h2
          rw [hq] at e1; cases e1
          exact wpAny_pyIter_list e2.isList ⟨_, g₁, rfl, st.trans (Step.of_keeps st.lists st.book (Keeps.push s₁ _ s₁.toks) (Nat.le_refl _)), fresh_new (Keeps.h st.keeps), .inr (.inl ⟨m, q, rfl, Nat.zero_le _, hq, _, Heap.get?_push_size _ rfl, rfl, rfl⟩)⟩
        · first | exact no_some h | cases h
      · first | exact no_some h | cases h

theorem self_ok {hb : Heap} {tgt : Expr} {I : Addr} {src : Src} {i : Nat} {Q : Value → Shared → Prop} {E : Value → Shared → Prop} (st : ItSt hb tgt I src i g s.heap) (h : Q (.ref I) s) : wpAny (model prog w) A (pyIter (.ref I)) Q E s := by
  obtain ⟨_, ⟨a, n, _, _, e⟩ | ⟨m, p, _, _, _, e⟩ | ⟨m, p, l, it, old, _, _, _, _, _, _, e, _⟩⟩ := st
  · exact wpAny_pyIter_rangeiter e h
  · exact wpAny_pyIter_listiter e h
  · exact wpAny_pyIter_enum e h

/-- a step goes on: what is written is new against its start -/
theorem Step.but {s' s'' : Shared} {g' : Gh} {bk : Tok → Option Int} {W : Addr → Prop} (st : Step s μ g s' μ' g') (sh : ∃ h tk, s'' = { s' with heap := h, toks := tk }) (ht : s'.toks ≤ s''.toks) (k : KeepsW W s'.heap s''.heap)
    (hw : ∀ b, W b → s.heap.get? b = none) (nt : NoTup W s'.heap) (hl : ∀ p ∈ g'.ad, ¬ W p) (hb : BkLe g'.bk bk) (B : Book bk s''.toks) : Step s μ g s'' μ' ⟨g'.ad, bk⟩ := by
  obtain ⟨h, tk, rfl⟩ := sh
  have L := st.lists.but k nt hl
  refine ⟨?_, Nat.le_trans st.toks ht, st.mem, st.ad, fun t i e => hb t i (st.bk t i e), L.grow (fun _ _ e => e) hb, B⟩
  obtain ⟨h1, tk1, rfl, k1⟩ := st.keeps
  exact ⟨h, tk, rfl, fun b o e => k b o (fun hb => by rw [hw b hb] at e; cases e) (k1 b o e)⟩

/-- a new list joins the store -/
theorem Step.join {s' : Shared} {g' : Gh} {D : Addr} {l : List V} {ys : Array Value} (st : Step s μ g s' μ' g') (hD : s.heap.get? D = none) (hn : D ∉ g'.ad) (hl : s'.heap.PlainList D ys) (hi : L2 (IR g'.bk s'.heap) l ys.toList) (hlen : l.length ≤ lim) :
    RV s μ g (.lst μ'.length) (μ' ++ [l]) (.ref D) s' := by
  have hat : (g'.ad ++ [D])[μ'.length]? = some D := by rw [List.getElem?_append_right (by rw [st.lists.len]; exact Nat.le_refl _), st.lists.len, Nat.sub_self]; rfl
  obtain ⟨m, hm⟩ := st.mem
  obtain ⟨ps, e, nd, fr⟩ := st.ad
  refine ⟨⟨g'.ad ++ [D], g'.bk⟩, ⟨st.keeps, st.toks, ⟨m ++ [l], by rw [hm, List.append_assoc]⟩, ⟨ps ++ [D], by show g'.ad ++ [D] = _; rw [e, List.append_assoc], ?_, ?_⟩, st.bk, ⟨?_, ?_, fun i l' e' => ?_⟩, st.book⟩, ⟨D, hat, rfl⟩⟩
  · rw [List.nodup_append]
    refine ⟨nd, by simp, fun q hq r hr e' => ?_⟩
    rw [List.mem_singleton] at hr
    subst hr; subst e'
    exact hn (by rw [e]; exact List.mem_append_right _ hq)
  · intro q hq
    rcases List.mem_append.mp hq with h | h
    · exact fr q h
    · rw [List.mem_singleton] at h; subst h; exact hD
  · show (g'.ad ++ [D]).length = _
    rw [List.length_append, List.length_append, st.lists.len]; rfl
  · show (g'.ad ++ [D]).Nodup
    rw [List.nodup_append]
    refine ⟨st.lists.nd, by simp, fun q hq r hr e' => ?_⟩
    rw [List.mem_singleton] at hr
    subst hr; subst e'
    exact hn hq
  · rcases Nat.lt_or_ge i μ'.length with hi' | hi'
    · rw [List.getElem?_append_left hi'] at e'
      obtain ⟨q, vs, e1, e2, e3, e4⟩ := st.lists.at_ i l' e'
      exact ⟨q, vs, by show (g'.ad ++ [D])[i]? = _; rw [List.getElem?_append_left (by rw [st.lists.len]; exact hi')]; exact e1, e2, e3, e4⟩
    · have hn' : i = μ'.length := by
        have := (List.getElem?_eq_some_iff.mp e').1
        rw [List.length_append, List.length_singleton] at this
        (first | lia | omega)
      subst hn'
      rw [List.getElem?_append_right (Nat.le_refl _), Nat.sub_self] at e'
      simp at e'; subst e'
      exact ⟨D, ys, hat, hl, hi, hlen⟩
end
end Mine
namespace Mine
open PySem PySem.Calls PyProof.Rows PySem.Builtin PySem.Builtin.Str

theorem lookup_mem {α : Type} : ∀ {l : List (Str × α)} {x : Str} {k : α}, l.lookup x = some k → (x, k) ∈ l
  | [], _, _, h => by simp at h
  | (n, k') :: r, x, k, h => by
    by_cases hx : x = n
    · subst hx
      simp at h; subst h; exact List.mem_cons_self ..
    · simp only [List.lookup_cons, beq_eq_false_iff_ne.mpr hx] at h
      exact List.mem_cons_of_mem _ (lookup_mem h)

structure CompFacts (scope : Scope) (outer : List (Str × NameKind)) (ρ : Loc) (tgt : Expr) : Prop where
  kind : scope.kind = .function
  cell : ∀ p ∈ scope.names, p.2 ≠ .cell
  loc : ∀ p ∈ scope.names, p.2 = .local → scope.names.lookup p.1 = some .local
  locN : ∀ x, scope.names.lookup x = some .local → x ∈ tgtNames tgt ∨ ρ.lookup x = none
  free : ∀ p ∈ scope.names, p.2 = .free → outer.lookup p.1 = some .cell ∧ scope.names.lookup p.1 = some .free
  tgt : ∀ x ∈ tgtNames tgt, scope.names.lookup x = some .local
  debug : scope.names.lookup ("__debug__" : Str) = none
theorem compOk_facts {scope : Scope} {outer : List (Str × NameKind)} {ρ : Loc} {tgt : Expr} (h : compOk scope outer ρ tgt = true) : CompFacts scope outer ρ tgt := by
  unfold compOk at h
  simp only [Bool.and_eq_true] at h
  obtain ⟨⟨⟨⟨⟨h1, h2⟩, h3⟩, h4⟩, h5⟩, h6⟩ := h
  rw [List.all_eq_true] at h2 h3
  refine ⟨by simpa using h1, fun p hp e => ?_, fun p hp e => ?_, fun x hx => ?_, fun p hp e => ?_, fun x hx => by simpa using h3 x hx, by simpa using h6⟩
  · have := h2 p hp
    rw [e] at this
    cases this
  · have := h2 p hp
    rw [e] at this
    simp only [Bool.and_eq_true, beq_iff_eq] at this
    exact this.2
  · have := h2 _ (lookup_mem hx)
    simp only [Bool.and_eq_true, Bool.or_eq_true] at this
    rcases this.1 with q | q
    · exact .inl (by simpa using q)
    · exact .inr (by simpa using q)
  · have := h2 p hp
    rw [e] at this
    simp only [Bool.and_eq_true, beq_iff_eq] at this
    exact this

theorem relab_lookup (outer : List (Str × NameKind)) : ∀ (names : List (Str × NameKind)) (x : Str), (relab names outer).lookup x = (names.lookup x).map fun k => if (k == NameKind.free && outer.lookup x == some NameKind.cell) = true then NameKind.cell else k
  | [], x => rfl
  | (n, k) :: r, x => by
    have ih := relab_lookup outer r x
    show List.lookup x ((if (k == NameKind.free && outer.lookup n == some NameKind.cell) = true then (n, NameKind.cell) else (n, k)) :: relab r outer) = _
    by_cases hx : x = n
    · subst hx
      by_cases hc : (k == NameKind.free && outer.lookup x == some NameKind.cell) = true
      · rw [if_pos hc]; simp only [List.lookup_cons, beq_self_eq_true, Option.map_some]; rw [if_pos hc]
      · rw [if_neg hc]; simp only [List.lookup_cons, beq_self_eq_true, Option.map_some]; rw [if_neg hc]
    · have hb := beq_eq_false_iff_ne.mpr hx
      by_cases hc : (k == NameKind.free && outer.lookup n == some NameKind.cell) = true
      · rw [if_pos hc]; simp only [List.lookup_cons, hb]; exact ih
      · rw [if_neg hc]; simp only [List.lookup_cons, hb]; exact ih
theorem relab_eq {env : Env} {c : Cfg} (eo : EnvOk env c) (scope : Scope) : (relabel scope env).names = relab scope.names c.names := by
  unfold relabel relab
  simp only [eo.kind, kindOf eo, beq_self_eq_true, Bool.and_true]

/-- the cells that a comprehension's block closes over -/
noncomputable def clos (env : Env) (names : List (Str × NameKind)) (acc : List (Str × Addr)) : List (Str × Addr) := names.foldl (fun cs p => if (p.2 == .free) = true then (p.1, (env.cells.lookup p.1).getD 0) :: cs else cs) acc
theorem closureFor_eq {env : Env} {scope : Scope} (h : ∀ p ∈ scope.names, p.2 = .free → (env.cells.lookup p.1).isSome = true) : closureFor scope env = pure (clos env scope.names []) := by
  unfold closureFor
  have key : ∀ (l : List (Str × NameKind)) (acc : List (Str × Addr)), (∀ p ∈ l, p.2 = .free → (env.cells.lookup p.1).isSome = true) →
      (forIn l acc (fun (x : Str × NameKind) (cs : List (Str × Addr)) => (match x with
        | (name, kind) => if (kind == .free) = true then do
            let y ← cellOf env name
            pure (ForInStep.yield ((name, y) :: cs)) else pure (ForInStep.yield cs) : Sem (ForInStep (List (Str × Addr))))) : Sem _) = pure (clos env l acc) := by
    intro l
    induction l with
    | nil => intro acc _; rfl
    | cons p l ih =>
      intro acc hl
      obtain ⟨nm, k⟩ := p
      rw [List.forIn_cons]
      cases hk : (k == NameKind.free) with
      | true =>
        have hs := hl (nm, k) (List.mem_cons_self ..) (by simpa using hk)
        obtain ⟨b, hb⟩ := Option.isSome_iff_exists.mp hs
        have hc : cellOf env nm = pure b := by unfold cellOf; rw [hb]
        simp only [hk, if_true, hc]
        refine Eq.trans ?_ ((ih ((nm, b) :: acc) fun p hp => hl p (List.mem_cons_of_mem _ hp)).trans ?_)
        · rfl
        · have hk' : k = .free := by simpa using hk
          simp [clos, hk', hb]
      | false =>
        simp only [hk, Bool.false_eq_true, if_false]
        refine Eq.trans ?_ ((ih acc fun p hp => hl p (List.mem_cons_of_mem _ hp)).trans ?_)
        · rfl
        · have hk' : ¬ k = .free := by simpa using hk
          simp [clos, hk']
  have := key scope.names [] h
  exact (congrArg (fun m : Sem (List (Str × Addr)) => m >>= fun cs => pure cs) this).trans rfl
theorem clos_lookup {env : Env} : ∀ (names : List (Str × NameKind)) (acc : List (Str × Addr)) (x : Str) (b : Addr), env.cells.lookup x = some b → (∀ p ∈ acc, p.1 = x → p.2 = b) → ((x, NameKind.free) ∈ names ∨ ∃ p ∈ acc, p.1 = x) → (clos env names acc).lookup x = some b
  | [], acc, x, b, _, hacc, h => by
    obtain ⟨p, hp, e⟩ := h.resolve_left (by simp)
    show acc.lookup x = some b
    clear h
    induction acc with
    | nil => first | exact no_some hp | cases hp
    | cons q l ih =>
      obtain ⟨m, v⟩ := q
      by_cases hx : x = m
      · subst hx
        have := hacc (x, v) (List.mem_cons_self ..) rfl
        simp at this ⊢; exact this
      · simp only [List.lookup_cons, beq_eq_false_iff_ne.mpr hx]
        rcases List.mem_cons.mp hp with h | h
        · subst h; exact absurd e.symm hx
        · exact ih (fun p hp => hacc p (List.mem_cons_of_mem _ hp)) h
  | (m, k) :: r, acc, x, b, hb, hacc, h => by
    show (clos env r _).lookup x = some b
    by_cases hk : (k == .free) = true
    · simp only [hk, if_true]
      have hk' : k = .free := by simpa using hk
      subst hk'
      by_cases hx : m = x
      · subst hx
        refine clos_lookup r _ m b hb (fun p hp e => ?_) (.inr ⟨_, List.mem_cons_self .., rfl⟩)
        rcases List.mem_cons.mp hp with q | q
        · subst q; simp [hb]
        · exact hacc p q e
      · refine clos_lookup r _ x b hb (fun p hp e => ?_) ?_
        · rcases List.mem_cons.mp hp with q | q
          · subst q; exact absurd e hx
          · exact hacc p q e
        · rcases h with h | ⟨p, hp, e⟩
          · rcases List.mem_cons.mp h with q | q
            · cases q; exact absurd rfl hx
            · exact .inl q
          · exact .inr ⟨p, List.mem_cons_of_mem _ hp, e⟩
    · simp only [hk]
      refine clos_lookup r _ x b hb hacc ?_
      rcases h with h | h
      · rcases List.mem_cons.mp h with q | q
        · cases q; exact absurd rfl hk
        · exact .inl q
      · exact .inr h

theorem updAll_out : ∀ (bs : List (Str × V)) (ρ : Loc) (y : Str), y ∉ bs.map (·.1) → (updAll bs ρ).lookup y = ρ.lookup y
  | [], ρ, y, _ => rfl
  | (x, v) :: r, ρ, y, h => by
    simp only [List.map_cons, List.mem_cons, not_or] at h
    show (updAll r (upd x v ρ)).lookup y = _
    rw [updAll_out r _ y h.2, upd_lookup, if_neg h.1]
theorem updAll_eq : ∀ (bs : List (Str × V)) (ρ ρ' : Loc) (y : Str), (y ∉ bs.map (·.1) → ρ.lookup y = ρ'.lookup y) → (updAll bs ρ).lookup y = (updAll bs ρ').lookup y
  | [], ρ, ρ', y, h => h (by simp)
  | (x, v) :: r, ρ, ρ', y, h => by
    show (updAll r (upd x v ρ)).lookup y = (updAll r (upd x v ρ')).lookup y
    refine updAll_eq r _ _ y fun hy => ?_
    rw [upd_lookup, upd_lookup]
    by_cases hx : y = x
    · rw [if_pos hx, if_pos hx]
    · rw [if_neg hx, if_neg hx]; exact h (by simp [hx]; exact fun z hz => hy (by simp; exact ⟨z, hz⟩))
theorem bindT_keys {tgt : Expr} {a : V} {bs : List (Str × V)} (h : bindT tgt a = some bs) : bs.map (·.1) = tgtNames tgt := by
  unfold bindT at h
  split at h
  · cases h; rfl
  · split at h
    · cases h; rfl
    · first | exact no_some h | cases h
  · first | exact no_some h | cases h
/-- what a comprehension's block knows of the outer variables -/
noncomputable def without (xs : List Str) (ρ : Loc) : Loc := ρ.filter fun p => !xs.contains p.1
theorem without_lookup (xs : List Str) : ∀ (ρ : Loc) (y : Str), (without xs ρ).lookup y = if y ∈ xs then none else ρ.lookup y
  | [], y => by simp [without]
  | (x, v) :: r, y => by
    have ih := without_lookup xs r y
    unfold without at ih ⊢
    rw [List.filter_cons]
    by_cases hx : x ∈ xs
    · simp only [List.contains_eq_mem, hx, decide_true, Bool.not_true, Bool.false_eq_true, if_false] at ih ⊢
      rw [ih]
      by_cases hy : y ∈ xs
      · simp [hy]
      · have : y ≠ x := fun e => hy (e ▸ hx)
        simp [hy, List.lookup_cons, beq_eq_false_iff_ne.mpr this]
    · simp only [List.contains_eq_mem, hx, decide_false, Bool.not_false, if_true] at ih ⊢
      by_cases hyx : y = x
      · subst hyx; simp [hx]
      · simp only [List.lookup_cons, beq_eq_false_iff_ne.mpr hyx]
        exact ih

theorem FrameR.grow {env : Env} {c : Cfg} {ρ : Loc} {g g' : Gh} {h h' : Heap} (x : FrameR env c ρ g h) (k : KeepsH h h') (kb : BkLe g.bk g'.bk) (e : ∃ ps, g'.ad = g.ad ++ ps) : FrameR env c ρ g' h' :=
  ⟨let ⟨m, hm, hv⟩ := x.ns; ⟨m, hm.keeps k, fun z v q r => let ⟨val, e1, e2⟩ := hv z v q r; ⟨val, e1, e2.grow k kb e⟩⟩,
    fun z q => let ⟨a, o, e1, e2, e3⟩ := x.cells z q; ⟨a, o, e1, e2.keeps k, fun v r => let ⟨val, f1, f2⟩ := e3 v r; ⟨val, f1, f2.grow k kb e⟩⟩⟩
theorem GOk.re {mg mb : Str → Option Value} {hT : Heap} {c : Cfg} {h : Heap} (x : GOk mg mb hT c h) (ns : List (Str × NameKind)) : GOk mg mb hT { c with names := ns } h := ⟨x.g, x.b, x.nolimit, x.top, x.nobook, x.free, x.marker, x.set, x.dict⟩
theorem GOk.re' {mg mb : Str → Option Value} {hT : Heap} {c : Cfg} {h : Heap} {ns : List (Str × NameKind)} (x : GOk mg mb hT { c with names := ns } h) : GOk mg mb hT c h := ⟨x.g, x.b, x.nolimit, x.top, x.nobook, x.free, x.marker, x.set, x.dict⟩
theorem src_chk {n : Nat} {c : Cfg} {ρ : Loc} {e : Expr} {μ μ' : Mem} {sr : Src} (h : src n c ρ e μ = some (sr, μ')) : okSrc sr.chk μ' = true := by
  cases n with
  | zero => first | exact no_some h | cases h
  | succ n =>
    unfold src at h
    split at h
    · split at h
      · replace h := Option.bind_eq_some_iff.mp h
        obtain ⟨⟨l, μ₁⟩, h1, h⟩ := h
        replace h := Option.map_eq_some_iff.mp h
        obtain ⟨its, h2, h⟩ := h
        cases h; rfl
      · first | exact no_some h | cases h
    · split at h
      · split at h
        · replace h := Option.bind_eq_some_iff.mp h
          obtain ⟨⟨v, μ₁⟩, h1, h⟩ := h
          dsimp only at h
          split at h
          · replace h := Option.bind_eq_some_iff.mp h
            obtain ⟨l, h2, h⟩ := h
            replace h := Option.map_eq_some_iff.mp h
            obtain ⟨es, h3, h⟩ := h
            cases h
            exact decide_eq_true h2
          · first | exact no_some h | cases h
        · first | exact no_some h | cases h
      · split at h
        · replace h := Option.bind_eq_some_iff.mp h
          obtain ⟨⟨v, μ₁⟩, h1, h⟩ := h
          dsimp only at h
          split at h
          · replace h := Option.map_eq_some_iff.mp h
            obtain ⟨l, h2, h⟩ := h
            cases h
            exact decide_eq_true h2
          · first | exact no_some h | cases h
        · first | exact no_some h | cases h
theorem okSrc_append {k : Option (Nat × List V)} {μ l : Mem} (h : okSrc k μ = true) : okSrc k (μ ++ l) = true := by
  unfold okSrc at h ⊢
  split
  · rfl
  · rename_i n l'
    have : μ[n]? = some l' := by simpa using h
    rw [decide_eq_true_eq, List.getElem?_append_left (List.getElem?_eq_some_iff.mp this).1]
    exact this
end Mine
namespace Mine
open PySem PySem.Calls PyProof.Rows PySem.Builtin PySem.Builtin.Str
section
variable {prog : Program} {w : World} {mg mb : Str → Option Value} {hT : Heap} {A : Around} {s : Shared} {μ μ' : Mem} {g : Gh} {env : Env} {c : Cfg} {ρ : Loc} {a : V} {val : Value} {x : Str} {pos p : Pos} {n : Nat}

theorem codeAny_compLoop_go {R : Result → Shared → Prop} {elt target iter : Expr} {scope : Scope} {it acc : Value} (I : Nat → Shared → Prop)
    (turn : ∀ k s, I k s → WP prog w A (pyNext it) (fun r s₁ => match r with
      | none => R (.ok .next) s₁
      | some v => WP prog w A (letOwnedTupleGo target it v) (fun _ s₁' => WP prog w A (assign target env v) (fun _ s₂ => WP prog w A (eval elt env) (fun x s₃ =>
          WP prog w A (call (.builtin "list.append") [acc, x]) (fun _ s₄ => ∃ m, m < k ∧ I m s₄) s₃) s₂) s₁') s₁) s)
    (k : Nat) (h : I k s) : codeAny (model prog w) A (.compLoop (.ListComp elt [⟨target, iter, [], 0⟩] scope pos) 0 it acc env) R s := by
  refine codeAny_loop rfl I (fun k s hI => ?_) k h
  show wpAny _ _ ((compTurn (.ListComp elt [⟨target, iter, [], 0⟩] scope pos) 0 it acc env).onRaise (fun x => do noteFrame x env; theTreesLotGoes x)) _ _ s
  refine wpAny_noted ?_
  rw [compTurn_list1]
  refine wpAny_bind (wpAny_standAt (wpAny_bind (WP.any (turn k s hI) fun r s₁ h₁ => ?_)))
  cases r with
  | none => exact wpAny_pure h₁
  | some v =>
    refine wpAny_bind (WP.any h₁ fun _ s₁' h₁' => ?_)
    exact wpAny_bind (WP.any h₁' fun _ s₂ h₂ => wpAny_bind (wpAny_bind (WP.any h₂ fun x s₃ h₃ => wpAny_bind (WP.any h₃ fun _ s₄ h₄ => wpAny_pure (wpAny_pure ⟨rfl, h₄⟩)))))

/-- a comprehension's end -/
structure CDone (s : Shared) (μ : Mem) (g : Gh) (v : V) (μ' : Mem) (D C : Addr) (s' : Shared) : Prop where
  rv : RV s μ g v μ' (.ref D) s'
  ns : ∃ m, s'.heap.Ns C m
  fresh : s.heap.get? C = none

theorem CDone.letGo {v : V} {D C : Addr} {s' : Shared} {h' : Heap} (x : CDone s μ g v μ' D C s') (k : Heap.SameBut C s'.heap h') : RV s μ g v μ' (.ref D) { s' with heap := h' } := by
  obtain ⟨⟨g', st, r⟩, ⟨m, hm⟩, fr⟩ := x
  have nt : NoTup (· = C) s'.heap := fun b hb vals => by subst hb; exact ns_noTup hm vals
  refine ⟨g', st.but ⟨h', s'.toks, rfl⟩ (Nat.le_refl _) (KeepsW.sameBut k) (fun b hb => by subst hb; exact fr) nt (fun p hp e => ?_) (fun _ _ e => e) st.book, r.but (KeepsW.sameBut k) nt⟩
  subst e
  obtain ⟨its, e⟩ := st.lists.plain hp
  exact ns_noList hm e

theorem comp_core {elt iter tgt : Expr} {scope : Scope} {sr : Src} {μ₁ μ₂ : Mem} {g₁ : Gh} {s₂ : Shared} {I : Addr} {vals : List V} {RR : Value → Addr → Result → Shared → Prop} (H : EvOk prog w mg mb hT n) (C : Ctx prog w mg mb hT c ρ env A s μ g)
    (cf : CompFacts scope c.names ρ tgt) (st : Step s μ g s₂ μ₁ g₁) (it : ItSt s.heap tgt I sr 0 g₁ s₂.heap) (hok : okSrc sr.chk μ₁ = true)
    (hgo : compGo (fun v μ => (bindT tgt v).bind fun bs => ev n { c with names := relab scope.names c.names } (updAll bs ρ) elt μ) sr.items μ₁ = some (vals, μ₂)) (hni : vals.all notLst = true) (hlen : vals.length ≤ lim)
    (hRR : ∀ D C' s', CDone s μ g (.lst μ₂.length) (μ₂ ++ [vals]) D C' s' → RR (.ref D) C' (.ok .next) s') :
    WP prog w A (PySem.newList []) (fun acc s₃ => WP prog w A (newFunctionEnv scope env.globals (clos env scope.names []) [] env.qual none .none (some env)) (fun cenv s₄ =>
      codeAny (model prog w) A (.compStart (.ListComp elt [⟨tgt, iter, [], 0⟩] scope pos) 0 (.ref I) acc { cenv with scope := relabel scope env }) (RR acc cenv.locals) s₄) s₃) s₂ := by
  refine wpAny_newObj_type (wpAny_newFunctionEnv cf.cell (by intro y hy; simp at hy) (fun h₁ hns₁ hsb₁ => ?_) cf.kind)
  dsimp only at hns₁ hsb₁ ⊢
  generalize hH2 : s₂.heap.push { cls := .type "list", dict := none, data := .seq ([] : List Value).toArray } = H2 at hns₁ hsb₁ ⊢
  have hC : H2.objs.size = s₂.heap.objs.size + 1 := by rw [← hH2, Heap.size_push]
  have hDC : s₂.heap.objs.size ≠ H2.objs.size := by rw [hC]; exact Nat.ne_of_lt (Nat.lt_succ_self _)
  have below : ∀ b, b < s₂.heap.objs.size → b ≠ H2.objs.size := fun b hb => by rw [hC]; exact Nat.ne_of_lt (Nat.lt_succ_of_lt hb)
  have old : KeepsH s₂.heap h₁ := fun b o e => hsb₁.extBut b o (below b (Heap.lt_size e)) (Heap.get?_push_of_some _ (hH2 ▸ Heap.get?_push_of_some _ e))
  have hacc : h₁.PlainList s₂.heap.objs.size #[] := ⟨_, hsb₁.extBut _ _ hDC (Heap.get?_push_of_some _ (hH2 ▸ Heap.get?_push_size _ rfl))⟩
  have fresh : ∀ a, s₂.heap.objs.size ≤ a → s.heap.get? a = none := fun a ha => by
    cases e : s.heap.get? a with
    | none => rfl
    | some o' => exact absurd (Heap.lt_size (Keeps.h st.keeps _ _ e)) (Nat.not_lt.mpr ha)
  have fD := fresh _ (Nat.le_refl _)
  have fC := fresh H2.objs.size (by rw [hC]; exact Nat.le_succ _)
  have st₁ : Step s μ g { s₂ with heap := h₁, toks := s₂.toks + ([] : List (Str × Value)).length } μ₁ g₁ := st.trans (Step.of_keeps st.lists st.book ⟨_, _, rfl, old⟩ (Nat.le_add_right _ _))
  have it₁ : ItSt s.heap tgt I sr 0 g₁ h₁ := it.but (W := fun _ => False) (KeepsW.of old) (fun _ f => f.elim) ⟨[], by simp⟩
  generalize hD : s₂.heap.objs.size = D at hDC hacc fD ⊢
  generalize hCC : H2.objs.size = CC at hDC fC hns₁ hsb₁ ⊢
  have hnD : D ∉ g₁.ad := fun hm => by
    have := st.lists.isSome hm
    rw [← hD] at this
    rw [fresh_new (h := s₂.heap) fun _ _ e => e] at this
    cases this
  have hlocal : ∀ y, (relab scope.names c.names).lookup y = some .local → scope.names.lookup y = some .local := fun y hy => by
    rw [relab_lookup] at hy
    obtain ⟨k, hk, e⟩ := Option.map_eq_some_iff.mp hy
    split at e
    · cases e
    · rw [hk, e]
  have hcell : ∀ y, (relab scope.names c.names).lookup y = some .cell → scope.names.lookup y = some .free ∧ c.names.lookup y = some .cell := fun y hy => by
    rw [relab_lookup] at hy
    obtain ⟨k, hk, e⟩ := Option.map_eq_some_iff.mp hy
    split at e
    · rename_i hq
      simp only [Bool.and_eq_true, beq_iff_eq] at hq
      rw [hq.1] at hk
      exact ⟨hk, hq.2⟩
    · subst e
      exact absurd rfl (cf.cell _ (lookup_mem hk))
  -- the block
  generalize hcenv : compEnvC scope (clos env scope.names []) CC env = cenv
  have hloc : cenv.locals = CC := by rw [← hcenv]; rfl
  have eo : EnvOk cenv { c with names := relab scope.names c.names } := by
    subst hcenv
    refine ⟨cf.kind, relab_eq C.envok scope, C.envok.globals, C.envok.builtins, ?_⟩
    show (relab scope.names c.names).lookup _ = none
    rw [relab_lookup, cf.debug]; rfl
  have F₁ : FrameR cenv { c with names := relab scope.names c.names } (without (tgtNames tgt) ρ) g₁ h₁ := by
    refine ⟨⟨_, by rw [hloc]; exact hns₁, fun y v e q => ?_⟩, fun y q => ?_⟩
    · rw [without_lookup] at e
      split at e
      · cases e
      · rename_i hy
        rcases cf.locN y (hlocal y q) with h | h
        · exact absurd h hy
        · rw [h] at e; cases e
    · obtain ⟨q1, q2⟩ := hcell y q
      obtain ⟨b, o, e1, e2, e3⟩ := C.frame.cells y q2
      refine ⟨b, o, ?_, ?_, fun v e => ?_⟩
      · subst hcenv
        exact clos_lookup _ _ _ _ e1 (fun p hp => by cases hp) (.inl (lookup_mem q1))
      · exact (e2.keeps (Keeps.h st.keeps)).keeps old
      · rw [without_lookup] at e
        split at e
        · cases e
        · obtain ⟨u, f1, f2⟩ := e3 v e
          exact ⟨u, f1, st₁.grow f2⟩
  have htl : ∀ y ∈ tgtNames tgt, (relab scope.names c.names).lookup y = some .local := fun y hy => by
    rw [relab_lookup, cf.tgt y hy]; rfl
  suffices loop : codeAny (model prog w) A (.compLoop (.ListComp elt [⟨tgt, iter, [], 0⟩] scope pos) 0 (.ref I) (.ref D) cenv) (RR (.ref D) CC) { s₂ with heap := h₁, toks := s₂.toks + ([] : List (Str × Value)).length } by
    subst hcenv
    exact codeAny_compStart_list loop (self_ok it₁ loop)
  refine codeAny_compLoop_go (fun m s' => ∃ i μk gk dn ys vr, Step s μ g s' μk gk ∧ ItSt s.heap tgt I sr i gk s'.heap ∧ FrameR cenv { c with names := relab scope.names c.names } (without (tgtNames tgt) ρ) gk s'.heap ∧ s'.heap.PlainList D ys ∧
      L2 (IR gk.bk s'.heap) dn ys.toList ∧ D ∉ gk.ad ∧ (∃ l, μk = μ₁ ++ l) ∧ compGo (fun v μ => (bindT tgt v).bind fun bs => ev n { c with names := relab scope.names c.names } (updAll bs ρ) elt μ) (sr.items.drop i) μk = some (vr, μ₂) ∧
      vals = dn ++ vr ∧ m = sr.items.length + 1 - i) ?_ (sr.items.length + 1) ⟨0, μ₁, g₁, [], #[], vals, st₁, it₁, F₁, hacc, trivial, hnD, ⟨[], by simp⟩, by simpa using hgo, rfl, rfl⟩
  rintro m s' ⟨i, μk, gk, dn, ys, vr, st', it', F', hl', hi', hn', ⟨lk, hlk⟩, hgo', hvals, rfl⟩
  have hokk : okSrc sr.chk μk = true := by rw [hlk]; exact okSrc_append hok
  have hdrop : ∀ a, sr.items[i]? = some a → sr.items.drop i = a :: sr.items.drop (i + 1) := fun a ha => by
    obtain ⟨h1, h2⟩ := List.getElem?_eq_some_iff.mp ha
    rw [← h2]; exact List.drop_eq_getElem_cons h1
  have hnsC : ∃ m, s'.heap.Ns CC m := by obtain ⟨m, hm, _⟩ := F'.ns; exact ⟨m, by rw [← hloc]; exact hm⟩
  have hgo1 : ∀ a, sr.items[i]? = some a → ∃ bs v μ' vr', bindT tgt a = some bs ∧ ev n { c with names := relab scope.names c.names } (updAll bs ρ) elt μk = some (v, μ') ∧
      compGo (fun v μ => (bindT tgt v).bind fun bs => ev n { c with names := relab scope.names c.names } (updAll bs ρ) elt μ) (sr.items.drop (i + 1)) μ' = some (vr', μ₂) ∧ vr = v :: vr' := fun a ha => by
    rw [hdrop a ha] at hgo'
    obtain ⟨⟨v, μ'⟩, e1, e⟩ := Option.bind_eq_some_iff.mp (show (Option.bind ((bindT tgt a).bind fun bs => ev n { c with names := relab scope.names c.names } (updAll bs ρ) elt μk) _) = _ from hgo')
    obtain ⟨bs, e2, e3⟩ := Option.bind_eq_some_iff.mp e1
    obtain ⟨⟨vr', μ''⟩, e4, e5⟩ := Option.bind_eq_some_iff.mp e
    cases e5
    exact ⟨bs, v, μ', vr', e2, e3, e4, rfl⟩
  refine WP.mono (next_ok C.a.handled it' st'.lists st'.book hokk fun a ha => by obtain ⟨bs, _, _, _, e, _⟩ := hgo1 a ha; rw [e]; rfl) fun r s₁ h₁ => ?_
  cases r with
  | none =>
    obtain ⟨hno, ns⟩ := h₁
    have hdr : sr.items.drop i = [] := by rw [List.drop_eq_nil_iff]; simpa using hno
    rw [hdr] at hgo'
    cases hgo'
    rw [List.append_nil] at hvals
    subst hvals
    have stf := st'.but ns.shape ns.toks ns.keeps (fun b hb => hb.1) (NW.noTup _ _) (NW.noList st'.lists) (fun _ _ e => e) ns.book
    have hplain : s₁.heap.PlainList D ys := hl'.at fun o e => ns.keeps _ o (fun hb => iter_noList hb.2 hl') e
    refine hRR D CC s₁ ⟨stf.join fD hn' hplain (Lists.but_item hi' ns.keeps (NW.noTup _ _)) hlen, ?_, fC⟩
    obtain ⟨m, hm⟩ := hnsC
    exact ⟨m, hm.at' fun o e => ns.keeps _ o (fun hb => iter_noNs hb.2 hm) e⟩
  | some val =>
    refine WP.mono h₁ fun _ sa ha => ?_
    obtain ⟨a, ga, hx, ns, hv, ita⟩ := ha
    obtain ⟨bs, v, μ', vr', hb, hev, hgo2, rfl⟩ := hgo1 a hx
    have hga : (⟨gk.ad, ga.bk⟩ : Gh) = ga := by rw [← ns.ad]
    have sta : Step s μ g sa μk ga := by rw [← hga]; exact st'.but ns.shape ns.toks ns.keeps (fun b hb => hb.1) (NW.noTup _ _) (NW.noList st'.lists) ns.bk ns.book
    have Fa : FrameR cenv { c with names := relab scope.names c.names } (without (tgtNames tgt) ρ) ga sa.heap :=
      (F'.but ns.keeps (NW.noTup _ _) (fun hb => by obtain ⟨m, hm, _⟩ := F'.ns; exact iter_noNs hb.2 hm) (fun y b h1 h2 hb => by
        obtain ⟨b', o, e1, e2, _⟩ := F'.cells y h1
        rw [h2] at e1; cases e1
        exact iter_noCell hb.2 e2)).grow (fun _ _ e => e) ns.bk ⟨[], by rw [ns.ad]; simp⟩
    have hla : sa.heap.PlainList D ys := hl'.at fun o e => ns.keeps _ o (fun hb => iter_noList hb.2 hl') e
    have hia : L2 (IR ga.bk sa.heap) dn ys.toList := (Lists.but_item hi' ns.keeps (NW.noTup _ _)).mono fun _ _ r => r.grow (fun _ _ e => e) ns.bk
    have hna : D ∉ ga.ad := by rw [ns.ad]; exact hn'
    refine WP.mono (bind_ok C.a.handled hb eo Fa hv htl) fun _ sb hsb => ?_
    obtain ⟨shb, tb, kb, Fb⟩ := hsb
    rw [hloc] at kb
    obtain ⟨mC, hmC⟩ : ∃ m, sa.heap.Ns CC m := by obtain ⟨m, hm, _⟩ := Fa.ns; exact ⟨m, by rw [← hloc]; exact hm⟩
    have ntC : NoTup (· = CC) sa.heap := fun b hb vals => by subst hb; exact ns_noTup hmC vals
    have stb : Step s μ g sb μk ga := sta.but shb tb kb (fun b hb => by subst hb; exact fC) ntC (fun p hp e => by
      subst e
      obtain ⟨its, e⟩ := sta.lists.plain hp
      exact ns_noList hmC e) (fun _ _ e => e) (sta.book.up tb)
    have itb : ItSt s.heap tgt I sr (i + 1) ga sb.heap := ita.but kb (fun b hb h => by subst hb; exact iter_noNs h hmC) ⟨[], by simp⟩
    have hlb : sb.heap.PlainList D ys := hla.at fun o e => kb _ o hDC e
    have hib : L2 (IR ga.bk sb.heap) dn ys.toList := Lists.but_item hia kb ntC
    have hkeys := bindT_keys hb
    have Cb : Ctx prog w mg mb hT { c with names := relab scope.names c.names } (updAll bs ρ) cenv A sb μk ga :=
      ⟨C.a, eo, (C.glob.keeps (Keeps.h stb.keeps)).re _, fun f args m v m' h => let ⟨a, o, fd, q1, q2, q3, q4⟩ := C.calls f args m v m' h; ⟨a, o, fd, q1, q2, q3, fun s g vals G L B R => q4 s g vals G.re' L B R⟩, Fb.weak fun y v e => by
        rw [updAll_eq bs _ ρ y fun hy => ?_]; exact e
        rw [hkeys] at hy
        rw [without_lookup, if_neg hy], stb.lists, stb.book⟩
    refine WP.mono (H _ _ _ _ _ _ hev _ _ _ _ Cb) fun xv sc hsc => ?_
    obtain ⟨gc, stc, rv⟩ := hsc
    have hlc : sc.heap.PlainList D ys := hlb.at fun o e => Keeps.h stc.keeps _ o e
    have hic : L2 (IR gc.bk sc.heap) dn ys.toList := hib.mono fun _ _ r => stc.growI r
    have hnc : D ∉ gc.ad := fun hm => by
      obtain ⟨ps, e, _, fr⟩ := stc.ad
      rw [e] at hm
      rcases List.mem_append.mp hm with h | h
      · exact hna h
      · obtain ⟨k, ho⟩ := hlb
        rw [fr D h] at ho; first | exact no_some ho | cases ho
    have hvn : ∀ k, v ≠ .lst k := fun k e => by
      subst e
      rw [List.all_eq_true] at hni
      have := hni (.lst k) (by rw [hvals]; simp)
      cases this
    have hsz : ys.size ≤ sizeLine := by
      have : dn.length ≤ vals.length := by rw [hvals, List.length_append]; exact Nat.le_add_right _ _
      rw [← Array.length_toList, ← hic.length]
      exact Nat.le_trans (Nat.le_trans this hlen) lim_sizeLine
    refine wpAny_list_append_plain hlc (fun h' hp' hs' => ?_) hsz
    have kD : KeepsW (· = D) sc.heap h' := KeepsW.sameBut hs'
    have ntD : NoTup (· = D) sc.heap := fun b hb vals => by subst hb; exact list_noTup hlc vals
    have stc' := stb.trans stc
    refine ⟨_, ?_, i + 1, μ', gc, dn ++ [v], ys.push xv, vr', stc'.but ⟨h', sc.toks, rfl⟩ (Nat.le_refl _) kD (fun b hb => by subst hb; exact fD) ntD (fun p hp e => by subst e; exact hnc hp) (fun _ _ e => e) stc'.book, ?_, ?_, hp', ?_, hnc, ?_, hgo2, ?_, rfl⟩
    · have := (List.getElem?_eq_some_iff.mp hx).1
      (first | lia | omega)
    · exact (itb.but (W := fun _ => False) (KeepsW.of (Keeps.h stc.keeps)) (fun _ f => f.elim) (let ⟨ps, e, _⟩ := stc.ad; ⟨ps, e⟩)).but kD (fun b hb h => by subst hb; exact iter_noList h hlc) ⟨[], by simp⟩
    · have Fc := Fb.step stc
      refine FrameR.weak (FrameR.but Fc kD ntD (fun e => ?_) fun y b h1 h2 e => ?_) fun y v e => ?_
      · obtain ⟨m, hm, _⟩ := Fc.ns
        rw [e] at hm
        exact ns_noList hm hlc
      · obtain ⟨b', o, e1, e2, _⟩ := Fc.cells y h1
        rw [h2] at e1; cases e1
        rw [e] at e2
        exact cell_noList e2 hlc
      · rw [updAll_out bs _ y (fun hy => ?_)]; exact e
        rw [hkeys] at hy
        rw [without_lookup, if_pos hy] at e
        cases e
    · rw [Array.toList_push]
      exact (Lists.but_item hic kD ntD).snoc ((rv.ir hvn).but kD ntD)
    · obtain ⟨l2, e2⟩ := stc.mem
      exact ⟨lk ++ l2, by rw [e2, hlk, List.append_assoc]⟩
    · rw [hvals]; simp
end
end Mine
namespace Mine
open PySem PySem.Calls PyProof.Rows PySem.Builtin PySem.Builtin.Str
section
variable {prog : Program} {w : World} {mg mb : Str → Option Value} {hT : Heap} {A : Around} {s : Shared} {μ μ' : Mem} {g : Gh} {env : Env} {c : Cfg} {ρ : Loc} {a : V} {val : Value} {x : Str} {pos p : Pos} {n : Nat}

theorem bcall_name {f : Str} {args : List V} {v : V} (h : bcall f args μ = some (v, μ')) : f ∈ (["len", "chr", "ord", "sum", "min", "max", "str", "int", "isinstance", "list", "range", "enumerate"] : List Str) := by
  unfold bcall at h
  repeat' (split at h; · rename_i hf; subst hf; simp)
  cases h

theorem snd_call (H : Snd prog w mg mb hT n) : ∀ c ρ f args μ v μ', callE (n + 1) c ρ f args μ = some (v, μ') → c.isGlob f = true → ∀ p pos env A s g, Ctx prog w mg mb hT c ρ env A s μ g → WP prog w A (eval (.Call (.Name f p) args [] pos) env) (RV s μ g v μ') s := by
  intro c ρ f args μ v μ' h hg p pos env A s g C
  unfold callE at h
  split at h
  · rename_i hf
    subst hf
    split at h
    · rename_i e t q
      split at h
      · rename_i hc
        simp only [Bool.and_eq_true, decide_eq_true_eq] at hc
        obtain ⟨hc1, rfl⟩ := hc
        replace h := Option.bind_eq_some_iff.mp h
        obtain ⟨⟨a, μ₁⟩, h1, h⟩ := h
        dsimp only at h
        split at h
        · first | exact no_some h | cases h
          obtain ⟨k1, k2⟩ := free_ok C.glob (f := "isinstance") (by simp) (v := .builtin "isinstance") (by decide +kernel)
          have hst : starEach [e, .Name "int" q] env = (false, eval e env) :: starEach [.Name "int" q] env := noStar h1 _ env
          refine call_name (.inl ⟨_, rfl⟩) (name_builtin C (isGlob_of hg) k1 k2 ⟨rfl, rfl⟩) (by rw [hst]; rfl) (wpAny_items_cons (WP.mono (H.ev _ _ _ _ _ _ h1 _ _ _ _ C) fun x s₁ hx => ?_) hst)
          obtain ⟨g₁, st, t, rfl, _⟩ := hx
          obtain ⟨k3, k4⟩ := free_ok C.glob (f := "int") (by simp) (v := .type "int") (by decide +kernel)
          refine wpAny_items_cons (name_builtin (C.step st) (isGlob_of hc1) k3 k4 (wpAny_items_nil ?_)) rfl
          exact PySem.IsiPair.int_int ⟨g₁, st, rfl⟩
        · first | exact no_some h | cases h
      · first | exact no_some h | cases h
    · first | exact no_some h | cases h
  split at h
  · rename_i hf
    subst hf
    split at h
    · rename_i gg q as pos2
      split at h
      · rename_i hc
        simp only [Bool.and_eq_true, decide_eq_true_eq] at hc
        obtain ⟨hc1, rfl⟩ := hc
        replace h := Option.bind_eq_some_iff.mp h
        obtain ⟨⟨l, μ₁⟩, h1, h⟩ := h
        replace h := Option.bind_eq_some_iff.mp h
        obtain ⟨its, h2, h⟩ := h
        obtain ⟨hl, rfl, rfl⟩ := newList_some h
        obtain ⟨k1, k2⟩ := free_ok C.glob (f := "list") (by simp) (v := .type "list") (by decide +kernel)
        obtain ⟨k3, k4⟩ := free_ok C.glob (f := "range") (by simp) (v := .type "range") (by decide +kernel)
        refine call_name (.inr ⟨_, rfl⟩) (name_builtin C (isGlob_of hg) k1 k2 ⟨rfl, rfl⟩) rfl (wpAny_items_cons ?_ rfl)
        refine call_name (.inr ⟨_, rfl⟩) (name_builtin C (isGlob_of hc1) k3 k4 ⟨rfl, rfl⟩) (evs_plain as h1).1 (WP.mono (items_ok H.ev as h1 C) fun vals s₁ hv => ?_)
        obtain ⟨g₁, st, r1⟩ := hv
        refine WP.mono (range_ok st.lists st.book h2 r1) fun x s₂ hx => ?_
        obtain ⟨r, a, b, t, u, v, rfl, st2, hf, hr, hi, ha, hb⟩ := hx
        refine wpAny_items_nil ?_
        exact WP.mono (list_range_ok C.a.handled st2.lists st2.book hr hi ha hb hl) (RV.trans (st.trans st2))
      · first | exact no_some h | cases h
    · first | exact no_some h | cases h
  · replace h := Option.bind_eq_some_iff.mp h
    obtain ⟨⟨vs, μ₁⟩, h1, h⟩ := h
    dsimp only at h
    split at h
    · rename_i r hb
      cases h
      have hb' := hb
      have C' := C
      obtain ⟨hm1, hm2⟩ := C.glob.free f (bcall_name hb)
      -- the builtin's value
      have key : ∃ F, bootBuiltins f = some F ∧ ((∃ id, F = .builtin id) ∨ ∃ T, F = .type T) := by
        have := bcall_name hb
        simp only [List.mem_cons, List.mem_nil_iff, or_false] at this
        rcases this with rfl | rfl | rfl | rfl | rfl | rfl | rfl | rfl | rfl | rfl | rfl | rfl
        · exact ⟨.builtin "len", by decide +kernel, .inl ⟨_, rfl⟩⟩
        · exact ⟨.builtin "chr", by decide +kernel, .inl ⟨_, rfl⟩⟩
        · exact ⟨.builtin "ord", by decide +kernel, .inl ⟨_, rfl⟩⟩
        · exact ⟨.builtin "sum", by decide +kernel, .inl ⟨_, rfl⟩⟩
        · exact ⟨.builtin "min", by decide +kernel, .inl ⟨_, rfl⟩⟩
        · exact ⟨.builtin "max", by decide +kernel, .inl ⟨_, rfl⟩⟩
        · exact ⟨.type "str", by decide +kernel, .inr ⟨_, rfl⟩⟩
        · exact ⟨.type "int", by decide +kernel, .inr ⟨_, rfl⟩⟩
        · exact ⟨.builtin "isinstance", by decide +kernel, .inl ⟨_, rfl⟩⟩
        · exact ⟨.type "list", by decide +kernel, .inr ⟨_, rfl⟩⟩
        · exact ⟨.type "range", by decide +kernel, .inr ⟨_, rfl⟩⟩
        · exact ⟨.type "enumerate", by decide +kernel, .inr ⟨_, rfl⟩⟩
      obtain ⟨F, hF, hF2⟩ := key
      refine call_name hF2 (name_builtin C (isGlob_of hg) hm1 (hm2.trans hF) ⟨rfl, rfl⟩) (evs_plain args h1).1 (WP.mono (items_ok H.ev args h1 C) fun vals s₁ hv => ?_)
      obtain ⟨g₁, st, r1⟩ := hv
      obtain ⟨F', hF', _, hw⟩ := bcall_ok (prog := prog) (w := w) hb C.a st.lists st.book r1
      rw [hF] at hF'; first | exact no_some hF' | cases hF'
      exact WP.mono hw (RV.trans st)
    · rename_i hb
      obtain ⟨ad, o, fd, q1, q2, q3, q4⟩ := C.calls f vs μ₁ v μ' h
      refine call_def (a := ad) (o := o) (fd := fd) (name_glob C (isGlob_of hg) q1 ⟨rfl, rfl⟩) (evs_plain args h1).1 (WP.mono (items_ok H.ev args h1 C) fun vals s₁ hv => ?_)
      obtain ⟨g₁, st, r1⟩ := hv
      have C1 := C.step st
      exact ⟨⟨C1.glob.top _ _ q2, q3⟩, WP.mono (q4 s₁ g₁ vals C1.glob st.lists st.book r1) (RV.trans st)⟩
end
end Mine
namespace Mine
open PySem PySem.Calls PyProof.Rows PySem.Builtin PySem.Builtin.Str
section
variable {prog : Program} {w : World} {mg mb : Str → Option Value} {hT : Heap} {A : Around} {s : Shared} {μ μ' : Mem} {g : Gh} {env : Env} {c : Cfg} {ρ : Loc} {a : V} {val : Value} {x : Str} {pos p : Pos} {n : Nat}

theorem base_eq {o : Expr} {m : Str} (h : plainBase o = true) : attributeBase o m env (eval o env) = eval o env := by
  cases o <;> first | rfl | cases h
theorem few_ok {args : List Expr} (hs : (backTo pos (starEach args env)).any (·.1) = false) (hl : args.length < 8) :
    ((backTo pos (starEach args env)).all (fun x => !x.1) && (backToKw pos (keywordEach [] env)).all (fun x => x.1.isSome) && decide (args.length + ([] : List Keyword).length + (if ([] : List Keyword).isEmpty then 0 else 1) < 30)) = true := by
  have h1 : (backTo pos (starEach args env)).all (fun x => !x.1) = true := by
    rw [List.all_eq_true]
    intro x hx
    have := List.any_eq_false.mp hs x hx
    simpa using this
  have h2 : decide (args.length + ([] : List Keyword).length + (if ([] : List Keyword).isEmpty then 0 else 1) < 30) = true := by
    simp; (first | lia | omega)
  rw [h1, h2]; rfl

theorem snd_meth (H : Snd prog w mg mb hT n) : ∀ c ρ o m args μ v μ', methE (n + 1) c ρ o m args μ = some (v, μ') → plainBase o = true → args.length < 8 → ∀ ap pos env A s g, (ap.endLine == pos.line) = true → Ctx prog w mg mb hT c ρ env A s μ g →
    WP prog w A (eval (.Call (.Attribute o m ap) args [] pos) env) (RV s μ g v μ') s := by
  intro c ρ o m args μ v μ' h hb hlen ap pos env A s g hline C
  unfold methE at h
  split at h
  · rename_i hm
    subst hm
    split at h
    · rename_i z q e
      split at h
      · rename_i hc
        simp only [Bool.and_eq_true, decide_eq_true_eq] at hc
        obtain ⟨hc1, rfl⟩ := hc
        replace h := Option.bind_eq_some_iff.mp h
        obtain ⟨⟨a, μ₁⟩, h1, h⟩ := h
        replace h := Option.bind_eq_some_iff.mp h
        obtain ⟨i, h2, h⟩ := h
        obtain ⟨ow, rfl⟩ := asInt_some h2
        obtain ⟨ad, es, nn, e1, e0, e2, _⟩ := C.glob.dict
        have hst : starEach [e] env = [(false, eval e env)] := noStar h1 [] env
        have hs : (backTo pos (starEach [e] env)).any (·.1) = false := by rw [hst]; rfl
        refine wpAny_Call_method_late (trees := [(false, eval e env)]) (base_eq hb) (few_ok hs hlen) hline (by rw [hst]; rfl) (name_glob C (isGlob_of hc1) e1 ?_)
        refine ⟨"dict", "dict.get", F.plainAttrs_dict, F.slot_dict_get, F.type_dict_get, ⟨_, e2, rfl⟩, fun a' e' => ?_, ?_⟩
        · cases e'; exact ⟨_, e2, rfl⟩
        · refine get_ok C e1 (i := i) (μ := μ₁) (μ' := μ') (v := v) h (WP.mono (H.ev _ _ _ _ _ _ h1 _ _ _ _ C) fun x s₁ hx => ?_)
          obtain ⟨g₁, st, t, rfl, _⟩ := hx
          exact ⟨g₁, t, st, rfl, fun r hr => RV.trans st _ _ hr⟩
      · first | exact no_some h | cases h
    · first | exact no_some h | cases h
  · replace h := Option.bind_eq_some_iff.mp h
    obtain ⟨⟨a, μ₁⟩, h1, h⟩ := h
    replace h := Option.bind_eq_some_iff.mp h
    obtain ⟨⟨vs, μ₂⟩, h2, h⟩ := h
    have hs : (backTo pos (starEach args env)).any (·.1) = false := (evs_plain args h2).1
    refine wpAny_Call_method_late (base_eq hb) (few_ok hs hlen) hline rfl (WP.mono (H.ev _ _ _ _ _ _ h1 _ _ _ _ C) fun ov s₁ hv => ?_)
    obtain ⟨g₁, st, r1⟩ := hv
    -- the method
    have key : ∃ z t id, ov = .str z t ∧ Slot "str" m id ∧ typeOf (.builtin id) = pure (.type "method_descriptor") ∧ ∀ s₂ g₂ vals, Step s₁ μ₁ g₁ s₂ μ₂ g₂ → L2 (VR g₂ s₂.heap) vs vals → WP prog w A (call (.builtin id) (ov :: vals)) (RV s₂ μ₂ g₂ v μ') s₂ := by
      obtain ⟨⟨z, rfl⟩, id, k1, k2, k3⟩ := mcall_ok (prog := prog) (w := w) h
      have r1' := r1
      obtain ⟨⟨t, rfl⟩, _⟩ := r1'
      exact ⟨z, t, id, rfl, k1, k2, fun s₂ g₂ vals st2 hv => k3 st2.lists st2.book (st2.grow r1) hv⟩
    obtain ⟨z, t, id, rfl, sl, ty, hw⟩ := key
    refine ⟨"str", id, F.plainAttrs_str, sl, ty, typeIs_str _ _ _, (fun _ e => nomatch e), callWith_bt (.inl ⟨_, rfl⟩) hs (WP.mono (items_ok H.ev args h2 (C.step st)) fun vals s₂ hv => ?_)⟩
    obtain ⟨g₂, st2, r2⟩ := hv
    exact WP.mono (hw s₂ g₂ vals st2 r2) (RV.trans (st.trans st2))
end
end Mine
namespace Mine
open PySem PySem.Calls PyProof.Rows PySem.Builtin PySem.Builtin.Str
section
variable {prog : Program} {w : World} {mg mb : Str → Option Value} {hT : Heap} {A : Around} {s : Shared} {μ μ' : Mem} {g : Gh} {env : Env} {c : Cfg} {ρ : Loc} {a : V} {val : Value} {x : Str} {pos p : Pos} {n : Nat}

theorem part_ok (H : EvOk prog w mg mb hT n) {e : Option Expr} {lo : Option Int} (h : evo (ev n c ρ) e μ = some (lo, μ')) (C : Ctx prog w mg mb hT c ρ env A s μ g) :
    WP prog w A (evalPart e env) (fun v s' => ∃ g', Step s μ g s' μ' g' ∧ IsPart v lo) s := by
  cases e with
  | none =>
    cases h
    exact wpAny_pure ⟨g, Step.refl C.lists C.book, .none⟩
  | some e =>
    replace h := Option.bind_eq_some_iff.mp (show (ev n c ρ e μ).bind _ = _ from h)
    obtain ⟨⟨a, μ₁⟩, h1, h⟩ := h
    replace h := Option.bind_eq_some_iff.mp h
    obtain ⟨i, h2, h⟩ := h
    cases h
    obtain ⟨o, rfl⟩ := asInt_some h2
    have hi : asInt? (.a0 (.int i o)) = some i := rfl
    refine WP.mono (H _ _ _ _ _ _ h1 _ _ _ _ C) fun v s₁ hv => ?_
    obtain ⟨g₁, st, t, rfl, _⟩ := hv
    exact ⟨g₁, st, .int i t⟩

theorem list_ok {vs : List V} {vals : List Value} {s₁ : Shared} {g₁ : Gh} {μ₁ : Mem} {v : V} (st : Step s μ g s₁ μ₁ g₁) (hv : L2 (VR g₁ s₁.heap) vs vals) (h : newItems vs μ₁ = some (v, μ')) :
    vals.length ≤ sizeLine ∧ RV s μ g v μ' (.ref s₁.heap.objs.size) { s₁ with heap := s₁.heap.push { cls := .type "list", data := .seq vals.toArray } } := by
  unfold newItems at h
  split at h
  · rename_i hn
    obtain ⟨hl, rfl, rfl⟩ := newList_some h
    have hi : L2 (IR g₁.bk s₁.heap) vs vals := by
      rw [List.all_eq_true] at hn
      clear h hl st
      induction vs generalizing vals with
      | nil => cases vals with
        | nil => trivial
        | cons _ _ => exact hv.elim
      | cons z vs ih => cases vals with
        | nil => exact hv.elim
        | cons u vals =>
          refine ⟨hv.1.ir fun k e => ?_, ih hv.2 fun y hy => hn y (List.mem_cons_of_mem _ hy)⟩
          have := hn z (List.mem_cons_self ..)
          subst e; cases this
    refine ⟨by rw [← hv.length]; exact Nat.le_trans hl lim_sizeLine, RV.trans st _ _ (rv_push (s := s₁) st.lists st.book (Nat.le_refl _) (fun _ _ e => e) hi hl rfl)⟩
  · first | exact no_some h | cases h

theorem atoms_ok {h : Heap} : ∀ {vs : List V} {as : List A0} {vals : List Value}, allAtoms vs = some as → L2 (VR g h) vs vals → L2 (AR g.bk) as vals
  | [], as, [], e, _ => by cases e; trivial
  | .a0 k :: vs, as, u :: vals, e, H => by
    obtain ⟨r, hr, rfl⟩ := Option.map_eq_some_iff.mp (show (allAtoms vs).map (k :: ·) = some as from e)
    exact ⟨H.1, atoms_ok hr H.2⟩
  | .tup _ :: _, _, _, e, _ | .lst _ :: _, _, _, e, _ => by cases e
  | [], _, _ :: _, _, H => H.elim
  | _ :: _, _, [], _, H => H.elim

theorem clos_some {scope : Scope} {tgt : Expr} (C : Ctx prog w mg mb hT c ρ env A s μ g) (cf : CompFacts scope c.names ρ tgt) : closureFor scope env = pure (clos env scope.names []) :=
  closureFor_eq fun p hp e => by
    obtain ⟨b, o, e1, _⟩ := C.frame.cells p.1 (cf.free p hp e).1
    rw [e1]; rfl

theorem ev_name_some {v : V} (h : ev (n + 1) c ρ (.Name x pos) μ = some (v, μ')) : ((c.names.lookup x = some .local ∨ c.names.lookup x = some .cell) ∧ ∃ a, ρ.lookup x = some a ∧ (a, μ) = (v, μ')) ∨
    c.names.lookup x = some .globalImplicit ∧ x = ("ELLIPSIS_MARKER" : Str) ∧ newStr c.marker μ = some (v, μ') := by
  have h : (match c.names.lookup x with
      | some .local => (ρ.lookup x).map (·, μ)
      | some .cell => (ρ.lookup x).map (·, μ)
      | some .globalImplicit => if x = ("ELLIPSIS_MARKER" : Str) then newStr c.marker μ else none
      | _ => none) = some (v, μ') := h
  cases hk : c.names.lookup x with
  | none => rw [hk] at h; first | exact no_some h | cases h
  | some k =>
    rw [hk] at h
    cases k with
    | «local» =>
      replace h := Option.map_eq_some_iff.mp h
      obtain ⟨a, ha, h⟩ := h
      exact .inl ⟨.inl rfl, a, ha, h⟩
    | cell =>
      replace h := Option.map_eq_some_iff.mp h
      obtain ⟨a, ha, h⟩ := h
      exact .inl ⟨.inr rfl, a, ha, h⟩
    | globalImplicit =>
      by_cases hx : x = ("ELLIPSIS_MARKER" : Str)
      · exact .inr ⟨rfl, hx, by rw [← h]; exact (if_pos hx).symm⟩
      · exact absurd ((if_neg hx).symm.trans h) (by simp)
    | _ => first | exact no_some h | cases h
theorem snd_item (H : Snd prog w mg mb hT n) {o i : Expr} {v : V} (h : ((ev n c ρ o μ).bind fun a => (ev n c ρ i a.2).bind fun b => (index a.1 b.1 b.2).map (·, b.2)) = some (v, μ')) (C : Ctx prog w mg mb hT c ρ env A s μ g) :
    WP prog w A (eval (.Subscript o i pos) env) (RV s μ g v μ') s := by
  replace h := Option.bind_eq_some_iff.mp h
  obtain ⟨⟨o, μ₁⟩, h1, h⟩ := h
  replace h := Option.bind_eq_some_iff.mp h
  obtain ⟨⟨i, μ₂⟩, h2, h⟩ := h
  replace h := Option.map_eq_some_iff.mp h
  obtain ⟨r, h3, h⟩ := h
  cases h
  refine sub_ok (WP.mono (H.ev _ _ _ _ _ _ h1 _ _ _ _ C) fun ov s₁ hv => ?_)
  obtain ⟨g₁, st1, r1⟩ := hv
  refine WP.mono (H.ev _ _ _ _ _ _ h2 _ _ _ _ (C.step st1)) fun iv s₂ hv => ?_
  obtain ⟨g₂, st2, r2⟩ := hv
  have stA := st1.trans st2
  exact ⟨VR.getT stA.lists (st2.grow r1) (.inl (by dsimp only at h3; rw [h3]; rfl)), WP.mono (getItem_ok h3 stA.lists stA.book (st2.grow r1) r2) (RV.trans stA)⟩
theorem snd_sub (H : Snd prog w mg mb hT n) {o i : Expr} {v : V} (h : ev (n + 1) c ρ (.Subscript o i pos) μ = some (v, μ')) (C : Ctx prog w mg mb hT c ρ env A s μ g) :
    WP prog w A (eval (.Subscript o i pos) env) (RV s μ g v μ') s := by
  cases i with
  | Slice l u t _ =>
    replace h := Option.bind_eq_some_iff.mp (show (ev n c ρ o μ).bind _ = some (v, μ') from h)
    obtain ⟨⟨o, μ₁⟩, h1, h⟩ := h
    replace h := Option.bind_eq_some_iff.mp h
    obtain ⟨⟨lo, μ₂⟩, h2, h⟩ := h
    replace h := Option.bind_eq_some_iff.mp h
    obtain ⟨⟨hi, μ₃⟩, h3, h⟩ := h
    replace h := Option.bind_eq_some_iff.mp h
    obtain ⟨⟨stp, μ₄⟩, h4, h⟩ := h
    refine sub_ok (WP.mono (H.ev _ _ _ _ _ _ h1 _ _ _ _ C) fun ov s₁ hv => ?_)
    obtain ⟨g₁, st1, r1⟩ := hv
    refine wpAny_Slice (WP.mono (part_ok H.ev h2 (C.step st1)) fun vl s₂ hl => ?_)
    obtain ⟨g₂, st2, p2⟩ := hl
    refine WP.mono (part_ok H.ev h3 ((C.step st1).step st2)) fun vu s₃ hu => ?_
    obtain ⟨g₃, st3, p3⟩ := hu
    refine WP.mono (part_ok H.ev h4 (((C.step st1).step st2).step st3)) fun vs s₄ hs => ?_
    obtain ⟨g₄, st4, p4⟩ := hs
    have st5 := Step.of_keeps st4.lists st4.book (Keeps.push s₄ { cls := .type "slice", data := .fields #[vl, vu, vs] } s₄.toks) (Nat.le_refl _)
    have stA := (((st1.trans st2).trans st3).trans st4).trans st5
    have r5 := (((st2.trans st3).trans st4).trans st5).grow r1
    exact ⟨VR.getT (b := o) stA.lists r5 (.inr ⟨lo, hi, stp, by dsimp only at h; rw [h]; rfl⟩), WP.mono (slice_ok h stA.lists stA.book r5 (Heap.IsSliceOf.new _ _ _ _) p2 p3 p4) (RV.trans stA)⟩
  | _ => exact snd_item H h C
theorem listcomp_some {elt : Expr} {gens : List Comprehension} {scope : Scope} {v : V} (h : ev (n + 1) c ρ (.ListComp elt gens scope pos) μ = some (v, μ')) :
    ∃ tgt iter sr μ₁ vals μ₂, gens = [⟨tgt, iter, [], 0⟩] ∧ compOk scope c.names ρ tgt = true ∧ ((isEnum iter).isSome = true → isTupT tgt = true) ∧ src n c ρ iter μ = some (sr, μ₁) ∧
      compGo (fun v μ => (bindT tgt v).bind fun bs => ev n { c with names := relab scope.names c.names } (updAll bs ρ) elt μ) sr.items μ₁ = some (vals, μ₂) ∧ vals.all notLst = true ∧ vals.length ≤ lim ∧ v = .lst μ₂.length ∧ μ' = μ₂ ++ [vals] := by
  match gens, h with
  | [⟨tgt, iter, [], 0⟩], h =>
    replace h : (if compOk scope c.names ρ tgt && ((isEnum iter).isNone || isTupT tgt) then (src n c ρ iter μ).bind fun s =>
        (compGo (fun v μ => (bindT tgt v).bind fun bs => ev n { c with names := relab scope.names c.names } (updAll bs ρ) elt μ) s.1.items s.2).bind fun r => newItems r.1 r.2 else none) = some (v, μ') := h
    by_cases hc : (compOk scope c.names ρ tgt && ((isEnum iter).isNone || isTupT tgt)) = true
    · replace h := Option.bind_eq_some_iff.mp ((if_pos hc).symm.trans h)
      obtain ⟨⟨sr, μ₁⟩, h1, h⟩ := h
      replace h := Option.bind_eq_some_iff.mp h
      obtain ⟨⟨vals, μ₂⟩, h2, h⟩ := h
      simp only [Bool.and_eq_true, Bool.or_eq_true] at hc
      replace h : (if vals.all notLst = true then newList vals μ₂ else none) = some (v, μ') := h
      by_cases hn : vals.all notLst = true
      · obtain ⟨hl, e1, e2⟩ := newList_some ((if_pos hn).symm.trans h)
        exact ⟨tgt, iter, sr, μ₁, vals, μ₂, rfl, hc.1, fun q => hc.2.resolve_left (fun e => by rw [Option.isNone_iff_eq_none] at e; rw [e] at q; cases q), h1, h2, hn, hl, e1, e2⟩
      · exact no_some ((if_neg hn).symm.trans h)
    · exact no_some ((if_neg hc).symm.trans h)
  | [], h => exact no_some h
  | ⟨_, _, _ :: _, _⟩ :: _, h => exact no_some h
  | ⟨_, _, [], .ofNat (_ + 1)⟩ :: _, h => exact no_some h
  | ⟨_, _, [], .negSucc _⟩ :: _, h => exact no_some h
  | ⟨_, _, [], .ofNat 0⟩ :: _ :: _, h => exact no_some h
theorem snd_listcomp (H : Snd prog w mg mb hT n) {elt : Expr} {gens : List Comprehension} {scope : Scope} {v : V} (h : ev (n + 1) c ρ (.ListComp elt gens scope pos) μ = some (v, μ')) (C : Ctx prog w mg mb hT c ρ env A s μ g) :
    WP prog w A (eval (.ListComp elt gens scope pos) env) (RV s μ g v μ') s := by
  obtain ⟨tgt, iter, sr, μ₁, vals, μ₂, rfl, hc, hc2, h1, h2, hn, hl, rfl, rfl⟩ := listcomp_some h
  have cf := compOk_facts hc
  obtain ⟨hf, hw⟩ := H.src _ _ _ _ _ _ h1 tgt hc2 env A s g C
  rw [eval_ListComp]
  refine wpAny_comprehension_free (use := none) (cl := clos env scope.names []) rfl hf (clos_some C cf) cf.kind cf.loc (WP.mono hw fun xv s₁ h₁ => WP.mono h₁ fun it s₂ h₂ => ?_)
  obtain ⟨I, g₁, rfl, st, hit⟩ := h₂
  exact comp_core (RR := fun acc C' => compPost (model prog w) A (fun _ _ => False) none (RV s μ g (.lst μ₂.length) (μ₂ ++ [vals])) acc C') H.ev C cf st hit (src_chk h1) h2 hn hl fun D C' s' hd =>
    ⟨hd.ns.choose, hd.ns.choose_spec, fun h' hs => hd.letGo hs⟩

theorem snd_ev (H : Snd prog w mg mb hT n) : EvOk prog w mg mb hT (n + 1) := by
  intro c ρ e μ v μ' h env A s g C
  cases e with
  | Constant k _ _ =>
    cases k with
    | none => cases h; exact wpAny_Constant_none (rv_atom0 C.lists C.book rfl)
    | bool b => cases h; exact wpAny_Constant_bool (rv_atom0 C.lists C.book rfl)
    | int i => cases h; exact wpAny_Constant_int (rv_int C.lists C.book (Nat.le_refl _) (Nat.lt_succ_self _))
    | str x =>
      obtain ⟨hl, rfl, rfl⟩ := newStr_some (show newStr x μ = some (v, μ') from h)
      exact wpAny_Constant_str (rv_atom C.lists C.book (Nat.le_succ _) ⟨⟨_, rfl⟩, hl⟩)
    | float _ => first | exact no_some h | cases h
    | complex _ _ => first | exact no_some h | cases h
    | bytes _ => first | exact no_some h | cases h
    | ellipsis => first | exact no_some h | cases h
  | Name x _ =>
    replace h := ev_name_some h
    rcases h with ⟨hk, a, ha, h⟩ | ⟨hk, rfl, h⟩
    · first | exact no_some h | cases h
      exact name_var C hk ha
    · obtain ⟨hl, rfl, rfl⟩ := newStr_some h
      obtain ⟨⟨t, ht⟩, hm⟩ := C.glob.marker
      exact name_glob C hk ht (rv_atom0 C.lists C.book ⟨⟨t, rfl⟩, hm⟩)
  | BinOp l op r _ =>
    replace h := Option.bind_eq_some_iff.mp (show (ev n c ρ l μ).bind _ = some (v, μ') from h)
    obtain ⟨⟨a, μ₁⟩, h1, h⟩ := h
    replace h := Option.bind_eq_some_iff.mp h
    obtain ⟨⟨b, μ₂⟩, h2, h⟩ := h
    exact wpAny_BinOp (two_ok H C h1 h2 fun x y s₂ g₂ C₂ ha hb => binop_ok h C₂.lists C₂.book ha hb)
  | UnaryOp op x _ =>
    cases op with
    | USub =>
      replace h := Option.bind_eq_some_iff.mp (show (ev n c ρ x μ).bind _ = some (v, μ') from h)
      obtain ⟨⟨a, μ₁⟩, h1, h⟩ := h
      replace h := Option.bind_eq_some_iff.mp h
      obtain ⟨i, h2, h⟩ := h
      cases h
      obtain ⟨o, rfl⟩ := asInt_some h2
      refine wpAny_UnaryOp (WP.mono (H.ev _ _ _ _ _ _ h1 _ _ _ _ C) fun v s₁ hv => ?_)
      obtain ⟨g₁, st, t, rfl, _⟩ := hv
      exact neg_int (RV.trans st _ _ (rv_int st.lists st.book (Nat.le_refl _) (Nat.lt_succ_self _)))
    | _ => first | exact no_some h | cases h
  | IfExp t b o _ =>
    replace h := Option.bind_eq_some_iff.mp (show (tr n c ρ t μ).bind _ = some (v, μ') from h)
    obtain ⟨⟨b, μ₁⟩, h1, h⟩ := h
    refine wpAny_IfExp (WP.mono (H.tr _ _ _ _ _ _ h1 _ _ _ _ C) fun b s₁ hb => ?_)
    obtain ⟨rfl, g₁, st⟩ := hb
    cases b with
    | true => exact WP.mono (H.ev _ _ _ _ _ _ h _ _ _ _ (C.step st)) (RV.trans st)
    | false => exact WP.mono (H.ev _ _ _ _ _ _ h _ _ _ _ (C.step st)) (RV.trans st)
  | Compare l ops rs _ => match ops, rs, h with
    | [op], [r], h =>
      obtain ⟨k1, k2⟩ := H.cmp _ _ _ _ _ _ _ _ (show cmpE n c ρ l op r μ = some (v, μ') from h) env A s g C
      exact wpAny_Compare1 k2 k1
    | [], _, h => first | exact no_some h | cases h
    | [_], [], h => first | exact no_some h | cases h
    | [_], _ :: _ :: _, h => first | exact no_some h | cases h
    | _ :: _ :: _, _, h => first | exact no_some h | cases h
  | List es _ =>
    replace h := Option.bind_eq_some_iff.mp (show (evs (ev n c ρ) es μ).bind _ = some (v, μ') from h)
    obtain ⟨⟨vs, μ₁⟩, h1, h⟩ := h
    refine wpAny_List (WP.mono (items_ok H.ev _ h1 C) fun vals s₁ hv => ?_)
    obtain ⟨g₁, st, r1⟩ := hv
    exact list_ok st r1 h
  | Tuple es _ _ =>
    replace h := Option.bind_eq_some_iff.mp (show (evs (ev n c ρ) es μ).bind _ = some (v, μ') from h)
    obtain ⟨⟨vs, μ₁⟩, h1, h⟩ := h
    replace h := Option.bind_eq_some_iff.mp h
    obtain ⟨as, h2, h⟩ := h
    dsimp only at h
    split at h
    · rename_i hl
      cases h
      refine wpAny_Tuple (WP.mono (items_ok H.ev _ h1 C) fun vals s₁ hv => ?_)
      obtain ⟨g₁, st, r1⟩ := hv
      have ha := atoms_ok h2 r1
      have hs : vals.length ≤ 8 := by rw [← ha.length]; exact hl
      refine ⟨Nat.le_trans hs (by decide), g₁, st.trans (Step.of_keeps st.lists st.book (Keeps.push s₁ _ s₁.toks) (Nat.le_refl _)), _, _, rfl, ⟨_, Heap.get?_push_size _ rfl, rfl, _, rfl⟩, ha, hl⟩
    · first | exact no_some h | cases h
  | Subscript o i _ => exact snd_sub H h C
  | Call f args kws _ =>
    cases kws with
    | cons _ _ => first | exact no_some h | cases h
    | nil =>
      cases f with
      | Name f _ =>
        have h : (if c.isGlob f then callE n c ρ f args μ else none) = some (v, μ') := h
        split at h
        · rename_i hg
          exact H.call _ _ _ _ _ _ _ h hg _ _ _ _ _ _ C
        · first | exact no_some h | cases h
      | Attribute o m ap =>
        rename_i pos
        have h : (if (ap.endLine == pos.line) && plainBase o && decide (args.length < 8) then methE n c ρ o m args μ else none) = some (v, μ') := h
        split at h
        · rename_i hc
          simp only [Bool.and_eq_true, decide_eq_true_eq] at hc
          exact H.meth _ _ _ _ _ _ _ _ h hc.1.2 hc.2 _ _ _ _ _ _ hc.1.1 C
        · first | exact no_some h | cases h
      | _ => first | exact no_some h | cases h
  | ListComp elt gens scope _ => exact snd_listcomp H h C
  | _ => first | exact no_some h | cases h

theorem snd : ∀ n, Snd prog w mg mb hT n
  | 0 => snd_zero
  | n + 1 => let H := snd n; ⟨snd_ev H, snd_cmp H, snd_call H, snd_meth H, snd_src H, snd_tr H, snd_trs H⟩
end
end Mine
namespace Mine
open PySem PySem.Calls PyProof.Rows PySem.Builtin PySem.Builtin.Str

theorem nodup_get : ∀ {l : List Addr} {i j : Nat} {p : Addr}, l.Nodup → l[i]? = some p → l[j]? = some p → i = j
  | [], _, _, _, _, h, _ => by simp at h
  | _ :: _, 0, 0, _, _, _, _ => rfl
  | x :: r, 0, j + 1, p, n, h1, h2 => by
    simp at h1 h2; subst h1
    exact absurd (List.mem_of_getElem? h2) (List.nodup_cons.mp n).1
  | x :: r, i + 1, 0, p, n, h1, h2 => by
    simp at h1 h2; subst h2
    exact absurd (List.mem_of_getElem? h1) (List.nodup_cons.mp n).1
  | x :: r, i + 1, j + 1, p, n, h1, h2 => by
    simp at h1 h2
    rw [nodup_get (List.nodup_cons.mp n).2 h1 h2]

/-- what a block's statements may write -/
noncomputable abbrev SW (env : Env) (c : Cfg) (k0 : Nat) (g : Gh) (b : Addr) : Prop := own env c b ∨ b ∈ g.ad.drop k0
structure SStep (env : Env) (c : Cfg) (k0 : Nat) (s : Shared) (μ : Mem) (g : Gh) (s' : Shared) (μ' : Mem) (g' : Gh) : Prop where
  shape : ∃ h tk, s' = { s with heap := h, toks := tk }
  toks : s.toks ≤ s'.toks
  keeps : KeepsW (SW env c k0 g) s.heap s'.heap
  live : ∀ b, s'.heap.get? b = none → s.heap.get? b = none
  memk : k0 ≤ μ'.length
  mem : μ'.take k0 = μ.take k0
  ad : ∃ ps, g'.ad = g.ad ++ ps ∧ ∀ p ∈ ps, s.heap.get? p = none
  bk : BkLe g.bk g'.bk
  lists : Lists μ' g' s'.heap
  book : Book g'.bk s'.toks

structure SCtx (prog : Program) (w : World) (mg mb : Str → Option Value) (hT : Heap) (c : Cfg) (ρ : Loc) (env : Env) (A : Around) (k0 : Nat) (hb : Heap) (s : Shared) (μ : Mem) (g : Gh) : Prop where
  ctx : Ctx prog w mg mb hT c ρ env A s μ g
  base : KeepsH hb s.heap
  fresh : ∀ b, SW env c k0 g b → hb.get? b = none
  k0 : k0 ≤ μ.length
  gk : GOk mg mb hT c hb
  nd : CellsNd env

noncomputable def FlR (g : Gh) (h : Heap) : Fl → Flow → Prop
  | .next, f => f = .next
  | .ret v, f => ∃ val, f = .ret val ∧ VR g h v val
/-- a statement's end -/
noncomputable abbrev SV (env : Env) (c : Cfg) (k0 : Nat) (s : Shared) (μ : Mem) (g : Gh) (fl : Fl) (ρ' : Loc) (μ' : Mem) : Flow → Shared → Prop :=
  fun f s' => ∃ g', SStep env c k0 s μ g s' μ' g' ∧ FrameR env c ρ' g' s'.heap ∧ FlR g' s'.heap fl f

section
variable {prog : Program} {w : World} {mg mb : Str → Option Value} {hT : Heap} {A : Around} {s s' s'' : Shared} {μ μ' μ'' : Mem} {g g' g'' : Gh} {env : Env} {c : Cfg} {ρ ρ' : Loc} {a : V} {val : Value} {x : Str} {pos p : Pos} {n k0 : Nat} {hb : Heap} {fl : Fl}

theorem SCtx.noTup (X : SCtx prog w mg mb hT c ρ env A k0 hb s μ g) : NoTup (SW env c k0 g) s.heap := by
  rintro b (h | h) vals
  · exact X.ctx.frame.own_noTup b h vals
  · exact X.ctx.lists.noTup (List.mem_of_mem_drop h) vals
theorem SCtx.noIter (X : SCtx prog w mg mb hT c ρ env A k0 hb s μ g) : ∀ b, SW env c k0 g b → ¬ IsIter s.heap b := by
  rintro b (h | h) hi
  · exact X.ctx.frame.own_noIter h hi
  · obtain ⟨its, e⟩ := X.ctx.lists.plain (List.mem_of_mem_drop h)
    exact iter_noList hi e
theorem SStep.of_step (st : Step s μ g s' μ' g') (hk : k0 ≤ μ.length) : SStep env c k0 s μ g s' μ' g' := by
  obtain ⟨l, hl⟩ := st.mem
  obtain ⟨ps, e, nd, fr⟩ := st.ad
  refine ⟨?_, st.toks, KeepsW.of (Keeps.h st.keeps), fun b hb => ?_, ?_, ?_, ⟨ps, e, fr⟩, st.bk, st.lists, st.book⟩
  · obtain ⟨h, tk, e, _⟩ := st.keeps; exact ⟨h, tk, e⟩
  · cases q : s.heap.get? b with
    | none => rfl
    | some o => rw [Keeps.h st.keeps b o q] at hb; first | exact no_some hb | cases hb
  · rw [hl, List.length_append]; (first | lia | omega)
  · rw [hl, List.take_append_of_le_length hk]
theorem SStep.refl (L : Lists μ g s.heap) (B : Book g.bk s.toks) (hk : k0 ≤ μ.length) : SStep env c k0 s μ g s μ g := SStep.of_step (Step.refl L B) hk
theorem SStep.drop (x : SStep env c k0 s μ g s' μ' g') {b : Addr} (hb : b ∈ g'.ad.drop k0) : b ∈ g.ad.drop k0 ∨ s.heap.get? b = none := by
  obtain ⟨ps, e, fr⟩ := x.ad
  rw [e, List.drop_append] at hb
  rcases List.mem_append.mp hb with h | h
  · exact .inl h
  · exact .inr (fr b (List.mem_of_mem_drop h))
theorem SStep.trans (x : SStep env c k0 s μ g s' μ' g') (y : SStep env c k0 s' μ' g' s'' μ'' g'') : SStep env c k0 s μ g s'' μ'' g'' := by
  have hsw : ∀ b o, ¬ SW env c k0 g b → s.heap.get? b = some o → ¬ SW env c k0 g' b := by
    rintro b o hn e (h | h)
    · exact hn (.inl h)
    · rcases x.drop h with h | h
      · exact hn (.inr h)
      · rw [h] at e; cases e
  obtain ⟨h1, t1, rfl⟩ := x.shape
  obtain ⟨h2, t2, rfl⟩ := y.shape
  obtain ⟨ps, e, fr⟩ := x.ad
  obtain ⟨ps', e', fr'⟩ := y.ad
  refine ⟨⟨h2, t2, rfl⟩, Nat.le_trans x.toks y.toks, fun b o hn q => y.keeps b o (hsw b o hn q) (x.keeps b o hn q), fun b hb => x.live b (y.live b hb), y.memk, y.mem.trans x.mem, ⟨ps ++ ps', by rw [e', e, List.append_assoc], fun b hb => ?_⟩, fun t i q => y.bk t i (x.bk t i q), y.lists, y.book⟩
  rcases List.mem_append.mp hb with h | h
  · exact fr b h
  · exact x.live b (fr' b h)
theorem SStep.adp (x : SStep env c k0 s μ g s' μ' g') : ∃ ps, g'.ad = g.ad ++ ps := let ⟨ps, e, _⟩ := x.ad; ⟨ps, e⟩

theorem SCtx.step (X : SCtx prog w mg mb hT c ρ env A k0 hb s μ g) (y : SStep env c k0 s μ g s' μ' g') (F : FrameR env c ρ' g' s'.heap) : SCtx prog w mg mb hT c ρ' env A k0 hb s' μ' g' := by
  have hk : KeepsH hb s'.heap := fun b o e => y.keeps b o (fun hw => by rw [X.fresh b hw] at e; cases e) (X.base b o e)
  refine ⟨⟨X.ctx.a, X.ctx.envok, X.gk.keeps hk, X.ctx.calls, F, y.lists, y.book⟩, hk, fun b hw => ?_, y.memk, X.gk, X.nd⟩
  rcases hw with h | h
  · exact X.fresh b (.inl h)
  · rcases y.drop h with h | h
    · exact X.fresh b (.inr h)
    · cases q : hb.get? b with
      | none => rfl
      | some o => rw [X.base b o q] at h; first | exact no_some h | cases h
theorem SCtx.quiet (X : SCtx prog w mg mb hT c ρ env A k0 hb s μ g) (st : Step s μ g s' μ' g') : SCtx prog w mg mb hT c ρ env A k0 hb s' μ' g' :=
  X.step (SStep.of_step st X.k0) (X.ctx.frame.step st)

theorem SV.trans {f : Flow} {t : Shared} (x : SStep env c k0 s μ g s' μ' g') (y : SV env c k0 s' μ' g' fl ρ' μ'' f t) : SV env c k0 s μ g fl ρ' μ'' f t :=
  let ⟨g2, y1, y2, y3⟩ := y; ⟨g2, x.trans y1, y2, y3⟩

/-- a variable is written -/
theorem store_st (X : SCtx prog w mg mb hT c ρ env A k0 hb s μ g) (hv : VR g s.heap a val) (hx : c.isLoc x = true) :
    WP prog w A (storeName env x val) (fun _ s' => SV env c k0 s μ g .next (upd x a ρ) μ .next s') s := by
  refine WP.mono (store_ok X.ctx.envok X.nd X.ctx.frame hv hx) fun _ s' h => ?_
  obtain ⟨sh, tk, k, F⟩ := h
  refine ⟨g, ⟨sh, tk, k.mono fun b h => .inl h, fun b hb => ?_, X.k0, rfl, ⟨[], by simp, fun _ h => (nomatch h)⟩, fun _ _ e => e, X.ctx.lists.but k X.ctx.frame.own_noTup (fun p hp h => ?_), X.ctx.book.up tk⟩, F, rfl⟩
  · cases q : s.heap.get? b with
    | none => rfl
    | some o =>
      exfalso
      by_cases hw : own env c b
      · rcases hw with rfl | ⟨y, h1, h2⟩
        · obtain ⟨m, ⟨o, es, ep, ho, _⟩, _⟩ := F.ns
          rw [hb] at ho; first | exact no_some ho | cases ho
        · obtain ⟨a', o', e1, ⟨ob, ho, _⟩, _⟩ := F.cells y h1
          rw [h2] at e1; cases e1
          rw [hb] at ho; first | exact no_some ho | cases ho
      · rw [k b o hw q] at hb; first | exact no_some hb | cases hb
  · obtain ⟨its, e⟩ := X.ctx.lists.plain hp
    exact X.ctx.frame.own_noList h e

/-- a list is written -/
theorem write_st {i : Nat} {q : Addr} {its its' : Array Value} {l' : List V} {h' : Heap} (X : SCtx prog w mg mb hT c ρ env A k0 hb s μ g) (hi : k0 ≤ i) (hq : g.ad[i]? = some q) (h1 : s.heap.PlainList q its) (h2 : h'.PlainList q its') (hs : Heap.SameBut q s.heap h')
    (hl : L2 (IR g.bk s.heap) l' its'.toList) (hlen : l'.length ≤ lim) : SV env c k0 s μ g .next ρ (μ.set i l') .next { s with heap := h' } := by
  have k : KeepsW (· = q) s.heap h' := KeepsW.sameBut hs
  have nt : NoTup (· = q) s.heap := fun b hb vals => by subst hb; exact list_noTup h1 vals
  have hmem : q ∈ g.ad.drop k0 := by
    have hlt := (List.getElem?_eq_some_iff.mp hq).1
    refine List.mem_of_getElem? (i := i - k0) ?_
    rw [List.getElem?_drop, show k0 + (i - k0) = i by (first | lia | omega)]
    exact hq
  have hlt : i < μ.length := by rw [← X.ctx.lists.len]; exact (List.getElem?_eq_some_iff.mp hq).1
  refine ⟨g, ⟨⟨h', s.toks, rfl⟩, Nat.le_refl _, k.mono fun b h => .inr (by subst h; exact hmem), fun b hb => ?_, by rw [List.length_set]; exact X.k0, ?_, ⟨[], by simp, fun _ h => (nomatch h)⟩, fun _ _ e => e, ⟨?_, X.ctx.lists.nd, fun n l e => ?_⟩, X.ctx.book⟩, ?_, rfl⟩
  · cases qq : s.heap.get? b with
    | none => rfl
    | some o =>
      exfalso
      by_cases hw : b = q
      · subst hw
        obtain ⟨n, ho⟩ := h2
        rw [hb] at ho; first | exact no_some ho | cases ho
      · rw [k b o hw qq] at hb; first | exact no_some hb | cases hb
  · rw [List.take_set_of_le hi]
  · rw [List.length_set]; exact X.ctx.lists.len
  · by_cases hn : n = i
    · subst hn
      rw [List.getElem?_set_self hlt] at e
      cases e
      exact ⟨q, its', hq, h2, Lists.but_item hl k nt, hlen⟩
    · rw [List.getElem?_set_ne (Ne.symm hn)] at e
      obtain ⟨p, vals, e1, e2, e3, e4⟩ := X.ctx.lists.at_ n l e
      have hne : p ≠ q := fun he => by
        subst he
        exact hn (nodup_get X.ctx.lists.nd e1 hq)
      exact ⟨p, vals, e1, e2.at fun o e => k _ o hne e, Lists.but_item e3 k nt, e4⟩
  · refine X.ctx.frame.but k nt (fun e => ?_) fun y b h3 h4 e => ?_
    · obtain ⟨m, hm, _⟩ := X.ctx.frame.ns
      rw [e] at hm
      exact ns_noList hm h1
    · obtain ⟨a', o', e1, e2, _⟩ := X.ctx.frame.cells y h3
      rw [h4] at e1; cases e1
      rw [e] at e2
      exact cell_noList e2 h1

/-- an iterator moves -/
theorem SStep.iter {h0 : Heap} (x : SStep env c k0 s μ g s' μ' g') (y : NS h0 s' g' s'' g'') (h0s : ∀ b, NW h0 s'.heap b → s.heap.get? b = none) : SStep env c k0 s μ g s'' μ' g'' := by
  obtain ⟨h1, t1, rfl⟩ := x.shape
  obtain ⟨h2, t2, rfl⟩ := y.shape
  refine ⟨⟨h2, t2, rfl⟩, Nat.le_trans x.toks y.toks, fun b o hn q => y.keeps b o (fun hw => by rw [h0s b hw] at q; cases q) (x.keeps b o hn q), fun b hb => ?_, x.memk, x.mem, by rw [y.ad]; exact x.ad, fun t i q => y.bk t i (x.bk t i q), y.lists x.lists, y.book⟩
  cases q : s.heap.get? b with
  | none => rfl
  | some o =>
    exfalso
    cases q2 : h1.get? b with
    | none => rw [x.live b q2] at q; cases q
    | some o2 =>
      have := y.keeps b o2 (fun hw => by rw [h0s b hw] at q; cases q) q2
      rw [hb] at this; cases this
end
end Mine
namespace Mine
open PySem PySem.Calls PyProof.Rows PySem.Builtin PySem.Builtin.Str
section
variable {prog : Program} {w : World} {mg mb : Str → Option Value} {hT : Heap} {A : Around} {s s' s'' : Shared} {μ μ' μ'' : Mem} {g g' g'' : Gh} {env : Env} {c : Cfg} {ρ ρ' : Loc} {a v : V} {val : Value} {x y : Str} {pos p : Pos} {n k0 : Nat} {hb : Heap} {fl : Fl}

theorem comp_use {elt : Expr} {gens : List Comprehension} {scope : Scope} {u : Value → Sem Unit} {Q : Shared → Prop} (H : Snd prog w mg mb hT n) (h : ev (n + 1) c ρ (.ListComp elt gens scope pos) μ = some (v, μ')) (C : Ctx prog w mg mb hT c ρ env A s μ g)
    (hu : ∀ D C' s', CDone s μ g v μ' D C' s' → WP prog w A (u (.ref D)) (fun _ s'' => ∃ m, s''.heap.Ns C' m ∧ ∀ h', Heap.SameBut C' s''.heap h' → Q { s'' with heap := h' }) s') :
    WP prog w A (evalThenUse (.ListComp elt gens scope pos) env u) (fun _ s' => Q s') s := by
  obtain ⟨tgt, iter, sr, μ₁, vals, μ₂, rfl, hc, hc2, h1, h2, hn, hl, rfl, rfl⟩ := listcomp_some h
  have cf := compOk_facts hc
  obtain ⟨hf, hw⟩ := H.src _ _ _ _ _ _ h1 tgt hc2 env A s g C
  show WP prog w A (do let _ ← comprehension (.ListComp elt [⟨tgt, iter, [], 0⟩] scope pos) scope env _ (PySem.newList []) false (eval iter env) (some u)) _ s
  refine wpAny_bind (WP.mono (wpAny_comprehension_free (use := some u) (Q := fun _ s' => Q s') (cl := clos env scope.names []) rfl hf (clos_some C cf) cf.kind cf.loc (WP.mono hw fun xv s₁ h₁ => WP.mono h₁ fun it s₂ h₂ => ?_)) fun _ s' hq => wpAny_pure hq)
  obtain ⟨I, g₁, rfl, st, hit⟩ := h₂
  exact comp_core (RR := fun acc C' => compPost (model prog w) A (fun _ _ => False) (some u) (fun _ s' => Q s') acc C') H.ev C cf st hit (src_chk h1) h2 hn hl fun D C' s' hd => hu D C' s' hd

theorem SV.letGo {f : Flow} {C' : Addr} {m : Str → Option Value} {h' : Heap} (x : SV env c k0 s μ g .next ρ' μ' f s') (F0 : FrameR env c ρ g s.heap) (fr : s.heap.get? C' = none) (hn : s'.heap.Ns C' m) (k : Heap.SameBut C' s'.heap h') :
    SV env c k0 s μ g .next ρ' μ' f { s' with heap := h' } := by
  obtain ⟨g', st, F, hf⟩ := x
  have nt : NoTup (· = C') s'.heap := fun b hb vals => by subst hb; exact ns_noTup hn vals
  obtain ⟨h1, t1, rfl⟩ := st.shape
  refine ⟨g', ⟨⟨h', t1, rfl⟩, st.toks, fun b o hw q => k.extBut b o (fun e => by subst e; rw [fr] at q; cases q) (st.keeps b o hw q), fun b hb => ?_, st.memk, st.mem, st.ad, st.bk, st.lists.but (KeepsW.sameBut k) nt (fun p hp e => ?_), st.book⟩, F.but (KeepsW.sameBut k) nt (fun e => ?_) (fun y b h1 h2 e => ?_), hf⟩
  · by_cases he : b = C'
    · subst he; exact fr
    · refine st.live b ?_
      cases q : h1.get? b with
      | none => rfl
      | some o => rw [k.extBut b o he q] at hb; first | exact no_some hb | cases hb
  · subst e
    obtain ⟨its, e⟩ := st.lists.plain hp
    exact ns_noList hn e
  · obtain ⟨m', hm', _⟩ := F0.ns
    obtain ⟨o, _, _, ho, _⟩ := hm'
    rw [e, fr] at ho; first | exact no_some ho | cases ho
  · obtain ⟨a', o, e1, ⟨ob, ho, _⟩, _⟩ := F0.cells y h1
    rw [h2] at e1; cases e1
    rw [e, fr] at ho; first | exact no_some ho | cases ho

/-- one statement is sound -/
noncomputable def StOk (prog : Program) (w : World) (mg mb : Str → Option Value) (hT : Heap) (n : Nat) : Prop :=
  ∀ k0 c st ρ μ fl ρ' μ', ex n k0 c st ρ μ = some (fl, ρ', μ') → ∀ hb env A s g, SCtx prog w mg mb hT c ρ env A k0 hb s μ g → WP prog w A (exec st env) (SV env c k0 s μ g fl ρ' μ') s

theorem block_ok (H : StOk prog w mg mb hT n) : ∀ (sts : List Stmt) {ρ ρ' : Loc} {μ μ' : Mem} {fl : Fl} {s : Shared} {g : Gh}, exsG (ex n k0 c) sts ρ μ = some (fl, ρ', μ') → SCtx prog w mg mb hT c ρ env A k0 hb s μ g →
    WP prog w A (execs sts env) (SV env c k0 s μ g fl ρ' μ') s
  | [], ρ, ρ', μ, μ', fl, s, g, h, X => by
    cases h
    exact wpAny_execs_nil ⟨g, SStep.refl X.ctx.lists X.ctx.book X.k0, X.ctx.frame, rfl⟩
  | st :: r, ρ, ρ', μ, μ', fl, s, g, h, X => by
    replace h := Option.bind_eq_some_iff.mp (show (ex n k0 c st ρ μ).bind _ = _ from h)
    obtain ⟨⟨f1, ρ1, μ1⟩, h1, h⟩ := h
    refine wpAny_execs_cons (WP.mono (H _ _ _ _ _ _ _ _ h1 _ _ _ _ _ X) fun f s1 hs => ?_)
    obtain ⟨g1, st1, F1, hf⟩ := hs
    cases f1 with
    | next =>
      cases hf
      exact WP.mono (block_ok H r h (X.step st1 F1)) fun f t => SV.trans st1
    | ret v =>
      obtain ⟨val, rfl, hv⟩ := hf
      cases h
      exact ⟨g1, st1, F1, val, rfl, hv⟩

theorem assign_used {sp px : Pos} {e : Expr} {gens : List Comprehension} {scope : Scope} (H : Snd prog w mg mb hT n) (X : SCtx prog w mg mb hT c ρ env A k0 hb s μ g) (h : ev (n + 1) c ρ (.ListComp e gens scope pos) μ = some (v, μ')) (hx : c.isLoc x = true)
    (hg : useGood c x px sp (.ListComp e gens scope pos) = true) : WP prog w A (exec (.Assign [.Name x px] (.ListComp e gens scope pos) sp) env) (SV env c k0 s μ g .next (upd x v ρ) μ') s := by
  have C := X.ctx
  have hsw : swapsWith (.ListComp e gens scope pos) (some (.Name x px)) sp.line env = pure true := by
    unfold useGood at hg
    simp only [Bool.and_eq_true, beq_iff_eq] at hg
    have hbk : env.blockKind = .function := by unfold Env.blockKind; rw [C.envok.kind]; rfl
    have hk : env.kindOf x = some .local := by rw [kindOf C.envok]; exact hg.1.1.1
    show (pure (env.blockKind == .function && env.kindOf x == some .local && px.line == pos.line && !(scope.names.any fun (n, k) => n == x && (k == .local || k == .cell))) : Sem Bool) = _
    rw [hbk, hk, hg.1.1.2, hg.1.2]
    simp
  rw [exec_Assign_Name_used _ _ _ _ hsw]
  refine wpAny_bind (wpAny_standAt (wpAny_bind (WP.mono (comp_use (Q := fun s' => SV env c k0 s μ g .next (upd x v ρ) μ' .next s') H h C fun D C' s1 hd => ?_) fun _ s' hq => wpAny_pure hq)))
  obtain ⟨g1, st1, r1⟩ := hd.rv
  have X1 := X.quiet st1
  obtain ⟨m, hm⟩ := hd.ns
  refine wpAny_assign_Name (WP.mono (store_st X1 r1 hx) fun _ s2 h2 => ?_)
  have hfin := SV.trans (SStep.of_step st1 X.k0) h2
  obtain ⟨g2, st2, F2, _⟩ := h2
  have hnot : ¬ SW env c k0 g1 C' := by
    rintro (h | h)
    · rcases h with h | ⟨y, h3, h4⟩
      · obtain ⟨m', ⟨o, _, _, ho, _⟩, _⟩ := C.frame.ns
        rw [← h, hd.fresh] at ho; first | exact no_some ho | cases ho
      · obtain ⟨a', o, e1, ⟨ob, ho, _⟩, _⟩ := C.frame.cells y h3
        rw [h4] at e1; cases e1
        rw [hd.fresh] at ho; first | exact no_some ho | cases ho
    · obtain ⟨its, e⟩ := st1.lists.plain (List.mem_of_mem_drop h)
      exact ns_noList hm e
  have hm2 : s2.heap.Ns C' m := hm.at' fun o e => st2.keeps _ o hnot e
  exact ⟨m, hm2, fun h' hs => SV.letGo hfin C.frame hd.fresh hm2 hs⟩
end
end Mine
namespace Mine
open PySem PySem.Calls PyProof.Rows PySem.Builtin PySem.Builtin.Str
section
variable {prog : Program} {w : World} {mg mb : Str → Option Value} {hT : Heap} {A : Around} {s s' s'' : Shared} {μ μ' μ'' : Mem} {g g' g'' : Gh} {env : Env} {c : Cfg} {ρ ρ' : Loc} {a v : V} {val : Value} {x y : Str} {pos p : Pos} {n k0 : Nat} {hb : Heap} {fl : Fl}

theorem load_var (C : Ctx prog w mg mb hT c ρ env A s μ g) (h : c.isLoc x = true) (hx : ρ.lookup x = some a) : WP prog w A (loadName env x) (fun v s' => s' = s ∧ VR g s.heap a v) s := by
  have h : c.names.lookup x = some .local ∨ c.names.lookup x = some .cell := by simpa [Cfg.isLoc] using h
  rcases h with h | h
  · obtain ⟨m, hm, hl⟩ := C.frame.ns
    obtain ⟨v, e1, e2⟩ := hl x a hx h
    exact wpAny_loadName_local C.envok.kind (by rw [kindOf C.envok]; exact h) hm e1 ⟨rfl, e2⟩
  · obtain ⟨b, o, e1, e2, e3⟩ := C.frame.cells x h
    obtain ⟨v, rfl, f2⟩ := e3 a hx
    exact wpAny_loadName_cell C.envok.kind (by rw [kindOf C.envok]; exact h) e1 e2 ⟨rfl, f2⟩

theorem st_assign {px sp : Pos} {e : Expr} (X : SCtx prog w mg mb hT c ρ env A k0 hb s μ g) (h : ev n c ρ e μ = some (v, μ')) (hx : c.isLoc x = true) (hg : useGood c x px sp e = true) :
    WP prog w A (exec (.Assign [.Name x px] e sp) env) (SV env c k0 s μ g .next (upd x v ρ) μ') s := by
  by_cases hc : ∃ a b d q, e = .ListComp a b d q
  · obtain ⟨a, b, d, q, rfl⟩ := hc
    cases n with
    | zero => first | exact no_some h | cases h
    | succ n => exact assign_used (snd n) X h hx hg
  · have hs : swapsWith e (some (.Name x px)) sp.line env = pure false := by
      cases e <;> first | rfl | (exact absurd hg Bool.false_ne_true) | (exact absurd ⟨_, _, _, _, rfl⟩ hc)
    refine wpAny_Assign_Name (WP.mono ((snd n).ev _ _ _ _ _ _ h _ _ _ _ X.ctx) fun v s1 hv => ?_) hs
    obtain ⟨g1, st, r⟩ := hv
    exact WP.mono (store_st (X.quiet st) r hx) fun _ s2 h2 => SV.trans (SStep.of_step st X.k0) h2

theorem st_swap {px py q r sp : Pos} {k1 k2 : Nat} {e f : Expr} {u v : V} (X : SCtx prog w mg mb hT c ρ env A k0 hb s μ g) (h : evs (ev n c ρ) [e, f] μ = some ([u, v], μ')) (hg : swapGood c x y px py e f = true) :
    WP prog w A (exec (.Assign [.Tuple [.Name x px, .Name y py] k1 q] (.Tuple [e, f] k2 r) sp) env) (SV env c k0 s μ g .next (upd x u (upd y v ρ)) μ') s := by
  have C := X.ctx
  unfold swapGood at hg
  simp only [Bool.and_eq_true, Bool.not_eq_true', bne_iff_ne, beq_iff_eq] at hg
  obtain ⟨⟨⟨⟨⟨⟨⟨h1, h2⟩, h3⟩, h4⟩, h5⟩, h6⟩, h7⟩, h8⟩ := hg
  have hbk : env.blockKind = .function := by unfold Env.blockKind; rw [C.envok.kind]; rfl
  have hkx : env.kindOf x = some .local := by rw [kindOf C.envok]; exact h1
  have hky : env.kindOf y = some .local := by rw [kindOf C.envok]; exact h2
  have hw : swappedStores [.Tuple [.Name x px, .Name y py] k1 q] (.Tuple [e, f] k2 r) env = pure (some [x, y]) := by
    unfold swappedStores
    have p1 : (Expr.Name x px).pos = px := rfl
    simp [hbk, hkx, hky, p1, h4]
    have e2 : (y == x) = false := beq_eq_false_iff_ne.mpr (Ne.symm h3)
    have hd : [x, y].eraseDups.length = 2 := by simp [List.eraseDups_cons, e2]
    have n7 : ¬ (foldedForSure 8 e = true ∧ foldedForSure 8 f = true) := fun q => by rw [q.1, q.2] at h7; first | exact no_some h7 | cases h7
    have n8 : ¬ (constantsAlone 8 e = true ∧ constantsAlone 8 f = true) := fun q => by rw [q.1, q.2] at h8; first | exact no_some h8 | cases h8
    rw [if_neg ?_, if_pos hd, if_neg n7, if_neg n8]
    rintro (q | q)
    · cases e <;> first | (cases q; done) | (cases h5; done)
    · cases f <;> first | (cases q; done) | (cases h6; done)
  refine Assign_Tuple_swapped ?_ rfl hw
  refine wpAny_Tuple (WP.mono (items_ok (snd n).ev [e, f] h C) fun vals s1 hv => ?_)
  obtain ⟨g1, st, r1⟩ := hv
  match vals, r1 with
  | [v1, v2], r1 =>
    refine ⟨(by decide : 2 ≤ sizeLine), ?_⟩
    have st2 := st.trans (Step.of_keeps st.lists st.book (Keeps.push s1 { cls := .type "tuple", data := .seq ([v1, v2] : List Value).toArray } s1.toks) (Nat.le_refl _))
    refine wpAny_unpackItems_tuple (items := #[v1, v2]) C.a.handled ⟨_, Heap.get?_push_size _ rfl, rfl, _, rfl⟩ fun h' hx' => ?_
    have st3 := st2.trans (Step.of_keeps st2.lists st2.book ⟨h', s1.toks, rfl, fun b o e => hx' b o (Nat.ne_of_lt (Heap.lt_size e)) e⟩ (Nat.le_refl _))
    have X3 := X.quiet st3
    have k3 : KeepsH s1.heap h' := fun b o e => hx' b o (Nat.ne_of_lt (Heap.lt_size (Heap.get?_push_of_some _ e))) (Heap.get?_push_of_some _ e)
    have w1 : VR g1 h' u v1 := r1.1.grow k3 (fun _ _ e => e) ⟨[], by simp⟩
    have w2 : VR g1 h' v v2 := r1.2.1.grow k3 (fun _ _ e => e) ⟨[], by simp⟩
    show WP prog w A (assignInOrder [bindName env y, bindName env x] [v2, v1]) _ _
    refine wpAny_assignInOrder_more (wpAny_bindName (WP.mono (store_st X3 w2 (by simp [Cfg.isLoc, h2])) fun _ s4 h4' => ?_))
    obtain ⟨g4, st4, F4, _⟩ := h4'
    have X4 := X3.step st4 F4
    have w1' : VR g4 s4.heap u v1 := by
      cases u with
      | a0 k => exact AR.grow w1 st4.bk
      | tup l =>
        obtain ⟨p, vals, e, t, rr, rr'⟩ := w1
        obtain ⟨o, ho, r2⟩ := id t
        exact ⟨p, vals, e, ⟨o, st4.keeps p o (fun hw => X3.noTup p hw vals t) ho, r2⟩, rr.mono fun _ _ y => y.grow st4.bk, rr'⟩
      | lst i =>
        obtain ⟨p, hp, e⟩ := w1
        obtain ⟨ps, e', _⟩ := st4.ad
        exact ⟨p, by rw [e', List.getElem?_append_left (List.getElem?_eq_some_iff.mp hp).1]; exact hp, e⟩
    refine wpAny_assignInOrder_more (wpAny_bindName (WP.mono (store_st X4 w1' (by simp [Cfg.isLoc, h1])) fun _ s5 h5' => wpAny_assignInOrder_none ?_))
    exact SV.trans ((SStep.of_step st3 X.k0).trans st4) h5'
end
end Mine
namespace Mine
open PySem PySem.Calls PyProof.Rows PySem.Builtin PySem.Builtin.Str
section
variable {prog : Program} {w : World} {mg mb : Str → Option Value} {hT : Heap} {A : Around} {s s' s'' : Shared} {μ μ' μ'' : Mem} {g g' g'' : Gh} {env : Env} {c : Cfg} {ρ ρ' : Loc} {a v : V} {val : Value} {x y : Str} {pos p : Pos} {n k0 : Nat} {hb : Heap} {fl : Fl}

theorem st_aug {np sp : Pos} {op : Operator} {e : Expr} {i j r : Int} {o o' : Bool} (X : SCtx prog w mg mb hT c ρ env A k0 hb s μ g) (hx : c.isLoc x = true) (hl : ρ.lookup x = some (.a0 (.int i o))) (h : ev n c ρ e μ = some (.a0 (.int j o'), μ'))
    (hop : op = .Add ∧ r = i + j ∨ op = .Sub ∧ r = i - j) : WP prog w A (exec (.AugAssign (.Name x np) op e sp) env) (SV env c k0 s μ g .next (upd x (vint r) ρ) μ') s := by
  refine wpAny_AugAssign_Name (WP.mono (load_var X.ctx hx hl) fun old s0 h0 => ?_)
  obtain ⟨rfl, t, rfl, _⟩ := h0
  refine WP.mono ((snd n).ev _ _ _ _ _ _ h _ _ _ _ X.ctx) fun val s1 hv => ?_
  obtain ⟨g1, st, u, rfl, _⟩ := hv
  have fin : WP prog w A (storeName env x (.int r s1.toks)) (fun _ s2 => SV env c k0 s0 μ g .next (upd x (vint r) ρ) μ' .next s2) { s1 with toks := s1.toks + 1 } := by
    obtain ⟨g2, st2, r2⟩ := rv_int (i := r) st.lists st.book (Nat.le_refl _) (Nat.lt_succ_self _)
    have st3 := st.trans st2
    exact WP.mono (store_st (X.quiet st3) r2 hx) fun _ s2 h2 => SV.trans (SStep.of_step st3 X.k0) h2
  rcases hop with ⟨rfl, rfl⟩ | ⟨rfl, rfl⟩
  · exact AutoIntOps.iadd_0 fin
  · exact AutoIntOps.isub_0 fin

theorem st_append {ap cp sp : Pos} {o e : Expr} {i : Nat} {v : V} {l : List V} {μ₁ : Mem} (X : SCtx prog w mg mb hT c ρ env A k0 hb s μ g) (hline : (ap.endLine == cp.line) = true) (hbse : plainBase o = true) (h1 : ev n c ρ o μ = some (.lst i, μ₁)) (h2 : ev n c ρ e μ₁ = some (v, μ'))
    (hv : ∀ k, v ≠ .lst k) (hi : k0 ≤ i) (hl : μ'[i]? = some l) (hlen : l.length < lim) :
    WP prog w A (exec (.Expr (.Call (.Attribute o "append" ap) [e] [] cp) sp) env) (SV env c k0 s μ g .next ρ (μ'.set i (l ++ [v]))) s := by
  have C := X.ctx
  have hst : starEach [e] env = [(false, eval e env)] := noStar h2 [] env
  have hs : (backTo cp (starEach [e] env)).any (·.1) = false := by rw [hst]; rfl
  refine wpAny_Expr_any ?_ (by unfold interactive; rw [C.envok.kind]; rfl) rfl
  refine wpAny_Call_method_late (base_eq hbse) (few_ok hs (by simp)) hline rfl (WP.mono ((snd n).ev _ _ _ _ _ _ h1 _ _ _ _ C) fun ov s1 ho => ?_)
  obtain ⟨g1, st1, q, hq, rfl⟩ := ho
  have hi1 : i < μ₁.length := by rw [← st1.lists.len]; exact (List.getElem?_eq_some_iff.mp hq).1
  obtain ⟨q', its, e1, e2, _⟩ := st1.lists.at_ i μ₁[i] (List.getElem?_eq_getElem hi1)
  rw [hq] at e1; cases e1
  obtain ⟨nn, ho⟩ := id e2
  refine ⟨"list", "list.append", F.plainAttrs_list, slot_list_append, F.type_list_append, ⟨_, ho, rfl⟩, (fun a' e' => by cases e'; exact ⟨_, ho, rfl⟩), callWith_bt (.inl ⟨_, rfl⟩) hs ?_⟩
  have h2' : evs (ev n c ρ) [e] μ₁ = some ([v], μ') := by simp [evs, h2]
  refine WP.mono (items_ok (snd n).ev [e] h2' (C.step st1)) fun vals s2 hvs => ?_
  obtain ⟨g2, st2, r2⟩ := hvs
  match vals, r2 with
  | [xv], r2 =>
    have X2 := (X.quiet st1).quiet st2
    have hq2 : g2.ad[i]? = some q := by
      obtain ⟨ps, e', _⟩ := st2.ad
      rw [e', List.getElem?_append_left (List.getElem?_eq_some_iff.mp hq).1]; exact hq
    obtain ⟨q'', its2, f1, f2, f3, f4⟩ := st2.lists.at_ i l hl
    rw [hq2] at f1; cases f1
    have hsz : its2.size ≤ sizeLine := by rw [← Array.length_toList, ← f3.length]; exact Nat.le_trans f4 lim_sizeLine
    refine wpAny_list_append_plain f2 (fun h' hp' hs' => ?_) hsz
    refine SV.trans (SStep.of_step (st1.trans st2) X.k0) (write_st X2 hi hq2 f2 hp' hs' ?_ (by rw [List.length_append, List.length_singleton]; exact hlen))
    rw [Array.toList_push]
    exact f3.snoc (r2.1.ir hv)

theorem st_del {sp dp : Pos} {o e : Expr} {i j : Nat} {k : Int} {ow : Bool} {l : List V} {μ₁ : Mem} (X : SCtx prog w mg mb hT c ρ env A k0 hb s μ g) (h1 : ev n c ρ o μ = some (.lst i, μ₁)) (h2 : ev n c ρ e μ₁ = some (.a0 (.int k ow), μ'))
    (hi : k0 ≤ i) (hl : μ'[i]? = some l) (hj : place? k l.length = some j) (hk : k.natAbs < big) :
    WP prog w A (exec (.Delete [.Subscript o e dp] sp) env) (SV env c k0 s μ g .next ρ (μ'.set i (l.eraseIdx j))) s := by
  have C := X.ctx
  refine wpAny_Delete (wpAny_deleteEach_cons (wpAny_delete_Subscript (WP.mono ((snd n).ev _ _ _ _ _ _ h1 _ _ _ _ C) fun ov s1 ho => ?_)))
  obtain ⟨g1, st1, q, hq, rfl⟩ := ho
  refine WP.mono ((snd n).ev _ _ _ _ _ _ h2 _ _ _ _ (C.step st1)) fun iv s2 hv => ?_
  obtain ⟨g2, st2, t, rfl, _⟩ := hv
  have X2 := (X.quiet st1).quiet st2
  have hq2 : g2.ad[i]? = some q := by
    obtain ⟨ps, e', _⟩ := st2.ad
    rw [e', List.getElem?_append_left (List.getElem?_eq_some_iff.mp hq).1]; exact hq
  obtain ⟨q'', its2, f1, f2, f3, f4⟩ := st2.lists.at_ i l hl
  rw [hq2] at f1; cases f1
  have hlen : l.length = its2.size := by rw [f3.length, Array.length_toList]
  obtain ⟨p1, p2, p3⟩ := place_seq hj
  have hk' : k.natAbs < 4611686018427387904 := hk
  refine wpAny_delItem_plain f2 (by unfold Builtin.List.listFitsIndex; simp; (first | lia | omega)) (by rw [← hlen]; exact p1) (fun h' hp' hs' => wpAny_deleteEach_nil ?_) (by rw [← hlen]; exact Nat.le_trans f4 lim_sizeLine)
  refine SV.trans (SStep.of_step (st1.trans st2) X.k0) (write_st X2 hi hq2 f2 hp' hs' ?_ (Nat.le_trans (List.length_eraseIdx_le _ _) f4))
  have : (its2.eraseIdxIfInBounds j).toList = its2.toList.eraseIdx j := by simp
  rw [this]
  exact f3.eraseIdx j

theorem st_for {tgt iter : Expr} {body orelse : List Stmt} {sr : Src} {μ₁ : Mem} {sp : Pos} (H : StOk prog w mg mb hT n) (X : SCtx prog w mg mb hT c ρ env A k0 hb s μ g) (hloc : locT c tgt = true) (hen : (isEnum iter).isSome = true → isTupT tgt = true)
    (h1 : src n c ρ iter μ = some (sr, μ₁)) (h2 : ((forGo (exsG (ex n k0 c) body) tgt sr.chk sr.items ρ μ₁).bind fun a => (match a.1 with
        | .next => exsG (ex n k0 c) orelse a.2.1 a.2.2
        | .ret w => some (.ret w, a.2))) = some (fl, ρ', μ')) :
    WP prog w A (exec (.For tgt iter body orelse sp) env) (SV env c k0 s μ g fl ρ' μ') s := by
  have C := X.ctx
  obtain ⟨hf, hw⟩ := (snd n).src _ _ _ _ _ _ h1 tgt hen env A s g C
  have htl : ∀ y ∈ tgtNames tgt, c.names.lookup y = some .local := by
    unfold locT at hloc
    simp only [Bool.and_eq_true, List.all_eq_true, beq_iff_eq] at hloc
    exact hloc.2
  refine wpAny_For (WP.mono hw fun xv s1 h1' => WP.mono h1' fun it s2 h2' => ?_) hf
  obtain ⟨I, g1, rfl, st, hit⟩ := h2'
  refine codeAny_forLoop_any (fun m s' => ∃ i ρi μi gi, SStep env c k0 s μ g s' μi gi ∧ FrameR env c ρi gi s'.heap ∧ ItSt s.heap tgt I sr i gi s'.heap ∧
      ((forGo (exsG (ex n k0 c) body) tgt sr.chk (sr.items.drop i) ρi μi).bind fun a => (match a.1 with
        | .next => exsG (ex n k0 c) orelse a.2.1 a.2.2
        | .ret w => some (.ret w, a.2))) = some (fl, ρ', μ') ∧ m = sr.items.length + 1 - i) ?_ (sr.items.length + 1)
    ⟨0, ρ, μ₁, g1, SStep.of_step st X.k0, C.frame.step st, hit, by simpa using h2, rfl⟩
  rintro m s' ⟨i, ρi, μi, gi, ss, F, it, hgo, rfl⟩
  have Xi := X.step ss F
  have hdrop : ∀ a, sr.items[i]? = some a → sr.items.drop i = a :: sr.items.drop (i + 1) := fun a ha => by
    obtain ⟨h1, h2⟩ := List.getElem?_eq_some_iff.mp ha
    rw [← h2]; exact List.drop_eq_getElem_cons h1
  have hok : okSrc sr.chk μi = true := by
    cases hd : sr.items.drop i with
    | nil =>
      rw [hd] at hgo
      cases q : okSrc sr.chk μi with
      | true => rfl
      | false => simp [forGo, q] at hgo
    | cons b r =>
      rw [hd] at hgo
      cases q : okSrc sr.chk μi with
      | true => rfl
      | false => simp [forGo, q] at hgo
  have hgo1 : ∀ a, sr.items[i]? = some a → ∃ bs fb ρb μb, bindT tgt a = some bs ∧ exsG (ex n k0 c) body (updAll bs ρi) μi = some (fb, ρb, μb) ∧ (match fb with
      | .next => ((forGo (exsG (ex n k0 c) body) tgt sr.chk (sr.items.drop (i + 1)) ρb μb).bind fun a => (match a.1 with
        | .next => exsG (ex n k0 c) orelse a.2.1 a.2.2
        | .ret w => some (.ret w, a.2))) = some (fl, ρ', μ')
      | .ret w => fl = .ret w ∧ ρ' = ρb ∧ μ' = μb) := fun a ha => by
    rw [hdrop a ha] at hgo
    obtain ⟨⟨fa, ρa, μa⟩, e0, e⟩ := Option.bind_eq_some_iff.mp hgo
    unfold forGo at e0
    rw [if_pos hok] at e0
    replace e0 := Option.bind_eq_some_iff.mp e0
    obtain ⟨bs, e1, e0⟩ := e0
    replace e0 := Option.bind_eq_some_iff.mp e0
    obtain ⟨⟨fb, ρb, μb⟩, e2, e0⟩ := e0
    refine ⟨bs, fb, ρb, μb, e1, e2, ?_⟩
    cases fb with
    | next =>
      simp only at e0 ⊢
      rw [e0]
      exact e
    | ret w =>
      cases e0
      cases e
      exact ⟨rfl, rfl, rfl⟩
  refine WP.any (next_ok C.a.handled it ss.lists ss.book hok fun a ha => by obtain ⟨bs, _, _, _, e, _⟩ := hgo1 a ha; rw [e]; rfl) fun r s₁ h₁ => ?_
  have hfr : ∀ (gn : Gh), BkLe gi.bk gn.bk → gn.ad = gi.ad → ∀ (t : Shared), KeepsW (NW s.heap s'.heap) s'.heap t.heap → FrameR env c ρi gn t.heap := fun gn hbk had t k =>
    (F.but k (NW.noTup _ _) (fun hb => by obtain ⟨m, hm, _⟩ := F.ns; exact iter_noNs hb.2 hm) (fun y b h1 h2 hb => by
      obtain ⟨b', o, e1, e2, _⟩ := F.cells y h1
      rw [h2] at e1; cases e1
      exact iter_noCell hb.2 e2)).grow (fun _ _ e => e) hbk ⟨[], by rw [had]; simp⟩
  cases r with
  | none =>
    obtain ⟨hno, ns⟩ := h₁
    have hdr : sr.items.drop i = [] := by rw [List.drop_eq_nil_iff]; simpa using hno
    rw [hdr] at hgo
    have hgo' : exsG (ex n k0 c) orelse ρi μi = some (fl, ρ', μ') := by
      unfold forGo at hgo
      rw [if_pos hok] at hgo
      exact hgo
    have ss1 := ss.iter ns fun b hb => hb.1
    have F1 := hfr gi (fun _ _ e => e) rfl _ ns.keeps
    exact WP.any (block_ok H orelse hgo' (X.step ss1 F1)) fun f t ht => SV.trans ss1 ht
  | some val =>
    refine WP.any h₁ fun _ sa ha => ?_
    obtain ⟨a, ga, hx, ns, hv, ita⟩ := ha
    obtain ⟨bs, fb, ρb, μb, hb1, hb2, hb3⟩ := hgo1 a hx
    have ssa := ss.iter ns fun b hb => hb.1
    have Fa := hfr ga ns.bk ns.ad _ ns.keeps
    have Xa := X.step ssa Fa
    refine WP.any (bind_ok C.a.handled hb1 C.envok Fa hv htl) fun _ sb hsb => ?_
    obtain ⟨shb, tb, kb, Fb⟩ := hsb
    have ssb : SStep env c k0 sa μi ga sb μi ga := by
      have nt : NoTup (· = env.locals) sa.heap := fun b hb vals => by subst hb; exact Fa.own_noTup _ (.inl rfl) vals
      refine ⟨shb, tb, kb.mono fun b hb => .inl (.inl hb), fun b hb => ?_, Xa.k0, rfl, ⟨[], by simp, fun _ h => (nomatch h)⟩, fun _ _ e => e, Xa.ctx.lists.but kb nt (fun p hp e => ?_), Xa.ctx.book.up tb⟩
      · cases q : sa.heap.get? b with
        | none => rfl
        | some o =>
          exfalso
          by_cases hw : b = env.locals
          · subst hw
            obtain ⟨m, ⟨o, es, ep, ho, _⟩, _⟩ := Fb.ns
            rw [hb] at ho; first | exact no_some ho | cases ho
          · rw [kb b o hw q] at hb; first | exact no_some hb | cases hb
      · obtain ⟨its, e'⟩ := Xa.ctx.lists.plain hp
        exact Fa.own_noList (.inl e) e'
    have Xb := Xa.step ssb Fb
    have itb : ItSt s.heap tgt I sr (i + 1) ga sb.heap := ita.but kb (fun b hb h => by subst hb; exact Fa.own_noIter (.inl rfl) h) ⟨[], by simp⟩
    refine WP.any (block_ok H body hb2 Xb) fun f sc hsc => ?_
    obtain ⟨gc, ssc, Fc, hfl⟩ := hsc
    have sst := (ssa.trans ssb).trans ssc
    cases fb with
    | next =>
      cases hfl
      refine ⟨_, ?_, i + 1, ρb, μb, gc, sst, Fc, itb.but ssc.keeps Xb.noIter ssc.adp, hb3, rfl⟩
      have := (List.getElem?_eq_some_iff.mp hx).1
      (first | lia | omega)
    | ret wv =>
      obtain ⟨rfl, rfl, rfl⟩ := hb3
      obtain ⟨val, rfl, hv⟩ := hfl
      exact ⟨gc, sst, Fc, val, rfl, hv⟩

theorem st_while {test : Expr} {body orelse : List Stmt} {sp : Pos} {fuel : Nat} (H : StOk prog w mg mb hT n) (X : SCtx prog w mg mb hT c ρ env A k0 hb s μ g)
    (h2 : ((whGo (fun ρ μ => tr n c ρ test μ) (exsG (ex n k0 c) body) fuel ρ μ).bind fun a => (match a.1 with
        | .next => exsG (ex n k0 c) orelse a.2.1 a.2.2
        | .ret w => some (.ret w, a.2))) = some (fl, ρ', μ')) :
    WP prog w A (exec (.While test body orelse sp) env) (SV env c k0 s μ g fl ρ' μ') s := by
  refine wpAny_While (codeAny_whileLoop (fun m s' => ∃ ρi μi gi, SStep env c k0 s μ g s' μi gi ∧ FrameR env c ρi gi s'.heap ∧
      ((whGo (fun ρ μ => tr n c ρ test μ) (exsG (ex n k0 c) body) m ρi μi).bind fun a => (match a.1 with
        | .next => exsG (ex n k0 c) orelse a.2.1 a.2.2
        | .ret w => some (.ret w, a.2))) = some (fl, ρ', μ')) ?_ fuel ⟨ρ, μ, g, SStep.refl X.ctx.lists X.ctx.book X.k0, X.ctx.frame, h2⟩)
  rintro m s' ⟨ρi, μi, gi, ss, F, hgo⟩
  have Xi := X.step ss F
  cases m with
  | zero => first | exact no_some hgo | cases hgo
  | succ m =>
    obtain ⟨⟨fa, ρa, μa⟩, e0, e⟩ := Option.bind_eq_some_iff.mp hgo
    replace e0 := Option.bind_eq_some_iff.mp (show (Option.bind (tr n c ρi test μi) _) = _ from e0)
    obtain ⟨⟨t, μt⟩, e1, e0⟩ := e0
    refine WP.any ((snd n).tr _ _ _ _ _ _ e1 _ _ _ _ Xi.ctx) fun b s1 hb => ?_
    obtain ⟨rfl, g1, st1⟩ := hb
    have ss1 := ss.trans (SStep.of_step st1 Xi.k0)
    have F1 := F.step st1
    have X1 := X.step ss1 F1
    cases b with
    | false =>
      simp only [Bool.false_eq_true, if_false] at e0 ⊢
      cases e0
      exact WP.any (block_ok H orelse e X1) fun f t ht => SV.trans ss1 ht
    | true =>
      simp only [if_true] at e0 ⊢
      replace e0 := Option.bind_eq_some_iff.mp e0
      obtain ⟨⟨fb, ρb, μb⟩, e2, e0⟩ := e0
      refine WP.any (block_ok H body e2 X1) fun f s2 hs2 => ?_
      obtain ⟨g2, ss2, F2, hfl⟩ := hs2
      cases fb with
      | next =>
        cases hfl
        refine ⟨m, Nat.lt_succ_self _, ρb, μb, g2, ss1.trans ss2, F2, ?_⟩
        simp only at e0
        rw [e0]; exact e
      | ret wv =>
        obtain ⟨val, rfl, hv⟩ := hfl
        cases e0
        cases e
        exact ⟨g2, ss1.trans ss2, F2, val, rfl, hv⟩
end
end Mine
namespace Mine
open PySem PySem.Calls PyProof.Rows PySem.Builtin PySem.Builtin.Str
section
variable {prog : Program} {w : World} {mg mb : Str → Option Value} {hT : Heap}

theorem asName_some {e : Expr} {x : Str} {p : Pos} (h : asName e = some (x, p)) : ∃ q, e = .Name x p ∧ q = p := by
  cases e with
  | Name y q => cases h; exact ⟨_, rfl, rfl⟩
  | _ => first | exact no_some h | cases h
theorem asPair_some {e a b : Expr} (h : asPair e = some (a, b)) : ∃ k p, e = .Tuple [a, b] k p := by
  cases e with
  | Tuple es k p => match es, h with
    | [u, v], h => cases h; exact ⟨_, _, rfl⟩
    | [], h => first | exact no_some h | cases h
    | [_], h => first | exact no_some h | cases h
    | _ :: _ :: _ :: _, h => first | exact no_some h | cases h
  | _ => first | exact no_some h | cases h
theorem asAppend_some {v o e : Expr} {ap p : Pos} (h : asAppend v = some ((o, ap), e, p)) : v = .Call (.Attribute o "append" ap) [e] [] p := by
  cases v with
  | Call f args kws q => match args, kws, h with
    | [y], [], h => cases f with
      | Attribute u m r =>
        have h : (if m = ("append" : Str) then some ((u, r), y, q) else none) = some ((o, ap), e, p) := h
        by_cases hm : m = ("append" : Str)
        · rw [if_pos hm] at h
          cases h; rw [hm]
        · rw [if_neg hm] at h; first | exact no_some h | cases h
      | _ => first | exact no_some h | cases h
    | [], [], h => first | exact no_some h | cases h
    | _ :: _ :: _, [], h => first | exact no_some h | cases h
    | _, _ :: _, h => first | exact no_some h | cases h
  | _ => first | exact no_some h | cases h
theorem asSub_some {ts : List Expr} {o i : Expr} (h : asSub ts = some (o, i)) : ∃ p, ts = [.Subscript o i p] := by
  match ts, h with
  | [t], h => cases t with
    | Subscript u j p => cases h; exact ⟨_, rfl⟩
    | _ => first | exact no_some h | cases h
  | [], h => first | exact no_some h | cases h
  | _ :: _ :: _, h => first | exact no_some h | cases h

section
variable {n : Nat} {A : Around} {s : Shared} {μ μ' : Mem} {g : Gh} {env : Env} {c : Cfg} {ρ ρ' : Loc} {fl : Fl} {k0 : Nat} {hb : Heap} {p : Pos}
theorem su_assign (X : SCtx prog w mg mb hT c ρ env A k0 hb s μ g) {ts : List Expr} {e : Expr} (h : ex (n + 1) k0 c (.Assign ts e p) ρ μ = some (fl, ρ', μ')) : WP prog w A (exec (.Assign ts e p) env) (SV env c k0 s μ g fl ρ' μ') s := by
  match ts, h with
  | [], h => first | exact no_some h | cases h
  | _ :: _ :: _, h => first | exact no_some h | cases h
  | [t], h =>
    have h : (match asName t with
        | some (x, px) => if c.isLoc x && useGood c x px p e then (ev n c ρ e μ).bind fun a => some (Fl.next, upd x a.1 ρ, a.2) else none
        | none => (asPair t).bind fun t2 => (asName t2.1).bind fun x => (asName t2.2).bind fun y => (asPair e).bind fun ef => if swapGood c x.1 y.1 x.2 y.2 ef.1 ef.2 then
          (evs (ev n c ρ) [ef.1, ef.2] μ).bind fun a => (match a.1 with
            | [u, v] => some (Fl.next, upd x.1 u (upd y.1 v ρ), a.2)
            | _ => none) else none) = some (fl, ρ', μ') := h
    cases hn : asName t with
    | some q =>
      rw [hn] at h
      obtain ⟨_, rfl, _⟩ := asName_some hn
      by_cases hg : (c.isLoc q.1 && useGood c q.1 q.2 p e) = true
      · replace h := Option.bind_eq_some_iff.mp ((if_pos hg).symm.trans h)
        obtain ⟨⟨a, μ₁⟩, h1, h⟩ := h
        cases h
        have hg := Bool.and_eq_true_iff.mp hg
        exact st_assign X h1 hg.1 hg.2
      · exact nomatch (if_neg hg).symm.trans h
    | none =>
      rw [hn] at h
      replace h := Option.bind_eq_some_iff.mp h
      obtain ⟨⟨t1, t2⟩, e1, h⟩ := h
      replace h := Option.bind_eq_some_iff.mp h
      obtain ⟨⟨x, px⟩, e2, h⟩ := h
      replace h := Option.bind_eq_some_iff.mp h
      obtain ⟨⟨y, py⟩, e3, h⟩ := h
      replace h := Option.bind_eq_some_iff.mp h
      obtain ⟨⟨e, f⟩, e4, h⟩ := h
      obtain ⟨k1, q1, rfl⟩ := asPair_some e1
      obtain ⟨_, rfl, _⟩ := asName_some e2
      obtain ⟨_, rfl, _⟩ := asName_some e3
      obtain ⟨k2, q2, rfl⟩ := asPair_some e4
      by_cases hg : swapGood c x y px py e f = true
      · replace h := Option.bind_eq_some_iff.mp ((if_pos hg).symm.trans h)
        obtain ⟨⟨vs, μ₁⟩, h1, h⟩ := h
        match vs, h1, h with
        | [u, v], h1, h => cases h; exact st_swap X h1 hg
        | [], _, h => first | exact no_some h | cases h
        | [_], _, h => first | exact no_some h | cases h
        | _ :: _ :: _ :: _, _, h => first | exact no_some h | cases h
      · exact nomatch (if_neg hg).symm.trans h
theorem su_aug (X : SCtx prog w mg mb hT c ρ env A k0 hb s μ g) {t e : Expr} {op : Operator} (h : ex (n + 1) k0 c (.AugAssign t op e p) ρ μ = some (fl, ρ', μ')) : WP prog w A (exec (.AugAssign t op e p) env) (SV env c k0 s μ g fl ρ' μ') s := by
  replace h := Option.bind_eq_some_iff.mp (show (asName t).bind _ = some (fl, ρ', μ') from h)
  obtain ⟨⟨x, px⟩, e1, h⟩ := h
  obtain ⟨_, rfl, _⟩ := asName_some e1
  by_cases hx : c.isLoc x = true
  · have h := (if_pos hx).symm.trans h
    dsimp only at h
    cases hl : ρ.lookup x with
    | none => rw [hl] at h; first | exact no_some h | cases h
    | some z =>
      rw [hl] at h
      cases z with
      | a0 z => cases z with
        | int i o =>
          replace h := Option.bind_eq_some_iff.mp h
          obtain ⟨⟨a, μ₁⟩, h1, h⟩ := h
          replace h := Option.bind_eq_some_iff.mp h
          obtain ⟨j, h2, h⟩ := h
          obtain ⟨o', rfl⟩ := asInt_some h2
          cases op with
          | Add => cases h; exact st_aug X hx hl h1 (.inl ⟨rfl, rfl⟩)
          | Sub => cases h; exact st_aug X hx hl h1 (.inr ⟨rfl, rfl⟩)
          | _ => first | exact no_some h | cases h
        | _ => first | exact no_some h | cases h
      | _ => first | exact no_some h | cases h
  · exact nomatch (if_neg hx).symm.trans h
theorem su_append (X : SCtx prog w mg mb hT c ρ env A k0 hb s μ g) {v : Expr} (h : ex (n + 1) k0 c (.Expr v p) ρ μ = some (fl, ρ', μ')) : WP prog w A (exec (.Expr v p) env) (SV env c k0 s μ g fl ρ' μ') s := by
  replace h := Option.bind_eq_some_iff.mp (show (asAppend v).bind _ = some (fl, ρ', μ') from h)
  obtain ⟨⟨⟨o, ap⟩, e, cp⟩, e1, h⟩ := h
  have e2 := asAppend_some e1
  subst e2
  by_cases hg : (ap.endLine == cp.line) = true ∧ plainBase o = true
  · replace h := Option.bind_eq_some_iff.mp ((if_pos hg).symm.trans h)
    obtain ⟨⟨a, μ₁⟩, h1, h⟩ := h
    replace h := Option.bind_eq_some_iff.mp h
    obtain ⟨⟨b, μ₂⟩, h2, h⟩ := h
    cases a with
    | lst i =>
      by_cases hi : notLst b = true ∧ k0 ≤ i
      · replace h := Option.bind_eq_some_iff.mp ((if_pos hi).symm.trans h)
        obtain ⟨l, h3, h⟩ := h
        by_cases hl : l.length < lim
        · have h := (if_pos hl).symm.trans h
          cases h
          exact st_append X hg.1 hg.2 h1 h2 (fun k e => by have e : b = .lst k := e; rw [e] at hi; exact absurd hi.1 Bool.false_ne_true) hi.2 h3 hl
        · exact nomatch (if_neg hl).symm.trans h
      · exact nomatch (if_neg hi).symm.trans h
    | _ => first | exact no_some h | cases h
  · exact nomatch (if_neg hg).symm.trans h
theorem su_del (X : SCtx prog w mg mb hT c ρ env A k0 hb s μ g) {ts : List Expr} (h : ex (n + 1) k0 c (.Delete ts p) ρ μ = some (fl, ρ', μ')) : WP prog w A (exec (.Delete ts p) env) (SV env c k0 s μ g fl ρ' μ') s := by
  replace h := Option.bind_eq_some_iff.mp (show (asSub ts).bind _ = some (fl, ρ', μ') from h)
  obtain ⟨⟨o, i⟩, e1, h⟩ := h
  obtain ⟨dp, rfl⟩ := asSub_some e1
  replace h := Option.bind_eq_some_iff.mp h
  obtain ⟨⟨a, μ₁⟩, h1, h⟩ := h
  replace h := Option.bind_eq_some_iff.mp h
  obtain ⟨⟨b, μ₂⟩, h2, h⟩ := h
  replace h := Option.bind_eq_some_iff.mp h
  obtain ⟨k, e2, h⟩ := h
  obtain ⟨ow, rfl⟩ := asInt_some e2
  cases a with
  | lst m =>
    by_cases hi : k0 ≤ m
    · replace h := Option.bind_eq_some_iff.mp ((if_pos hi).symm.trans h)
      obtain ⟨l, h3, h⟩ := h
      replace h := Option.bind_eq_some_iff.mp h
      obtain ⟨j, h4, h⟩ := h
      by_cases hk : k.natAbs < big
      · have h := (if_pos hk).symm.trans h
        cases h
        exact st_del X h1 h2 hi h3 h4 hk
      · exact nomatch (if_neg hk).symm.trans h
    · exact nomatch (if_neg hi).symm.trans h
  | _ => first | exact no_some h | cases h
theorem su_if (H : StOk prog w mg mb hT n) (X : SCtx prog w mg mb hT c ρ env A k0 hb s μ g) {t : Expr} {b o : List Stmt} (h : ex (n + 1) k0 c (.If t b o p) ρ μ = some (fl, ρ', μ')) : WP prog w A (exec (.If t b o p) env) (SV env c k0 s μ g fl ρ' μ') s := by
  replace h := Option.bind_eq_some_iff.mp (show (tr n c ρ t μ).bind _ = some (fl, ρ', μ') from h)
  obtain ⟨⟨b, μ₁⟩, h1, h⟩ := h
  refine wpAny_If (WP.mono ((snd n).tr _ _ _ _ _ _ h1 _ _ _ _ X.ctx) fun b s1 hb => ?_)
  obtain ⟨rfl, g1, st⟩ := hb
  cases b with
  | true => exact WP.mono (block_ok H _ h (X.quiet st)) fun f t => SV.trans (SStep.of_step st X.k0)
  | false => exact WP.mono (block_ok H _ h (X.quiet st)) fun f t => SV.trans (SStep.of_step st X.k0)
end
theorem st_succ {n : Nat} (H : StOk prog w mg mb hT n) : StOk prog w mg mb hT (n + 1) := by
  intro k0 c st ρ μ fl ρ' μ' h hb env A s g X
  cases st with
  | Assign ts e sp => exact su_assign X h
  | AugAssign t op e _ => exact su_aug X h
  | Expr v _ => exact su_append X h
  | If t b o _ => exact su_if H X h
  | Delete ts _ => exact su_del X h
  | Return e _ =>
    cases e with
    | some e =>
      replace h := Option.bind_eq_some_iff.mp (show (ev n c ρ e μ).bind _ = some (fl, ρ', μ') from h)
      obtain ⟨⟨a, μ₁⟩, h1, h⟩ := h
      cases h
      refine wpAny_Return_some (WP.mono ((snd n).ev _ _ _ _ _ _ h1 _ _ _ _ X.ctx) fun v s1 hv => ?_)
      obtain ⟨g1, st, r⟩ := hv
      exact ⟨g1, SStep.of_step st X.k0, X.ctx.frame.step st, v, rfl, r⟩
    | none => first | exact no_some h | cases h
  | Assert t _ _ =>
    replace h := Option.bind_eq_some_iff.mp (show (tr n c ρ t μ).bind _ = some (fl, ρ', μ') from h)
    obtain ⟨⟨b, μ₁⟩, h1, h⟩ := h
    cases b with
    | false => first | exact no_some h | cases h
    | true =>
      cases h
      refine wpAny_Assert_holds (WP.mono ((snd n).tr _ _ _ _ _ _ h1 _ _ _ _ X.ctx) fun b' s1 hb' => ?_)
      obtain ⟨rfl, g1, st⟩ := hb'
      exact ⟨rfl, g1, SStep.of_step st X.k0, X.ctx.frame.step st, rfl⟩
  | For tgt iter body orelse _ =>
    have h : (if locT c tgt && ((isEnum iter).isNone || isTupT tgt) then (src n c ρ iter μ).bind fun s => (forGo (exsG (ex n k0 c) body) tgt s.1.chk s.1.items ρ s.2).bind fun a => (match a.1 with
        | .next => exsG (ex n k0 c) orelse a.2.1 a.2.2
        | .ret w => some (.ret w, a.2)) else none) = some (fl, ρ', μ') := h
    by_cases hg : (locT c tgt && ((isEnum iter).isNone || isTupT tgt)) = true
    · replace h := Option.bind_eq_some_iff.mp ((if_pos hg).symm.trans h)
      obtain ⟨⟨sr, μ₁⟩, h1, h⟩ := h
      simp only [Bool.and_eq_true, Bool.or_eq_true] at hg
      exact st_for H X hg.1 (fun q => hg.2.resolve_left (fun e => by rw [Option.isNone_iff_eq_none] at e; rw [e] at q; cases q)) h1 h
    · exact nomatch (if_neg hg).symm.trans h
  | While t body orelse _ => exact st_while H X h
  | _ => first | exact no_some h | cases h

theorem stOk : ∀ n, StOk prog w mg mb hT n
  | 0 => fun _ _ _ _ _ _ _ _ h => by cases h
  | n + 1 => st_succ (stOk n)
end
end Mine
namespace Mine
open PySem PySem.Calls PyProof.Rows PySem.Builtin PySem.Builtin.Str

/-- a function of the heap is the def d -/
structure FnIs (hT : Heap) (d : Def) (o : Obj) (fd : FuncData) : Prop where
  data : o.data = .func fd
  code : hT.CodeRec fd.code fd.qualname
  body : fd.body = .stmts d.body
  clo : fd.closure = []
  names : fd.scope.names = d.names
  kind : fd.scope.kind = .function
  co : fd.scope.isCoroutine = false
  gen : fd.scope.isGenerator = false
  globals : fd.globals = mainGlobals
  builtins : fd.builtins = builtinsNs
  bind : ∀ vals : List Value, vals.length = d.params.length → bindArgs fd ⟨vals, []⟩ = pure (d.params.zip vals)
/-- a def that the interpreter can call -/
noncomputable def Def.good (d : Def) : Bool := decide d.params.Nodup && (d.params.all fun x => d.names.lookup x == some .local || d.names.lookup x == some .cell) && (d.names.lookup ("__debug__" : Str)).isNone

theorem bindL_eq (k : Str → Option NameKind) : ∀ (bs : List (Str × Value)) (m : Str → Option Value) (x : Str), (bs.map (·.1)).Nodup → k x = some .local → bindL k bs m x = match bs.lookup x with | some v => some v | none => m x
  | [], m, x, _, _ => rfl
  | (n, v) :: r, m, x, h, hk => by
    obtain ⟨h1, h2⟩ := List.nodup_cons.mp h
    unfold bindL
    rw [bindL_eq k r _ x h2 hk]
    by_cases hx : x = n
    · subst hx
      rw [if_pos hk]
      have : r.lookup x = none := by
        rw [List.lookup_eq_none_iff]
        intro p hp
        rw [bne_iff_ne]
        intro e
        exact h1 (by show x ∈ _; rw [e]; exact List.mem_map_of_mem hp)
      rw [this]
      simp
    · simp only [List.lookup_cons, beq_eq_false_iff_ne.mpr hx]
      cases r.lookup x with
      | some v => rfl
      | none =>
        show (if k n = some NameKind.local then fun y => if y = n then some v else m y else m) x = m x
        split
        · simp [hx]
        · rfl
theorem bindC_eq (k : Str → Option NameKind) : ∀ (bs : List (Str × Value)) (m : Str → Option Value) (x : Str), (bs.map (·.1)).Nodup → k x ≠ some .local → bindC k bs m x = match bs.lookup x with | some v => some v | none => m x
  | [], m, x, _, _ => rfl
  | (n, v) :: r, m, x, h, hk => by
    obtain ⟨h1, h2⟩ := List.nodup_cons.mp h
    unfold bindC
    rw [bindC_eq k r _ x h2 hk]
    by_cases hx : x = n
    · subst hx
      rw [if_neg hk]
      have : r.lookup x = none := by
        rw [List.lookup_eq_none_iff]
        intro p hp
        rw [bne_iff_ne]
        intro e
        exact h1 (by show x ∈ _; rw [e]; exact List.mem_map_of_mem hp)
      rw [this]
      simp
    · simp only [List.lookup_cons, beq_eq_false_iff_ne.mpr hx]
      cases r.lookup x with
      | some v => rfl
      | none =>
        show (if k n = some NameKind.local then m else fun y => if y = n then some v else m y) x = m x
        split
        · rfl
        · simp [hx]
theorem zip_lookup {R : V → Value → Prop} : ∀ {ps : List Str} {as : List V} {vs : List Value} {x : Str} {v : V}, L2 R as vs → (ps.zip as).lookup x = some v → ∃ val, (ps.zip vs).lookup x = some val ∧ R v val
  | [], _, _, _, _, _, h => by simp at h
  | _ :: _, [], _, _, _, _, h => by simp at h
  | p :: ps, a :: as, u :: vs, x, v, H, h => by
    by_cases hx : x = p
    · subst hx
      simp at h; subst h
      exact ⟨u, by simp, H.1⟩
    · simp only [List.zip_cons_cons, List.lookup_cons, beq_eq_false_iff_ne.mpr hx] at h ⊢
      exact zip_lookup H.2 h
  | _ :: _, _ :: _, [], _, _, H, _ => H.elim
theorem cells_some : ∀ (names : List (Str × NameKind)) (n : Nat) (acc : List (Str × Addr)) (x : Str), ((x, NameKind.cell) ∈ names ∨ (acc.lookup x).isSome = true) → ((cellsFrom n names acc).lookup x).isSome = true
  | [], _, acc, x, h => h.resolve_left (by simp)
  | (m, k) :: r, n, acc, x, h => by
    unfold cellsFrom
    split
    · rename_i hk
      refine cells_some r _ _ x ?_
      by_cases hx : x = m
      · subst hx; exact .inr (by simp)
      · rcases h with h | h
        · rcases List.mem_cons.mp h with q | q
          · cases q; exact absurd rfl hx
          · exact .inl q
        · right; simp only [List.lookup_cons, beq_eq_false_iff_ne.mpr hx]; exact h
    · rename_i hk
      refine cells_some r _ _ x ?_
      rcases h with h | h
      · rcases List.mem_cons.mp h with q | q
        · cases q; exact absurd rfl hk
        · exact .inl q
      · exact .inr h

section
variable {prog : Program} {w : World} {mg mb : Str → Option Value} {hT : Heap} {A : Around} {s : Shared} {μ μ' : Mem} {g : Gh}

theorem def_ok {n : Nat} {c : Cfg} {d : Def} {a : Addr} {o : Obj} {fd : FuncData} {args : List V} {vals : List Value} {v : V} (fi : FnIs hT d o fd) (ho : hT.get? a = some o) (hd : d.good = true) (h : runDef n c d args μ = some (v, μ')) (hA : AOk 5 A)
    (hc : ∀ env : Env, CallOk prog w mg mb hT { c with names := d.names } (A.deeper env)) (G : GOk mg mb hT c s.heap) (L : Lists μ g s.heap) (B : Book g.bk s.toks) (H : L2 (VR g s.heap) args vals) :
    WP prog w A (call (.ref a) vals) (RV s μ g v μ') s := by
  unfold runDef at h
  split at h
  · rename_i hlen
    replace h := Option.bind_eq_some_iff.mp h
    obtain ⟨⟨fl, ρ', μe⟩, h1, h⟩ := h
    have hvl : vals.length = d.params.length := by rw [← H.length]; exact hlen.symm
    unfold Def.good at hd
    simp only [Bool.and_eq_true, decide_eq_true_eq, List.all_eq_true, Bool.or_eq_true, beq_iff_eq] at hd
    obtain ⟨⟨hd1, hd2⟩, hd3⟩ := hd
    have hkeys : (d.params.zip vals).map (·.1) = d.params := by
      rw [List.map_fst_zip]; (first | lia | omega)
    refine wpAny_call (codeAny_call_function (Nat.lt_of_le_of_lt (Nat.le_add_right _ _) hA.depth) (G.top _ _ ho) fi.data fi.co fi.gen fi.body (fi.code.keeps G.top) ?_)
    rw [fi.bind vals hvl, fi.clo]
    refine wpAny_pure (wpAny_with_toks (Nat.le_refl s.toks) (wpAny_newFunctionEnv_cells fi.kind (fun x hx => ?_) fun env he s₁ x => ?_))
    · have hm : x.1 ∈ d.params := by rw [← hkeys]; exact List.mem_map_of_mem hx
      rw [fi.names]
      rcases hd2 _ hm with q | q
      · exact .inl q
      · exact .inr ⟨q, cells_some _ _ _ _ (.inl (lookup_mem q))⟩
    intro ht
    refine ⟨G.nolimit.keeps x.toInCall.keep, codeAny_func ?_⟩
    have hkO : ∀ y, env.kindOf y = d.names.lookup y := fun y => by subst he; show fd.scope.names.lookup y = _; rw [fi.names]
    have hL : env.locals = s.heap.objs.size := by subst he; rfl
    have hcs : env.cells = cellsFrom (s.heap.objs.size + 1) d.names [] := by subst he; show cellsFrom _ fd.scope.names [] = _; rw [fi.names]
    obtain ⟨h₁, t₁, rfl⟩ := x.toInCall.same
    have kp : KeepsH s.heap h₁ := x.toInCall.keep
    have hG : GOk mg mb hT { c with names := d.names } s.heap := G.re _
    have st1 : Step s μ g { s with heap := h₁, toks := t₁ } μ g := Step.of_keeps L B ⟨h₁, t₁, rfl, kp⟩ ht
    have freshC : ∀ y b, env.cells.lookup y = some b → s.heap.get? b = none := fun y b hb => by
      have := x.above y b (mem_of_lookup hb)
      rw [hL] at this
      cases q : s.heap.get? b with
      | none => rfl
      | some o => exact absurd (Heap.lt_size q) (Nat.not_lt.mpr (Nat.le_of_lt this))
    have freshL : s.heap.get? env.locals = none := by rw [hL]; exact fresh_new (h := s.heap) fun _ _ e => e
    have F : FrameR env { c with names := d.names } (d.params.zip args) g h₁ := by
      refine ⟨⟨_, x.toInCall.ns, fun y u hy hk => ?_⟩, fun y hk => ?_⟩
      · obtain ⟨val, e1, e2⟩ := zip_lookup (R := VR g s.heap) H hy
        refine ⟨val, ?_, st1.grow e2⟩
        rw [bindL_eq _ _ _ _ (by rw [hkeys]; exact hd1) (by rw [hkO]; exact hk), e1]
      · have hs := cells_some d.names (s.heap.objs.size + 1) [] y (.inl (lookup_mem hk))
        rw [← hcs] at hs
        obtain ⟨b, hb⟩ := Option.isSome_iff_exists.mp hs
        refine ⟨b, _, hb, x.cell y b hb, fun u hu => ?_⟩
        obtain ⟨val, e1, e2⟩ := zip_lookup (R := VR g s.heap) H hu
        refine ⟨val, ?_, st1.grow e2⟩
        rw [bindC_eq _ _ _ _ (by rw [hkeys]; exact hd1) (by rw [hkO]; rw [show d.names.lookup y = some .cell from hk]; intro q; cases q), e1]
    have hA' : AOk 4 (A.deeper env) := ⟨hA.handled, by have := hA.depth; show A.depth + 1 + 4 < _; (first | lia | omega), by have := hA.units; show A.units + 3 + 8 * 4 + 64 < _; (first | lia | omega)⟩
    have X : SCtx prog w mg mb hT { c with names := d.names } (d.params.zip args) env (A.deeper env) μ.length s.heap { s with heap := h₁, toks := t₁ } μ g := by
      refine ⟨⟨hA', ⟨?_, ?_, ?_, ?_, ?_⟩, hG.keeps kp, hc env, F, st1.lists, st1.book⟩, kp, fun b hb => ?_, Nat.le_refl _, hG, fun y z b h1 h2 => name_of_addr x.apart (mem_of_lookup h1) (mem_of_lookup h2)⟩
      · subst he; exact fi.kind
      · subst he; exact fi.names
      · subst he; exact fi.globals
      · subst he; exact fi.builtins
      · simpa using hd3
      · rcases hb with (rfl | ⟨y, _, hy⟩) | hb
        · exact freshL
        · exact freshC y b hy
        · rw [List.drop_eq_nil_of_le (by rw [L.len]; exact Nat.le_refl _)] at hb; first | exact no_some hb | cases hb
    refine WP.any (block_ok (stOk n) d.body h1 X) fun f s' hs' => ?_
    obtain ⟨g', ss, F', hf⟩ := hs'
    have stf : Step s μ g s' μe g' := by
      obtain ⟨h2, t2, rfl⟩ := ss.shape
      obtain ⟨ps, e, fr⟩ := ss.ad
      refine ⟨⟨h2, t2, rfl, fun b o e => ss.keeps b o (fun hw => by rw [X.fresh b hw] at e; cases e) (kp b o e)⟩, Nat.le_trans ht ss.toks, ⟨μe.drop μ.length, ?_⟩, ⟨ps, e, ?_, fun p hp => ?_⟩, ss.bk, ss.lists, ss.book⟩
      · have := ss.mem
        rw [List.take_length] at this
        conv => lhs; rw [← List.take_append_drop μ.length μe, this]
      · have := ss.lists.nd
        rw [e, List.nodup_append] at this
        exact this.2.1
      · have := fr p hp
        cases q : s.heap.get? p with
        | none => rfl
        | some o => rw [kp p o q] at this; cases this
    dsimp only at h
    cases fl with
    | next =>
      cases hf
      cases h
      exact ⟨g', stf, rfl⟩
    | ret w =>
      obtain ⟨val, rfl, hv⟩ := hf
      cases h
      exact ⟨g', stf, hv⟩
  · first | exact no_some h | cases h
end
end Mine
namespace Mine
open PySem PySem.W PySem.Calls PyProof.Rows
noncomputable abbrev hT (w : World) : Heap := absHeap (T25 w.params) 205 {}
noncomputable def fdOf (o : Obj) : FuncData := match o.data with
  | .func f => f
  | _ => default
theorem top_at {w : World} {a : Addr} {o : Obj} (h : (T25 w.params).get a = some o) (ha : Nat.blt a 205 = true) (hl : alive o = some o) : (hT w).get? a = some o := (abs_get (Nat.le_of_ble_eq_true ha) h).trans hl
theorem zip1 {fd : FuncData} {ps : List Str} (h1 : ps.length = 1) (h : ∀ a : Value, bindArgs fd ⟨[a], []⟩ = pure (ps.zip [a])) : ∀ vals : List Value, vals.length = ps.length → bindArgs fd ⟨vals, []⟩ = pure (ps.zip vals)
  | [], e => by rw [h1] at e; cases e
  | [a], _ => h a
  | _ :: _ :: _, e => by rw [h1] at e; cases e
theorem zip2 {fd : FuncData} {ps : List Str} (h1 : ps.length = 2) (h : ∀ a b : Value, bindArgs fd ⟨[a, b], []⟩ = pure (ps.zip [a, b])) : ∀ vals : List Value, vals.length = ps.length → bindArgs fd ⟨vals, []⟩ = pure (ps.zip vals)
  | [], e => by rw [h1] at e; cases e
  | [_], e => by rw [h1] at e; cases e
  | [a, b], _ => h a b
  | _ :: _ :: _ :: _, e => by rw [h1] at e; cases e
theorem at_21 (w : World) : (hT w).get? 21 = some (h4_21 w.params) := top_at (by kernel_rfl) (by kernel_rfl) (by kernel_rfl)
theorem fn_2 (w : World) : FnIs (hT w) (defAt 2) (h4_21 w.params) (fdOf (h4_21 w.params)) :=
  ⟨by kernel_rfl, ⟨20, h4_20 w.params, _, _, by kernel_rfl, top_at (by kernel_rfl) (by kernel_rfl) (by kernel_rfl), rfl, rfl⟩, by kernel_rfl, by kernel_rfl, by kernel_rfl, by kernel_rfl, by kernel_rfl, by kernel_rfl, by kernel_rfl, by kernel_rfl, zip2 (by kernel_rfl) fun a b => by kernel_rfl⟩
theorem at_65 (w : World) : (hT w).get? 65 = some (h8_65 w.params) := top_at (by kernel_rfl) (by kernel_rfl) (by kernel_rfl)
theorem fn_7 (w : World) : FnIs (hT w) (defAt 7) (h8_65 w.params) (fdOf (h8_65 w.params)) :=
  ⟨by kernel_rfl, ⟨64, h8_64 w.params, _, _, by kernel_rfl, top_at (by kernel_rfl) (by kernel_rfl) (by kernel_rfl), rfl, rfl⟩, by kernel_rfl, by kernel_rfl, by kernel_rfl, by kernel_rfl, by kernel_rfl, by kernel_rfl, by kernel_rfl, by kernel_rfl, zip2 (by kernel_rfl) fun a b => by kernel_rfl⟩
theorem at_72 (w : World) : (hT w).get? 72 = some (h13_72 w.params) := top_at (by kernel_rfl) (by kernel_rfl) (by kernel_rfl)
theorem fn_9 (w : World) : FnIs (hT w) (defAt 9) (h13_72 w.params) (fdOf (h13_72 w.params)) :=
  ⟨by kernel_rfl, ⟨71, h13_71 w.params, _, _, by kernel_rfl, top_at (by kernel_rfl) (by kernel_rfl) (by kernel_rfl), rfl, rfl⟩, by kernel_rfl, by kernel_rfl, by kernel_rfl, by kernel_rfl, by kernel_rfl, by kernel_rfl, by kernel_rfl, by kernel_rfl, zip2 (by kernel_rfl) fun a b => by kernel_rfl⟩
theorem at_79 (w : World) : (hT w).get? 79 = some (h13_79 w.params) := top_at (by kernel_rfl) (by kernel_rfl) (by kernel_rfl)
theorem fn_10 (w : World) : FnIs (hT w) (defAt 10) (h13_79 w.params) (fdOf (h13_79 w.params)) :=
  ⟨by kernel_rfl, ⟨78, h13_78 w.params, _, _, by kernel_rfl, top_at (by kernel_rfl) (by kernel_rfl) (by kernel_rfl), rfl, rfl⟩, by kernel_rfl, by kernel_rfl, by kernel_rfl, by kernel_rfl, by kernel_rfl, by kernel_rfl, by kernel_rfl, by kernel_rfl, zip2 (by kernel_rfl) fun a b => by kernel_rfl⟩
theorem at_86 (w : World) : (hT w).get? 86 = some (h13_86 w.params) := top_at (by kernel_rfl) (by kernel_rfl) (by kernel_rfl)
theorem fn_11 (w : World) : FnIs (hT w) (defAt 11) (h13_86 w.params) (fdOf (h13_86 w.params)) :=
  ⟨by kernel_rfl, ⟨85, h13_85 w.params, _, _, by kernel_rfl, top_at (by kernel_rfl) (by kernel_rfl) (by kernel_rfl), rfl, rfl⟩, by kernel_rfl, by kernel_rfl, by kernel_rfl, by kernel_rfl, by kernel_rfl, by kernel_rfl, by kernel_rfl, by kernel_rfl, zip2 (by kernel_rfl) fun a b => by kernel_rfl⟩
theorem at_93 (w : World) : (hT w).get? 93 = some (h13_93 w.params) := top_at (by kernel_rfl) (by kernel_rfl) (by kernel_rfl)
theorem fn_12 (w : World) : FnIs (hT w) (defAt 12) (h13_93 w.params) (fdOf (h13_93 w.params)) :=
  ⟨by kernel_rfl, ⟨92, h13_92 w.params, _, _, by kernel_rfl, top_at (by kernel_rfl) (by kernel_rfl) (by kernel_rfl), rfl, rfl⟩, by kernel_rfl, by kernel_rfl, by kernel_rfl, by kernel_rfl, by kernel_rfl, by kernel_rfl, by kernel_rfl, by kernel_rfl, zip2 (by kernel_rfl) fun a b => by kernel_rfl⟩
theorem at_100 (w : World) : (hT w).get? 100 = some (h13_100 w.params) := top_at (by kernel_rfl) (by kernel_rfl) (by kernel_rfl)
theorem fn_13 (w : World) : FnIs (hT w) (defAt 13) (h13_100 w.params) (fdOf (h13_100 w.params)) :=
  ⟨by kernel_rfl, ⟨99, h13_99 w.params, _, _, by kernel_rfl, top_at (by kernel_rfl) (by kernel_rfl) (by kernel_rfl), rfl, rfl⟩, by kernel_rfl, by kernel_rfl, by kernel_rfl, by kernel_rfl, by kernel_rfl, by kernel_rfl, by kernel_rfl, by kernel_rfl, zip2 (by kernel_rfl) fun a b => by kernel_rfl⟩
theorem at_107 (w : World) : (hT w).get? 107 = some (h17_107 w.params) := top_at (by kernel_rfl) (by kernel_rfl) (by kernel_rfl)
theorem fn_14 (w : World) : FnIs (hT w) (defAt 14) (h17_107 w.params) (fdOf (h17_107 w.params)) :=
  ⟨by kernel_rfl, ⟨106, h17_106 w.params, _, _, by kernel_rfl, top_at (by kernel_rfl) (by kernel_rfl) (by kernel_rfl), rfl, rfl⟩, by kernel_rfl, by kernel_rfl, by kernel_rfl, by kernel_rfl, by kernel_rfl, by kernel_rfl, by kernel_rfl, by kernel_rfl, zip2 (by kernel_rfl) fun a b => by kernel_rfl⟩
theorem at_114 (w : World) : (hT w).get? 114 = some (h17_114 w.params) := top_at (by kernel_rfl) (by kernel_rfl) (by kernel_rfl)
theorem fn_15 (w : World) : FnIs (hT w) (defAt 15) (h17_114 w.params) (fdOf (h17_114 w.params)) :=
  ⟨by kernel_rfl, ⟨113, h17_113 w.params, _, _, by kernel_rfl, top_at (by kernel_rfl) (by kernel_rfl) (by kernel_rfl), rfl, rfl⟩, by kernel_rfl, by kernel_rfl, by kernel_rfl, by kernel_rfl, by kernel_rfl, by kernel_rfl, by kernel_rfl, by kernel_rfl, zip2 (by kernel_rfl) fun a b => by kernel_rfl⟩
theorem at_121 (w : World) : (hT w).get? 121 = some (h17_121 w.params) := top_at (by kernel_rfl) (by kernel_rfl) (by kernel_rfl)
theorem fn_16 (w : World) : FnIs (hT w) (defAt 16) (h17_121 w.params) (fdOf (h17_121 w.params)) :=
  ⟨by kernel_rfl, ⟨120, h17_120 w.params, _, _, by kernel_rfl, top_at (by kernel_rfl) (by kernel_rfl) (by kernel_rfl), rfl, rfl⟩, by kernel_rfl, by kernel_rfl, by kernel_rfl, by kernel_rfl, by kernel_rfl, by kernel_rfl, by kernel_rfl, by kernel_rfl, zip2 (by kernel_rfl) fun a b => by kernel_rfl⟩
theorem at_139 (w : World) : (hT w).get? 139 = some (h19_139 w.params) := top_at (by kernel_rfl) (by kernel_rfl) (by kernel_rfl)
theorem fn_19 (w : World) : FnIs (hT w) (defAt 19) (h19_139 w.params) (fdOf (h19_139 w.params)) :=
  ⟨by kernel_rfl, ⟨138, h19_138 w.params, _, _, by kernel_rfl, top_at (by kernel_rfl) (by kernel_rfl) (by kernel_rfl), rfl, rfl⟩, by kernel_rfl, by kernel_rfl, by kernel_rfl, by kernel_rfl, by kernel_rfl, by kernel_rfl, by kernel_rfl, by kernel_rfl, zip1 (by kernel_rfl) fun a => by kernel_rfl⟩
theorem at_185 (w : World) : (hT w).get? 185 = some (h25_185 w.params) := top_at (by kernel_rfl) (by kernel_rfl) (by kernel_rfl)
theorem fn_21 (w : World) : FnIs (hT w) (defAt 21) (h25_185 w.params) (fdOf (h25_185 w.params)) :=
  ⟨by kernel_rfl, ⟨184, h25_184 w.params, _, _, by kernel_rfl, top_at (by kernel_rfl) (by kernel_rfl) (by kernel_rfl), rfl, rfl⟩, by kernel_rfl, by kernel_rfl, by kernel_rfl, by kernel_rfl, by kernel_rfl, by kernel_rfl, by kernel_rfl, by kernel_rfl, zip1 (by kernel_rfl) fun a => by kernel_rfl⟩
theorem at_192 (w : World) : (hT w).get? 192 = some (h25_192 w.params) := top_at (by kernel_rfl) (by kernel_rfl) (by kernel_rfl)
theorem fn_23 (w : World) : FnIs (hT w) (defAt 23) (h25_192 w.params) (fdOf (h25_192 w.params)) :=
  ⟨by kernel_rfl, ⟨191, h25_191 w.params, _, _, by kernel_rfl, top_at (by kernel_rfl) (by kernel_rfl) (by kernel_rfl), rfl, rfl⟩, by kernel_rfl, by kernel_rfl, by kernel_rfl, by kernel_rfl, by kernel_rfl, by kernel_rfl, by kernel_rfl, by kernel_rfl, zip2 (by kernel_rfl) fun a b => by kernel_rfl⟩
theorem at_199 (w : World) : (hT w).get? 199 = some (h25_199 w.params) := top_at (by kernel_rfl) (by kernel_rfl) (by kernel_rfl)
theorem fn_24 (w : World) : FnIs (hT w) (defAt 24) (h25_199 w.params) (fdOf (h25_199 w.params)) :=
  ⟨by kernel_rfl, ⟨198, h25_198 w.params, _, _, by kernel_rfl, top_at (by kernel_rfl) (by kernel_rfl) (by kernel_rfl), rfl, rfl⟩, by kernel_rfl, by kernel_rfl, by kernel_rfl, by kernel_rfl, by kernel_rfl, by kernel_rfl, by kernel_rfl, by kernel_rfl, zip2 (by kernel_rfl) fun a b => by kernel_rfl⟩
theorem at_204 (w : World) : (hT w).get? 204 = some (h25_204 w.params) := top_at (by kernel_rfl) (by kernel_rfl) (by kernel_rfl)
theorem fn_25 (w : World) : FnIs (hT w) (defAt 25) (h25_204 w.params) (fdOf (h25_204 w.params)) :=
  ⟨by kernel_rfl, ⟨203, h25_203 w.params, _, _, by kernel_rfl, top_at (by kernel_rfl) (by kernel_rfl) (by kernel_rfl), rfl, rfl⟩, by kernel_rfl, by kernel_rfl, by kernel_rfl, by kernel_rfl, by kernel_rfl, by kernel_rfl, by kernel_rfl, by kernel_rfl, zip1 (by kernel_rfl) fun a => by kernel_rfl⟩
end Mine
namespace Mine
open PySem PySem.W PySem.Calls PyProof.Rows
noncomputable abbrev mgT (w : World) : Str → Option Value := (hT w).nsMap mainGlobals
noncomputable abbrev mbT (w : World) : Str → Option Value := (hT w).nsMap builtinsNs
theorem nsG (w : World) : (hT w).Ns mainGlobals (mgT w) := Heap.Ns.of_isNs (by kernel_rfl)
theorem nsB (w : World) : (hT w).Ns builtinsNs (mbT w) := Heap.Ns.of_isNs (by kernel_rfl)
theorem nsC (w : World) : (hT w).Ns cStatics ((hT w).nsMap cStatics) := Heap.Ns.of_isNs (by kernel_rfl)
theorem set_at (w : World) : (hT w).get? 129 = some (h18_129 w.params) := top_at (by kernel_rfl) (by kernel_rfl) (by kernel_rfl)
theorem dict_at (w : World) : (hT w).get? 140 = some (dObj (allE 38 409 b3pairs) 650) := top_at (o := dObj (allE 38 409 b3pairs) 650) (by kernel_rfl) (by kernel_rfl) (by kernel_rfl)
noncomputable def setOf (o : Obj) : Array (Int × Value) × Nat × SetTable := match o.data with
  | .set es n t => (es, n, t)
  | _ => (#[], 0, default)
noncomputable def intEnt (e : Int × Value) : Bool := match e.2 with
  | .int i _ => e.1 == i && decide (0 ≤ i) && decide (i < 1000000)
  | _ => false
theorem intEnt_ok {e : Int × Value} (h : intEnt e = true) : ∃ i k, e = ((i : Int), Value.int i k) ∧ 0 ≤ i ∧ i < 1000000 := by
  obtain ⟨j, v⟩ := e
  cases v with
  | int i k =>
    have h' : ((j == i) && decide (0 ≤ i) && decide (i < 1000000)) = true := h
    simp only [Bool.and_eq_true, beq_iff_eq, decide_eq_true_eq] at h'
    obtain ⟨⟨rfl, h1⟩, h2⟩ := h'
    exact ⟨j, k, rfl, h1, h2⟩
  | _ => cases h
theorem set_perm {a b : List Int} (h1 : (a.all fun i => b.contains i) = true) (h2 : (b.all fun i => a.contains i) = true) (i : Int) : a.contains i = b.contains i := by
  rw [Bool.eq_iff_iff, List.contains_iff_mem, List.contains_iff_mem]
  rw [List.all_eq_true] at h1 h2
  exact ⟨fun h => List.contains_iff_mem.mp (h1 i h), fun h => List.contains_iff_mem.mp (h2 i h)⟩
theorem entsL_mem : ∀ {L : List (Int × Str)} {t : Nat} {e : DictEntry}, e ∈ entsL t L → ∃ p ∈ L, ∃ k u, e = ⟨p.1, .int p.1 k, .str p.2 u⟩
  | [], _, _, h => absurd h (List.not_mem_nil)
  | (i, x) :: r, t, e, h => by
    rcases List.mem_cons.mp h with rfl | h
    · exact ⟨(i, x), List.mem_cons_self .., t, t + 1, rfl⟩
    · obtain ⟨p, hp, q⟩ := entsL_mem h
      exact ⟨p, List.mem_cons_of_mem _ hp, q⟩
theorem entsS_mem : ∀ {L : List (Int × Str)} {t : Nat} {e : DictEntry}, e ∈ entsS t L → ∃ p ∈ L, ∃ k u, e = ⟨p.1, .int p.1 k, .str p.2 u⟩
  | [], _, _, h => absurd h (List.not_mem_nil)
  | (i, x) :: r, t, e, h => by
    rcases List.mem_cons.mp h with rfl | h
    · exact ⟨(i, x), List.mem_cons_self .., t, t + 1, rfl⟩
    · obtain ⟨p, hp, q⟩ := entsS_mem h
      exact ⟨p, List.mem_cons_of_mem _ hp, q⟩
theorem allE_mem : ∀ {c t : Nat} {L : List (Int × Str)} {e : DictEntry}, e ∈ allE c t L → ∃ p ∈ L, ∃ k u, e = ⟨p.1, .int p.1 k, .str p.2 u⟩
  | 0, t, L, e, h => entsS_mem h
  | c + 1, t, L, e, h => by
    rcases List.mem_append.mp h with h | h
    · obtain ⟨p, hp, q⟩ := entsL_mem h
      exact ⟨p, List.mem_of_mem_take hp, q⟩
    · obtain ⟨p, hp, q⟩ := allE_mem h
      exact ⟨p, List.mem_of_mem_drop hp, q⟩
noncomputable def valE (e : DictEntry) : Option Str := match e.val with
  | .str x _ => some x
  | _ => none
theorem entsL_find (i : Int) : ∀ (L : List (Int × Str)) (t : Nat), ((entsL t L).find? fun e => e.hash == i).bind valE = L.lookup i
  | [], _ => rfl
  | (j, x) :: r, t => by
    show (((⟨j, .int j t, .str x (t + 1)⟩ : DictEntry) :: entsL (t + 3) r).find? fun e => e.hash == i).bind valE = _
    rw [List.find?_cons, List.lookup_cons]
    by_cases h : j = i
    · subst h; simp [valE]
    · have h1 : (j == i) = false := beq_eq_false_iff_ne.mpr h
      have h2 : (i == j) = false := beq_eq_false_iff_ne.mpr fun e => h e.symm
      simp only [h1, h2]
      exact entsL_find i r (t + 3)
theorem entsS_find (i : Int) : ∀ (L : List (Int × Str)) (t : Nat), ((entsS t L).find? fun e => e.hash == i).bind valE = L.lookup i
  | [], _ => rfl
  | (j, x) :: r, t => by
    show (((⟨j, .int j t, .str x (t + 1)⟩ : DictEntry) :: entsS (t + 2) r).find? fun e => e.hash == i).bind valE = _
    rw [List.find?_cons, List.lookup_cons]
    by_cases h : j = i
    · subst h; simp [valE]
    · have h1 : (j == i) = false := beq_eq_false_iff_ne.mpr h
      have h2 : (i == j) = false := beq_eq_false_iff_ne.mpr fun e => h e.symm
      simp only [h1, h2]
      exact entsS_find i r (t + 2)
theorem lookup_append {β : Type} (i : Int) (b : List (Int × β)) : ∀ a : List (Int × β), (a ++ b).lookup i = (a.lookup i).or (b.lookup i)
  | [] => by simp
  | (j, x) :: a => by
    rw [List.cons_append, List.lookup_cons, List.lookup_cons]
    cases i == j with
    | true => rfl
    | false => exact lookup_append i b a
theorem allE_find (i : Int) : ∀ (c t : Nat) (L : List (Int × Str)), ((allE c t L).find? fun e => e.hash == i).bind valE = L.lookup i
  | 0, t, L => entsS_find i L t
  | c + 1, t, L => by
    show ((entsL t (L.take 17) ++ allE c (t + 51) (L.drop 17)).find? fun e => e.hash == i).bind valE = _
    have h1 := entsL_find i (L.take 17) t
    have h2 := allE_find i c (t + 51) (L.drop 17)
    have h3 := lookup_append i (L.drop 17) (L.take 17)
    rw [List.take_append_drop] at h3
    rw [h3, ← h1, ← h2, List.find?_append]
    cases q : (entsL t (L.take 17)).find? fun e => e.hash == i with
    | none => rfl
    | some e =>
      obtain ⟨p, _, k, u, rfl⟩ := entsL_mem (List.mem_of_find?_eq_some q)
      rfl
theorem b3keys : (b3pairs.all fun p => decide (0 ≤ p.1) && decide (p.1 < 1000000)) = true := by kernel_rfl
noncomputable def freeB (mg mb : Str → Option Value) (f : Str) : Bool := (mg f).isNone && mb f == bootBuiltins f
theorem freeT_ok (w : World) : ((["len", "chr", "ord", "sum", "min", "max", "str", "int", "isinstance", "list", "range", "enumerate"] : List Str).map fun f => (mgT w f, mbT w f)) = (["len", "chr", "ord", "sum", "min", "max", "str", "int", "isinstance", "list", "range", "enumerate"] : List Str).map fun f => (none, bootBuiltins f) := by kernel_rfl
theorem map_all {α β : Type} {f g : α → β} : ∀ {l : List α}, l.map f = l.map g → ∀ x ∈ l, f x = g x
  | a :: l, h, x, hx => by
    rw [List.map_cons, List.map_cons] at h
    injection h with h1 h2
    rcases List.mem_cons.mp hx with rfl | hx
    · exact h1
    · exact map_all h2 x hx
theorem top_gok (w : World) (c : Cfg) (hm : c.marker = "...") (hs : c.inSet = fun i => b1list.contains i) (hd : c.get = fun i => b3pairs.lookup i) : GOk (mgT w) (mbT w) (hT w) c (hT w) := by
  refine ⟨nsG w, nsB w, ⟨_, nsC w, by kernel_rfl⟩, fun _ _ e => e, ⟨_, nsC w, by kernel_rfl⟩, fun f hf => ?_, ⟨⟨189, ?_⟩, ?_⟩, ?_, ?_⟩
  · have := map_all (freeT_ok w) f hf
    simpa using this
  · rw [hm]; kernel_rfl
  · rw [hm]; decide
  · refine ⟨129, (setOf (h18_129 w.params)).1, (setOf (h18_129 w.params)).2.1, (setOf (h18_129 w.params)).2.2, by kernel_rfl, (set_at w).trans (by kernel_rfl), Nat.le_of_ble_eq_true (by kernel_rfl), by kernel_rfl, Nat.le_of_ble_eq_true (by kernel_rfl), fun e he => ?_, fun i => ?_⟩
    · have h : ((setOf (h18_129 w.params)).1.toList.all intEnt) = true := by kernel_rfl
      exact intEnt_ok (List.all_eq_true.mp h e (by simpa using he))
    · have h1 : (b1list.all fun i => ((setOf (h18_129 w.params)).1.toList.map (·.1)).contains i) = true := by kernel_rfl
      have h2 : (((setOf (h18_129 w.params)).1.toList.map (·.1)).all fun i => b1list.contains i) = true := by kernel_rfl
      rw [hs]
      show b1list.contains i = _
      rw [set_perm h1 h2 i, ← Array.any_toList]
      generalize (setOf (h18_129 w.params)).1.toList = l
      induction l with
      | nil => rfl
      | cons e l ih => rw [List.map_cons, List.contains_cons, List.any_cons, ih]; congr 1; rw [Bool.eq_iff_iff]; simp; exact ⟨fun h => h.symm, fun h => h.symm⟩
  · refine ⟨140, (allE 38 409 b3pairs).toArray, 650, by kernel_rfl, by decide, dict_at w, fun e he => ?_, fun i => ?_⟩
    · obtain ⟨p, hp, k, u, rfl⟩ := allE_mem (by simpa using he)
      have := List.all_eq_true.mp b3keys p hp
      simp only [Bool.and_eq_true, decide_eq_true_eq] at this
      exact ⟨p.1, k, p.2, u, rfl, this⟩
    · rw [hd]
      show b3pairs.lookup i = ((allE 38 409 b3pairs).toArray.find? fun e => e.hash == i).bind _
      rw [List.find?_toArray, ← allE_find i 38 409 b3pairs]; rfl
end Mine
namespace Mine
open PySem PySem.W PySem.Calls PyProof.Rows
theorem leaf_calls {w : World} {c : Cfg} {A : Around} (hc : c.call = fun _ _ _ => none) : CallOk pw w (mgT w) (mbT w) (hT w) c A := fun f args μ v μ' h => by
  rw [hc] at h; cases h
theorem def_leaf {w : World} {i : Nat} {a : Addr} {o : Obj} {A : Around} (hA : AOk 5 A) (fi : FnIs (hT w) (defAt i) o (fdOf o)) (ho : (hT w).get? a = some o) (hd : (defAt i).good = true)
    {f : Str} (hm : mgT w f = some (.ref a)) {c : Cfg} (hcm : c.marker = "...") (hcs : c.inSet = fun i => b1list.contains i) (hcd : c.get = fun i => b3pairs.lookup i)
    {args : List V} {μ μ' : Mem} {v : V} (h : runDef 30 leafCfg (defAt i) args μ = some (v, μ')) : ∃ a o fd, mgT w f = some (.ref a) ∧ (hT w).get? a = some o ∧ o.data = .func fd ∧
      ∀ s g vals, GOk (mgT w) (mbT w) (hT w) c s.heap → Lists μ g s.heap → Book g.bk s.toks → L2 (VR g s.heap) args vals → WP pw w A (call (.ref a) vals) (RV s μ g v μ') s :=
  ⟨a, o, fdOf o, hm, ho, fi.data, fun s g vals G L B H => def_ok fi ho hd h hA (fun env => leaf_calls rfl) ((top_gok w leafCfg rfl rfl rfl).keeps G.top) L B H⟩
theorem law_calls {w : World} {A : Around} (hA : AOk 5 A) {c : Cfg} (hcm : c.marker = "...") (hcs : c.inSet = fun i => b1list.contains i) (hcd : c.get = fun i => b3pairs.lookup i) (hc : c.call = callT) : CallOk pw w (mgT w) (mbT w) (hT w) c A := fun f args μ v μ' h => by
  rw [hc] at h
  unfold callT defs at h
  simp only [List.lookup_cons] at h
  by_cases h1 : f = ("_ellipsis_match" : Str)
  · subst h1; exact def_leaf hA (fn_2 w) (at_21 w) (by kernel_rfl) (by kernel_rfl) hcm hcs hcd (by simpa using h)
  rw [beq_eq_false_iff_ne.mpr h1] at h
  by_cases h1 : f = ("parse229" : Str)
  · subst h1; exact def_leaf hA (fn_7 w) (at_65 w) (by kernel_rfl) (by kernel_rfl) hcm hcs hcd (by simpa using h)
  rw [beq_eq_false_iff_ne.mpr h1] at h
  by_cases h1 : f = ("lt" : Str)
  · subst h1; exact def_leaf hA (fn_9 w) (at_72 w) (by kernel_rfl) (by kernel_rfl) hcm hcs hcd (by simpa using h)
  rw [beq_eq_false_iff_ne.mpr h1] at h
  by_cases h1 : f = ("gt" : Str)
  · subst h1; exact def_leaf hA (fn_10 w) (at_79 w) (by kernel_rfl) (by kernel_rfl) hcm hcs hcd (by simpa using h)
  rw [beq_eq_false_iff_ne.mpr h1] at h
  by_cases h1 : f = ("add" : Str)
  · subst h1; exact def_leaf hA (fn_11 w) (at_86 w) (by kernel_rfl) (by kernel_rfl) hcm hcs hcd (by simpa using h)
  rw [beq_eq_false_iff_ne.mpr h1] at h
  by_cases h1 : f = ("mod" : Str)
  · subst h1; exact def_leaf hA (fn_12 w) (at_93 w) (by kernel_rfl) (by kernel_rfl) hcm hcs hcd (by simpa using h)
  rw [beq_eq_false_iff_ne.mpr h1] at h
  by_cases h1 : f = ("mul" : Str)
  · subst h1; exact def_leaf hA (fn_13 w) (at_100 w) (by kernel_rfl) (by kernel_rfl) hcm hcs hcd (by simpa using h)
  rw [beq_eq_false_iff_ne.mpr h1] at h
  by_cases h1 : f = ("sub" : Str)
  · subst h1; exact def_leaf hA (fn_14 w) (at_107 w) (by kernel_rfl) (by kernel_rfl) hcm hcs hcd (by simpa using h)
  rw [beq_eq_false_iff_ne.mpr h1] at h
  by_cases h1 : f = ("countOf" : Str)
  · subst h1; exact def_leaf hA (fn_15 w) (at_114 w) (by kernel_rfl) (by kernel_rfl) hcm hcs hcd (by simpa using h)
  rw [beq_eq_false_iff_ne.mpr h1] at h
  by_cases h1 : f = ("indexOf" : Str)
  · subst h1; exact def_leaf hA (fn_16 w) (at_121 w) (by kernel_rfl) (by kernel_rfl) hcm hcs hcd (by simpa using h)
  rw [beq_eq_false_iff_ne.mpr h1] at h
  by_cases h1 : f = ("in_table_b1" : Str)
  · subst h1; exact def_leaf hA (fn_19 w) (at_139 w) (by kernel_rfl) (by kernel_rfl) hcm hcs hcd (by simpa using h)
  rw [beq_eq_false_iff_ne.mpr h1] at h
  by_cases h1 : f = ("map_table_b3" : Str)
  · subst h1; exact def_leaf hA (fn_21 w) (at_185 w) (by kernel_rfl) (by kernel_rfl) hcm hcs hcd (by simpa using h)
  rw [beq_eq_false_iff_ne.mpr h1] at h
  by_cases h1 : f = ("_law_reply" : Str)
  · subst h1; exact def_leaf hA (fn_23 w) (at_192 w) (by kernel_rfl) (by kernel_rfl) hcm hcs hcd (by simpa using h)
  rw [beq_eq_false_iff_ne.mpr h1] at h
  by_cases h1 : f = ("_law_typed" : Str)
  · subst h1; exact def_leaf hA (fn_24 w) (at_199 w) (by kernel_rfl) (by kernel_rfl) hcm hcs hcd (by simpa using h)
  rw [beq_eq_false_iff_ne.mpr h1] at h
  simp at h
theorem caller_ok : AOk 8 callerA := ⟨rfl, by decide, by decide⟩
theorem ints_ir {bk : Tok → Option Int} {h : Heap} : ∀ {ns : List Int} {vs : List Value}, IntsAre vs ns → L2 (IR bk h) (ns.map vraw) vs
  | _, _, .nil => trivial
  | _, _, .cons n t r => ⟨⟨t, rfl, fun e => (nomatch e)⟩, ints_ir r⟩
end Mine
namespace Mine
open PySem PySem.W PySem.Calls PyProof.Rows
theorem lawD_some : (defOf qv "law").isSome = true := by kernel_rfl
noncomputable def lawD : DefRec := ((defOf qv "law").get lawD_some).1
theorem ns_same {h : Heap} {a : Addr} {m m' : Str → Option Value} (x : h.Ns a m) (y : h.Ns a m') (n : Str) : m n = m' n := by
  obtain ⟨o, es, ep, e1, e2, _, e3⟩ := x
  obtain ⟨o', es', ep', f1, f2, _, f3⟩ := y
  rw [e1] at f1; cases f1
  rw [e2] at f2
  injection f2 with f2 _
  subst f2
  rw [← e3, ← f3]
/-- what is left: the law answers True, in the small interpreter -/
noncomputable def Plain : Prop := ∀ ns : List Int, ns.length ≤ 63 → ∃ μ', runLaw ns = some (vbool true, μ')
theorem lay_toks {w : World} {s₀ s₁ : Shared} {ns : List Int} {a : Addr} {as : List Addr} {R : WRecords} (L : Laid R w s₀ s₁ [ofPy (PyData.list (ns.map PyData.int))] [.ref a] as) (h : s₀.toks = 2399) : 2399 ≤ s₁.toks := PySem.W.X.script_toks L h
set_option maxHeartbeats 8000000 in
theorem walkX (plain : Plain) : WalkX qv looseV (fun _ _ => True) (fun s => (s.heap, s.toks)) (fun w => (absHeap (T25 w.params) 205 {}, 2399)) PySem.Challenge.rw_wr0045_01.row.toRowW lawD [] fun f vs => PySem.call f vs := by
  intro w s₀ s₁ mg mb G Y fa o pm cd doc dV kV ho hd hcd hD hmg hg args vals as L hpre hlay hrd hwl hlo
  wrow_args hpre hlay hrd hwl hlo
  rename_i ns _ _ _ _ _ _ _ p vs _ hL _ _ _ hI _ hlen _
  have hmem : ns.length ≤ 63 := by (first | lia | omega)
  have y1 : s₀.heap = hT w := congrArg Prod.fst Y
  have y2 : s₀.toks = 2399 := congrArg Prod.snd Y
  have kp : KeepsH (hT w) s₁.heap := fun b o e => L.keeps b o (by rw [y1]; exact e)
  have hfa : fa = 204 := by
    have e1 := ns_same G.T.g ((nsG w).keeps kp) lawD.name
    rw [hmg] at e1
    have e2 : mgT w lawD.name = some (.ref 204) := by kernel_rfl
    rw [e2] at e1
    injection e1 with e1
    injection e1
  subst hfa
  have hPL : s₁.heap.PlainList p vs.toArray := ⟨0, PySem.W.X.script_obj L hL⟩
  obtain ⟨μ', hrun⟩ := plain ns hmem
  have hpos : 0 < s₁.toks := Nat.lt_of_lt_of_le (by decide) (lay_toks L y2)
  have hA : AOk 5 callerA := ⟨caller_ok.handled, by have := caller_ok.depth; (first | lia | omega), by have := caller_ok.units; (first | lia | omega)⟩
  have W := def_ok (prog := pw) (w := w) (mg := mgT w) (mb := mbT w) (A := callerA) (s := s₁) (g := ⟨[p], fun _ => none⟩) (vals := [.ref p]) (fn_25 w) (at_204 w) (by kernel_rfl) hrun hA
    (fun env => law_calls (A := callerA.deeper env) ⟨caller_ok.handled, by have := caller_ok.depth; show callerA.depth + 1 + 5 < _; (first | lia | omega), by have := caller_ok.units; show callerA.units + 3 + 8 * 5 + 64 < _; (first | lia | omega)⟩ rfl rfl rfl rfl)
    ((top_gok w lawCfg rfl rfl rfl).keeps kp) ⟨rfl, by simp, fun n l e => by
      cases n with
      | zero =>
        injection e with e
        subst e
        exact ⟨p, vs.toArray, rfl, hPL, ints_ir hI, by rw [List.length_map]; exact Nat.le_trans hmem (by decide)⟩
      | succ n => simp at e⟩ ⟨hpos, fun t i e => (nomatch e)⟩ ⟨⟨p, rfl, rfl⟩, trivial⟩
  refine WP.any W fun v s' hv => ?_
  obtain ⟨g', st, rfl⟩ := hv
  obtain ⟨h', tk, rfl, kk⟩ := st.keeps
  refine GoodW.toG ⟨.inl ⟨.bool true, .bool true, [], rfl, fun _ => rfl, .bool true, ?_, unshared_nil⟩, kk, rfl, hg⟩
  wrow_post
end Mine
namespace Mine
/-! three gaps -/
section
variable (S d : Int)
noncomputable def pt (i : Nat) : Int := ((i : Int) * d) % S
variable {S d}
theorem pt_zero : pt S d 0 = 0 := by simp [pt]
theorem pt_nonneg (h : 0 < S) (i : Nat) : 0 ≤ pt S d i := Int.emod_nonneg _ (by (first | lia | omega))
theorem pt_lt (h : 0 < S) (i : Nat) : pt S d i < S := Int.emod_lt_of_pos _ h
theorem pt_add (h : 0 < S) (i j : Nat) : pt S d (i + j) = pt S d i + pt S d j ∨ pt S d (i + j) = pt S d i + pt S d j - S := by
  have e : pt S d (i + j) = (pt S d i + pt S d j) % S := by
    unfold pt
    rw [show ((i + j : Nat) : Int) * d = (i : Int) * d + (j : Int) * d by push_cast; rw [Int.add_mul], Int.add_emod]
  have h1 := pt_nonneg (d := d) h i
  have h2 := pt_nonneg (d := d) h j
  have h3 := pt_lt (d := d) h i
  have h4 := pt_lt (d := d) h j
  rw [e]
  by_cases hc : pt S d i + pt S d j < S
  · left; exact Int.emod_eq_of_lt (by (first | lia | omega)) hc
  · right
    have : (pt S d i + pt S d j) % S = (pt S d i + pt S d j - S) % S := by
      rw [Int.sub_emod, Int.emod_self, Int.sub_zero, Int.emod_emod_of_dvd _ (Int.dvd_refl S)]
    rw [this]
    exact Int.emod_eq_of_lt (by (first | lia | omega)) (by (first | lia | omega))

/-- s and t are the least distances from 0 among the points ahead of n -/
noncomputable def Near (S d s t : Int) (n : Nat) : Prop := ∀ q, 0 < q → q < n → s ≤ pt S d q ∧ pt S d q ≤ S - t

structure Gaps (S d : Int) (u v : Nat) (s t : Int) : Prop where
  S0 : 0 < S
  u0 : 0 < u
  v0 : 0 < v
  pu : pt S d u = s
  pv : pt S d v = S - t
  s0 : 0 < s
  t0 : 0 < t

variable {u v n : Nat} {s t : Int}
theorem x1 {a b s : Int} (h : b < a + s) (m : s ≤ b - a) : False := by (first | lia | omega)
theorem x2 {a b t : Int} (t0 : 0 < t) (h : a < b) (m : t ≤ a - b) : False := by (first | lia | omega)
theorem x3 {p q s S : Int} (e : q = p + s - S) (h : p < S) (m : s ≤ q) : False := by (first | lia | omega)
theorem x4 {p q t S : Int} (e : q = p + (S - t)) (h : 0 < p) (m : q ≤ S - t) : False := by (first | lia | omega)
theorem x5 {p q t S : Int} (e : q = p + (S - t) - S) : p = q + t := by (first | lia | omega)
theorem x6 {i s t S : Int} (hs : s < S) (h : i ≤ S - t) (e : S - t = i + s ∨ S - t = i + s - S) : i + (s + t) = S := by (first | lia | omega)
theorem x7 {p i c s t S : Int} (hi : i < S) (hS : 0 < S) (hc : t ≤ c - s) (e1 : p = i + s ∨ p = i + s - S) (e2 : p = c + (S - t) ∨ p = c + (S - t) - S) : c = i + (s + t) := by (first | lia | omega)
theorem x8 {q a s t S : Int} (b : 0 ≤ q) (s0 : 0 < s) (t0 : 0 < t) (m : s ≤ a ∧ a ≤ S - t) (e1 : q = a + s ∨ q = a + s - S) (e2 : s ≤ S - t - a ∨ t ≤ a - (S - t)) : s ≤ q := by (first | lia | omega)
theorem x9 {q a s t S : Int} (b : q < S) (s0 : 0 < s) (t0 : 0 < t) (m : s ≤ a ∧ a ≤ S - t) (e1 : q = a + (S - t) ∨ q = a + (S - t) - S) (e2 : s ≤ s - a ∨ t ≤ a - s) : q ≤ S - t := by (first | lia | omega)
theorem x10 {a b c s t S : Int} (m : s ≤ c ∧ c ≤ S - t) (e : b = c + a ∨ b = c + a - S) : (s ≤ b - a ∧ c = b - a) ∨ (t ≤ a - b ∧ c = b - a + S) := by (first | lia | omega)
theorem x11 {i j q s t : Int} (s0 : 0 < s) (h : j < i + (s + t)) (hq : q = j - i) (m : s ≤ j - i) (e : s ≤ s - q ∨ t ≤ q - s) : False := by (first | lia | omega)
theorem x12 {i j q s t S : Int} (t0 : 0 < t) (h : j < i + (s + t)) (hq : q = i - j + S) (m : t ≤ j - i) (e : s ≤ S - t - q ∨ t ≤ q - (S - t)) : False := by (first | lia | omega)
/-- two points of a row without a nearer one lie apart -/
theorem sep (h0 : 0 < S) (M : Near S d s t n) {i j : Nat} (h : i < j) (hj : j < n) : (s ≤ pt S d j - pt S d i ∧ pt S d (j - i) = pt S d j - pt S d i) ∨ (t ≤ pt S d i - pt S d j ∧ pt S d (j - i) = pt S d j - pt S d i + S) := by
  have m := M (j - i) (Nat.sub_pos_of_lt h) (Nat.lt_of_le_of_lt (Nat.sub_le j i) hj)
  have e := pt_add (d := d) h0 (j - i) i
  rw [Nat.sub_add_cancel (Nat.le_of_lt h)] at e
  exact x10 m e
theorem sep' (h0 : 0 < S) (M : Near S d s t n) {i j : Nat} (h : i < j) (hj : j < n) : s ≤ pt S d j - pt S d i ∨ t ≤ pt S d i - pt S d j := (sep h0 M h hj).imp And.left And.left
theorem Gaps.next (G : Gaps S d u v s t) {q : Nat} (hu : u < q) (hv : v < q) (hq : q < u + v) (M : Near S d s t q) : s ≤ pt S d q ∧ pt S d q ≤ S - t := by
  constructor
  · have c : q - u < v := Nat.sub_lt_left_of_lt_add (Nat.le_of_lt hu) hq
    have m := M (q - u) (Nat.sub_pos_of_lt hu) (Nat.lt_trans c hv)
    have e2 := sep' G.S0 M c hv
    have e1 := pt_add (d := d) G.S0 (q - u) u
    rw [Nat.sub_add_cancel (Nat.le_of_lt hu), G.pu] at e1
    rw [G.pv] at e2
    exact x8 (pt_nonneg G.S0 q) G.s0 G.t0 m e1 e2
  · have c : q - v < u := Nat.sub_lt_right_of_lt_add (Nat.le_of_lt hv) hq
    have m := M (q - v) (Nat.sub_pos_of_lt hv) (Nat.lt_trans c hu)
    have e2 := sep' G.S0 M c hu
    have e1 := pt_add (d := d) G.S0 (q - v) v
    rw [Nat.sub_add_cancel (Nat.le_of_lt hv), G.pv] at e1
    rw [G.pu] at e2
    exact x9 (pt_lt G.S0 q) G.s0 G.t0 m e1 e2
theorem Gaps.upto (G : Gaps S d u v s t) {m : Nat} (hu : u < m) (hv : v < m) (M : Near S d s t m) : ∀ n, n ≤ u + v → Near S d s t n
  | 0, _ => fun q _ h => absurd h (Nat.not_lt_zero q)
  | n + 1, hn => fun q h0 hq => by
    have ih := Gaps.upto G hu hv M n (Nat.le_of_succ_le hn)
    by_cases h : q < m
    · exact M q h0 h
    · rcases Nat.lt_or_eq_of_le (Nat.le_of_lt_succ hq) with h2 | h2
      · exact ih q h0 h2
      · subst h2
        have h := Nat.le_of_not_lt h
        exact G.next (Nat.lt_of_lt_of_le hu h) (Nat.lt_of_lt_of_le hv h) hn ih
theorem x13 {p s t S : Int} (s0 : 0 < s) (t0 : 0 < t) (m : s ≤ p ∧ p ≤ S - t) (e : p = s + (S - t) ∨ p = s + (S - t) - S) : False := by (first | lia | omega)
theorem Gaps.le (G : Gaps S d u v s t) {m : Nat} (M : Near S d s t m) : m ≤ u + v := by
  apply Decidable.byContradiction
  intro hc
  have e := pt_add (d := d) G.S0 u v
  rw [G.pu, G.pv] at e
  exact x13 G.s0 G.t0 (M (u + v) (Nat.lt_of_lt_of_le G.u0 (Nat.le_add_right u v)) (Nat.lt_of_not_le hc)) e
theorem x14 {p s t S : Int} (b1 : 0 ≤ p) (b2 : p < S) (e : p = s + (S - t) ∨ p = s + (S - t) - S) : (t < s → p = s - t) ∧ (s < t → p = S - (t - s)) ∧ (s = t → p = 0) := by
  rcases e with e | e <;> refine ⟨fun h => ?_, fun h => ?_, fun h => ?_⟩ <;> (first | lia | omega)
/-- the point behind the last -/
theorem Gaps.beyond (G : Gaps S d u v s t) : (t < s → pt S d (u + v) = s - t) ∧ (s < t → pt S d (u + v) = S - (t - s)) ∧ (s = t → pt S d (u + v) = 0) := by
  have e := pt_add (d := d) G.S0 u v
  rw [G.pu, G.pv] at e
  exact x14 (pt_nonneg G.S0 _) (pt_lt G.S0 _) e
theorem near_inj (hS : 0 < S) (s0 : 0 < s) (t0 : 0 < t) (M : Near S d s t n) {i j : Nat} (hi : i < n) (hj : j < n) (h : pt S d i = pt S d j) : i = j := by
  have key : ∀ {a b : Nat}, b < n → pt S d a = pt S d b → ¬ a < b := fun hb e hc => by
    have m := sep' hS M hc hb
    rw [e, Int.sub_self] at m
    exact m.elim (Int.not_le.mpr s0) (Int.not_le.mpr t0)
  rcases Nat.lt_trichotomy i j with hc | hc | hc
  · exact absurd hc (key hj h)
  · exact hc
  · exact absurd hc (key hi h.symm)

/-- the next point on the ring of n points -/
noncomputable def succ (n u v i : Nat) : Nat := if i + u < n then i + u else if v ≤ i then i - v else i + u - v
noncomputable def gapOf (n u v : Nat) (s t : Int) (i : Nat) : Int := if i + u < n then s else if v ≤ i then t else s + t

section
variable (G : Gaps S d u v s t) (hu : u < n) (hv : v < n) (M : Near S d s t n)
include G M
theorem sepF {i j : Nat} (h : i < j) (hj : j < n) (a : pt S d i < pt S d j) (b : pt S d j < pt S d i + s) : False := (sep' G.S0 M h hj).elim (x1 b) (x2 G.t0 a)
theorem sepB {i j : Nat} (h : i < j) (hj : j < n) (a : pt S d j < pt S d i) (b : pt S d i < pt S d j + t) : False := (sep' G.S0 M h hj).elim (x2 G.s0 a) (x1 b)
theorem succ_a {i : Nat} (hA : i + u < n) : pt S d (i + u) = pt S d i + s ∧ ∀ j, j < n → ¬ (pt S d i < pt S d j ∧ pt S d j < pt S d i + s) := by
  have e : pt S d (i + u) = pt S d i + s := by
    have m := M (i + u) (Nat.add_pos_right i G.u0) hA
    have e := pt_add (d := d) G.S0 i u
    rw [G.pu] at e
    exact e.elim id fun e => (x3 e (pt_lt G.S0 i) m.1).elim
  refine ⟨e, fun j hj hc => ?_⟩
  rcases Nat.lt_trichotomy i j with h | h | h
  · exact sepF G M h hj hc.1 hc.2
  · subst h
    exact absurd hc.1 (Int.lt_irrefl _)
  · exact sepF G M (Nat.lt_of_lt_of_le h (Nat.le_add_right i u)) hA (by rw [e]; exact hc.2) (by rw [e]; exact Int.add_lt_add_right hc.1 s)
theorem succ_b {k : Nat} (hi : k + v < n) : (if k = 0 then pt S d (k + v) + t = S else pt S d k = pt S d (k + v) + t) ∧ ∀ j, j < n → ¬ (pt S d (k + v) < pt S d j ∧ pt S d j < pt S d (k + v) + t) := by
  by_cases hk : k = 0
  · subst hk
    rw [Nat.zero_add] at *
    have e := G.pv
    refine ⟨by rw [if_pos rfl, e]; exact Int.sub_add_cancel S t, fun j hj hc => ?_⟩
    rw [e] at hc
    have j0 : 0 < j := Nat.pos_of_ne_zero fun h => by
      subst h
      rw [pt_zero, ← e] at hc
      exact Int.not_lt.mpr (pt_nonneg G.S0 v) hc.1
    exact Int.not_lt.mpr (M j j0 hj).2 hc.1
  · have hk := Nat.pos_of_ne_zero hk
    have e : pt S d k = pt S d (k + v) + t := by
      have m := M (k + v) (Nat.add_pos_left hk v) hi
      have m2 := M k hk (Nat.lt_of_le_of_lt (Nat.le_add_right k v) hi)
      have e := pt_add (d := d) G.S0 k v
      rw [G.pv] at e
      exact e.elim (fun e => (x4 e (Int.lt_of_lt_of_le G.s0 m2.1) m.2).elim) x5
    refine ⟨by rw [if_neg (Nat.pos_iff_ne_zero.mp hk)]; exact e, fun j hj hc => ?_⟩
    rcases Nat.lt_trichotomy (k + v) j with h | h | h
    · exact sepB G M (Nat.lt_of_le_of_lt (Nat.le_add_right k v) h) hj (by rw [e]; exact hc.2) (by rw [e]; exact Int.add_lt_add_right hc.1 t)
    · subst h
      exact absurd hc.1 (Int.lt_irrefl _)
    · exact sepB G M h hi hc.1 hc.2
include hu hv
theorem succ_c {i c : Nat} (hi : i < n) (hn : n ≤ i + u) (hB : i < v) (hc : i + u = c + v) :
    (if c = 0 then pt S d i + (s + t) = S else pt S d c = pt S d i + (s + t)) ∧ ∀ j, j < n → ¬ (pt S d i < pt S d j ∧ pt S d j < pt S d i + (s + t)) := by
  have cu : c < u := by clear G hu hv M hi hn; (first | lia | omega)
  refine ⟨?_, fun j hj hcj => ?_⟩
  · have e1 := pt_add (d := d) G.S0 i u
    rw [hc, G.pu] at e1
    by_cases hc0 : c = 0
    · subst hc0
      rw [if_pos rfl]
      rw [Nat.zero_add, G.pv] at e1
      have hs := pt_lt (d := d) G.S0 u
      rw [G.pu] at hs
      refine x6 hs ?_ e1
      by_cases h0 : i = 0
      · subst h0
        rw [pt_zero, ← G.pv]
        exact pt_nonneg G.S0 v
      · exact (M i (Nat.pos_of_ne_zero h0) hi).2
    · rw [if_neg hc0]
      have e2 := pt_add (d := d) G.S0 c v
      have m1 := M c (Nat.pos_of_ne_zero hc0) (Nat.lt_trans cu hu)
      have m3 := sep' G.S0 M cu hu
      rw [G.pu] at m3
      rw [G.pv] at e2
      exact x7 (pt_lt G.S0 i) G.S0 (m3.resolve_left (Int.not_le.mpr (Int.sub_lt_self s (Int.lt_of_lt_of_le G.s0 m1.1)))) e1 e2
  · rcases Nat.lt_trichotomy i j with h | h | h
    · rcases sep G.S0 M h hj with m | m
      · have q := sep' G.S0 M (i := j - i) (j := u) (Nat.sub_lt_left_of_lt_add (Nat.le_of_lt h) (Nat.lt_of_lt_of_le hj hn)) hu
        rw [G.pu] at q
        exact x11 G.s0 hcj.2 m.2 m.1 q
      · exact x2 G.t0 hcj.1 m.1
    · subst h
      exact absurd hcj.1 (Int.lt_irrefl _)
    · rcases sep G.S0 M h hi with m | m
      · exact x2 G.s0 hcj.1 m.1
      · have q := sep' G.S0 M (i := i - j) (j := v) (Nat.lt_of_le_of_lt (Nat.sub_le i j) hB) hv
        rw [G.pv] at q
        exact x12 G.t0 hcj.2 m.2 m.1 q
theorem succ_ok (hn : n ≤ u + v) {i : Nat} (hi : i < n) :
    succ n u v i < n ∧ (if succ n u v i = 0 then pt S d i + gapOf n u v s t i = S else pt S d (succ n u v i) = pt S d i + gapOf n u v s t i) ∧
    ∀ j, j < n → ¬ (pt S d i < pt S d j ∧ pt S d j < pt S d i + gapOf n u v s t i) := by
  unfold succ gapOf
  by_cases hA : i + u < n
  · rw [if_pos hA, if_pos hA]
    obtain ⟨a, b⟩ := succ_a G M hA
    exact ⟨hA, by rw [if_neg (Nat.pos_iff_ne_zero.mp (Nat.add_pos_right i G.u0))]; exact a, b⟩
  · rw [if_neg hA, if_neg hA]
    have hA := Nat.le_of_not_lt hA
    by_cases hB : v ≤ i
    · rw [if_pos hB, if_pos hB]
      obtain ⟨k, rfl⟩ : ∃ k, i = k + v := ⟨i - v, (Nat.sub_add_cancel hB).symm⟩
      rw [Nat.add_sub_cancel]
      exact ⟨Nat.lt_of_le_of_lt (Nat.le_add_right k v) hi, succ_b G M hi⟩
    · rw [if_neg hB, if_neg hB]
      have hB := Nat.lt_of_not_le hB
      obtain ⟨c, hc⟩ : ∃ c, i + u = c + v := ⟨i + u - v, (Nat.sub_add_cancel (Nat.le_of_lt (Nat.lt_of_lt_of_le hv hA))).symm⟩
      rw [hc, Nat.add_sub_cancel]
      refine ⟨?_, succ_c G hu hv M hi hA hB hc⟩
      clear G M
      (first | lia | omega)
end
end
end Mine
namespace Mine
/-! the ring: sorted by insertion; the walk -/
section
variable {S d : Int} {u v n : Nat} {s t : Int}

/-- the ring of n points: each new one at its place -/
noncomputable def ring (f : Nat → Int) : Nat → List Nat
  | 0 => []
  | k + 1 => (ring f k).take ((List.range k).countP fun i => decide (f i < f k)) ++ k :: (ring f k).drop ((List.range k).countP fun i => decide (f i < f k))

theorem ring_perm (f : Nat → Int) : ∀ n, (ring f n).Perm (List.range n)
  | 0 => List.Perm.refl _
  | k + 1 => by
    rw [List.range_succ]
    have ih := ring_perm f k
    have h1 : (ring f (k + 1)).Perm (k :: ring f k) := by
      show ((ring f k).take _ ++ k :: (ring f k).drop _).Perm _
      exact List.perm_middle.trans (by rw [List.take_append_drop])
    exact h1.trans ((List.Perm.cons k ih).trans (List.perm_append_comm (l₁ := [k])))
theorem ring_mem (f : Nat → Int) (n i : Nat) : i ∈ ring f n ↔ i < n := by rw [(ring_perm f n).mem_iff, List.mem_range]
theorem ring_length (f : Nat → Int) (n : Nat) : (ring f n).length = n := by rw [(ring_perm f n).length_eq, List.length_range]

theorem sorted_cut {f : Nat → Int} {c : Int} : ∀ {l : List Nat}, l.Pairwise (fun a b => f a < f b) → (∀ x ∈ l.take (l.countP fun i => decide (f i < c)), f x < c) ∧ ∀ x ∈ l.drop (l.countP fun i => decide (f i < c)), ¬ f x < c
  | [], _ => by simp
  | a :: l, h => by
    obtain ⟨h1, h2⟩ := List.pairwise_cons.mp h
    have ih := sorted_cut (c := c) h2
    by_cases ha : f a < c
    · have e : (a :: l).countP (fun i => decide (f i < c)) = l.countP (fun i => decide (f i < c)) + 1 := by rw [List.countP_cons]; simp [ha]
      rw [e]
      refine ⟨fun x hx => ?_, fun x hx => ih.2 x hx⟩
      rcases List.mem_cons.mp hx with rfl | hx
      · exact ha
      · exact ih.1 x hx
    · have e : (a :: l).countP (fun i => decide (f i < c)) = 0 := by
        rw [List.countP_eq_zero]
        intro x hx
        rcases List.mem_cons.mp hx with rfl | hx
        · simpa using ha
        · have := h1 x hx
          simp; (first | lia | omega)
      rw [e]
      refine ⟨fun x hx => (by simp at hx), fun x hx => ?_⟩
      rcases List.mem_cons.mp hx with rfl | hx
      · exact ha
      · have := h1 x hx
        (first | lia | omega)

theorem ring_sorted {f : Nat → Int} : ∀ n, (∀ i j, i < n → j < n → f i = f j → i = j) → (ring f n).Pairwise fun a b => f a < f b
  | 0, _ => List.Pairwise.nil
  | k + 1, hi => by
    have ih := ring_sorted k fun i j a b => hi i j (by (first | lia | omega)) (by (first | lia | omega))
    have hc : (List.range k).countP (fun i => decide (f i < f k)) = (ring f k).countP (fun i => decide (f i < f k)) := ((ring_perm f k).countP_eq _).symm
    obtain ⟨c1, c2⟩ := sorted_cut (c := f k) ih
    show ((ring f k).take _ ++ k :: (ring f k).drop _).Pairwise _
    rw [hc]
    rw [← List.take_append_drop ((ring f k).countP fun i => decide (f i < f k)) (ring f k)] at ih
    obtain ⟨p1, p2, p3⟩ := List.pairwise_append.mp ih
    rw [List.pairwise_append]
    refine ⟨p1, List.pairwise_cons.mpr ⟨fun x hx => ?_, p2⟩, fun a ha b hb => ?_⟩
    · have := c2 x hx
      have hm : x < k := (ring_mem f k x).mp (List.mem_of_mem_drop hx)
      have hne : f k ≠ f x := fun e => by have := hi k x (by (first | lia | omega)) (by (first | lia | omega)) e; (first | lia | omega)
      (first | lia | omega)
    · rcases List.mem_cons.mp hb with rfl | hb
      · exact c1 a ha
      · exact p3 a ha b hb

theorem sorted_eq {f : Nat → Int} : ∀ {l l' : List Nat}, l.Pairwise (fun a b => f a < f b) → l'.Pairwise (fun a b => f a < f b) → (∀ x, x ∈ l ↔ x ∈ l') → l = l'
  | [], [], _, _, _ => rfl
  | [], b :: l', _, _, h => by have := (h b).mpr (List.mem_cons_self ..); cases this
  | a :: l, [], _, _, h => by have := (h a).mp (List.mem_cons_self ..); cases this
  | a :: l, b :: l', h1, h2, h => by
    obtain ⟨p1, p2⟩ := List.pairwise_cons.mp h1
    obtain ⟨q1, q2⟩ := List.pairwise_cons.mp h2
    have hab : a = b := by
      apply Decidable.byContradiction
      intro hne
      have m1 : a ∈ l' := by
        rcases List.mem_cons.mp ((h a).mp (List.mem_cons_self ..)) with e | e
        · exact absurd e hne
        · exact e
      have m2 : b ∈ l := by
        rcases List.mem_cons.mp ((h b).mpr (List.mem_cons_self ..)) with e | e
        · exact absurd e.symm hne
        · exact e
      have := p1 b m2
      have := q1 a m1
      (first | lia | omega)
    subst hab
    congr 1
    refine sorted_eq p2 q2 fun x => ⟨fun hx => ?_, fun hx => ?_⟩
    · rcases List.mem_cons.mp ((h x).mp (List.mem_cons_of_mem _ hx)) with e | e
      · subst e; have := p1 x hx; (first | lia | omega)
      · exact e
    · rcases List.mem_cons.mp ((h x).mpr (List.mem_cons_of_mem _ hx)) with e | e
      · subst e; have := q1 x hx; (first | lia | omega)
      · exact e

/-- the walk from i on, back to 0 -/
noncomputable def walk (n u v : Nat) : Nat → Nat → List Nat
  | 0, _ => []
  | f + 1, i => i :: (if succ n u v i = 0 then [] else walk n u v f (succ n u v i))
/-- the walk comes back -/
noncomputable def home (n u v : Nat) : Nat → Nat → Bool
  | 0, _ => false
  | f + 1, i => succ n u v i == 0 || home n u v f (succ n u v i)

theorem walk_ok (G : Gaps S d u v s t) (hu : u < n) (hv : v < n) (hn : n ≤ u + v) (M : Near S d s t n) : ∀ (f i : Nat), i < n → home n u v f i = true →
    (walk n u v f i).Pairwise (fun a b => pt S d a < pt S d b) ∧ (∀ x ∈ walk n u v f i, x < n ∧ pt S d i ≤ pt S d x) ∧ ∀ j, j < n → pt S d i ≤ pt S d j → j ∈ walk n u v f i
  | 0, i, _, h => by cases h
  | f + 1, i, hi, h => by
    obtain ⟨k1, k2, k3⟩ := succ_ok G hu hv M hn hi
    have lt := fun j => pt_lt (d := d) G.S0 j
    have g0 : 0 < gapOf n u v s t i := by
      have := G.s0
      have := G.t0
      unfold gapOf
      split
      · (first | lia | omega)
      · split <;> (first | lia | omega)
    have inj := fun a b ha hb => near_inj (i := a) (j := b) G.S0 G.s0 G.t0 M ha hb
    unfold walk
    unfold home at h
    by_cases hs : succ n u v i = 0
    · rw [if_pos hs] at k2 ⊢
      refine ⟨by simp, fun x hx => by simp at hx; subst hx; exact ⟨hi, Int.le_refl _⟩, fun j hj hij => ?_⟩
      have := k3 j hj
      have := lt j
      have e : pt S d i = pt S d j := by (first | lia | omega)
      have := inj i j hi hj e
      simp [this]
    · rw [if_neg hs] at k2 ⊢
      have hh : home n u v f (succ n u v i) = true := by
        rcases Bool.or_eq_true_iff.mp h with q | q
        · exact absurd (by simpa using q) hs
        · exact q
      obtain ⟨w1, w2, w3⟩ := walk_ok G hu hv hn M f _ k1 hh
      refine ⟨List.pairwise_cons.mpr ⟨fun x hx => ?_, w1⟩, fun x hx => ?_, fun j hj hij => ?_⟩
      · have := (w2 x hx).2
        (first | lia | omega)
      · rcases List.mem_cons.mp hx with rfl | hx
        · exact ⟨hi, Int.le_refl _⟩
        · have := w2 x hx
          exact ⟨this.1, by (first | lia | omega)⟩
      · by_cases e : pt S d i = pt S d j
        · have := inj i j hi hj e
          simp [this]
        · have := k3 j hj
          exact List.mem_cons_of_mem _ (w3 j hj (by (first | lia | omega)))

theorem ring_walk (G : Gaps S d u v s t) (hu : u < n) (hv : v < n) (hn : n ≤ u + v) (M : Near S d s t n) (h : home n u v n 0 = true) : ring (pt S d) n = walk n u v n 0 := by
  obtain ⟨w1, w2, w3⟩ := walk_ok G hu hv hn M n 0 (by have := G.u0; (first | lia | omega)) h
  refine sorted_eq (ring_sorted n fun i j hi hj => near_inj G.S0 G.s0 G.t0 M hi hj) w1 fun x => ?_
  rw [ring_mem]
  refine ⟨fun hx => w3 x hx ?_, fun hx => (w2 x hx).1⟩
  rw [pt_zero]
  exact pt_nonneg G.S0 x

/-- the ring with the point behind the last -/
theorem ring_beyond (G : Gaps S d u v s t) (M : Near S d s t (u + v)) :
    (t < s → ring (pt S d) (u + v + 1) = (ring (pt S d) (u + v)).take 1 ++ (u + v) :: (ring (pt S d) (u + v)).drop 1) ∧
    (s < t → ring (pt S d) (u + v + 1) = ring (pt S d) (u + v) ++ [u + v]) ∧ (s = t → ring (pt S d) (u + v + 1) = (u + v) :: ring (pt S d) (u + v)) := by
  obtain ⟨b1, b2, b3⟩ := G.beyond
  have u0 := G.u0
  have v0 := G.v0
  have s0 := G.s0
  have t0 := G.t0
  have hr : List.range (u + v) = 0 :: (List.range (u + v - 1)).map (· + 1) := by
    obtain ⟨k, hk⟩ : ∃ k, u + v = k + 1 := ⟨u + v - 1, by (first | lia | omega)⟩
    rw [hk, Nat.add_sub_cancel, List.range_succ_eq_map]
  refine ⟨fun h => ?_, fun h => ?_, fun h => ?_⟩
  · have hc : (List.range (u + v)).countP (fun i => decide (pt S d i < pt S d (u + v))) = 1 := by
      rw [hr, List.countP_cons, pt_zero, b1 h]
      have : ((List.range (u + v - 1)).map (· + 1)).countP (fun i => decide (pt S d i < s - t)) = 0 := by
        rw [List.countP_eq_zero]
        intro x hx
        obtain ⟨y, hy, rfl⟩ := List.mem_map.mp hx
        rw [List.mem_range] at hy
        have := M (y + 1) (by (first | lia | omega)) (by (first | lia | omega))
        simp; (first | lia | omega)
      rw [this, if_pos (by simp; (first | lia | omega))]
    show (ring (pt S d) (u + v)).take _ ++ (u + v) :: (ring (pt S d) (u + v)).drop _ = _
    rw [hc]
  · have hc : (List.range (u + v)).countP (fun i => decide (pt S d i < pt S d (u + v))) = u + v := by
      have : (List.range (u + v)).countP (fun i => decide (pt S d i < pt S d (u + v))) = (List.range (u + v)).length := by
        rw [List.countP_eq_length]
        intro x hx
        rw [List.mem_range] at hx
        rw [b2 h]
        by_cases h0 : x = 0
        · subst h0
          rw [pt_zero]
          have := (M v v0 (by (first | lia | omega))).1
          have := G.pv
          simp; (first | lia | omega)
        · have := M x (by (first | lia | omega)) hx
          simp; (first | lia | omega)
      rw [this, List.length_range]
    show (ring (pt S d) (u + v)).take _ ++ (u + v) :: (ring (pt S d) (u + v)).drop _ = _
    rw [hc, List.take_of_length_le (by rw [ring_length]; exact Nat.le_refl _), List.drop_of_length_le (by rw [ring_length]; exact Nat.le_refl _)]
  · have hc : (List.range (u + v)).countP (fun i => decide (pt S d i < pt S d (u + v))) = 0 := by
      rw [List.countP_eq_zero]
      intro x hx
      rw [b3 h]
      have := pt_nonneg (d := d) G.S0 x
      simp; (first | lia | omega)
    show (ring (pt S d) (u + v)).take _ ++ (u + v) :: (ring (pt S d) (u + v)).drop _ = _
    rw [hc]; rfl
end
end Mine
namespace Mine
open PySem
/-! the interpreter's rules, forward -/
section
variable {n k0 : Nat} {c : Cfg} {ρ ρ' ρ'' : Loc} {μ μ₁ μ₂ μ₃ μ₄ : Mem} {a b v : V} {p q : Pos} {R : Option (V × Mem)} {x : Str}

theorem ev_int {i : Int} {k} : ev (n + 1) c ρ (.Constant (.int i) k p) μ = some (vint i, μ) := rfl
theorem ev_bool {i : Bool} {k} : ev (n + 1) c ρ (.Constant (.bool i) k p) μ = some (vbool i, μ) := rfl
theorem ev_none {k} : ev (n + 1) c ρ (.Constant .none k p) μ = some (vnone, μ) := rfl
theorem newStr_ok {z : Str} (h : z.length ≤ lim) : newStr z μ = some (vstr z, μ) := if_pos h
theorem newList_ok {l : List V} (h : l.length ≤ lim) : newList l μ = some (.lst μ.length, μ ++ [l]) := if_pos h
theorem newItems_ok {l : List V} (h1 : l.all notLst = true) (h : l.length ≤ lim) : newItems l μ = some (.lst μ.length, μ ++ [l]) := (if_pos h1).trans (if_pos h)
theorem ev_str {z : Str} {k} (h : z.length ≤ lim) : ev (n + 1) c ρ (.Constant (.str z) k p) μ = some (vstr z, μ) := newStr_ok h
theorem ev_loc (h1 : c.names.lookup x = some .local) (h2 : ρ.lookup x = some v) : ev (n + 1) c ρ (.Name x p) μ = some (v, μ) := by
  show (match c.names.lookup x with | some .local => (ρ.lookup x).map (·, μ) | some .cell => (ρ.lookup x).map (·, μ) | some .globalImplicit => if x = ("ELLIPSIS_MARKER" : Str) then newStr c.marker μ else none | _ => none) = _
  rw [h1, h2]; rfl
theorem ev_cell (h1 : c.names.lookup x = some .cell) (h2 : ρ.lookup x = some v) : ev (n + 1) c ρ (.Name x p) μ = some (v, μ) := by
  show (match c.names.lookup x with | some .local => (ρ.lookup x).map (·, μ) | some .cell => (ρ.lookup x).map (·, μ) | some .globalImplicit => if x = ("ELLIPSIS_MARKER" : Str) then newStr c.marker μ else none | _ => none) = _
  rw [h1, h2]; rfl
theorem ev_binop {l r : Expr} {op : Operator} (h1 : ev n c ρ l μ = some (a, μ₁)) (h2 : ev n c ρ r μ₁ = some (b, μ₂)) (h3 : binop op a b μ₂ = R) : ev (n + 1) c ρ (.BinOp l op r p) μ = R := by
  show ((ev n c ρ l μ).bind fun a => (ev n c ρ r a.2).bind fun b => binop op a.1 b.1 b.2) = R
  rw [h1]; show ((ev n c ρ r μ₁).bind fun b => binop op a b.1 b.2) = R; rw [h2]; exact h3
theorem ev_neg {e : Expr} {i : Int} {o : Bool} (h1 : ev n c ρ e μ = some (.a0 (.int i o), μ₁)) : ev (n + 1) c ρ (.UnaryOp .USub e p) μ = some (vint (-i), μ₁) := by
  show ((ev n c ρ e μ).bind fun a => (asInt? a.1).bind fun i => some (vint (-i), a.2)) = _
  rw [h1]; rfl
theorem ev_if {t e f : Expr} {b : Bool} (h1 : tr n c ρ t μ = some (b, μ₁)) (h2 : (if b then ev n c ρ e μ₁ else ev n c ρ f μ₁) = R) : ev (n + 1) c ρ (.IfExp t e f p) μ = R := by
  show ((tr n c ρ t μ).bind fun a => if a.1 then ev n c ρ e a.2 else ev n c ρ f a.2) = R
  rw [h1]; exact h2
theorem ev_cmp {l r : Expr} {op : CmpOp} (h1 : cmpE n c ρ l op r μ = R) : ev (n + 1) c ρ (.Compare l [op] [r] p) μ = R := h1
theorem evs_nil {f : Expr → Mem → Option (V × Mem)} : evs f [] μ = some ([], μ) := rfl
theorem evs_cons {f : Expr → Mem → Option (V × Mem)} {e : Expr} {r : List Expr} {vs : List V} (h1 : f e μ = some (v, μ₁)) (h2 : evs f r μ₁ = some (vs, μ₂)) : evs f (e :: r) μ = some (v :: vs, μ₂) := by
  show ((f e μ).bind fun a => (evs f r a.2).bind fun b => some (a.1 :: b.1, b.2)) = _
  rw [h1]; show ((evs f r μ₁).bind fun b => some (v :: b.1, b.2)) = _; rw [h2]; rfl
theorem ev_list {es : List Expr} {vs : List V} (h1 : evs (ev n c ρ) es μ = some (vs, μ₁)) (h2 : newItems vs μ₁ = R) : ev (n + 1) c ρ (.List es p) μ = R := by
  show ((evs (ev n c ρ) es μ).bind fun a => newItems a.1 a.2) = R
  rw [h1]; exact h2
theorem ev_tuple {es : List Expr} {vs : List V} {as : List A0} {k : Nat} (h1 : evs (ev n c ρ) es μ = some (vs, μ₁)) (h2 : allAtoms vs = some as) (h3 : as.length ≤ 8) : ev (n + 1) c ρ (.Tuple es k p) μ = some (.tup as, μ₁) := by
  show ((evs (ev n c ρ) es μ).bind fun a => (allAtoms a.1).bind fun as => if as.length ≤ 8 then some (V.tup as, a.2) else none) = _
  rw [h1]; show ((allAtoms vs).bind _) = _; rw [h2]; exact if_pos h3
theorem evo_none {f : Expr → Mem → Option (V × Mem)} : evo f none μ = some (none, μ) := rfl
theorem evo_some {f : Expr → Mem → Option (V × Mem)} {e : Expr} {i : Int} {o : Bool} (h : f e μ = some (.a0 (.int i o), μ₁)) : evo f (some e) μ = some (some i, μ₁) := by
  show ((f e μ).bind fun a => (asInt? a.1).bind fun i => some (some i, a.2)) = _
  rw [h]; rfl
theorem ev_slice {e : Expr} {l u s : Option Expr} {lo hi st : Option Int} (h1 : ev n c ρ e μ = some (v, μ₁)) (h2 : evo (ev n c ρ) l μ₁ = some (lo, μ₂)) (h3 : evo (ev n c ρ) u μ₂ = some (hi, μ₃)) (h4 : evo (ev n c ρ) s μ₃ = some (st, μ₄))
    (h5 : slice v lo hi st μ₄ = R) : ev (n + 1) c ρ (.Subscript e (.Slice l u s q) p) μ = R := by
  show ((ev n c ρ e μ).bind fun a => (evo (ev n c ρ) l a.2).bind fun lo => (evo (ev n c ρ) u lo.2).bind fun hi => (evo (ev n c ρ) s hi.2).bind fun st => slice a.1 lo.1 hi.1 st.1 st.2) = R
  rw [h1]; show ((evo (ev n c ρ) l μ₁).bind _) = R; rw [h2]; show ((evo (ev n c ρ) u μ₂).bind _) = R; rw [h3]; show ((evo (ev n c ρ) s μ₃).bind _) = R; rw [h4]; exact h5
noncomputable def notSlice : Expr → Bool
  | .Slice _ _ _ _ => false
  | _ => true
theorem ev_index {e i : Expr} (hs : notSlice i = true) (h1 : ev n c ρ e μ = some (a, μ₁)) (h2 : ev n c ρ i μ₁ = some (b, μ₂)) (h3 : index a b μ₂ = some v) : ev (n + 1) c ρ (.Subscript e i p) μ = some (v, μ₂) := by
  have : ev (n + 1) c ρ (.Subscript e i p) μ = ((ev n c ρ e μ).bind fun a => (ev n c ρ i a.2).bind fun b => (index a.1 b.1 b.2).map (·, b.2)) := by
    cases i <;> first | rfl | cases hs
  rw [this, h1]; show ((ev n c ρ i μ₁).bind _) = _; rw [h2]; show ((index a b μ₂).map _) = _; rw [h3]; rfl
theorem ev_call {f : Str} {args : List Expr} (h1 : c.isGlob f = true) (h2 : callE n c ρ f args μ = R) : ev (n + 1) c ρ (.Call (.Name f q) args [] p) μ = R := by
  show (if c.isGlob f then callE n c ρ f args μ else none) = R
  rw [if_pos h1]; exact h2
theorem ev_meth {o : Expr} {m : Str} {ap : Pos} {args : List Expr} (h1 : ((ap.endLine == p.line) && plainBase o && decide (args.length < 8)) = true) (h2 : methE n c ρ o m args μ = R) : ev (n + 1) c ρ (.Call (.Attribute o m ap) args [] p) μ = R := by
  show (if (ap.endLine == p.line) && plainBase o && decide (args.length < 8) then methE n c ρ o m args μ else none) = R
  rw [if_pos h1]; exact h2
theorem callE_b {f : Str} {args : List Expr} {vs : List V} (h0 : (f == ("isinstance" : Str)) = false) (h0' : (f == ("list" : Str)) = false) (h1 : evs (ev n c ρ) args μ = some (vs, μ₁)) (h2 : bcall f vs μ₁ = some (v, μ₂)) : callE (n + 1) c ρ f args μ = some (v, μ₂) := by
  have e1 : ¬ f = ("isinstance" : Str) := by simpa using h0
  have e2 : ¬ f = ("list" : Str) := by simpa using h0'
  unfold callE
  rw [if_neg e1, if_neg e2, h1]
  show (match bcall f vs μ₁ with | some r => some r | none => c.call f vs μ₁) = _
  rw [h2]
theorem callE_d {f : Str} {args : List Expr} {vs : List V} (h0 : (f == ("isinstance" : Str)) = false) (h0' : (f == ("list" : Str)) = false) (h1 : evs (ev n c ρ) args μ = some (vs, μ₁)) (h2 : bcall f vs μ₁ = none) (h3 : c.call f vs μ₁ = R) : callE (n + 1) c ρ f args μ = R := by
  have e1 : ¬ f = ("isinstance" : Str) := by simpa using h0
  have e2 : ¬ f = ("list" : Str) := by simpa using h0'
  unfold callE
  rw [if_neg e1, if_neg e2, h1]
  show (match bcall f vs μ₁ with | some r => some r | none => c.call f vs μ₁) = _
  rw [h2]; exact h3
theorem methE_m {o : Expr} {m : Str} {args : List Expr} {vs : List V} (h0 : (m == ("get" : Str)) = false) (h1 : ev n c ρ o μ = some (a, μ₁)) (h2 : evs (ev n c ρ) args μ₁ = some (vs, μ₂)) (h3 : mcall a m vs μ₂ = R) : methE (n + 1) c ρ o m args μ = R := by
  have e1 : ¬ m = ("get" : Str) := by simpa using h0
  unfold methE
  rw [if_neg e1, h1]
  show ((evs (ev n c ρ) args μ₁).bind _) = R
  rw [h2]; exact h3
noncomputable def globName (c : Cfg) : Expr → Bool
  | .Name x _ => c.isGlob x
  | _ => false
theorem cmpE_2 {l r : Expr} {op : CmpOp} {t : Bool} (h0 : globName c r = false) (h1 : ev n c ρ l μ = some (a, μ₁)) (h2 : ev n c ρ r μ₁ = some (b, μ₂)) (h3 : cmpop op a b = some t) : cmpE (n + 1) c ρ l op r μ = some (vbool t, μ₂) := by
  have : cmpE (n + 1) c ρ l op r μ = ((ev n c ρ l μ).bind fun a => (ev n c ρ r a.2).bind fun b => (cmpop op a.1 b.1).map (vbool ·, b.2)) := by
    unfold cmpE
    split
    · rename_i z q
      have hz : c.isGlob z = false := h0
      rw [if_neg (by rw [hz]; exact Bool.false_ne_true)]
    · rfl
  rw [this, h1]; show ((ev n c ρ r μ₁).bind _) = _; rw [h2]; show ((cmpop op a b).map _) = _; rw [h3]; rfl
theorem cmpE_glob {l : Expr} {i : Int} {o : Bool} (h0 : c.isGlob ("b1_set" : Str) = true) (h1 : ev n c ρ l μ = some (.a0 (.int i o), μ₁)) : cmpE (n + 1) c ρ l .In (.Name "b1_set" q) μ = some (vbool (c.inSet i), μ₁) := by
  have : cmpE (n + 1) c ρ l .In (.Name "b1_set" q) μ = ((ev n c ρ l μ).bind fun a => (asInt? a.1).bind fun i => some (vbool (c.inSet i), a.2)) := by
    unfold cmpE
    dsimp only
    rw [if_pos h0, if_pos rfl]
  rw [this, h1]; rfl
theorem tr_cmp {l r : Expr} {op : CmpOp} {t : Bool} (h1 : cmpE n c ρ l op r μ = some (v, μ₁)) (h2 : truth v = some t) : tr (n + 1) c ρ (.Compare l [op] [r] p) μ = some (t, μ₁) := by
  show ((cmpE n c ρ l op r μ).bind fun a => (truth a.1).map (·, a.2)) = _
  rw [h1]; show ((truth v).map _) = _; rw [h2]; rfl
theorem tr_name {t : Bool} (h1 : ev n c ρ (.Name x p) μ = some (v, μ₁)) (h2 : truth v = some t) : tr (n + 1) c ρ (.Name x p) μ = some (t, μ₁) := by
  show ((ev n c ρ (.Name x p) μ).bind fun a => (truth a.1).map (·, a.2)) = _
  rw [h1]; show ((truth v).map _) = _; rw [h2]; rfl
theorem tr_call {f : Expr} {as : List Expr} {ks : List Keyword} {t : Bool} (h1 : ev n c ρ (.Call f as ks p) μ = some (v, μ₁)) (h2 : truth v = some t) : tr (n + 1) c ρ (.Call f as ks p) μ = some (t, μ₁) := by
  show ((ev n c ρ (.Call f as ks p) μ).bind fun a => (truth a.1).map (·, a.2)) = _
  rw [h1]; show ((truth v).map _) = _; rw [h2]; rfl
theorem tr_not {e : Expr} {t : Bool} (h1 : tr n c ρ e μ = some (t, μ₁)) : tr (n + 1) c ρ (.UnaryOp .Not e p) μ = some (!t, μ₁) := by
  show ((tr n c ρ e μ).map fun a => (!a.1, a.2)) = _
  rw [h1]; rfl
theorem tr_bool {op : BoolOp} {es : List Expr} {R : Option (Bool × Mem)} (h1 : trs n c ρ op es μ = R) : tr (n + 1) c ρ (.BoolOp op es p) μ = R := h1

/-! statements -/
theorem exs_nil {f : Stmt → Loc → Mem → Option (Fl × Loc × Mem)} : exsG f [] ρ μ = some (.next, ρ, μ) := rfl
theorem exs_next {f : Stmt → Loc → Mem → Option (Fl × Loc × Mem)} {st : Stmt} {r sts : List Stmt} {R : Option (Fl × Loc × Mem)} (h0 : sts = st :: r) (h1 : f st ρ μ = some (.next, ρ', μ₁)) (h2 : exsG f r ρ' μ₁ = R) : exsG f sts ρ μ = R := by
  subst h0
  show ((f st ρ μ).bind _) = R
  rw [h1]; exact h2
theorem exs_ret {f : Stmt → Loc → Mem → Option (Fl × Loc × Mem)} {st : Stmt} {r sts : List Stmt} (h0 : sts = st :: r) (h1 : f st ρ μ = some (.ret v, ρ', μ₁)) : exsG f sts ρ μ = some (.ret v, ρ', μ₁) := by
  subst h0
  show ((f st ρ μ).bind _) = _
  rw [h1]; rfl
theorem ex_assign {px sp : Pos} {e : Expr} (h0 : (c.isLoc x && useGood c x px sp e) = true) (h1 : ev n c ρ e μ = some (v, μ₁)) : ex (n + 1) k0 c (.Assign [.Name x px] e sp) ρ μ = some (.next, upd x v ρ, μ₁) := by
  show (if c.isLoc x && useGood c x px sp e then (ev n c ρ e μ).bind fun a => some (Fl.next, upd x a.1 ρ, a.2) else none) = _
  rw [if_pos h0, h1]; rfl
theorem ex_return {e : Expr} (h1 : ev n c ρ e μ = some (v, μ₁)) : ex (n + 1) k0 c (.Return (some e) p) ρ μ = some (.ret v, ρ, μ₁) := by
  show ((ev n c ρ e μ).bind fun a => some (Fl.ret a.1, ρ, a.2)) = _
  rw [h1]; rfl
theorem ex_if {t : Expr} {b o : List Stmt} {tv : Bool} {R : Option (Fl × Loc × Mem)} (h1 : tr n c ρ t μ = some (tv, μ₁)) (h2 : (if tv then exsG (ex n k0 c) b ρ μ₁ else exsG (ex n k0 c) o ρ μ₁) = R) : ex (n + 1) k0 c (.If t b o p) ρ μ = R := by
  show ((tr n c ρ t μ).bind fun a => if a.1 then exsG (ex n k0 c) b ρ a.2 else exsG (ex n k0 c) o ρ a.2) = R
  rw [h1]; exact h2
theorem ex_assert {t : Expr} {m : Option Expr} (h1 : tr n c ρ t μ = some (true, μ₁)) : ex (n + 1) k0 c (.Assert t m p) ρ μ = some (.next, ρ, μ₁) := by
  show ((tr n c ρ t μ).bind fun a => if a.1 then some (Fl.next, ρ, a.2) else none) = _
  rw [h1]; rfl
theorem ex_append {ap cp sp : Pos} {o e : Expr} {i : Nat} {l : List V} (h0 : (ap.endLine == cp.line) = true ∧ plainBase o = true) (h1 : ev n c ρ o μ = some (.lst i, μ₁)) (h2 : ev n c ρ e μ₁ = some (v, μ₂)) (hv : notLst v = true) (hi : k0 ≤ i) (hl : μ₂[i]? = some l) (hn : l.length < lim) :
    ex (n + 1) k0 c (.Expr (.Call (.Attribute o "append" ap) [e] [] cp) sp) ρ μ = some (.next, ρ, μ₂.set i (l ++ [v])) := by
  show (if (ap.endLine == cp.line) = true ∧ plainBase o = true then (ev n c ρ o μ).bind fun a => (ev n c ρ e a.2).bind fun b => (match a.1 with
        | .lst i => if notLst b.1 = true ∧ k0 ≤ i then (b.2[i]?).bind fun l => if l.length < lim then some (Fl.next, ρ, b.2.set i (l ++ [b.1])) else none else none
        | _ => none) else none) = _
  rw [if_pos h0, h1]
  show ((ev n c ρ e μ₁).bind _) = _
  rw [h2]
  show (if notLst v = true ∧ k0 ≤ i then (μ₂[i]?).bind fun l => if l.length < lim then some (Fl.next, ρ, μ₂.set i (l ++ [v])) else none else none) = _
  rw [if_pos ⟨hv, hi⟩, hl]
  exact if_pos hn
theorem run_def {d : Def} {args : List V} {R : Option (V × Mem)} (h0 : d.params.length = args.length) (h1 : ((exsG (ex n μ.length { c with names := d.names }) d.body (d.params.zip args) μ).bind fun a => (match a.1 with
    | .next => some (vnone, a.2.2)
    | .ret v => some (v, a.2.2))) = R) : runDef n c d args μ = R := by
  unfold runDef
  rw [if_pos h0]; exact h1
theorem run_ret {d : Def} {args : List V} {ρ' : Loc} {μ' : Mem} (h0 : d.params.length = args.length) (h1 : exsG (ex n μ.length { c with names := d.names }) d.body (d.params.zip args) μ = some (.ret v, ρ', μ')) : runDef n c d args μ = some (v, μ') := by
  unfold runDef
  rw [if_pos h0, h1]; rfl
theorem ex_for {tgt iter : Expr} {body orelse : List Stmt} {sr : Src} {R : Option (Fl × Loc × Mem)} (h0 : (locT c tgt && ((isEnum iter).isNone || isTupT tgt)) = true) (h1 : src n c ρ iter μ = some (sr, μ₁))
    (h2 : forGo (exsG (ex n k0 c) body) tgt sr.chk sr.items ρ μ₁ = some (.next, ρ', μ₂)) (h3 : exsG (ex n k0 c) orelse ρ' μ₂ = R) : ex (n + 1) k0 c (.For tgt iter body orelse p) ρ μ = R := by
  show (if (locT c tgt && ((isEnum iter).isNone || isTupT tgt)) then (src n c ρ iter μ).bind fun s => (forGo (exsG (ex n k0 c) body) tgt s.1.chk s.1.items ρ s.2).bind fun a => (match a.1 with
        | .next => exsG (ex n k0 c) orelse a.2.1 a.2.2
        | .ret w => some (Fl.ret w, a.2)) else none) = R
  rw [if_pos h0, h1]
  show ((forGo (exsG (ex n k0 c) body) tgt sr.chk sr.items ρ μ₁).bind _) = R
  rw [h2]; exact h3
theorem ex_for_ret {tgt iter : Expr} {body orelse : List Stmt} {sr : Src} (h0 : (locT c tgt && ((isEnum iter).isNone || isTupT tgt)) = true) (h1 : src n c ρ iter μ = some (sr, μ₁))
    (h2 : forGo (exsG (ex n k0 c) body) tgt sr.chk sr.items ρ μ₁ = some (.ret v, ρ', μ₂)) : ex (n + 1) k0 c (.For tgt iter body orelse p) ρ μ = some (.ret v, ρ', μ₂) := by
  show (if (locT c tgt && ((isEnum iter).isNone || isTupT tgt)) then (src n c ρ iter μ).bind fun s => (forGo (exsG (ex n k0 c) body) tgt s.1.chk s.1.items ρ s.2).bind fun a => (match a.1 with
        | .next => exsG (ex n k0 c) orelse a.2.1 a.2.2
        | .ret w => some (Fl.ret w, a.2)) else none) = _
  rw [if_pos h0, h1]
  show ((forGo (exsG (ex n k0 c) body) tgt sr.chk sr.items ρ μ₁).bind _) = _
  rw [h2]; rfl
theorem src_name {m : Nat} {l : List V} (h1 : ev n c ρ (.Name x p) μ = some (.lst m, μ₁)) (h2 : μ₁[m]? = some l) : src (n + 1) c ρ (.Name x p) μ = some (⟨l, some (m, l)⟩, μ₁) := by
  show ((ev n c ρ (.Name x p) μ).bind fun a => (match a.1 with
          | .lst m => (a.2[m]?).map fun l => ((⟨l, some (m, l)⟩ : Src), a.2)
          | _ => none)) = _
  rw [h1]; show ((μ₁[m]?).map _) = _; rw [h2]; rfl
theorem src_range {args : List Expr} {vs l : List V} (h0 : c.isGlob ("range" : Str) = true) (h1 : evs (ev n c ρ) args μ = some (vs, μ₁)) (h2 : srcRange vs = some l) : src (n + 1) c ρ (.Call (.Name "range" q) args [] p) μ = some (⟨l, none⟩, μ₁) := by
  show (if c.isGlob ("range" : Str) then (evs (ev n c ρ) args μ).bind fun a => (srcRange a.1).map fun l => ((⟨l, none⟩ : Src), a.2) else none) = _
  rw [if_pos h0, h1]; show ((srcRange vs).map _) = _; rw [h2]; rfl
theorem src_enum {e : Expr} {m : Nat} {l es : List V} (h0 : c.isGlob ("enumerate" : Str) = true) (h1 : ev n c ρ e μ = some (.lst m, μ₁)) (h2 : μ₁[m]? = some l) (h3 : enumV l = some es) :
    src (n + 1) c ρ (.Call (.Name "enumerate" q) [e] [] p) μ = some (⟨es, some (m, l)⟩, μ₁) := by
  show (if c.isGlob ("enumerate" : Str) then (ev n c ρ e μ).bind fun a => (match a.1 with
          | .lst m => (a.2[m]?).bind fun l => (enumV l).map fun es => ((⟨es, some (m, l)⟩ : Src), a.2)
          | _ => none) else none) = _
  rw [if_pos h0, h1]; show ((μ₁[m]?).bind _) = _; rw [h2]; show ((enumV l).map _) = _; rw [h3]; rfl
theorem for_nil {f : Loc → Mem → Option (Fl × Loc × Mem)} {tgt : Expr} {k : Option (Nat × List V)} (h : okSrc k μ = true) : forGo f tgt k [] ρ μ = some (.next, ρ, μ) := if_pos h
theorem for_next {f : Loc → Mem → Option (Fl × Loc × Mem)} {tgt : Expr} {k : Option (Nat × List V)} {r : List V} {bs : List (Str × V)} {R : Option (Fl × Loc × Mem)} (h : okSrc k μ = true) (h1 : bindT tgt v = some bs) (h2 : f (updAll bs ρ) μ = some (.next, ρ', μ₁)) (h3 : forGo f tgt k r ρ' μ₁ = R) : forGo f tgt k (v :: r) ρ μ = R := by
  show (if okSrc k μ then (bindT tgt v).bind fun bs => (f (updAll bs ρ) μ).bind fun a => (match a.1 with
      | .next => forGo f tgt k r a.2.1 a.2.2
      | .ret w => some (Fl.ret w, a.2)) else none) = R
  rw [if_pos h, h1]; show ((f (updAll bs ρ) μ).bind _) = R; rw [h2]; exact h3
theorem for_ret {f : Loc → Mem → Option (Fl × Loc × Mem)} {tgt : Expr} {k : Option (Nat × List V)} {r : List V} {bs : List (Str × V)} (h : okSrc k μ = true) (h1 : bindT tgt v = some bs) (h2 : f (updAll bs ρ) μ = some (.ret a, ρ', μ₁)) : forGo f tgt k (v :: r) ρ μ = some (.ret a, ρ', μ₁) := by
  show (if okSrc k μ then (bindT tgt v).bind fun bs => (f (updAll bs ρ) μ).bind fun a => (match a.1 with
      | .next => forGo f tgt k r a.2.1 a.2.2
      | .ret w => some (Fl.ret w, a.2)) else none) = _
  rw [if_pos h, h1]; show ((f (updAll bs ρ) μ).bind _) = _; rw [h2]; rfl
theorem trs_isEq {l r l' r' : Expr} {p1 p2 : Pos} {t : Bool} (h1 : ev n c ρ l μ = some (a, μ)) (h2 : ev n c ρ r μ = some (b, μ)) (h3 : ev n c ρ l' μ = some (a, μ)) (h4 : ev n c ρ r' μ = some (b, μ)) (h5 : isOrEq a b = some t) :
    trs (n + 1) c ρ .Or [.Compare l [.Is] [r] p1, .Compare l' [.Eq] [r'] p2] μ = some (t, μ) := by
  show ((ev n c ρ l μ).bind fun a => (ev n c ρ r a.2).bind fun b => (ev n c ρ l' b.2).bind fun a' => (ev n c ρ r' a'.2).bind fun b' =>
          if b.2 = μ ∧ b'.2 = μ ∧ a'.1 = a.1 ∧ b'.1 = b.1 then (isOrEq a.1 b.1).map (·, μ) else none) = _
  rw [h1]; show ((ev n c ρ r μ).bind _) = _; rw [h2]; show ((ev n c ρ l' μ).bind _) = _; rw [h3]; show ((ev n c ρ r' μ).bind _) = _; rw [h4]
  show (if μ = μ ∧ μ = μ ∧ a = a ∧ b = b then (isOrEq a b).map (·, μ) else none) = _
  rw [if_pos ⟨rfl, rfl, rfl, rfl⟩, h5]; rfl
theorem ex_aug {np sp : Pos} {e : Expr} {i j : Int} {o o' : Bool} (h0 : c.isLoc x = true) (h1 : ρ.lookup x = some (.a0 (.int i o))) (h2 : ev n c ρ e μ = some (.a0 (.int j o'), μ₁)) : ex (n + 1) k0 c (.AugAssign (.Name x np) .Add e sp) ρ μ = some (.next, upd x (vint (i + j)) ρ, μ₁) := by
  show (if c.isLoc x then (match ρ.lookup x with
        | some (.a0 (.int i _)) => (ev n c ρ e μ).bind fun a => (asInt? a.1).bind fun j => some (Fl.next, upd x (vint (i + j)) ρ, a.2)
        | _ => none) else none) = _
  rw [if_pos h0, h1]
  show ((ev n c ρ e μ).bind _) = _
  rw [h2]; rfl
theorem ex_aug_sub {np sp : Pos} {e : Expr} {i j : Int} {o o' : Bool} (h0 : c.isLoc x = true) (h1 : ρ.lookup x = some (.a0 (.int i o))) (h2 : ev n c ρ e μ = some (.a0 (.int j o'), μ₁)) : ex (n + 1) k0 c (.AugAssign (.Name x np) .Sub e sp) ρ μ = some (.next, upd x (vint (i - j)) ρ, μ₁) := by
  show (if c.isLoc x then (match ρ.lookup x with
        | some (.a0 (.int i _)) => (ev n c ρ e μ).bind fun a => (asInt? a.1).bind fun j => some (Fl.next, upd x (vint (i - j)) ρ, a.2)
        | _ => none) else none) = _
  rw [if_pos h0, h1]
  show ((ev n c ρ e μ).bind _) = _
  rw [h2]; rfl
theorem ex_if_t {t : Expr} {b o : List Stmt} {R : Option (Fl × Loc × Mem)} (h1 : tr n c ρ t μ = some (true, μ₁)) (h2 : exsG (ex n k0 c) b ρ μ₁ = R) : ex (n + 1) k0 c (.If t b o p) ρ μ = R := ex_if h1 h2
theorem ex_if_f {t : Expr} {b o : List Stmt} {R : Option (Fl × Loc × Mem)} (h1 : tr n c ρ t μ = some (false, μ₁)) (h2 : exsG (ex n k0 c) o ρ μ₁ = R) : ex (n + 1) k0 c (.If t b o p) ρ μ = R := ex_if h1 h2
theorem ev_if_t {t e f : Expr} (h1 : tr n c ρ t μ = some (true, μ₁)) (h2 : ev n c ρ e μ₁ = R) : ev (n + 1) c ρ (.IfExp t e f p) μ = R := ev_if h1 h2
theorem ev_if_f {t e f : Expr} (h1 : tr n c ρ t μ = some (false, μ₁)) (h2 : ev n c ρ f μ₁ = R) : ev (n + 1) c ρ (.IfExp t e f p) μ = R := ev_if h1 h2
end
end Mine
namespace Mine
open PySem
theorem upd_get (x : Str) (v : V) : ∀ (ρ : Loc) (y : Str), (upd x v ρ).lookup y = if y = x then some v else ρ.lookup y
  | [], y => by
    unfold upd
    by_cases h : y = x
    · subst h; simp
    · simp [h, List.lookup_cons, beq_eq_false_iff_ne.mpr h]
  | (z, w) :: r, y => by
    unfold upd
    by_cases hz : x = z
    · subst hz
      by_cases h : y = x
      · subst h; simp
      · simp [h, List.lookup_cons, beq_eq_false_iff_ne.mpr h]
    · rw [if_neg hz]
      by_cases h : y = z
      · subst h
        have : ¬ y = x := fun e => hz e.symm
        simp [this]
      · simp only [List.lookup_cons, beq_eq_false_iff_ne.mpr h]
        exact upd_get x v r y
noncomputable abbrev at_ (ρ : Loc) (x : Str) : Option V := ρ.lookup x
theorem upd_same {x : Str} {v : V} {ρ : Loc} : (upd x v ρ).lookup x = some v := by rw [upd_get, if_pos rfl]
theorem upd_ne {x y : Str} {v : V} {ρ : Loc} {r : Option V} (h : ¬ y = x) (h2 : ρ.lookup y = r) : (upd x v ρ).lookup y = r := by rw [upd_get, if_neg h]; exact h2

section
variable {μ : Mem}
theorem call_lt {i j : Int} {oi oj : Bool} : callT "lt" [.a0 (.int i oi), .a0 (.int j oj)] μ = some (vbool (decide (i < j)), μ) := by kernel_rfl
theorem call_gt {i j : Int} {oi oj : Bool} : callT "gt" [.a0 (.int i oi), .a0 (.int j oj)] μ = some (vbool (decide (j < i)), μ) := by kernel_rfl
theorem call_add {i j : Int} {oi oj : Bool} : callT "add" [.a0 (.int i oi), .a0 (.int j oj)] μ = some (vint (i + j), μ) := by kernel_rfl
theorem call_sub {i j : Int} {oi oj : Bool} : callT "sub" [.a0 (.int i oi), .a0 (.int j oj)] μ = some (vint (i - j), μ) := by kernel_rfl
theorem call_b1 {c : Nat} : callT "in_table_b1" [vstr ⟨#[c]⟩] μ = some (vbool (b1list.contains (c : Int)), μ) := by kernel_rfl

theorem binop_mod {i j : Int} {oi oj : Bool} (h : j ≠ 0) : binop .Mod (.a0 (.int i oi)) (.a0 (.int j oj)) μ = some (vint (i.fmod j), μ) := by
  show ((if j = 0 then none else some (i.fmod j)).map fun k => (vint k, μ)) = _
  rw [if_neg h]; rfl
theorem binop_mul {i j : Int} {oi oj : Bool} (h1 : i.natAbs < big) (h2 : j.natAbs < big) : binop .Mult (.a0 (.int i oi)) (.a0 (.int j oj)) μ = some (vint (i * j), μ) := by
  show ((if i.natAbs < big ∧ j.natAbs < big then some (i * j) else none).map fun k => (vint k, μ)) = _
  rw [if_pos ⟨h1, h2⟩]; rfl
theorem binop_div {i j : Int} {oi oj : Bool} (h : j ≠ 0) (h1 : i.natAbs < big) (h2 : j.natAbs < big) : binop .FloorDiv (.a0 (.int i oi)) (.a0 (.int j oj)) μ = some (vint (i.fdiv j), μ) := by
  show ((if j = 0 ∨ big ≤ i.natAbs ∨ big ≤ j.natAbs then none else some (i.fdiv j)).map fun k => (vint k, μ)) = _
  rw [if_neg (by (first | lia | omega))]; rfl
theorem binop_cat {x y : Str} (h : (x ++ y).length ≤ lim) : binop .Add (vstr x) (vstr y) μ = some (vstr (x ++ y), μ) := newStr_ok h

theorem call_mod {i j : Int} {oi oj : Bool} (h : j ≠ 0) : callT "mod" [.a0 (.int i oi), .a0 (.int j oj)] μ = some (vint (i.fmod j), μ) :=
  run_ret (d := defAt 12) (n := 30) (c := leafCfg) rfl (exs_ret rfl (ex_return (ev_binop (ev_loc rfl rfl) (ev_loc rfl rfl) (binop_mod h))))
theorem call_mul {i j : Int} {oi oj : Bool} (h1 : i.natAbs < big) (h2 : j.natAbs < big) : callT "mul" [.a0 (.int i oi), .a0 (.int j oj)] μ = some (vint (i * j), μ) :=
  run_ret (d := defAt 13) (n := 30) (c := leafCfg) rfl (exs_ret rfl (ex_return (ev_binop (ev_loc rfl rfl) (ev_loc rfl rfl) (binop_mul h1 h2))))

noncomputable abbrev leafOf (i : Nat) : Cfg := { leafCfg with names := (defAt i).names }
noncomputable def forBody (i j : Nat) : List Stmt := match ((defAt i).body[j]? : Option PySem.Stmt) with
  | some (.For _ _ b _ _) => b
  | _ => []
noncomputable def forTgt (i j : Nat) : Expr := match ((defAt i).body[j]? : Option PySem.Stmt) with
  | some (.For t _ _ _ _) => t
  | _ => .Constant .none 0 default

theorem count_loop {k : Option (Nat × List V)} {k0 : Nat} (hk : okSrc k μ = true) : ∀ (bs : List Bool) (ρ : Loc) (c : Int), at_ ρ "b" = some (vbool true) → at_ ρ "count" = some (vint c) →
    ∃ ρ', forGo (exsG (ex 29 k0 (leafOf 15)) (forBody 15 1)) (forTgt 15 1) k (bs.map vbool) ρ μ = some (.next, ρ', μ) ∧ at_ ρ' "count" = some (vint (c + (bs.count true : Nat)))
  | [], ρ, c, h1, h2 => ⟨ρ, for_nil hk, by simpa using h2⟩
  | b :: bs, ρ, c, h1, h2 => by
    have e1 : at_ (upd "i" (vbool b) ρ) "b" = some (vbool true) := upd_ne (by decide) h1
    have e2 : at_ (upd "i" (vbool b) ρ) "count" = some (vint c) := upd_ne (by decide) h2
    cases b with
    | true =>
      obtain ⟨ρ', k1, k2⟩ := count_loop hk bs (upd "count" (vint (c + 1)) (upd "i" (vbool true) ρ)) (c + 1) (upd_ne (by decide) e1) upd_same
      refine ⟨ρ', for_next (bs := [("i", vbool true)]) hk rfl (exs_next rfl (ex_if_t (tr_bool (trs_isEq (ev_loc rfl upd_same) (ev_loc rfl e1) (ev_loc rfl upd_same) (ev_loc rfl e1) rfl)) (exs_next rfl (ex_aug rfl e2 ev_int) exs_nil)) exs_nil) k1, ?_⟩
      rw [k2, List.count_cons_self]
      congr 2; push_cast; (first | lia | omega)
    | false =>
      obtain ⟨ρ', k1, k2⟩ := count_loop hk bs (upd "i" (vbool false) ρ) c e1 e2
      refine ⟨ρ', for_next (bs := [("i", vbool false)]) hk rfl (exs_next rfl (ex_if_f (tr_bool (trs_isEq (ev_loc rfl upd_same) (ev_loc rfl e1) (ev_loc rfl upd_same) (ev_loc rfl e1) rfl)) exs_nil) exs_nil) k1, ?_⟩
      rw [k2, List.count_cons_of_ne (by decide)]
theorem call_count {m : Nat} {bs : List Bool} (h : μ[m]? = some (bs.map vbool)) : callT "countOf" [.lst m, vbool true] μ = some (vint (bs.count true : Nat), μ) := by
  obtain ⟨ρ', k1, k2⟩ := count_loop (k := some (m, bs.map vbool)) (k0 := μ.length) (μ := μ) (by simp [okSrc, h]) bs (upd "count" (vint 0) ((defAt 15).params.zip [.lst m, vbool true])) 0 rfl rfl
  rw [Int.zero_add] at k2
  exact run_ret (d := defAt 15) (n := 30) (c := leafCfg) rfl (exs_next rfl (ex_assign rfl ev_int) (exs_next rfl (ex_for rfl (src_name (ev_loc rfl rfl) h) k1 exs_nil) (exs_ret rfl (ex_return (ev_loc rfl k2)))))
end
end Mine
namespace Mine
open PySem
section
variable {μ : Mem}
theorem allAtoms_ints : ∀ xs : List Int, allAtoms (xs.map vint) = some (xs.map fun x => A0.int x true)
  | [] => rfl
  | x :: xs => by
    show (allAtoms (xs.map vint)).map _ = _
    rw [allAtoms_ints xs]; rfl
noncomputable def enumI (xs : List Int) (k : Nat) : List V := (xs.zipIdx k).map fun p => V.tup [.int (p.2 : Nat) true, .int p.1 true]
theorem enumV_ints (xs : List Int) : enumV (xs.map vint) = some (enumI xs 0) := by
  unfold enumV enumI
  rw [allAtoms_ints]
  show some (((xs.map fun x => A0.int x true).zipIdx).map _) = _
  congr 1
  have : ∀ (l : List Int) (k : Nat), ((l.map fun x => A0.int x true).zipIdx k).map (fun (x : A0 × Nat) => V.tup [.int (x.2 : Nat) true, x.1]) = (l.zipIdx k).map fun p => V.tup [.int (p.2 : Nat) true, .int p.1 true] := by
    intro l
    induction l with
    | nil => intro k; rfl
    | cons x l ih => intro k; simp only [List.map_cons, List.zipIdx_cons]; rw [ih]
  exact this xs 0
theorem index_loop {k : Option (Nat × List V)} {k0 : Nat} {b : Int} (hk : okSrc k μ = true) : ∀ (xs : List Int) (ρ : Loc) (j : Nat), at_ ρ "b" = some (vint b) → b ∈ xs →
    ∃ ρ', forGo (exsG (ex 29 k0 (leafOf 16)) (forBody 16 0)) (forTgt 16 0) k (enumI xs j) ρ μ = some (.ret (vint ((j + xs.idxOf b : Nat) : Int)), ρ', μ)
  | [], ρ, j, _, h => by cases h
  | x :: xs, ρ, j, h1, h => by
    have e1 : at_ (upd "j" (vint x) (upd "i" (vint (j : Nat)) ρ)) "b" = some (vint b) := upd_ne (by decide) (upd_ne (by decide) h1)
    have e2 : at_ (upd "j" (vint x) (upd "i" (vint (j : Nat)) ρ)) "j" = some (vint x) := upd_same
    have e3 : at_ (upd "j" (vint x) (upd "i" (vint (j : Nat)) ρ)) "i" = some (vint (j : Nat)) := upd_ne (by decide) upd_same
    have hs : enumI (x :: xs) j = V.tup [.int (j : Nat) true, .int x true] :: enumI xs (j + 1) := rfl
    rw [hs]
    by_cases hx : x = b
    · subst hx
      rw [List.idxOf_cons_self, Nat.add_zero]
      exact ⟨_, for_ret (bs := [("i", vint (j : Nat)), ("j", vint x)]) hk rfl (exs_ret rfl (ex_if_t (tr_bool (trs_isEq (t := true) (ev_loc rfl e2) (ev_loc rfl e1) (ev_loc rfl e2) (ev_loc rfl e1) (by simp [isOrEq]))) (exs_ret rfl (ex_return (ev_loc rfl e3)))))⟩
    · have hm : b ∈ xs := by
        rcases List.mem_cons.mp h with q | q
        · exact absurd q.symm hx
        · exact q
      obtain ⟨ρ', k1⟩ := index_loop hk xs _ (j + 1) e1 hm
      refine ⟨ρ', for_next (bs := [("i", vint (j : Nat)), ("j", vint x)]) hk rfl (exs_next rfl (ex_if_f (tr_bool (trs_isEq (t := false) (ev_loc rfl e2) (ev_loc rfl e1) (ev_loc rfl e2) (ev_loc rfl e1) (by simp [isOrEq, hx]))) exs_nil) exs_nil) (k1.trans ?_)⟩
      rw [List.idxOf_cons, beq_eq_false_iff_ne.mpr hx, cond_false]
      congr 4; (first | lia | omega)
theorem call_index {m : Nat} {xs : List Int} {b : Int} (h : μ[m]? = some (xs.map vint)) (hb : b ∈ xs) : callT "indexOf" [.lst m, vint b] μ = some (vint ((xs.idxOf b : Nat) : Int), μ) := by
  obtain ⟨ρ', k1⟩ := index_loop (k := some (m, xs.map vint)) (k0 := μ.length) (μ := μ) (b := b) (by simp [okSrc, h]) xs ((defAt 16).params.zip [.lst m, vint b]) 0 rfl hb
  rw [Nat.zero_add] at k1
  exact run_ret (d := defAt 16) (n := 30) (c := leafCfg) rfl (exs_ret rfl (ex_for_ret rfl (src_enum rfl (ev_loc rfl rfl) h (enumV_ints xs)) k1))
end
end Mine
namespace Mine
open PySem
/-! more rules -/
noncomputable def Ext (μ μ' : Mem) : Prop := ∃ l, μ' = μ ++ l
theorem Ext.refl (μ : Mem) : Ext μ μ := ⟨[], by simp⟩
theorem Ext.one (μ : Mem) (l : List V) : Ext μ (μ ++ [l]) := ⟨[l], rfl⟩
theorem Ext.trans {a b c : Mem} (h : Ext a b) (k : Ext b c) : Ext a c := by
  obtain ⟨l, rfl⟩ := h
  obtain ⟨m, rfl⟩ := k
  exact ⟨l ++ m, by rw [List.append_assoc]⟩
theorem Ext.get {a b : Mem} (h : Ext a b) {i : Nat} {l : List V} (e : a[i]? = some l) : b[i]? = some l := by
  obtain ⟨m, rfl⟩ := h
  rw [List.getElem?_append_left (List.getElem?_eq_some_iff.mp e).1]; exact e
theorem Ext.len {a b : Mem} (h : Ext a b) : a.length ≤ b.length := by
  obtain ⟨m, rfl⟩ := h
  rw [List.length_append]; exact Nat.le_add_right _ _
theorem get_last {μ : Mem} {l : List V} : (μ ++ [l])[μ.length]? = some l := by simp
theorem set_last {μ : Mem} {l l' : List V} : (μ ++ [l]).set μ.length l' = μ ++ [l'] := by
  rw [List.set_append_right _ _ (Nat.le_refl _), Nat.sub_self]; rfl
section
variable {n k0 : Nat} {c : Cfg} {ρ ρ' ρ'' : Loc} {μ μ₁ μ₂ μ₃ μ₄ : Mem} {a b v : V} {p q : Pos} {R : Option (V × Mem)} {x : Str}
theorem ex_swap {e f : Expr} {x y : Str} {px py tp sp ep : Pos} {k1 k2 : Nat} {u v : V} (h0 : swapGood c x y px py e f = true) (h1 : evs (ev n c ρ) [e, f] μ = some ([u, v], μ₁)) :
    ex (n + 1) k0 c (.Assign [.Tuple [.Name x px, .Name y py] k1 tp] (.Tuple [e, f] k2 ep) sp) ρ μ = some (.next, upd x u (upd y v ρ), μ₁) := by
  show (if swapGood c x y px py e f then (evs (ev n c ρ) [e, f] μ).bind fun a => (match a.1 with
            | [u, v] => some (Fl.next, upd x u (upd y v ρ), a.2)
            | _ => none) else none) = _
  rw [if_pos h0, h1]; rfl
theorem ex_del {o i : Expr} {op : Pos} {m j : Nat} {ii : Int} {w : Bool} {l : List V} (h1 : ev n c ρ o μ = some (.lst m, μ₁)) (h2 : ev n c ρ i μ₁ = some (.a0 (.int ii w), μ₂)) (h3 : k0 ≤ m) (h4 : μ₂[m]? = some l) (h5 : place? ii l.length = some j) (h6 : ii.natAbs < big) :
    ex (n + 1) k0 c (.Delete [.Subscript o i op] p) ρ μ = some (.next, ρ, μ₂.set m (l.eraseIdx j)) := by
  show ((ev n c ρ o μ).bind fun a => (ev n c ρ i a.2).bind fun b => (asInt? b.1).bind fun i => (match a.1 with
        | .lst m => if k0 ≤ m then (b.2[m]?).bind fun l => (place? i l.length).bind fun j => if i.natAbs < big then some (Fl.next, ρ, b.2.set m (l.eraseIdx j)) else none else none
        | _ => none)) = _
  rw [h1]; show ((ev n c ρ i μ₁).bind _) = _; rw [h2]
  show (if k0 ≤ m then (μ₂[m]?).bind fun l => (place? ii l.length).bind fun j => if ii.natAbs < big then some (Fl.next, ρ, μ₂.set m (l.eraseIdx j)) else none else none) = _
  rw [if_pos h3, h4]
  show ((place? ii l.length).bind _) = _
  rw [h5]; exact if_pos h6
theorem ev_marker (h1 : c.names.lookup ("ELLIPSIS_MARKER" : Str) = some .globalImplicit) (h2 : c.marker = "...") : ev (n + 1) c ρ (.Name "ELLIPSIS_MARKER" p) μ = some (vstr "...", μ) := by
  show (match c.names.lookup ("ELLIPSIS_MARKER" : Str) with | some .local => (ρ.lookup ("ELLIPSIS_MARKER" : Str)).map (·, μ) | some .cell => (ρ.lookup ("ELLIPSIS_MARKER" : Str)).map (·, μ) | some .globalImplicit => if ("ELLIPSIS_MARKER" : Str) = ("ELLIPSIS_MARKER" : Str) then newStr c.marker μ else none | _ => none) = _
  rw [h1, h2]
  show (if ("ELLIPSIS_MARKER" : Str) = ("ELLIPSIS_MARKER" : Str) then newStr "..." μ else none) = _
  rw [if_pos rfl]
  exact newStr_ok (by decide)
end
/-! _ellipsis_match -/
noncomputable def findL (g : Str) : List Str → Int → Int → Bool
  | [], _, _ => true
  | w :: r, i, j => if find4 g w i j < 0 then false else findL g r (find4 g w i j + w.length) j
/-- behind the first and the last piece -/
noncomputable def ellipE (g : Str) (s e : Int) (ws : List Str) : Bool := if e < s then false else findL g ws s e
noncomputable def ellipB (g : Str) (s : Int) (ws : List Str) : Option Bool := ws.getLast?.map fun b =>
  if b.length = 0 then ellipE g s g.length ws else if Txt.endswith g b = true then ellipE g s ((g.length : Int) - b.length) ws.dropLast else false
noncomputable def ellipA (g : Str) (ws : List Str) : Option Bool := ws.head?.bind fun a =>
  if a.length = 0 then ellipB g 0 ws else if Txt.startswith g a = true then ellipB g a.length ws.tail else some false
noncomputable def ellipO (w g : Str) : Option Bool :=
  if (Builtin.Str.occurrences w "..." 0 w.length 1).isEmpty = true then some (w == g) else
  if ((Txt.split w "...").any fun z => decide (lim < z.length)) = true ∨ (Txt.split w "...").length < 2 ∨ lim < (Txt.split w "...").length then none else ellipA g (Txt.split w "...")
noncomputable abbrev c2 : Cfg := leafOf 2
noncomputable abbrev b2 (i : Nat) : List Stmt := (defAt 2).body.drop i
noncomputable def frE (w g : Str) (m : Nat) (s e : Int) (x : Str) : Loc := [("want", vstr w), ("got", vstr g), ("ws", .lst m), ("endpos", vint e), ("startpos", vint s), ("w", vstr x)]
section
variable {μ : Mem} {w g : Str}
theorem find_loop {k0 m : Nat} {e : Int} {l : List V} (hm : μ[m]? = some l) : ∀ (ws : List Str) (s : Int) (x : Str),
    ∃ s' x', forGo (exsG (ex 29 k0 c2) (forBody 2 9)) (forTgt 2 9) (some (m, l)) (ws.map vstr) (frE w g m s e x) μ = some (if findL g ws s e then .next else .ret (vbool false), frE w g m s' e x', μ)
  | [], s, x => ⟨s, x, for_nil (by simp [okSrc, hm])⟩
  | y :: ws, s, x => by
    have hk : okSrc (some (m, l)) μ = true := by simp [okSrc, hm]
    have e1 : exsG (ex 29 k0 c2) (forBody 2 9) (frE w g m s e y) μ = (if find4 g y s e < 0 then some (.ret (vbool false), frE w g m (find4 g y s e) e y, μ) else some (.next, frE w g m (find4 g y s e + y.length) e y, μ)) := by
      refine exs_next rfl (ex_assign rfl (ev_meth rfl (methE_m rfl (ev_loc rfl rfl) (evs_cons (ev_loc rfl rfl) (evs_cons (ev_loc rfl rfl) (evs_cons (ev_loc rfl rfl) evs_nil))) rfl))) ?_
      by_cases h : find4 g y s e < 0
      · rw [if_pos h]
        exact exs_ret rfl (ex_if_t (tr_cmp (cmpE_2 rfl (ev_loc rfl rfl) ev_int rfl) (by simp [truth, h])) (exs_ret rfl (ex_return ev_bool)))
      · rw [if_neg h]
        exact exs_next rfl (ex_if_f (tr_cmp (cmpE_2 rfl (ev_loc rfl rfl) ev_int rfl) (by simp [truth, h])) exs_nil) (exs_next rfl (ex_aug rfl rfl (ev_call rfl (callE_b rfl rfl (evs_cons (ev_loc rfl rfl) evs_nil) rfl))) exs_nil)
    by_cases h : find4 g y s e < 0
    · rw [if_pos h] at e1
      refine ⟨find4 g y s e, y, ?_⟩
      have : findL g (y :: ws) s e = false := by unfold findL; rw [if_pos h]
      rw [this]
      exact for_ret hk rfl e1
    · rw [if_neg h] at e1
      obtain ⟨s', x', k⟩ := find_loop hm ws (find4 g y s e + y.length) y
      refine ⟨s', x', ?_⟩
      have : findL g (y :: ws) s e = findL g ws (find4 g y s e + y.length) e := by rw [findL, if_neg h]
      rw [this]
      exact for_next hk rfl e1 k
theorem ell_end {k0 m : Nat} {s e : Int} {ws : List Str} {x : Str} (hm : μ[m]? = some (ws.map vstr)) : ∃ ρ', exsG (ex 30 k0 c2) (b2 8) (frE w g m s e x) μ = some (.ret (vbool (ellipE g s e ws)), ρ', μ) := by
  unfold ellipE
  by_cases h : e < s
  · rw [if_pos h]
    exact ⟨_, exs_ret rfl (ex_if_t (tr_cmp (cmpE_2 rfl (ev_loc rfl rfl) (ev_loc rfl rfl) rfl) (by simp [truth, h])) (exs_ret rfl (ex_return ev_bool)))⟩
  · rw [if_neg h]
    obtain ⟨s', x', k⟩ := find_loop (w := w) (g := g) (k0 := k0) (e := e) hm ws s x
    cases hf : findL g ws s e with
    | true =>
      rw [hf] at k
      exact ⟨_, exs_next rfl (ex_if_f (tr_cmp (cmpE_2 rfl (ev_loc rfl rfl) (ev_loc rfl rfl) rfl) (by simp [truth, h])) exs_nil) (exs_next rfl (ex_for rfl (src_name (ev_loc rfl rfl) hm) k exs_nil) (exs_ret rfl (ex_return ev_bool)))⟩
    | false =>
      rw [hf] at k
      exact ⟨_, exs_next rfl (ex_if_f (tr_cmp (cmpE_2 rfl (ev_loc rfl rfl) (ev_loc rfl rfl) rfl) (by simp [truth, h])) exs_nil) (exs_ret rfl (ex_for_ret rfl (src_name (ev_loc rfl rfl) hm) k))⟩
theorem place_last {n : Nat} (h : 0 < n) : place? (-1) n = some (n - 1) := by
  unfold place?
  rw [if_neg (by (first | lia | omega)), if_pos (by (first | lia | omega))]
  congr 1; (first | lia | omega)
theorem place_zero {a : Str} {l : List Str} : place? 0 ((a :: l).map vstr).length = some 0 := by
  unfold place?
  rw [if_pos (by simp)]; rfl
theorem getLast_map {ws : List Str} {b : Str} (h : ws.getLast? = some b) : (ws.map vstr)[(ws.map vstr).length - 1]? = some (vstr b) := by
  rw [List.length_map, List.getElem?_map, ← List.getLast?_eq_getElem?, h]; rfl
theorem last_pos {ws : List Str} {b : Str} (h : ws.getLast? = some b) : 0 < ws.length := by
  cases ws with
  | nil => cases h
  | cons => simp
theorem erase_last (ws : List Str) : (ws.map vstr).eraseIdx (ws.length - 1) = ws.dropLast.map vstr := by
  rw [List.map_dropLast, ← List.eraseIdx_length_sub_one, List.length_map]
theorem dec_pos {x : Str} : decide (0 < x.length) = !decide (x.length = 0) := by
  rw [Bool.eq_iff_iff]; simp; (first | lia | omega)
theorem ell_b {s : Int} {ws : List Str} {x : Str} {r : Bool} (h : ellipB g s ws = some r) : ∃ ρ' l, exsG (ex 30 μ.length c2) (b2 6) (frE w g μ.length s g.length x) (μ ++ [ws.map vstr]) = some (.ret (vbool r), ρ', μ ++ [l]) := by
  unfold ellipB at h
  obtain ⟨b, hb, h⟩ := Option.map_eq_some_iff.mp h
  have i1 : index (.lst μ.length) (vint (-1)) (μ ++ [ws.map vstr]) = some (vstr b) := by
    show (((μ ++ [ws.map vstr])[μ.length]?).bind fun l => (place? (-1) l.length).bind fun k => l[k]?) = _
    rw [get_last]
    show (place? (-1) (ws.map vstr).length).bind _ = _
    rw [place_last (by rw [List.length_map]; exact last_pos hb)]
    exact getLast_map hb
  have a1 : ex 30 μ.length c2 ((b2 6).headD default) (frE w g μ.length s g.length x) (μ ++ [ws.map vstr]) = some (.next, frE w g μ.length s g.length b, μ ++ [ws.map vstr]) :=
    ex_assign rfl (ev_index rfl (ev_loc rfl rfl) (ev_neg ev_int) i1)
  by_cases h0 : b.length = 0
  · rw [if_pos h0] at h
    obtain ⟨ρ', k⟩ := ell_end (μ := μ ++ [ws.map vstr]) (w := w) (g := g) (k0 := μ.length) (s := s) (e := g.length) (ws := ws) (x := b) get_last
    rw [h] at k
    exact ⟨ρ', _, exs_next rfl a1 (exs_next rfl (ex_if_f (tr_name (ev_loc rfl rfl) (by rw [truth, h0]; rfl)) exs_nil) k)⟩
  · rw [if_neg h0] at h
    have t1 : truth (vstr b) = some true := by show some (decide (0 < b.length)) = _; rw [decide_eq_true (by (first | lia | omega))]
    by_cases h1 : Txt.endswith g b = true
    · rw [if_pos h1] at h
      obtain ⟨ρ', k⟩ := ell_end (μ := μ ++ [ws.dropLast.map vstr]) (w := w) (g := g) (k0 := μ.length) (s := s) (e := (g.length : Int) - b.length) (ws := ws.dropLast) (x := b) get_last
      rw [h] at k
      refine ⟨ρ', ws.dropLast.map vstr, exs_next rfl a1 (exs_next rfl (ex_if_t (tr_name (ev_loc rfl rfl) t1) (exs_next rfl (ex_if_t (tr_call (ev_meth rfl (methE_m rfl (ev_loc rfl rfl) (evs_cons (ev_loc rfl rfl) evs_nil) rfl)) (by rw [h1]; rfl)) (exs_next rfl (ex_aug_sub rfl rfl (ev_call rfl (callE_b rfl rfl (evs_cons (ev_loc rfl rfl) evs_nil) rfl)))
        (exs_next rfl (ex_del (ev_loc rfl rfl) (ev_neg ev_int) (Nat.le_refl _) get_last (place_last (by rw [List.length_map]; exact last_pos hb)) (by decide)) exs_nil))) exs_nil)) ?_)⟩
      rw [set_last, List.length_map, erase_last]
      exact k
    · rw [if_neg h1] at h
      subst h
      have h1' : Txt.endswith g b = false := by simpa using h1
      exact ⟨_, _, exs_next rfl a1 (exs_ret rfl (ex_if_t (tr_name (ev_loc rfl rfl) t1) (exs_ret rfl (ex_if_f (tr_call (ev_meth rfl (methE_m rfl (ev_loc rfl rfl) (evs_cons (ev_loc rfl rfl) evs_nil) rfl)) (by rw [h1']; rfl)) (exs_ret rfl (ex_return ev_bool))))))⟩
theorem ell_a {ws : List Str} {r : Bool} (h : ellipA g ws = some r) : ∃ ρ' l, exsG (ex 30 μ.length c2) (b2 4) [("want", vstr w), ("got", vstr g), ("ws", .lst μ.length), ("endpos", vint g.length), ("startpos", vint 0)] (μ ++ [ws.map vstr]) = some (.ret (vbool r), ρ', μ ++ [l]) := by
  unfold ellipA at h
  obtain ⟨a, ha, h⟩ := Option.bind_eq_some_iff.mp h
  obtain ⟨ws', rfl⟩ : ∃ ws', ws = a :: ws' := by
    cases ws with
    | nil => cases ha
    | cons b ws => cases ha; exact ⟨ws, rfl⟩
  have i1 : index (.lst μ.length) (vint 0) (μ ++ [(a :: ws').map vstr]) = some (vstr a) := by
    show (((μ ++ [(a :: ws').map vstr])[μ.length]?).bind fun l => (place? 0 l.length).bind fun k => l[k]?) = _
    rw [get_last]
    show (place? 0 ((a :: ws').map vstr).length).bind _ = _
    rw [place_zero]; rfl
  have a1 : ex 30 μ.length c2 ((b2 4).headD default) [("want", vstr w), ("got", vstr g), ("ws", .lst μ.length), ("endpos", vint g.length), ("startpos", vint 0)] (μ ++ [(a :: ws').map vstr]) = some (.next, frE w g μ.length 0 g.length a, μ ++ [(a :: ws').map vstr]) :=
    ex_assign rfl (ev_index rfl (ev_loc rfl rfl) ev_int i1)
  by_cases h0 : a.length = 0
  · rw [if_pos h0] at h
    obtain ⟨ρ', l, k⟩ := ell_b (μ := μ) (w := w) (x := a) h
    exact ⟨ρ', l, exs_next rfl a1 (exs_next rfl (ex_if_f (tr_name (ev_loc rfl rfl) (by rw [truth, h0]; rfl)) exs_nil) k)⟩
  · rw [if_neg h0] at h
    have t1 : truth (vstr a) = some true := by show some (decide (0 < a.length)) = _; rw [decide_eq_true (by (first | lia | omega))]
    by_cases h1 : Txt.startswith g a = true
    · rw [if_pos h1] at h
      obtain ⟨ρ', l, k⟩ := ell_b (μ := μ) (w := w) (x := a) h
      refine ⟨ρ', l, exs_next rfl a1 (exs_next rfl (ex_if_t (tr_name (ev_loc rfl rfl) t1) (exs_next rfl (ex_if_t (tr_call (ev_meth rfl (methE_m rfl (ev_loc rfl rfl) (evs_cons (ev_loc rfl rfl) evs_nil) rfl)) (by rw [h1]; rfl)) (exs_next rfl (ex_assign rfl (ev_call rfl (callE_b rfl rfl (evs_cons (ev_loc rfl rfl) evs_nil) rfl)))
        (exs_next rfl (ex_del (ev_loc rfl rfl) ev_int (Nat.le_refl _) get_last place_zero (by decide)) exs_nil))) exs_nil)) ?_)⟩
      rw [set_last]
      exact k
    · rw [if_neg h1] at h
      cases h
      have h1' : Txt.startswith g a = false := by simpa using h1
      exact ⟨_, _, exs_next rfl a1 (exs_ret rfl (ex_if_t (tr_name (ev_loc rfl rfl) t1) (exs_ret rfl (ex_if_f (tr_call (ev_meth rfl (methE_m rfl (ev_loc rfl rfl) (evs_cons (ev_loc rfl rfl) evs_nil) rfl)) (by rw [h1']; rfl)) (exs_ret rfl (ex_return ev_bool))))))⟩
theorem call_ellip {r : Bool} (h : ellipO w g = some r) : ∃ μ', callT "_ellipsis_match" [vstr w, vstr g] μ = some (vbool r, μ') ∧ Ext μ μ' := by
  unfold ellipO at h
  by_cases h0 : (Builtin.Str.occurrences w "..." 0 w.length 1).isEmpty = true
  · rw [if_pos h0] at h
    cases h
    refine ⟨μ, run_ret (d := defAt 2) (n := 30) (c := leafCfg) rfl (exs_ret rfl (ex_if_t (tr_cmp (cmpE_2 rfl (ev_marker rfl rfl) (ev_loc rfl rfl) rfl) (by show some _ = _; rw [h0])) (exs_ret rfl (ex_return (ev_cmp (cmpE_2 rfl (ev_loc rfl rfl) (ev_loc rfl rfl) rfl)))))), Ext.refl μ⟩
  · rw [if_neg h0] at h
    have h0' : (Builtin.Str.occurrences w "..." 0 w.length 1).isEmpty = false := by simpa using h0
    by_cases h1 : ((Txt.split w "...").any fun z => decide (lim < z.length)) = true ∨ (Txt.split w "...").length < 2 ∨ lim < (Txt.split w "...").length
    · rw [if_pos h1] at h; cases h
    · rw [if_neg h1] at h
      have hs : mcall (vstr w) "split" [vstr "..."] μ = some (.lst μ.length, μ ++ [(Txt.split w "...").map vstr]) := by
        show (if (("..." : Str).length = 0 ∨ ((Txt.split w "...").any fun z => decide (lim < z.length)) = true) then none else newList ((Txt.split w "...").map vstr) μ) = _
        rw [if_neg (by intro q; rcases q with q | q; exact absurd q (by decide); exact h1 (.inl q))]
        exact newList_ok (by rw [List.length_map]; (first | lia | omega))
      obtain ⟨ρ', l, k⟩ := ell_a (μ := μ) (w := w) h
      have hl : bcall "len" [.lst μ.length] (μ ++ [(Txt.split w "...").map vstr]) = some (vint (Txt.split w "...").length, μ ++ [(Txt.split w "...").map vstr]) := by
        show (((μ ++ [(Txt.split w "...").map vstr])[μ.length]?).map fun l => (vint l.length, μ ++ [(Txt.split w "...").map vstr])) = _
        rw [get_last]
        show some (vint ((Txt.split w "...").map vstr).length, _) = _
        rw [List.length_map]
      exact ⟨_, run_ret (d := defAt 2) (n := 30) (c := leafCfg) rfl (exs_next rfl (ex_if_f (tr_cmp (cmpE_2 rfl (ev_marker rfl rfl) (ev_loc rfl rfl) rfl) (by show some _ = _; rw [h0'])) exs_nil)
        (exs_next rfl (ex_assign rfl (ev_meth rfl (methE_m rfl (ev_loc rfl rfl) (evs_cons (ev_marker rfl rfl) evs_nil) hs)))
        (exs_next rfl (ex_assert (tr_cmp (cmpE_2 rfl (ev_call rfl (callE_b rfl rfl (evs_cons (ev_loc rfl rfl) evs_nil) hl)) ev_int rfl) (by show some (decide _) = _; rw [decide_eq_true (by (first | lia | omega))])))
        (exs_next rfl (ex_swap rfl (evs_cons ev_int (evs_cons (ev_call rfl (callE_b rfl rfl (evs_cons (ev_loc rfl rfl) evs_nil) rfl)) evs_nil))) k)))), Ext.one _ _⟩
end
end Mine
namespace Mine
open PySem
section
variable {n k0 : Nat} {c : Cfg} {ρ ρ' ρ'' : Loc} {μ μ₁ μ₂ μ₃ μ₄ : Mem} {a b v : V} {p q : Pos} {R : Option (V × Mem)} {x : Str}
theorem methE_get {e : Expr} {i : Int} {o : Bool} (h0 : c.isGlob ("b3_exceptions" : Str) = true) (h1 : ev n c ρ e μ = some (.a0 (.int i o), μ₁)) :
    methE (n + 1) c ρ (.Name "b3_exceptions" q) "get" [e] μ = (match c.get i with
          | some t => newStr t μ₁
          | none => some (vnone, μ₁)) := by
  have : methE (n + 1) c ρ (.Name "b3_exceptions" q) "get" [e] μ = ((ev n c ρ e μ).bind fun a => (asInt? a.1).bind fun i => (match c.get i with
          | some t => newStr t a.2
          | none => some (vnone, a.2))) := by
    unfold methE
    rw [if_pos rfl]
    dsimp only
    rw [if_pos (by rw [h0]; rfl)]
    all_goals rfl
  rw [this, h1]; rfl
/-- what a sign stands for -/
noncomputable def mapO (s : Nat) : Str := match b3pairs.lookup (s : Int) with
  | some t => t
  | none => Txt.lower ⟨#[s]⟩
theorem call_map {s : Nat} (h : (mapO s).length ≤ lim) : callT "map_table_b3" [vstr ⟨#[s]⟩] μ = some (vstr (mapO s), μ) := by
  have ho : bcall "ord" [vstr ⟨#[s]⟩] μ = some (vint s, μ) := rfl
  unfold mapO at h ⊢
  cases q : b3pairs.lookup (s : Int) with
  | some t =>
    rw [q] at h
    refine run_ret (d := defAt 21) (n := 30) (c := leafCfg) rfl (exs_next rfl (ex_assign (v := vstr t) rfl (ev_meth rfl ((methE_get rfl (ev_call rfl (callE_b rfl rfl (evs_cons (ev_loc rfl rfl) evs_nil) ho))).trans ?_))) (exs_ret rfl (ex_if_t (tr_cmp (cmpE_2 rfl (ev_loc rfl rfl) ev_none rfl) rfl) (exs_ret rfl (ex_return (ev_loc rfl rfl))))))
    show (match b3pairs.lookup (s : Int) with | some t => newStr t μ | none => some (vnone, μ)) = _
    rw [q]
    exact newStr_ok h
  | none =>
    rw [q] at h
    refine run_ret (d := defAt 21) (n := 30) (c := leafCfg) rfl (exs_next (μ₁ := μ) rfl (ex_assign (v := vnone) rfl (ev_meth rfl ((methE_get rfl (ev_call rfl (callE_b rfl rfl (evs_cons (ev_loc rfl rfl) evs_nil) ho))).trans ?_))) (exs_next rfl (ex_if_f (tr_cmp (cmpE_2 rfl (ev_loc rfl rfl) ev_none rfl) rfl) exs_nil) (exs_ret rfl (ex_return (ev_meth rfl (methE_m rfl (ev_loc rfl rfl) evs_nil ?_))))))
    · show (match b3pairs.lookup (s : Int) with | some t => newStr t μ | none => some (vnone, μ)) = _
      rw [q]
    · exact newStr_ok h
end
/-- a sign that stands for the letters and is none of B.1 -/
noncomputable def SignOk (s : Nat) (letters : Str) : Prop := b1list.contains (s : Int) = false ∧ mapO s = letters
/-- what _law_typed gives -/
noncomputable def TypedOk (letters : Str) (l : List V) : Prop := ∃ pre s, l = pre ++ [V.tup [.str ⟨#[s]⟩, .str letters]] ∧ SignOk s letters ∧ (pre = [] ∨ ∃ h : Nat, pre = [V.tup [.str ⟨#[h]⟩, .str ""]] ∧ b1list.contains (h : Int) = true)
noncomputable def hid0 : List V := [vint 173, vint 847, vint 6150, vint 6155, vint 6156, vint 6157, vint 8203, vint 8204, vint 8205, vint 8288, vint 65279]
noncomputable def hidAll : List V := hid0 ++ rangeV 65024 65040
noncomputable def hidB (h : Nat) : Bool := match hidAll[h]? with
  | some (.a0 (.int x _)) => decide (0 ≤ x) && decide (x ≤ 1114111) && b1list.contains x
  | _ => false
theorem hid_all : (List.range 27).all hidB = true := by kernel_rfl
theorem hid_at {h : Nat} (hh : h < 27) : ∃ (x : Nat) (o : Bool), hidAll[h]? = some (.a0 (.int x o)) ∧ x ≤ 1114111 ∧ b1list.contains (x : Int) = true := by
  have e := List.all_eq_true.mp hid_all h (List.mem_range.mpr hh)
  unfold hidB at e
  split at e
  · rename_i x o q
    simp only [Bool.and_eq_true, decide_eq_true_eq] at e
    obtain ⟨⟨e1, e2⟩, e3⟩ := e
    refine ⟨x.toNat, o, ?_, by (first | lia | omega), ?_⟩ <;> rw [Int.toNat_of_nonneg e1]
    · exact q
    · exact e3
  · cases e
theorem signs_s : ((List.range 13).map fun r => (b1list.contains ((119808 + 52 * r + 18 : Nat) : Int), mapO (119808 + 52 * r + 18))) = (List.range 13).map fun _ => (false, ("s" : Str)) := by kernel_rfl
theorem signs_t : ((List.range 13).map fun r => (b1list.contains ((119808 + 52 * r + 19 : Nat) : Int), mapO (119808 + 52 * r + 19))) = (List.range 13).map fun _ => (false, ("t" : Str)) := by kernel_rfl
theorem map_all' {α β : Type} {f g : α → β} : ∀ {l : List α}, l.map f = l.map g → ∀ x ∈ l, f x = g x
  | a :: l, h, x, hx => by
    rw [List.map_cons, List.map_cons] at h
    injection h with h1 h2
    rcases List.mem_cons.mp hx with rfl | hx
    · exact h1
    · exact map_all' h2 x hx
theorem sign_s {r : Nat} (h : r < 13) : SignOk (119808 + 52 * r + 18) "s" := by
  have := map_all' signs_s r (List.mem_range.mpr h)
  exact ⟨congrArg Prod.fst this, congrArg Prod.snd this⟩
theorem sign_t {r : Nat} (h : r < 13) : SignOk (119808 + 52 * r + 19) "t" := by
  have := map_all' signs_t r (List.mem_range.mpr h)
  exact ⟨congrArg Prod.fst this, congrArg Prod.snd this⟩
theorem sign_115 : SignOk 115 "s" := ⟨by kernel_rfl, by kernel_rfl⟩
theorem sign_83 : SignOk 83 "s" := ⟨by kernel_rfl, by kernel_rfl⟩
theorem sign_116 : SignOk 116 "t" := ⟨by kernel_rfl, by kernel_rfl⟩
theorem sign_84 : SignOk 84 "t" := ⟨by kernel_rfl, by kernel_rfl⟩
theorem sign_x0 : SignOk 64261 "st" := ⟨by kernel_rfl, by kernel_rfl⟩
theorem sign_x1 : SignOk 64262 "st" := ⟨by kernel_rfl, by kernel_rfl⟩

noncomputable abbrev c24 : Cfg := leafOf 24
noncomputable abbrev b24 (i : Nat) : List Stmt := (defAt 24).body.drop i
section
variable {μ : Mem} {n : Int} {letters : Str}
noncomputable def fr24 (letters : Str) (n : Int) (m : Nat) (x : Str) : Loc := [("letters", vstr letters), ("n", vint n), ("hidden", .lst m), ("sign", vstr x)]
theorem fdiv15 : 0 ≤ (n.fdiv 15).fmod 54 ∧ (n.fdiv 15).fmod 54 < 54 := by
  rw [Int.fmod_eq_emod_of_nonneg _ (by decide)]
  exact ⟨Int.emod_nonneg _ (by decide), Int.emod_lt_of_pos _ (by decide)⟩
theorem len_ok {a b : Nat} (h : Nat.ble a b = true) : a ≤ b := Nat.le_of_ble_eq_true h
/-- behind the sign -/
theorem typed_end {k0 m s : Nat} (h0 : 0 ≤ n) (h1 : n < 4000000) (hm : μ[m]? = some hidAll) (hg : SignOk s letters) : ∃ ρ' l, exsG (ex 30 k0 c24) (b24 3) (fr24 letters n m ⟨#[s]⟩) μ = some (.ret (.lst μ.length), ρ', μ ++ [l]) ∧ TypedOk letters l := by
  obtain ⟨d0, d1⟩ := fdiv15 (n := n)
  have hv : ∀ (f : Nat) (p1 p2 p3 p4 p5 : Pos) (k1 k2), ev (f + 4) c24 (fr24 letters n m ⟨#[s]⟩) (.BinOp (.BinOp (.Name "n" p1) .FloorDiv (.Constant (.int 15) k1 p2) p3) .Mod (.Constant (.int 54) k2 p4) p5) μ = some (vint ((n.fdiv 15).fmod 54), μ) := fun f p1 p2 p3 p4 p5 k1 k2 =>
    ev_binop (ev_binop (ev_loc rfl rfl) ev_int (binop_div (by decide) (by show n.natAbs < 4611686018427387904; (first | lia | omega)) (by decide))) ev_int (binop_mod (by decide))
  by_cases hc : (n.fdiv 15).fmod 54 < 27
  · obtain ⟨x, o, e1, e2, e3⟩ := hid_at (h := ((n.fdiv 15).fmod 54).toNat) (by (first | lia | omega))
    have hi : index (.lst m) (vint ((n.fdiv 15).fmod 54)) μ = some (.a0 (.int x o)) := by
      show ((μ[m]?).bind fun l => (place? ((n.fdiv 15).fmod 54) l.length).bind fun k => l[k]?) = _
      rw [hm]
      show (place? ((n.fdiv 15).fmod 54) hidAll.length).bind _ = _
      have : place? ((n.fdiv 15).fmod 54) hidAll.length = some ((n.fdiv 15).fmod 54).toNat := by
        unfold place?
        have hl : hidAll.length = 27 := by kernel_rfl
        rw [hl, if_pos (by (first | lia | omega))]
      rw [this]
      exact e1
    have hch : bcall "chr" [.a0 (.int x o)] μ = some (vstr ⟨#[x]⟩, μ) := by
      show (if (0 : Int) ≤ x ∧ (x : Int) ≤ 1114111 then some (vstr ⟨#[(x : Int).toNat]⟩, μ) else none) = _
      rw [if_pos (by (first | lia | omega))]; rfl
    refine ⟨_, [V.tup [.str ⟨#[x]⟩, .str ""], V.tup [.str ⟨#[s]⟩, .str letters]], exs_ret rfl (ex_if_t (tr_cmp (cmpE_2 rfl (hv _ _ _ _ _ _ _ _) ev_int rfl) (by show some (decide _) = _; rw [decide_eq_true hc]))
      (exs_ret rfl (ex_return (ev_list (evs_cons (ev_tuple (evs_cons (ev_call rfl (callE_b rfl rfl (evs_cons (ev_index rfl (ev_loc rfl rfl) (hv _ _ _ _ _ _ _ _) hi) evs_nil) hch)) (evs_cons (ev_str (by decide)) evs_nil)) rfl (len_ok (by rfl))) (evs_cons (ev_tuple (evs_cons (ev_loc rfl rfl) (evs_cons (ev_loc rfl rfl) evs_nil)) rfl (len_ok (by rfl))) evs_nil)) (newItems_ok rfl (len_ok (by rfl))))))), ?_⟩
    exact ⟨[V.tup [.str ⟨#[x]⟩, .str ""]], s, rfl, hg, .inr ⟨x, rfl, e3⟩⟩
  · refine ⟨_, [V.tup [.str ⟨#[s]⟩, .str letters]], exs_next rfl (ex_if_f (tr_cmp (cmpE_2 rfl (hv _ _ _ _ _ _ _ _) ev_int rfl) (by show some (decide _) = _; rw [decide_eq_false hc])) exs_nil)
      (exs_ret rfl (ex_return (ev_list (evs_cons (ev_tuple (evs_cons (ev_loc rfl rfl) (evs_cons (ev_loc rfl rfl) evs_nil)) rfl (len_ok (by rfl))) evs_nil) (newItems_ok rfl (len_ok (by rfl)))))), ?_⟩
    exact ⟨[], s, rfl, hg, .inl rfl⟩
theorem fmod_lo {k : Int} (hk : 0 < k) : 0 ≤ n.fmod k ∧ n.fmod k < k := by
  rw [Int.fmod_eq_emod_of_nonneg _ (by (first | lia | omega))]
  exact ⟨Int.emod_nonneg _ (by (first | lia | omega)), Int.emod_lt_of_pos _ hk⟩
noncomputable def fr23 (letters : Str) (n : Int) (m : Nat) : Loc := [("letters", vstr letters), ("n", vint n), ("hidden", .lst m)]
/-- the sign of one letter -/
theorem sign_one {k0 m co : Nat} (hne : ((⟨#[co]⟩ : Str) == ("st" : Str)) = false) (h97 : 97 ≤ co) (h122 : co ≤ 122) (hup : Txt.upper ⟨#[co]⟩ = ⟨#[co - 32]⟩) (hg : ∀ r < 13, SignOk (119808 + 52 * r + (co - 97)) ⟨#[co]⟩) (g1 : SignOk co ⟨#[co]⟩) (g2 : SignOk (co - 32) ⟨#[co]⟩) :
    ∃ s μ', ex 30 k0 c24 ((b24 2).headD default) (fr23 ⟨#[co]⟩ n m) μ = some (.next, fr24 ⟨#[co]⟩ n m ⟨#[s]⟩, μ') ∧ Ext μ μ' ∧ SignOk s ⟨#[co]⟩ := by
  obtain ⟨d0, d1⟩ := fmod_lo (n := n) (k := 15) (by decide)
  have t1 : ∀ (f : Nat) (p1 p2 p3 : Pos) (k1), tr (f + 3) c24 (fr23 ⟨#[co]⟩ n m) (.Compare (.Name "letters" p1) [.Eq] [.Constant (.str "st") k1 p2] p3) μ = some (false, μ) := fun f p1 p2 p3 k1 =>
    tr_cmp (cmpE_2 rfl (ev_loc rfl rfl) (ev_str (by decide)) (by show some _ = _; rw [hne])) rfl
  have hv : ∀ (f : Nat) (μ : Mem) (p1 p2 p3 : Pos) (k1), ev (f + 3) c24 (fr23 ⟨#[co]⟩ n m) (.BinOp (.Name "n" p1) .Mod (.Constant (.int 15) k1 p2) p3) μ = some (vint (n.fmod 15), μ) := fun f μ p1 p2 p3 k1 =>
    ev_binop (ev_loc rfl rfl) ev_int (binop_mod (by decide))
  by_cases hc : n.fmod 15 < 13
  · have hch : bcall "chr" [vint (119808 + 52 * n.fmod 15 + (co : Int) - 97)] μ = some (vstr ⟨#[119808 + 52 * (n.fmod 15).toNat + (co - 97)]⟩, μ) := by
      show (if (0 : Int) ≤ 119808 + 52 * n.fmod 15 + (co : Int) - 97 ∧ 119808 + 52 * n.fmod 15 + (co : Int) - 97 ≤ 1114111 then some (vstr ⟨#[(119808 + 52 * n.fmod 15 + (co : Int) - 97).toNat]⟩, μ) else none) = _
      have e : (119808 + 52 * n.fmod 15 + (co : Int) - 97).toNat = 119808 + 52 * (n.fmod 15).toNat + (co - 97) := by (first | lia | omega)
      rw [if_pos (by (first | lia | omega)), e]
    refine ⟨_, μ, ex_if_f (t1 _ _ _ _ _) (exs_next rfl (ex_if_t (tr_cmp (cmpE_2 rfl (hv _ _ _ _ _ _) ev_int rfl) (by show some (decide _) = _; rw [decide_eq_true hc]))
      (exs_next rfl (ex_assign rfl (ev_call rfl (callE_b rfl rfl (evs_cons (ev_binop (ev_binop (ev_binop ev_int (ev_binop ev_int (hv _ _ _ _ _ _) (binop_mul (by decide) (by show _ < 4611686018427387904; (first | lia | omega)))) rfl) (ev_call rfl (callE_b rfl rfl (evs_cons (ev_loc rfl rfl) evs_nil) rfl)) rfl) ev_int rfl) evs_nil) hch))) exs_nil)) exs_nil), Ext.refl μ, hg _ (by (first | lia | omega))⟩
  · have h2 : n.fmod 15 = 13 ∨ n.fmod 15 = 14 := by (first | lia | omega)
    have hl : ∀ (f : Nat) (p1 p2 p3 p4 : Pos), (p3.endLine == p4.line) = true → ∀ p5, ev (f + 6) c24 (fr23 ⟨#[co]⟩ n m) (.List [.Name "letters" p1, .Call (.Attribute (.Name "letters" p2) "upper" p3) [] [] p4] p5) μ = some (.lst μ.length, μ ++ [[vstr ⟨#[co]⟩, vstr ⟨#[co - 32]⟩]]) := fun f p1 p2 p3 p4 hp p5 =>
      ev_list (evs_cons (ev_loc rfl rfl) (evs_cons (ev_meth (by rw [hp]; rfl) (methE_m rfl (ev_loc rfl rfl) evs_nil (by show newStr (Txt.upper ⟨#[co]⟩) μ = _; rw [hup]; exact newStr_ok (len_ok (by rfl))))) evs_nil)) (newItems_ok rfl (len_ok (by rfl)))
    rcases h2 with h2 | h2
    · have hi : index (.lst μ.length) (vint (n.fmod 15 - 13)) (μ ++ [[vstr ⟨#[co]⟩, vstr ⟨#[co - 32]⟩]]) = some (vstr ⟨#[co]⟩) := by
        rw [h2]
        show (((μ ++ [[vstr ⟨#[co]⟩, vstr ⟨#[co - 32]⟩]])[μ.length]?).bind _) = _
        rw [get_last]; rfl
      exact ⟨co, _, ex_if_f (t1 _ _ _ _ _) (exs_next rfl (ex_if_f (tr_cmp (cmpE_2 rfl (hv _ _ _ _ _ _) ev_int rfl) (by show some (decide _) = _; rw [decide_eq_false hc]))
        (exs_next rfl (ex_assign rfl (ev_index rfl (hl _ _ _ _ _ rfl _) (ev_binop (hv _ _ _ _ _ _) ev_int rfl) hi)) exs_nil)) exs_nil), Ext.one _ _, g1⟩
    · have hi : index (.lst μ.length) (vint (n.fmod 15 - 13)) (μ ++ [[vstr ⟨#[co]⟩, vstr ⟨#[co - 32]⟩]]) = some (vstr ⟨#[co - 32]⟩) := by
        rw [h2]
        show (((μ ++ [[vstr ⟨#[co]⟩, vstr ⟨#[co - 32]⟩]])[μ.length]?).bind _) = _
        rw [get_last]; rfl
      exact ⟨co - 32, _, ex_if_f (t1 _ _ _ _ _) (exs_next rfl (ex_if_f (tr_cmp (cmpE_2 rfl (hv _ _ _ _ _ _) ev_int rfl) (by show some (decide _) = _; rw [decide_eq_false hc]))
        (exs_next rfl (ex_assign rfl (ev_index rfl (hl _ _ _ _ _ rfl _) (ev_binop (hv _ _ _ _ _ _) ev_int rfl) hi)) exs_nil)) exs_nil), Ext.one _ _, g2⟩
/-- the sign of both letters -/
theorem sign_two {k0 m : Nat} : ∃ s, ex 30 k0 c24 ((b24 2).headD default) (fr23 "st" n m) μ = some (.next, fr24 "st" n m ⟨#[s]⟩, μ) ∧ SignOk s "st" := by
  obtain ⟨d0, d1⟩ := fmod_lo (n := n) (k := 2) (by decide)
  have h2 : n.fmod 2 = 0 ∨ n.fmod 2 = 1 := by (first | lia | omega)
  have hch : bcall "chr" [vint (64261 + n.fmod 2)] μ = some (vstr ⟨#[(64261 + n.fmod 2).toNat]⟩, μ) := by
    show (if (0 : Int) ≤ 64261 + n.fmod 2 ∧ 64261 + n.fmod 2 ≤ 1114111 then some (vstr ⟨#[(64261 + n.fmod 2).toNat]⟩, μ) else none) = _
    rw [if_pos (by (first | lia | omega))]
  refine ⟨_, ex_if_t (tr_cmp (cmpE_2 rfl (ev_loc rfl rfl) (ev_str (by decide)) rfl) rfl) (exs_next rfl (ex_assign rfl (ev_call rfl (callE_b rfl rfl (evs_cons (ev_binop ev_int (ev_binop (ev_loc rfl rfl) ev_int (binop_mod (by decide))) rfl) evs_nil) hch))) exs_nil), ?_⟩
  rcases h2 with h2 | h2 <;> rw [h2]
  · exact sign_x0
  · exact sign_x1
theorem typed_head {k0 : Nat} : ex 30 k0 c24 ((b24 0).headD default) [("letters", vstr letters), ("n", vint n)] μ = some (.next, fr23 letters n μ.length, μ ++ [hid0]) ∧
    ex 30 k0 c24 ((b24 1).headD default) (fr23 letters n μ.length) (μ ++ [hid0]) = some (.next, fr23 letters n (μ.length + 2), μ ++ [hid0] ++ [rangeV 65024 65040] ++ [hidAll]) := by
  have r1 : ∀ ρ μ (p1 p2 p3 p4 p5 : Pos) k1 k2, callE 27 c24 ρ "list" [.Call (.Name "range" p1) [.Constant (.int 65024) k1 p2, .Constant (.int 65040) k2 p3] [] p4] μ = some (.lst μ.length, μ ++ [rangeV 65024 65040]) := fun ρ μ p1 p2 p3 p4 p5 k1 k2 => by
    kernel_rfl
  have h1 : ((μ ++ [hid0]) ++ [rangeV 65024 65040])[μ.length]? = some hid0 := (Ext.one _ _).get get_last
  have h2 : ((μ ++ [hid0]) ++ [rangeV 65024 65040])[(μ ++ [hid0]).length]? = some (rangeV 65024 65040) := get_last
  have hb : binop .Add (.lst μ.length) (.lst (μ ++ [hid0]).length) ((μ ++ [hid0]) ++ [rangeV 65024 65040]) = some (.lst (μ.length + 2), μ ++ [hid0] ++ [rangeV 65024 65040] ++ [hidAll]) := by
    show ((((μ ++ [hid0]) ++ [rangeV 65024 65040])[μ.length]?).bind fun l => (((μ ++ [hid0]) ++ [rangeV 65024 65040])[(μ ++ [hid0]).length]?).bind fun r => newList (l ++ r) ((μ ++ [hid0]) ++ [rangeV 65024 65040])) = _
    rw [h1, h2]
    show newList (hid0 ++ rangeV 65024 65040) _ = _
    rw [newList_ok (len_ok (by kernel_rfl))]
    simp [hidAll]
  have a1 : ex 30 k0 c24 ((b24 0).headD default) [("letters", vstr letters), ("n", vint n)] μ = some (.next, fr23 letters n μ.length, μ ++ [hid0]) := by kernel_rfl
  have a2 : ex 30 k0 c24 ((b24 1).headD default) (fr23 letters n μ.length) (μ ++ [hid0]) = some (.next, fr23 letters n (μ.length + 2), μ ++ [hid0] ++ [rangeV 65024 65040] ++ [hidAll]) :=
    ex_assign rfl (ev_binop (ev_loc rfl rfl) (ev_call rfl (r1 _ _ _ _ _ _ default _ _)) hb)
  exact ⟨a1, a2⟩
theorem call_typed (hl : letters = "s" ∨ letters = "t" ∨ letters = "st") (h0 : 0 ≤ n) (h1 : n < 4000000) : ∃ k l μ', callT "_law_typed" [vstr letters, vint n] μ = some (.lst k, μ') ∧ Ext μ μ' ∧ μ'[k]? = some l ∧ TypedOk letters l := by
  obtain ⟨a1, a2⟩ := typed_head (μ := μ) (k0 := μ.length) (letters := letters) (n := n)
  have x3 : Ext μ (μ ++ [hid0] ++ [rangeV 65024 65040] ++ [hidAll]) := ((Ext.one _ _).trans (Ext.one _ _)).trans (Ext.one _ _)
  have hh : (μ ++ [hid0] ++ [rangeV 65024 65040] ++ [hidAll])[μ.length + 2]? = some hidAll := by
    have := get_last (μ := μ ++ [hid0] ++ [rangeV 65024 65040]) (l := hidAll)
    rw [List.length_append, List.length_append] at this
    exact this
  have key : ∃ s μ', ex 30 μ.length c24 ((b24 2).headD default) (fr23 letters n (μ.length + 2)) (μ ++ [hid0] ++ [rangeV 65024 65040] ++ [hidAll]) = some (.next, fr24 letters n (μ.length + 2) ⟨#[s]⟩, μ') ∧ Ext (μ ++ [hid0] ++ [rangeV 65024 65040] ++ [hidAll]) μ' ∧ SignOk s letters := by
    rcases hl with rfl | rfl | rfl
    · exact sign_one (co := 115) (by decide) (by decide) (by decide) (by kernel_rfl) (fun r hr => sign_s hr) sign_115 sign_83
    · exact sign_one (co := 116) (by decide) (by decide) (by decide) (by kernel_rfl) (fun r hr => sign_t hr) sign_116 sign_84
    · obtain ⟨s, e, g⟩ := sign_two (n := n) (k0 := μ.length) (m := μ.length + 2) (μ := μ ++ [hid0] ++ [rangeV 65024 65040] ++ [hidAll])
      exact ⟨s, _, e, Ext.refl _, g⟩
  obtain ⟨s, μ', a3, x4, hg⟩ := key
  obtain ⟨ρ', l, a4, ht⟩ := typed_end (k0 := μ.length) h0 h1 (x4.get hh) hg
  exact ⟨_, l, _, run_ret (d := defAt 24) (n := 30) (c := leafCfg) rfl (exs_next rfl a1 (exs_next rfl a2 (exs_next rfl a3 a4))), (x3.trans x4).trans (Ext.one _ _), get_last, ht⟩
end
end Mine
namespace Mine
open PySem PySem.StrLaws PySem.Builtin.Str
noncomputable abbrev tl (x : Str) : List Nat := x.cps.toList
noncomputable abbrev S (l : List Nat) : Str := ⟨l.toArray⟩
theorem tl_S (l : List Nat) : tl (S l) = l := rfl
theorem S_tl (x : Str) : S (tl x) = x := rfl
theorem str_ext {x y : Str} (h : tl x = tl y) : x = y := by
  have : S (tl x) = S (tl y) := by rw [h]
  exact this
theorem tl_append (x y : Str) : tl (x ++ y) = tl x ++ tl y := by
  show (x.cps ++ y.cps).toList = _
  simp
theorem S_append (a b : List Nat) : S a ++ S b = S (a ++ b) := str_ext (by rw [tl_append])
theorem len_tl (x : Str) : x.length = (tl x).length := rfl
/-- where a sign is found first -/
theorem find3_at {x : Str} {c lo : Nat} {A B : List Nat} (hx : tl x = A ++ c :: B) (hlo : lo ≤ A.length) (hn : ∀ v, lo ≤ v → ∀ h : v < A.length, A[v] ≠ c) : Txt.find3 x ⟨#[c]⟩ lo = A.length := by
  have hlen : x.length = A.length + (B.length + 1) := by rw [len_tl, hx]; simp
  have hf : fromIndex x.length (lo : Int) = lo := by unfold fromIndex; rw [if_neg (by (first | lia | omega))]; (first | lia | omega)
  have gd : ∀ v, x.cps.getD v 0 = (A ++ c :: B).getD v 0 := fun v => by
    rw [← hx]
    show x.cps.getD v 0 = (x.cps.toList).getD v 0
    simp [Array.getD, List.getD]
    split
    · rename_i h; rw [Array.getElem?_eq_getElem h]; rfl
    · rename_i h; rw [Array.getElem?_eq_none (by (first | lia | omega))]; rfl
  have gA : ∀ v (h : v < A.length), (A ++ c :: B).getD v 0 = A[v] := fun v h => by
    rw [List.getD_eq_getElem?_getD, List.getElem?_append_left h, List.getElem?_eq_getElem h]; rfl
  have gc : (A ++ c :: B).getD A.length 0 = c := by
    rw [List.getD_eq_getElem?_getD, List.getElem?_append_right (Nat.le_refl _)]; simp
  rcases find3_spec x c lo with ⟨_, h⟩ | ⟨k, e, h1, h2, h3, h4⟩
  · exact absurd ((gd A.length).trans gc) (h A.length (by rw [hf]; exact hlo) (by (first | lia | omega)))
  · rw [hf] at h1 h4
    rw [e]
    have : k = A.length := by
      apply Decidable.byContradiction
      intro hne
      rcases Nat.lt_or_ge k A.length with hk | hk
      · rw [gd, gA k hk] at h3
        exact hn k h1 hk h3
      · have := h4 A.length hlo (by (first | lia | omega))
        rw [gd, gc] at this
        exact this rfl
    rw [this]
theorem find_at {x : Str} {c : Nat} {A B : List Nat} (hx : tl x = A ++ c :: B) (hn : c ∉ A) : Txt.find x ⟨#[c]⟩ = A.length := by
  have e : Txt.find x ⟨#[c]⟩ = Txt.find3 x ⟨#[c]⟩ (0 : Nat) := by
    unfold Txt.find Txt.find3
    have : fromIndex x.length ((0 : Nat) : Int) = 0 := by unfold fromIndex; simp
    rw [this]; rfl
  rw [e]
  exact find3_at hx (Nat.zero_le _) fun v _ h q => hn (q ▸ List.getElem_mem h)
theorem slice_ss {x : Str} {i j : Nat} (h1 : i ≤ j) (h2 : j ≤ x.length) : tl (Txt.slice x (some i) (some j)) = ((tl x).drop i).take (j - i) := by
  unfold Txt.slice
  rw [strSliceIndices_plain h1 h2]
  split
  · rename_i h
    simp only [beq_self_eq_true, Bool.true_and, beq_iff_eq, List.length_map, List.length_range] at h
    have hi : i = 0 := by (first | lia | omega)
    subst hi
    have : j = (tl x).length := by rw [← len_tl]; (first | lia | omega)
    rw [List.drop_zero, Nat.sub_zero, this, List.take_length]
  · show ((List.range (j - i)).map (fun k => i + k)).filterMap (x.cps[·]?) = _
    have : (fun k : Nat => x.cps[k]?) = fun k => (tl x)[k]? := by funext k; exact (Array.getElem?_toList).symm
    rw [this, picks _ _ _ (by rw [← len_tl]; (first | lia | omega))]
theorem slice_ns {x : Str} {j : Nat} (h2 : j ≤ x.length) : tl (Txt.slice x none (some j)) = (tl x).take j := by
  have : Txt.slice x none (some j) = Txt.slice x (some (0 : Nat)) (some j) := by
    unfold Txt.slice
    rw [sliceIdx_none_lo]; rfl
  rw [this, slice_ss (Nat.zero_le _) h2]; simp
theorem slice_sn {x : Str} {i : Nat} (h2 : i ≤ x.length) : tl (Txt.slice x (some i) none) = (tl x).drop i := by
  have : Txt.slice x (some i) none = Txt.slice x (some i) (some x.length) := by
    unfold Txt.slice
    rw [sliceIdx_none_hi]
  rw [this, slice_ss h2 (Nat.le_refl _)]
  rw [List.take_of_length_le]; rw [List.length_drop, len_tl]; (first | lia | omega)
theorem index_at {x : Str} {i c : Nat} {o : Bool} {μ : Mem} (h : (tl x)[i]? = some c) : index (vstr x) (.a0 (.int i o)) μ = some (vstr ⟨#[c]⟩) := by
  have hl : i < x.length := (List.getElem?_eq_some_iff.mp h).1
  show ((place? i x.length).bind fun k => (x.cps[k]?).map fun c => vstr ⟨#[c]⟩) = _
  have : place? (i : Int) x.length = some i := by unfold place?; rw [if_pos (by (first | lia | omega))]; rfl
  rw [this]
  show (x.cps[i]?).map _ = _
  rw [← Array.getElem?_toList, h]; rfl
/-! splitting -/
theorem join_tl {c : Nat} (p q : Str) (r : List Str) : tl (Str.join ⟨#[c]⟩ (p :: q :: r)) = tl p ++ c :: tl (Str.join ⟨#[c]⟩ (q :: r)) := by
  show tl (p ++ ⟨#[c]⟩ ++ Str.join ⟨#[c]⟩ (q :: r)) = _
  rw [tl_append, tl_append, List.append_assoc]; rfl
theorem cut_same {c : Nat} : ∀ {a a' b b' : List Nat}, c ∉ a → c ∉ a' → a ++ c :: b = a' ++ c :: b' → a = a' ∧ b = b'
  | [], [], _, _, _, _, h => ⟨rfl, (List.cons.inj h).2⟩
  | [], x :: a', _, _, _, h', h => by
    have := (List.cons.inj h).1
    subst this
    exact absurd (List.mem_cons_self ..) h'
  | x :: a, [], _, _, h, _, e => by
    have := (List.cons.inj e).1
    subst this
    exact absurd (List.mem_cons_self ..) h
  | x :: a, y :: a', b, b', h, h', e => by
    obtain ⟨e1, e2⟩ := List.cons.inj e
    subst e1
    obtain ⟨k1, k2⟩ := cut_same (fun q => h (List.mem_cons_of_mem _ q)) (fun q => h' (List.mem_cons_of_mem _ q)) e2
    exact ⟨by rw [k1], k2⟩
theorem join_inj {c : Nat} : ∀ {T T' : List Str}, T ≠ [] → T' ≠ [] → (∀ p ∈ T, c ∉ tl p) → (∀ p ∈ T', c ∉ tl p) → Str.join ⟨#[c]⟩ T = Str.join ⟨#[c]⟩ T' → T = T'
  | [], _, h, _, _, _, _ => absurd rfl h
  | _ :: _, [], _, h, _, _, _ => absurd rfl h
  | [p], [q], _, _, _, _, e => by
    have : p = q := e
    rw [this]
  | [p], q :: q' :: r, _, _, h, _, e => by
    have e' := congrArg tl e
    rw [join_tl] at e'
    have : c ∈ tl p := by
      have e2 : tl (Str.join ⟨#[c]⟩ [p]) = tl p := rfl
      rw [← e2, e']; simp
    exact absurd this (h p (List.mem_cons_self ..))
  | p :: p' :: r, [q], _, _, _, h, e => by
    have e' := congrArg tl e
    rw [join_tl] at e'
    have : c ∈ tl q := by
      have e2 : tl (Str.join ⟨#[c]⟩ [q]) = tl q := rfl
      rw [← e2, ← e']; simp
    exact absurd this (h q (List.mem_cons_self ..))
  | p :: p' :: r, q :: q' :: r', _, _, h, h', e => by
    have e' := congrArg tl e
    rw [join_tl, join_tl] at e'
    obtain ⟨k1, k2⟩ := cut_same (h p (List.mem_cons_self ..)) (h' q (List.mem_cons_self ..)) e'
    have := join_inj (T := p' :: r) (T' := q' :: r') (by simp) (by simp) (fun x hx => h x (List.mem_cons_of_mem _ hx)) (fun x hx => h' x (List.mem_cons_of_mem _ hx)) (str_ext k2)
    rw [str_ext k1, this]
theorem split_ne {x y : Str} : Txt.split x y ≠ [] := by
  unfold Txt.split
  split
  · simp
  · split
    · simp
    · rw [partsBetween_eq]
      obtain ⟨p, r, e⟩ := partsFrom_ne x y.length 0 (occurrences x y 0 x.length (x.length + 1))
      rw [e]; simp
theorem split_at {c : Nat} {T : List Str} (h : T ≠ []) (hf : ∀ p ∈ T, c ∉ tl p) : Txt.split (Str.join ⟨#[c]⟩ T) ⟨#[c]⟩ = T :=
  join_inj split_ne h (split_free _ c) hf (join_split _ _)
end Mine
namespace Mine
open PySem PySem.StrLaws PySem.Builtin.Str PySem.NumText
/-! int of a dressed number -/
theorem int_core {x : Str} {D : List Nat} (hc : ∀ c ∈ tl x, c < 128 ∧ c ≠ 0) (h1 : core (tl x) = D) (h2 : (sign ((tl x).dropWhile blank)).1 = false) (hD : AllDigits D) (hne : D ≠ []) (hl : D.length ≤ 4300) : intText? x = some ((digitsVal D : Nat) : Int) := by
  have e1 : numTextOf x = tl x := by
    refine if_pos ?_
    rw [← Array.all_toList, List.all_eq_true]
    intro c h
    exact decide_eq_true (hc c h).1
  have e2 : numSeenOf x = tl x := by
    show (numTextOf x).takeWhile _ = _
    rw [e1]
    exact takeWhile_all fun c h => bne_iff_ne.mpr (hc c h).2
  unfold intText?
  rw [e1, e2, if_pos (beq_self_eq_true _), h1, h2, digits_of hD hne]
  have hsz := push_size D #[]
  have hv := push_foldl D #[]
  show (if _ ≤ 4300 then some (worth false _) else none) = _
  rw [if_pos (by rw [hsz]; simp only [Array.size_empty]; (first | lia | omega))]
  unfold worth digitsVal
  rw [hv]; rfl
theorem drop_post {D post : List Nat} (hD : AllDigits D) (hp : post = [] ∨ post = [32]) : ((D ++ post).reverse.dropWhile blank).reverse = D := by
  rcases hp with rfl | rfl
  · rw [List.append_nil, dropWhile_digits hD.reverse, List.reverse_reverse]
  · rw [List.reverse_append]
    show ((32 :: D.reverse).dropWhile blank).reverse = D
    rw [List.dropWhile_cons, if_pos (by decide), dropWhile_digits hD.reverse, List.reverse_reverse]
theorem head_digit {D : List Nat} (hD : AllDigits D) (hne : D ≠ []) : ∃ d r, D = d :: r ∧ 48 ≤ d ∧ d ≤ 57 := by
  cases D with
  | nil => exact absurd rfl hne
  | cons d r => exact ⟨d, r, rfl, hD.head⟩
theorem core_bare {D post : List Nat} (hD : AllDigits D) (hne : D ≠ []) (hp : post = [] ∨ post = [32]) : core (D ++ post) = D ∧ (sign ((D ++ post).dropWhile blank)).1 = false := by
  obtain ⟨d, r, rfl, h1, h2⟩ := head_digit hD hne
  have e : ((d :: r) ++ post).dropWhile blank = (d :: r) ++ post := dropWhile_of (by (first | lia | omega))
  have s : sign ((d :: r) ++ post) = (false, (d :: r) ++ post) := sign_of (by (first | lia | omega)) (by (first | lia | omega))
  unfold core
  rw [e, s]
  exact ⟨drop_post hD hp, rfl⟩
theorem core_dressed {D pre post : List Nat} (hD : AllDigits D) (hne : D ≠ []) (hp : post = [] ∨ post = [32]) (hq : pre = [] ∨ pre = [43] ∨ pre = [48, 48] ∨ pre = [32]) :
    ∃ D', core (pre ++ D ++ post) = D' ∧ (sign ((pre ++ D ++ post).dropWhile blank)).1 = false ∧ AllDigits D' ∧ D' ≠ [] ∧ D'.length ≤ D.length + 2 ∧ digitsVal D' = digitsVal D := by
  rcases hq with rfl | rfl | rfl | rfl
  · obtain ⟨a, b⟩ := core_bare hD hne hp
    exact ⟨D, a, b, hD, hne, by (first | lia | omega), rfl⟩
  · have e : ([43] ++ D ++ post).dropWhile blank = 43 :: (D ++ post) := dropWhile_of (by decide)
    refine ⟨D, ?_, ?_, hD, hne, by (first | lia | omega), rfl⟩
    · unfold core; rw [e]; exact drop_post hD hp
    · rw [e]; rfl
  · have hD' : AllDigits (48 :: 48 :: D) := fun c hc => by
      rcases List.mem_cons.mp hc with rfl | hc
      · exact ⟨by decide, by decide⟩
      · rcases List.mem_cons.mp hc with rfl | hc
        · exact ⟨by decide, by decide⟩
        · exact hD c hc
    obtain ⟨a, b⟩ := core_bare hD' (by simp) hp
    exact ⟨48 :: 48 :: D, a, b, hD', by simp, by simp, rfl⟩
  · obtain ⟨a, b⟩ := core_bare hD hne hp
    have e : ([32] ++ D ++ post).dropWhile blank = (D ++ post).dropWhile blank := by
      show (32 :: (D ++ post)).dropWhile blank = _
      rw [List.dropWhile_cons, if_pos (by decide)]
    refine ⟨D, ?_, by rw [e]; exact b, hD, hne, by (first | lia | omega), rfl⟩
    unfold core at a ⊢
    rw [e]; exact a
/-- the figures of a number -/
noncomputable def figs (P : Nat) : List Nat := (Nat.toDigits 10 P).map Char.toNat
theorem figs_tl (P : Nat) : tl (Str.ofString (toString ((P : Nat) : Int))) = figs P := PySem.W.KIN.signs_num P
theorem figs_digits (P : Nat) : AllDigits (figs P) := by
  intro c hc
  obtain ⟨ch, hch, e⟩ := List.mem_map.mp hc
  have h := Nat.isDigit_of_mem_toDigits (by decide) (by decide) hch
  rw [← e]
  exact PyProof.Rows.digit_range h
theorem figs_ne (P : Nat) : figs P ≠ [] := by
  unfold figs
  intro e
  have := List.map_eq_nil_iff.mp e
  have v := PySem.W.KIN.val_back P
  rw [this] at v
  have h0 : P = 0 := v.symm
  subst h0
  exact absurd this (by decide)
theorem figs_val (P : Nat) : digitsVal (figs P) = P := PySem.W.KIN.val_back P
theorem figs_len {P : Nat} (h : P < 10 ^ 10) : (figs P).length ≤ 10 := by
  have := PySem.W.KT.len_num (n := (P : Int)) (by (first | lia | omega)) (by (first | lia | omega))
  rw [len_tl, figs_tl] at this
  exact this
theorem int_figs {x : Str} {P : Nat} {pre post : List Nat} (hx : tl x = pre ++ figs P ++ post) (hP : P < 10 ^ 10) (hp : post = [] ∨ post = [32]) (hq : pre = [] ∨ pre = [43] ∨ pre = [48, 48] ∨ pre = [32]) : intText? x = some (P : Int) := by
  obtain ⟨D', a, b, c, d, e, f⟩ := core_dressed (figs_digits P) (figs_ne P) hp hq
  rw [← hx] at a b
  have hl := figs_len hP
  have := int_core (fun c hc => ?_) a b c d (by (first | lia | omega))
  · rw [this, f, figs_val]
  · rw [hx] at hc
    rcases List.mem_append.mp hc with hc | hc
    · rcases List.mem_append.mp hc with hc | hc
      · rcases hq with rfl | rfl | rfl | rfl <;> simp at hc <;> (first | lia | omega)
      · have := figs_digits P c hc
        (first | lia | omega)
    · rcases hp with rfl | rfl <;> simp at hc
      (first | lia | omega)
end Mine
namespace Mine
open PySem PySem.StrLaws PySem.Builtin.Str
/-! _law_reply -/
noncomputable abbrev c23 : Cfg := leafOf 23
noncomputable abbrev b23 (i : Nat) : List Stmt := (defAt 23).body.drop i
/-- the parts of a reply, by the number n -/
structure Dress where
  mark : Nat
  pre : List Nat
  post : List Nat
  front : List Nat
  one : List Nat
  two : List Nat
  tail : List Nat
noncomputable def Dress.text (d : Dress) (P : Nat) : List Nat := d.front ++ 40 :: d.mark :: (d.one ++ d.mark :: (d.two ++ d.mark :: (d.pre ++ figs P ++ d.post) ++ d.mark :: 41 :: d.tail))
structure Dress.Ok (d : Dress) : Prop where
  mark : d.mark < 128 ∧ d.mark ≠ 40 ∧ d.mark ≠ 41 ∧ ¬ (48 ≤ d.mark ∧ d.mark ≤ 57) ∧ d.mark ≠ 43 ∧ d.mark ≠ 32
  pre : d.pre = [] ∨ d.pre = [43] ∨ d.pre = [48, 48] ∨ d.pre = [32]
  post : d.post = [] ∨ d.post = [32]
  front : 40 ∉ d.front ∧ d.front.take 3 = [50, 50, 57] ∧ d.front.length ≤ 20 ∧ 3 ≤ d.front.length
  one : d.mark ∉ d.one ∧ 41 ∉ d.one ∧ d.one.length ≤ 20
  two : d.mark ∉ d.two ∧ 41 ∉ d.two ∧ d.two.length ≤ 20
  tail : d.tail.length ≤ 20
section
variable {μ : Mem} {n : Int}
theorem pick_const {f : Nat} {c : Cfg} {ρ : Loc} {e : Expr} {es : List Expr} {L : List V} {i : Int} {v : V} {p q : Pos} (hs : notSlice e = true) (hL : evs (ev f c ρ) es μ = some (L, μ)) (ha : L.all notLst = true) (hl : L.length ≤ 8) (he : ev (f + 1) c ρ e (μ ++ [L]) = some (vint i, μ ++ [L])) (h0 : 0 ≤ i) (hv : L[i.toNat]? = some v) :
    ev (f + 2) c ρ (.Subscript (.List es p) e q) μ = some (v, μ ++ [L]) := by
  refine ev_index hs (ev_list hL (newItems_ok ha (Nat.le_trans hl (by decide)))) he ?_
  show (((μ ++ [L])[μ.length]?).bind fun l => (place? i l.length).bind fun k => l[k]?) = _
  rw [get_last]
  have hi := (List.getElem?_eq_some_iff.mp hv).1
  show (place? i L.length).bind _ = _
  have : place? i L.length = some i.toNat := by unfold place?; rw [if_pos (by (first | lia | omega))]
  rw [this]; exact hv
theorem cat_S {a b : List Nat} (h : a.length + b.length ≤ lim) : binop .Add (vstr (S a)) (vstr (S b)) μ = some (vstr (S (a ++ b)), μ) := by
  have : S a ++ S b = S (a ++ b) := S_append a b
  rw [← this]
  refine binop_cat ?_
  rw [this, len_tl, tl_S, List.length_append]; exact h
theorem res_ok {k j : Int} (hj : 0 < j) : 0 ≤ (n.fdiv k).fmod j ∧ (n.fdiv k).fmod j < j := by
  rw [Int.fmod_eq_emod_of_nonneg _ (by (first | lia | omega))]
  exact ⟨Int.emod_nonneg _ (by (first | lia | omega)), Int.emod_lt_of_pos _ hj⟩
theorem ev_res {f : Nat} {ρ : Loc} {k j : Int} {p1 p2 p3 p4 p5 : Pos} {k1 k2} (hn : ρ.lookup ("n" : Str) = some (vint n)) (h1 : n.natAbs < big) (hk : k ≠ 0) (hk2 : k.natAbs < big) (hj : j ≠ 0) :
    ev (f + 3) c23 ρ (.BinOp (.BinOp (.Name "n" p1) .FloorDiv (.Constant (.int k) k1 p2) p3) .Mod (.Constant (.int j) k2 p4) p5) μ = some (vint ((n.fdiv k).fmod j), μ) :=
  ev_binop (ev_binop (ev_loc rfl hn) ev_int (binop_div hk h1 hk2)) ev_int (binop_mod hj)
noncomputable def prL : List (List Nat) := [[], [43], [48, 48], [32]]
noncomputable def poL : List (List Nat) := [[], [32]]
noncomputable def frL : List (List Nat) := [[50, 50, 57, 32], [50, 50, 57, 32, 69, 110, 116, 101, 114, 105, 110, 103, 32], [50, 50, 57, 41, 32, 111, 107, 58, 32]]
noncomputable def onL : List (List Nat) := [[], [49], [58, 58, 49]]
noncomputable def twL : List (List Nat) := [[], [49, 48, 46, 48, 46, 48, 46, 55]]
noncomputable def taL : List (List Nat) := [[], [46], [32, 40, 50, 41], [41]]
noncomputable def mkL : List Nat := [124, 33, 126, 35, 120]
theorem mk_mem {m : Nat} (h : m ∈ mkL) : m = 124 ∨ m = 33 ∨ m = 126 ∨ m = 35 ∨ m = 120 := by simpa [mkL] using h
theorem dress_ok {m : Nat} {pr po fr on tw ta : List Nat} (h1 : m ∈ mkL) (h2 : pr ∈ prL) (h3 : po ∈ poL) (h4 : fr ∈ frL) (h5 : on ∈ onL) (h6 : tw ∈ twL) (h7 : ta ∈ taL) : (⟨m, pr, po, fr, on, tw, ta⟩ : Dress).Ok := by
  refine ⟨?_, by simpa [prL] using h2, by simpa [poL] using h3, ?_, ?_, ?_, ?_⟩
  · rcases mk_mem h1 with rfl | rfl | rfl | rfl | rfl <;> (dsimp only; decide)
  · have : fr = [50, 50, 57, 32] ∨ fr = [50, 50, 57, 32, 69, 110, 116, 101, 114, 105, 110, 103, 32] ∨ fr = [50, 50, 57, 41, 32, 111, 107, 58, 32] := by simpa [frL] using h4
    rcases this with rfl | rfl | rfl <;> (dsimp only; decide)
  · have : on = [] ∨ on = [49] ∨ on = [58, 58, 49] := by simpa [onL] using h5
    rcases this with rfl | rfl | rfl <;> rcases mk_mem h1 with rfl | rfl | rfl | rfl | rfl <;> (dsimp only; decide)
  · have : tw = [] ∨ tw = [49, 48, 46, 48, 46, 48, 46, 55] := by simpa [twL] using h6
    rcases this with rfl | rfl <;> rcases mk_mem h1 with rfl | rfl | rfl | rfl | rfl <;> (dsimp only; decide)
  · have : ta = [] ∨ ta = [46] ∨ ta = [32, 40, 50, 41] ∨ ta = [41] := by simpa [taL] using h7
    rcases this with rfl | rfl | rfl | rfl <;> (dsimp only; decide)
theorem pick_get {L : List (List Nat)} {g : List Nat → List Nat} {W : List V} (hW : W = L.map fun l => vstr (S (g l))) {i : Int} (h0 : 0 ≤ i) (h1 : i < L.length) : ∃ l, l ∈ L ∧ W[i.toNat]? = some (vstr (S (g l))) := by
  have hi : i.toNat < L.length := by (first | lia | omega)
  refine ⟨L[i.toNat], List.getElem_mem hi, ?_⟩
  rw [hW, List.getElem?_map, List.getElem?_eq_getElem hi]; rfl
noncomputable def q0 (P : Nat) (n : Int) : Loc := [("place", vint P), ("n", vint n)]
noncomputable def q1 (P : Nat) (n : Int) (a : List Nat) : Loc := [("place", vint P), ("n", vint n), ("mark", vstr (S a))]
noncomputable def q2 (P : Nat) (n : Int) (a b : List Nat) : Loc := [("place", vint P), ("n", vint n), ("mark", vstr (S a)), ("figures", vstr (S b))]
noncomputable def q3 (P : Nat) (n : Int) (a b c : List Nat) : Loc := [("place", vint P), ("n", vint n), ("mark", vstr (S a)), ("figures", vstr (S b)), ("front", vstr (S c))]
noncomputable def q4 (P : Nat) (n : Int) (a b c d : List Nat) : Loc := [("place", vint P), ("n", vint n), ("mark", vstr (S a)), ("figures", vstr (S b)), ("front", vstr (S c)), ("fields", vstr (S d))]
noncomputable def q5 (P : Nat) (n : Int) (a b c d e : List Nat) : Loc := [("place", vint P), ("n", vint n), ("mark", vstr (S a)), ("figures", vstr (S b)), ("front", vstr (S c)), ("fields", vstr (S d)), ("tail", vstr (S e))]
theorem short_lim {a : Nat} (h : a ≤ 1000) : a ≤ lim := Nat.le_trans h (by decide)
theorem call_reply {P : Nat} (hP : P < 10 ^ 10) (h0 : 0 ≤ n) (h1 : n < 4000000) : ∃ (d : Dress) (μ' : Mem), callT "_law_reply" [vint P, vint n] μ = some (vstr (S (d.text P)), μ') ∧ Ext μ μ' ∧ d.Ok := by
  have hb : n.natAbs < big := by show n.natAbs < 4611686018427387904; (first | lia | omega)
  have hf := figs_len hP
  -- the residues
  have r0 : 0 ≤ n.fmod 5 ∧ n.fmod 5 < 5 := fmod_lo (by decide)
  obtain ⟨a1, a2⟩ := res_ok (n := n) (k := 5) (j := 4) (by decide)
  obtain ⟨b1, b2⟩ := res_ok (n := n) (k := 20) (j := 2) (by decide)
  obtain ⟨d1, d2⟩ := res_ok (n := n) (k := 40) (j := 3) (by decide)
  obtain ⟨e1, e2⟩ := res_ok (n := n) (k := 120) (j := 3) (by decide)
  obtain ⟨f1, f2⟩ := res_ok (n := n) (k := 360) (j := 2) (by decide)
  obtain ⟨g1, g2⟩ := res_ok (n := n) (k := 720) (j := 4) (by decide)
  obtain ⟨pr, pr1, pr2⟩ := pick_get (L := prL) (g := id) (W := [vstr "", vstr "+", vstr "00", vstr " "]) (by kernel_rfl) a1 a2
  obtain ⟨po, po1, po2⟩ := pick_get (L := poL) (g := id) (W := [vstr "", vstr " "]) (by kernel_rfl) b1 b2
  obtain ⟨fr, fr1, fr2⟩ := pick_get (L := frL) (g := fun l => l ++ [40]) (W := [vstr "229 (", vstr "229 Entering (", vstr "229) ok: ("]) (by kernel_rfl) d1 d2
  obtain ⟨on, on1, on2⟩ := pick_get (L := onL) (g := id) (W := [vstr "", vstr "1", vstr "::1"]) (by kernel_rfl) e1 e2
  obtain ⟨tw, tw1, tw2⟩ := pick_get (L := twL) (g := id) (W := [vstr "", vstr "10.0.0.7"]) (by kernel_rfl) f1 f2
  obtain ⟨ta, ta1, ta2⟩ := pick_get (L := taL) (g := id) (W := [vstr "", vstr ".", vstr " (2)", vstr ")"]) (by kernel_rfl) g1 g2
  have hm : (n.fmod 5).toNat < mkL.length := by show _ < 5; (first | lia | omega)
  have hmk : mkL[(n.fmod 5).toNat] ∈ mkL := List.getElem_mem hm
  have hmi : (tl "|!~#x")[(n.fmod 5).toNat]? = some mkL[(n.fmod 5).toNat] := by
    have : tl "|!~#x" = mkL := by kernel_rfl
    rw [this, List.getElem?_eq_getElem hm]
  generalize mkL[(n.fmod 5).toNat] = m at hmk hmi
  have ok := dress_ok hmk pr1 po1 fr1 on1 tw1 ta1
  have lpr : pr.length ≤ 2 := by rcases ok.pre with h | h | h | h <;> (have h : pr = _ := h; rw [h]; decide)
  have lpo : po.length ≤ 1 := by rcases ok.post with h | h <;> (have h : po = _ := h; rw [h]; decide)
  have lfr : fr.length ≤ 20 := ok.front.2.2.1
  have lon : on.length ≤ 20 := ok.one.2.2
  have ltw : tw.length ≤ 20 := ok.two.2.2
  have lta : ta.length ≤ 20 := ok.tail
  have hfi : index (vstr "|!~#x") (vint (n.fmod 5)) μ = some (vstr (S [m])) := by
    have := index_at (x := "|!~#x") (μ := μ) (o := true) hmi
    rw [Int.toNat_of_nonneg r0.1] at this
    exact this
  have s0 : ex 30 μ.length c23 ((b23 0).headD default) (q0 P n) μ = some (.next, q1 P n [m], μ) :=
    ex_assign rfl (ev_index rfl (ev_str (by decide)) (ev_binop (ev_loc rfl rfl) ev_int (binop_mod (by decide))) hfi)
  have hstr : bcall "str" [vint P] (μ ++ [[vstr "", vstr "+", vstr "00", vstr " "]]) = some (vstr (S (figs P)), μ ++ [[vstr "", vstr "+", vstr "00", vstr " "]]) := by
    show (if ((P : Int)).natAbs < big then newStr (Str.ofString (toString (P : Int))) _ else none) = _
    rw [if_pos (by show _ < 4611686018427387904; (first | lia | omega))]
    have : Str.ofString (toString (P : Int)) = S (figs P) := str_ext (by rw [figs_tl])
    rw [this]
    exact newStr_ok (by rw [len_tl, tl_S]; exact short_lim (by (first | lia | omega)))
  have s1 : ex 30 μ.length c23 ((b23 1).headD default) (q1 P n [m]) μ = some (.next, q2 P n [m] (pr ++ figs P ++ po), μ ++ [[vstr "", vstr "+", vstr "00", vstr " "]] ++ [[vstr "", vstr " "]]) :=
    ex_assign rfl (ev_binop (ev_binop (pick_const (L := [vstr "", vstr "+", vstr "00", vstr " "]) rfl (by kernel_rfl) rfl (by decide) (ev_res rfl hb (by decide) (by decide) (by decide)) a1 pr2)
      (ev_call rfl (callE_b rfl rfl (evs_cons (ev_loc rfl rfl) evs_nil) hstr)) (cat_S (a := pr) (by exact (short_lim (by first | (first | lia | omega) | (simp only [List.length_append, List.length_cons, List.length_nil, id]; (first | lia | omega)))))))
      (pick_const (L := [vstr "", vstr " "]) rfl (by kernel_rfl) rfl (by decide) (ev_res rfl hb (by decide) (by decide) (by decide)) b1 po2) (cat_S (b := po) (by exact (short_lim (by first | (first | lia | omega) | (simp only [List.length_append, List.length_cons, List.length_nil, id]; (first | lia | omega)))))))
  generalize hμ1 : μ ++ [[vstr "", vstr "+", vstr "00", vstr " "]] ++ [[vstr "", vstr " "]] = μ₁ at s1
  have x1 : Ext μ μ₁ := hμ1 ▸ (Ext.one _ _).trans (Ext.one _ _)
  have s2 : ex 30 μ.length c23 ((b23 2).headD default) (q2 P n [m] (pr ++ figs P ++ po)) μ₁ = some (.next, q3 P n [m] (pr ++ figs P ++ po) (fr ++ [40]), μ₁ ++ [[vstr "229 (", vstr "229 Entering (", vstr "229) ok: ("]]) :=
    ex_assign rfl (pick_const (L := [vstr "229 (", vstr "229 Entering (", vstr "229) ok: ("]) rfl (by kernel_rfl) rfl (by decide) (ev_res rfl hb (by decide) (by decide) (by decide)) d1 fr2)
  generalize hμ2 : μ₁ ++ [[vstr "229 (", vstr "229 Entering (", vstr "229) ok: ("]] = μ₂ at s2
  have x2 : Ext μ₁ μ₂ := hμ2 ▸ Ext.one _ _
  have s3 : ex 30 μ.length c23 ((b23 3).headD default) (q3 P n [m] (pr ++ figs P ++ po) (fr ++ [40])) μ₂ = some (.next, q4 P n [m] (pr ++ figs P ++ po) (fr ++ [40]) (on ++ [m] ++ tw), μ₂ ++ [[vstr "", vstr "1", vstr "::1"]] ++ [[vstr "", vstr "10.0.0.7"]]) :=
    ex_assign rfl (ev_binop (ev_binop (pick_const (L := [vstr "", vstr "1", vstr "::1"]) rfl (by kernel_rfl) rfl (by decide) (ev_res rfl hb (by decide) (by decide) (by decide)) e1 on2)
      (ev_loc rfl rfl) (cat_S (a := on) (b := [m]) (by exact (short_lim (by first | (first | lia | omega) | (simp only [List.length_append, List.length_cons, List.length_nil, id]; (first | lia | omega)))))))
      (pick_const (L := [vstr "", vstr "10.0.0.7"]) rfl (by kernel_rfl) rfl (by decide) (ev_res rfl hb (by decide) (by decide) (by decide)) f1 tw2) (cat_S (b := tw) (by exact (short_lim (by first | (first | lia | omega) | (simp only [List.length_append, List.length_cons, List.length_nil, id]; (first | lia | omega)))))))
  generalize hμ3 : μ₂ ++ [[vstr "", vstr "1", vstr "::1"]] ++ [[vstr "", vstr "10.0.0.7"]] = μ₃ at s3
  have x3 : Ext μ₂ μ₃ := hμ3 ▸ (Ext.one _ _).trans (Ext.one _ _)
  have s4 : ex 30 μ.length c23 ((b23 4).headD default) (q4 P n [m] (pr ++ figs P ++ po) (fr ++ [40]) (on ++ [m] ++ tw)) μ₃ = some (.next, q5 P n [m] (pr ++ figs P ++ po) (fr ++ [40]) (on ++ [m] ++ tw) ta, μ₃ ++ [[vstr "", vstr ".", vstr " (2)", vstr ")"]]) :=
    ex_assign rfl (pick_const (L := [vstr "", vstr ".", vstr " (2)", vstr ")"]) rfl (by kernel_rfl) rfl (by decide) (ev_res rfl hb (by decide) (by decide) (by decide)) g1 ta2)
  generalize hμ4 : μ₃ ++ [[vstr "", vstr ".", vstr " (2)", vstr ")"]] = μ₄ at s4
  have x4 : Ext μ₃ μ₄ := hμ4 ▸ Ext.one _ _
  have hpar : ∀ (f : Nat) (ρ : Loc) (μ : Mem) (k : _) (p : Pos), ev (f + 1) c23 ρ (.Constant (.str ")") k p) μ = some (vstr (S [41]), μ) := fun f ρ μ k p => by
    have : (")" : Str) = S [41] := by kernel_rfl
    rw [← this]; exact ev_str (by decide)
  have s5 : ex 30 μ.length c23 ((b23 5).headD default) (q5 P n [m] (pr ++ figs P ++ po) (fr ++ [40]) (on ++ [m] ++ tw) ta) μ₄ = some (.ret (vstr (S ((((((((fr ++ [40]) ++ [m]) ++ (on ++ [m] ++ tw)) ++ [m]) ++ (pr ++ figs P ++ po)) ++ [m]) ++ [41]) ++ ta))), q5 P n [m] (pr ++ figs P ++ po) (fr ++ [40]) (on ++ [m] ++ tw) ta, μ₄) :=
    ex_return (ev_binop (ev_binop (ev_binop (ev_binop (ev_binop (ev_binop (ev_binop (ev_loc rfl rfl) (ev_loc rfl rfl) (cat_S (a := fr ++ [40]) (b := [m]) (by exact (short_lim (by first | (first | lia | omega) | (simp only [List.length_append, List.length_cons, List.length_nil, id]; (first | lia | omega))))))) (ev_loc rfl rfl) (cat_S (by exact (short_lim (by first | (first | lia | omega) | (simp only [List.length_append, List.length_cons, List.length_nil, id]; (first | lia | omega))))))) (ev_loc rfl rfl) (cat_S (by exact (short_lim (by first | (first | lia | omega) | (simp only [List.length_append, List.length_cons, List.length_nil, id]; (first | lia | omega))))))) (ev_loc rfl rfl) (cat_S (by exact (short_lim (by first | (first | lia | omega) | (simp only [List.length_append, List.length_cons, List.length_nil, id]; (first | lia | omega))))))) (ev_loc rfl rfl) (cat_S (by exact (short_lim (by first | (first | lia | omega) | (simp only [List.length_append, List.length_cons, List.length_nil, id]; (first | lia | omega)))))))
      (hpar _ _ _ _ _) (cat_S (by exact (short_lim (by first | (first | lia | omega) | (simp only [List.length_append, List.length_cons, List.length_nil, id]; (first | lia | omega))))))) (ev_loc rfl rfl) (cat_S (by exact (short_lim (by first | (first | lia | omega) | (simp only [List.length_append, List.length_cons, List.length_nil, id]; (first | lia | omega)))))))
  have ht : ((((((((fr ++ [40]) ++ [m]) ++ (on ++ [m] ++ tw)) ++ [m]) ++ (pr ++ figs P ++ po)) ++ [m]) ++ [41]) ++ ta) = (⟨m, pr, po, fr, on, tw, ta⟩ : Dress).text P := by
    unfold Dress.text
    simp
  rw [ht] at s5
  exact ⟨⟨m, pr, po, fr, on, tw, ta⟩, μ₄, run_ret (d := defAt 23) (n := 30) (c := leafCfg) rfl (exs_next rfl s0 (exs_next rfl s1 (exs_next rfl s2 (exs_next rfl s3 (exs_next rfl s4 (exs_ret rfl s5)))))), ((x1.trans x2).trans x3).trans x4, ok⟩
end
end Mine
namespace Mine
open PySem PySem.StrLaws PySem.Builtin.Str
noncomputable abbrev c7 : Cfg := leafOf 7
noncomputable abbrev b7 (i : Nat) : List Stmt := (defAt 7).body.drop i
noncomputable def Dress.num (d : Dress) (P : Nat) : List Nat := d.pre ++ figs P ++ d.post
noncomputable def Dress.body (d : Dress) (P : Nat) : List Nat := d.mark :: (d.one ++ d.mark :: (d.two ++ d.mark :: (d.num P ++ [d.mark])))
theorem Dress.text_eq (d : Dress) (P : Nat) : d.text P = d.front ++ 40 :: (d.body P ++ 41 :: d.tail) := by
  unfold Dress.text Dress.body Dress.num
  simp
theorem num_mem {d : Dress} (ok : d.Ok) {P c : Nat} (h : c ∈ d.num P) : (48 ≤ c ∧ c ≤ 57) ∨ c = 43 ∨ c = 32 := by
  unfold Dress.num at h
  rcases List.mem_append.mp h with h | h
  · rcases List.mem_append.mp h with h | h
    · rcases ok.pre with q | q | q | q <;> rw [q] at h <;> simp at h <;> (first | lia | omega)
    · exact .inl (figs_digits P c h)
  · rcases ok.post with q | q <;> rw [q] at h <;> simp at h
    (first | lia | omega)
theorem body_no41 {d : Dress} (ok : d.Ok) {P : Nat} : 41 ∉ d.body P := by
  unfold Dress.body
  have h1 := ok.mark.2.2.1
  have h2 := ok.one.2.1
  have h3 := ok.two.2.1
  intro h
  simp only [List.mem_cons, List.mem_append, List.not_mem_nil, or_false] at h
  rcases h with h | h | h | h | h | h | h
  · exact h1 h.symm
  · exact h2 h
  · exact h1 h.symm
  · exact h3 h
  · exact h1 h.symm
  · have := num_mem ok h; (first | lia | omega)
  · exact h1 h.symm
theorem body_len {d : Dress} (ok : d.Ok) {P : Nat} (hP : P < 10 ^ 10) : (d.body P).length ≤ 70 := by
  unfold Dress.body Dress.num
  have h1 := ok.one.2.2
  have h2 := ok.two.2.2
  have h3 := figs_len hP
  have h4 : d.pre.length ≤ 2 := by rcases ok.pre with h | h | h | h <;> rw [h] <;> decide
  have h5 : d.post.length ≤ 1 := by rcases ok.post with h | h <;> rw [h] <;> decide
  simp only [List.length_cons, List.length_append, List.length_nil]
  (first | lia | omega)
theorem body_split {d : Dress} (ok : d.Ok) {P : Nat} : Txt.split (S (d.body P)) ⟨#[d.mark]⟩ = [S [], S d.one, S d.two, S (d.num P), S []] := by
  have e : S (d.body P) = Str.join ⟨#[d.mark]⟩ [S [], S d.one, S d.two, S (d.num P), S []] := by
    apply str_ext
    rw [join_tl, join_tl, join_tl, join_tl]
    rfl
  rw [e]
  refine split_at (by simp) fun p hp => ?_
  simp only [List.mem_cons, List.not_mem_nil, or_false] at hp
  rcases hp with rfl | rfl | rfl | rfl | rfl
  · simp
  · exact ok.one.1
  · exact ok.two.1
  · intro h
    have := num_mem ok h
    have := ok.mark.2.2.2
    (first | lia | omega)
  · simp
section
variable {μ : Mem}
noncomputable def fr7 (x h : Str) (q : Int) : Loc := [("resp", vstr x), ("peer", .tup [.str h, .int q true])]
noncomputable def fr7a (x h : Str) (q l : Int) : Loc := [("resp", vstr x), ("peer", .tup [.str h, .int q true]), ("left", vint l)]
noncomputable def fr7b (x h : Str) (q l r : Int) : Loc := [("resp", vstr x), ("peer", .tup [.str h, .int q true]), ("left", vint l), ("right", vint r)]
noncomputable def fr7c (x h : Str) (q l r : Int) (m : Nat) : Loc := [("resp", vstr x), ("peer", .tup [.str h, .int q true]), ("left", vint l), ("right", vint r), ("parts", .lst m)]
noncomputable def fr7d (x h : Str) (q l r : Int) (m : Nat) : Loc := [("resp", vstr x), ("peer", .tup [.str h, .int q true]), ("left", vint l), ("right", vint r), ("parts", .lst m), ("host", vstr h)]
noncomputable def fr7e (x h : Str) (q l r : Int) (m : Nat) (P : Int) : Loc := [("resp", vstr x), ("peer", .tup [.str h, .int q true]), ("left", vint l), ("right", vint r), ("parts", .lst m), ("host", vstr h), ("port", vint P)]
theorem str_eq_self (x : Str) : (x == x) = true := by simp
theorem call_parse {d : Dress} (ok : d.Ok) {P : Nat} (hP : P < 10 ^ 10) {h : Str} {q : Int} : ∃ μ', callT "parse229" [vstr (S (d.text P)), .tup [.str h, .int q true]] μ = some (.tup [.str h, .int P true], μ') ∧ Ext μ μ' := by
  obtain ⟨hf1, hf2, hf3, hf4⟩ := ok.front
  have hbl := body_len ok hP
  have htl := ok.tail
  generalize hx : S (d.text P) = x
  have tx : tl x = d.front ++ 40 :: (d.body P ++ 41 :: d.tail) := by rw [← hx, tl_S, d.text_eq]
  have xl : x.length = d.front.length + (d.body P).length + d.tail.length + 2 := by rw [len_tl, tx]; simp only [List.length_append, List.length_cons]; (first | lia | omega)
  have hc : ∀ (m : Nat), (⟨#[m]⟩ : Str) = S [m] := fun _ => rfl
  -- statement 0
  have t0 : slice (vstr x) none (some 3) none μ = some (vstr (S [50, 50, 57]), μ) := by
    show (if (none : Option Int) = none then newStr (Txt.slice x none (some 3)) μ else none) = _
    rw [if_pos rfl]
    have e : Txt.slice x none (some ((3 : Nat) : Int)) = S [50, 50, 57] := str_ext (by rw [slice_ns (by (first | lia | omega)), tx, List.take_append_of_le_length hf4, hf2])
    show newStr (Txt.slice x none (some ((3 : Nat) : Int))) μ = _
    rw [e]
    exact newStr_ok (by decide)
  have s0 : ex 30 μ.length c7 ((b7 0).headD default) (fr7 x h q) μ = some (.next, fr7 x h q, μ) := by
    have hne : cmpop .NotEq (vstr (S [50, 50, 57])) (vstr "229") = some false := by kernel_rfl
    exact ex_if_f (tr_cmp (cmpE_2 rfl (ev_slice (ev_loc rfl rfl) evo_none (evo_some ev_int) evo_none t0) (ev_str (by decide)) hne) rfl) exs_nil
  -- statement 1
  have f1 : Txt.find x ⟨#[40]⟩ = d.front.length := find_at tx hf1
  have m1 : mcall (vstr x) "find" [vstr "("] μ = some (vint d.front.length, μ) := by
    show some (vint (Txt.find x "("), μ) = _
    have : ("(" : Str) = ⟨#[40]⟩ := by kernel_rfl
    rw [this, f1]
  have s1 : ex 30 μ.length c7 ((b7 1).headD default) (fr7 x h q) μ = some (.next, fr7a x h q d.front.length, μ) :=
    ex_assign rfl (ev_meth rfl (methE_m rfl (ev_loc rfl rfl) (evs_cons (ev_str (by decide)) evs_nil) m1))
  have s2 : ex 30 μ.length c7 ((b7 2).headD default) (fr7a x h q d.front.length) μ = some (.next, fr7a x h q d.front.length, μ) :=
    ex_if_f (tr_cmp (cmpE_2 (t := false) rfl (ev_loc rfl rfl) ev_int (by show some (decide _) = _; rw [decide_eq_false (by (first | lia | omega))])) rfl) exs_nil
  -- statement 3
  have f3 : Txt.find3 x ⟨#[41]⟩ (d.front.length + 1) = ((d.front.length + 1 + (d.body P).length : Nat) : Int) := by
    have e : tl x = (d.front ++ 40 :: d.body P) ++ 41 :: d.tail := by rw [tx]; simp
    have := find3_at (lo := d.front.length + 1) e (by simp) (fun v hv hlt heq => by
      rw [List.getElem_append_right (by (first | lia | omega))] at heq
      rw [List.getElem_cons] at heq
      split at heq
      · (first | lia | omega)
      · exact body_no41 ok (heq ▸ List.getElem_mem _))
    rw [Int.natCast_add] at this
    rw [show ((d.front.length : Int) + 1) = (d.front.length : Int) + ((1 : Nat) : Int) from rfl, this]
    simp only [List.length_append, List.length_cons]
    congr 1; (first | lia | omega)
  have m3 : mcall (vstr x) "find" [vstr ")", vint ((d.front.length : Int) + 1)] μ = some (vint (d.front.length + 1 + (d.body P).length : Nat), μ) := by
    show some (vint (Txt.find3 x ")" ((d.front.length : Int) + 1)), μ) = _
    have : (")" : Str) = ⟨#[41]⟩ := by kernel_rfl
    rw [this, f3]
  have s3 : ex 30 μ.length c7 ((b7 3).headD default) (fr7a x h q d.front.length) μ = some (.next, fr7b x h q d.front.length (d.front.length + 1 + (d.body P).length : Nat), μ) :=
    ex_assign rfl (ev_meth rfl (methE_m rfl (ev_loc rfl rfl) (evs_cons (ev_str (by decide)) (evs_cons (ev_binop (ev_loc rfl rfl) ev_int rfl) evs_nil)) m3))
  have s4 : ex 30 μ.length c7 ((b7 4).headD default) (fr7b x h q d.front.length (d.front.length + 1 + (d.body P).length : Nat)) μ = some (.next, fr7b x h q d.front.length (d.front.length + 1 + (d.body P).length : Nat), μ) :=
    ex_if_f (tr_cmp (cmpE_2 (t := false) rfl (ev_loc rfl rfl) ev_int (by show some (decide _) = _; rw [decide_eq_false (by (first | lia | omega))])) rfl) exs_nil
  -- statement 5
  have g1 : (tl x)[d.front.length + 1]? = some d.mark := by
    rw [tx, List.getElem?_append_right (by (first | lia | omega))]
    rw [Nat.add_sub_cancel_left]; rfl
  have g2 : (tl x)[d.front.length + (d.body P).length]? = some d.mark := by
    have e : tl x = (d.front ++ 40 :: d.mark :: (d.one ++ d.mark :: (d.two ++ d.mark :: d.num P))) ++ d.mark :: (41 :: d.tail) := by rw [tx]; unfold Dress.body; simp
    have hl : d.front.length + (d.body P).length = (d.front ++ 40 :: d.mark :: (d.one ++ d.mark :: (d.two ++ d.mark :: d.num P))).length := by
      unfold Dress.body
      simp only [List.length_append, List.length_cons, List.length_nil]; (first | lia | omega)
    rw [e, hl, List.getElem?_append_right (Nat.le_refl _), Nat.sub_self]; rfl
  have i1 : index (vstr x) (vint ((d.front.length : Int) + 1)) μ = some (vstr ⟨#[d.mark]⟩) := index_at g1
  have i2 : index (vstr x) (vint (((d.front.length + 1 + (d.body P).length : Nat) : Int) - 1)) μ = some (vstr ⟨#[d.mark]⟩) := by
    have : ((d.front.length + 1 + (d.body P).length : Nat) : Int) - 1 = ((d.front.length + (d.body P).length : Nat) : Int) := by (first | lia | omega)
    rw [this]; exact index_at g2
  have s5 : ex 30 μ.length c7 ((b7 5).headD default) (fr7b x h q d.front.length (d.front.length + 1 + (d.body P).length : Nat)) μ = some (.next, fr7b x h q d.front.length (d.front.length + 1 + (d.body P).length : Nat), μ) :=
    ex_if_f (tr_cmp (cmpE_2 (t := false) rfl (ev_index rfl (ev_loc rfl rfl) (ev_binop (ev_loc rfl rfl) ev_int rfl) i1) (ev_index rfl (ev_loc rfl rfl) (ev_binop (ev_loc rfl rfl) ev_int rfl) i2) (by show some (!(_ == _)) = _; rw [str_eq_self]; rfl)) rfl) exs_nil
  -- statement 6
  have t6 : slice (vstr x) (some ((d.front.length : Int) + 1)) (some ((d.front.length + 1 + (d.body P).length : Nat) : Int)) none μ = some (vstr (S (d.body P)), μ) := by
    show (if (none : Option Int) = none then newStr (Txt.slice x (some ((d.front.length + 1 : Nat) : Int)) (some ((d.front.length + 1 + (d.body P).length : Nat) : Int))) μ else none) = _
    rw [if_pos rfl]
    have e : Txt.slice x (some ((d.front.length + 1 : Nat) : Int)) (some ((d.front.length + 1 + (d.body P).length : Nat) : Int)) = S (d.body P) := by
      apply str_ext
      have e2 : tl x = (d.front ++ [40]) ++ (d.body P ++ 41 :: d.tail) := by rw [tx]; simp
      rw [slice_ss (by (first | lia | omega)) (by (first | lia | omega)), e2, List.drop_left' (by simp), Nat.add_sub_cancel_left, List.take_left']
      rfl
    rw [e]
    exact newStr_ok (by rw [len_tl, tl_S]; exact (short_lim (by first | (first | lia | omega) | (simp only [List.length_append, List.length_cons, List.length_nil, id]; (first | lia | omega)))))
  have m6 : mcall (vstr (S (d.body P))) "split" [vstr ⟨#[d.mark]⟩] μ = some (.lst μ.length, μ ++ [[vstr (S []), vstr (S d.one), vstr (S d.two), vstr (S (d.num P)), vstr (S [])]]) := by
    show (if ((⟨#[d.mark]⟩ : Str).length = 0 ∨ ((Txt.split (S (d.body P)) ⟨#[d.mark]⟩).any fun z => decide (lim < z.length)) = true) then none else newList ((Txt.split (S (d.body P)) ⟨#[d.mark]⟩).map vstr) μ) = _
    rw [body_split ok, if_neg]
    · exact newList_ok (by show 5 ≤ lim; decide)
    · rintro (z | z)
      · cases z
      · have hnl : (d.num P).length ≤ 70 := by
          refine Nat.le_trans ?_ hbl
          unfold Dress.body
          simp only [List.length_append, List.length_cons, List.length_nil]; (first | lia | omega)
        have o1 := ok.one.2.2
        have o2 := ok.two.2.2
        simp only [List.any_cons, List.any_nil, Bool.or_eq_true, decide_eq_true_eq, Bool.or_false] at z
        have hl : lim = 1048576 := rfl
        simp only [len_tl, tl_S, List.length_nil] at z
        rcases z with z | z | z | z | z
        · (first | lia | omega)
        · (first | lia | omega)
        · (first | lia | omega)
        · (first | lia | omega)
        · (first | lia | omega)
  have s6 : ex 30 μ.length c7 ((b7 6).headD default) (fr7b x h q d.front.length (d.front.length + 1 + (d.body P).length : Nat)) μ = some (.next, fr7c x h q d.front.length (d.front.length + 1 + (d.body P).length : Nat) μ.length, μ ++ [[vstr (S []), vstr (S d.one), vstr (S d.two), vstr (S (d.num P)), vstr (S [])]]) :=
    ex_assign rfl (ev_meth rfl (methE_m rfl (ev_slice (ev_loc rfl rfl) (evo_some (ev_binop (ev_loc rfl rfl) ev_int rfl)) (evo_some (ev_loc rfl rfl)) evo_none t6) (evs_cons (ev_index rfl (ev_loc rfl rfl) (ev_binop (ev_loc rfl rfl) ev_int rfl) i1) evs_nil) m6))
  generalize hμ1 : μ ++ [[vstr (S []), vstr (S d.one), vstr (S d.two), vstr (S (d.num P)), vstr (S [])]] = μ₁ at s6
  have hg : μ₁[μ.length]? = some [vstr (S []), vstr (S d.one), vstr (S d.two), vstr (S (d.num P)), vstr (S [])] := by rw [← hμ1]; exact get_last
  have hl7 : bcall "len" [.lst μ.length] μ₁ = some (vint 5, μ₁) := by
    show ((μ₁[μ.length]?).map fun l => (vint l.length, μ₁)) = _
    rw [hg]; rfl
  have s7 : ex 30 μ.length c7 ((b7 7).headD default) (fr7c x h q d.front.length (d.front.length + 1 + (d.body P).length : Nat) μ.length) μ₁ = some (.next, fr7c x h q d.front.length (d.front.length + 1 + (d.body P).length : Nat) μ.length, μ₁) :=
    ex_if_f (tr_cmp (cmpE_2 (t := false) rfl (ev_call rfl (callE_b rfl rfl (evs_cons (ev_loc rfl rfl) evs_nil) hl7)) ev_int rfl) rfl) exs_nil
  have s8 : ex 30 μ.length c7 ((b7 8).headD default) (fr7c x h q d.front.length (d.front.length + 1 + (d.body P).length : Nat) μ.length) μ₁ = some (.next, fr7d x h q d.front.length (d.front.length + 1 + (d.body P).length : Nat) μ.length, μ₁) :=
    ex_assign rfl (ev_index rfl (ev_loc rfl rfl) ev_int rfl)
  have i9 : index (.lst μ.length) (vint 3) μ₁ = some (vstr (S (d.num P))) := by
    show ((μ₁[μ.length]?).bind fun l => (place? 3 l.length).bind fun k => l[k]?) = _
    rw [hg]; rfl
  have c9 : bcall "int" [vstr (S (d.num P))] μ₁ = some (vint P, μ₁) := by
    have hnl : (d.num P).length ≤ 70 := by
      refine Nat.le_trans ?_ hbl
      unfold Dress.body
      simp only [List.length_append, List.length_cons, List.length_nil]; (first | lia | omega)
    show (if (S (d.num P)).length ≤ 640 then (intText? (S (d.num P))).map fun n => (vint n, μ₁) else none) = _
    rw [if_pos (by rw [len_tl, tl_S]; (first | lia | omega)), int_figs (x := S (d.num P)) (P := P) rfl hP ok.post ok.pre]; rfl
  have s9 : ex 30 μ.length c7 ((b7 9).headD default) (fr7d x h q d.front.length (d.front.length + 1 + (d.body P).length : Nat) μ.length) μ₁ = some (.next, fr7e x h q d.front.length (d.front.length + 1 + (d.body P).length : Nat) μ.length P, μ₁) :=
    ex_assign rfl (ev_call rfl (callE_b rfl rfl (evs_cons (ev_index rfl (ev_loc rfl rfl) ev_int i9) evs_nil) c9))
  have s10 : ex 30 μ.length c7 ((b7 10).headD default) (fr7e x h q d.front.length (d.front.length + 1 + (d.body P).length : Nat) μ.length P) μ₁ = some (.ret (.tup [.str h, .int P true]), fr7e x h q d.front.length (d.front.length + 1 + (d.body P).length : Nat) μ.length P, μ₁) :=
    ex_return (ev_tuple (evs_cons (ev_loc rfl rfl) (evs_cons (ev_loc rfl rfl) evs_nil)) rfl (len_ok (by rfl)))
  exact ⟨μ₁, run_ret (d := defAt 7) (n := 30) (c := leafCfg) rfl (exs_next rfl s0 (exs_next rfl s1 (exs_next rfl s2 (exs_next rfl s3 (exs_next rfl s4 (exs_next rfl s5 (exs_next rfl s6 (exs_next rfl s7 (exs_next rfl s8 (exs_next rfl s9 (exs_ret rfl s10))))))))))), hμ1 ▸ Ext.one _ _⟩
end
end Mine
namespace Mine
open PySem PySem.StrLaws
section
variable {n k0 : Nat} {c : Cfg} {ρ ρ' ρ'' : Loc} {μ μ₁ μ₂ μ₃ μ₄ : Mem} {a b v : V} {p q : Pos} {R : Option (V × Mem)} {x : Str}
theorem ev_nm (h1 : c.isLoc x = true) (h2 : ρ.lookup x = some v) : ev (n + 1) c ρ (.Name x p) μ = some (v, μ) := by
  unfold Cfg.isLoc at h1
  rcases Bool.or_eq_true_iff.mp h1 with h | h
  · exact ev_loc (by simpa using h) h2
  · exact ev_cell (by simpa using h) h2
theorem comp_nil {f : V → Mem → Option (V × Mem)} : compGo f [] μ = some ([], μ) := rfl
theorem comp_cons {f : V → Mem → Option (V × Mem)} {r vs : List V} (h1 : f v μ = some (a, μ₁)) (h2 : compGo f r μ₁ = some (vs, μ₂)) : compGo f (v :: r) μ = some (a :: vs, μ₂) := by
  show ((f v μ).bind fun a => (compGo f r a.2).bind fun b => some (a.1 :: b.1, b.2)) = _
  rw [h1]; show ((compGo f r μ₁).bind _) = _; rw [h2]; rfl
theorem ev_comp {elt tgt iter : Expr} {scope : Scope} {s : Src} {vs : List V} (h0 : (compOk scope c.names ρ tgt && ((isEnum iter).isNone || isTupT tgt)) = true) (h1 : src n c ρ iter μ = some (s, μ₁))
    (h2 : compGo (fun v μ => (bindT tgt v).bind fun bs => ev n { c with names := relab scope.names c.names } (updAll bs ρ) elt μ) s.items μ₁ = some (vs, μ₂)) (h3 : newItems vs μ₂ = R) : ev (n + 1) c ρ (.ListComp elt [⟨tgt, iter, [], 0⟩] scope p) μ = R := by
  show (if compOk scope c.names ρ tgt && ((isEnum iter).isNone || isTupT tgt) then (src n c ρ iter μ).bind fun s =>
        (compGo (fun v μ => (bindT tgt v).bind fun bs => ev n { c with names := relab scope.names c.names } (updAll bs ρ) elt μ) s.1.items s.2).bind fun r => newItems r.1 r.2 else none) = R
  rw [if_pos h0, h1]
  show ((compGo _ s.items μ₁).bind _) = R
  rw [h2]; exact h3
theorem src_enum' {e : Expr} {m : Nat} {l es : List V} (h0 : c.isGlob ("enumerate" : Str) = true) (h1 : ev n c ρ e μ = some (.lst m, μ₁)) (h2 : μ₁[m]? = some l) (h3 : enumV l = some es) :
    src (n + 1) c ρ (.Call (.Name "enumerate" q) [e] [] p) μ = some (⟨es, some (m, l)⟩, μ₁) := src_enum h0 h1 h2 h3
theorem trs_nil_and : trs (n + 1) c ρ .And [] μ = some (true, μ) := rfl
theorem trs_and_t {e : Expr} {r : List Expr} {R : Option (Bool × Mem)} (h1 : tr n c ρ e μ = some (true, μ₁)) (h2 : trs n c ρ .And r μ₁ = R) : trs (n + 1) c ρ .And (e :: r) μ = R := by
  show ((tr n c ρ e μ).bind fun a => if a.1 then trs n c ρ .And r a.2 else some (false, a.2)) = R
  rw [h1]; exact h2
theorem trs_and_f {e : Expr} {r : List Expr} (h1 : tr n c ρ e μ = some (false, μ₁)) : trs (n + 1) c ρ .And (e :: r) μ = some (false, μ₁) := by
  show ((tr n c ρ e μ).bind fun a => if a.1 then trs n c ρ .And r a.2 else some (false, a.2)) = _
  rw [h1]; rfl
theorem wh_next {test : Loc → Mem → Option (Bool × Mem)} {body : Loc → Mem → Option (Fl × Loc × Mem)} {R : Option (Fl × Loc × Mem)} (h1 : test ρ μ = some (true, μ₁)) (h2 : body ρ μ₁ = some (.next, ρ', μ₂)) (h3 : whGo test body n ρ' μ₂ = R) : whGo test body (n + 1) ρ μ = R := by
  show ((test ρ μ).bind fun t => if t.1 then (body ρ t.2).bind fun a => (match a.1 with
      | .next => whGo test body n a.2.1 a.2.2
      | .ret w => some (Fl.ret w, a.2)) else some (Fl.next, ρ, t.2)) = R
  rw [h1]
  show ((body ρ μ₁).bind _) = R
  rw [h2]; exact h3
theorem wh_stop {test : Loc → Mem → Option (Bool × Mem)} {body : Loc → Mem → Option (Fl × Loc × Mem)} (h1 : test ρ μ = some (false, μ₁)) : whGo test body (n + 1) ρ μ = some (.next, ρ, μ₁) := by
  show ((test ρ μ).bind fun t => if t.1 then (body ρ t.2).bind fun a => (match a.1 with
      | .next => whGo test body n a.2.1 a.2.2
      | .ret w => some (Fl.ret w, a.2)) else some (Fl.next, ρ, t.2)) = _
  rw [h1]; rfl
theorem ex_while {t : Expr} {body orelse : List Stmt} {R : Option (Fl × Loc × Mem)} (h1 : whGo (fun ρ μ => tr n c ρ t μ) (exsG (ex n k0 c) body) 64 ρ μ = some (.next, ρ', μ₁)) (h2 : exsG (ex n k0 c) orelse ρ' μ₁ = R) : ex (n + 1) k0 c (.While t body orelse p) ρ μ = R := by
  show ((whGo (fun ρ μ => tr n c ρ t μ) (exsG (ex n k0 c) body) 64 ρ μ).bind fun a => (match a.1 with
        | .next => exsG (ex n k0 c) orelse a.2.1 a.2.2
        | .ret w => some (Fl.ret w, a.2))) = R
  rw [h1]; exact h2
end
noncomputable abbrev cL : Cfg := { lawCfg with names := (defAt 25).names }
noncomputable abbrev bL (i : Nat) : List Stmt := (defAt 25).body.drop i
/-! numbers -/
theorem pick_map {α : Type} {f : Int → V} (l : List Int) (ks : List Nat) : ks.filterMap ((l.map f)[·]?) = (ks.filterMap (l[·]?)).map f := by
  induction ks with
  | nil => rfl
  | cons k ks ih =>
    rw [List.filterMap_cons, List.filterMap_cons, List.getElem?_map]
    cases l[k]? with
    | none => exact ih
    | some a => show f a :: _ = f a :: _; rw [ih]
noncomputable def every (ns : List Int) (k : Int) : List Int := (sliceRange (sliceBounds (some k) none (some 5) ns.length).1 (sliceBounds (some k) none (some 5) ns.length).2.1 (sliceBounds (some k) none (some 5) ns.length).2.2).filterMap (ns[·]?)
theorem every_eq (ns : List Int) (k : Int) : pick (ns.map vraw) (some k) none (some 5) = (every ns k).map vraw := by
  unfold pick every
  rw [List.length_map, pick_map (α := Int)]
theorem every_len {ns : List Int} {k : Int} (h0 : 0 ≤ k) (h : ns.length ≤ 63) : (every ns k).length ≤ 100 := by
  unfold every
  refine Nat.le_trans (List.length_filterMap_le _ _) ?_
  unfold sliceRange
  rw [List.length_map, List.length_range]
  simp only [sliceBounds, Option.getD_some, show (5 : Int) > 0 by decide, if_true]
  split <;> (split <;> (first | lia | omega))
theorem allInts_raw : ∀ xs : List Int, allInts (xs.map vraw) = some xs
  | [] => rfl
  | x :: xs => by
    show (allInts (xs.map vraw)).map _ = _
    rw [allInts_raw xs]; rfl
noncomputable def numE (ns : List Int) (k own : Int) : Int := (own + (every ns k).sum).fmod 1000000
theorem numE_range (ns : List Int) (k own : Int) : 0 ≤ numE ns k own ∧ numE ns k own < 1000000 := by
  unfold numE
  rw [Int.fmod_eq_emod_of_nonneg _ (by decide)]
  exact ⟨Int.emod_nonneg _ (by decide), Int.emod_lt_of_pos _ (by decide)⟩
noncomputable def compParts (i : Nat) : Expr × Scope := match ((bL i).head? : Option PySem.Stmt) with
  | some (.Assign _ (.ListComp e _ s _) _) => (e, s)
  | _ => (.Constant .none 0 default, default)
theorem num_item {ns : List Int} (hn : ns.length ≤ 63) {μ : Mem} (h0 : μ[0]? = some (ns.map vraw)) {k own : Int} (hk : 0 ≤ k) {tgt : Expr} :
    ev 28 { cL with names := relab (compParts 0).2.names cL.names } (updAll [("k", vint k), ("own", vint own)] [("script", .lst 0)]) (compParts 0).1 μ = some (vint (numE ns k own), μ ++ [(every ns k).map vraw]) := by
  have hs : slice (.lst 0) (some k) none (some 5) μ = some (.lst μ.length, μ ++ [(every ns k).map vraw]) := by
    show (if (some (5 : Int)) = some 0 then none else (match μ[0]? with | some l => newList (pick l (some k) none (some 5)) μ | none => none)) = _
    rw [if_neg (by decide), h0]
    show newList (pick (ns.map vraw) (some k) none (some 5)) μ = _
    rw [every_eq]
    exact newList_ok (by rw [List.length_map]; exact Nat.le_trans (every_len hk hn) (by decide))
  have hsum : bcall "sum" [.lst μ.length] (μ ++ [(every ns k).map vraw]) = some (vraw (every ns k).sum, μ ++ [(every ns k).map vraw]) := by
    show ((((μ ++ [(every ns k).map vraw])[μ.length]?).bind allInts).map fun l => (vraw l.sum, μ ++ [(every ns k).map vraw])) = _
    rw [get_last]
    show ((allInts ((every ns k).map vraw)).map _) = _
    rw [allInts_raw]; rfl
  exact ev_binop (ev_binop (ev_nm rfl rfl) (ev_call rfl (callE_b rfl rfl (evs_cons (ev_slice (ev_nm rfl rfl) (evo_some (ev_nm rfl rfl)) evo_none (evo_some ev_int) hs) evs_nil) hsum)) rfl) (ev_binop ev_int ev_int rfl) (binop_mod (by decide))
end Mine
namespace Mine
open PySem PySem.StrLaws
noncomputable def disp0 : List V := [vint 91, vint 500038, vint 2, vint 77, vint 4321]
noncomputable def numsV (ns : List Int) : List V := [vint (numE ns 0 91), vint (numE ns 1 500038), vint (numE ns 2 2), vint (numE ns 3 77), vint (numE ns 4 4321)]
noncomputable def mu1 (ns : List Int) : Mem := [ns.map vraw, disp0, (every ns 0).map vraw, (every ns 1).map vraw, (every ns 2).map vraw, (every ns 3).map vraw, (every ns 4).map vraw, numsV ns]
noncomputable def ra1 : Loc := [("script", .lst 0), ("numbers", .lst 7)]
noncomputable def it (i own : Int) : V := .tup [.int i true, .int own true]
noncomputable def items0 : List V := [it 0 91, it 1 500038, it 2 2, it 3 77, it 4 4321]
theorem items0_eq : enumV disp0 = some items0 := by rfl
noncomputable abbrev comp0 : V → Mem → Option (V × Mem) := fun v μ => (bindT (.Tuple [.Name "k" default, .Name "own" default] 0 default) v).bind fun bs => ev 28 { cL with names := relab (compParts 0).2.names cL.names } (updAll bs [("script", .lst 0)]) (compParts 0).1 μ
theorem bind_to {α β : Type} {o : Option α} {f : α → Option β} {x : α} {r : Option β} (h : o = some x) (k : f x = r) : o.bind f = r := by rw [h]; exact k
theorem comp0_at {ns : List Int} (hn : ns.length ≤ 63) {μ : Mem} (h0 : μ[0]? = some (ns.map vraw)) {k own : Int} (hk : 0 ≤ k) : comp0 (it k own) μ = some (vint (numE ns k own), μ ++ [(every ns k).map vraw]) :=
  bind_to (o := bindT (.Tuple [.Name "k" default, .Name "own" default] 0 default) (it k own)) (f := fun bs => ev 28 { cL with names := relab (compParts 0).2.names cL.names } (updAll bs [("script", .lst 0)]) (compParts 0).1 μ) (x := [("k", vint k), ("own", vint own)]) rfl (num_item hn h0 hk (tgt := .Constant .none 0 default))
noncomputable def mu0 (ns : List Int) (l : List (List V)) : Mem := ns.map vraw :: l
theorem comp0_all {ns : List Int} (hn : ns.length ≤ 63) : compGo comp0 items0 (mu0 ns [disp0]) = some (numsV ns, mu0 ns [disp0, (every ns 0).map vraw, (every ns 1).map vraw, (every ns 2).map vraw, (every ns 3).map vraw, (every ns 4).map vraw]) := by
  have e0 : comp0 (it 0 91) (mu0 ns [disp0]) = some (vint (numE ns 0 91), mu0 ns [disp0, (every ns 0).map vraw]) := comp0_at hn rfl (by decide)
  have e1 : comp0 (it 1 500038) (mu0 ns [disp0, (every ns 0).map vraw]) = some (vint (numE ns 1 500038), mu0 ns [disp0, (every ns 0).map vraw, (every ns 1).map vraw]) := comp0_at hn rfl (by decide)
  have e2 : comp0 (it 2 2) (mu0 ns [disp0, (every ns 0).map vraw, (every ns 1).map vraw]) = some (vint (numE ns 2 2), mu0 ns [disp0, (every ns 0).map vraw, (every ns 1).map vraw, (every ns 2).map vraw]) := comp0_at hn rfl (by decide)
  have e3 : comp0 (it 3 77) (mu0 ns [disp0, (every ns 0).map vraw, (every ns 1).map vraw, (every ns 2).map vraw]) = some (vint (numE ns 3 77), mu0 ns [disp0, (every ns 0).map vraw, (every ns 1).map vraw, (every ns 2).map vraw, (every ns 3).map vraw]) := comp0_at hn rfl (by decide)
  have e4 : comp0 (it 4 4321) (mu0 ns [disp0, (every ns 0).map vraw, (every ns 1).map vraw, (every ns 2).map vraw, (every ns 3).map vraw]) = some (vint (numE ns 4 4321), mu0 ns [disp0, (every ns 0).map vraw, (every ns 1).map vraw, (every ns 2).map vraw, (every ns 3).map vraw, (every ns 4).map vraw]) := comp0_at hn rfl (by decide)
  exact comp_cons e0 (comp_cons e1 (comp_cons e2 (comp_cons e3 (comp_cons e4 comp_nil))))
theorem st0 {ns : List Int} (hn : ns.length ≤ 63) : ex 30 1 cL ((bL 0).headD default) [("script", .lst 0)] (mu0 ns []) = some (.next, ra1, mu1 ns) := by
  have hsrc : ∀ (f : Nat) (p1 p2 p3 : Pos) es, evs (ev f cL [("script", .lst 0)]) es (mu0 ns []) = some (disp0, mu0 ns []) → src (f + 2) cL [("script", .lst 0)] (.Call (.Name "enumerate" p1) [.List es p2] [] p3) (mu0 ns []) = some (⟨items0, some (1, disp0)⟩, mu0 ns [disp0]) := fun f p1 p2 p3 es h =>
    src_enum rfl (ev_list h (newItems_ok rfl (len_ok (by rfl)))) rfl items0_eq
  have hc : (compOk (compParts 0).2 cL.names [("script", .lst 0)] (.Tuple [.Name "k" default, .Name "own" default] 0 default) && (isEnum (.Call (.Name "enumerate" default) [.List [] default] [] default)).isNone || true) = true := by kernel_rfl
  refine ex_assign rfl (ev_comp (s := ⟨items0, some (1, disp0)⟩) (μ₁ := mu0 ns [disp0]) (vs := numsV ns) (μ₂ := mu0 ns [disp0, (every ns 0).map vraw, (every ns 1).map vraw, (every ns 2).map vraw, (every ns 3).map vraw, (every ns 4).map vraw]) ?_ (hsrc _ _ _ _ _ ?_) (comp0_all hn) (newItems_ok rfl (len_ok (by rfl))))
  · kernel_rfl
  · kernel_rfl
noncomputable def ra2 (S : Int) : Loc := [("script", .lst 0), ("numbers", .lst 7), ("size", vint S)]
noncomputable def ra3 (S d : Int) : Loc := [("script", .lst 0), ("numbers", .lst 7), ("size", vint S), ("step", vint d)]
noncomputable def ra4 (S d : Int) : Loc := [("script", .lst 0), ("numbers", .lst 7), ("size", vint S), ("step", vint d), ("places", .lst 8)]
theorem st1 {ns : List Int} : ex 30 1 cL ((bL 1).headD default) ra1 (mu1 ns) = some (.next, ra2 (9 + numE ns 0 91), mu1 ns) :=
  ex_assign rfl (ev_binop ev_int (ev_index rfl (ev_nm rfl rfl) ev_int rfl) rfl)
theorem st2 {ns : List Int} {S : Int} : ex 30 1 cL ((bL 2).headD default) (ra2 S) (mu1 ns) = some (.next, ra3 S (numE ns 1 500038 - 500000), mu1 ns) :=
  ex_assign rfl (ev_binop (ev_index rfl (ev_nm rfl rfl) ev_int rfl) ev_int rfl)
theorem fmod_emod {a b : Int} (h : 0 < b) : a.fmod b = a % b := Int.fmod_eq_emod_of_nonneg _ (by (first | lia | omega))
theorem st3 {μ : Mem} {S d : Int} (hS : 9 ≤ S) (hd : d.natAbs ≤ 600000) : ∃ d', ex 30 1 cL ((bL 3).headD default) (ra3 S d) μ = some (.next, ra3 S d', μ) ∧ d'.natAbs ≤ 600000 ∧ ¬ (2 * d') % S = 0 := by
  have hm : ∀ (f : Nat) (p1 p2 p3 p4 p5 : Pos) (k1), ev (f + 4) cL (ra3 S d) (.BinOp (.BinOp (.Constant (.int 2) k1 p1) .Mult (.Name "step" p2) p3) .Mod (.Name "size" p4) p5) μ = some (vint ((2 * d) % S), μ) := fun f p1 p2 p3 p4 p5 k1 => by
    rw [← fmod_emod (by (first | lia | omega))]
    exact ev_binop (ev_binop ev_int (ev_nm rfl rfl) (binop_mul (by decide) (by show _ < 4611686018427387904; (first | lia | omega)))) (ev_nm rfl rfl) (binop_mod (by (first | lia | omega)))
  by_cases h : (2 * d) % S = 0
  · refine ⟨1, ex_if_t (tr_cmp (cmpE_2 rfl (hm _ _ _ _ _ _ _) ev_int rfl) (by show some (_ == _) = _; rw [h]; rfl)) (exs_next rfl (ex_assign rfl ev_int) exs_nil), by decide, ?_⟩
    rw [Int.emod_eq_of_lt (by decide) (by (first | lia | omega))]
    decide
  · exact ⟨d, ex_if_f (tr_cmp (cmpE_2 rfl (hm _ _ _ _ _ _ _) ev_int rfl) (by show some (_ == _) = _; rw [beq_eq_false_iff_ne.mpr h])) exs_nil, hd, h⟩
/-! places -/
noncomputable def pts (S d : Int) (m : Nat) : List Int := (List.range m).map (pt S d)
theorem pts_succ (S d : Int) (m : Nat) : (pts S d (m + 1)).map vint = (pts S d m).map vint ++ [vint (pt S d m)] := by
  unfold pts
  rw [List.range_succ, List.map_append, List.map_append]; rfl
theorem pts_len (S d : Int) (m : Nat) : ((pts S d m).map vint).length = m := by
  unfold pts; simp
theorem pts_get {S d : Int} {m k : Nat} (h : k < m) : ((pts S d m).map vint)[k]? = some (vint (pt S d k)) := by
  unfold pts
  rw [List.getElem?_map, List.getElem?_map, List.getElem?_range h]; rfl
theorem pt_next {S d : Int} (h : 0 < S) (k : Nat) : (pt S d k + d).fmod S = pt S d (k + 1) := by
  rw [fmod_emod h]
  unfold pt
  rw [Int.emod_add_emod]
  congr 1
  rw [show ((k + 1 : Nat) : Int) = (k : Int) + 1 by (first | lia | omega), Int.add_mul, Int.one_mul]
noncomputable def mu4 (ns : List Int) (l : List V) : Mem := [ns.map vraw, disp0, (every ns 0).map vraw, (every ns 1).map vraw, (every ns 2).map vraw, (every ns 3).map vraw, (every ns 4).map vraw, numsV ns, l]
theorem st4 {ns : List Int} {S d : Int} : ex 30 1 cL ((bL 4).headD default) (ra3 S d) (mu1 ns) = some (.next, ra4 S d, mu4 ns ((pts S d 1).map vint)) := by
  have : (pts S d 1).map vint = [vint 0] := by
    show [vint (pt S d 0)] = _
    rw [pt_zero]
  rw [this]
  exact ex_assign rfl (ev_list (evs_cons ev_int evs_nil) (newItems_ok rfl (len_ok (by rfl))))
noncomputable def whTest : Expr := match ((bL 5).head? : Option PySem.Stmt) with
  | some (.While t _ _ _) => t
  | _ => .Constant .none 0 default
noncomputable def whBody : List Stmt := match ((bL 5).head? : Option PySem.Stmt) with
  | some (.While _ b _ _) => b
  | _ => []
section
variable {ns : List Int} {S d : Int} {j : Nat}
theorem ev_last (hS : 0 < S) (hj : 0 < j) : ∀ (f : Nat) (p1 p2 p3 p4 p5 p6 p7 p8 : Pos) (k1), ev (f + 5) cL (ra4 S d) (.BinOp (.BinOp (.Subscript (.Name "places" p1) (.UnaryOp .USub (.Constant (.int 1) k1 p2) p3) p4) .Add (.Name "step" p5) p6) .Mod (.Name "size" p7) p8) (mu4 ns ((pts S d j).map vint)) = some (vint (pt S d j), mu4 ns ((pts S d j).map vint)) := fun f p1 p2 p3 p4 p5 p6 p7 p8 k1 => by
  obtain ⟨i, rfl⟩ : ∃ i, j = i + 1 := ⟨j - 1, by (first | lia | omega)⟩
  have hi : index (.lst 8) (vint (-1)) (mu4 ns ((pts S d (i + 1)).map vint)) = some (vint (pt S d i)) := by
    show (place? (-1) ((pts S d (i + 1)).map vint).length).bind (fun k => ((pts S d (i + 1)).map vint)[k]?) = _
    rw [pts_len, place_last (by (first | lia | omega))]
    exact pts_get (by (first | lia | omega))
  rw [← pt_next hS i]
  exact ev_binop (ev_binop (ev_index rfl (ev_nm rfl rfl) (ev_neg ev_int) hi) (ev_nm rfl rfl) rfl) (ev_nm rfl rfl) (binop_mod (by (first | lia | omega)))
theorem wh_loop (hS : 0 < S) : ∀ (f j : Nat), 0 < j → (j : Int) ≤ 2 + (numE ns 2 2).fmod 7 → 2 + (numE ns 2 2).fmod 7 ≤ (j : Int) + f → (∀ k, 0 < k → k < j → pt S d k ≠ 0) →
    ∃ m, j ≤ m ∧ (m : Int) ≤ 2 + (numE ns 2 2).fmod 7 ∧ (∀ k, 0 < k → k < m → pt S d k ≠ 0) ∧ (pt S d j ≠ 0 → (j : Int) < 2 + (numE ns 2 2).fmod 7 → j < m) ∧
      whGo (fun ρ μ => tr 29 cL ρ whTest μ) (exsG (ex 29 1 cL) whBody) (f + 1) (ra4 S d) (mu4 ns ((pts S d j).map vint)) = some (.next, ra4 S d, mu4 ns ((pts S d m).map vint))
  | f, j, h0, h1, h2, hz => by
    have t1 : ∀ (g : Nat) (p1 p2 p3 p4 p5 p6 p7 p8 p9 p10 : Pos) k1 k2 k3, tr (g + 6) cL (ra4 S d) (.Compare (.Call (.Name "len" p1) [.Name "places" p2] [] p3) [.Lt] [.BinOp (.Constant (.int 2) k1 p4) .Add (.BinOp (.Subscript (.Name "numbers" p5) (.Constant (.int 2) k2 p6) p7) .Mod (.Constant (.int 7) k3 p8) p9) p10] p1) (mu4 ns ((pts S d j).map vint)) = some (decide ((j : Int) < 2 + (numE ns 2 2).fmod 7), mu4 ns ((pts S d j).map vint)) := fun g p1 p2 p3 p4 p5 p6 p7 p8 p9 p10 k1 k2 k3 => by
      have hl : bcall "len" [.lst 8] (mu4 ns ((pts S d j).map vint)) = some (vint j, mu4 ns ((pts S d j).map vint)) := by
        show some (vint ((pts S d j).map vint).length, _) = _
        rw [pts_len]
      exact tr_cmp (cmpE_2 rfl (ev_call rfl (callE_b rfl rfl (evs_cons (ev_nm rfl rfl) evs_nil) hl)) (ev_binop ev_int (ev_binop (ev_index rfl (ev_nm rfl rfl) ev_int rfl) ev_int (binop_mod (by decide))) rfl) rfl) rfl
    have t2 : ∀ (g : Nat) (e : Expr) (p : Pos) (p1 : Pos) k1, ev (g + 2) cL (ra4 S d) e (mu4 ns ((pts S d j).map vint)) = some (vint (pt S d j), mu4 ns ((pts S d j).map vint)) → tr (g + 4) cL (ra4 S d) (.Compare e [.NotEq] [.Constant (.int 0) k1 p1] p) (mu4 ns ((pts S d j).map vint)) = some (!(pt S d j == 0), mu4 ns ((pts S d j).map vint)) := fun g e p p1 k1 h =>
      tr_cmp (cmpE_2 rfl h ev_int rfl) rfl
    by_cases hc : (j : Int) < 2 + (numE ns 2 2).fmod 7
    · by_cases hp : pt S d j = 0
      · refine ⟨j, Nat.le_refl _, h1, hz, fun q => absurd hp q, wh_stop (tr_bool (trs_and_t (μ₁ := mu4 ns ((pts S d j).map vint)) ?_ (trs_and_f ?_)))⟩
        · refine Eq.trans (t1 _ _ _ _ _ _ _ _ _ _ _ _ _ _) ?_
          rw [decide_eq_true hc]
        · refine Eq.trans (t2 _ _ _ _ _ (ev_last hS h0 _ _ _ _ _ _ _ _ _ _)) ?_
          rw [hp]; rfl
      · cases f with
        | zero => (first | lia | omega)
        | succ f =>
          obtain ⟨m, m1, m2, m3, _, m5⟩ := wh_loop hS f (j + 1) (by (first | lia | omega)) (by (first | lia | omega)) (by (first | lia | omega)) (fun k hk0 hk => by
            by_cases e : k = j
            · subst e; exact hp
            · exact hz k hk0 (by (first | lia | omega)))
          refine ⟨m, by (first | lia | omega), m2, m3, fun _ _ => by (first | lia | omega), wh_next (tr_bool (trs_and_t (μ₁ := mu4 ns ((pts S d j).map vint)) ?_ (trs_and_t (μ₁ := mu4 ns ((pts S d j).map vint)) ?_ trs_nil_and))) (exs_next rfl (ex_append ⟨rfl, rfl⟩ (ev_nm rfl rfl) (ev_last hS h0 _ _ _ _ _ _ _ _ _ _) rfl (by decide) rfl ?_) exs_nil) ?_⟩
          · refine Eq.trans (t1 _ _ _ _ _ _ _ _ _ _ _ _ _ _) ?_
            rw [decide_eq_true hc]
          · refine Eq.trans (t2 _ _ _ _ _ (ev_last hS h0 _ _ _ _ _ _ _ _ _ _)) ?_
            rw [beq_eq_false_iff_ne.mpr hp]; rfl
          · rw [pts_len]
            have : (j : Int) ≤ 10 := by
              have := (Int.emod_lt_of_pos (numE ns 2 2) (by decide : (0 : Int) < 7))
              rw [fmod_emod (by decide)] at hc
              (first | lia | omega)
            exact short_lim (by (first | lia | omega))
          · rw [← pts_succ]
            exact m5
    · refine ⟨j, Nat.le_refl _, h1, hz, fun _ q => absurd q hc, wh_stop (tr_bool (trs_and_f ?_))⟩
      refine Eq.trans (t1 _ _ _ _ _ _ _ _ _ _ _ _ _ _) ?_
      rw [decide_eq_false hc]
end
end Mine
namespace Mine
open PySem PySem.StrLaws
noncomputable def ra6 (S d : Int) (u : Int) : Loc := [("script", .lst 0), ("numbers", .lst 7), ("size", vint S), ("step", vint d), ("places", .lst 8), ("near", vint u)]
noncomputable def ra7 (S d : Int) (u v : Int) : Loc := [("script", .lst 0), ("numbers", .lst 7), ("size", vint S), ("step", vint d), ("places", .lst 8), ("near", vint u), ("far", vint v)]
noncomputable def ra8 (S d : Int) (u v s : Int) : Loc := [("script", .lst 0), ("numbers", .lst 7), ("size", vint S), ("step", vint d), ("places", .lst 8), ("near", vint u), ("far", vint v), ("short", vint s)]
noncomputable def ra9 (S d : Int) (u v s t : Int) : Loc := [("script", .lst 0), ("numbers", .lst 7), ("size", vint S), ("step", vint d), ("places", .lst 8), ("near", vint u), ("far", vint v), ("short", vint s), ("tall", vint t)]
noncomputable def ra10 (S d : Int) (u v s t : Int) : Loc := [("script", .lst 0), ("numbers", .lst 7), ("size", vint S), ("step", vint d), ("places", .lst 8), ("near", vint u), ("far", vint v), ("short", vint s), ("tall", vint t), ("ports", .lst 11)]
noncomputable def ra11 (S d : Int) (u v s t : Int) : Loc := [("script", .lst 0), ("numbers", .lst 7), ("size", vint S), ("step", vint d), ("places", .lst 8), ("near", vint u), ("far", vint v), ("short", vint s), ("tall", vint t), ("ports", .lst 11), ("rows", .lst 12)]
noncomputable def ra12 (S d : Int) (u v s t : Int) : Loc := [("script", .lst 0), ("numbers", .lst 7), ("size", vint S), ("step", vint d), ("places", .lst 8), ("near", vint u), ("far", vint v), ("short", vint s), ("tall", vint t), ("ports", .lst 11), ("rows", .lst 12), ("ring", vstr "")]
theorem pick1 {l : List V} (h : 1 ≤ l.length) : pick l (some 1) none none = l.drop 1 := by
  unfold pick
  have e : sliceBounds (some 1) none none l.length = (1, (l.length : Int), 1) := by
    simp only [sliceBounds, Option.getD_none, show (1 : Int) > 0 by decide, if_true]
    rw [if_neg (by decide)]
    congr 1; (first | lia | omega)
  rw [e]
  have e2 : sliceRange 1 (l.length : Int) 1 = (List.range (l.length - 1)).map fun k => 1 + k := by
    unfold sliceRange
    simp only [show (1 : Int) > 0 by decide, if_true]
    have : (if (1 : Int) < (l.length : Int) then ((l.length : Int) - 1 + 1 - 1) / 1 else 0).toNat = l.length - 1 := by
      split
      · rw [Int.ediv_one]; (first | lia | omega)
      · (first | lia | omega)
    rw [this]
    apply List.map_congr_left
    intro k _
    (first | lia | omega)
  show (sliceRange 1 (l.length : Int) 1).filterMap (l[·]?) = _
  rw [e2, picks l _ _ (by (first | lia | omega))]
  rw [List.take_of_length_le]; rw [List.length_drop]; exact Nat.le_refl _
theorem allInts_vint : ∀ xs : List Int, allInts (xs.map vint) = some xs
  | [] => rfl
  | x :: xs => by
    show (allInts (xs.map vint)).map _ = _
    rw [allInts_vint xs]; rfl
section
variable {ns : List Int} {S d : Int} {m : Nat} {μ : Mem}
theorem slice1 {l : List V} {i : Nat} (h : μ[i]? = some l) (h1 : 1 ≤ l.length) (h2 : l.length ≤ 100) : slice (.lst i) (some 1) none none μ = some (.lst μ.length, μ ++ [l.drop 1]) := by
  show (if (none : Option Int) = some 0 then none else (match μ[i]? with | some l => newList (pick l (some 1) none none) μ | none => none)) = _
  rw [if_neg (by decide), h]
  show newList (pick l (some 1) none none) μ = _
  rw [pick1 h1]
  exact newList_ok (by rw [List.length_drop]; exact short_lim (by (first | lia | omega)))
theorem drop_pts (S d : Int) (m : Nat) : ((pts S d m).map vint).drop 1 = ((pts S d m).drop 1).map vint := by rw [List.map_drop]
theorem drop_get {k : Nat} (h : k + 1 < m) : ((pts S d m).drop 1)[k]? = some (pt S d (k + 1)) := by
  unfold pts
  rw [List.getElem?_drop, List.getElem?_map, Nat.add_comm 1 k, List.getElem?_range h]; rfl
theorem drop_len : ((pts S d m).drop 1).length = m - 1 := by
  unfold pts; rw [List.length_drop, List.length_map, List.length_range]
theorem drop_getD {k : Nat} (h : k + 1 < m) : ((pts S d m).drop 1).getD k 0 = pt S d (k + 1) := by
  rw [List.getD_eq_getElem?_getD, drop_get h]; rfl
theorem min_ok (hm : 2 ≤ m) {i : Nat} (h : μ[i]? = some (((pts S d m).drop 1).map vint)) : ∃ k, 0 < k ∧ k < m ∧ (∀ q, 0 < q → q < m → pt S d k ≤ pt S d q) ∧ bcall "min" [.lst i] μ = some (vint (pt S d k), μ) := by
  obtain ⟨b1, b2⟩ := argBest_lt (fun i => ((pts S d m).drop 1).getD i 0) (((pts S d m).drop 1).length - 1)
  generalize hb : argBest (fun i j => decide (((pts S d m).drop 1).getD i 0 < ((pts S d m).drop 1).getD j 0)) (((pts S d m).drop 1).length - 1) = b at b1 b2
  rw [drop_len] at b1 b2
  refine ⟨b + 1, by (first | lia | omega), by (first | lia | omega), fun q h0 hq => ?_, ?_⟩
  · have := b2 (q - 1) (by (first | lia | omega))
    rw [drop_getD (by (first | lia | omega)), drop_getD (by (first | lia | omega))] at this
    rw [show q - 1 + 1 = q by (first | lia | omega)] at this
    exact this
  · show ((μ[i]?).bind fun l => (allInts l).bind fun is => if 0 < is.length then (l[argBest (fun i j => decide (is.getD i 0 < is.getD j 0)) (is.length - 1)]?).map (·, μ) else none) = _
    rw [h]
    show ((allInts (((pts S d m).drop 1).map vint)).bind _) = _
    rw [allInts_vint]
    show (if 0 < ((pts S d m).drop 1).length then ((((pts S d m).drop 1).map vint)[argBest (fun i j => decide (((pts S d m).drop 1).getD i 0 < ((pts S d m).drop 1).getD j 0)) (((pts S d m).drop 1).length - 1)]?).map (·, μ) else none) = _
    rw [if_pos (by rw [drop_len]; (first | lia | omega)), hb, List.getElem?_map, drop_get (by (first | lia | omega))]; rfl
theorem max_ok (hm : 2 ≤ m) {i : Nat} (h : μ[i]? = some (((pts S d m).drop 1).map vint)) : ∃ k, 0 < k ∧ k < m ∧ (∀ q, 0 < q → q < m → pt S d q ≤ pt S d k) ∧ bcall "max" [.lst i] μ = some (vint (pt S d k), μ) := by
  obtain ⟨b1, b2⟩ := argBest_gt (fun i => ((pts S d m).drop 1).getD i 0) (((pts S d m).drop 1).length - 1)
  generalize hb : argBest (fun i j => decide (((pts S d m).drop 1).getD i 0 > ((pts S d m).drop 1).getD j 0)) (((pts S d m).drop 1).length - 1) = b at b1 b2
  rw [drop_len] at b1 b2
  refine ⟨b + 1, by (first | lia | omega), by (first | lia | omega), fun q h0 hq => ?_, ?_⟩
  · have := b2 (q - 1) (by (first | lia | omega))
    rw [drop_getD (by (first | lia | omega)), drop_getD (by (first | lia | omega))] at this
    rw [show q - 1 + 1 = q by (first | lia | omega)] at this
    exact this
  · show ((μ[i]?).bind fun l => (allInts l).bind fun is => if 0 < is.length then (l[argBest (fun i j => decide (is.getD i 0 > is.getD j 0)) (is.length - 1)]?).map (·, μ) else none) = _
    rw [h]
    show ((allInts (((pts S d m).drop 1).map vint)).bind _) = _
    rw [allInts_vint]
    show (if 0 < ((pts S d m).drop 1).length then ((((pts S d m).drop 1).map vint)[argBest (fun i j => decide (((pts S d m).drop 1).getD i 0 > ((pts S d m).drop 1).getD j 0)) (((pts S d m).drop 1).length - 1)]?).map (·, μ) else none) = _
    rw [if_pos (by rw [drop_len]; (first | lia | omega)), hb, List.getElem?_map, drop_get (by (first | lia | omega))]; rfl
/-- indexOf of a place -/
theorem index_ok {i k : Nat} (h : μ[i]? = some ((pts S d m).map vint)) (hk : k < m) (h0 : pt S d k ≠ 0) : ∃ u, 0 < u ∧ u < m ∧ pt S d u = pt S d k ∧ callT "indexOf" [.lst i, vint (pt S d k)] μ = some (vint (u : Nat), μ) := by
  have hm : pt S d k ∈ pts S d m := by
    unfold pts
    exact List.mem_map.mpr ⟨k, List.mem_range.mpr hk, rfl⟩
  have hlt := List.idxOf_lt_length_iff.mpr hm
  have hl : (pts S d m).length = m := by unfold pts; simp
  have hg : pt S d ((pts S d m).idxOf (pt S d k)) = pt S d k := by
    have e := List.getElem_idxOf hlt
    have e3 := List.getElem?_eq_getElem hlt
    rw [e] at e3
    have e2 : ∀ i, i < m → (pts S d m)[i]? = some (pt S d i) := fun i hi => by
      unfold pts
      rw [List.getElem?_map, List.getElem?_range hi]; rfl
    rw [e2 _ (by (first | lia | omega))] at e3
    exact Option.some.inj e3
  refine ⟨(pts S d m).idxOf (pt S d k), ?_, by (first | lia | omega), hg, call_index h hm⟩
  rcases Nat.eq_zero_or_pos ((pts S d m).idxOf (pt S d k)) with h' | h'
  · rw [h', pt_zero] at hg
    exact absurd hg.symm h0
  · exact h'
/-- the numbers of the law -/
structure Data where
  S : Int
  d : Int
  m : Nat
  u : Nat
  v : Nat
  s : Int
  t : Int
  x3 : Int
  x4 : Int
structure Data.Ok (D : Data) : Prop where
  S9 : 9 ≤ D.S
  Shi : D.S ≤ 1000100
  dhi : D.d.natAbs ≤ 600000
  m2 : 2 ≤ D.m
  m8 : D.m ≤ 8
  u0 : 0 < D.u
  um : D.u < D.m
  v0 : 0 < D.v
  vm : D.v < D.m
  pu : pt D.S D.d D.u = D.s
  pv : pt D.S D.d D.v = D.S - D.t
  s0 : 0 < D.s
  t0 : 0 < D.t
  near : Near D.S D.d D.s D.t D.m
  x3 : 0 ≤ D.x3 ∧ D.x3 < 1000000
  x4 : 0 ≤ D.x4 ∧ D.x4 < 1000000
theorem Data.Ok.gaps {D : Data} (h : D.Ok) : Gaps D.S D.d D.u D.v D.s D.t := ⟨by have := h.S9; (first | lia | omega), h.u0, h.v0, h.pu, h.pv, h.s0, h.t0⟩
/-- the state ahead of the main loop -/
structure Mu12 (ns : List Int) (D : Data) (μ : Mem) : Prop where
  len : μ.length = 13
  nums : ∃ a b c, μ[7]? = some [a, b, c, vint D.x3, vint D.x4]
  places : μ[8]? = some ((pts D.S D.d D.m).map vint)
  ports : μ[11]? = some []
  rows : μ[12]? = some []
noncomputable abbrev Rho12 (D : Data) : Loc := ra12 D.S D.d D.u D.v D.s D.t
end
end Mine
namespace Mine
open PySem PySem.StrLaws
section
variable {ns : List Int} {S d : Int} {m : Nat} {μ : Mem}
theorem st6 {k u : Nat} (h8 : μ[8]? = some ((pts S d m).map vint)) (hl : μ.length = 9) (hm : 2 ≤ m) (hm8 : m ≤ 8) (hb : bcall "min" [.lst 9] (μ ++ [((pts S d m).drop 1).map vint]) = some (vint (pt S d k), μ ++ [((pts S d m).drop 1).map vint])) (hc : callT "indexOf" [.lst 8, vint (pt S d k)] (μ ++ [((pts S d m).drop 1).map vint]) = some (vint (u : Nat), μ ++ [((pts S d m).drop 1).map vint])) :
    ex 30 1 cL ((bL 6).headD default) (ra4 S d) μ = some (.next, ra6 S d u, μ ++ [((pts S d m).drop 1).map vint]) := by
  have hs := slice1 h8 (by rw [pts_len]; (first | lia | omega)) (by rw [pts_len]; (first | lia | omega))
  rw [drop_pts, hl] at hs
  exact ex_assign rfl (ev_call rfl (callE_d rfl rfl (evs_cons (ev_nm rfl rfl) (evs_cons (ev_call rfl (callE_b rfl rfl (evs_cons (ev_slice (ev_nm rfl rfl) (evo_some ev_int) evo_none evo_none hs) evs_nil) hb)) evs_nil)) rfl hc))
theorem st7 {k v : Nat} {u : Int} (h8 : μ[8]? = some ((pts S d m).map vint)) (hl : μ.length = 10) (hm : 2 ≤ m) (hm8 : m ≤ 8) (hb : bcall "max" [.lst 10] (μ ++ [((pts S d m).drop 1).map vint]) = some (vint (pt S d k), μ ++ [((pts S d m).drop 1).map vint])) (hc : callT "indexOf" [.lst 8, vint (pt S d k)] (μ ++ [((pts S d m).drop 1).map vint]) = some (vint (v : Nat), μ ++ [((pts S d m).drop 1).map vint])) :
    ex 30 1 cL ((bL 7).headD default) (ra6 S d u) μ = some (.next, ra7 S d u v, μ ++ [((pts S d m).drop 1).map vint]) := by
  have hs := slice1 h8 (by rw [pts_len]; (first | lia | omega)) (by rw [pts_len]; (first | lia | omega))
  rw [drop_pts, hl] at hs
  exact ex_assign rfl (ev_call rfl (callE_d rfl rfl (evs_cons (ev_nm rfl rfl) (evs_cons (ev_call rfl (callE_b rfl rfl (evs_cons (ev_slice (ev_nm rfl rfl) (evo_some ev_int) evo_none evo_none hs) evs_nil) hb)) evs_nil)) rfl hc))
theorem place_at {i k : Nat} (h : μ[i]? = some ((pts S d m).map vint)) (hk : k < m) : index (.lst i) (vint (k : Nat)) μ = some (vint (pt S d k)) := by
  show ((μ[i]?).bind fun l => (place? (k : Nat) l.length).bind fun j => l[j]?) = _
  rw [h]
  show (place? (k : Nat) ((pts S d m).map vint).length).bind _ = _
  have : place? (k : Nat) ((pts S d m).map vint).length = some k := by
    unfold place?
    rw [pts_len, if_pos (by (first | lia | omega))]; rfl
  rw [this]
  exact pts_get hk
theorem st8 {u v : Nat} (h8 : μ[8]? = some ((pts S d m).map vint)) (hu : u < m) : ex 30 1 cL ((bL 8).headD default) (ra7 S d u v) μ = some (.next, ra8 S d u v (pt S d u), μ) :=
  ex_assign rfl (ev_index rfl (ev_nm rfl rfl) (ev_nm rfl rfl) (place_at h8 hu))
theorem st9 {u v : Nat} {s : Int} (h8 : μ[8]? = some ((pts S d m).map vint)) (hv : v < m) : ex 30 1 cL ((bL 9).headD default) (ra8 S d u v s) μ = some (.next, ra9 S d u v s (S - pt S d v), μ) :=
  ex_assign rfl (ev_binop (ev_nm rfl rfl) (ev_index rfl (ev_nm rfl rfl) (ev_nm rfl rfl) (place_at h8 hv)) rfl)
theorem ev_list0 {f : Nat} {ρ : Loc} {p : Pos} {i : Nat} (hl : μ.length = i) : ev (f + 1) cL ρ (.List [] p) μ = some (.lst i, μ ++ [[]]) := by
  subst hl
  exact ev_list evs_nil (newItems_ok rfl (len_ok (by rfl)))
theorem st10 {u v s t : Int} (hl : μ.length = 11) : ex 30 1 cL ((bL 10).headD default) (ra9 S d u v s t) μ = some (.next, ra10 S d u v s t, μ ++ [[]]) := ex_assign rfl (ev_list0 hl)
theorem st11 {u v s t : Int} (hl : μ.length = 12) : ex 30 1 cL ((bL 11).headD default) (ra10 S d u v s t) μ = some (.next, ra11 S d u v s t, μ ++ [[]]) := ex_assign rfl (ev_list0 hl)
theorem st12 {u v s t : Int} : ex 30 1 cL ((bL 12).headD default) (ra11 S d u v s t) μ = some (.next, ra12 S d u v s t, μ) := ex_assign rfl (ev_str (by decide))
theorem wh_ok (hS : 9 ≤ S) (hd : ¬ (2 * d) % S = 0) : ∃ m, 2 ≤ m ∧ m ≤ 8 ∧ (∀ k, 0 < k → k < m → pt S d k ≠ 0) ∧ ex 30 1 cL ((bL 5).headD default) (ra4 S d) (mu4 ns ((pts S d 1).map vint)) = some (.next, ra4 S d, mu4 ns ((pts S d m).map vint)) := by
  have h7 : 0 ≤ (numE ns 2 2).fmod 7 ∧ (numE ns 2 2).fmod 7 < 7 := fmod_lo (by decide)
  have hp : pt S d 1 ≠ 0 := by
    intro e
    apply hd
    unfold pt at e
    rw [show ((1 : Nat) : Int) * d = d by (first | lia | omega)] at e
    rw [Int.mul_emod, e, Int.mul_zero, Int.zero_emod]
  obtain ⟨m, m1, m2, m3, m4, m5⟩ := wh_loop (ns := ns) (d := d) (S := S) (by (first | lia | omega)) 63 1 (by decide) (by (first | lia | omega)) (by (first | lia | omega)) (fun k h0 h1 => by (first | lia | omega))
  exact ⟨m, m4 hp (by (first | lia | omega)), by (first | lia | omega), m3, ex_while m5 exs_nil⟩
theorem head_ok (hn : ns.length ≤ 63) : ∃ (D : Data) (μ : Mem), D.Ok ∧ Mu12 ns D μ ∧ ∀ R, exsG (ex 30 1 cL) (bL 13) (Rho12 D) μ = R → exsG (ex 30 1 cL) (bL 0) [("script", .lst 0)] (mu0 ns []) = R := by
  have r0 := numE_range ns 0 91
  have r1 := numE_range ns 1 500038
  have r3 := numE_range ns 3 77
  have r4 := numE_range ns 4 4321
  have hS : 9 ≤ 9 + numE ns 0 91 := by (first | lia | omega)
  obtain ⟨d, s3, hd, hz⟩ := st3 (μ := mu1 ns) (S := 9 + numE ns 0 91) (d := numE ns 1 500038 - 500000) hS (by (first | lia | omega))
  generalize hSS : 9 + numE ns 0 91 = S at *
  obtain ⟨m, m2, m8, mz, s5⟩ := wh_ok (ns := ns) hS hz
  have e8 : (mu4 ns ((pts S d m).map vint))[8]? = some ((pts S d m).map vint) := rfl
  have l8 : (mu4 ns ((pts S d m).map vint)).length = 9 := rfl
  have e7 : (mu4 ns ((pts S d m).map vint))[7]? = some (numsV ns) := rfl
  generalize mu4 ns ((pts S d m).map vint) = μ5 at *
  have x6 : Ext μ5 (μ5 ++ [((pts S d m).drop 1).map vint]) := Ext.one _ _
  have g9 : (μ5 ++ [((pts S d m).drop 1).map vint])[9]? = some (((pts S d m).drop 1).map vint) := by rw [← l8]; exact get_last
  obtain ⟨k, k0, km, kle, hmin⟩ := min_ok (S := S) (d := d) m2 g9
  obtain ⟨u, u0, um, pu, hu⟩ := index_ok (x6.get e8) km (mz k k0 km)
  have s6 := st6 e8 l8 m2 m8 hmin hu
  have l9 : (μ5 ++ [((pts S d m).drop 1).map vint]).length = 10 := by rw [List.length_append, l8]; rfl
  have e8' := x6.get e8
  have e7' := x6.get e7
  generalize μ5 ++ [((pts S d m).drop 1).map vint] = μ6 at *
  have x7 : Ext μ6 (μ6 ++ [((pts S d m).drop 1).map vint]) := Ext.one _ _
  have g10 : (μ6 ++ [((pts S d m).drop 1).map vint])[10]? = some (((pts S d m).drop 1).map vint) := by rw [← l9]; exact get_last
  obtain ⟨k', k0', km', kle', hmax⟩ := max_ok (S := S) (d := d) m2 g10
  obtain ⟨v, v0, vm, pv, hv⟩ := index_ok (x7.get e8') km' (mz k' k0' km')
  have s7 := st7 (u := u) e8' l9 m2 m8 hmax hv
  have l10 : (μ6 ++ [((pts S d m).drop 1).map vint]).length = 11 := by rw [List.length_append, l9]; rfl
  have e8'' := x7.get e8'
  have e7'' := x7.get e7'
  generalize μ6 ++ [((pts S d m).drop 1).map vint] = μ7 at *
  have s8 := st8 (v := v) e8'' um
  have s9 := st9 (u := u) (s := pt S d u) e8'' vm
  have s10 := st10 (μ := μ7) (S := S) (d := d) (u := u) (v := v) (s := pt S d u) (t := S - pt S d v) l10
  have x10 : Ext μ7 (μ7 ++ [[]]) := Ext.one _ _
  have l11 : (μ7 ++ [[]] : Mem).length = 12 := by rw [List.length_append, l10]; rfl
  have s11 := st11 (μ := μ7 ++ [[]]) (S := S) (d := d) (u := u) (v := v) (s := pt S d u) (t := S - pt S d v) l11
  have x11 : Ext (μ7 ++ [[]] : Mem) (μ7 ++ [[]] ++ [[]]) := Ext.one _ _
  have s12 := st12 (μ := μ7 ++ [[]] ++ [[]]) (S := S) (d := d) (u := u) (v := v) (s := pt S d u) (t := S - pt S d v)
  have p0 : ∀ i, 0 ≤ pt S d i ∧ pt S d i < S := fun i => ⟨pt_nonneg (by (first | lia | omega)) i, pt_lt (by (first | lia | omega)) i⟩
  refine ⟨⟨S, d, m, u, v, pt S d u, S - pt S d v, numE ns 3 77, numE ns 4 4321⟩, μ7 ++ [[]] ++ [[]], ⟨hS, by show S ≤ _; (first | lia | omega), hd, m2, m8, u0, um, v0, vm, rfl, by show pt S d v = S - (S - pt S d v); (first | lia | omega), ?_, ?_, fun q h0 hq => ⟨?_, ?_⟩, r3, r4⟩, ⟨?_, ⟨_, _, _, x11.get (x10.get e7'')⟩, x11.get (x10.get e8''), ?_, ?_⟩, fun R hR => ?_⟩
  · have := mz u u0 um
    have := (p0 u).1
    show 0 < pt S d u
    (first | lia | omega)
  · have := (p0 v).2
    show 0 < S - pt S d v
    (first | lia | omega)
  · show pt S d u ≤ pt S d q
    rw [pu]; exact kle q h0 hq
  · show pt S d q ≤ S - (S - pt S d v)
    have := kle' q h0 hq
    rw [← pv] at this
    (first | lia | omega)
  · show (μ7 ++ [[]] ++ [[]] : Mem).length = 13
    rw [List.length_append, l11]; rfl
  · refine x11.get ?_
    have := get_last (μ := μ7) (l := [])
    rw [l10] at this
    exact this
  · have := get_last (μ := (μ7 ++ [[]] : Mem)) (l := [])
    rw [l11] at this
    exact this
  · have s0 := st0 hn
    have s1 := st1 (ns := ns)
    rw [hSS] at s1
    exact exs_next rfl s0 (exs_next rfl s1 (exs_next rfl st2 (exs_next rfl s3 (exs_next rfl st4 (exs_next rfl s5 (exs_next rfl s6 (exs_next rfl s7 (exs_next rfl s8 (exs_next rfl s9 (exs_next rfl s10 (exs_next rfl s11 (exs_next rfl s12 hR))))))))))))
end
end Mine
namespace Mine
open PySem PySem.StrLaws
section
variable {n k0 : Nat} {c : Cfg} {ρ ρ' ρ'' : Loc} {μ μ₁ μ₂ μ₃ μ₄ : Mem} {a b v : V} {p q : Pos} {R : Option (V × Mem)} {x : Str}
theorem trs_nil_or : trs (n + 1) c ρ .Or [] μ = some (false, μ) := rfl
theorem trs_or_f {e : Expr} {r : List Expr} {R : Option (Bool × Mem)} (h0 : isEqPair e r = none) (h1 : tr n c ρ e μ = some (false, μ₁)) (h2 : trs n c ρ .Or r μ₁ = R) : trs (n + 1) c ρ .Or (e :: r) μ = R := by
  have : trs (n + 1) c ρ .Or (e :: r) μ = (match isEqPair e r with
        | some ((l, r), l', r') => (ev n c ρ l μ).bind fun a => (ev n c ρ r a.2).bind fun b => (ev n c ρ l' b.2).bind fun a' => (ev n c ρ r' a'.2).bind fun b' =>
            if b.2 = μ ∧ b'.2 = μ ∧ a'.1 = a.1 ∧ b'.1 = b.1 then (isOrEq a.1 b.1).map (·, μ) else none
        | none => (tr n c ρ e μ).bind fun a => if a.1 then some (true, a.2) else trs n c ρ .Or r a.2) := rfl
  rw [this, h0]
  show ((tr n c ρ e μ).bind _) = R
  rw [h1]; exact h2
theorem callE_isint {e : Expr} {i : Int} {o : Bool} (h0 : c.isGlob ("int" : Str) = true) (h1 : ev n c ρ e μ = some (.a0 (.int i o), μ₁)) : callE (n + 1) c ρ "isinstance" [e, .Name "int" p] μ = some (vbool true, μ₁) := by
  unfold callE
  rw [if_pos rfl]
  dsimp only
  rw [if_pos (by rw [h0]; rfl), h1]; rfl
end
noncomputable def fixed : List Str := [".0", "numbers", "size", "step", "places", "near", "far", "short", "tall", "ports", "rows"]
noncomputable def RhoF (D : Data) (ρ : Loc) : Prop := ∀ x ∈ fixed, ρ.lookup x = (Rho12 D).lookup x
section
variable {D : Data} {ρ : Loc} {μ : Mem} {i : Nat}
theorem RhoF.upd {x : Str} {v : V} (h : RhoF D ρ) (hx : x ∉ fixed) : RhoF D (upd x v ρ) := fun y hy => upd_ne (fun e => hx (e ▸ hy)) (h y hy)
theorem RhoF.dot (h : RhoF D ρ) : ρ.lookup (".0" : Str) = none := (h _ (by decide)).trans rfl
theorem RhoF.numbers (h : RhoF D ρ) : ρ.lookup ("numbers" : Str) = some (.lst 7) := (h _ (by decide)).trans rfl
theorem RhoF.size (h : RhoF D ρ) : ρ.lookup ("size" : Str) = some (vint D.S) := (h _ (by decide)).trans rfl
theorem RhoF.step (h : RhoF D ρ) : ρ.lookup ("step" : Str) = some (vint D.d) := (h _ (by decide)).trans rfl
theorem RhoF.places (h : RhoF D ρ) : ρ.lookup ("places" : Str) = some (.lst 8) := (h _ (by decide)).trans rfl
theorem RhoF.near (h : RhoF D ρ) : ρ.lookup ("near" : Str) = some (vint D.u) := (h _ (by decide)).trans rfl
theorem RhoF.far (h : RhoF D ρ) : ρ.lookup ("far" : Str) = some (vint D.v) := (h _ (by decide)).trans rfl
theorem RhoF.short (h : RhoF D ρ) : ρ.lookup ("short" : Str) = some (vint D.s) := (h _ (by decide)).trans rfl
theorem RhoF.tall (h : RhoF D ρ) : ρ.lookup ("tall" : Str) = some (vint D.t) := (h _ (by decide)).trans rfl
theorem RhoF.ports (h : RhoF D ρ) : ρ.lookup ("ports" : Str) = some (.lst 11) := (h _ (by decide)).trans rfl
theorem RhoF.rows (h : RhoF D ρ) : ρ.lookup ("rows" : Str) = some (.lst 12) := (h _ (by decide)).trans rfl
/-- the ring's letters; a row of it -/
noncomputable def ringL (D : Data) (k : Nat) : List Nat := (ring (pt D.S D.d) k).map (97 + ·)
noncomputable def rowS (D : Data) (k : Nat) : Str := S (ringL D k ++ [97])
noncomputable def rowsV (D : Data) (k : Nat) : List V := (List.range k).map fun j => vstr (rowS D (j + 1))
structure MuL (D : Data) (k : Nat) (μ : Mem) : Prop where
  len : 13 ≤ μ.length
  nums : ∃ a b c, μ[7]? = some [a, b, c, vint D.x3, vint D.x4]
  places : μ[8]? = some ((pts D.S D.d D.m).map vint)
  ports : μ[11]? = some ((pts D.S D.d k).map vint)
  rows : μ[12]? = some (rowsV D k)
theorem MuL.ext {k : Nat} {μ' : Mem} (h : MuL D k μ) (e : Ext μ μ') : MuL D k μ' :=
  ⟨Nat.le_trans h.len e.len, let ⟨a, b, c, q⟩ := h.nums; ⟨a, b, c, e.get q⟩, e.get h.places, e.get h.ports, e.get h.rows⟩
theorem chr_at {y : Int} {o : Bool} {c : Nat} (h : y = (c : Int)) (hc : c ≤ 1114111) : bcall "chr" [.a0 (.int y o)] μ = some (vstr (S [c]), μ) := by
  subst h
  show (if (0 : Int) ≤ (c : Int) ∧ (c : Int) ≤ 1114111 then some (vstr ⟨#[((c : Int)).toNat]⟩, μ) else none) = _
  rw [if_pos (by (first | lia | omega))]; rfl
theorem letters_ok : (List.range 40).all (fun i => PyData.strOk (S [97 + i])) = true := by kernel_rfl
theorem strOk_at (h : i < 40) : PyData.strOk (S [97 + i]) = true := List.all_eq_true.mp letters_ok i (List.mem_range.mpr h)
theorem ring_succ (D : Data) (k : Nat) : ringL D (k + 1) = (ringL D k).take ((List.range k).countP fun i => decide (pt D.S D.d i < pt D.S D.d k)) ++ (97 + k) :: (ringL D k).drop ((List.range k).countP fun i => decide (pt D.S D.d i < pt D.S D.d k)) := by
  unfold ringL
  rw [← List.map_take, ← List.map_drop, ← List.map_cons (f := (97 + ·)), ← List.map_append]
  rfl
theorem ringL_len (D : Data) (k : Nat) : (ringL D k).length = k := by unfold ringL; rw [List.length_map, ring_length]
theorem rowsV_succ (D : Data) (k : Nat) : rowsV D (k + 1) = rowsV D k ++ [vstr (rowS D (k + 1))] := by
  unfold rowsV
  rw [List.range_succ, List.map_append]; rfl
theorem rowsV_len (D : Data) (k : Nat) : (rowsV D k).length = k := by unfold rowsV; simp
theorem mul_step (hD : D.Ok) : ((i : Int) * D.d).fmod D.S = pt D.S D.d i := by
  rw [fmod_emod (by have := hD.S9; (first | lia | omega))]; rfl
theorem ptN (hD : D.Ok) (i : Nat) : ((pt D.S D.d i).toNat : Int) = pt D.S D.d i ∧ (pt D.S D.d i).toNat < 10 ^ 10 := by
  have h1 := pt_nonneg (d := D.d) (show 0 < D.S by have := hD.S9; (first | lia | omega)) i
  have h2 := pt_lt (d := D.d) (show 0 < D.S by have := hD.S9; (first | lia | omega)) i
  have := hD.Shi
  (first | lia | omega)
/-- the turn's first statement: what the reply tells -/
theorem turn_told (hD : D.Ok) (hi : i < 40) (hF : RhoF D ρ) (hk : ρ.lookup ("k" : Str) = some (vraw (0 + (i : Int)))) (hM : ∃ a b c, μ[7]? = some [a, b, c, vint D.x3, vint D.x4]) :
    ∃ μ', ex 29 1 cL ((forBody 25 13).headD default) ρ μ = some (.next, upd "told" (.tup [.str (S [97 + i]), .int (pt D.S D.d i) true]) ρ, μ') ∧ Ext μ μ' := by
  obtain ⟨a, b, c, h7⟩ := hM
  obtain ⟨hp1, hp2⟩ := ptN hD i
  have hx := hD.x4
  have hd := hD.dhi
  have hS := hD.S9
  obtain ⟨dr, μ1, c1, x1, ok⟩ := call_reply (μ := μ) (n := D.x4 + 89 * (0 + (i : Int))) hp2 (by (first | lia | omega)) (by (first | lia | omega))
  obtain ⟨μ2, c2, x2⟩ := call_parse (μ := μ1) ok hp2 (h := S [97 + i]) (q := 21)
  rw [hp1] at c1 c2
  have i4 : index (.lst 7) (vint 4) μ = some (vint D.x4) := by
    show ((μ[7]?).bind fun l => (place? 4 l.length).bind fun k => l[k]?) = _
    rw [h7]; rfl
  have hm : ((0 + (i : Int)) * D.d).fmod D.S = pt D.S D.d i := by rw [Int.zero_add]; exact mul_step hD
  have a1 : ∀ (f : Nat) (p1 p2 p3 p4 p5 : Pos), ev (f + 3) cL ρ (.BinOp (.BinOp (.Name "k" p1) .Mult (.Name "step" p2) p3) .Mod (.Name "size" p4) p5) μ = some (vint (pt D.S D.d i), μ) := fun f p1 p2 p3 p4 p5 => by
    rw [← hm]
    exact ev_binop (ev_binop (ev_nm rfl hk) (ev_nm rfl hF.step) (binop_mul (by show _ < 4611686018427387904; (first | lia | omega)) (by show _ < 4611686018427387904; (first | lia | omega)))) (ev_nm rfl hF.size) (binop_mod (by (first | lia | omega)))
  have a2 : ∀ (f : Nat) (p1 p2 p3 p4 p5 p6 p7 : Pos) k1 k2, ev (f + 3) cL ρ (.BinOp (.Subscript (.Name "numbers" p1) (.Constant (.int 4) k1 p2) p3) .Add (.BinOp (.Constant (.int 89) k2 p4) .Mult (.Name "k" p5) p6) p7) μ = some (vint (D.x4 + 89 * (0 + (i : Int))), μ) := fun f p1 p2 p3 p4 p5 p6 p7 k1 k2 =>
    ev_binop (ev_index rfl (ev_nm rfl hF.numbers) ev_int i4) (ev_binop ev_int (ev_nm rfl hk) (binop_mul (by decide) (by show _ < 4611686018427387904; (first | lia | omega)))) rfl
  have a3 : ∀ (f : Nat) (e1 e2 : Expr) (p1 p2 : Pos), ev f cL ρ e1 μ = some (vint (pt D.S D.d i), μ) → ev f cL ρ e2 μ = some (vint (D.x4 + 89 * (0 + (i : Int))), μ) →
      ev (f + 2) cL ρ (.Call (.Name "_law_reply" p1) [e1, e2] [] p2) μ = some (vstr (S (dr.text (pt D.S D.d i).toNat)), μ1) := fun f e1 e2 p1 p2 h1 h2 =>
    ev_call rfl (callE_d rfl rfl (evs_cons h1 (evs_cons h2 evs_nil)) rfl c1)
  have a4 : ∀ (f : Nat) (p1 p2 p3 p4 p5 p6 p7 : Pos) k1 k2 k3, ev (f + 5) cL ρ (.Tuple [.Call (.Name "chr" p1) [.BinOp (.Constant (.int 97) k1 p2) .Add (.Name "k" p3) p4] [] p5, .Constant (.int 21) k2 p6] k3 p7) μ1 = some (.tup [.str (S [97 + i]), .int 21 true], μ1) := fun f p1 p2 p3 p4 p5 p6 p7 k1 k2 k3 =>
    ev_tuple (evs_cons (ev_call rfl (callE_b rfl rfl (evs_cons (ev_binop ev_int (ev_nm rfl hk) rfl) evs_nil) (chr_at (c := 97 + i) (by (first | lia | omega)) (by (first | lia | omega))))) (evs_cons ev_int evs_nil)) rfl (len_ok (by rfl))
  exact ⟨μ2, ex_assign rfl (ev_call rfl (callE_d rfl rfl (evs_cons (a3 _ _ _ _ _ (a1 _ _ _ _ _ _) (a2 _ _ _ _ _ _ _ _ _ _)) (evs_cons (a4 _ _ _ _ _ _ _ _ _ _ _) evs_nil)) rfl c2)), x1.trans x2⟩
/-- it tells letter and port -/
theorem turn_if (hD : D.Ok) (hi : i < 40) (hF : RhoF D ρ) (hk : ρ.lookup ("k" : Str) = some (vraw (0 + (i : Int)))) (ht : ρ.lookup ("told" : Str) = some (.tup [.str (S [97 + i]), .int (pt D.S D.d i) true])) :
    ex 29 1 cL (((forBody 25 13).drop 1).headD default) ρ μ = some (.next, ρ, μ) := by
  have hd := hD.dhi
  have hS := hD.S9
  have hm : ((0 + (i : Int)) * D.d).fmod D.S = pt D.S D.d i := by rw [Int.zero_add]; exact mul_step hD
  have hc : cmpop .NotEq (.tup [.str (S [97 + i]), .int (pt D.S D.d i) true]) (.tup [.str (S [97 + i]), .int (((0 + (i : Int)) * D.d).fmod D.S) true]) = some false := by
    rw [hm]
    show (if (PyData.strOk (S [97 + i]) && PyData.strOk (S [97 + i]) && true) = true then some (!(S [97 + i] == S [97 + i] && (pt D.S D.d i == pt D.S D.d i && true))) else none) = _
    rw [strOk_at hi, str_eq_self, beq_self_eq_true]; rfl
  refine ex_if_f (tr_bool (trs_or_f rfl (tr_cmp (cmpE_2 (t := false) rfl (ev_nm rfl ht) (ev_tuple (evs_cons (ev_call rfl (callE_b rfl rfl (evs_cons (ev_binop ev_int (ev_nm rfl hk) rfl) evs_nil) (chr_at (c := 97 + i) (by (first | lia | omega)) (by (first | lia | omega)))))
    (evs_cons (ev_call rfl (callE_d rfl rfl (evs_cons (ev_call rfl (callE_d rfl rfl (evs_cons (ev_nm rfl hk) (evs_cons (ev_nm rfl hF.step) evs_nil)) rfl (call_mul (by show _ < 4611686018427387904; (first | lia | omega)) (by show _ < 4611686018427387904; (first | lia | omega))))) (evs_cons (ev_nm rfl hF.size) evs_nil)) rfl (call_mod (by (first | lia | omega))))) evs_nil)) rfl (len_ok (by rfl))) hc) rfl)
    (trs_or_f rfl (tr_not (t := true) (tr_call (ev_call rfl (callE_isint rfl (ev_index rfl (ev_nm rfl ht) ev_int rfl))) rfl)) trs_nil_or))) exs_nil
end
end Mine
namespace Mine
open PySem PySem.StrLaws
section
variable {D : Data} {ρ : Loc} {μ : Mem} {i : Nat}
theorem slice_take {l : List Nat} {k : Nat} (h : k ≤ l.length) (hl : l.length ≤ 1000) : slice (vstr (S l)) none (some (k : Int)) none μ = some (vstr (S (l.take k)), μ) := by
  show (if (none : Option Int) = none then newStr (Txt.slice (S l) none (some (k : Int))) μ else none) = _
  rw [if_pos rfl]
  have e : Txt.slice (S l) none (some (k : Int)) = S (l.take k) := str_ext (slice_ns h)
  rw [e]
  exact newStr_ok (by rw [len_tl, tl_S, List.length_take]; exact short_lim (by (first | lia | omega)))
theorem slice_drop {l : List Nat} {k : Nat} (h : k ≤ l.length) (hl : l.length ≤ 1000) : slice (vstr (S l)) (some (k : Int)) none none μ = some (vstr (S (l.drop k)), μ) := by
  show (if (none : Option Int) = none then newStr (Txt.slice (S l) (some (k : Int)) none) μ else none) = _
  rw [if_pos rfl]
  have e : Txt.slice (S l) (some (k : Int)) none = S (l.drop k) := str_ext (slice_sn h)
  rw [e]
  exact newStr_ok (by rw [len_tl, tl_S, List.length_drop]; exact short_lim (by (first | lia | omega)))
theorem comp_ok {scope : Scope} {names : List (Str × NameKind)} {tgt : Expr} (h0 : ρ.lookup (".0" : Str) = none) (h1 : compOk scope names [] tgt = true) (h2 : (scope.names.all fun p => !(p.2 == .local) || (tgtNames tgt).contains p.1 || p.1 == (".0" : Str)) = true) : compOk scope names ρ tgt = true := by
  unfold compOk at h1 ⊢
  simp only [Bool.and_eq_true] at h1 ⊢
  obtain ⟨⟨⟨⟨⟨a, b⟩, c⟩, d⟩, e⟩, f⟩ := h1
  refine ⟨⟨⟨⟨⟨a, ?_⟩, c⟩, d⟩, e⟩, f⟩
  rw [List.all_eq_true] at b h2 ⊢
  intro p hp
  have hb := b p hp
  have hq := h2 p hp
  obtain ⟨x, k⟩ := p
  cases k with
  | «local» =>
    simp only [Bool.or_eq_true, Bool.and_eq_true] at hb hq ⊢
    refine ⟨?_, hb.2⟩
    rcases hq with (hq | hq) | hq
    · exact absurd hq (by decide)
    · exact .inl hq
    · right
      have : x = (".0" : Str) := by simpa using hq
      rw [this, h0]; rfl
  | _ => exact hb
noncomputable def placeComp : Expr × Scope := match ((forBody 25 13)[2]? : Option PySem.Stmt) with
  | some (.Assign _ (.Call _ (.ListComp e _ s _ :: _) _ _) _) => (e, s)
  | _ => (.Constant .none 0 default, default)
noncomputable abbrev cP : Cfg := { cL with names := relab placeComp.2.names cL.names }
theorem place_comp {f : Nat} {p : Pos} {c : A0} {y : Int} (ht : ρ.lookup ("told" : Str) = some (.tup [c, .int y true])) : ∀ (l : List Int),
    compGo (fun v μ => (bindT (.Name "port" p) v).bind fun bs => ev (f + 4) cP (updAll bs ρ) placeComp.1 μ) (l.map vint) μ = some (l.map fun x => vbool (decide (x < y)), μ)
  | [] => rfl
  | x :: l => by
    refine comp_cons (μ₁ := μ) (bind_to (o := bindT (.Name "port" p) (vint x)) (f := fun bs => ev (f + 4) cP (updAll bs ρ) placeComp.1 μ) (x := [("port", vint x)]) rfl ?_) (place_comp ht l)
    have e1 : (upd "port" (vint x) ρ).lookup ("told" : Str) = some (.tup [c, .int y true]) := upd_ne (by decide) ht
    exact ev_call rfl (callE_d rfl rfl (evs_cons (ev_nm rfl upd_same) (evs_cons (ev_index rfl (ev_nm rfl e1) ev_int rfl) evs_nil)) rfl call_lt)
theorem count_bools (D : Data) (k : Nat) : (((pts D.S D.d k).map fun x => decide (x < pt D.S D.d k)).count true) = (List.range k).countP fun i => decide (pt D.S D.d i < pt D.S D.d k) := by
  unfold pts
  rw [List.map_map, List.count_eq_countP, List.countP_map]
  congr 1
  funext j
  simp
theorem turn_place (hi : i < 40) (hF : RhoF D ρ) (ht : ρ.lookup ("told" : Str) = some (.tup [.str (S [97 + i]), .int (pt D.S D.d i) true])) (hp : μ[11]? = some ((pts D.S D.d i).map vint)) :
    ∃ μ', ex 29 1 cL (((forBody 25 13).drop 2).headD default) ρ μ = some (.next, upd "place" (vint ((List.range i).countP fun j => decide (pt D.S D.d j < pt D.S D.d i) : Nat)) ρ, μ') ∧ Ext μ μ' := by
  have hall : ((pts D.S D.d i).map fun x => vbool (decide (x < pt D.S D.d i))).all notLst = true := by
    rw [List.all_map, List.all_eq_true]
    intro x _; rfl
  have hlen : ((pts D.S D.d i).map fun x => vbool (decide (x < pt D.S D.d i))).length ≤ lim := by
    unfold pts
    rw [List.length_map, List.length_map, List.length_range]; exact short_lim (by (first | lia | omega))
  have hc := call_count (μ := μ ++ [(pts D.S D.d i).map fun x => vbool (decide (x < pt D.S D.d i))]) (m := μ.length) (bs := (pts D.S D.d i).map fun x => decide (x < pt D.S D.d i)) (by rw [get_last, List.map_map]; rfl)
  rw [count_bools] at hc
  exact ⟨_, ex_assign rfl (ev_call rfl (callE_d rfl rfl (evs_cons (ev_comp (by rw [comp_ok hF.dot (by kernel_rfl) (by kernel_rfl)]; rfl) (src_name (ev_nm rfl hF.ports) hp) (place_comp ht (pts D.S D.d i)) (newItems_ok hall hlen)) (evs_cons ev_bool evs_nil)) rfl hc)), Ext.one _ _⟩
theorem turn_ring (hi : i < 40) (hk : ρ.lookup ("k" : Str) = some (vraw (0 + (i : Int)))) (hr : ρ.lookup ("ring" : Str) = some (vstr (S (ringL D i)))) (hp : ρ.lookup ("place" : Str) = some (vint ((List.range i).countP fun j => decide (pt D.S D.d j < pt D.S D.d i) : Nat))) :
    ex 29 1 cL (((forBody 25 13).drop 3).headD default) ρ μ = some (.next, upd "ring" (vstr (S (ringL D (i + 1)))) ρ, μ) := by
  have hle : ((List.range i).countP fun j => decide (pt D.S D.d j < pt D.S D.d i)) ≤ (ringL D i).length := by
    rw [ringL_len]
    refine Nat.le_trans List.countP_le_length ?_
    rw [List.length_range]; exact Nat.le_refl _
  have hl' : (ringL D i).length < 40 := by rw [ringL_len]; (first | lia | omega)
  have hl : (ringL D i).length ≤ 1000 := by (first | lia | omega)
  have e : ringL D (i + 1) = ((ringL D i).take ((List.range i).countP fun j => decide (pt D.S D.d j < pt D.S D.d i)) ++ [97 + i]) ++ (ringL D i).drop ((List.range i).countP fun j => decide (pt D.S D.d j < pt D.S D.d i)) := by
    rw [ring_succ, List.append_assoc]; rfl
  rw [e]
  exact ex_assign rfl (ev_binop (ev_binop (ev_slice (ev_nm rfl hr) evo_none (evo_some (ev_nm rfl hp)) evo_none (slice_take hle hl)) (ev_call rfl (callE_b rfl rfl (evs_cons (ev_binop ev_int (ev_nm rfl hk) rfl) evs_nil) (chr_at (c := 97 + i) (by (first | lia | omega)) (by (first | lia | omega))))) (cat_S (by rw [List.length_take]; exact short_lim (by simp only [List.length_cons, List.length_nil]; (first | lia | omega)))))
    (ev_slice (ev_nm rfl hr) (evo_some (ev_nm rfl hp)) evo_none evo_none (slice_drop hle hl)) (cat_S (by rw [List.length_append, List.length_take, List.length_drop]; exact short_lim (by simp only [List.length_cons, List.length_nil]; (first | lia | omega)))))
theorem get_set_same {l : List V} {j : Nat} (h : j < μ.length) : (μ.set j l)[j]? = some l := by
  rw [List.getElem?_set_self h]
theorem get_set_ne {l : List V} {j k : Nat} (h : j ≠ k) : (μ.set j l)[k]? = μ[k]? := List.getElem?_set_ne h
theorem turn_ports (hi : i < 40) (hF : RhoF D ρ) (ht : ρ.lookup ("told" : Str) = some (.tup [.str (S [97 + i]), .int (pt D.S D.d i) true])) (hp : μ[11]? = some ((pts D.S D.d i).map vint)) :
    ex 29 1 cL (((forBody 25 13).drop 4).headD default) ρ μ = some (.next, ρ, μ.set 11 ((pts D.S D.d (i + 1)).map vint)) := by
  rw [pts_succ]
  exact ex_append ⟨rfl, rfl⟩ (ev_nm rfl hF.ports) (ev_index rfl (ev_nm rfl ht) ev_int rfl) rfl (by decide) hp (by rw [pts_len]; show i < 1048576; (first | lia | omega))
theorem turn_rows (hi : i < 40) (hF : RhoF D ρ) (hr : ρ.lookup ("ring" : Str) = some (vstr (S (ringL D (i + 1))))) (hp : μ[12]? = some (rowsV D i)) :
    ex 29 1 cL (((forBody 25 13).drop 5).headD default) ρ μ = some (.next, ρ, μ.set 12 (rowsV D (i + 1))) := by
  rw [rowsV_succ]
  have ha : ("a" : Str) = S [97] := by kernel_rfl
  have hc : ∀ (f : Nat) k p, ev (f + 1) cL ρ (.Constant (.str "a") k p) μ = some (vstr (S [97]), μ) := fun f k p => by
    rw [← ha]; exact ev_str (by decide)
  exact ex_append ⟨rfl, rfl⟩ (ev_nm rfl hF.rows) (ev_binop (ev_nm rfl hr) (hc _ _ _) (cat_S (by rw [ringL_len]; exact short_lim (by simp only [List.length_cons, List.length_nil]; (first | lia | omega))))) rfl (by decide) hp (by rw [rowsV_len]; show i < 1048576; (first | lia | omega))
/-- the loop's invariant -/
structure Inv (D : Data) (k : Nat) (ρ : Loc) (μ : Mem) : Prop where
  rho : RhoF D ρ
  ring : ρ.lookup ("ring" : Str) = some (vstr (S (ringL D k)))
  mem : MuL D k μ
theorem turn (hD : D.Ok) (hi : i < 40) (I : Inv D i ρ μ) : ∃ ρ' μ', exsG (ex 29 1 cL) (forBody 25 13) (upd "k" (vraw (0 + (i : Int))) ρ) μ = some (.next, ρ', μ') ∧ Inv D (i + 1) ρ' μ' := by
  obtain ⟨hF, hr, hM⟩ := I
  have hF0 : RhoF D (upd "k" (vraw (0 + (i : Int))) ρ) := hF.upd (by decide)
  have hk0 : (upd "k" (vraw (0 + (i : Int))) ρ).lookup ("k" : Str) = some (vraw (0 + (i : Int))) := upd_same
  have hr0 : (upd "k" (vraw (0 + (i : Int))) ρ).lookup ("ring" : Str) = some (vstr (S (ringL D i))) := upd_ne (by decide) hr
  generalize upd "k" (vraw (0 + (i : Int))) ρ = ρ0 at hF0 hk0 hr0
  obtain ⟨μ1, s1, x1⟩ := turn_told hD hi hF0 hk0 hM.nums
  have hM1 := hM.ext x1
  have hF1 : RhoF D (upd "told" (.tup [.str (S [97 + i]), .int (pt D.S D.d i) true]) ρ0) := hF0.upd (by decide)
  have hk1 : (upd "told" (.tup [.str (S [97 + i]), .int (pt D.S D.d i) true]) ρ0).lookup ("k" : Str) = some (vraw (0 + (i : Int))) := upd_ne (by decide) hk0
  have hr1 : (upd "told" (.tup [.str (S [97 + i]), .int (pt D.S D.d i) true]) ρ0).lookup ("ring" : Str) = some (vstr (S (ringL D i))) := upd_ne (by decide) hr0
  have ht1 : (upd "told" (.tup [.str (S [97 + i]), .int (pt D.S D.d i) true]) ρ0).lookup ("told" : Str) = some (.tup [.str (S [97 + i]), .int (pt D.S D.d i) true]) := upd_same
  generalize upd "told" (.tup [.str (S [97 + i]), .int (pt D.S D.d i) true]) ρ0 = ρ1 at s1 hF1 hk1 hr1 ht1
  have s2 := turn_if (μ := μ1) hD hi hF1 hk1 ht1
  obtain ⟨μ2, s3, x2⟩ := turn_place (D := D) hi hF1 ht1 hM1.ports
  have hM2 := hM1.ext x2
  generalize hcnt : (vint ((List.range i).countP fun j => decide (pt D.S D.d j < pt D.S D.d i) : Nat)) = cnt at s3
  have hF2 : RhoF D (upd "place" cnt ρ1) := hF1.upd (by decide)
  have hk2 : (upd "place" cnt ρ1).lookup ("k" : Str) = some (vraw (0 + (i : Int))) := upd_ne (by decide) hk1
  have hr2 : (upd "place" cnt ρ1).lookup ("ring" : Str) = some (vstr (S (ringL D i))) := upd_ne (by decide) hr1
  have ht2 : (upd "place" cnt ρ1).lookup ("told" : Str) = some (.tup [.str (S [97 + i]), .int (pt D.S D.d i) true]) := upd_ne (by decide) ht1
  have hp2 : (upd "place" cnt ρ1).lookup ("place" : Str) = some (vint ((List.range i).countP fun j => decide (pt D.S D.d j < pt D.S D.d i) : Nat)) := by rw [hcnt]; exact upd_same
  generalize upd "place" cnt ρ1 = ρ2 at s3 hF2 hk2 hr2 ht2 hp2
  have s4 := turn_ring (μ := μ2) hi hk2 hr2 hp2
  have hF3 : RhoF D (upd "ring" (vstr (S (ringL D (i + 1)))) ρ2) := hF2.upd (by decide)
  have hr3 : (upd "ring" (vstr (S (ringL D (i + 1)))) ρ2).lookup ("ring" : Str) = some (vstr (S (ringL D (i + 1)))) := upd_same
  have ht3 : (upd "ring" (vstr (S (ringL D (i + 1)))) ρ2).lookup ("told" : Str) = some (.tup [.str (S [97 + i]), .int (pt D.S D.d i) true]) := upd_ne (by decide) ht2
  generalize upd "ring" (vstr (S (ringL D (i + 1)))) ρ2 = ρ3 at s4 hF3 hr3 ht3
  have s5 := turn_ports (D := D) hi hF3 ht3 hM2.ports
  have h12 : (μ2.set 11 ((pts D.S D.d (i + 1)).map vint))[12]? = some (rowsV D i) := by rw [get_set_ne (by decide)]; exact hM2.rows
  have s6 := turn_rows (D := D) hi hF3 hr3 h12
  have hl := hM2.len
  refine ⟨ρ3, _, exs_next rfl s1 (exs_next rfl s2 (exs_next rfl s3 (exs_next rfl s4 (exs_next rfl s5 (exs_next rfl s6 exs_nil))))), hF3, hr3, ?_, ?_, ?_, ?_, ?_⟩
  · rw [List.length_set, List.length_set]; exact hl
  · obtain ⟨a, b, c, h⟩ := hM2.nums
    exact ⟨a, b, c, by rw [get_set_ne (by decide), get_set_ne (by decide)]; exact h⟩
  · rw [get_set_ne (by decide), get_set_ne (by decide)]; exact hM2.places
  · rw [get_set_ne (by decide)]; exact get_set_same (by (first | lia | omega))
  · exact get_set_same (by rw [List.length_set]; (first | lia | omega))
theorem main_loop (hD : D.Ok) {tgt : Expr} (htgt : ∀ v, bindT tgt v = some [(("k" : Str), v)]) : ∀ (n i : Nat) (ρ : Loc) (μ : Mem), i + n ≤ 40 → Inv D i ρ μ →
    ∃ ρ' μ', forGo (exsG (ex 29 1 cL) (forBody 25 13)) tgt none ((List.range' i n).map fun (j : Nat) => vraw (0 + (j : Int))) ρ μ = some (.next, ρ', μ') ∧ Inv D (i + n) ρ' μ'
  | 0, i, ρ, μ, _, I => ⟨ρ, μ, for_nil rfl, I⟩
  | n + 1, i, ρ, μ, hn, I => by
    obtain ⟨ρ1, μ1, s1, I1⟩ := turn hD (by (first | lia | omega)) I
    obtain ⟨ρ2, μ2, s2, I2⟩ := main_loop hD htgt n (i + 1) ρ1 μ1 (by (first | lia | omega)) I1
    refine ⟨ρ2, μ2, ?_, ?_⟩
    · rw [List.range'_succ, List.map_cons]
      exact for_next (bs := [("k", vraw (0 + (i : Int)))]) rfl (htgt _) s1 s2
    · rw [show i + (n + 1) = i + 1 + n by (first | lia | omega)]; exact I2
theorem st13 {ns : List Int} (hD : D.Ok) (hM : Mu12 ns D μ) : ∃ ρ' μ', ex 30 1 cL ((bL 13).headD default) (Rho12 D) μ = some (.next, ρ', μ') ∧ Inv D (D.u + D.v + 1) ρ' μ' := by
  have hu := hD.um
  have hv := hD.vm
  have hm := hD.m8
  have I0 : Inv D 0 (Rho12 D) μ := by
    refine ⟨fun x _ => rfl, ?_, by rw [hM.len]; exact Nat.le_refl _, hM.nums, hM.places, hM.ports, hM.rows⟩
    show some (vstr "") = some (vstr (S []))
    have : ("" : Str) = S [] := by kernel_rfl
    rw [this]
  obtain ⟨ρ', μ', s, I⟩ := main_loop hD (tgt := forTgt 25 13) (fun v => rfl) (D.u + D.v + 1) 0 (Rho12 D) μ (by (first | lia | omega)) I0
  rw [Nat.zero_add] at I
  refine ⟨ρ', μ', ex_for rfl (src_range rfl (evs_cons (ev_binop (ev_binop (ev_nm rfl rfl) (ev_nm rfl rfl) rfl) ev_int rfl) evs_nil) ?_) s exs_nil, I⟩
  show (if ((D.u : Int) + D.v + 1).natAbs ≤ lim then some (rangeV 0 ((D.u : Int) + D.v + 1)) else none) = _
  rw [if_pos (by show _ ≤ 1048576; (first | lia | omega))]
  unfold rangeV
  rw [show ((D.u : Int) + D.v + 1 - 0).toNat = D.u + D.v + 1 by (first | lia | omega), List.range_eq_range']; rfl
end
end Mine
namespace Mine
open PySem PySem.StrLaws
/-! the walk comes home -/
theorem countP_lt {α : Type} {p q : α → Bool} : ∀ {l : List α}, (∀ x ∈ l, q x = true → p x = true) → (∃ x ∈ l, p x = true ∧ q x = false) → l.countP q < l.countP p
  | [], _, h => by obtain ⟨x, hx, _⟩ := h; cases hx
  | a :: l, h, ⟨x, hx, h1, h2⟩ => by
    have hle : l.countP q ≤ l.countP p := List.countP_mono_left fun y hy => h y (List.mem_cons_of_mem _ hy)
    rw [List.countP_cons, List.countP_cons]
    rcases List.mem_cons.mp hx with rfl | hx
    · rw [h1, h2]; simp; (first | lia | omega)
    · have ih := countP_lt (l := l) (fun y hy => h y (List.mem_cons_of_mem _ hy)) ⟨x, hx, h1, h2⟩
      have := h a (List.mem_cons_self ..)
      cases hq : q a with
      | true => rw [this hq]; simp; (first | lia | omega)
      | false => cases p a <;> simp <;> (first | lia | omega)
section
variable {Sz d : Int} {u v n : Nat} {s t : Int}
theorem gapOf_pos (G : Gaps Sz d u v s t) (i : Nat) : 0 < gapOf n u v s t i := by
  have := G.s0
  have := G.t0
  unfold gapOf
  split
  · (first | lia | omega)
  · split <;> (first | lia | omega)
theorem home_of (G : Gaps Sz d u v s t) (hu : u < n) (hv : v < n) (hn : n ≤ u + v) (M : Near Sz d s t n) : ∀ (f i : Nat), i < n → ((List.range n).countP fun j => decide (pt Sz d i < pt Sz d j)) < f → home n u v f i = true
  | 0, _, _, h => absurd h (Nat.not_lt_zero _)
  | f + 1, i, hi, h => by
    unfold home
    by_cases h0 : succ n u v i = 0
    · rw [h0]; rfl
    · obtain ⟨k1, k2, _⟩ := succ_ok G hu hv M hn hi
      rw [if_neg h0] at k2
      have g0 := gapOf_pos (n := n) G i
      have lt : ((List.range n).countP fun j => decide (pt Sz d (succ n u v i) < pt Sz d j)) < (List.range n).countP fun j => decide (pt Sz d i < pt Sz d j) :=
        countP_lt (fun x _ hx => by simp at hx ⊢; (first | lia | omega)) ⟨succ n u v i, List.mem_range.mpr k1, by simp; (first | lia | omega), by simp⟩
      rw [home_of G hu hv hn M f _ k1 (by (first | lia | omega)), Bool.or_true]
theorem home_ok (G : Gaps Sz d u v s t) (hu : u < n) (hv : v < n) (hn : n ≤ u + v) (M : Near Sz d s t n) : home n u v n 0 = true := by
  refine home_of G hu hv hn M n 0 (by (first | lia | omega)) ?_
  have : ((List.range n).countP fun j => decide (pt Sz d 0 < pt Sz d j)) < (List.range n).countP fun _ => true :=
    countP_lt (fun _ _ _ => rfl) ⟨0, List.mem_range.mpr (by (first | lia | omega)), rfl, by simp⟩
  refine Nat.lt_of_lt_of_le this ?_
  refine Nat.le_trans List.countP_le_length ?_
  rw [List.length_range]; exact Nat.le_refl _
/-- on the walk, closed by 0, each step is the successor -/
theorem walk_chain : ∀ (f i : Nat), home n u v f i = true → ∀ k, k < (walk n u v f i).length → ∃ a, a ∈ walk n u v f i ∧ (walk n u v f i ++ [0])[k]? = some a ∧ (walk n u v f i ++ [0])[k + 1]? = some (succ n u v a)
  | 0, _, h, _, _ => by cases h
  | f + 1, i, h, k, hk => by
    unfold home at h
    unfold walk at hk ⊢
    by_cases h0 : succ n u v i = 0
    · rw [if_pos h0] at hk ⊢
      have : k = 0 := by simp at hk; exact hk
      subst this
      exact ⟨i, by simp, rfl, by rw [h0]; rfl⟩
    · rw [if_neg h0] at hk ⊢
      have hh : home n u v f (succ n u v i) = true := by
        rcases Bool.or_eq_true_iff.mp h with q | q
        · exact absurd (by simpa using q) h0
        · exact q
      cases k with
      | zero =>
        refine ⟨i, by simp, rfl, ?_⟩
        show (walk n u v f (succ n u v i) ++ [0])[0]? = some (succ n u v i)
        cases f with
        | zero => cases hh
        | succ f => rfl
      | succ k =>
        obtain ⟨a, a1, a2, a3⟩ := walk_chain f _ hh k (by simpa using hk)
        exact ⟨a, List.mem_cons_of_mem _ a1, a2, a3⟩
/-- the gap, by size -/
theorem gap_mod (G : Gaps Sz d u v s t) (hu : u < n) (hv : v < n) (hn : n ≤ u + v) (M : Near Sz d s t n) {i : Nat} (hi : i < n) : (pt Sz d (succ n u v i) - pt Sz d i) % Sz = gapOf n u v s t i := by
  obtain ⟨k1, k2, _⟩ := succ_ok G hu hv M hn hi
  have g0 := gapOf_pos (n := n) G i
  have S0 := G.S0
  have u0 := G.u0
  by_cases h0 : succ n u v i = 0
  · rw [if_pos h0] at k2
    rw [h0, pt_zero]
    have hi0 : i ≠ 0 := by
      rintro rfl
      unfold succ at h0
      rw [if_pos (by (first | lia | omega))] at h0
      (first | lia | omega)
    have := (M i (by (first | lia | omega)) hi).1
    have := G.s0
    have e : (0 - pt Sz d i) % Sz = gapOf n u v s t i % Sz := by
      have : (0 - pt Sz d i) = gapOf n u v s t i - Sz := by (first | lia | omega)
      rw [this, Int.sub_emod, Int.emod_self, Int.sub_zero, Int.emod_emod_of_dvd _ (Int.dvd_refl Sz)]
    rw [e]
    exact Int.emod_eq_of_lt (by (first | lia | omega)) (by (first | lia | omega))
  · rw [if_neg h0] at k2
    rw [k2]
    have h1 := pt_lt (d := d) S0 (succ n u v i)
    have h2 := pt_nonneg (d := d) S0 i
    have : pt Sz d i + gapOf n u v s t i - pt Sz d i = gapOf n u v s t i := by (first | lia | omega)
    rw [this]
    exact Int.emod_eq_of_lt (by (first | lia | omega)) (by (first | lia | omega))
end
noncomputable def kindS (n u v i : Nat) : Str := if i + u < n then "s" else if v ≤ i then "t" else "st"
section
variable {D : Data}
theorem Data.Ok.mle (h : D.Ok) : D.m ≤ D.u + D.v := h.gaps.le h.near
theorem Data.Ok.ringM (h : D.Ok) : ring (pt D.S D.d) D.m = walk D.m D.u D.v D.m 0 := ring_walk h.gaps h.um h.vm h.mle h.near (home_ok h.gaps h.um h.vm h.mle h.near)
theorem Data.Ok.nearF (h : D.Ok) : Near D.S D.d D.s D.t (D.u + D.v) := h.gaps.upto h.um h.vm h.near _ (Nat.le_refl _)
theorem Data.Ok.ringF (h : D.Ok) : ring (pt D.S D.d) (D.u + D.v) = walk (D.u + D.v) D.u D.v (D.u + D.v) 0 :=
  ring_walk h.gaps (by have := h.v0; (first | lia | omega)) (by have := h.u0; (first | lia | omega)) (Nat.le_refl _) h.nearF (home_ok h.gaps (by have := h.v0; (first | lia | omega)) (by have := h.u0; (first | lia | omega)) (Nat.le_refl _) h.nearF)
/-- the walk of the first ring, closed -/
noncomputable def wk (D : Data) : List Nat := walk D.m D.u D.v D.m 0
theorem wk_len (h : D.Ok) : (wk D).length = D.m := by
  unfold wk
  rw [← h.ringM, ring_length]
theorem wk_lt (h : D.Ok) {a : Nat} (ha : a ∈ wk D) : a < D.m := by
  unfold wk at ha
  rw [← h.ringM, ring_mem] at ha; exact ha
theorem wk_pair (h : D.Ok) {k : Nat} (hk : k < D.m) : ∃ a, a < D.m ∧ (wk D ++ [0])[k]? = some a ∧ (wk D ++ [0])[k + 1]? = some (succ D.m D.u D.v a) ∧ (wk D)[k]? = some a := by
  obtain ⟨a, a1, a2, a3⟩ := walk_chain D.m 0 (home_ok h.gaps h.um h.vm h.mle h.near) k (by have := wk_len h; unfold wk at this; (first | lia | omega))
  refine ⟨a, wk_lt h a1, a2, a3, ?_⟩
  have e : (wk D ++ [0])[k]? = some a := a2
  rw [List.getElem?_append_left (by rw [wk_len h]; exact hk)] at e
  exact e
theorem rowM (h : D.Ok) : rowS D D.m = S ((wk D ++ [0]).map (97 + ·)) := by
  unfold rowS ringL wk
  rw [h.ringM, List.map_append]; rfl
end
end Mine
namespace Mine
open PySem PySem.StrLaws
/-- pieces of typed gaps -/
noncomputable def TL : List Str → List V → Prop
  | [], l => l = []
  | x :: ks, l => ∃ a b, l = a ++ b ∧ TypedOk x a ∧ TL ks b
theorem TL.snoc : ∀ {ks : List Str} {l l' : List V} {x : Str}, TL ks l → TypedOk x l' → TL (ks ++ [x]) (l ++ l')
  | [], l, l', x, h, h' => by
    have : l = [] := h
    subst this
    exact ⟨l', [], by simp, h', rfl⟩
  | y :: ks, l, l', x, h, h' => by
    obtain ⟨a, b, rfl, h1, h2⟩ := h
    exact ⟨a, b ++ l', by rw [List.append_assoc], h1, h2.snoc h'⟩
theorem typed_len {x : Str} {l : List V} (h : TypedOk x l) : l.length ≤ 2 := by
  obtain ⟨pre, s, rfl, _, h⟩ := h
  rcases h with rfl | ⟨h, rfl, _⟩ <;> simp
theorem TL.len : ∀ {ks : List Str} {l : List V}, TL ks l → l.length ≤ 2 * ks.length
  | [], l, h => by
    have : l = [] := h
    subst this; simp
  | y :: ks, l, h => by
    obtain ⟨a, b, rfl, h1, h2⟩ := h
    have := typed_len h1
    have := h2.len
    rw [List.length_append, List.length_cons]; (first | lia | omega)
/-- what is wanted of a part of the ring -/
noncomputable def wantOf (D : Data) (l : List Nat) : List Nat := l.flatMap fun i => (97 + i) :: (if kindS D.m D.u D.v i == "st" then [46, 46, 46] else [])
noncomputable def besideL : List V := [vint 172, vint 174, vint 846, vint 848, vint 6149, vint 6151, vint 6154, vint 6158, vint 8202, vint 8206, vint 8287, vint 8289, vint 65023, vint 65040, vint 65278, vint 65280]
noncomputable def besB (v : V) : Bool := match v with
  | .a0 (.int x _) => decide (0 ≤ x) && decide (x ≤ 1114111) && !(b1list.contains x)
  | _ => false
theorem bes_all : besideL.all besB = true := by kernel_rfl
theorem bes_at {i : Nat} (h : i < 16) : ∃ (x : Nat) (o : Bool), besideL[i]? = some (.a0 (.int x o)) ∧ x ≤ 1114111 ∧ b1list.contains (x : Int) = false := by
  have hl : besideL.length = 16 := rfl
  have hi : i < besideL.length := by (first | lia | omega)
  have e := List.all_eq_true.mp bes_all besideL[i] (List.getElem_mem hi)
  rw [List.getElem?_eq_getElem hi]
  generalize besideL[i] = v at e
  unfold besB at e
  split at e
  · rename_i x o
    simp only [Bool.and_eq_true, decide_eq_true_eq, Bool.not_eq_true'] at e
    obtain ⟨⟨e1, e2⟩, e3⟩ := e
    refine ⟨x.toNat, o, ?_, by (first | lia | omega), ?_⟩ <;> rw [Int.toNat_of_nonneg e1]
    exact e3
  · cases e
section
variable {D : Data} {ρ : Loc} {μ : Mem} {k N B : Nat}
theorem t2_beside (hF : RhoF D ρ) (hk : ρ.lookup ("k" : Str) = some (vraw (0 + (k : Int)))) (hb : ρ.lookup ("beside" : Str) = some (.lst B)) (hB : μ[B]? = some besideL) (h7 : ∃ a b c, μ[7]? = some [a, b, c, vint D.x3, vint D.x4]) :
    ex 29 1 cL ((forBody 25 18).headD default) ρ μ = some (.next, ρ, μ) := by
  obtain ⟨a, b, c, h7⟩ := h7
  have i3 : index (.lst 7) (vint 3) μ = some (vint D.x3) := by
    show ((μ[7]?).bind fun l => (place? 3 l.length).bind fun k => l[k]?) = _
    rw [h7]; rfl
  have r0 : 0 ≤ (D.x3 + (0 + (k : Int))).fmod 16 ∧ (D.x3 + (0 + (k : Int))).fmod 16 < 16 := fmod_lo (by decide)
  obtain ⟨x, o, e1, e2, e3⟩ := bes_at (i := ((D.x3 + (0 + (k : Int))).fmod 16).toNat) (by (first | lia | omega))
  have ib : index (.lst B) (vint ((D.x3 + (0 + (k : Int))).fmod 16)) μ = some (.a0 (.int x o)) := by
    show ((μ[B]?).bind fun l => (place? ((D.x3 + (0 + (k : Int))).fmod 16) l.length).bind fun k => l[k]?) = _
    rw [hB]
    show (place? ((D.x3 + (0 + (k : Int))).fmod 16) besideL.length).bind _ = _
    have : place? ((D.x3 + (0 + (k : Int))).fmod 16) besideL.length = some ((D.x3 + (0 + (k : Int))).fmod 16).toNat := by
      unfold place?
      have hl : besideL.length = 16 := rfl
      rw [hl, if_pos (by (first | lia | omega))]
    rw [this]; exact e1
  have cb := call_b1 (μ := μ) (c := x)
  rw [e3] at cb
  have a1 : ∀ (f : Nat) (p1 p2 p3 p4 p5 p6 p7 p8 : Pos) k1 k2, ev (f + 5) cL ρ (.Subscript (.Name "beside" p1) (.BinOp (.BinOp (.Subscript (.Name "numbers" p2) (.Constant (.int 3) k1 p3) p4) .Add (.Name "k" p5) p6) .Mod (.Constant (.int 16) k2 p7) p8) p8) μ = some (.a0 (.int x o), μ) := fun f p1 p2 p3 p4 p5 p6 p7 p8 k1 k2 =>
    ev_index rfl (ev_nm rfl hb) (ev_binop (ev_binop (ev_index rfl (ev_nm rfl hF.numbers) ev_int i3) (ev_nm rfl hk) rfl) ev_int (binop_mod (by decide))) ib
  exact ex_if_f (tr_cmp (cmpE_2 (t := false) rfl (ev_call rfl (callE_d rfl rfl (evs_cons (ev_call rfl (callE_b rfl rfl (evs_cons (ev_index rfl (ev_nm rfl hb) (ev_binop (ev_binop (ev_index rfl (ev_nm rfl hF.numbers) ev_int i3) (ev_nm rfl hk) rfl) ev_int (binop_mod (by decide))) ib) evs_nil) (chr_at rfl e2))) evs_nil) rfl cb)) ev_bool rfl) rfl) exs_nil
theorem ord_at {c : Nat} : bcall "ord" [vstr (S [c])] μ = some (vint c, μ) := rfl
theorem t2_here (hk : ρ.lookup ("k" : Str) = some (vraw (0 + (k : Int)))) {W : List Nat} (hr : ρ.lookup ("row" : Str) = some (vstr (S (W.map (97 + ·))))) {i : Nat} (hi : W[k]? = some i) :
    ex 29 1 cL (((forBody 25 18).drop 1).headD default) ρ μ = some (.next, upd "here" (vint i) ρ, μ) := by
  have ix : index (vstr (S (W.map (97 + ·)))) (vraw (0 + (k : Int))) μ = some (vstr (S [97 + i])) := by
    rw [Int.zero_add]
    exact index_at (by rw [tl_S, List.getElem?_map, hi]; rfl)
  have e : ((97 + i : Nat) : Int) - 97 = (i : Int) := by (first | lia | omega)
  rw [← e]
  exact ex_assign rfl (ev_binop (ev_call rfl (callE_b rfl rfl (evs_cons (ev_index rfl (ev_nm rfl hr) (ev_nm rfl hk) ix) evs_nil) ord_at)) ev_int rfl)
theorem t2_there (hk : ρ.lookup ("k" : Str) = some (vraw (0 + (k : Int)))) {W : List Nat} (hr : ρ.lookup ("row" : Str) = some (vstr (S (W.map (97 + ·))))) {j : Nat} (hj : W[k + 1]? = some j) :
    ex 29 1 cL (((forBody 25 18).drop 2).headD default) ρ μ = some (.next, upd "there" (vint j) ρ, μ) := by
  have ix : index (vstr (S (W.map (97 + ·)))) (vint (0 + (k : Int) + 1)) μ = some (vstr (S [97 + j])) := by
    have : (0 + (k : Int) + 1) = ((k + 1 : Nat) : Int) := by (first | lia | omega)
    rw [this]
    exact index_at (by rw [tl_S, List.getElem?_map, hj]; rfl)
  have e : ((97 + j : Nat) : Int) - 97 = (j : Int) := by (first | lia | omega)
  rw [← e]
  exact ex_assign rfl (ev_binop (ev_call rfl (callE_b rfl rfl (evs_cons (ev_index rfl (ev_nm rfl hr) (ev_binop (ev_nm rfl hk) ev_int rfl) ix) evs_nil) ord_at)) ev_int rfl)
theorem t2_gap (hD : D.Ok) (hF : RhoF D ρ) {i j : Nat} (h1 : ρ.lookup ("here" : Str) = some (vint i)) (h2 : ρ.lookup ("there" : Str) = some (vint j)) (hp : μ[11]? = some ((pts D.S D.d N).map vint)) (hi : i < N) (hj : j < N) :
    ex 29 1 cL (((forBody 25 18).drop 3).headD default) ρ μ = some (.next, upd "gap" (vint ((pt D.S D.d j - pt D.S D.d i) % D.S)) ρ, μ) := by
  rw [← fmod_emod (by have := hD.S9; (first | lia | omega))]
  exact ex_assign rfl (ev_call rfl (callE_d rfl rfl (evs_cons (ev_call rfl (callE_d rfl rfl (evs_cons (ev_index rfl (ev_nm rfl hF.ports) (ev_nm rfl h2) (place_at hp hj)) (evs_cons (ev_index rfl (ev_nm rfl hF.ports) (ev_nm rfl h1) (place_at hp hi)) evs_nil)) rfl call_sub)) (evs_cons (ev_nm rfl hF.size) evs_nil)) rfl (call_mod (by have := hD.S9; (first | lia | omega)))))
theorem cmp_pair {a b c d : Int} : cmpop .Eq (.tup [.int a true, .int b true]) (.tup [.int c true, .int d true]) = some (a == c && (b == d && true)) := rfl
/-- which gap it is -/
theorem t2_kind (hD : D.Ok) (hF : RhoF D ρ) {i : Nat} (hi : i < D.m) (h1 : ρ.lookup ("here" : Str) = some (vint i)) (h2 : ρ.lookup ("there" : Str) = some (vint (succ D.m D.u D.v i : Nat))) (h3 : ρ.lookup ("gap" : Str) = some (vint (gapOf D.m D.u D.v D.s D.t i))) :
    ex 29 1 cL (((forBody 25 18).drop 4).headD default) ρ μ = some (.next, upd "letters" (vstr (kindS D.m D.u D.v i)) ρ, μ) := by
  have u0 := hD.u0
  have v0 := hD.v0
  have um := hD.um
  have vm := hD.vm
  have mle := hD.mle
  have c1 : ∀ (f : Nat) (p1 p2 p3 p4 p5 p6 p7 p8 : Pos) k1 k2 (b : Bool), (((succ D.m D.u D.v i : Nat) : Int) - (i : Int) == (D.u : Int) && (gapOf D.m D.u D.v D.s D.t i == D.s && true)) = b → tr (f + 5) cL ρ (.Compare (.Tuple [.BinOp (.Name "there" p1) .Sub (.Name "here" p2) p3, .Name "gap" p4] k1 p5) [.Eq] [.Tuple [.Name "near" p6, .Name "short" p7] k2 p8] p8) μ = some (b, μ) := fun f p1 p2 p3 p4 p5 p6 p7 p8 k1 k2 b hb =>
    tr_cmp (cmpE_2 (t := b) rfl (ev_tuple (evs_cons (ev_binop (ev_nm rfl h2) (ev_nm rfl h1) rfl) (evs_cons (ev_nm rfl h3) evs_nil)) rfl (len_ok (by rfl))) (ev_tuple (evs_cons (ev_nm rfl hF.near) (evs_cons (ev_nm rfl hF.short) evs_nil)) rfl (len_ok (by rfl))) (by rw [cmp_pair, hb])) rfl
  have c2 : ∀ (f : Nat) (p1 p2 p3 p4 p5 p6 p7 p8 : Pos) k1 k2 (b : Bool), ((i : Int) - ((succ D.m D.u D.v i : Nat) : Int) == (D.v : Int) && (gapOf D.m D.u D.v D.s D.t i == D.t && true)) = b → tr (f + 5) cL ρ (.Compare (.Tuple [.BinOp (.Name "here" p1) .Sub (.Name "there" p2) p3, .Name "gap" p4] k1 p5) [.Eq] [.Tuple [.Name "far" p6, .Name "tall" p7] k2 p8] p8) μ = some (b, μ) := fun f p1 p2 p3 p4 p5 p6 p7 p8 k1 k2 b hb =>
    tr_cmp (cmpE_2 (t := b) rfl (ev_tuple (evs_cons (ev_binop (ev_nm rfl h1) (ev_nm rfl h2) rfl) (evs_cons (ev_nm rfl h3) evs_nil)) rfl (len_ok (by rfl))) (ev_tuple (evs_cons (ev_nm rfl hF.far) (evs_cons (ev_nm rfl hF.tall) evs_nil)) rfl (len_ok (by rfl))) (by rw [cmp_pair, hb])) rfl
  have c3 : ∀ (f : Nat) (p1 p2 p3 p4 p5 p6 p7 p8 : Pos) k1 k2 (b : Bool) (q1 q2 q3 q4 q5 q6 : Pos), (((succ D.m D.u D.v i : Nat) : Int) - (i : Int) == (D.u : Int) - (D.v : Int) && (gapOf D.m D.u D.v D.s D.t i == D.s + D.t && true)) = b → tr (f + 6) cL ρ (.Compare (.Tuple [.BinOp (.Name "there" p1) .Sub (.Name "here" p2) p3, .Name "gap" p4] k1 p5) [.Eq] [.Tuple [.BinOp (.Name "near" p6) .Sub (.Name "far" p7) p8, .Call (.Name "add" q1) [.Name "short" q2, .Name "tall" q3] [] q4] k2 q5] q6) μ = some (b, μ) := fun f p1 p2 p3 p4 p5 p6 p7 p8 k1 k2 b q1 q2 q3 q4 q5 q6 hb =>
    tr_cmp (cmpE_2 (t := b) rfl (ev_tuple (evs_cons (ev_binop (ev_nm rfl h2) (ev_nm rfl h1) rfl) (evs_cons (ev_nm rfl h3) evs_nil)) rfl (len_ok (by rfl))) (ev_tuple (evs_cons (ev_binop (ev_nm rfl hF.near) (ev_nm rfl hF.far) rfl) (evs_cons (ev_call rfl (callE_d rfl rfl (evs_cons (ev_nm rfl hF.short) (evs_cons (ev_nm rfl hF.tall) evs_nil)) rfl call_add)) evs_nil)) rfl (len_ok (by rfl))) (by rw [cmp_pair, hb])) rfl
  by_cases hA : i + D.u < D.m
  · have es : succ D.m D.u D.v i = i + D.u := if_pos hA
    have eg : gapOf D.m D.u D.v D.s D.t i = D.s := if_pos hA
    have ek : kindS D.m D.u D.v i = "s" := if_pos hA
    rw [ek]
    refine ex_if_t (Eq.trans (c1 _ _ _ _ _ _ _ _ _ _ _ true ?_) rfl) (exs_next rfl (ex_assign rfl (ev_str (by decide))) exs_nil)
    rw [es, eg]
    simp; (first | lia | omega)
  · by_cases hB : D.v ≤ i
    · have es : succ D.m D.u D.v i = i - D.v := (if_neg hA).trans (if_pos hB)
      have eg : gapOf D.m D.u D.v D.s D.t i = D.t := (if_neg hA).trans (if_pos hB)
      have ek : kindS D.m D.u D.v i = "t" := (if_neg hA).trans (if_pos hB)
      rw [ek]
      refine ex_if_f (Eq.trans (c1 _ _ _ _ _ _ _ _ _ _ _ false ?_) rfl) (exs_next rfl (ex_if_t (Eq.trans (c2 _ _ _ _ _ _ _ _ _ _ _ true ?_) rfl) (exs_next rfl (ex_assign rfl (ev_str (by decide))) exs_nil)) exs_nil)
      · rw [es]
        rw [beq_eq_false_iff_ne.mpr (by (first | lia | omega)), Bool.false_and]
      · rw [es, eg]
        simp; (first | lia | omega)
    · have es : succ D.m D.u D.v i = i + D.u - D.v := (if_neg hA).trans (if_neg hB)
      have eg : gapOf D.m D.u D.v D.s D.t i = D.s + D.t := (if_neg hA).trans (if_neg hB)
      have ek : kindS D.m D.u D.v i = "st" := (if_neg hA).trans (if_neg hB)
      rw [ek]
      refine ex_if_f (Eq.trans (c1 _ _ _ _ _ _ _ _ _ _ _ false ?_) rfl) (exs_next rfl (ex_if_f (Eq.trans (c2 _ _ _ _ _ _ _ _ _ _ _ false ?_) rfl) (exs_next rfl (ex_if_t (Eq.trans (c3 _ _ _ _ _ _ _ _ _ _ _ true _ _ _ _ _ _ ?_) rfl) (exs_next rfl (ex_assign rfl (ev_str (by decide))) exs_nil)) exs_nil)) exs_nil)
      · rw [es]
        rw [beq_eq_false_iff_ne.mpr (by (first | lia | omega)), Bool.false_and]
      · rw [es]
        rw [beq_eq_false_iff_ne.mpr (by (first | lia | omega)), Bool.false_and]
      · rw [es, eg]
        simp; (first | lia | omega)
end
end Mine
namespace Mine
open PySem PySem.StrLaws
theorem callE_L {n : Nat} {ρ : Loc} {μ μ₁ : Mem} {R : Option (V × Mem)} {f : Str} {args : List Expr} {vs : List V} (h0 : (f == ("isinstance" : Str)) = false) (h0' : (f == ("list" : Str)) = false) (h1 : evs (ev n cL ρ) args μ = some (vs, μ₁)) (h2 : bcall f vs μ₁ = none) (h3 : callT f vs μ₁ = R) : callE (n + 1) cL ρ f args μ = R :=
  callE_d h0 h0' h1 h2 h3
section
variable {D : Data} {ρ : Loc} {μ : Mem} {k N B : Nat}
theorem kind_mem (n u v i : Nat) : kindS n u v i = "s" ∨ kindS n u v i = "t" ∨ kindS n u v i = "st" := by
  unfold kindS
  split
  · exact .inl rfl
  · split
    · exact .inr (.inl rfl)
    · exact .inr (.inr rfl)
theorem t2_typed (hD : D.Ok) (hk8 : k < 8) (hF : RhoF D ρ) (hk : ρ.lookup ("k" : Str) = some (vraw (0 + (k : Int)))) {x : Str} (hx : x = "s" ∨ x = "t" ∨ x = "st") (hl : ρ.lookup ("letters" : Str) = some (vstr x)) {T : Nat} {l : List V} {ks : List Str} (hT : ρ.lookup ("typed" : Str) = some (.lst T)) (hTl : μ[T]? = some l) (hTL : TL ks l) (hks : ks.length ≤ 100) (h7 : ∃ a b c, μ[7]? = some [a, b, c, vint D.x3, vint D.x4]) :
    ∃ T' l' μ', ex 29 1 cL (((forBody 25 18).drop 5).headD default) ρ μ = some (.next, upd "typed" (.lst T') ρ, μ') ∧ Ext μ μ' ∧ μ'[T']? = some l' ∧ TL (ks ++ [x]) l' := by
  obtain ⟨a, b, c, h7⟩ := h7
  have hx3 := hD.x3
  have i3 : index (.lst 7) (vint 3) μ = some (vint D.x3) := by
    show ((μ[7]?).bind fun l => (place? 3 l.length).bind fun k => l[k]?) = _
    rw [h7]; rfl
  obtain ⟨j, l2, μ1, c1, x1, g1, t1⟩ := call_typed (μ := μ) (letters := x) (n := D.x3 + 97 * (0 + (k : Int))) hx (by (first | lia | omega)) (by (first | lia | omega))
  have hlen := hTL.len
  have hlen2 := typed_len t1
  have hb : binop .Add (.lst T) (.lst j) μ1 = some (.lst μ1.length, μ1 ++ [l ++ l2]) := by
    show ((μ1[T]?).bind fun l => (μ1[j]?).bind fun r => newList (l ++ r) μ1) = _
    rw [x1.get hTl, g1]
    exact newList_ok (by rw [List.length_append]; exact short_lim (by (first | lia | omega)))
  have a0 : ∀ (f : Nat) (p3 p4 p5 p6 p7 p8 p9 : Pos) k1 k2, ev (f + 3) cL ρ (.BinOp (.Subscript (.Name "numbers" p3) (.Constant (.int 3) k1 p4) p5) .Add (.BinOp (.Constant (.int 97) k2 p6) .Mult (.Name "k" p7) p8) p9) μ = some (vint (D.x3 + 97 * (0 + (k : Int))), μ) := fun f p3 p4 p5 p6 p7 p8 p9 k1 k2 =>
    ev_binop (ev_index rfl (ev_nm rfl hF.numbers) ev_int i3) (ev_binop ev_int (ev_nm rfl hk) (binop_mul (by decide) (by show _ < 4611686018427387904; (first | lia | omega)))) rfl
  have a1 : ∀ (f : Nat) (e : Expr) (p1 p2 p10 : Pos), ev (f + 3) cL ρ e μ = some (vint (D.x3 + 97 * (0 + (k : Int))), μ) → ev (f + 5) cL ρ (.Call (.Name "_law_typed" p1) [.Name "letters" p2, e] [] p10) μ = some (.lst j, μ1) := fun f e p1 p2 p10 h =>
    ev_call (by kernel_rfl) (callE_L (by kernel_rfl) (by kernel_rfl) (evs_cons (ev_nm (by kernel_rfl) hl) (evs_cons h evs_nil)) (by kernel_rfl) c1)
  exact ⟨μ1.length, l ++ l2, μ1 ++ [l ++ l2], ex_assign rfl (ev_binop (ev_nm rfl hT) (a1 _ _ _ _ _ (a0 _ _ _ _ _ _ _ _ _ _)) hb), x1.trans (Ext.one _ _), get_last, hTL.snoc t1⟩
theorem t2_want {x : Str} (hk : ρ.lookup ("k" : Str) = some (vraw (0 + (k : Int)))) (hl : ρ.lookup ("letters" : Str) = some (vstr x)) {W : List Nat} (hr : ρ.lookup ("row" : Str) = some (vstr (S (W.map (97 + ·))))) {i : Nat} (hi : W[k]? = some i) {w : List Nat} (hw : ρ.lookup ("want" : Str) = some (vstr (S w))) (hwl : w.length ≤ 500) :
    ex 29 1 cL (((forBody 25 18).drop 6).headD default) ρ μ = some (.next, upd "want" (vstr (S (w ++ (97 + i) :: (if x == "st" then [46, 46, 46] else [])))) ρ, μ) := by
  have ix : index (vstr (S (W.map (97 + ·)))) (vraw (0 + (k : Int))) μ = some (vstr (S [97 + i])) := by
    rw [Int.zero_add]
    exact index_at (by rw [tl_S, List.getElem?_map, hi]; rfl)
  have e : w ++ (97 + i) :: (if x == "st" then [46, 46, 46] else []) = (w ++ [97 + i]) ++ (if x == "st" then [46, 46, 46] else []) := by simp
  rw [e]
  have t1 : ∀ (f : Nat) (p1 p2 p3 : Pos) k1, tr (f + 3) cL ρ (.Compare (.Name "letters" p1) [.Eq] [.Constant (.str "st") k1 p2] p3) μ = some (x == ("st" : Str), μ) := fun f p1 p2 p3 k1 =>
    tr_cmp (cmpE_2 rfl (ev_nm rfl hl) (ev_str (by decide)) rfl) rfl
  have a1 : ∀ (f : Nat) (p1 p2 p3 p4 p5 p6 : Pos) k1 k2 k3, ev (f + 4) cL ρ (.IfExp (.Compare (.Name "letters" p1) [.Eq] [.Constant (.str "st") k1 p2] p3) (.Constant (.str "...") k2 p4) (.Constant (.str "") k3 p5) p6) μ = some (vstr (S (if x == "st" then [46, 46, 46] else [])), μ) := fun f p1 p2 p3 p4 p5 p6 k1 k2 k3 => by
    have e3 : ("..." : Str) = S [46, 46, 46] := by kernel_rfl
    have e4 : ("" : Str) = S [] := by kernel_rfl
    cases hx : (x == ("st" : Str)) with
    | true => rw [if_pos rfl, ← e3]; exact ev_if_t (by rw [t1, hx]) (ev_str (by decide))
    | false => rw [if_neg Bool.false_ne_true, ← e4]; exact ev_if_f (by rw [t1, hx]) (ev_str (by decide))
  have hl3 : (if x == ("st" : Str) then [46, 46, 46] else ([] : List Nat)).length ≤ 3 := by split <;> simp
  exact ex_assign rfl (ev_binop (ev_binop (ev_nm rfl hw) (ev_index rfl (ev_nm rfl hr) (ev_nm rfl hk) ix) (cat_S (by exact (short_lim (by first | (first | lia | omega) | (simp only [List.length_append, List.length_cons, List.length_nil, id]; (first | lia | omega))))))) (a1 _ _ _ _ _ _ _ _ _ _) (cat_S (by rw [List.length_append]; exact short_lim (by simp only [List.length_cons, List.length_nil]; (first | lia | omega)))))
/-- the second loop's invariant -/
structure Inv2 (D : Data) (B k : Nat) (ρ : Loc) (μ : Mem) : Prop where
  rho : RhoF D ρ
  row : ρ.lookup ("row" : Str) = some (vstr (S ((wk D ++ [0]).map (97 + ·))))
  bes : ρ.lookup ("beside" : Str) = some (.lst B)
  besL : μ[B]? = some besideL
  want : ρ.lookup ("want" : Str) = some (vstr (S (wantOf D ((wk D).take k))))
  typed : ∃ T l, ρ.lookup ("typed" : Str) = some (.lst T) ∧ μ[T]? = some l ∧ TL (((wk D).take k).map (kindS D.m D.u D.v)) l
  mem : MuL D (D.u + D.v + 1) μ
theorem wantOf_len (D : Data) : ∀ l : List Nat, (wantOf D l).length ≤ 4 * l.length
  | [] => by simp [wantOf]
  | a :: l => by
    have ih := wantOf_len D l
    unfold wantOf at ih ⊢
    rw [List.flatMap_cons, List.length_append, List.length_cons, List.length_cons]
    have : (if kindS D.m D.u D.v a == ("st" : Str) then [46, 46, 46] else ([] : List Nat)).length ≤ 3 := by split <;> simp
    (first | lia | omega)
theorem turn2 (hD : D.Ok) (hk : k < D.m) (I : Inv2 D B k ρ μ) : ∃ ρ' μ', exsG (ex 29 1 cL) (forBody 25 18) (upd "k" (vraw (0 + (k : Int))) ρ) μ = some (.next, ρ', μ') ∧ Inv2 D B (k + 1) ρ' μ' := by
  obtain ⟨hF, hr, hb, hB, hw, ⟨T, l, hT, hTl, hTL⟩, hM⟩ := I
  have hm8 := hD.m8
  have mle := hD.mle
  obtain ⟨i, im, w1, w2, w3⟩ := wk_pair hD hk
  have htake : (wk D).take (k + 1) = (wk D).take k ++ [i] := by
    rw [List.take_add_one, w3]; rfl
  have hjlt : succ D.m D.u D.v i < D.m := (succ_ok hD.gaps hD.um hD.vm hD.near hD.mle im).1
  have hF0 : RhoF D (upd "k" (vraw (0 + (k : Int))) ρ) := hF.upd (by decide)
  have hk0 : (upd "k" (vraw (0 + (k : Int))) ρ).lookup ("k" : Str) = some (vraw (0 + (k : Int))) := upd_same
  have hr0 := upd_ne (x := "k") (v := vraw (0 + (k : Int))) (by decide) hr
  have hb0 := upd_ne (x := "k") (v := vraw (0 + (k : Int))) (by decide) hb
  have hw0 := upd_ne (x := "k") (v := vraw (0 + (k : Int))) (by decide) hw
  have hT0 := upd_ne (x := "k") (v := vraw (0 + (k : Int))) (by decide) hT
  generalize upd "k" (vraw (0 + (k : Int))) ρ = ρ0 at hF0 hk0 hr0 hb0 hw0 hT0
  have s0 := t2_beside (μ := μ) hF0 hk0 hb0 hB hM.nums
  have s1 := t2_here (μ := μ) hk0 hr0 w1
  have hF1 := hF0.upd (x := "here") (v := vint i) (by decide)
  have hk1 := upd_ne (x := "here") (v := vint i) (by decide) hk0
  have hr1 := upd_ne (x := "here") (v := vint i) (by decide) hr0
  have hb1 := upd_ne (x := "here") (v := vint i) (by decide) hb0
  have hw1 := upd_ne (x := "here") (v := vint i) (by decide) hw0
  have hT1 := upd_ne (x := "here") (v := vint i) (by decide) hT0
  have he1 : (upd "here" (vint i) ρ0).lookup ("here" : Str) = some (vint i) := upd_same
  generalize upd "here" (vint i) ρ0 = ρ1 at s1 hF1 hk1 hr1 hb1 hw1 hT1 he1
  have s2 := t2_there (μ := μ) hk1 hr1 w2
  have hF2 := hF1.upd (x := "there") (v := vint (succ D.m D.u D.v i : Nat)) (by decide)
  have hk2 := upd_ne (x := "there") (v := vint (succ D.m D.u D.v i : Nat)) (by decide) hk1
  have hr2 := upd_ne (x := "there") (v := vint (succ D.m D.u D.v i : Nat)) (by decide) hr1
  have hb2 := upd_ne (x := "there") (v := vint (succ D.m D.u D.v i : Nat)) (by decide) hb1
  have hw2 := upd_ne (x := "there") (v := vint (succ D.m D.u D.v i : Nat)) (by decide) hw1
  have hT2 := upd_ne (x := "there") (v := vint (succ D.m D.u D.v i : Nat)) (by decide) hT1
  have he2 := upd_ne (x := "there") (v := vint (succ D.m D.u D.v i : Nat)) (by decide) he1
  have ht2 : (upd "there" (vint (succ D.m D.u D.v i : Nat)) ρ1).lookup ("there" : Str) = some (vint (succ D.m D.u D.v i : Nat)) := upd_same
  generalize upd "there" (vint (succ D.m D.u D.v i : Nat)) ρ1 = ρ2 at s2 hF2 hk2 hr2 hb2 hw2 hT2 he2 ht2
  have s3 := t2_gap hD hF2 he2 ht2 hM.ports (by (first | lia | omega)) (by (first | lia | omega))
  rw [gap_mod hD.gaps hD.um hD.vm hD.mle hD.near im] at s3
  have hF3 := hF2.upd (x := "gap") (v := vint (gapOf D.m D.u D.v D.s D.t i)) (by decide)
  have hk3 := upd_ne (x := "gap") (v := vint (gapOf D.m D.u D.v D.s D.t i)) (by decide) hk2
  have hr3 := upd_ne (x := "gap") (v := vint (gapOf D.m D.u D.v D.s D.t i)) (by decide) hr2
  have hb3 := upd_ne (x := "gap") (v := vint (gapOf D.m D.u D.v D.s D.t i)) (by decide) hb2
  have hw3 := upd_ne (x := "gap") (v := vint (gapOf D.m D.u D.v D.s D.t i)) (by decide) hw2
  have hT3 := upd_ne (x := "gap") (v := vint (gapOf D.m D.u D.v D.s D.t i)) (by decide) hT2
  have he3 := upd_ne (x := "gap") (v := vint (gapOf D.m D.u D.v D.s D.t i)) (by decide) he2
  have ht3 := upd_ne (x := "gap") (v := vint (gapOf D.m D.u D.v D.s D.t i)) (by decide) ht2
  have hg3 : (upd "gap" (vint (gapOf D.m D.u D.v D.s D.t i)) ρ2).lookup ("gap" : Str) = some (vint (gapOf D.m D.u D.v D.s D.t i)) := upd_same
  generalize upd "gap" (vint (gapOf D.m D.u D.v D.s D.t i)) ρ2 = ρ3 at s3 hF3 hk3 hr3 hb3 hw3 hT3 he3 ht3 hg3
  have s4 := t2_kind (μ := μ) hD hF3 im he3 ht3 hg3
  generalize hx : kindS D.m D.u D.v i = x at s4
  have hxm : x = "s" ∨ x = "t" ∨ x = "st" := hx ▸ kind_mem _ _ _ _
  have hF4 := hF3.upd (x := "letters") (v := vstr x) (by decide)
  have hk4 := upd_ne (x := "letters") (v := vstr x) (by decide) hk3
  have hr4 := upd_ne (x := "letters") (v := vstr x) (by decide) hr3
  have hb4 := upd_ne (x := "letters") (v := vstr x) (by decide) hb3
  have hw4 := upd_ne (x := "letters") (v := vstr x) (by decide) hw3
  have hT4 := upd_ne (x := "letters") (v := vstr x) (by decide) hT3
  have hl4 : (upd "letters" (vstr x) ρ3).lookup ("letters" : Str) = some (vstr x) := upd_same
  generalize upd "letters" (vstr x) ρ3 = ρ4 at s4 hF4 hk4 hr4 hb4 hw4 hT4 hl4
  obtain ⟨T', l', μ', s5, x5, g5, t5⟩ := t2_typed hD (by (first | lia | omega)) hF4 hk4 hxm hl4 hT4 hTl hTL (by rw [List.length_map, List.length_take]; (first | lia | omega)) hM.nums
  have hM5 := hM.ext x5
  have hB5 := x5.get hB
  have hF5 := hF4.upd (x := "typed") (v := .lst T') (by decide)
  have hk5 := upd_ne (x := "typed") (v := .lst T') (by decide) hk4
  have hr5 := upd_ne (x := "typed") (v := .lst T') (by decide) hr4
  have hb5 := upd_ne (x := "typed") (v := .lst T') (by decide) hb4
  have hw5 := upd_ne (x := "typed") (v := .lst T') (by decide) hw4
  have hl5 := upd_ne (x := "typed") (v := .lst T') (by decide) hl4
  have hT5 : (upd "typed" (.lst T') ρ4).lookup ("typed" : Str) = some (.lst T') := upd_same
  generalize upd "typed" (.lst T') ρ4 = ρ5 at s5 hF5 hk5 hr5 hb5 hw5 hl5 hT5
  have hwl := wantOf_len D ((wk D).take k)
  rw [List.length_take] at hwl
  have s6 := t2_want (μ := μ') hk5 hl5 hr5 w1 hw5 (by (first | lia | omega))
  have ew : wantOf D ((wk D).take k) ++ (97 + i) :: (if x == "st" then [46, 46, 46] else []) = wantOf D ((wk D).take (k + 1)) := by
    rw [htake]
    unfold wantOf
    rw [List.flatMap_append, List.flatMap_cons, List.flatMap_nil, List.append_nil, hx]
  rw [ew] at s6
  refine ⟨_, μ', exs_next rfl s0 (exs_next rfl s1 (exs_next rfl s2 (exs_next rfl s3 (exs_next rfl s4 (exs_next rfl s5 (exs_next rfl s6 exs_nil)))))), hF5.upd (by decide), upd_ne (by decide) hr5, upd_ne (by decide) hb5, hB5, upd_same, ⟨T', l', upd_ne (by decide) hT5, g5, ?_⟩, hM5⟩
  rw [htake, List.map_append]
  show TL (((wk D).take k).map (kindS D.m D.u D.v) ++ [kindS D.m D.u D.v i]) l'
  rw [hx]; exact t5
theorem loop2 (hD : D.Ok) {tgt : Expr} (htgt : ∀ v, bindT tgt v = some [(("k" : Str), v)]) : ∀ (n i : Nat) (ρ : Loc) (μ : Mem), i + n = D.m → Inv2 D B i ρ μ →
    ∃ ρ' μ', forGo (exsG (ex 29 1 cL) (forBody 25 18)) tgt none ((List.range' i n).map fun (j : Nat) => vraw (0 + (j : Int))) ρ μ = some (.next, ρ', μ') ∧ Inv2 D B D.m ρ' μ'
  | 0, i, ρ, μ, h, I => ⟨ρ, μ, for_nil rfl, by rw [← h]; exact I⟩
  | n + 1, i, ρ, μ, hn, I => by
    obtain ⟨ρ1, μ1, s1, I1⟩ := turn2 hD (by (first | lia | omega)) I
    obtain ⟨ρ2, μ2, s2, I2⟩ := loop2 hD htgt n (i + 1) ρ1 μ1 (by (first | lia | omega)) I1
    refine ⟨ρ2, μ2, ?_, I2⟩
    rw [List.range'_succ, List.map_cons]
    exact for_next (bs := [("k", vraw (0 + (i : Int)))]) rfl (htgt _) s1 s2
end
end Mine
namespace Mine
open PySem PySem.StrLaws
theorem bL_len : (defAt 25).body.length = 36 := by kernel_rfl
theorem bL_cons (i : Nat) (h : i < 36) : bL i = (bL i).headD default :: bL (i + 1) := by
  have hi : i < (defAt 25).body.length := by rw [bL_len]; exact h
  show (defAt 25).body.drop i = ((defAt 25).body.drop i).headD default :: (defAt 25).body.drop (i + 1)
  rw [List.drop_eq_getElem_cons hi]; rfl
section
variable {D : Data} {ρ : Loc} {μ : Mem}
theorem len_places (hM : μ[8]? = some ((pts D.S D.d D.m).map vint)) : bcall "len" [.lst 8] μ = some (vint D.m, μ) := by
  show ((μ[8]?).map fun l => (vint l.length, μ)) = _
  rw [hM]
  show some (vint ((pts D.S D.d D.m).map vint).length, μ) = _
  rw [pts_len]
theorem row_at {N k : Nat} {y : Int} (hM : μ[12]? = some (rowsV D N)) (hk : k < N) (hy : y = (k : Int)) {o : Bool} : index (.lst 12) (.a0 (.int y o)) μ = some (vstr (rowS D (k + 1))) := by
  subst hy
  show ((μ[12]?).bind fun l => (place? (k : Int) l.length).bind fun j => l[j]?) = _
  rw [hM]
  show (place? (k : Int) (rowsV D N).length).bind _ = _
  have : place? (k : Int) (rowsV D N).length = some k := by
    unfold place?
    rw [rowsV_len, if_pos (by (first | lia | omega))]; rfl
  rw [this]
  show (rowsV D N)[k]? = _
  unfold rowsV
  rw [List.getElem?_map, List.getElem?_range hk]; rfl
theorem st14 (hD : D.Ok) (hF : RhoF D ρ) (hM : MuL D (D.u + D.v + 1) μ) : ex 30 1 cL ((bL 14).headD default) ρ μ = some (.next, upd "row" (vstr (rowS D D.m)) ρ, μ) := by
  have m2 := hD.m2
  have mle := hD.mle
  have e : rowS D D.m = rowS D (D.m - 1 + 1) := by congr 1; (first | lia | omega)
  rw [e]
  exact ex_assign (by kernel_rfl) (ev_index rfl (ev_nm rfl hF.rows) (ev_binop (ev_call rfl (callE_b rfl rfl (evs_cons (ev_nm rfl hF.places) evs_nil) (len_places hM.places))) ev_int rfl) (row_at hM.rows (k := D.m - 1) (by (first | lia | omega)) (by (first | lia | omega))))
theorem st15 : ex 30 1 cL ((bL 15).headD default) ρ μ = some (.next, upd "want" (vstr (S [])) ρ, μ) := by
  have e4 : ("" : Str) = S [] := by kernel_rfl
  rw [← e4]
  exact ex_assign (by kernel_rfl) (ev_str (by decide))
theorem st16 : ex 30 1 cL ((bL 16).headD default) ρ μ = some (.next, upd "typed" (.lst μ.length) ρ, μ ++ [[]]) := ex_assign (by kernel_rfl) (ev_list0 rfl)
theorem st17 : ex 30 1 cL ((bL 17).headD default) ρ μ = some (.next, upd "beside" (.lst μ.length) ρ, μ ++ [besideL]) :=
  ex_assign (by kernel_rfl) (ev_list (vs := besideL) (by kernel_rfl) (newItems_ok (by kernel_rfl) (len_ok (by kernel_rfl))))
theorem st18 {B : Nat} (hD : D.Ok) (I : Inv2 D B 0 ρ μ) : ∃ ρ' μ', ex 30 1 cL ((bL 18).headD default) ρ μ = some (.next, ρ', μ') ∧ Inv2 D B D.m ρ' μ' := by
  obtain ⟨ρ', μ', s, I'⟩ := loop2 hD (tgt := forTgt 25 18) (fun v => rfl) D.m 0 ρ μ (by (first | lia | omega)) I
  refine ⟨ρ', μ', ex_for (by kernel_rfl) (src_range rfl (evs_cons (ev_call rfl (callE_b rfl rfl (evs_cons (ev_nm rfl I.rho.places) evs_nil) (len_places I.mem.places))) evs_nil) ?_) s exs_nil, I'⟩
  have m8 := hD.m8
  show (if ((D.m : Int)).natAbs ≤ lim then some (rangeV 0 (D.m : Int)) else none) = _
  rw [if_pos (by show _ ≤ 1048576; (first | lia | omega))]
  unfold rangeV
  rw [show ((D.m : Int) - 0).toNat = D.m by (first | lia | omega), List.range_eq_range']
theorem head2 (hD : D.Ok) (I : Inv D (D.u + D.v + 1) ρ μ) : ∃ ρ' μ' B, Inv2 D B D.m ρ' μ' ∧ ∀ R, exsG (ex 30 1 cL) (bL 19) ρ' μ' = R → exsG (ex 30 1 cL) (bL 14) ρ μ = R := by
  have s14 := st14 hD I.rho I.mem
  have hF1 := I.rho.upd (x := "row") (v := vstr (rowS D D.m)) (by decide)
  have hr1 : (upd "row" (vstr (rowS D D.m)) ρ).lookup ("row" : Str) = some (vstr (S ((wk D ++ [0]).map (97 + ·)))) := by rw [← rowM hD]; exact upd_same
  generalize upd "row" (vstr (rowS D D.m)) ρ = ρ1 at s14 hF1 hr1
  have s15 := st15 (ρ := ρ1) (μ := μ)
  have hF2 := hF1.upd (x := "want") (v := vstr (S [])) (by decide)
  have hr2 := upd_ne (x := "want") (v := vstr (S [])) (by decide) hr1
  have hw2 : (upd "want" (vstr (S [])) ρ1).lookup ("want" : Str) = some (vstr (S [])) := upd_same
  generalize upd "want" (vstr (S [])) ρ1 = ρ2 at s15 hF2 hr2 hw2
  have s16 := st16 (ρ := ρ2) (μ := μ)
  have hF3 := hF2.upd (x := "typed") (v := .lst μ.length) (by decide)
  have hr3 := upd_ne (x := "typed") (v := .lst μ.length) (by decide) hr2
  have hw3 := upd_ne (x := "typed") (v := .lst μ.length) (by decide) hw2
  have ht3 : (upd "typed" (.lst μ.length) ρ2).lookup ("typed" : Str) = some (.lst μ.length) := upd_same
  have gt3 : (μ ++ [[]])[μ.length]? = some ([] : List V) := get_last
  have hM3 := I.mem.ext (Ext.one μ [])
  generalize upd "typed" (.lst μ.length) ρ2 = ρ3 at s16 hF3 hr3 hw3 ht3
  generalize μ.length = T at s16 ht3 gt3
  generalize μ ++ [[]] = μ1 at s16 gt3 hM3
  have s17 := st17 (ρ := ρ3) (μ := μ1)
  have hF4 := hF3.upd (x := "beside") (v := .lst μ1.length) (by decide)
  have hr4 := upd_ne (x := "beside") (v := .lst μ1.length) (by decide) hr3
  have hw4 := upd_ne (x := "beside") (v := .lst μ1.length) (by decide) hw3
  have ht4 := upd_ne (x := "beside") (v := .lst μ1.length) (by decide) ht3
  have hb4 : (upd "beside" (.lst μ1.length) ρ3).lookup ("beside" : Str) = some (.lst μ1.length) := upd_same
  have gt4 := (Ext.one μ1 besideL).get gt3
  have hM4 := hM3.ext (Ext.one μ1 besideL)
  obtain ⟨ρ', μ', s18, I'⟩ := st18 hD (B := μ1.length) (ρ := upd "beside" (.lst μ1.length) ρ3) (μ := μ1 ++ [besideL]) ⟨hF4, hr4, hb4, get_last, hw4, ⟨T, [], ht4, gt4, rfl⟩, hM4⟩
  exact ⟨ρ', μ', μ1.length, I', fun R h => exs_next (bL_cons 14 (by decide)) s14 (exs_next (bL_cons 15 (by decide)) s15 (exs_next (bL_cons 16 (by decide)) s16 (exs_next (bL_cons 17 (by decide)) s17 (exs_next (bL_cons 18 (by decide)) s18 h))))⟩
/-! the typed gaps are read -/
noncomputable def wantF (D : Data) : List Nat := wantOf D (wk D) ++ [97]
structure Inv3 (D : Data) (w : List Nat) (ρ : Loc) : Prop where
  rho : RhoF D ρ
  want : ρ.lookup ("want" : Str) = some (vstr (S (wantF D)))
  word : ρ.lookup ("word" : Str) = some (vstr (S w))
theorem st19 (hD : D.Ok) {B : Nat} (I : Inv2 D B D.m ρ μ) : ex 30 1 cL ((bL 19).headD default) ρ μ = some (.next, upd "want" (vstr (S (wantF D))) ρ, μ) := by
  have hw := I.want
  have e : (wk D).take D.m = wk D := by rw [List.take_of_length_le]; rw [wk_len hD]; exact Nat.le_refl _
  rw [e] at hw
  have ha : ("a" : Str) = S [97] := by kernel_rfl
  have hc : ∀ (f : Nat) k p, ev (f + 1) cL ρ (.Constant (.str "a") k p) μ = some (vstr (S [97]), μ) := fun f k p => by
    rw [← ha]; exact ev_str (by decide)
  have hl := wantOf_len D (wk D)
  rw [wk_len hD] at hl
  have m8 := hD.m8
  exact ex_assign (by kernel_rfl) (ev_binop (ev_nm (by kernel_rfl) hw) (hc _ _ _) (cat_S (by exact (short_lim (by first | (first | lia | omega) | (simp only [List.length_append, List.length_cons, List.length_nil, id]; (first | lia | omega)))))))
theorem st20L : ex 30 1 cL ((bL 20).headD default) ρ μ = some (.next, upd "word" (vstr (S [])) ρ, μ) := by
  have e4 : ("" : Str) = S [] := by kernel_rfl
  rw [← e4]
  exact ex_assign (by kernel_rfl) (ev_str (by decide))
theorem upd2 {x y : Str} {a b : V} {z : Str} {r : Option V} (h1 : ¬ z = x) (h2 : ¬ z = y) (h : ρ.lookup z = r) : (upd y b (upd x a ρ)).lookup z = r := upd_ne h2 (upd_ne h1 h)
theorem b3_hid {w : List Nat} {h : Nat} (I : Inv3 D w ρ) (hh : b1list.contains (h : Int) = true) : exsG (ex 29 1 cL) (forBody 25 21) (upd "meaning" (vstr "") (upd "sign" (vstr ⟨#[h]⟩) ρ)) μ = some (.next, upd "meaning" (vstr "") (upd "sign" (vstr ⟨#[h]⟩) ρ), μ) ∧ Inv3 D w (upd "meaning" (vstr "") (upd "sign" (vstr ⟨#[h]⟩) ρ)) := by
  have hs : (upd "meaning" (vstr "") (upd "sign" (vstr ⟨#[h]⟩) ρ)).lookup ("sign" : Str) = some (vstr ⟨#[h]⟩) := upd_ne (by decide) upd_same
  have hm : (upd "meaning" (vstr "") (upd "sign" (vstr ⟨#[h]⟩) ρ)).lookup ("meaning" : Str) = some (vstr "") := upd_same
  have I' : Inv3 D w (upd "meaning" (vstr "") (upd "sign" (vstr ⟨#[h]⟩) ρ)) := ⟨(I.rho.upd (by decide)).upd (by decide), upd2 (by decide) (by decide) I.want, upd2 (by decide) (by decide) I.word⟩
  generalize upd "meaning" (vstr "") (upd "sign" (vstr ⟨#[h]⟩) ρ) = ρ1 at hs hm I'
  have cb := call_b1 (μ := μ) (c := h)
  rw [hh] at cb
  refine ⟨exs_next rfl (ex_if_f (tr_cmp (cmpE_2 (t := false) rfl (ev_call (by kernel_rfl) (callE_L (by kernel_rfl) (by kernel_rfl) (evs_cons (ev_nm (by kernel_rfl) hs) evs_nil) (by kernel_rfl) cb)) (ev_cmp (cmpE_2 (t := true) rfl (ev_nm (by kernel_rfl) hm) (ev_str (by decide)) (by kernel_rfl))) rfl) rfl) exs_nil)
    (exs_next rfl (ex_if_f (tr_cmp (cmpE_2 (t := false) rfl (ev_nm (by kernel_rfl) hm) (ev_str (by decide)) (by kernel_rfl)) rfl) exs_nil) exs_nil), I'⟩
theorem b3_sign {w : List Nat} {s : Nat} {x : Str} (I : Inv3 D w ρ) (hx : x = "s" ∨ x = "t" ∨ x = "st") (hg : SignOk s x) (hw : w.length ≤ 100) : ∃ ρ', exsG (ex 29 1 cL) (forBody 25 21) (upd "meaning" (vstr x) (upd "sign" (vstr ⟨#[s]⟩) ρ)) μ = some (.next, ρ', μ) ∧ Inv3 D (w ++ tl x) ρ' := by
  have hs : (upd "meaning" (vstr x) (upd "sign" (vstr ⟨#[s]⟩) ρ)).lookup ("sign" : Str) = some (vstr ⟨#[s]⟩) := upd_ne (by decide) upd_same
  have hm : (upd "meaning" (vstr x) (upd "sign" (vstr ⟨#[s]⟩) ρ)).lookup ("meaning" : Str) = some (vstr x) := upd_same
  have I' : Inv3 D w (upd "meaning" (vstr x) (upd "sign" (vstr ⟨#[s]⟩) ρ)) := ⟨(I.rho.upd (by decide)).upd (by decide), upd2 (by decide) (by decide) I.want, upd2 (by decide) (by decide) I.word⟩
  generalize upd "meaning" (vstr x) (upd "sign" (vstr ⟨#[s]⟩) ρ) = ρ1 at hs hm I'
  have cb := call_b1 (μ := μ) (c := s)
  rw [hg.1] at cb
  have hxl : (tl x).length ≤ 2 ∧ (x == ("" : Str)) = false := by
    rcases hx with rfl | rfl | rfl <;> exact ⟨by decide, by decide⟩
  have cm := call_map (μ := μ) (s := s) (by rw [hg.2, len_tl]; exact short_lim (by (first | lia | omega)))
  rw [hg.2] at cm
  have e : S (w ++ tl x) = S w ++ x := str_ext (by rw [tl_append, tl_S, tl_S])
  refine ⟨upd "word" (vstr (S (w ++ tl x))) ρ1, exs_next rfl (ex_if_f (tr_cmp (cmpE_2 (t := false) rfl (ev_call (by kernel_rfl) (callE_L (by kernel_rfl) (by kernel_rfl) (evs_cons (ev_nm (by kernel_rfl) hs) evs_nil) (by kernel_rfl) cb)) (ev_cmp (cmpE_2 (t := false) rfl (ev_nm (by kernel_rfl) hm) (ev_str (by decide)) (by show some (x == ("" : Str)) = _; rw [hxl.2]))) rfl) rfl) exs_nil)
    (exs_next rfl (ex_if_t (tr_cmp (cmpE_2 (t := true) rfl (ev_nm (by kernel_rfl) hm) (ev_str (by decide)) (by show some (!(x == ("" : Str))) = _; rw [hxl.2]; rfl)) rfl) (exs_next rfl (ex_assign (by kernel_rfl) (ev_binop (ev_nm (by kernel_rfl) I'.word) (ev_call (by kernel_rfl) (callE_L (by kernel_rfl) (by kernel_rfl) (evs_cons (ev_nm (by kernel_rfl) hs) evs_nil) (by kernel_rfl) cm)) ?_)) exs_nil)) exs_nil), I'.rho.upd (by decide), upd_ne (by decide) I'.want, upd_same⟩
  rw [e]
  refine binop_cat ?_
  rw [← e, len_tl, tl_S, List.length_append]
  exact short_lim (by (first | lia | omega))
theorem loop3 {T : Nat} {l0 : List V} (hT : μ[T]? = some l0) : ∀ (ks : List Str) (l : List V) (w : List Nat) (ρ : Loc), TL ks l → (∀ x ∈ ks, x = "s" ∨ x = "t" ∨ x = "st") → w.length + 2 * ks.length ≤ 100 → Inv3 D w ρ →
    ∃ ρ', forGo (exsG (ex 29 1 cL) (forBody 25 21)) (forTgt 25 21) (some (T, l0)) l ρ μ = some (.next, ρ', μ) ∧ Inv3 D (w ++ ks.flatMap tl) ρ'
  | [], l, w, ρ, hTL, _, _, I => by
    have : l = [] := hTL
    subst this
    exact ⟨ρ, for_nil (by simp [okSrc, hT]), by simpa using I⟩
  | x :: ks, l, w, ρ, hTL, hx, hw, I => by
    obtain ⟨a, b, rfl, ⟨pre, s, rfl, hg, hpre⟩, hTL'⟩ := hTL
    have hk : okSrc (some (T, l0)) μ = true := by simp [okSrc, hT]
    have hxx := hx x (List.mem_cons_self ..)
    have hxl : (tl x).length ≤ 2 := by rcases hxx with rfl | rfl | rfl <;> decide
    have hlen : w.length + 2 * (ks.length + 1) ≤ 100 := hw
    have fin : ∀ ρ, Inv3 D w ρ → ∃ ρ', forGo (exsG (ex 29 1 cL) (forBody 25 21)) (forTgt 25 21) (some (T, l0)) (V.tup [.str ⟨#[s]⟩, .str x] :: b) ρ μ = some (.next, ρ', μ) ∧ Inv3 D (w ++ (x :: ks).flatMap tl) ρ' := fun ρ I => by
      obtain ⟨ρ1, s1, I1⟩ := b3_sign (μ := μ) I hxx hg (by (first | lia | omega))
      obtain ⟨ρ2, s2, I2⟩ := loop3 hT ks b (w ++ tl x) ρ1 hTL' (fun y hy => hx y (List.mem_cons_of_mem _ hy)) (by rw [List.length_append]; (first | lia | omega)) I1
      refine ⟨ρ2, for_next (bs := [("sign", vstr ⟨#[s]⟩), ("meaning", vstr x)]) hk rfl s1 s2, ?_⟩
      rw [List.flatMap_cons, ← List.append_assoc]; exact I2
    rcases hpre with rfl | ⟨h, rfl, hh⟩
    · exact fin ρ I
    · obtain ⟨s1, I1⟩ := b3_hid (μ := μ) I hh
      obtain ⟨ρ2, s2, I2⟩ := fin _ I1
      exact ⟨ρ2, for_next (bs := [("sign", vstr ⟨#[h]⟩), ("meaning", vstr "")]) hk rfl s1 s2, I2⟩
noncomputable def wordF (D : Data) : List Nat := ((wk D).map (kindS D.m D.u D.v)).flatMap tl
theorem head3 (hD : D.Ok) {B : Nat} (I : Inv2 D B D.m ρ μ) : ∃ ρ', Inv3 D (wordF D) ρ' ∧ ρ'.lookup ("full" : Str) = some (vstr (rowS D (D.u + D.v))) ∧ ∀ R, exsG (ex 30 1 cL) (bL 23) ρ' μ = R → exsG (ex 30 1 cL) (bL 19) ρ μ = R := by
  have s19 := st19 hD I
  obtain ⟨T, l, hT, hTl, hTL⟩ := I.typed
  have e : (wk D).take D.m = wk D := by rw [List.take_of_length_le]; rw [wk_len hD]; exact Nat.le_refl _
  rw [e] at hTL
  have hF1 := I.rho.upd (x := "want") (v := vstr (S (wantF D))) (by decide)
  have hw1 : (upd "want" (vstr (S (wantF D))) ρ).lookup ("want" : Str) = some (vstr (S (wantF D))) := upd_same
  have hT1 := upd_ne (x := "want") (v := vstr (S (wantF D))) (by decide) hT
  generalize upd "want" (vstr (S (wantF D))) ρ = ρ1 at s19 hF1 hw1 hT1
  have s20 := st20L (ρ := ρ1) (μ := μ)
  have hF2 := hF1.upd (x := "word") (v := vstr (S [])) (by decide)
  have hw2 := upd_ne (x := "word") (v := vstr (S [])) (by decide) hw1
  have hT2 := upd_ne (x := "word") (v := vstr (S [])) (by decide) hT1
  have hd2 : (upd "word" (vstr (S [])) ρ1).lookup ("word" : Str) = some (vstr (S [])) := upd_same
  generalize upd "word" (vstr (S [])) ρ1 = ρ2 at s20 hF2 hw2 hT2 hd2
  have m8 := hD.m8
  obtain ⟨ρ3, s21, I3⟩ := loop3 (D := D) hTl ((wk D).map (kindS D.m D.u D.v)) l [] ρ2 hTL (fun x hx => by
    obtain ⟨i, _, rfl⟩ := List.mem_map.mp hx
    exact kind_mem _ _ _ _) (by rw [List.length_map, wk_len hD]; simp; (first | lia | omega)) ⟨hF2, hw2, hd2⟩
  rw [List.nil_append] at I3
  have s21' : ex 30 1 cL ((bL 21).headD default) ρ2 μ = some (.next, ρ3, μ) := ex_for (by kernel_rfl) (src_name (ev_nm (by kernel_rfl) hT2) hTl) s21 exs_nil
  have u0 := hD.u0
  have mle := hD.mle
  have s22 : ex 30 1 cL ((bL 22).headD default) ρ3 μ = some (.next, upd "full" (vstr (rowS D (D.u + D.v))) ρ3, μ) := by
    have e : rowS D (D.u + D.v) = rowS D (D.u + D.v - 1 + 1) := by congr 1; (first | lia | omega)
    rw [e]
    exact ex_assign (by kernel_rfl) (ev_index rfl (ev_nm rfl I3.rho.rows) (ev_binop (ev_binop (ev_nm rfl I3.rho.near) (ev_nm rfl I3.rho.far) rfl) ev_int rfl) (row_at I.mem.rows (k := D.u + D.v - 1) (by (first | lia | omega)) (by (first | lia | omega))))
  exact ⟨_, ⟨I3.rho.upd (by decide), upd_ne (by decide) I3.want, upd_ne (by decide) I3.word⟩, upd_same, fun R h => exs_next (bL_cons 19 (by decide)) s19 (exs_next (bL_cons 20 (by decide)) s20 (exs_next (bL_cons 21 (by decide)) s21' (exs_next (bL_cons 22 (by decide)) s22 h)))⟩
end
end Mine
namespace Mine
open PySem PySem.StrLaws
noncomputable def fl (D : Data) : List Nat := ringL D (D.u + D.v) ++ [97]
noncomputable def onI (l : List Nat) (k : Nat) : Int := (l.getD (k + 1) 0 : Nat) - (l.getD k 0 : Nat)
noncomputable def onS (u v : Nat) (x : Int) : Str := if x = (u : Int) then "s" else if x = -(v : Int) then "t" else "-"
noncomputable def dots : List Nat := [46, 46, 46]
noncomputable def pairL (k : Nat) : List Nat := dots ++ [97 + k] ++ dots ++ [98 + k] ++ dots
section
variable {D : Data} {ρ : Loc} {μ : Mem} {f : Nat}
/-- a question, answered as expected -/
theorem askT {e1 e2 e3 : Expr} {p1 p2 p3 : Pos} {w g : Str} {r : Bool} (h0 : globName cL e3 = false) (h1 : ev f cL ρ e1 μ = some (vstr w, μ)) (h2 : ev f cL ρ e2 μ = some (vstr g, μ)) (hr : ellipO w g = some r) (h3 : ∀ μ', Ext μ μ' → ev (f + 2) cL ρ e3 μ' = some (vbool r, μ')) :
    ∃ μ', tr (f + 4) cL ρ (.Compare (.Call (.Name "_ellipsis_match" p1) [e1, e2] [] p2) [.IsNot] [e3] p3) μ = some (false, μ') ∧ Ext μ μ' := by
  obtain ⟨μ', c, x⟩ := call_ellip (μ := μ) hr
  refine ⟨μ', tr_cmp (cmpE_2 (t := false) h0 (ev_call (by kernel_rfl) (callE_L (by kernel_rfl) (by kernel_rfl) (evs_cons h1 (evs_cons h2 evs_nil)) (by kernel_rfl) c)) (h3 μ' x) ?_) rfl, x⟩
  show some (r != r) = _
  simp
theorem ask {e1 e2 e3 : Expr} {p1 p2 p3 p4 : Pos} {body : List Stmt} {w g : Str} {r : Bool} (h0 : globName cL e3 = false) (h1 : ev f cL ρ e1 μ = some (vstr w, μ)) (h2 : ev f cL ρ e2 μ = some (vstr g, μ)) (hr : ellipO w g = some r) (h3 : ∀ μ', Ext μ μ' → ev (f + 2) cL ρ e3 μ' = some (vbool r, μ')) :
    ∃ μ', ex (f + 5) 1 cL (.If (.Compare (.Call (.Name "_ellipsis_match" p1) [e1, e2] [] p2) [.IsNot] [e3] p3) body [] p4) ρ μ = some (.next, ρ, μ') ∧ Ext μ μ' := by
  obtain ⟨μ', c, x⟩ := askT h0 h1 h2 hr h3
  exact ⟨μ', ex_if_f c exs_nil, x⟩
/-! on -/
noncomputable def onComp : Expr × Scope := compParts 23
noncomputable abbrev cO : Cfg := { cL with names := relab onComp.2.names cL.names }
theorem fl_len (D : Data) : (fl D).length = D.u + D.v + 1 := by
  unfold fl
  rw [List.length_append, ringL_len]; rfl
theorem fl_at {k : Nat} (h : k < D.u + D.v + 1) : (fl D)[k]? = some ((fl D).getD k 0) := by
  rw [List.getD_eq_getElem?_getD]
  rw [List.getElem?_eq_getElem (by rw [fl_len]; exact h)]; rfl
theorem on_comp {p : Pos} (hf : ρ.lookup ("full" : Str) = some (vstr (S (fl D)))) : ∀ (n i : Nat), i + n ≤ D.u + D.v →
    compGo (fun v μ => (bindT (.Name "k" p) v).bind fun bs => ev (f + 6) cO (updAll bs ρ) onComp.1 μ) ((List.range' i n).map fun (j : Nat) => vraw (0 + (j : Int))) μ = some ((List.range' i n).map fun k => vint (onI (fl D) k), μ)
  | 0, _, _ => rfl
  | n + 1, i, h => by
    rw [List.range'_succ, List.map_cons, List.map_cons]
    refine comp_cons (μ₁ := μ) (bind_to (o := bindT (.Name "k" p) (vraw (0 + (i : Int)))) (f := fun bs => ev (f + 6) cO (updAll bs ρ) onComp.1 μ) (x := [("k", vraw (0 + (i : Int)))]) rfl ?_) (on_comp hf n (i + 1) (by (first | lia | omega)))
    have e1 : (upd "k" (vraw (0 + (i : Int))) ρ).lookup ("full" : Str) = some (vstr (S (fl D))) := upd_ne (by decide) hf
    have e2 : (upd "k" (vraw (0 + (i : Int))) ρ).lookup ("k" : Str) = some (vraw (0 + (i : Int))) := upd_same
    have i1 : index (vstr (S (fl D))) (vint (0 + (i : Int) + 1)) μ = some (vstr (S [(fl D).getD (i + 1) 0])) := by
      have : (0 + (i : Int) + 1) = ((i + 1 : Nat) : Int) := by (first | lia | omega)
      rw [this]
      exact index_at (fl_at (by (first | lia | omega)))
    have i2 : index (vstr (S (fl D))) (vraw (0 + (i : Int))) μ = some (vstr (S [(fl D).getD i 0])) := by
      rw [Int.zero_add]
      exact index_at (fl_at (by (first | lia | omega)))
    exact ev_binop (ev_call (by kernel_rfl) (callE_b (by kernel_rfl) (by kernel_rfl) (evs_cons (ev_index rfl (ev_nm (by kernel_rfl) e1) (ev_binop (ev_nm (by kernel_rfl) e2) ev_int rfl) i1) evs_nil) ord_at)) (ev_call (by kernel_rfl) (callE_b (by kernel_rfl) (by kernel_rfl) (evs_cons (ev_index rfl (ev_nm (by kernel_rfl) e1) (ev_nm (by kernel_rfl) e2) i2) evs_nil) ord_at)) rfl
noncomputable def onV (D : Data) : List V := (List.range (D.u + D.v)).map fun k => vint (onI (fl D) k)
theorem onV_all (D : Data) : (onV D).all notLst = true := by
  unfold onV
  rw [List.all_map, List.all_eq_true]
  intro x _; rfl
theorem st23 (hD : D.Ok) (hF : RhoF D ρ) (hf : ρ.lookup ("full" : Str) = some (vstr (S (fl D)))) : ex 30 1 cL ((bL 23).headD default) ρ μ = some (.next, upd "on" (.lst μ.length) ρ, μ ++ [onV D]) := by
  have um := hD.um
  have vm := hD.vm
  have m8 := hD.m8
  have hl : (onV D).length ≤ lim := by
    unfold onV
    rw [List.length_map, List.length_range]; exact short_lim (by (first | lia | omega))
  have hs : srcRange [vint ((D.u : Int) + D.v)] = some ((List.range' 0 (D.u + D.v)).map fun (j : Nat) => vraw (0 + (j : Int))) := by
    show (if ((D.u : Int) + D.v).natAbs ≤ lim then some (rangeV 0 ((D.u : Int) + D.v)) else none) = _
    rw [if_pos (by show _ ≤ 1048576; (first | lia | omega))]
    unfold rangeV
    rw [show ((D.u : Int) + D.v - 0).toNat = D.u + D.v by (first | lia | omega), List.range_eq_range']
  have hc := on_comp (f := 22) (μ := μ) (p := default) hf (D.u + D.v) 0 (by (first | lia | omega))
  rw [← List.range_eq_range'] at hc
  exact ex_assign (by kernel_rfl) (ev_comp (by rw [comp_ok hF.dot (by kernel_rfl) (by kernel_rfl)]; rfl) (src_range (by kernel_rfl) (evs_cons (ev_binop (ev_nm rfl hF.near) (ev_nm rfl hF.far) rfl) evs_nil) (by rw [hs, ← List.range_eq_range'])) hc (newItems_ok (onV_all D) hl))
/-! the word -/
noncomputable def wdComp : Expr × Scope := match ((bL 24).head? : Option PySem.Stmt) with
  | some (.If (.Compare _ _ [.Call _ [.ListComp e _ s _] _ _] _) _ _ _) => (e, s)
  | _ => (.Constant .none 0 default, default)
noncomputable abbrev cW : Cfg := { cL with names := relab wdComp.2.names cL.names }
theorem wd_comp {p : Pos} (hF : RhoF D ρ) : ∀ l : List Int,
    compGo (fun v μ => (bindT (.Name "way" p) v).bind fun bs => ev (f + 6) cW (updAll bs ρ) wdComp.1 μ) (l.map vint) μ = some (l.map fun x => vstr (onS D.u D.v x), μ)
  | [] => rfl
  | x :: l => by
    refine comp_cons (μ₁ := μ) (bind_to (o := bindT (.Name "way" p) (vint x)) (f := fun bs => ev (f + 6) cW (updAll bs ρ) wdComp.1 μ) (x := [("way", vint x)]) rfl ?_) (wd_comp hF l)
    have hF1 : RhoF D (upd "way" (vint x) ρ) := hF.upd (by decide)
    have e2 : (upd "way" (vint x) ρ).lookup ("way" : Str) = some (vint x) := upd_same
    show ev (f + 6) cW (upd "way" (vint x) ρ) wdComp.1 μ = some (vstr (onS D.u D.v x), μ)
    generalize upd "way" (vint x) ρ = ρ1 at hF1 e2
    unfold onS
    by_cases h1 : x = (D.u : Int)
    · rw [if_pos h1]
      exact ev_if_t (tr_cmp (cmpE_2 (t := true) rfl (ev_nm (by kernel_rfl) e2) (ev_nm (by kernel_rfl) hF1.near) (by show some (_ == _) = _; rw [h1, beq_self_eq_true])) rfl) (ev_str (by decide))
    · rw [if_neg h1]
      by_cases h2 : x = -(D.v : Int)
      · rw [if_pos h2]
        exact ev_if_f (tr_cmp (cmpE_2 (t := false) rfl (ev_nm (by kernel_rfl) e2) (ev_nm (by kernel_rfl) hF1.near) (by show some (_ == _) = _; rw [beq_eq_false_iff_ne.mpr h1])) rfl) (ev_if_t (tr_cmp (cmpE_2 (t := true) rfl (ev_nm (by kernel_rfl) e2) (ev_neg (ev_nm (by kernel_rfl) hF1.far)) (by show some (_ == _) = _; rw [h2, beq_self_eq_true])) rfl) (ev_str (by decide)))
      · rw [if_neg h2]
        exact ev_if_f (tr_cmp (cmpE_2 (t := false) rfl (ev_nm (by kernel_rfl) e2) (ev_nm (by kernel_rfl) hF1.near) (by show some (_ == _) = _; rw [beq_eq_false_iff_ne.mpr h1])) rfl) (ev_if_f (tr_cmp (cmpE_2 (t := false) rfl (ev_nm (by kernel_rfl) e2) (ev_neg (ev_nm (by kernel_rfl) hF1.far)) (by show some (_ == _) = _; rw [beq_eq_false_iff_ne.mpr h2])) rfl) (ev_str (by decide)))
noncomputable def ways (D : Data) : List Int := (List.range (D.u + D.v)).map fun k => onI (fl D) k
noncomputable def wayS (D : Data) : List Str := (ways D).map (onS D.u D.v)
theorem allStrs_map : ∀ l : List Str, allStrs (l.map vstr) = some l
  | [] => rfl
  | x :: l => by
    show (allStrs (l.map vstr)).map _ = _
    rw [allStrs_map l]; rfl
theorem onS_len (u v : Nat) (x : Int) : (onS u v x).length = 1 := by
  unfold onS
  split
  · rfl
  · split <;> rfl
theorem sum_ones : ∀ l : List Int, ((l.map (onS D.u D.v)).map (·.length)).sum = l.length
  | [] => rfl
  | x :: l => by
    rw [List.map_cons, List.map_cons, List.sum_cons, sum_ones l, onS_len, List.length_cons]; (first | lia | omega)
theorem st24 (hD : D.Ok) (hF : RhoF D ρ) {B : Nat} (ho : ρ.lookup ("on" : Str) = some (.lst B)) (hB : μ[B]? = some (onV D)) (hw : ρ.lookup ("word" : Str) = some (vstr (S (wordF D)))) (hj : Txt.join "" (wayS D) = S (wordF D)) :
    ∃ μ', ex 30 1 cL ((bL 24).headD default) ρ μ = some (.next, ρ, μ') ∧ Ext μ μ' := by
  have um := hD.um
  have vm := hD.vm
  have m8 := hD.m8
  have hV : onV D = (ways D).map vint := by unfold onV ways; rw [List.map_map]; rfl
  have hwl : (ways D).length = D.u + D.v := by unfold ways; rw [List.length_map, List.length_range]
  have hall : ((ways D).map fun x => vstr (onS D.u D.v x)).all notLst = true := by
    rw [List.all_map, List.all_eq_true]
    intro x _; rfl
  have hl : ((ways D).map fun x => vstr (onS D.u D.v x)).length ≤ lim := by rw [List.length_map, hwl]; exact short_lim (by (first | lia | omega))
  have hc := wd_comp (f := 18) (μ := μ) (p := default) hF (ways D)
  have hm : mcall (vstr "") "join" [.lst μ.length] (μ ++ [(ways D).map fun x => vstr (onS D.u D.v x)]) = some (vstr (S (wordF D)), μ ++ [(ways D).map fun x => vstr (onS D.u D.v x)]) := by
    show ((((μ ++ [(ways D).map fun x => vstr (onS D.u D.v x)])[μ.length]?).bind allStrs).bind fun l => if (l.map (·.length)).sum + l.length * ("" : Str).length ≤ lim then newStr (Txt.join "" l) _ else none) = _
    rw [get_last]
    have e : ((ways D).map fun x => vstr (onS D.u D.v x)) = (wayS D).map vstr := by unfold wayS; rw [List.map_map]; rfl
    rw [e]
    show ((allStrs ((wayS D).map vstr)).bind _) = _
    rw [allStrs_map]
    show (if ((wayS D).map (·.length)).sum + (wayS D).length * 0 ≤ lim then newStr (Txt.join "" (wayS D)) _ else none) = _
    rw [if_pos (by unfold wayS; rw [sum_ones, hwl, Nat.mul_zero]; exact short_lim (by (first | lia | omega))), hj]
    refine newStr_ok ?_
    rw [← hj]
    have ej : Txt.join "" (wayS D) = Str.join "" (wayS D) := glued_eq_join _ _
    rw [ej]
    refine Nat.le_trans (StrLaws.join_length_le "" (wayS D)) ?_
    unfold wayS
    rw [sum_ones, hwl]
    show D.u + D.v + _ * 0 ≤ lim
    rw [Nat.mul_zero]
    exact short_lim (by (first | lia | omega))
  refine ⟨_, ex_if_f (tr_cmp (cmpE_2 (t := false) rfl (ev_nm (by kernel_rfl) hw) (ev_meth (by kernel_rfl) (methE_m (by kernel_rfl) (ev_str (by decide)) (evs_cons (ev_comp (by rw [comp_ok hF.dot (by kernel_rfl) (by kernel_rfl)]; rfl) (src_name (ev_nm (by kernel_rfl) ho) hB) (by rw [hV]; exact hc) (newItems_ok hall hl)) evs_nil) hm)) (by show some (!(_ == _)) = _; rw [str_eq_self]; rfl)) rfl) exs_nil, Ext.one _ _⟩
end
end Mine
namespace Mine
open PySem PySem.StrLaws
/-- what is left to look at: closed questions once m, u, v and the longer gap are known -/
structure Chk (D : Data) : Prop where
  word : Txt.join "" (wayS D) = S (wordF D)
  rows : ∀ k, D.m - 1 ≤ k → k < D.u + D.v + 1 → ellipO (S (wantF D)) (rowS D (k + 1)) = some (decide ((k : Int) < (D.u : Int) + D.v))
  w1 : ellipO (S ((wantF D).drop 1)) (S (fl D)) = some false
  w2 : ellipO (S ((wantF D).take ((wantF D).length - 1))) (S (fl D)) = some false
  b1 : ellipO (S (([97, 46, 46, 46] ++ [97 + D.v]) ++ [97])) (rowS D (D.u + D.v + 1)) = some (decide (D.t < D.s))
  b2 : ellipO (S (([97] ++ [97 + D.u]) ++ [46, 46, 46, 97])) (rowS D (D.u + D.v + 1)) = some (decide (D.s < D.t))
  f1 : ellipO (S (((fl D).take 2 ++ dots) ++ (fl D).drop 2)) (S (fl D)) = some true
  f2 : ellipO (S (((fl D).take 2 ++ dots) ++ (fl D).drop 1)) (S (fl D)) = some false
  f3 : ellipO (S ((((dots ++ (fl D).take 2) ++ dots) ++ ((fl D).drop 1).take 2) ++ dots)) (S (fl D)) = some false
  f4 : ellipO (S (((dots ++ [(fl D).getD (D.u + D.v - 1) 0]) ++ dots) ++ (fl D).drop (D.u + D.v - 1))) (S (fl D)) = some false
  pairs : ∀ k, k + 1 < D.u + D.v → ellipO (S ((((dots ++ [97 + k]) ++ dots) ++ [98 + k]) ++ dots)) (S (fl D)) = some (decide (pt D.S D.d k < pt D.S D.d (k + 1)))
structure InvT (D : Data) (ρ : Loc) : Prop where
  rho : RhoF D ρ
  want : ρ.lookup ("want" : Str) = some (vstr (S (wantF D)))
  full : ρ.lookup ("full" : Str) = some (vstr (S (fl D)))
theorem InvT.upd {D : Data} {ρ : Loc} {x : Str} {v : V} (I : InvT D ρ) (h1 : x ∉ fixed) (h2 : ¬ ("want" : Str) = x) (h3 : ¬ ("full" : Str) = x) : InvT D (upd x v ρ) := ⟨I.rho.upd h1, upd_ne h2 I.want, upd_ne h3 I.full⟩
theorem ev_dots {f : Nat} {ρ : Loc} {μ : Mem} {k p} : ev (f + 1) cL ρ (.Constant (.str "...") k p) μ = some (vstr (S dots), μ) := by
  have e3 : ("..." : Str) = S dots := by kernel_rfl
  rw [← e3]; exact ev_str (by decide)
section
variable {D : Data} {ρ : Loc} {μ : Mem} {f : Nat}
theorem turn4 (hD : D.Ok) (hC : Chk D) {k : Nat} {y : Int} (hy : y = (k : Int)) (h1 : D.m - 1 ≤ k) (h2 : k < D.u + D.v + 1) (I : InvT D ρ) (hM : MuL D (D.u + D.v + 1) μ) : ∃ μ', exsG (ex 29 1 cL) (forBody 25 25) (upd "k" (vraw y) ρ) μ = some (.next, upd "k" (vraw y) ρ, μ') ∧ Ext μ μ' := by
  subst hy
  have I1 : InvT D (upd "k" (vraw k) ρ) := I.upd (by decide) (by decide) (by decide)
  have hk : (upd "k" (vraw k) ρ).lookup ("k" : Str) = some (vraw k) := upd_same
  generalize upd "k" (vraw k) ρ = ρ1 at I1 hk
  obtain ⟨μ', s, x⟩ : ∃ μ', ex 29 1 cL ((forBody 25 25).headD default) ρ1 μ = some (.next, ρ1, μ') ∧ Ext μ μ' :=
    ask (f := 24) rfl (ev_nm (by kernel_rfl) I1.want) (ev_index rfl (ev_nm (by kernel_rfl) I1.rho.rows) (ev_nm (by kernel_rfl) hk) (row_at hM.rows h2 rfl)) (hC.rows k h1 h2)
      (fun μ' _ => ev_cmp (cmpE_2 rfl (ev_nm (by kernel_rfl) hk) (ev_binop (ev_nm (by kernel_rfl) I1.rho.near) (ev_nm (by kernel_rfl) I1.rho.far) rfl) rfl))
  exact ⟨μ', exs_next rfl s exs_nil, x⟩
theorem loop4 (hD : D.Ok) (hC : Chk D) {tgt : Expr} (htgt : ∀ v, bindT tgt v = some [(("k" : Str), v)]) : ∀ (n i : Nat) (ρ : Loc) (μ : Mem), D.m - 1 + i + n = D.u + D.v + 1 → InvT D ρ → MuL D (D.u + D.v + 1) μ →
    ∃ ρ' μ', forGo (exsG (ex 29 1 cL) (forBody 25 25)) tgt none ((List.range' i n).map fun (j : Nat) => vraw ((D.m : Int) - 1 + (j : Int))) ρ μ = some (.next, ρ', μ') ∧ InvT D ρ' ∧ MuL D (D.u + D.v + 1) μ'
  | 0, i, ρ, μ, _, I, hM => ⟨ρ, μ, for_nil rfl, I, hM⟩
  | n + 1, i, ρ, μ, hn, I, hM => by
    have m2 := hD.m2
    obtain ⟨μ1, s1, x1⟩ := turn4 hD hC (y := (D.m : Int) - 1 + (i : Int)) (k := D.m - 1 + i) (by (first | lia | omega)) (by (first | lia | omega)) (by (first | lia | omega)) I hM
    obtain ⟨ρ2, μ2, s2, I2, M2⟩ := loop4 hD hC htgt n (i + 1) _ μ1 (by (first | lia | omega)) (I.upd (x := "k") (v := vraw ((D.m : Int) - 1 + (i : Int))) (by decide) (by decide) (by decide)) (hM.ext x1)
    refine ⟨ρ2, μ2, ?_, I2, M2⟩
    rw [List.range'_succ, List.map_cons]
    exact for_next (bs := [("k", vraw ((D.m : Int) - 1 + (i : Int)))]) rfl (htgt _) s1 s2
theorem st25 (hD : D.Ok) (hC : Chk D) (I : InvT D ρ) (hM : MuL D (D.u + D.v + 1) μ) : ∃ ρ' μ', ex 30 1 cL ((bL 25).headD default) ρ μ = some (.next, ρ', μ') ∧ InvT D ρ' ∧ MuL D (D.u + D.v + 1) μ' := by
  have um := hD.um
  have vm := hD.vm
  have m2 := hD.m2
  have m8 := hD.m8
  have mle := hD.mle
  obtain ⟨ρ', μ', s, I', M'⟩ := loop4 hD hC (tgt := forTgt 25 25) (fun v => rfl) (D.u + D.v + 1 - (D.m - 1)) 0 ρ μ (by (first | lia | omega)) I hM
  refine ⟨ρ', μ', ex_for (by kernel_rfl) (src_range (by kernel_rfl) (evs_cons (ev_binop (ev_call (by kernel_rfl) (callE_b (by kernel_rfl) (by kernel_rfl) (evs_cons (ev_nm (by kernel_rfl) I.rho.places) evs_nil) (len_places hM.places))) ev_int rfl) (evs_cons (ev_binop (ev_binop (ev_nm (by kernel_rfl) I.rho.near) (ev_nm (by kernel_rfl) I.rho.far) rfl) ev_int rfl) evs_nil)) ?_) s exs_nil, I', M'⟩
  show (if ((D.m : Int) - 1).natAbs ≤ lim ∧ ((D.u : Int) + D.v + 1).natAbs ≤ lim then some (rangeV ((D.m : Int) - 1) ((D.u : Int) + D.v + 1)) else none) = _
  have hlim : lim = 1048576 := rfl
  rw [if_pos (by (first | lia | omega))]
  unfold rangeV
  rw [show (((D.u : Int) + D.v + 1) - ((D.m : Int) - 1)).toNat = D.u + D.v + 1 - (D.m - 1) by (first | lia | omega), List.range_eq_range']
theorem slice_to_last {l : List Nat} (h : 1 ≤ l.length) (hl : l.length ≤ 1000) : slice (vstr (S l)) none (some (-1)) none μ = some (vstr (S (l.take (l.length - 1))), μ) := by
  have e : Txt.slice (S l) none (some (-1)) = Txt.slice (S l) none (some ((l.length - 1 : Nat) : Int)) := by
    unfold Txt.slice
    rw [sliceIdx_neg_hi none (S l).length (by decide) (by rw [len_tl, tl_S]; (first | lia | omega))]
    have : (-1 : Int) + ((S l).length : Nat) = ((l.length - 1 : Nat) : Int) := by rw [len_tl, tl_S]; (first | lia | omega)
    rw [this]
  have := slice_take (μ := μ) (l := l) (k := l.length - 1) (by (first | lia | omega)) hl
  show (if (none : Option Int) = none then newStr (Txt.slice (S l) none (some (-1))) μ else none) = _
  rw [e]
  exact this
theorem wantF_len (hD : D.Ok) : 1 ≤ (wantF D).length ∧ (wantF D).length ≤ 100 := by
  have h := wantOf_len D (wk D)
  rw [wk_len hD] at h
  have m8 := hD.m8
  unfold wantF
  rw [List.length_append]
  simp only [List.length_cons, List.length_nil]
  (first | lia | omega)
theorem st26 (hD : D.Ok) (hC : Chk D) (I : InvT D ρ) : ∃ μ', ex 30 1 cL ((bL 26).headD default) ρ μ = some (.next, ρ, μ') ∧ Ext μ μ' := by
  obtain ⟨l1, l2⟩ := wantF_len hD
  have e1 : ∀ (g : Nat) (μ : Mem) (p1 p2 p3 p4 : Pos) k1, ev (g + 2) cL ρ (.Subscript (.Name "want" p1) (.Slice (some (.Constant (.int 1) k1 p2)) none none p3) p4) μ = some (vstr (S ((wantF D).drop 1)), μ) := fun g μ p1 p2 p3 p4 k1 =>
    ev_slice (ev_nm (by kernel_rfl) I.want) (evo_some ev_int) evo_none evo_none (slice_drop (k := 1) l1 (by (first | lia | omega)))
  have e2 : ∀ (g : Nat) (μ : Mem) (p1 p2 p3 p4 p5 : Pos) k1, ev (g + 3) cL ρ (.Subscript (.Name "want" p1) (.Slice none (some (.UnaryOp .USub (.Constant (.int 1) k1 p2) p5)) none p3) p4) μ = some (vstr (S ((wantF D).take ((wantF D).length - 1))), μ) := fun g μ p1 p2 p3 p4 p5 k1 =>
    ev_slice (ev_nm (by kernel_rfl) I.want) evo_none (evo_some (ev_neg ev_int)) evo_none (slice_to_last l1 (by (first | lia | omega)))
  obtain ⟨μ1, t1, x1⟩ := askT (f := 23) (μ := μ) (ρ := ρ) (e3 := .Constant (.bool false) 0 default) (p1 := default) (p2 := default) (p3 := default) rfl (e1 _ μ default default default default 0) (ev_nm (by kernel_rfl) I.full) hC.w1 (fun μ' _ => ev_bool)
  obtain ⟨μ2, t2, x2⟩ := askT (f := 22) (μ := μ1) (ρ := ρ) (e3 := .Constant (.bool false) 0 default) (p1 := default) (p2 := default) (p3 := default) rfl (e2 _ μ1 default default default default default 0) (ev_nm (by kernel_rfl) I.full) hC.w2 (fun μ' _ => ev_bool)
  exact ⟨μ2, ex_if_f (tr_bool (trs_or_f (by kernel_rfl) t1 (trs_or_f (by kernel_rfl) t2 trs_nil_or))) exs_nil, x1.trans x2⟩
theorem st27 (hF : RhoF D ρ) (hM : MuL D (D.u + D.v + 1) μ) : ex 30 1 cL ((bL 27).headD default) ρ μ = some (.next, upd "beyond" (vstr (rowS D (D.u + D.v + 1))) ρ, μ) :=
  ex_assign (by kernel_rfl) (ev_index rfl (ev_nm (by kernel_rfl) hF.rows) (ev_binop (ev_nm (by kernel_rfl) hF.near) (ev_nm (by kernel_rfl) hF.far) rfl) (row_at hM.rows (k := D.u + D.v) (by (first | lia | omega)) (by (first | lia | omega))))
theorem st28 (hD : D.Ok) (hC : Chk D) (hF : RhoF D ρ) (hb : ρ.lookup ("beyond" : Str) = some (vstr (rowS D (D.u + D.v + 1)))) : ∃ μ', ex 30 1 cL ((bL 28).headD default) ρ μ = some (.next, ρ, μ') ∧ Ext μ μ' := by
  have vm := hD.vm
  have m8 := hD.m8
  have c1 : ∀ (g : Nat) k p, ev (g + 1) cL ρ (.Constant (.str "a...") k p) μ = some (vstr (S [97, 46, 46, 46]), μ) := fun g k p => by
    have e : ("a..." : Str) = S [97, 46, 46, 46] := by kernel_rfl
    rw [← e]; exact ev_str (by decide)
  have c2 : ∀ (g : Nat) k p, ev (g + 1) cL ρ (.Constant (.str "a") k p) μ = some (vstr (S [97]), μ) := fun g k p => by
    have e : ("a" : Str) = S [97] := by kernel_rfl
    rw [← e]; exact ev_str (by decide)
  exact ask (f := 25) rfl (ev_binop (ev_binop (c1 _ _ _) (ev_call (by kernel_rfl) (callE_b (by kernel_rfl) (by kernel_rfl) (evs_cons (ev_binop ev_int (ev_nm (by kernel_rfl) hF.far) rfl) evs_nil) (chr_at (c := 97 + D.v) (by (first | lia | omega)) (by (first | lia | omega))))) (cat_S (by exact (short_lim (by first | (first | lia | omega) | (simp only [List.length_append, List.length_cons, List.length_nil, id]; (first | lia | omega))))))) (c2 _ _ _) (cat_S (by exact (short_lim (by first | (first | lia | omega) | (simp only [List.length_append, List.length_cons, List.length_nil, id]; (first | lia | omega)))))))
    (ev_nm (by kernel_rfl) hb) hC.b1 (fun μ' _ => ev_call (by kernel_rfl) (callE_L (by kernel_rfl) (by kernel_rfl) (evs_cons (ev_nm (by kernel_rfl) hF.short) (evs_cons (ev_nm (by kernel_rfl) hF.tall) evs_nil)) (by kernel_rfl) call_gt))
theorem st29 (hD : D.Ok) (hC : Chk D) (hF : RhoF D ρ) (hb : ρ.lookup ("beyond" : Str) = some (vstr (rowS D (D.u + D.v + 1)))) : ∃ μ', ex 30 1 cL ((bL 29).headD default) ρ μ = some (.next, ρ, μ') ∧ Ext μ μ' := by
  have um := hD.um
  have m8 := hD.m8
  have c1 : ∀ (g : Nat) k p, ev (g + 1) cL ρ (.Constant (.str "...a") k p) μ = some (vstr (S [46, 46, 46, 97]), μ) := fun g k p => by
    have e : ("...a" : Str) = S [46, 46, 46, 97] := by kernel_rfl
    rw [← e]; exact ev_str (by decide)
  have c2 : ∀ (g : Nat) k p, ev (g + 1) cL ρ (.Constant (.str "a") k p) μ = some (vstr (S [97]), μ) := fun g k p => by
    have e : ("a" : Str) = S [97] := by kernel_rfl
    rw [← e]; exact ev_str (by decide)
  exact ask (f := 25) rfl (ev_binop (ev_binop (c2 _ _ _) (ev_call (by kernel_rfl) (callE_b (by kernel_rfl) (by kernel_rfl) (evs_cons (ev_binop ev_int (ev_nm (by kernel_rfl) hF.near) rfl) evs_nil) (chr_at (c := 97 + D.u) (by (first | lia | omega)) (by (first | lia | omega))))) (cat_S (by exact (short_lim (by first | (first | lia | omega) | (simp only [List.length_append, List.length_cons, List.length_nil, id]; (first | lia | omega))))))) (c1 _ _ _) (cat_S (by exact (short_lim (by first | (first | lia | omega) | (simp only [List.length_append, List.length_cons, List.length_nil, id]; (first | lia | omega)))))))
    (ev_nm (by kernel_rfl) hb) hC.b2 (fun μ' _ => ev_call (by kernel_rfl) (callE_L (by kernel_rfl) (by kernel_rfl) (evs_cons (ev_nm (by kernel_rfl) hF.short) (evs_cons (ev_nm (by kernel_rfl) hF.tall) evs_nil)) (by kernel_rfl) call_lt))
end
end Mine
namespace Mine
open PySem PySem.StrLaws
section
variable {D : Data} {ρ : Loc} {μ : Mem} {f : Nat}
theorem fl_bounds (hD : D.Ok) : 3 ≤ (fl D).length ∧ (fl D).length ≤ 20 := by
  have := fl_len D
  have := hD.u0
  have := hD.v0
  have := hD.um
  have := hD.vm
  have := hD.m8
  (first | lia | omega)
theorem slice_mid {l : List Nat} {a b : Nat} (h1 : a ≤ b) (h2 : b ≤ l.length) (hl : l.length ≤ 1000) : slice (vstr (S l)) (some (a : Int)) (some (b : Int)) none μ = some (vstr (S ((l.drop a).take (b - a))), μ) := by
  show (if (none : Option Int) = none then newStr (Txt.slice (S l) (some (a : Int)) (some (b : Int))) μ else none) = _
  rw [if_pos rfl]
  have e : Txt.slice (S l) (some (a : Int)) (some (b : Int)) = S ((l.drop a).take (b - a)) := str_ext (slice_ss h1 h2)
  rw [e]
  exact newStr_ok (by rw [len_tl, tl_S, List.length_take, List.length_drop]; exact short_lim (by (first | lia | omega)))
theorem slice_last2 {l : List Nat} (h : 2 ≤ l.length) (hl : l.length ≤ 1000) : slice (vstr (S l)) (some (-2)) none none μ = some (vstr (S (l.drop (l.length - 2))), μ) := by
  have e : Txt.slice (S l) (some (-2)) none = Txt.slice (S l) (some ((l.length - 2 : Nat) : Int)) none := by
    unfold Txt.slice
    rw [sliceIdx_neg_lo none (S l).length (by decide) (by rw [len_tl, tl_S]; (first | lia | omega))]
    have : (-2 : Int) + ((S l).length : Nat) = ((l.length - 2 : Nat) : Int) := by rw [len_tl, tl_S]; (first | lia | omega)
    rw [this]
  have := slice_drop (μ := μ) (l := l) (k := l.length - 2) (by (first | lia | omega)) hl
  show (if (none : Option Int) = none then newStr (Txt.slice (S l) (some (-2)) none) μ else none) = _
  rw [e]
  exact this
theorem index_last2 {l : List Nat} (h : 2 ≤ l.length) : index (vstr (S l)) (vint (-2)) μ = some (vstr (S [l.getD (l.length - 2) 0])) := by
  show ((place? (-2) (S l).length).bind fun k => ((S l).cps[k]?).map fun c => vstr ⟨#[c]⟩) = _
  have : place? (-2) (S l).length = some (l.length - 2) := by
    unfold place?
    rw [len_tl, tl_S, if_neg (by (first | lia | omega)), if_pos (by (first | lia | omega))]
    congr 1; (first | lia | omega)
  rw [this]
  show ((S l).cps[l.length - 2]?).map _ = _
  rw [← Array.getElem?_toList]
  show (l[l.length - 2]?).map _ = _
  rw [List.getElem?_eq_getElem (by (first | lia | omega)), List.getD_eq_getElem?_getD, List.getElem?_eq_getElem (by (first | lia | omega))]; rfl
section
variable (hD : D.Ok) (hf : ρ.lookup ("full" : Str) = some (vstr (S (fl D))))
include hD hf
theorem ev_take2 {g : Nat} {p1 p2 p3 p4 : Pos} {k1} : ev (g + 2) cL ρ (.Subscript (.Name "full" p1) (.Slice none (some (.Constant (.int 2) k1 p2)) none p3) p4) μ = some (vstr (S ((fl D).take 2)), μ) := by
  obtain ⟨b1, b2⟩ := fl_bounds hD
  exact ev_slice (ev_nm (by kernel_rfl) hf) evo_none (evo_some ev_int) evo_none (slice_take (k := 2) (by (first | lia | omega)) (by (first | lia | omega)))
theorem ev_drop {g : Nat} {p1 p2 p3 p4 : Pos} {k1} {j : Nat} (hj : j ≤ 2) : ev (g + 2) cL ρ (.Subscript (.Name "full" p1) (.Slice (some (.Constant (.int (j : Int)) k1 p2)) none none p3) p4) μ = some (vstr (S ((fl D).drop j)), μ) := by
  obtain ⟨b1, b2⟩ := fl_bounds hD
  exact ev_slice (ev_nm (by kernel_rfl) hf) (evo_some ev_int) evo_none evo_none (slice_drop (k := j) (by (first | lia | omega)) (by (first | lia | omega)))
theorem st30 (hC : Chk D) : ∃ μ', ex 30 1 cL ((bL 30).headD default) ρ μ = some (.next, ρ, μ') ∧ Ext μ μ' := by
  obtain ⟨b1, b2⟩ := fl_bounds hD
  have l1 : ((fl D).take 2).length ≤ 2 := by rw [List.length_take]; (first | lia | omega)
  have l2 : ((fl D).drop 2).length ≤ 20 := by rw [List.length_drop]; (first | lia | omega)
  exact ask (f := 25) rfl (ev_binop (ev_binop (ev_take2 hD hf) ev_dots (cat_S (by show _ + 3 ≤ lim; exact short_lim (by (first | lia | omega))))) (ev_drop hD hf (j := 2) (by decide)) (cat_S (by rw [List.length_append]; show _ + 3 + _ ≤ lim; exact short_lim (by (first | lia | omega))))) (ev_nm (by kernel_rfl) hf) hC.f1 (fun μ' _ => ev_bool)
theorem st31 (hC : Chk D) : ∃ μ', ex 30 1 cL ((bL 31).headD default) ρ μ = some (.next, ρ, μ') ∧ Ext μ μ' := by
  obtain ⟨b1, b2⟩ := fl_bounds hD
  have l1 : ((fl D).take 2).length ≤ 2 := by rw [List.length_take]; (first | lia | omega)
  have l2 : ((fl D).drop 1).length ≤ 20 := by rw [List.length_drop]; (first | lia | omega)
  exact ask (f := 25) rfl (ev_binop (ev_binop (ev_take2 hD hf) ev_dots (cat_S (by show _ + 3 ≤ lim; exact short_lim (by (first | lia | omega))))) (ev_drop hD hf (j := 1) (by decide)) (cat_S (by rw [List.length_append]; show _ + 3 + _ ≤ lim; exact short_lim (by (first | lia | omega))))) (ev_nm (by kernel_rfl) hf) hC.f2 (fun μ' _ => ev_bool)
theorem st32 (hC : Chk D) : ∃ μ', ex 30 1 cL ((bL 32).headD default) ρ μ = some (.next, ρ, μ') ∧ Ext μ μ' := by
  obtain ⟨b1, b2⟩ := fl_bounds hD
  have l1 : ((fl D).take 2).length ≤ 2 := by rw [List.length_take]; (first | lia | omega)
  have l2 : (((fl D).drop 1).take 2).length ≤ 2 := by rw [List.length_take]; (first | lia | omega)
  have em : ∀ (g : Nat) (p1 p2 p3 p4 p5 : Pos) k1 k2, ev (g + 2) cL ρ (.Subscript (.Name "full" p1) (.Slice (some (.Constant (.int 1) k1 p2)) (some (.Constant (.int 3) k2 p3)) none p4) p5) μ = some (vstr (S (((fl D).drop 1).take 2)), μ) := fun g p1 p2 p3 p4 p5 k1 k2 =>
    ev_slice (ev_nm (by kernel_rfl) hf) (evo_some ev_int) (evo_some ev_int) evo_none (slice_mid (a := 1) (b := 3) (by decide) b1 (by (first | lia | omega)))
  have d3 : dots.length = 3 := rfl
  exact ask (f := 25) rfl (ev_binop (ev_binop (ev_binop (ev_binop ev_dots (ev_take2 hD hf) (cat_S (by exact short_lim (by (first | lia | omega))))) ev_dots (cat_S (by rw [List.length_append]; exact short_lim (by (first | lia | omega))))) (em _ _ _ _ _ _ _ _) (cat_S (by rw [List.length_append, List.length_append]; exact short_lim (by (first | lia | omega))))) ev_dots (cat_S (by rw [List.length_append, List.length_append, List.length_append]; exact short_lim (by (first | lia | omega))))) (ev_nm (by kernel_rfl) hf) hC.f3 (fun μ' _ => ev_bool)
theorem st33 (hC : Chk D) : ∃ μ', ex 30 1 cL ((bL 33).headD default) ρ μ = some (.next, ρ, μ') ∧ Ext μ μ' := by
  obtain ⟨b1, b2⟩ := fl_bounds hD
  have hl := fl_len D
  have e2 : (fl D).length - 2 = D.u + D.v - 1 := by (first | lia | omega)
  have l2 : ((fl D).drop (D.u + D.v - 1)).length ≤ 20 := by rw [List.length_drop]; (first | lia | omega)
  have d3 : dots.length = 3 := rfl
  have i1 := index_last2 (μ := μ) (l := fl D) (by (first | lia | omega))
  have s1 := slice_last2 (μ := μ) (l := fl D) (by (first | lia | omega)) (by (first | lia | omega))
  rw [e2] at i1 s1
  exact ask (f := 25) rfl (ev_binop (ev_binop (ev_binop ev_dots (ev_index rfl (ev_nm (by kernel_rfl) hf) (ev_neg ev_int) i1) (cat_S (by exact short_lim (by simp only [List.length_cons, List.length_nil]; (first | lia | omega))))) ev_dots (cat_S (by rw [List.length_append]; exact short_lim (by simp only [List.length_cons, List.length_nil]; (first | lia | omega)))))
    (ev_slice (ev_nm (by kernel_rfl) hf) (evo_some (ev_neg ev_int)) evo_none evo_none s1) (cat_S (by rw [List.length_append, List.length_append]; exact short_lim (by simp only [List.length_cons, List.length_nil]; (first | lia | omega))))) (ev_nm (by kernel_rfl) hf) hC.f4 (fun μ' _ => ev_bool)
end
theorem turn34 (hD : D.Ok) (hC : Chk D) {k : Nat} (hk1 : k + 1 < D.u + D.v) (I : InvT D ρ) (hM : MuL D (D.u + D.v + 1) μ) : ∃ ρ' μ', exsG (ex 29 1 cL) (forBody 25 34) (upd "k" (vraw (0 + (k : Int))) ρ) μ = some (.next, ρ', μ') ∧ InvT D ρ' ∧ Ext μ μ' := by
  have um := hD.um
  have vm := hD.vm
  have m8 := hD.m8
  have I1 : InvT D (upd "k" (vraw (0 + (k : Int))) ρ) := I.upd (by decide) (by decide) (by decide)
  have hk : (upd "k" (vraw (0 + (k : Int))) ρ).lookup ("k" : Str) = some (vraw (0 + (k : Int))) := upd_same
  generalize upd "k" (vraw (0 + (k : Int))) ρ = ρ1 at I1 hk
  have d3 : dots.length = 3 := rfl
  have s1 : ex 29 1 cL ((forBody 25 34).headD default) ρ1 μ = some (.next, upd "pair" (vstr (S ((((dots ++ [97 + k]) ++ dots) ++ [98 + k]) ++ dots))) ρ1, μ) :=
    ex_assign (by kernel_rfl) (ev_binop (ev_binop (ev_binop (ev_binop ev_dots (ev_call (by kernel_rfl) (callE_b (by kernel_rfl) (by kernel_rfl) (evs_cons (ev_binop ev_int (ev_nm (by kernel_rfl) hk) rfl) evs_nil) (chr_at (c := 97 + k) (by (first | lia | omega)) (by (first | lia | omega))))) (cat_S (by exact short_lim (by simp only [List.length_cons, List.length_nil]; (first | lia | omega))))) ev_dots (cat_S (by rw [List.length_append]; exact short_lim (by simp only [List.length_cons, List.length_nil]; (first | lia | omega)))))
      (ev_call (by kernel_rfl) (callE_b (by kernel_rfl) (by kernel_rfl) (evs_cons (ev_binop ev_int (ev_nm (by kernel_rfl) hk) rfl) evs_nil) (chr_at (c := 98 + k) (by (first | lia | omega)) (by (first | lia | omega))))) (cat_S (by rw [List.length_append, List.length_append]; exact short_lim (by simp only [List.length_cons, List.length_nil]; (first | lia | omega))))) ev_dots (cat_S (by rw [List.length_append, List.length_append, List.length_append]; exact short_lim (by simp only [List.length_cons, List.length_nil]; (first | lia | omega)))))
  have hk2 := upd_ne (x := "pair") (v := vstr (S ((((dots ++ [97 + k]) ++ dots) ++ [98 + k]) ++ dots))) (by decide) hk
  have I2 : InvT D (upd "pair" (vstr (S ((((dots ++ [97 + k]) ++ dots) ++ [98 + k]) ++ dots))) ρ1) := I1.upd (by decide) (by decide) (by decide)
  have hp : (upd "pair" (vstr (S ((((dots ++ [97 + k]) ++ dots) ++ [98 + k]) ++ dots))) ρ1).lookup ("pair" : Str) = some (vstr (S ((((dots ++ [97 + k]) ++ dots) ++ [98 + k]) ++ dots))) := upd_same
  generalize upd "pair" (vstr (S ((((dots ++ [97 + k]) ++ dots) ++ [98 + k]) ++ dots))) ρ1 = ρ2 at s1 hk2 I2 hp
  have i1 : ∀ μ', Ext μ μ' → index (.lst 11) (vraw (0 + (k : Int))) μ' = some (vint (pt D.S D.d k)) := fun μ' x => by
    rw [Int.zero_add]
    exact place_at (hM.ext x).ports (by (first | lia | omega))
  have i2 : ∀ μ', Ext μ μ' → index (.lst 11) (vint (0 + (k : Int) + 1)) μ' = some (vint (pt D.S D.d (k + 1))) := fun μ' x => by
    have : (0 + (k : Int) + 1) = ((k + 1 : Nat) : Int) := by (first | lia | omega)
    rw [this]
    exact place_at (hM.ext x).ports (by (first | lia | omega))
  obtain ⟨μ', s2, x2⟩ : ∃ μ', ex 29 1 cL (((forBody 25 34).drop 1).headD default) ρ2 μ = some (.next, ρ2, μ') ∧ Ext μ μ' :=
    ask (f := 24) rfl (ev_nm (by kernel_rfl) hp) (ev_nm (by kernel_rfl) I2.full) (hC.pairs k hk1) (fun μ' x => ev_call (by kernel_rfl) (callE_L (by kernel_rfl) (by kernel_rfl) (evs_cons (ev_index rfl (ev_nm (by kernel_rfl) I2.rho.ports) (ev_nm (by kernel_rfl) hk2) (i1 μ' x)) (evs_cons (ev_index rfl (ev_nm (by kernel_rfl) I2.rho.ports) (ev_binop (ev_nm (by kernel_rfl) hk2) ev_int rfl) (i2 μ' x)) evs_nil)) (by kernel_rfl) call_lt))
  exact ⟨ρ2, μ', exs_next rfl s1 (exs_next rfl s2 exs_nil), I2, x2⟩
theorem loop34 (hD : D.Ok) (hC : Chk D) {tgt : Expr} (htgt : ∀ v, bindT tgt v = some [(("k" : Str), v)]) : ∀ (n i : Nat) (ρ : Loc) (μ : Mem), i + n + 1 = D.u + D.v → InvT D ρ → MuL D (D.u + D.v + 1) μ →
    ∃ ρ' μ', forGo (exsG (ex 29 1 cL) (forBody 25 34)) tgt none ((List.range' i n).map fun (j : Nat) => vraw (0 + (j : Int))) ρ μ = some (.next, ρ', μ')
  | 0, i, ρ, μ, _, I, hM => ⟨ρ, μ, for_nil rfl⟩
  | n + 1, i, ρ, μ, hn, I, hM => by
    obtain ⟨ρ1, μ1, s1, I1, x1⟩ := turn34 hD hC (k := i) (by (first | lia | omega)) I hM
    obtain ⟨ρ2, μ2, s2⟩ := loop34 hD hC htgt n (i + 1) ρ1 μ1 (by (first | lia | omega)) I1 (hM.ext x1)
    refine ⟨ρ2, μ2, ?_⟩
    rw [List.range'_succ, List.map_cons]
    exact for_next (bs := [("k", vraw (0 + (i : Int)))]) rfl (htgt _) s1 s2
theorem st34 (hD : D.Ok) (hC : Chk D) (I : InvT D ρ) (hM : MuL D (D.u + D.v + 1) μ) : ∃ ρ' μ', ex 30 1 cL ((bL 34).headD default) ρ μ = some (.next, ρ', μ') := by
  have u0 := hD.u0
  have v0 := hD.v0
  have um := hD.um
  have vm := hD.vm
  have m8 := hD.m8
  obtain ⟨ρ', μ', s⟩ := loop34 hD hC (tgt := forTgt 25 34) (fun v => rfl) (D.u + D.v - 1) 0 ρ μ (by (first | lia | omega)) I hM
  refine ⟨ρ', μ', ex_for (by kernel_rfl) (src_range (by kernel_rfl) (evs_cons (ev_binop (ev_binop (ev_nm (by kernel_rfl) I.rho.near) (ev_nm (by kernel_rfl) I.rho.far) rfl) ev_int rfl) evs_nil) ?_) s exs_nil⟩
  show (if ((D.u : Int) + D.v - 1).natAbs ≤ lim then some (rangeV 0 ((D.u : Int) + D.v - 1)) else none) = _
  rw [if_pos (by show _ ≤ 1048576; (first | lia | omega))]
  unfold rangeV
  rw [show ((D.u : Int) + D.v - 1 - 0).toNat = D.u + D.v - 1 by (first | lia | omega), List.range_eq_range']
theorem tail_ok (hD : D.Ok) (hC : Chk D) (I : Inv3 D (wordF D) ρ) (hf : ρ.lookup ("full" : Str) = some (vstr (rowS D (D.u + D.v)))) (hM : MuL D (D.u + D.v + 1) μ) : ∃ ρ' μ', exsG (ex 30 1 cL) (bL 23) ρ μ = some (.ret (vbool true), ρ', μ') := by
  have hf' : ρ.lookup ("full" : Str) = some (vstr (S (fl D))) := hf
  have s23 := st23 (μ := μ) hD I.rho hf'
  have hF1 := I.rho.upd (x := "on") (v := .lst μ.length) (by decide)
  have hw1 := upd_ne (x := "on") (v := .lst μ.length) (by decide) I.want
  have hd1 := upd_ne (x := "on") (v := .lst μ.length) (by decide) I.word
  have hf1 := upd_ne (x := "on") (v := .lst μ.length) (by decide) hf'
  have ho1 : (upd "on" (.lst μ.length) ρ).lookup ("on" : Str) = some (.lst μ.length) := upd_same
  have hB := get_last (μ := μ) (l := onV D)
  have hM1 := hM.ext (Ext.one μ (onV D))
  generalize upd "on" (.lst μ.length) ρ = ρ1 at s23 hF1 hw1 hd1 hf1 ho1
  generalize μ.length = B at s23 ho1 hB
  generalize μ ++ [onV D] = μ1 at s23 hB hM1
  obtain ⟨μ2, s24, x24⟩ := st24 hD hF1 ho1 hB hd1 hC.word
  have IT : InvT D ρ1 := ⟨hF1, hw1, hf1⟩
  obtain ⟨ρ2, μ3, s25, I2, hM3⟩ := st25 hD hC IT (hM1.ext x24)
  obtain ⟨μ4, s26, x26⟩ := st26 (μ := μ3) hD hC I2
  have hM4 := hM3.ext x26
  have s27 := st27 I2.rho hM4
  have I3 := I2.upd (x := "beyond") (v := vstr (rowS D (D.u + D.v + 1))) (by decide) (by decide) (by decide)
  have hb3 : (upd "beyond" (vstr (rowS D (D.u + D.v + 1))) ρ2).lookup ("beyond" : Str) = some (vstr (rowS D (D.u + D.v + 1))) := upd_same
  generalize upd "beyond" (vstr (rowS D (D.u + D.v + 1))) ρ2 = ρ3 at s27 I3 hb3
  obtain ⟨μ5, s28, x28⟩ := st28 (μ := μ4) hD hC I3.rho hb3
  obtain ⟨μ6, s29, x29⟩ := st29 (μ := μ5) hD hC I3.rho hb3
  obtain ⟨μ7, s30, x30⟩ := st30 (μ := μ6) hD I3.full hC
  obtain ⟨μ8, s31, x31⟩ := st31 (μ := μ7) hD I3.full hC
  obtain ⟨μ9, s32, x32⟩ := st32 (μ := μ8) hD I3.full hC
  obtain ⟨μ10, s33, x33⟩ := st33 (μ := μ9) hD I3.full hC
  have hM10 := (((((hM4.ext x28).ext x29).ext x30).ext x31).ext x32).ext x33
  obtain ⟨ρ4, μ11, s34⟩ := st34 hD hC I3 hM10
  have s35 : ex 30 1 cL ((bL 35).headD default) ρ4 μ11 = some (.ret (vbool true), ρ4, μ11) := ex_return ev_bool
  exact ⟨ρ4, μ11, exs_next (bL_cons 23 (by decide)) s23 (exs_next (bL_cons 24 (by decide)) s24 (exs_next (bL_cons 25 (by decide)) s25 (exs_next (bL_cons 26 (by decide)) s26 (exs_next (bL_cons 27 (by decide)) s27 (exs_next (bL_cons 28 (by decide)) s28 (exs_next (bL_cons 29 (by decide)) s29 (exs_next (bL_cons 30 (by decide)) s30
    (exs_next (bL_cons 31 (by decide)) s31 (exs_next (bL_cons 32 (by decide)) s32 (exs_next (bL_cons 33 (by decide)) s33 (exs_next (bL_cons 34 (by decide)) s34 (exs_ret (bL_cons 35 (by decide)) s35))))))))))))⟩
theorem law_true (chk : ∀ D : Data, D.Ok → Chk D) {ns : List Int} (hn : ns.length ≤ 63) : ∃ μ', runLaw ns = some (vbool true, μ') := by
  obtain ⟨D, μ, hD, hM, k0⟩ := head_ok hn
  obtain ⟨ρ1, μ1, s13, I1⟩ := st13 hD hM
  obtain ⟨ρ2, μ2, B, I2, k2⟩ := head2 hD I1
  obtain ⟨ρ3, I3, hf3, k3⟩ := head3 hD I2
  obtain ⟨ρ4, μ4, h4⟩ := tail_ok hD (chk D hD) I3 hf3 I2.mem
  exact ⟨μ4, run_ret (d := defAt 25) (n := 30) (c := lawCfg) (μ := mu0 ns []) rfl (k0 _ (exs_next (bL_cons 13 (by decide)) s13 (k2 _ (k3 _ h4))))⟩
end
end Mine
namespace Mine
open PySem PySem.StrLaws
/-! the closed questions -/
noncomputable def rg (n u v : Nat) : List Nat := walk n u v n 0
noncomputable def rb (u v : Nat) : Nat → List Nat
  | 0 => rg (u + v) u v ++ [u + v]
  | 1 => (u + v) :: rg (u + v) u v
  | _ => (rg (u + v) u v).take 1 ++ (u + v) :: (rg (u + v) u v).drop 1
noncomputable def word97 (l : List Nat) : List Nat := l.map (97 + ·) ++ [97]
noncomputable def wantP (m u v : Nat) : List Nat := ((rg m u v).flatMap fun i => (97 + i) :: (if kindS m u v i == "st" then [46, 46, 46] else [])) ++ [97]
noncomputable def flP (u v : Nat) : List Nat := word97 (rg (u + v) u v)
noncomputable def wayP (u v : Nat) : List Str := ((List.range (u + v)).map fun k => onI (flP u v) k).map (onS u v)
noncomputable def wordP (m u v : Nat) : List Nat := ((rg m u v).map (kindS m u v)).flatMap tl
noncomputable def chkA (m u v : Nat) : Bool :=
  (tl (Txt.join "" (wayP u v)) == wordP m u v) &&
  ((List.range (u + v - (m - 1))).all fun j => ellipO (S (wantP m u v)) (S (word97 (rg (m - 1 + j + 1) u v))) == some (decide (m - 1 + j < u + v))) &&
  (ellipO (S ((wantP m u v).drop 1)) (S (flP u v)) == some false) &&
  (ellipO (S ((wantP m u v).take ((wantP m u v).length - 1))) (S (flP u v)) == some false)
noncomputable def chkB (u v : Nat) : Bool :=
  (ellipO (S (((flP u v).take 2 ++ dots) ++ (flP u v).drop 2)) (S (flP u v)) == some true) &&
  (ellipO (S (((flP u v).take 2 ++ dots) ++ (flP u v).drop 1)) (S (flP u v)) == some false) &&
  (ellipO (S ((((dots ++ (flP u v).take 2) ++ dots) ++ ((flP u v).drop 1).take 2) ++ dots)) (S (flP u v)) == some false) &&
  (ellipO (S (((dots ++ [(flP u v).getD (u + v - 1) 0]) ++ dots) ++ (flP u v).drop (u + v - 1))) (S (flP u v)) == some false) &&
  ((List.range (u + v - 1)).all fun k => ellipO (S ((((dots ++ [97 + k]) ++ dots) ++ [98 + k]) ++ dots)) (S (flP u v)) == some (decide ((rg (u + v) u v).idxOf k < (rg (u + v) u v).idxOf (k + 1))))
noncomputable def chkC (m u v g : Nat) : Bool :=
  (ellipO (S (wantP m u v)) (S (word97 (rb u v g))) == some false)
noncomputable def chkD (u v g : Nat) : Bool :=
  (ellipO (S (([97, 46, 46, 46] ++ [97 + v]) ++ [97])) (S (word97 (rb u v g))) == some (decide (g = 2))) &&
  (ellipO (S (([97] ++ [97 + u]) ++ [46, 46, 46, 97])) (S (word97 (rb u v g))) == some (decide (g = 0)))
noncomputable def good (m u v : Nat) : Bool := decide (0 < u) && decide (u < m) && decide (0 < v) && decide (v < m) && decide (m ≤ u + v) && ((rg (u + v) u v).length == u + v)
noncomputable def chkU (m u v : Nat) : Bool := !good m u v || (chkA m u v && (List.range 3).all fun g => chkC m u v g)
noncomputable def chkR (m u : Nat) : Bool := (List.range m).all fun v => chkU m u v
noncomputable def pair (u v : Nat) : Bool := decide (0 < u) && decide (0 < v) && ((rg (u + v) u v).length == u + v)
noncomputable def chkV (u v : Nat) : Bool := !pair u v || (chkB u v && (List.range 3).all fun g => chkD u v g)
noncomputable def chkP (u : Nat) : Bool := (List.range 8).all fun v => chkV u v
theorem all_cons {p : Nat → Bool} {a : Nat} {l : List Nat} (h : p a = true) (k : l.all p = true) : (a :: l).all p = true := by rw [List.all_cons, h, k]; rfl
theorem r20 : chkR 2 0 = true := by kernel_rfl
theorem r21 : chkR 2 1 = true := by kernel_rfl
theorem chk2 : (List.range 2).all (chkR 2) = true := all_cons r20 (all_cons r21 rfl)
theorem r30 : chkR 3 0 = true := by kernel_rfl
theorem r31 : chkR 3 1 = true := by kernel_rfl
theorem r32 : chkR 3 2 = true := by kernel_rfl
theorem chk3 : (List.range 3).all (chkR 3) = true := all_cons r30 (all_cons r31 (all_cons r32 rfl))
theorem r40 : chkR 4 0 = true := by kernel_rfl
theorem r41 : chkR 4 1 = true := by kernel_rfl
theorem r42 : chkR 4 2 = true := by kernel_rfl
theorem r43 : chkR 4 3 = true := by kernel_rfl
theorem chk4 : (List.range 4).all (chkR 4) = true := all_cons r40 (all_cons r41 (all_cons r42 (all_cons r43 rfl)))
theorem r50 : chkR 5 0 = true := by kernel_rfl
theorem r51 : chkR 5 1 = true := by kernel_rfl
theorem r52 : chkR 5 2 = true := by kernel_rfl
theorem r53 : chkR 5 3 = true := by kernel_rfl
theorem r54 : chkR 5 4 = true := by kernel_rfl
theorem chk5 : (List.range 5).all (chkR 5) = true := all_cons r50 (all_cons r51 (all_cons r52 (all_cons r53 (all_cons r54 rfl))))
theorem r60 : chkR 6 0 = true := by kernel_rfl
theorem r61 : chkR 6 1 = true := by kernel_rfl
theorem r62 : chkR 6 2 = true := by kernel_rfl
theorem r63 : chkR 6 3 = true := by kernel_rfl
theorem r64 : chkR 6 4 = true := by kernel_rfl
theorem r65 : chkR 6 5 = true := by kernel_rfl
theorem chk6 : (List.range 6).all (chkR 6) = true := all_cons r60 (all_cons r61 (all_cons r62 (all_cons r63 (all_cons r64 (all_cons r65 rfl)))))
theorem r70 : chkR 7 0 = true := by kernel_rfl
theorem r71 : chkR 7 1 = true := by kernel_rfl
theorem r72 : chkR 7 2 = true := by kernel_rfl
theorem r73 : chkR 7 3 = true := by kernel_rfl
theorem r74 : chkR 7 4 = true := by kernel_rfl
theorem r75 : chkR 7 5 = true := by kernel_rfl
theorem r76 : chkR 7 6 = true := by kernel_rfl
theorem chk7 : (List.range 7).all (chkR 7) = true := all_cons r70 (all_cons r71 (all_cons r72 (all_cons r73 (all_cons r74 (all_cons r75 (all_cons r76 rfl))))))
theorem r80 : chkR 8 0 = true := by kernel_rfl
theorem r81 : chkR 8 1 = true := by kernel_rfl
theorem r82 : chkR 8 2 = true := by kernel_rfl
theorem r83 : chkR 8 3 = true := by kernel_rfl
theorem r84 : chkR 8 4 = true := by kernel_rfl
theorem r85 : chkR 8 5 = true := by kernel_rfl
theorem r86 : chkR 8 6 = true := by kernel_rfl
theorem r87 : chkR 8 7 = true := by kernel_rfl
theorem chk8 : (List.range 8).all (chkR 8) = true := all_cons r80 (all_cons r81 (all_cons r82 (all_cons r83 (all_cons r84 (all_cons r85 (all_cons r86 (all_cons r87 rfl)))))))
theorem r90 : chkP 0 = true := by kernel_rfl
theorem r91 : chkP 1 = true := by kernel_rfl
theorem r92 : chkP 2 = true := by kernel_rfl
theorem r93 : chkP 3 = true := by kernel_rfl
theorem r94 : chkP 4 = true := by kernel_rfl
theorem r95 : chkP 5 = true := by kernel_rfl
theorem r96 : chkP 6 = true := by kernel_rfl
theorem r97 : chkP 7 = true := by kernel_rfl
theorem chkPs : (List.range 8).all chkP = true := all_cons r90 (all_cons r91 (all_cons r92 (all_cons r93 (all_cons r94 (all_cons r95 (all_cons r96 (all_cons r97 rfl)))))))
end Mine
namespace Mine
open PySem PySem.StrLaws
theorem all_range {n k : Nat} {p : Nat → Bool} (h : (List.range n).all p = true) (hk : k < n) : p k = true := List.all_eq_true.mp h k (List.mem_range.mpr hk)
theorem chkM_at {m u v : Nat} (h : (List.range m).all (chkR m) = true) (hu : u < m) (hv : v < m) (hg : good m u v = true) : chkA m u v = true ∧ ∀ g, g < 3 → chkC m u v g = true := by
  have h1 : chkU m u v = true := all_range (p := fun v => chkU m u v) (all_range h hu) hv
  unfold chkU at h1
  rw [hg] at h1
  obtain ⟨h2, h3⟩ := Bool.and_eq_true_iff.mp (show (chkA m u v && ((List.range 3).all fun g => chkC m u v g)) = true from h1)
  exact ⟨h2, fun g hg => all_range h3 hg⟩
theorem chkP_at {u v : Nat} (hu : u < 8) (hv : v < 8) (hg : pair u v = true) : chkB u v = true ∧ ∀ g, g < 3 → chkD u v g = true := by
  have h1 : chkV u v = true := all_range (p := fun v => chkV u v) (all_range chkPs hu) hv
  unfold chkV at h1
  rw [hg] at h1
  obtain ⟨h2, h3⟩ := Bool.and_eq_true_iff.mp (show (chkB u v && ((List.range 3).all fun g => chkD u v g)) = true from h1)
  exact ⟨h2, fun g hg => all_range h3 hg⟩
theorem chkM_all {m : Nat} (h2 : 2 ≤ m) (h8 : m ≤ 8) : (List.range m).all (chkR m) = true := by
  rcases (by (first | lia | omega) : m = 2 ∨ m = 3 ∨ m = 4 ∨ m = 5 ∨ m = 6 ∨ m = 7 ∨ m = 8) with rfl | rfl | rfl | rfl | rfl | rfl | rfl
  · exact chk2
  · exact chk3
  · exact chk4
  · exact chk5
  · exact chk6
  · exact chk7
  · exact chk8
theorem idx_lt {f : Nat → Int} : ∀ {l : List Nat}, l.Pairwise (fun a b => f a < f b) → ∀ {a b : Nat}, a ∈ l → b ∈ l → (l.idxOf a < l.idxOf b ↔ f a < f b)
  | [], _, _, _, h, _ => by cases h
  | x :: l, hp, a, b, ha, hb => by
    obtain ⟨p1, p2⟩ := List.pairwise_cons.mp hp
    rw [List.idxOf_cons, List.idxOf_cons]
    by_cases hxa : x = a
    · subst hxa
      by_cases hxb : x = b
      · subst hxb; simp
      · have hb' : b ∈ l := by
          rcases List.mem_cons.mp hb with q | q
          · exact absurd q.symm hxb
          · exact q
        rw [beq_self_eq_true, beq_eq_false_iff_ne.mpr hxb, cond_true, cond_false]
        exact ⟨fun _ => p1 b hb', fun _ => Nat.succ_pos _⟩
    · have ha' : a ∈ l := by
        rcases List.mem_cons.mp ha with q | q
        · exact absurd q.symm hxa
        · exact q
      by_cases hxb : x = b
      · subst hxb
        rw [beq_self_eq_true, beq_eq_false_iff_ne.mpr hxa, cond_true, cond_false]
        have := p1 a ha'
        exact ⟨fun h => absurd h (Nat.not_lt_zero _), fun h => by (first | lia | omega)⟩
      · have hb' : b ∈ l := by
          rcases List.mem_cons.mp hb with q | q
          · exact absurd q.symm hxb
          · exact q
        rw [beq_eq_false_iff_ne.mpr hxa, beq_eq_false_iff_ne.mpr hxb, cond_false, cond_false]
        have ih := idx_lt p2 ha' hb'
        (first | lia | omega)
section
variable {D : Data}
noncomputable def sgn (D : Data) : Nat := if D.s < D.t then 0 else if D.s = D.t then 1 else 2
theorem ring_at (hD : D.Ok) {n : Nat} (h1 : D.m ≤ n) (h2 : n ≤ D.u + D.v) : ring (pt D.S D.d) n = rg n D.u D.v := by
  have hu : D.u < n := by have := hD.um; (first | lia | omega)
  have hv : D.v < n := by have := hD.vm; (first | lia | omega)
  have hN := hD.gaps.upto hD.um hD.vm hD.near n h2
  exact ring_walk hD.gaps hu hv h2 hN (home_ok hD.gaps hu hv h2 hN)
theorem row_rg (hD : D.Ok) {n : Nat} (h1 : D.m ≤ n) (h2 : n ≤ D.u + D.v) : rowS D n = S (word97 (rg n D.u D.v)) := by
  unfold rowS ringL
  rw [ring_at hD h1 h2]; rfl
theorem fl_eq (hD : D.Ok) : fl D = flP D.u D.v := by
  unfold fl ringL
  rw [ring_at hD hD.mle (Nat.le_refl _)]; rfl
theorem want_eq (D : Data) : wantF D = wantP D.m D.u D.v := rfl
theorem word_eq (D : Data) : wordF D = wordP D.m D.u D.v := rfl
theorem way_eq (hD : D.Ok) : wayS D = wayP D.u D.v := by
  unfold wayS ways
  rw [fl_eq hD]; rfl
theorem row_rb (hD : D.Ok) : rowS D (D.u + D.v + 1) = S (word97 (rb D.u D.v (sgn D))) := by
  obtain ⟨r1, r2, r3⟩ := ring_beyond hD.gaps hD.nearF
  have e := ring_at hD hD.mle (Nat.le_refl _)
  rw [e] at r1 r2 r3
  unfold rowS ringL sgn
  by_cases h1 : D.s < D.t
  · rw [if_pos h1, r2 h1]; rfl
  · rw [if_neg h1]
    by_cases h2 : D.s = D.t
    · rw [if_pos h2, r3 h2]; rfl
    · rw [if_neg h2, r1 (by (first | lia | omega))]; rfl
theorem sgn_lt (D : Data) : sgn D < 3 := by
  unfold sgn
  split
  · (first | lia | omega)
  · split <;> (first | lia | omega)
theorem sgn2 (D : Data) : decide (sgn D = 2) = decide (D.t < D.s) := by
  refine decide_eq_decide.mpr ?_
  unfold sgn
  split
  · (first | lia | omega)
  · split <;> (first | lia | omega)
theorem sgn0 (D : Data) : decide (sgn D = 0) = decide (D.s < D.t) := by
  refine decide_eq_decide.mpr ?_
  unfold sgn
  split
  · (first | lia | omega)
  · split <;> (first | lia | omega)
theorem good_ok (hD : D.Ok) : good D.m D.u D.v = true := by
  unfold good
  have e : (rg (D.u + D.v) D.u D.v).length = D.u + D.v := by rw [← ring_at hD hD.mle (Nat.le_refl _), ring_length]
  rw [e]
  simp [hD.u0, hD.um, hD.v0, hD.vm, hD.mle]
theorem pair_ok (hD : D.Ok) : pair D.u D.v = true := by
  unfold pair
  have e : (rg (D.u + D.v) D.u D.v).length = D.u + D.v := by rw [← ring_at hD hD.mle (Nat.le_refl _), ring_length]
  rw [e]
  simp [hD.u0, hD.v0]
theorem eq_some {a b : Option Bool} (h : (a == b) = true) : a = b := eq_of_beq h
theorem chk_all (D : Data) (hD : D.Ok) : Chk D := by
  obtain ⟨cA, cC⟩ := chkM_at (chkM_all hD.m2 hD.m8) hD.um hD.vm (good_ok hD)
  obtain ⟨cB, cD⟩ := chkP_at (Nat.lt_of_lt_of_le hD.um hD.m8) (Nat.lt_of_lt_of_le hD.vm hD.m8) (pair_ok hD)
  replace cC := cC (sgn D) (sgn_lt D)
  replace cD := cD (sgn D) (sgn_lt D)
  have um := hD.um
  have m2 := hD.m2
  have hF := fl_eq hD
  have hB := row_rb hD
  have hW := want_eq D
  unfold chkA at cA
  obtain ⟨cA, a4⟩ := Bool.and_eq_true_iff.mp cA
  obtain ⟨cA, a3⟩ := Bool.and_eq_true_iff.mp cA
  obtain ⟨a1, a2⟩ := Bool.and_eq_true_iff.mp cA
  unfold chkB at cB
  obtain ⟨cB, b5⟩ := Bool.and_eq_true_iff.mp cB
  obtain ⟨cB, b4⟩ := Bool.and_eq_true_iff.mp cB
  obtain ⟨cB, b3⟩ := Bool.and_eq_true_iff.mp cB
  obtain ⟨b1, b2⟩ := Bool.and_eq_true_iff.mp cB
  unfold chkC at cC
  unfold chkD at cD
  obtain ⟨d1, d2⟩ := Bool.and_eq_true_iff.mp cD
  refine ⟨?_, ?_, ?_, ?_, ?_, ?_, ?_, ?_, ?_, ?_, ?_⟩
  · rw [way_eq hD, word_eq D]
    exact str_ext (eq_of_beq a1)
  · intro k h1 h2
    rw [hW]
    by_cases h : k < D.u + D.v
    · rw [row_rg hD (by (first | lia | omega)) (by (first | lia | omega))]
      have := eq_some (all_range (k := k - (D.m - 1)) a2 (by (first | lia | omega)))
      rw [show D.m - 1 + (k - (D.m - 1)) = k by (first | lia | omega)] at this
      rw [this]
      congr 1
      exact decide_eq_decide.mpr (by (first | lia | omega))
    · have : k = D.u + D.v := by (first | lia | omega)
      subst this
      rw [hB, eq_some cC]
      congr 1
      exact (decide_eq_false (by (first | lia | omega))).symm
  · rw [hF, hW]; exact eq_some a3
  · rw [hF, hW]; exact eq_some a4
  · rw [hB, ← sgn2 D]; exact eq_some d1
  · rw [hB, ← sgn0 D]; exact eq_some d2
  · rw [hF]; exact eq_some b1
  · rw [hF]; exact eq_some b2
  · rw [hF]; exact eq_some b3
  · rw [hF]; exact eq_some b4
  · intro k hk
    rw [hF, eq_some (all_range (k := k) b5 (by (first | lia | omega)))]
    congr 1
    refine decide_eq_decide.mpr ?_
    have e := ring_at hD hD.mle (Nat.le_refl _)
    rw [← e]
    exact idx_lt (ring_sorted _ fun i j hi hj => near_inj hD.gaps.S0 hD.gaps.s0 hD.gaps.t0 hD.nearF hi hj) ((ring_mem _ _ _).mpr (by (first | lia | omega))) ((ring_mem _ _ _).mpr hk)
end
theorem law_plain (ns : List Int) (h : ns.length ≤ 63) : ∃ μ', runLaw ns = some (vbool true, μ') := law_true chk_all h
end Mine
open Mine PySem PySem.W PySem.Calls PyProof.Rows
set_option maxHeartbeats 8000000 in
theorem PySem.Challenge.cw_wr0045_01_holds : PySem.Challenge.rw_wr0045_01.Holds := by
  refine holds_law Mine.said fun said => ?_
  refine holds_openX (q := qv) (loose := looseV) (Xt := fun _ => true) (XP := fun _ _ => True) (Yf := fun s => (s.heap, s.toks)) (Ya := fun w => (absHeap (T25 w.params) 205 {}, 2399)) (d := lawD) (kwd := []) (N := 20000) left_ok (fun _ _ => trivial) (fun _ _ _ _ _ => trivial) (by kernel_rfl) (by kernel_rfl) (by kernel_rfl) (fun s _ => recFacts_nil rfl) (by kernel_rfl) ?_ (by decide +kernel) ⟨rfl, rfl, rfl, rfl, rfl, by decide +kernel⟩ ?hw (walkX law_plain)
  · assumption
  case hw => w_witness2
