import PyProof.Rows.All
import Wide.All
import OpenK.AllK
import Wide.FinOn
import Lean
import PySem.Challenge.RW_ai0004_01
set_option Elab.async false
set_option maxRecDepth 100000
section
namespace Mine
open PySem

/-- deep values -/
inductive PV where
  | none
  | bool (b : Bool)
  | int (i : Int)
  | str (s : Str)
  | list (xs : List PV)
  | tup (xs : List PV)

inductive Res (α : Type) where
  | ok (a : α)
  | tie
  | stuck

namespace Res
noncomputable def bind {α β : Type} : Res α → (α → Res β) → Res β
  | .ok a, f => f a
  | .tie, _ => .tie
  | .stuck, _ => .stuck
end Res

/-- an entry of the frame: the value, and whether the frame alone holds the list -/
noncomputable abbrev Ent := PV × Bool
noncomputable abbrev Rho := List (Str × Ent)

structure FD where
  params : List Str
  dflts : List PV
  body : List Stmt
  scope : Scope

structure GL where
  funs : List (Str × FD)
  vals : List (Str × PV)

noncomputable def PV.scalar : PV → Bool
  | .list _ => false
  | .tup _ => false
  | _ => true
noncomputable def PV.flat : PV → Bool
  | .list _ => false
  | .tup xs => xs.all PV.scalar
  | _ => true

noncomputable def rset (x : Str) (p : Ent) : Rho → Rho
  | [] => [(x, p)]
  | (y, q) :: r => if y = x then (x, p) :: r else (y, q) :: rset x p r
noncomputable def freeze (ρ : Rho) : Rho := ρ.map fun (x, (v, _)) => (x, (v, false))
noncomputable def unowned (ρ : Rho) : Rho := ρ.filter fun (x, _) => match ρ.lookup x with
  | some (_, false) => true
  | _ => false

noncomputable def mulOk (a b : Int) : Bool := a.natAbs < 2 ^ 500 && b.natAbs < 2 ^ 500

/-- a name of the block's own -/
noncomputable def own (sc : Scope) (x : Str) : Bool := sc.names.lookup x == some .local || sc.names.lookup x == some .cell
/-- a part that never ends in a tie -/
noncomputable def ofO {α : Type} : Option α → Res α
  | some a => .ok a
  | none => .stuck
theorem ofO_ne {α : Type} {o : Option α} : ofO o ≠ .tie := by
  cases o <;> intro q <;> cases q
theorem ofO_ok {α : Type} {o : Option α} {a : α} (h : ofO o = .ok a) : o = some a := by
  cases o with
  | some b => cases h; rfl
  | none => cases h

/-- of two ints -/
noncomputable def two {α : Type} (f : Int → Int → Option α) : PV → PV → Option α
  | .int a, .int b => f a b
  | _, _ => none
theorem two_some {α : Type} {f : Int → Int → Option α} {a b : PV} {v : α} (h : two f a b = some v) : ∃ i j, a = .int i ∧ b = .int j ∧ f i j = some v := by
  unfold two at h
  split at h
  · exact ⟨_, _, rfl, rfl, h⟩
  · cases h
noncomputable def catO : PV → PV → Option PV
  | .list xs, .list ys => if xs.length + ys.length ≤ 1000 then some (.list (xs ++ ys)) else none
  | _, _ => none
noncomputable def addI : PV → PV → Option PV := two fun a b => some (.int (a + b))
noncomputable def isL : PV → Bool
  | .list _ => true
  | _ => false
noncomputable def binO (op : Operator) (a b : PV) : Option PV := match op with
  | .Add => bif isL a then catO a b else addI a b
  | .Sub => two (fun a b => some (.int (a - b))) a b
  | .Mult => two (fun a b => if mulOk a b then some (.int (a * b)) else none) a b
  | .FloorDiv => two (fun a b => if b = 0 then none else if b.natAbs < 2 ^ 500 then some (.int (a.fdiv b)) else none) a b
  | .Mod => two (fun a b => if b = 0 then none else some (.int (a.fmod b))) a b
  | _ => none
noncomputable def binE (op : Operator) (a b : PV) : Res PV := ofO (binO op a b)

mutual
noncomputable def PV.toPy : PV → PyData
  | .none => .none
  | .bool b => .bool b
  | .int i => .int i
  | .str x => .str x
  | .list xs => .list (PV.toPyL xs)
  | .tup xs => .tuple (PV.toPyL xs)
noncomputable def PV.toPyL : List PV → List PyData
  | [] => []
  | x :: xs => PV.toPy x :: PV.toPyL xs
end
noncomputable def PV.num0 : PV → Bool
  | .int _ => true
  | .bool _ => true
  | _ => false
noncomputable def PV.num1 : PV → Bool
  | .list xs => xs.all PV.num0
  | .tup xs => xs.all PV.num0
  | v => v.num0
noncomputable def PV.num2 : PV → Bool
  | .list xs => xs.all PV.num1
  | .tup xs => xs.all PV.num1
  | v => v.num0
noncomputable def strs2 : PV → PV → Option Bool
  | .str a, .str b => some (a == b)
  | _, _ => none
noncomputable def beqO (a b : PV) : Option Bool := match strs2 a b with
  | some c => some c
  | none => if a.num2 && b.num2 then some (PyData.eqv a.toPy b.toPy) else none
noncomputable def PV.beq (a b : PV) : Res Bool := ofO (beqO a b)

noncomputable def intsOf : List PV → Option (List Int)
  | [] => some []
  | .int a :: r => (intsOf r).map (a :: ·)
  | _ => none

noncomputable def strsOf : List PV → Option (List Str)
  | [] => some []
  | .str a :: r => (strsOf r).map (a :: ·)
  | _ => none

/-- `x in xs`, for an int in a list of ints, a text in a list of texts -/
noncomputable def inO : PV → List PV → Option Bool
  | .int a, xs => (intsOf xs).map fun ns => ns.any fun b => b == a
  | .str a, xs => (strsOf xs).map fun ns => ns.any fun b => b == a
  | _, _ => none
noncomputable def inL (a : PV) : PV → Option Bool
  | .list xs => inO a xs
  | _ => none
noncomputable def isN : PV → Bool
  | .none => true
  | _ => false

noncomputable def cmpO (op : CmpOp) (a b : PV) : Option Bool := match op with
  | .Lt => two (fun a b => some (decide (a < b))) a b
  | .LtE => two (fun a b => some (decide (a ≤ b))) a b
  | .Gt => two (fun a b => some (decide (a > b))) a b
  | .GtE => two (fun a b => some (decide (a ≥ b))) a b
  | .Eq => beqO a b
  | .NotEq => (beqO a b).map (!·)
  | .In => inL a b
  | .IsNot => bif isN a && isN b then some false else none
  | _ => none
noncomputable def cmpE (op : CmpOp) (a b : PV) : Res Bool := ofO (cmpO op a b)

noncomputable def szLine : Nat := 1000
noncomputable def idxO (xs : List PV) (k : Int) : Option PV :=
  if xs.length ≤ szLine ∧ 0 ≤ (if k < 0 then k + xs.length else k) then xs[(if k < 0 then k + xs.length else k).toNat]? else none
noncomputable def intV : PV → Option Int
  | .int k => some k
  | _ => none
noncomputable def boolV : PV → Option Bool
  | .bool k => some k
  | _ => none
noncomputable def listV : PV → Option (List PV)
  | .list xs => some xs
  | _ => none
noncomputable def seqV : PV → Option (List PV)
  | .list xs => some xs
  | .tup xs => some xs
  | _ => none
noncomputable def idxV (a k : PV) : Option PV := (seqV a).bind fun xs => (intV k).bind fun j => idxO xs j
noncomputable def constO : Const → Option PV
  | .none => some .none
  | .bool b => some (.bool b)
  | .int i => some (.int i)
  | .str s => some (.str s)
  | _ => none
noncomputable def repO (a b : PV) : Option PV := (intV b).bind fun k => if a.scalar = true ∧ 0 ≤ k ∧ k ≤ 1000 then some (.list (List.replicate k.toNat a)) else none
noncomputable def negO (a : PV) : Option PV := (intV a).map fun i => .int (-i)
noncomputable def lstO (vs : List PV) : Option PV := if vs.length ≤ szLine then some (.list vs) else none
noncomputable def tupO (vs : List PV) : Option PV := if vs.length ≤ szLine then some (.tup vs) else none

/-- a slice `xs[a:b]` with bounds that are nought or more -/
noncomputable def sliceE (xs : List PV) (a b : Nat) : List PV := (xs.take b).drop a

noncomputable def insI (a : Int) : List Int → List Int
  | [] => [a]
  | b :: r => if a ≤ b then a :: b :: r else b :: insI a r
noncomputable def sortI (l : List Int) : List Int := l.foldr insI []

noncomputable def sortMax : Nat := 63
noncomputable def rangeI (a b : Int) : List PV := (List.range (b - a).toNat).map fun (i : Nat) => .int (a + i)

/-- built-ins by name -/
inductive Blt where
  | len
  | sum
  | int
  | sorted
  | min
  | max
  | range
  | enumerate
noncomputable def bltN : List (Str × Blt) := [(Str.ofString "len", .len), (Str.ofString "sum", .sum), (Str.ofString "int", .int), (Str.ofString "sorted", .sorted), (Str.ofString "min", .min), (Str.ofString "max", .max), (Str.ofString "range", .range), (Str.ofString "enumerate", .enumerate)]
noncomputable def bltOf (f : Str) : Option Blt := bltN.lookup f
noncomputable def Blt.fn : Blt → Bool
  | .range => false
  | .enumerate => false
  | _ => true
noncomputable def Blt.val : Blt → Value
  | .len => .builtin "len"
  | .sum => .builtin "sum"
  | .int => .type "int"
  | .sorted => .builtin "sorted"
  | .min => .builtin "min"
  | .max => .builtin "max"
  | .range => .type "range"
  | .enumerate => .type "enumerate"
noncomputable def bltV (f : Str) : Option Value := (bltOf f).map Blt.val
noncomputable def list1 : List PV → Option (List PV)
  | [.list xs] => some xs
  | _ => none
noncomputable def int1 : List PV → Option Int
  | [.int a] => some a
  | _ => none
noncomputable def ints2 (f : Int → Int → Option PV) : List PV → Option PV
  | [a, b] => two f a b
  | _ => none
/-- the value for the values of the arguments -/
noncomputable def runB (hd : Bool) (b : Blt) (as : List PV) : Option PV := match b with
  | .len => (list1 as).bind fun xs => if xs.length ≤ szLine then some (.int xs.length) else none
  | .sum => (list1 as).bind fun xs => (intsOf xs).map fun ns => .int ns.sum
  | .int => (int1 as).map .int
  | .sorted => (list1 as).bind fun xs => (intsOf xs).bind fun ns => if ns.length ≤ sortMax then some (.list ((sortI ns).map .int)) else none
  | .min => bif hd then none else ints2 (fun a b => some (.int (if b < a then b else a))) as
  | .max => bif hd then none else ints2 (fun a b => some (.int (if b > a then b else a))) as
  | _ => none
noncomputable def builtinE (hd : Bool) (f : Str) (as : List PV) : Res PV := ofO ((bltOf f).bind fun b => runB hd b as)
noncomputable def rangeO : List PV → Option (List PV)
  | [.int b] => if -1000 ≤ b ∧ b ≤ 1000 then some (rangeI 0 b) else none
  | [.int a, .int b] => if (-1000 ≤ a ∧ a ≤ 1000) ∧ (-1000 ≤ b ∧ b ≤ 1000) then some (rangeI a b) else none
  | _ => none
/-- the items of an iterator, `ok`: it may be unpacked -/
noncomputable def itO (ok : Bool) (b : Blt) (as : List PV) : Option (List PV) := match b with
  | .range => rangeO as
  | .enumerate => (list1 as).bind fun xs => bif ok then some (xs.zipIdx.map fun (v, (i : Nat)) => .tup [.int i, v]) else none
  | _ => none
noncomputable def itE (ok : Bool) (f : Str) (as : List PV) : Res (List PV) := ofO ((bltOf f).bind fun b => itO ok b as)

noncomputable def isG (G : GL) (sc : Scope) (x : Str) : Bool := sc.names.lookup x == some NameKind.globalImplicit && (G.vals.lookup x).isNone && (G.funs.lookup x).isNone
noncomputable def nameO (G : GL) (sc : Scope) (ρ : Rho) (x : Str) : Option PV := (sc.names.lookup x).bind fun k => match k with
  | .globalImplicit => G.vals.lookup x
  | .globalExplicit => none
  | _ => (ρ.lookup x).map (·.1)
noncomputable def nameE (G : GL) (sc : Scope) (ρ : Rho) (x : Str) : Res PV := ofO (nameO G sc ρ x)
/-- an entry of the block's own -/
noncomputable def ownE (sc : Scope) (ρ : Rho) (x : Str) : Res Ent := ofO (bif own sc x then ρ.lookup x else none)

noncomputable def relab (scope outer : Scope) : Scope :=
  { scope with names := scope.names.map fun (n, k) => if (k == .free && outer.kind == .function && outer.names.lookup n == some .cell) then (n, .cell) else (n, k) }

/-- what is asked of a block's table of names -/
noncomputable def scOK (sc : Scope) : Bool := sc.kind == .function && (sc.names.lookup (Str.ofString "__debug__")).isNone && (sc.names.lookup (Str.ofString "__classdict__")).isNone && decide ((sc.names.map (·.1)).Nodup)
noncomputable def compOK (scope outer : Scope) : Bool := scOK scope && scope.names.all fun (n, k) => k != .free || (outer.names.lookup n == some .cell || outer.names.lookup n == some .free)
noncomputable def Res.noTie {α : Type} : Res α → Res α
  | .tie => .stuck
  | r => r

noncomputable def mapR {α β : Type} (f : α → Res β) : List α → Res (List β)
  | [] => .ok []
  | a :: r => (f a).bind fun b => (mapR f r).bind fun bs => .ok (b :: bs)
noncomputable def flatR {α β : Type} (f : α → Res (List β)) : List α → Res (List β)
  | [] => .ok []
  | a :: r => (f a).bind fun b => (flatR f r).bind fun bs => .ok (b ++ bs)

/-- store a value at a target: a name, or a tuple of names -/
noncomputable def storeNO (sc : Scope) (x : Str) (p : Ent) (ρ : Rho) : Option Rho := bif own sc x then some (rset x p ρ) else none
noncomputable def storeN (sc : Scope) (x : Str) (p : Ent) (ρ : Rho) : Res Rho := ofO (storeNO sc x p ρ)
noncomputable def tname (t : PySem.Expr) : Option Str := if h : t.ctorIdx = 23 then PySem.Expr.Name.elim (motive_1 := fun _ => Option Str) t h fun x _ => some x else none
noncomputable def tupE (t : PySem.Expr) : Option (List PySem.Expr) := if h : t.ctorIdx = 25 then PySem.Expr.Tuple.elim (motive_1 := fun _ => Option (List PySem.Expr)) t h fun ts _ _ => some ts else none
noncomputable def listX (t : PySem.Expr) : Option (List PySem.Expr) := if h : t.ctorIdx = 24 then PySem.Expr.List.elim (motive_1 := fun _ => Option (List PySem.Expr)) t h fun ts _ => some ts else none
noncomputable def constX (t : PySem.Expr) : Option Const := if h : t.ctorIdx = 19 then PySem.Expr.Constant.elim (motive_1 := fun _ => Option Const) t h fun c _ _ => some c else none
noncomputable def callX (t : PySem.Expr) : Option (PySem.Expr × List PySem.Expr × List Keyword × Pos) := if h : t.ctorIdx = 16 then PySem.Expr.Call.elim (motive_1 := fun _ => Option (PySem.Expr × List PySem.Expr × List Keyword × Pos)) t h fun f as ks p => some (f, as, ks, p) else none
noncomputable def attrX (t : PySem.Expr) : Option (PySem.Expr × Str × Pos) := if h : t.ctorIdx = 20 then PySem.Expr.Attribute.elim (motive_1 := fun _ => Option (PySem.Expr × Str × Pos)) t h fun v m p => some (v, m, p) else none
noncomputable def subE (t : PySem.Expr) : Option (PySem.Expr × PySem.Expr) := if h : t.ctorIdx = 21 then PySem.Expr.Subscript.elim (motive_1 := fun _ => Option (PySem.Expr × PySem.Expr)) t h fun v i _ => some (v, i) else none
noncomputable def binX (t : PySem.Expr) : Option (PySem.Expr × Operator × PySem.Expr) := if h : t.ctorIdx = 2 then PySem.Expr.BinOp.elim (motive_1 := fun _ => Option (PySem.Expr × Operator × PySem.Expr)) t h fun l op r _ => some (l, op, r) else none
noncomputable def retV (t : Stmt) : Option PySem.Expr := if h : t.ctorIdx = 3 then PySem.Stmt.Return.elim (motive_2 := fun _ => Option PySem.Expr) t h fun v _ => v else none
noncomputable def intC (t : Const) : Option Int := if h : t.ctorIdx = 2 then PySem.Const.int.elim (motive := fun _ => Option Int) t h fun i => some i else none
noncomputable def one {α : Type} : List α → Option α
  | [a] => some a
  | _ => none
noncomputable def storeNsO (sc : Scope) : List PySem.Expr → List PV → Rho → Option Rho
  | [], [], ρ => some ρ
  | t :: ts, v :: vs, ρ => (tname t).bind fun x => (storeNO sc x (v, false) ρ).bind fun ρ' => storeNsO sc ts vs ρ'
  | _, _, _ => none
noncomputable def storeNs (sc : Scope) (ts : List PySem.Expr) (vs : List PV) (ρ : Rho) : Res Rho := ofO (storeNsO sc ts vs ρ)
noncomputable def tupV : PV → Option (List PV)
  | .tup vs => some vs
  | _ => none
noncomputable def storeTO (hd : Bool) (sc : Scope) (t : PySem.Expr) (v : PV) (ρ : Rho) : Option Rho := match tname t with
  | some x => storeNO sc x (v, false) ρ
  | none => bif hd then none else (tupE t).bind fun ts => (tupV v).bind fun vs => storeNsO sc ts vs ρ
noncomputable def storeT (hd : Bool) (sc : Scope) (t : PySem.Expr) (v : PV) (ρ : Rho) : Res Rho := ofO (storeTO hd sc t v ρ)

inductive MFlow where
  | next
  | ret (v : PV)

noncomputable def forR (turn : PV → Rho → Res (MFlow × Rho)) : List PV → Rho → Res (MFlow × Rho)
  | [], ρ => .ok (.next, ρ)
  | v :: r, ρ => (turn v ρ).bind fun (f, ρ') => match f with
    | .next => forR turn r ρ'
    | .ret w => .ok (.ret w, ρ')

/-- `[x] * k` -/
noncomputable def mulForm (l : PySem.Expr) (op : Operator) : Option PySem.Expr := bif op.ctorIdx == 2 then (listX l).bind one else none
noncomputable def freshForm (e : PySem.Expr) : Bool := bif e.ctorIdx == 8 then true else bif e.ctorIdx == 24 then true else (binX e).any fun q => (mulForm q.1 q.2.1).isSome

/-- what an assignment of v (written e) to the name x does to the frame -/
noncomputable def assignO (sc : Scope) (e : PySem.Expr) (x : Str) (v : PV) (ρ : Rho) : Option Rho :=
  if freshForm e then (listV v).bind fun vs => if vs.all PV.scalar then storeNO sc x (v, true) ρ else if vs.all PV.flat then storeNO sc x (v, false) ρ else storeNO sc x (v, false) (freeze ρ)
  else if v.flat then storeNO sc x (v, false) ρ
  else storeNO sc x (v, false) (freeze ρ)
noncomputable def assignN (sc : Scope) (e : PySem.Expr) (x : Str) (v : PV) (ρ : Rho) : Res Rho := ofO (assignO sc e x v ρ)
noncomputable def isCall (e : PySem.Expr) : Bool := e.ctorIdx == 16
noncomputable def assignT (sc : Scope) (e : PySem.Expr) (ts : List PySem.Expr) (v : PV) (ρ : Rho) : Res Rho := ofO (bif isCall e then (tupV v).bind fun vs => storeNsO sc ts vs (if v.flat then ρ else freeze ρ) else none)

noncomputable def bindsO (fd : FD) (as : List PV) : Option Rho :=
  let all := as ++ fd.dflts.drop (as.length - (fd.params.length - fd.dflts.length))
  if as.length ≤ fd.params.length ∧ fd.params.length - fd.dflts.length ≤ as.length ∧ all.length = fd.params.length then some ((fd.params.zip all).map fun (x, v) => (x, (v, false))) else none
noncomputable def bindsOf (fd : FD) (as : List PV) : Res Rho := ofO (bindsO fd as)

noncomputable def natLit (o : Option PySem.Expr) (d : Nat) : Option Nat := o.elim (some d) fun e => (constX e).bind fun c => (intC c).bind fun i => if 0 ≤ i ∧ i ≤ 1000 then some i.toNat else none

/-- what a comprehension's own block sees of the frame around it -/
noncomputable def inner (scope : Scope) (ρ : Rho) : Rho := freeze (ρ.filter fun (x, _) => scope.names.lookup x == some NameKind.free)

structure Cx where
  G : GL
  /-- no calls of the text's own, nothing raised -/
  pure : Bool
  /-- an exception is being handled -/
  hd : Bool

noncomputable def isBlt (f : Str) : Bool := (bltOf f).any Blt.fn
noncomputable def isIt (f : Str) : Bool := (bltOf f).any fun b => !b.fn
noncomputable def noSet (e : PySem.Expr) : Bool := e.ctorIdx != 7
noncomputable def plainArg (e : PySem.Expr) : Bool := e.ctorIdx != 22
noncomputable def isSl (e : PySem.Expr) : Bool := e.ctorIdx == 26
noncomputable def isTup (e : PySem.Expr) : Bool := e.ctorIdx == 25

noncomputable def sliceLit (lo up : Option PySem.Expr) : Option (Nat × Nat) := (natLit lo 0).bind fun i => (natLit up 1000).map fun j => (i, j)
noncomputable def sliceV (q : Nat × Nat) (a : PV) : Option PV := (listV a).bind fun xs => if xs.length ≤ 1000 then some (.list (sliceE xs q.1 q.2)) else none
/-- what an augmented assignment to an item finds -/
noncomputable def augO (p : Ent) (k : PV) : Option (List PV × Nat × Int) := bif p.2 then (listV p.1).bind fun xs => (intV k).bind fun j => if xs.length ≤ szLine ∧ 0 ≤ j ∧ j < xs.length then (xs[j.toNat]?).bind fun v => (intV v).map fun old => (xs, j.toNat, old) else none else none
noncomputable def augG (p : Ent) (k : PV) : Res (List PV × Nat × Int) := ofO (augO p k)
noncomputable def listO (p : Ent) : Option (List PV) := bif p.2 then (listV p.1).bind fun xs => if xs.length ≤ szLine then some xs else none else none
noncomputable def listG (p : Ent) : Res (List PV) := ofO (listO p)
noncomputable def augVO (op : Operator) (a : Int) (b : PV) : Option Int := match op with
  | .Add => (intV b).map fun b => a + b
  | .Sub => (intV b).map fun b => a - b
  | _ => none
noncomputable def augV (op : Operator) (a : Int) (b : PV) : Res Int := ofO (augVO op a b)

noncomputable def subX (t : PySem.Expr) : Option (Str × PySem.Expr) := (subE t).bind fun q => (tname q.1).map fun x => (x, q.2)
noncomputable def appX (t : PySem.Expr) : Option (Str × Str × Bool × PySem.Expr) := (callX t).bind fun q => (attrX q.1).bind fun r => (tname r.1).bind fun x => (one q.2.1).bind fun e => bif q.2.2.1.isEmpty then some (x, r.2.1, r.2.2.endLine == q.2.2.2.line, e) else none
noncomputable def raiseX (t : PySem.Expr) : Option Str := (callX t).bind fun q => (one q.2.1).bind fun a => (constX a).bind fun c => bif c.ctorIdx == 5 && q.2.2.1.isEmpty then tname q.1 else none
noncomputable def retX (b : List Stmt) : Option PySem.Expr := (one b).bind retV
noncomputable def hdlP : ExceptHandler → Option PySem.Expr × Option Str × List Stmt
  | .ExceptHandler t n b _ => (t, n, b)
noncomputable def hdlX (l : List ExceptHandler) : Option (Str × Stmt × List Stmt) := (one l).bind fun h => (hdlP h).1.bind fun t => (tname t).bind fun x => bif (hdlP h).2.1.isNone then (hdlP h).2.2.head?.map fun b₀ => (x, b₀, (hdlP h).2.2.tail) else none

mutual
/-- a value -/
noncomputable def evE : Nat → Cx → Scope → Rho → PySem.Expr → Res PV
  | 0, _, _, _, _ => .stuck
  | n + 1, C, sc, ρ, e => match e with
    | .Constant c _ _ => ofO (constO c)
    | .Name x _ => nameE C.G sc ρ x
    | .BinOp l op r _ => (match mulForm l op with
      | some x => (evE n C sc ρ x).bind fun a => (evE n C sc ρ r).bind fun b => ofO (repO a b)
      | none => (evE n C sc ρ l).bind fun a => (evE n C sc ρ r).bind fun b => binE op a b)
    | .UnaryOp .USub x _ => (evE n C sc ρ x).bind fun a => ofO (negO a)
    | .IfExp t a b _ => (evT n C sc ρ t).bind fun c => if c then evE n C sc ρ a else evE n C sc ρ b
    | .BoolOp .And [a, b] _ => (evE n C sc ρ a).bind fun v => (ofO (boolV v)).bind fun c => if c then evE n C sc ρ b else .ok (.bool false)
    | .Compare l [op] [r] _ => if noSet r then (evE n C sc ρ l).bind fun a => (evE n C sc ρ r).bind fun b => ofO ((cmpO op a b).map .bool) else .stuck
    | .List es _ => (mapR (evE n C sc ρ) es).bind fun vs => ofO (lstO vs)
    | .Tuple es _ _ => (mapR (evE n C sc ρ) es).bind fun vs => ofO (tupO vs)
    | .Subscript v (.Slice lo up .none _) _ => (ofO (sliceLit lo up)).bind fun q => (evE n C sc ρ v).bind fun a => ofO (sliceV q a)
    | .Subscript _ (.Slice ..) _ => .stuck
    | .Subscript v i _ => (evE n C sc ρ v).bind fun a => (evE n C sc ρ i).bind fun k => ofO (idxV a k)
    | .ListComp elt [⟨t, it, ifs, 0⟩] scope _ => if compOK scope sc then (evI n C sc ρ t it).bind fun items =>
        (flatR (fun v => (storeT C.hd scope t v (inner scope ρ)).bind fun ρ' =>
          (evFs n { C with pure := true } (relab scope sc) ρ' ifs).noTie.bind fun c => if c then (evE n { C with pure := true } (relab scope sc) ρ' elt).noTie.bind fun w => .ok [w] else .ok []) items).bind fun ws =>
          ofO (lstO ws)
        else .stuck
    | .ListComp elt [⟨t, it, [], 0⟩, ⟨t2, it2, ifs, 0⟩] scope _ => if compOK scope sc && noSet it2 then (evI n C sc ρ t it).bind fun items =>
        (flatR (fun v => (storeT C.hd scope t v (inner scope ρ)).bind fun ρ' =>
          (evI n { C with pure := true } (relab scope sc) ρ' t2 it2).noTie.bind fun items2 =>
            flatR (fun v2 => (storeT C.hd scope t2 v2 ρ').bind fun ρ2 =>
              (evFs n { C with pure := true } (relab scope sc) ρ2 ifs).noTie.bind fun c => if c then (evE n { C with pure := true } (relab scope sc) ρ2 elt).noTie.bind fun w => .ok [w] else .ok []) items2) items).bind fun ws =>
            ofO (lstO ws)
        else .stuck
    | .Call (.Name f _) as [] _ =>
      if isG C.G sc f then
        if isBlt f && as.all plainArg then (mapR (evE n C sc ρ) as).bind fun vs => builtinE C.hd f vs else .stuck
      else if C.pure then .stuck
      else if sc.names.lookup f == some NameKind.globalImplicit && (C.G.vals.lookup f).isNone then
        (match C.G.funs.lookup f with
        | some fd => (mapR (evE n C sc ρ) as).bind fun vs => callF n C fd vs
        | none => .stuck)
      else .stuck
    | _ => .stuck
/-- a test -/
noncomputable def evT : Nat → Cx → Scope → Rho → PySem.Expr → Res Bool
  | 0, _, _, _, _ => .stuck
  | n + 1, C, sc, ρ, e => match e with
    | .UnaryOp .Not x _ => (evT n C sc ρ x).bind fun b => .ok (!b)
    | .BoolOp op vs _ => evB n C sc ρ op vs
    | .IfExp .. => .stuck
    | .Compare l [op] [r] _ => if noSet r then (evE n C sc ρ l).bind fun a => (evE n C sc ρ r).bind fun b => cmpE op a b else .stuck
    | .Compare l [op, op2] [r, r2] _ => if noSet r && noSet r2 then (evE n C sc ρ l).bind fun a => (evE n C sc ρ r).bind fun b => (cmpE op a b).bind fun c =>
        if c then (evE n C sc ρ r2).bind fun b2 => cmpE op2 b b2 else .ok false
        else .stuck
    | .Compare .. => .stuck
    | e => (evE n C sc ρ e).bind fun v => ofO (boolV v)
noncomputable def evB : Nat → Cx → Scope → Rho → BoolOp → List PySem.Expr → Res Bool
  | 0, _, _, _, _, _ => .stuck
  | n + 1, C, sc, ρ, op, es => match es with
    | [] => .ok (op == .And)
    | x :: r => (evT n C sc ρ x).bind fun b => match op, b with
      | .And, false => .ok false
      | .Or, true => .ok true
      | _, _ => evB n C sc ρ op r
/-- the tests of a comprehension -/
noncomputable def evFs : Nat → Cx → Scope → Rho → List PySem.Expr → Res Bool
  | 0, _, _, _, _ => .stuck
  | n + 1, C, sc, ρ, es => match es with
    | [] => .ok true
    | [t] => evT n C sc ρ t
    | _ => .stuck
/-- the items that a loop draws from an expression -/
noncomputable def evI : Nat → Cx → Scope → Rho → PySem.Expr → PySem.Expr → Res (List PV)
  | 0, _, _, _, _, _ => .stuck
  | n + 1, C, sc, ρ, t, e => if noSet e then (match e with
    | .Call (.Name f _) as [] _ =>
      if isG C.G sc f && isIt f && as.all plainArg then
        (mapR (evE n C sc ρ) as).bind fun vs =>
          itE (!C.hd && isTup t) f vs
      else .stuck
    | e => (evE n C sc ρ e).bind fun v => ofO (listV v)) else .stuck
noncomputable def callF : Nat → Cx → FD → List PV → Res PV
  | 0, _, _, _ => .stuck
  | n + 1, C, fd, as => if scOK fd.scope && fd.scope.names.all (fun x => x.2 != .free) then (bindsOf fd as).bind fun ρ => (exs n C fd.scope ρ fd.body).bind fun (f, _) => match f with
    | .ret v => .ok v
    | .next => .stuck
    else .stuck
noncomputable def exs : Nat → Cx → Scope → Rho → List Stmt → Res (MFlow × Rho)
  | 0, _, _, _, _ => .stuck
  | n + 1, C, sc, ρ, ss => match ss with
    | [] => .ok (.next, ρ)
    | st :: r => (ex n C sc ρ st).bind fun (f, ρ') => match f with
      | .next => exs n C sc ρ' r
      | .ret v => .ok (.ret v, ρ')
noncomputable def ex : Nat → Cx → Scope → Rho → Stmt → Res (MFlow × Rho)
  | 0, _, _, _, _ => .stuck
  | n + 1, C, sc, ρ, st => match st with
    | .Assign ts e _ => (ofO (one ts)).bind fun t => (match tname t with
      | some x => (evE n C sc ρ e).bind fun v => (assignN sc e x v ρ).bind fun ρ' => .ok (.next, ρ')
      | none => (ofO (tupE t)).bind fun ts => if C.hd || !isCall e then .stuck else (evE n C sc ρ e).bind fun v => (assignT sc e ts v ρ).bind fun ρ' => .ok (.next, ρ'))
    | .AugAssign t op e _ => (ofO (subX t)).bind fun z => if isSl z.2 then .stuck else (ownE sc ρ z.1).bind fun p => (evE n C sc ρ z.2).bind fun k => (augG p k).bind fun q => (evE n C sc ρ e).bind fun b => (augV op q.2.2 b).bind fun w =>
        (storeN sc z.1 (.list (q.1.set q.2.1 (.int w)), true) ρ).bind fun ρ' => .ok (.next, ρ')
    | .Expr e _ => (ofO (appX e)).bind fun z => if z.2.1 = Str.ofString "append" ∧ z.2.2.1 = true ∧ plainArg z.2.2.2 = true then (ownE sc ρ z.1).bind fun p => (listG p).bind fun xs => (evE n C sc ρ z.2.2.2).bind fun b => if b.scalar = true then (storeN sc z.1 (.list (xs ++ [b]), true) ρ).bind fun ρ' => .ok (.next, ρ') else .stuck
        else .stuck
    | .If t a b _ => (evT n C sc ρ t).bind fun c => if c then exs n C sc ρ a else exs n C sc ρ b
    | .For t it body [] _ => (evI n C sc (unowned ρ) t it).bind fun items => if items.length ≤ szLine then
        forR (fun v ρ₁ => (storeT C.hd sc t v ρ₁).bind fun ρ₂ => exs n C sc ρ₂ body) items ρ else .stuck
    | .Return (some e) _ => (evE n C sc ρ e).bind fun v => .ok (.ret v, ρ)
    | .Raise (some v) .none _ => (ofO (raiseX v)).bind fun x => if x = Str.ofString "TiesException" ∧ isG C.G sc x = true ∧ C.hd = false ∧ C.pure = false then .tie else .stuck
    | .Try b hs [] [] _ => (ofO (retX b)).bind fun e => (ofO (hdlX hs)).bind fun z =>
        if z.1 = Str.ofString "TiesException" ∧ isG C.G sc z.1 = true ∧ C.hd = false ∧ C.pure = false then
          (match evE n C sc ρ e with
          | .ok v => .ok (.ret v, ρ)
          | .tie => exs n { C with hd := true } sc ρ (z.2.1 :: z.2.2)
          | .stuck => .stuck)
        else .stuck
    | _ => .stuck
end

theorem dite_some {α : Type} {c : Prop} [Decidable c] {f : c → Option α} {a : α} (h : (if h : c then f h else none) = some a) : ∃ hc, f hc = some a := by
  by_cases hc : c
  · rw [dif_pos hc] at h; exact ⟨hc, h⟩
  · rw [dif_neg hc] at h; cases h
theorem x23 {t : PySem.Expr} (h : t.ctorIdx = 23) : ∃ x p, t = .Name x p := PySem.Expr.Name.elim (motive_1 := fun t => ∃ x p, t = .Name x p) t h fun x p => ⟨x, p, rfl⟩
theorem x25 {t : PySem.Expr} (h : t.ctorIdx = 25) : ∃ x k p, t = .Tuple x k p := PySem.Expr.Tuple.elim (motive_1 := fun t => ∃ x k p, t = .Tuple x k p) t h fun x k p => ⟨x, k, p, rfl⟩
theorem x24 {t : PySem.Expr} (h : t.ctorIdx = 24) : ∃ x p, t = .List x p := PySem.Expr.List.elim (motive_1 := fun t => ∃ x p, t = .List x p) t h fun x p => ⟨x, p, rfl⟩
theorem x8 {t : PySem.Expr} (h : t.ctorIdx = 8) : ∃ e g s p, t = .ListComp e g s p := PySem.Expr.ListComp.elim (motive_1 := fun t => ∃ e g s p, t = .ListComp e g s p) t h fun e g s p => ⟨e, g, s, p, rfl⟩
theorem x19 {t : PySem.Expr} (h : t.ctorIdx = 19) : ∃ c k p, t = .Constant c k p := PySem.Expr.Constant.elim (motive_1 := fun t => ∃ c k p, t = .Constant c k p) t h fun x k p => ⟨x, k, p, rfl⟩
theorem x16 {t : PySem.Expr} (h : t.ctorIdx = 16) : ∃ f as ks p, t = .Call f as ks p := PySem.Expr.Call.elim (motive_1 := fun t => ∃ f as ks p, t = .Call f as ks p) t h fun f as ks p => ⟨f, as, ks, p, rfl⟩
theorem x20 {t : PySem.Expr} (h : t.ctorIdx = 20) : ∃ v m p, t = .Attribute v m p := PySem.Expr.Attribute.elim (motive_1 := fun t => ∃ v m p, t = .Attribute v m p) t h fun x k p => ⟨x, k, p, rfl⟩
theorem x21 {t : PySem.Expr} (h : t.ctorIdx = 21) : ∃ v i p, t = .Subscript v i p := PySem.Expr.Subscript.elim (motive_1 := fun t => ∃ v i p, t = .Subscript v i p) t h fun x k p => ⟨x, k, p, rfl⟩
theorem x2 {t : PySem.Expr} (h : t.ctorIdx = 2) : ∃ l op r p, t = .BinOp l op r p := PySem.Expr.BinOp.elim (motive_1 := fun t => ∃ l op r p, t = .BinOp l op r p) t h fun f as ks p => ⟨f, as, ks, p, rfl⟩
theorem x22 {t : PySem.Expr} (h : t.ctorIdx = 22) : ∃ e p, t = .Starred e p := PySem.Expr.Starred.elim (motive_1 := fun t => ∃ x p, t = .Starred x p) t h fun x p => ⟨x, p, rfl⟩
theorem s3 {t : Stmt} (h : t.ctorIdx = 3) : ∃ v p, t = .Return v p := PySem.Stmt.Return.elim (motive_2 := fun t => ∃ v p, t = .Return v p) t h fun v p => ⟨v, p, rfl⟩
theorem c2 {t : Const} (h : t.ctorIdx = 2) : ∃ i, t = .int i := PySem.Const.int.elim (motive := fun t => ∃ i, t = .int i) t h fun i => ⟨i, rfl⟩
theorem c5 {t : Const} (h : t.ctorIdx = 5) : ∃ i, t = .str i := PySem.Const.str.elim (motive := fun t => ∃ i, t = .str i) t h fun i => ⟨i, rfl⟩
theorem tname_some {t : PySem.Expr} {x : Str} (e : tname t = some x) : ∃ p, t = .Name x p := by
  obtain ⟨h, e⟩ := dite_some e
  obtain ⟨y, p, rfl⟩ := x23 h
  cases (show some y = some x from e); exact ⟨p, rfl⟩
theorem tupE_some {t : PySem.Expr} {x : List PySem.Expr} (e : tupE t = some x) : ∃ k p, t = .Tuple x k p := by
  obtain ⟨h, e⟩ := dite_some e
  obtain ⟨y, k, p, rfl⟩ := x25 h
  cases (show some y = some x from e); exact ⟨k, p, rfl⟩
theorem listX_some {t : PySem.Expr} {x : List PySem.Expr} (e : listX t = some x) : ∃ p, t = .List x p := by
  obtain ⟨h, e⟩ := dite_some e
  obtain ⟨y, p, rfl⟩ := x24 h
  cases (show some y = some x from e); exact ⟨p, rfl⟩
theorem constX_some {t : PySem.Expr} {x : Const} (e : constX t = some x) : ∃ k p, t = .Constant x k p := by
  obtain ⟨h, e⟩ := dite_some e
  obtain ⟨y, k, p, rfl⟩ := x19 h
  cases (show some y = some x from e); exact ⟨k, p, rfl⟩
theorem callX_some {t : PySem.Expr} {x : PySem.Expr × List PySem.Expr × List Keyword × Pos} (e : callX t = some x) : t = .Call x.1 x.2.1 x.2.2.1 x.2.2.2 := by
  obtain ⟨h, e⟩ := dite_some e
  obtain ⟨f, as, ks, p, rfl⟩ := x16 h
  cases (show some (f, as, ks, p) = some x from e); rfl
theorem attrX_some {t : PySem.Expr} {x : PySem.Expr × Str × Pos} (e : attrX t = some x) : t = .Attribute x.1 x.2.1 x.2.2 := by
  obtain ⟨h, e⟩ := dite_some e
  obtain ⟨f, as, p, rfl⟩ := x20 h
  cases (show some (f, as, p) = some x from e); rfl
theorem subE_some {t : PySem.Expr} {x : PySem.Expr × PySem.Expr} (e : subE t = some x) : ∃ p, t = .Subscript x.1 x.2 p := by
  obtain ⟨h, e⟩ := dite_some e
  obtain ⟨f, as, p, rfl⟩ := x21 h
  cases (show some (f, as) = some x from e); exact ⟨p, rfl⟩
theorem binX_some {t : PySem.Expr} {x : PySem.Expr × Operator × PySem.Expr} (e : binX t = some x) : ∃ p, t = .BinOp x.1 x.2.1 x.2.2 p := by
  obtain ⟨h, e⟩ := dite_some e
  obtain ⟨f, as, r, p, rfl⟩ := x2 h
  cases (show some (f, as, r) = some x from e); exact ⟨p, rfl⟩
theorem retV_some {t : Stmt} {x : PySem.Expr} (e : retV t = some x) : ∃ p, t = .Return (some x) p := by
  obtain ⟨h, e⟩ := dite_some e
  obtain ⟨y, p, rfl⟩ := s3 h
  cases (show y = some x from e); exact ⟨p, rfl⟩
theorem intC_some {t : Const} {x : Int} (e : intC t = some x) : t = .int x := by
  obtain ⟨h, e⟩ := dite_some e
  obtain ⟨y, rfl⟩ := c2 h
  cases (show some y = some x from e); rfl
theorem one_some {α : Type} {l : List α} {a : α} (h : one l = some a) : l = [a] := by
  rcases l with _ | ⟨b, _ | ⟨_, _⟩⟩
  · cases h
  · cases (show some b = some a from h); rfl
  · cases h
theorem natLit_some {o : Option PySem.Expr} {d i : Nat} (h : natLit o d = some i) : (o = none ∧ d = i) ∨ ∃ n k p, o = some (.Constant (.int n) k p) ∧ (0 ≤ n ∧ n ≤ 1000) ∧ n.toNat = i := by
  cases o with
  | none => exact .inl ⟨rfl, Option.some.inj h⟩
  | some e =>
    obtain ⟨c, h1, h2⟩ := Option.bind_eq_some_iff.mp (show (constX e).bind _ = some i from h)
    obtain ⟨n, h3, h4⟩ := Option.bind_eq_some_iff.mp h2
    obtain ⟨k, p, rfl⟩ := constX_some h1
    cases intC_some h3
    by_cases q : 0 ≤ n ∧ n ≤ 1000
    · rw [if_pos q] at h4; exact .inr ⟨n, k, p, rfl, q, Option.some.inj h4⟩
    · rw [if_neg q] at h4; cases h4
theorem mulForm_some {l y : PySem.Expr} {op : Operator} (h : mulForm l op = some y) : ∃ lp, l = .List [y] lp ∧ op = .Mult := by
  have hop : op.ctorIdx = 2 := by
    cases q : op.ctorIdx == 2 with
    | true => exact eq_of_beq q
    | false => unfold mulForm at h; rw [q] at h; cases h
  obtain rfl : op = .Mult := PySem.Operator.Mult.elim (motive := fun t => t = .Mult) op hop rfl
  obtain ⟨es, h1, h2⟩ := Option.bind_eq_some_iff.mp (show (listX l).bind one = some y from h)
  obtain ⟨lp, rfl⟩ := listX_some h1
  cases one_some h2
  exact ⟨lp, rfl, rfl⟩
theorem fresh_cases {e : PySem.Expr} (h : freshForm e = true) : (∃ a g s p, e = .ListComp a g s p) ∨ (∃ es p, e = .List es p) ∨ ∃ l op r p y, e = .BinOp l op r p ∧ mulForm l op = some y := by
  unfold freshForm at h
  cases q : e.ctorIdx == 8 with
  | true => exact .inl (x8 (eq_of_beq q))
  | false =>
    cases q2 : e.ctorIdx == 24 with
    | true => exact .inr (.inl (x24 (eq_of_beq q2)))
    | false =>
      rw [q, q2] at h
      have h : (binX e).any (fun q => (mulForm q.1 q.2.1).isSome) = true := h
      cases h1 : binX e with
      | none => rw [h1] at h; cases h
      | some z =>
      rw [h1] at h
      have h2 : (mulForm z.1 z.2.1).isSome = true := h
      obtain ⟨p, rfl⟩ := binX_some h1
      obtain ⟨y, hy⟩ := Option.isSome_iff_exists.mp h2
      exact .inr (.inr ⟨_, _, _, p, y, rfl, hy⟩)
theorem plain_star {e : PySem.Expr} (h : plainArg e = false) : ∃ y p, e = .Starred y p := x22 (by
  unfold plainArg at h
  rw [bne_eq_false_iff_eq] at h
  exact h)
end Mine
end
section
namespace Mine
open PySem PySem.W PyProof.Rows

/-- every object outside X stays, but for its slots -/
noncomputable def SimX (X : List Addr) (h h' : Heap) : Prop := ∀ b o, b ∉ X → h.get? b = some o → ∃ o', h'.get? b = some o' ∧ o'.cls = o.cls ∧ o'.data = o.data

theorem SimX.refl (X : List Addr) (h : Heap) : SimX X h h := fun _ o _ e => ⟨o, e, rfl, rfl⟩
theorem SimX.mono {X Y : List Addr} {h h' : Heap} (a : SimX X h h') (hs : ∀ b, b ∈ X → b ∈ Y) : SimX Y h h' := fun b o hb e => a b o (fun q => hb (hs b q)) e

/-- what a step leaves: all objects, those of F but for their slots -/
structure Kp (F : List Addr) (s s' : Shared) : Prop where
  same : ∃ h' tk, s' = { s with heap := h', toks := tk }
  keep : ∀ b o, b ∉ F → s.heap.get? b = some o → s'.heap.get? b = some o
  slot : ∀ b o, s.heap.get? b = some o → ∃ sl, s'.heap.get? b = some { o with slots := sl }

theorem Kp.refl (F : List Addr) (s : Shared) : Kp F s s := ⟨⟨s.heap, s.toks, rfl⟩, fun _ _ _ e => e, fun _ o e => ⟨o.slots, e⟩⟩
theorem Kp.of {F : List Addr} {s : Shared} {h' : Heap} {tk : Nat} (k : ∀ b o, s.heap.get? b = some o → h'.get? b = some o) : Kp F s { s with heap := h', toks := tk } :=
  ⟨⟨_, _, rfl⟩, fun b o _ e => k b o e, fun b o e => ⟨o.slots, k b o e⟩⟩
theorem Kp.trans {F : List Addr} {s₁ s₂ s₃ : Shared} (a : Kp F s₁ s₂) (b : Kp F s₂ s₃) : Kp F s₁ s₃ := by
  obtain ⟨h, tk, rfl⟩ := a.same
  obtain ⟨h', tk', rfl⟩ := b.same
  refine ⟨⟨h', tk', rfl⟩, fun c o hc e => b.keep c o hc (a.keep c o hc e), fun c o e => ?_⟩
  obtain ⟨sl, e'⟩ := a.slot c o e
  obtain ⟨sl', e''⟩ := b.slot c _ e'
  exact ⟨sl', e''⟩
theorem Kp.mono {F F' : List Addr} {s s' : Shared} (a : Kp F s s') (h : ∀ b, b ∈ F → b ∈ F') : Kp F' s s' := ⟨a.same, fun b o hb e => a.keep b o (fun q => hb (h b q)) e, a.slot⟩
theorem Kp.simX {F : List Addr} {s s' : Shared} (a : Kp F s s') (X : List Addr) : SimX X s.heap s'.heap := fun b o _ e => by
  obtain ⟨sl, e'⟩ := a.slot b o e
  exact ⟨_, e', rfl, rfl⟩
theorem Kp.all {s s' : Shared} (a : Kp [] s s') : ∀ b o, s.heap.get? b = some o → s'.heap.get? b = some o := fun b o e => a.keep b o (by simp) e
theorem Kp.tok (F : List Addr) (s : Shared) (t : Nat) : Kp F s { s with toks := t } := Kp.of fun _ _ e => e
theorem Kp.push (F : List Addr) (s : Shared) (o : Obj) : Kp F s { s with heap := s.heap.push o } := Kp.of fun _ _ e => Heap.get?_push_of_some o e
/-- every list and tuple outside X stays -/
noncomputable def SimT (X : List Addr) (h h' : Heap) : Prop := ∀ b o, b ∉ X → h.get? b = some o → (∃ xs n, o.data = .seq xs n) → ∃ o', h'.get? b = some o' ∧ o'.cls = o.cls ∧ o'.data = o.data
theorem SimX.t {X : List Addr} {h h' : Heap} (a : SimX X h h') : SimT X h h' := fun b o hb e _ => a b o hb e
theorem SimT.refl (X : List Addr) (h : Heap) : SimT X h h := (SimX.refl X h).t
theorem SimT.trans {X : List Addr} {h₁ h₂ h₃ : Heap} (a : SimT X h₁ h₂) (b : SimT X h₂ h₃) : SimT X h₁ h₃ := fun c o hc e q => by
  obtain ⟨o₁, e₁, p, r⟩ := a c o hc e q
  obtain ⟨o₂, e₂, p', r'⟩ := b c o₁ hc e₁ (by rw [r]; exact q)
  exact ⟨o₂, e₂, p'.trans p, r'.trans r⟩
theorem SimT.mono {X Y : List Addr} {h h' : Heap} (a : SimT X h h') (hs : ∀ b, b ∈ X → b ∈ Y) : SimT Y h h' := fun b o hb e => a b o (fun q => hb (hs b q)) e
theorem IsList.simT {X : List Addr} {h h' : Heap} {a : Addr} {vs : Array Value} (x : h.IsList a vs) (k : SimT X h h') (ha : a ∉ X) : h'.IsList a vs := by
  obtain ⟨o, ho, hc, n, hd⟩ := x
  obtain ⟨o', ho', hc', hd'⟩ := k a o ha ho ⟨_, n, hd⟩
  exact ⟨o', ho', hc'.trans hc, n, hd'.trans hd⟩
theorem IsTuple.simT {X : List Addr} {h h' : Heap} {a : Addr} {vs : Array Value} (x : h.IsTuple a vs) (k : SimT X h h') (ha : a ∉ X) : h'.IsTuple a vs := by
  obtain ⟨o, ho, hc, n, hd⟩ := x
  obtain ⟨o', ho', hc', hd'⟩ := k a o ha ho ⟨_, n, hd⟩
  exact ⟨o', ho', hc'.trans hc, n, hd'.trans hd⟩

theorem IsList.sim {X : List Addr} {h h' : Heap} {a : Addr} {vs : Array Value} (x : h.IsList a vs) (k : SimX X h h') (ha : a ∉ X) : h'.IsList a vs := by
  obtain ⟨o, ho, hc, n, hd⟩ := x
  obtain ⟨o', ho', hc', hd'⟩ := k a o ha ho
  exact ⟨o', ho', hc'.trans hc, n, hd'.trans hd⟩
theorem Ns.sim {X : List Addr} {h h' : Heap} {a : Addr} {m : Str → Option Value} (x : h.Ns a m) (k : SimX X h h') (ha : a ∉ X) : h'.Ns a m := by
  obtain ⟨o, es, ep, ho, hd, r⟩ := x
  obtain ⟨o', ho', _, hd'⟩ := k a o ha ho
  exact ⟨o', es, ep, ho', hd'.trans hd, r⟩
theorem IsCell.sim {X : List Addr} {h h' : Heap} {a : Addr} {v : Option Value} (x : h.IsCell a v) (k : SimX X h h') (ha : a ∉ X) : h'.IsCell a v := by
  obtain ⟨o, ho, hd⟩ := x
  obtain ⟨o', ho', _, hd'⟩ := k a o ha ho
  exact ⟨o', ho', hd'.trans hd⟩

/-! the heap bears a deep value, off the addresses O -/
mutual
noncomputable def Rep (h : Heap) (O : List Addr) : PV → Value → Prop
  | .none, v => v = .none
  | .bool b, v => v = .bool b
  | .int i, v => ∃ t, v = .int i t
  | .str x, v => ∃ t, v = .str x t
  | .list xs, v => ∃ a vs, v = .ref a ∧ a ∉ O ∧ h.IsList a (List.toArray vs) ∧ RepL h O xs vs
  | .tup xs, v => ∃ a vs, v = .ref a ∧ a ∉ O ∧ h.IsTuple a (List.toArray vs) ∧ RepL h O xs vs
noncomputable def RepL (h : Heap) (O : List Addr) : List PV → List Value → Prop
  | [], vs => vs = []
  | x :: xs, vs => ∃ v vs', vs = v :: vs' ∧ Rep h O x v ∧ RepL h O xs vs'
end

mutual
theorem Rep.sim {h h' : Heap} {O : List Addr} (k : SimT O h h') : ∀ (V : PV) (v : Value), Rep h O V v → Rep h' O V v
  | .none, _, x => x
  | .bool _, _, x => x
  | .int _, _, x => x
  | .str _, _, x => x
  | .list xs, _, ⟨a, vs, e, ha, hl, hr⟩ => ⟨a, vs, e, ha, IsList.simT hl k ha, RepL.sim k xs vs hr⟩
  | .tup xs, _, ⟨a, vs, e, ha, hl, hr⟩ => ⟨a, vs, e, ha, IsTuple.simT hl k ha, RepL.sim k xs vs hr⟩
theorem RepL.sim {h h' : Heap} {O : List Addr} (k : SimT O h h') : ∀ (xs : List PV) (vs : List Value), RepL h O xs vs → RepL h' O xs vs
  | [], _, x => x
  | x :: xs, _, ⟨v, vs', e, hv, hr⟩ => ⟨v, vs', e, Rep.sim k x v hv, RepL.sim k xs vs' hr⟩
end

mutual
theorem Rep.less {h : Heap} {O O' : List Addr} (k : ∀ a, a ∈ O' → a ∈ O) : ∀ (V : PV) (v : Value), Rep h O V v → Rep h O' V v
  | .none, _, x => x
  | .bool _, _, x => x
  | .int _, _, x => x
  | .str _, _, x => x
  | .list xs, _, ⟨a, vs, e, ha, hl, hr⟩ => ⟨a, vs, e, fun q => ha (k a q), hl, RepL.less k xs vs hr⟩
  | .tup xs, _, ⟨a, vs, e, ha, hl, hr⟩ => ⟨a, vs, e, fun q => ha (k a q), hl, RepL.less k xs vs hr⟩
theorem RepL.less {h : Heap} {O O' : List Addr} (k : ∀ a, a ∈ O' → a ∈ O) : ∀ (xs : List PV) (vs : List Value), RepL h O xs vs → RepL h O' xs vs
  | [], _, x => x
  | x :: xs, _, ⟨v, vs', e, hv, hr⟩ => ⟨v, vs', e, Rep.less k x v hv, RepL.less k xs vs' hr⟩
end

theorem Rep.scalar {h h' : Heap} {O O' : List Addr} {V : PV} {v : Value} (hs : V.scalar = true) (x : Rep h O V v) : Rep h' O' V v := by
  cases V <;> first | exact x | (simp [PV.scalar] at hs)
theorem RepL.scalar {h h' : Heap} {O O' : List Addr} : ∀ {xs : List PV} {vs : List Value}, xs.all PV.scalar = true → RepL h O xs vs → RepL h' O' xs vs
  | [], _, _, x => x
  | x :: xs, _, hs, ⟨v, vs', e, hv, hr⟩ => by
    rw [List.all_cons, Bool.and_eq_true] at hs
    exact ⟨v, vs', e, Rep.scalar hs.1 hv, RepL.scalar hs.2 hr⟩
theorem RepL.length {h : Heap} {O : List Addr} : ∀ {xs : List PV} {vs : List Value}, RepL h O xs vs → vs.length = xs.length
  | [], _, x => by rw [show _ = [] from x]; rfl
  | x :: xs, _, ⟨v, vs', e, _, hr⟩ => by rw [e]; simp [RepL.length hr]
theorem RepL.nil {h : Heap} {O : List Addr} : RepL h O [] [] := rfl
theorem RepL.cons {h : Heap} {O : List Addr} {x : PV} {xs : List PV} {v : Value} {vs : List Value} (a : Rep h O x v) (b : RepL h O xs vs) : RepL h O (x :: xs) (v :: vs) := ⟨v, vs, rfl, a, b⟩
theorem RepL.get {h : Heap} {O : List Addr} : ∀ {xs : List PV} {vs : List Value} {i : Nat} {x : PV}, RepL h O xs vs → xs[i]? = some x → ∃ v, vs[i]? = some v ∧ Rep h O x v
  | [], _, _, _, _, e => by simp at e
  | x :: xs, _, 0, _, ⟨v, vs', e, hv, hr⟩, q => by
    simp at q; subst q; subst e; exact ⟨v, by simp, hv⟩
  | x :: xs, _, i + 1, y, ⟨v, vs', e, hv, hr⟩, q => by
    simp at q; subst e
    obtain ⟨w, h1, h2⟩ := RepL.get hr q
    exact ⟨w, by simpa using h1, h2⟩
theorem RepL.append {h : Heap} {O : List Addr} : ∀ {xs ys : List PV} {vs ws : List Value}, RepL h O xs vs → RepL h O ys ws → RepL h O (xs ++ ys) (vs ++ ws)
  | [], _, _, _, e, b => by rw [show _ = [] from e]; exact b
  | x :: xs, _, _, _, ⟨v, vs', e, hv, hr⟩, b => by subst e; exact ⟨v, vs' ++ _, rfl, hv, RepL.append hr b⟩
theorem RepL.take {h : Heap} {O : List Addr} : ∀ {xs : List PV} {vs : List Value} (n : Nat), RepL h O xs vs → RepL h O (xs.take n) (vs.take n)
  | _, _, 0, _ => by simp [RepL]
  | [], _, n + 1, e => by rw [show _ = [] from e]; simp [RepL]
  | x :: xs, _, n + 1, ⟨v, vs', e, hv, hr⟩ => by subst e; simp only [List.take_succ_cons]; exact RepL.cons hv (RepL.take n hr)
theorem RepL.drop {h : Heap} {O : List Addr} : ∀ {xs : List PV} {vs : List Value} (n : Nat), RepL h O xs vs → RepL h O (xs.drop n) (vs.drop n)
  | _, _, 0, x => by simpa using x
  | [], _, n + 1, e => by rw [show _ = [] from e]; simp [RepL]
  | x :: xs, _, n + 1, ⟨v, vs', e, hv, hr⟩ => by subst e; simp only [List.drop_succ_cons]; exact RepL.drop n hr
theorem RepL.snoc {h : Heap} {O : List Addr} {xs : List PV} {vs : List Value} {x : PV} {v : Value} (a : RepL h O xs vs) (b : Rep h O x v) : RepL h O (xs ++ [x]) (vs ++ [v]) := RepL.append a (RepL.cons b RepL.nil)
theorem RepL.replicate {h : Heap} {O : List Addr} {x : PV} {v : Value} (a : Rep h O x v) : ∀ n, RepL h O (List.replicate n x) (List.replicate n v)
  | 0 => by simp [RepL]
  | n + 1 => by simp only [List.replicate_succ]; exact RepL.cons a (RepL.replicate a n)
theorem RepL.set {h : Heap} {O : List Addr} : ∀ {xs : List PV} {vs : List Value} {x : PV} {v : Value} (i : Nat), RepL h O xs vs → Rep h O x v → RepL h O (xs.set i x) (vs.set i v)
  | [], _, _, _, _, e, _ => by rw [show _ = [] from e]; simp [RepL]
  | _ :: _, _, _, _, 0, ⟨_, _, e, _, hr⟩, b => by subst e; exact RepL.cons b hr
  | _ :: _, _, _, _, i + 1, ⟨_, _, e, hv, hr⟩, b => by subst e; exact RepL.cons hv (RepL.set i hr b)
theorem RepL.ints {h : Heap} {O : List Addr} : ∀ {xs : List PV} {vs : List Value} {ns : List Int}, RepL h O xs vs → intsOf xs = some ns → IntsAre vs ns
  | [], _, _, e, q => by
    rw [show _ = [] from e]; simp [intsOf] at q; subst q; exact .nil
  | x :: xs, _, ns, ⟨v, vs', e, hv, hr⟩, q => by
    cases x with
    | int a =>
      simp only [intsOf, Option.map_eq_some_iff] at q
      obtain ⟨ms, q1, q2⟩ := q
      obtain ⟨t, ht⟩ := hv
      subst q2 e ht
      exact .cons _ _ (RepL.ints hr q1)
    | _ => simp [intsOf] at q
theorem RepL.of_ints {h : Heap} {O : List Addr} : ∀ {vs : List Value} {ns : List Int}, IntsAre vs ns → RepL h O (ns.map .int) vs
  | _, _, .nil => rfl
  | _, _, .cons _ _ r => RepL.cons ⟨_, rfl⟩ (RepL.of_ints r)

/-- the frame holds v under the name x -/
noncomputable def Hold (env : Env) (h : Heap) (x : Str) (v : Value) : Prop := match env.kindOf x with
  | some .local => ∃ m, h.Ns env.locals m ∧ m x = some v
  | some .cell => ∃ c, env.cells.lookup x = some c ∧ h.IsCell c (some v)
  | some .free => ∃ c, env.cells.lookup x = some c ∧ h.IsCell c (some v)
  | _ => False
theorem Hold.sim {env : Env} {h h' : Heap} {x : Str} {v : Value} (a : Hold env h x v) (k : SimX [] h h') : Hold env h' x v := by
  unfold Hold at a ⊢
  split at a
  · obtain ⟨m, hm, e⟩ := a; exact ⟨m, Ns.sim hm k (by simp), e⟩
  · obtain ⟨c, hc, e⟩ := a; exact ⟨c, hc, IsCell.sim e k (by simp)⟩
  · obtain ⟨c, hc, e⟩ := a; exact ⟨c, hc, IsCell.sim e k (by simp)⟩
  · exact a.elim

/-- what an expression may ask of the frame -/
noncomputable def EnvE (env : Env) (h : Heap) (O : List Addr) (ρ : Rho) : Prop := ∀ x V o, ρ.lookup x = some (V, o) → ∃ v, Hold env h x v ∧ Rep h O V v
theorem EnvE.kp {env : Env} {s s' : Shared} {O F : List Addr} {ρ : Rho} (a : EnvE env s.heap O ρ) (k : Kp F s s') : EnvE env s'.heap O ρ := fun x V o e => by
  obtain ⟨v, hv, hr⟩ := a x V o e
  exact ⟨v, hv.sim (k.simX _), Rep.sim (k.simX _).t V v hr⟩
theorem Rep.kp {s s' : Shared} {O F : List Addr} {V : PV} {v : Value} (a : Rep s.heap O V v) (k : Kp F s s') : Rep s'.heap O V v := Rep.sim (k.simX _).t V v a
theorem RepL.kp {s s' : Shared} {O F : List Addr} {V : List PV} {v : List Value} (a : RepL s.heap O V v) (k : Kp F s s') : RepL s'.heap O V v := RepL.sim (k.simX _).t V v a
end Mine
end
section
namespace Mine
open PySem PySem.W PyProof.Rows
open PySem (sizeLine_eq)

mutual
theorem Rep.reads {h : Heap} {O : List Addr} : ∀ (V : PV) (v : Value), Rep h O V v → ∃ as, Reads h v V.toPy as
  | .none, v, e => by rw [show v = _ from e]; exact ⟨_, .none⟩
  | .bool b, v, e => by rw [show v = _ from e]; exact ⟨_, .bool b⟩
  | .int i, v, ⟨t, e⟩ => by rw [e]; exact ⟨_, .int i t⟩
  | .str x, v, ⟨t, e⟩ => by rw [e]; exact ⟨_, .str x t⟩
  | .list xs, v, ⟨a, vs, e, _, ⟨o, ho, hc, n, hd⟩, hr⟩ => by
    obtain ⟨as, q⟩ := RepL.reads xs vs hr
    rw [e]; exact ⟨_, .list ho hc hd (by simpa using q)⟩
  | .tup xs, v, ⟨a, vs, e, _, ⟨o, ho, hc, n, hd⟩, hr⟩ => by
    obtain ⟨as, q⟩ := RepL.reads xs vs hr
    rw [e]; exact ⟨_, .tuple ho hc hd (by simpa using q)⟩
theorem RepL.reads {h : Heap} {O : List Addr} : ∀ (xs : List PV) (vs : List Value), RepL h O xs vs → ∃ as, ReadsAll h vs (PV.toPyL xs) as
  | [], vs, e => by rw [show vs = [] from e]; exact ⟨_, .nil⟩
  | x :: xs, _, ⟨v, vs', e, hv, hr⟩ => by
    obtain ⟨as, q⟩ := Rep.reads x v hv
    obtain ⟨bs, q'⟩ := RepL.reads xs vs' hr
    rw [e]; exact ⟨_, .cons q q'⟩
end

theorem num0_lay {V : PV} (h : V.num0 = true) : V.toPy.canLay0 = true ∧ V.toPy.depth = 0 := by
  cases V <;> first | (simp [PV.num0] at h; done) | (simp [PV.toPy, PyData.canLay0, PyData.depth])
theorem num0L_lay : ∀ {xs : List PV}, xs.all PV.num0 = true → PyData.canLayAll0 (PV.toPyL xs) = true ∧ PyData.depthAll (PV.toPyL xs) = 0
  | [], _ => by simp [PV.toPyL, PyData.canLayAll0, PyData.depthAll]
  | x :: xs, h => by
    rw [List.all_cons, Bool.and_eq_true] at h
    have a := num0_lay h.1
    have b := num0L_lay h.2
    simp [PV.toPyL, PyData.canLayAll0, PyData.depthAll, a, b]
theorem num1_lay {V : PV} (h : V.num1 = true) : V.toPy.canLay0 = true ∧ V.toPy.depth ≤ 1 := by
  cases V with
  | list xs => have := num0L_lay (xs := xs) h; simp [PV.toPy, PyData.canLay0, PyData.depth, this]
  | tup xs => have := num0L_lay (xs := xs) h; simp [PV.toPy, PyData.canLay0, PyData.depth, this]
  | none => exact absurd h (by simp [PV.num1, PV.num0])
  | str _ => exact absurd h (by simp [PV.num1, PV.num0])
  | bool b => have := num0_lay (V := .bool b) rfl; exact ⟨this.1, by exact Nat.zero_le _⟩
  | int i => have := num0_lay (V := .int i) rfl; exact ⟨this.1, by exact Nat.zero_le _⟩
theorem num1L_lay : ∀ {xs : List PV}, xs.all PV.num1 = true → PyData.canLayAll0 (PV.toPyL xs) = true ∧ PyData.depthAll (PV.toPyL xs) ≤ 1
  | [], _ => by simp [PV.toPyL, PyData.canLayAll0, PyData.depthAll]
  | x :: xs, h => by
    rw [List.all_cons, Bool.and_eq_true] at h
    have a := num1_lay h.1
    have b := num1L_lay h.2
    simp only [PV.toPyL, PyData.canLayAll0, PyData.depthAll, a.1, b.1]
    refine ⟨rfl, ?_⟩
    have := a.2
    have := b.2
    lia
theorem num2_lay {V : PV} (h : V.num2 = true) : V.toPy.canLay0 = true ∧ V.toPy.depth ≤ 2 := by
  cases V with
  | list xs => have := num1L_lay (xs := xs) h; simp only [PV.toPy, PyData.canLay0, PyData.depth, this.1]; exact ⟨trivial, by have := this.2; lia⟩
  | tup xs => have := num1L_lay (xs := xs) h; simp only [PV.toPy, PyData.canLay0, PyData.depth, this.1]; exact ⟨trivial, by have := this.2; lia⟩
  | none => exact absurd h (by simp [PV.num2, PV.num0])
  | str _ => exact absurd h (by simp [PV.num2, PV.num0])
  | bool b => have := num0_lay (V := .bool b) rfl; exact ⟨this.1, by exact Nat.zero_le _⟩
  | int i => have := num0_lay (V := .int i) rfl; exact ⟨this.1, by exact Nat.zero_le _⟩

theorem intBits_small {a : Int} (h : a.natAbs < 2 ^ 500) : Builtin.Int.intBits a ≤ 500 := by
  unfold Builtin.Int.intBits
  split
  · exact Nat.zero_le _
  · rename_i hne
    have h0 : a.natAbs ≠ 0 := by simpa using hne
    have := (Nat.log2_lt h0).mpr h
    assumption
theorem mulOk_fits {a b : Int} (h : mulOk a b = true) : IntMulOk a b := by
  unfold mulOk at h
  rw [Bool.and_eq_true, decide_eq_true_eq, decide_eq_true_eq] at h
  have ha := intBits_small h.1
  have hb := intBits_small h.2
  unfold IntMulOk
  intro q
  rw [Bool.and_eq_true] at q
  have q2 := q.2
  unfold Builtin.Int.intTooBig at q2
  have : bitsLine = 134217728 := by decide
  simp [this] at q2
  lia

section
variable {prog : Program} {w : World} {A : Around} {E : Value → Shared → Prop} {s : Shared} {O : List Addr} {Q : Value → Shared → Prop}

theorem sz_1000 : (1000 : Nat) ≤ sizeLine := by rw [sizeLine_eq]; decide
theorem not_old {O : List Addr} {h : Heap} (hO : ∀ a, a ∈ O → ∃ o, h.get? a = some o) {a : Addr} (ha : h.objs.size ≤ a) : a ∉ O := fun q => by
  obtain ⟨o, ho⟩ := hO a q
  exact absurd (Heap.lt_size ho) (Nat.not_lt.mpr ha)

theorem op_add_lists {l b : Addr} {vs ws : List Value} (hl : s.heap.IsList l vs.toArray) (hb : s.heap.IsList b ws.toArray) (hsz : vs.length + ws.length ≤ sizeLine)
    (h : Q (.ref s.heap.objs.size) { s with heap := s.heap.push { cls := .type "list", data := .seq (vs ++ ws).toArray } }) : wpAny (model prog w) A (binaryOp .Add (.ref l) (.ref b)) Q E s := by
  obtain ⟨⟨_, dd, _, sl⟩, ho, hc, n, hd⟩ := id hl
  obtain ⟨⟨_, dd2, _, sl2⟩, ho2, hc2, n2, hd2⟩ := id hb
  dsimp only at hc hd hc2 hd2
  subst hc hd hc2 hd2
  refine concat_meets ⟨_, ho, rfl⟩ ⟨_, ho2, rfl⟩ noFill_list_add seq_list_add PySem.F.slot_list_add PySem.F.entry_list_add (PySem.F.args_list_add_2 _ _)
    (list_addW l b vs.toArray ws.toArray n n2 dd dd2 sl sl2 (by simpa using hsz)) ⟨ho, ho2, ?_⟩
  rw [show vs.toArray ++ ws.toArray = (vs ++ ws).toArray by simp]
  exact h

theorem new_list {O : List Addr} {s : Shared} (hO : ∀ a, a ∈ O → ∃ o, s.heap.get? a = some o) {xs : List PV} {vs : List Value} (hr : RepL s.heap O xs vs) :
    Rep (s.heap.push { cls := .type "list", data := .seq vs.toArray }) O (.list xs) (.ref s.heap.objs.size) :=
  ⟨_, vs, rfl, not_old hO (Nat.le_refl _), ⟨_, Heap.get?_push_size _ rfl, rfl, _, rfl⟩, RepL.sim ((Kp.push (F := []) s _).simX _).t xs vs hr⟩

theorem bin_ok {op : Operator} {a b V : PV} {va vb : Value} (hO : ∀ a, a ∈ O → ∃ o, s.heap.get? a = some o) (e : binO op a b = some V) (ra : Rep s.heap O a va) (rb : Rep s.heap O b vb)
    (h : ∀ v s', Kp [] s s' → Rep s'.heap O V v → Q v s') : wpAny (model prog w) A (binaryOp op va vb) Q E s := by
  cases op with
  | Add =>
    cases hL : isL a with
    | true =>
      have e : catO a b = some V := by
        have e' : (bif isL a then catO a b else addI a b) = some V := e
        rwa [hL] at e'
      unfold catO at e
      split at e
      · obtain ⟨l, vs, rfl, _, hl, hr⟩ := ra
        obtain ⟨m, ws, rfl, _, hm, hr'⟩ := rb
        split at e
        · rename_i hsz
          cases e
          refine op_add_lists hl hm (Nat.le_trans (by rw [hr.length, hr'.length]; exact hsz) sz_1000) (h _ _ (Kp.push _ _ _) ?_)
          exact new_list hO (hr.append hr')
        · cases e
      · cases e
    | false =>
      have e : addI a b = some V := by
        have e' : (bif isL a then catO a b else addI a b) = some V := e
        rwa [hL] at e'
      obtain ⟨i, j, rfl, rfl, e2⟩ := two_some e; replace e := e2; clear e2
      obtain ⟨t, rfl⟩ := ra; obtain ⟨u, rfl⟩ := rb; cases e
      exact PySem.P.add_int (h _ _ (Kp.tok _ _ _) ⟨_, rfl⟩)
  | Sub =>
    obtain ⟨i, j, rfl, rfl, e2⟩ := two_some e; replace e := e2; clear e2
    obtain ⟨t, rfl⟩ := ra; obtain ⟨u, rfl⟩ := rb; cases e
    exact PySem.P.sub_int (h _ _ (Kp.tok _ _ _) ⟨_, rfl⟩)
  | Mult =>
    obtain ⟨i, j, rfl, rfl, e2⟩ := two_some e; replace e := e2; clear e2
    obtain ⟨t, rfl⟩ := ra; obtain ⟨u, rfl⟩ := rb
    split at e
    · rename_i hm
      cases e
      exact PySem.P.mul_int (h _ _ (Kp.tok _ _ _) ⟨_, rfl⟩) (mulOk_fits hm)
    · cases e
  | FloorDiv =>
    obtain ⟨i, b, rfl, rfl, e2⟩ := two_some e; replace e := e2; clear e2
    obtain ⟨t, rfl⟩ := ra; obtain ⟨u, rfl⟩ := rb
    split at e
    · cases e
    · rename_i hb
      split at e
      · rename_i hs
        cases e
        refine floordiv_int hb (h _ _ (Kp.tok _ _ _) ⟨_, rfl⟩) (Or.inl (PyProof.noPylong_of_log2 ?_))
        by_cases h0 : b.natAbs = 0
        · rw [h0]; decide
        · have := (Nat.log2_lt h0).mpr hs
          lia
      · cases e
  | Mod =>
    obtain ⟨i, j, rfl, rfl, e2⟩ := two_some e; replace e := e2; clear e2
    obtain ⟨t, rfl⟩ := ra; obtain ⟨u, rfl⟩ := rb
    split at e
    · cases e
    · rename_i hb; cases e
      exact mod_int' hb (h _ _ (Kp.tok _ _ _) ⟨_, rfl⟩)
  | _ => cases e

noncomputable def hitI (x : Int) : Value → Bool
  | .int y _ => y == x
  | _ => false
noncomputable def hitS (x : Str) : Value → Bool
  | .str y _ => y == x
  | _ => false
theorem in_ints {x : Int} : ∀ {vs : List Value} {ns : List Int}, IntsAre vs ns → vs.any (hitI x) = ns.any (fun b => b == x)
  | _, _, .nil => rfl
  | _, _, .cons _ _ r => by rw [List.any_cons, List.any_cons, in_ints r]; rfl
theorem RepL.strs {h : Heap} {O : List Addr} {x : Str} : ∀ {xs : List PV} {vs : List Value} {ss : List Str}, RepL h O xs vs → strsOf xs = some ss → (∀ v ∈ vs, ∃ y t, v = .str y t) ∧ vs.any (hitS x) = ss.any (fun b => b == x)
  | [], _, _, e, q => by
    rw [show _ = [] from e]; simp [strsOf] at q; subst q; simp
  | x' :: xs, _, ss, ⟨v, vs', e, hv, hr⟩, q => by
    cases x' with
    | str a =>
      simp only [strsOf, Option.map_eq_some_iff] at q
      obtain ⟨ms, q1, q2⟩ := q
      obtain ⟨t, ht⟩ := hv
      subst q2 e ht
      obtain ⟨i1, i2⟩ := RepL.strs (x := x) hr q1
      refine ⟨fun v hv => ?_, by rw [List.any_cons, List.any_cons, i2]; rfl⟩
      rcases List.mem_cons.mp hv with rfl | hv
      · exact ⟨_, _, rfl⟩
      · exact i1 v hv
    | _ => simp [strsOf] at q

theorem beqO_some {x y : PV} {c : Bool} (h : beqO x y = some c) : (∃ a b, x = .str a ∧ y = .str b ∧ c = (a == b)) ∨ (x.num2 = true ∧ y.num2 = true ∧ c = PyData.eqv x.toPy y.toPy) := by
  unfold beqO at h
  split at h
  · rename_i c' hs
    cases h
    unfold strs2 at hs
    split at hs
    · cases hs; exact .inl ⟨_, _, rfl, rfl, rfl⟩
    · cases hs
  · split at h
    · rename_i hn
      rw [Bool.and_eq_true] at hn
      cases h
      exact .inr ⟨hn.1, hn.2, rfl⟩
    · cases h
theorem eq_ok {x y : PV} {c : Bool} {vx vy : Value} (hu : A.units + 8 < cLine) (hb : beqO x y = some c) (rx : Rep s.heap O x vx) (ry : Rep s.heap O y vy) (hq : Q (.bool c) s) : wpAny (model prog w) A (compareOp .Eq vx vy) Q E s := by
  rcases beqO_some hb with ⟨a, b, rfl, rfl, rfl⟩ | ⟨h1, h2, rfl⟩
  · obtain ⟨t, rfl⟩ := rx; obtain ⟨u, rfl⟩ := ry
    exact eq_str hq
  · obtain ⟨as, q1⟩ := Rep.reads _ _ rx
    obtain ⟨bs, q2⟩ := Rep.reads _ _ ry
    have l1 := num2_lay h1
    have l2 := num2_lay h2
    exact SeqAt.compareEq_reads q1 q2 l1.1 l2.1 (by have := l1.2; lia) hq
theorem ne_ok {x y : PV} {c : Bool} {vx vy : Value} (hu : A.units + 8 < cLine) (hb : beqO x y = some c) (rx : Rep s.heap O x vx) (ry : Rep s.heap O y vy) (hq : Q (.bool (!c)) s) : wpAny (model prog w) A (compareOp .NotEq vx vy) Q E s := by
  rcases beqO_some hb with ⟨a, b, rfl, rfl, rfl⟩ | ⟨h1, h2, rfl⟩
  · obtain ⟨t, rfl⟩ := rx; obtain ⟨u, rfl⟩ := ry
    exact ne_str (by simpa [bne] using hq)
  · obtain ⟨as, q1⟩ := Rep.reads _ _ rx
    obtain ⟨bs, q2⟩ := Rep.reads _ _ ry
    have l1 := num2_lay h1
    have l2 := num2_lay h2
    exact SeqAt.compareNe_reads q1 q2 l1.1 l2.1 (by have := l1.2; lia) hq
theorem in_ok {a b : PV} {r : Bool} {va vb : Value} (e : inL a b = some r) (ra : Rep s.heap O a va) (rb : Rep s.heap O b vb) (h : Q (.bool r) s) : wpAny (model prog w) A (compareOp .In va vb) Q E s := by
  unfold inL at e
  split at e
  · obtain ⟨l, vs, rfl, _, hl, hr⟩ := rb
    unfold inO at e
    split at e
    · obtain ⟨t, rfl⟩ := ra
      obtain ⟨ns, hns, rfl⟩ := Option.map_eq_some_iff.mp e
      have hi := RepL.ints hr hns
      refine SeqAt.in_listAt (hitI _) hl (fun y hy => ?_) (by rw [List.any_toArray, in_ints hi]; exact h)
      obtain ⟨n, u, rfl⟩ := IntsAre.all hi y (by simpa using hy)
      exact SeqAt.EqAt.int_int _ _ _ _
    · obtain ⟨t, rfl⟩ := ra
      obtain ⟨ns, hns, rfl⟩ := Option.map_eq_some_iff.mp e
      obtain ⟨i1, i2⟩ := RepL.strs hr hns
      refine SeqAt.in_listAt (hitS _) hl (fun y hy => ?_) (by rw [List.any_toArray, i2]; exact h)
      obtain ⟨n, u, rfl⟩ := i1 y (by simpa using hy)
      exact SeqAt.EqAt.str_str _ _ _ _
    · cases e
  · cases e
theorem isN_ok {h : Heap} {a : PV} {va : Value} (e : isN a = true) (ra : Rep h O a va) : va = .none := by
  unfold isN at e
  split at e
  · exact ra
  · cases e
theorem cmp_ok {op : CmpOp} {a b : PV} {r : Bool} {va vb : Value} (hu : A.units + 8 < cLine) (e : cmpO op a b = some r) (ra : Rep s.heap O a va) (rb : Rep s.heap O b vb)
    (h : Q (.bool r) s) : wpAny (model prog w) A (compareOp op va vb) Q E s := by
  cases op with
  | Lt => obtain ⟨i, j, rfl, rfl, e2⟩ := two_some e; replace e := e2; clear e2; obtain ⟨t, rfl⟩ := ra; obtain ⟨u, rfl⟩ := rb; cases e; exact PySem.P.lt_int h
  | LtE => obtain ⟨i, j, rfl, rfl, e2⟩ := two_some e; replace e := e2; clear e2; obtain ⟨t, rfl⟩ := ra; obtain ⟨u, rfl⟩ := rb; cases e; exact PySem.P.le_int h
  | Gt => obtain ⟨i, j, rfl, rfl, e2⟩ := two_some e; replace e := e2; clear e2; obtain ⟨t, rfl⟩ := ra; obtain ⟨u, rfl⟩ := rb; cases e; exact PySem.P.gt_int h
  | GtE => obtain ⟨i, j, rfl, rfl, e2⟩ := two_some e; replace e := e2; clear e2; obtain ⟨t, rfl⟩ := ra; obtain ⟨u, rfl⟩ := rb; cases e; exact PySem.P.ge_int h
  | Eq => exact eq_ok hu e ra rb h
  | NotEq =>
    obtain ⟨c, hc, rfl⟩ := Option.map_eq_some_iff.mp e
    exact ne_ok hu hc ra rb h
  | In => exact in_ok e ra rb h
  | IsNot =>
    have e' : (bif isN a && isN b then some false else none) = some r := e
    cases hn : isN a && isN b with
    | false => rw [hn] at e'; cases e'
    | true =>
      rw [hn] at e'
      cases e'
      rw [Bool.and_eq_true] at hn
      have ha := isN_ok hn.1 ra
      have hb := isN_ok hn.2 rb
      subst hb ha
      exact fun _ _ _ => h
  | _ => cases e
end
end Mine
end
section
namespace Mine
open PySem PySem.W PyProof.Rows

/-- the exception e in the heap: raised while none was handled -/
noncomputable def HdE (h : Heap) (e : Addr) : Prop := ∃ o vs, h.get? e = some o ∧ o.data = .fields vs ∧ vs[2]? = some .none
theorem HdE.at {h h' : Heap} {e : Addr} (a : HdE h e) (k : ∀ o, h.get? e = some o → h'.get? e = some o) : HdE h' e := let ⟨o, vs, ho, r⟩ := a; ⟨o, vs, k o ho, r⟩
theorem HdE.sim {h h' : Heap} {e : Addr} (a : HdE h e) (k : SimX [] h h') : HdE h' e := by
  obtain ⟨o, vs, ho, hd, r⟩ := a
  obtain ⟨o', ho', _, hd'⟩ := k e o (by simp) ho
  exact ⟨o', vs, ho', hd'.trans hd, r⟩
/-- nothing is handled, or one such exception -/
noncomputable def HdOK (A : Around) (h : Heap) : Prop := A.handled = none ∨ ∃ e, A.handled = some (.ref e) ∧ HdE h e
theorem HdOK.sim {A : Around} {h h' : Heap} (a : HdOK A h) (k : SimX [] h h') : HdOK A h' := a.elim .inl fun ⟨e, q, r⟩ => .inr ⟨e, q, r.sim k⟩
noncomputable def hfp (A : Around) : List Addr := match A.handled with
  | some (.ref e) => [e]
  | _ => []
theorem HdOK.at {A : Around} {h h' : Heap} (a : HdOK A h) (k : ∀ b ∈ hfp A, ∀ o, h.get? b = some o → h'.get? b = some o) : HdOK A h' :=
  a.elim .inl fun ⟨e, q, r⟩ => .inr ⟨e, q, r.at fun o ho => k e (by simp [hfp, q]) o ho⟩
theorem HdOK.ex {A : Around} {h : Heap} (a : HdOK A h) : ∀ b ∈ hfp A, ∃ o, h.get? b = some o := fun b hb => by
  rcases a with q | ⟨e, q, o, vs, ho, _⟩
  · simp [hfp, q] at hb
  · simp [hfp, q] at hb; subst hb; exact ⟨o, ho⟩
theorem HdOK.lt {A : Around} {h : Heap} (a : HdOK A h) : ∀ b ∈ hfp A, b < h.objs.size := fun b hb => by
  rcases a with q | ⟨e, q, o, vs, ho, _⟩
  · simp [hfp, q] at hb
  · simp [hfp, q] at hb; subst hb; exact Heap.lt_size ho

theorem entry_unchain : entryFor table "proto.unchain" = some Builtin.«proto.unchain» := entryFor_of_fast (by kernel_rfl)

section
variable {prog : Program} {w : World} {A : Around} {s : Shared}

theorem wp_raiseNew {α : Type} {e : Addr} {o : Obj} {vs : Array Value} {Q : α → Shared → Prop} {E : Value → Shared → Prop} (hd : HdOK A s.heap) (he : s.heap.get? e = some o) (hf : o.data = .fields vs) (hsz : 2 < vs.size)
    (hne : ∀ x, A.handled = some (.ref x) → x ≠ e) (h : ∀ h', Heap.SameBut e s.heap h' → (∃ o', h'.get? e = some o' ∧ o'.cls = o.cls) → E (.ref e) { s with heap := h' }) :
    wpAny (model prog w) A (raiseNew (.ref e) : Sem α) Q E s := by
  unfold raiseNew
  refine wpAny_bind (wpAny_handled ?_)
  rcases hd with q | ⟨x, q, ox, vx, hox, hdx, h2⟩
  · rw [q]
    exact wpAny_bind (wpAny_pure (wpAny_throw (h _ (Heap.SameBut.refl _ _) ⟨o, he, rfl⟩)))
  · rw [q]
    have hx := hne x q
    show wpAny _ _ (if (Value.ref x != Value.ref e) = true then _ else _) _ _ _
    rw [if_pos (by simpa using hx)]
    refine wpAny_bind (wpAny_holding (wpAny_runValue (codeAny_builtin entry_unchain ?_)))
    show wpAny _ _ (field (.ref x) 2 >>= _) _ _ _
    refine wpAny_bind (wpAny_field hox hdx h2 ?_)
    show wpAny _ _ (if (Value.none == Value.none) = true then _ else _) _ _ _
    rw [if_pos (by decide)]
    refine wpAny_bind (wpAny_pure ?_)
    refine wpAny_pure ?_
    show wpAny _ _ (updateField e 2 (.ref x) >>= _) _ _ s
    refine wpAny_bind ?_
    unfold updateField
    refine wpAny_bind (wpAny_load he ?_)
    rw [hf]
    show wpAny _ _ (if 2 < vs.size then _ else _) _ _ s
    rw [if_pos hsz]
    refine wpAny_update he ?_
    refine wpAny_throw (h _ (Heap.SameBut.update ..) ⟨_, Heap.get?_update_self _ he (Obj.isFreed_of_fields (Obj.data_mapFields hf _)), Obj.cls_mapFields _ _⟩)

/-- the end of an iterator's turn: StopIteration, and the walk goes on -/
theorem wp_stop {α : Type} {Q : α → Shared → Prop} {E : Value → Shared → Prop} (hd : HdOK A s.heap)
    (h : ∀ e h', (∀ b o, s.heap.get? b = some o → h'.get? b = some o) → (∃ o', h'.get? e = some o' ∧ o'.cls = .type "StopIteration") → E (.ref e) { s with heap := h' }) :
    wpAny (model prog w) A (newExc (.type "StopIteration") []) (fun e s' => wpAny (model prog w) A (raiseNew e : Sem α) Q E s') E s := by
  simp only [newExc, newTuple]
  refine wpAny_bind (wpAny_newObj_type ?_ (by size_fits))
  refine wpAny_bind (m := firstArgMember _ _) (wpAny_of_eq (a := Value.none) (by first | rfl | (simp only [firstArgMember]; rfl)) ?_)
  refine wpAny_newObj_type ?_ (by size_fits)
  have k : ∀ b o, s.heap.get? b = some o → ((s.heap.push { cls := .type "tuple", data := .seq ([] : List Value).toArray }).push
      { cls := .type "StopIteration", data := .fields (#[Value.ref s.heap.objs.size, Value.none, Value.none, Value.none, Value.bool false, Value.none] ++ ownMembersOf (.type "StopIteration") []) }).get? b = some o :=
    fun b o e => Heap.get?_push_of_some _ (Heap.get?_push_of_some _ e)
  have hsz : (s.heap.push { cls := .type "tuple", data := .seq ([] : List Value).toArray }).objs.size = s.heap.objs.size + 1 := Heap.size_push ..
  refine wp_raiseNew (s := { s with heap := _ }) (hd.at fun b _ o e => k b o e) (Heap.get?_push_size _ rfl) rfl (by simp; decide) (fun x q => ?_) fun h' hs he => ?_
  · rcases hd with q' | ⟨y, q', o, _, ho, _⟩
    · rw [q'] at q; cases q
    · rw [q'] at q; cases q
      exact Nat.ne_of_lt (Nat.lt_of_lt_of_le (Heap.lt_size ho) (Nat.le_trans (Nat.le_succ _) (Nat.le_of_eq hsz.symm)))
  · exact h _ h' (fun b o e => (hs.2 b (Nat.ne_of_lt (Nat.lt_of_lt_of_le (Heap.lt_size e) (Nat.le_trans (Nat.le_succ _) (Nat.le_of_eq hsz.symm))))).trans (k b o e)) he

theorem wp_listEnd {it l : Addr} {i : Nat} {items : Array Value} {Q : Option Value → Shared → Prop} {E : Value → Shared → Prop} (hh : HdOK A s.heap) (hni : it ∉ hfp A)
    (hit : s.heap.IsListIter it l i) (hl : s.heap.IsList l items) (hx : items[i]? = none)
    (hQ : ∀ h', Heap.ExtBut it s.heap h' → Q none { s with heap := h' }) : wpAny (model prog w) A (pyNext (.ref it)) Q E s := by
  obtain ⟨o, ho, hc, hd⟩ := id hit
  obtain ⟨ol, hol, _, nl, hdl⟩ := hl
  unfold pyNext
  refine wpAny_bind (wpAny_attempt (wpAny_callSpecial?_slot (name := Str.ofString "__next__") hit.typeIs slot_listiter_next
    (wpAny_call_entry slot_listiter_next hit.typeIs entry_listiter_next ?_ (args_listiter_next _))))
  show wpAny _ _ (field (.ref it) 0 >>= _) _ _ s
  refine wpAny_bind (wpAny_field ho hd (x := .ref l) rfl ?_)
  show wpAny _ _ (if (Value.ref l == Value.none) = true then _ else _) _ _ s
  rw [if_neg (show ¬ ((Value.ref l == Value.none) = true) from Bool.false_ne_true)]
  show wpAny _ _ (field (.ref it) 1 >>= _) _ _ s
  refine wpAny_bind (wpAny_field ho hd (x := .int i 0) rfl ?_)
  show wpAny _ _ (seqItems? (.ref l) >>= _) _ _ s
  refine wpAny_bind (wpAny_seqItems hol hdl ?_)
  simp only [Int.toNat_natCast, hx]
  refine wpAny_bind (wpAny_rule (wpAny_bind (wpAny_setField ho hd (by simp) ?_)))
  have hup := Heap.SameBut.update s.heap it (Obj.mapFields (·.setIfInBounds 0 Value.none))
  refine wpAny_bind (wp_stop (A := A.in1) (s := { s with heap := _ }) ?_ fun e h' k he => ?_)
  · exact HdOK.at (A := A) hh fun b hb o e => (hup.2 b (fun q => hni (q ▸ hb))).trans e
  · refine wpAny_bind (wpAny_isInstance (T := "StopIteration") (b := true) he isSubtype_stop ?_)
    exact wpAny_pure (hQ _ fun b o hb e => k b o ((hup.2 b hb).trans e))

theorem wp_rangeEnd {it : Addr} {x left step : Int} {Q : Option Value → Shared → Prop} {E : Value → Shared → Prop} (hh : HdOK A s.heap) (hit : IsRangeIter s.heap it x left step) (hleft : left ≤ 0)
    (hQ : ∀ h', (∀ b o, s.heap.get? b = some o → h'.get? b = some o) → Q none { s with heap := h' }) : wpAny (model prog w) A (pyNext (.ref it)) Q E s := by
  have hT : s.TypeIs (.ref it) "range_iterator" := ⟨_, hit, rfl⟩
  unfold pyNext
  refine wpAny_bind (wpAny_attempt (wpAny_callSpecial?_slot (name := Str.ofString "__next__") hT F.slot_range_iterator_next
    (wpAny_call_entry F.slot_range_iterator_next hT F.entry_range_iterator_next ?_ (F.args_range_iterator_next_1 _))))
  show wpAny _ _ (field (.ref it) 0 >>= _) _ _ s
  refine wpAny_bind (wpAny_field hit rfl (x := rawInt x) rfl ?_)
  show wpAny _ _ (field (.ref it) 1 >>= _) _ _ s
  refine wpAny_bind (wpAny_field hit rfl (x := rawInt left) rfl ?_)
  show wpAny _ _ (field (.ref it) 2 >>= _) _ _ s
  refine wpAny_bind (wpAny_field hit rfl (x := rawInt step) rfl ?_)
  show wpAny _ _ (if left ≤ 0 then _ else _) _ _ s
  rw [if_pos hleft]
  refine wpAny_bind (wpAny_rule ?_)
  refine wpAny_bind ?_
  show wpAny _ _ (newExc (.type "StopIteration") [] >>= _) _ _ _
  refine wpAny_bind (wp_stop (A := A.in1) (s := s) hh fun e h' k he => ?_)
  refine wpAny_bind (wpAny_isInstance (T := "StopIteration") (b := true) he isSubtype_stop ?_)
  exact wpAny_pure (hQ _ k)

theorem walksList (I ax : Addr) (hne : ax ≠ I) (hI : I ∉ hfp A) (items : Array Value) :
    Walks prog w A I (I :: ax :: hfp A) [I] items.size (fun i v => items[i]? = some v) (fun i h => h.IsListIter I ax i ∧ h.IsList ax items ∧ HdOK A h) where
  sub := fun b hb => by simp at hb; simp [hb]
  frame := fun _ _ _ st hk => ⟨st.1.at fun o e => hk I (by simp) o e, st.2.1.at fun o e => hk ax (by simp) o e, st.2.2.at fun b hb o e => hk b (by simp [hb]) o e⟩
  item := fun i s Q E hi st hQ => by
    refine wpAny_pyNext_list_item st.1 st.2.1 (x := items[i]) (by simp [hi]) fun h' hit' hs' => ?_
    exact hQ _ h' s.toks (by simp [hi]) ⟨hit', st.2.1.extBut hs'.extBut hne, st.2.2.at fun b hb o e => (hs'.2 b (fun q => hI (q ▸ hb))).trans e⟩ fun b o hb e => hs'.extBut b o (fun h => hb (by simp [h])) e
  done := fun s Q E st hQ => wp_listEnd st.2.2 hI st.1 st.2.1 (by simp) fun h' he' => hQ h' s.toks fun b o hb e => he' b o (fun h => hb (by simp [h])) e
  self := fun _ _ _ _ st hQ => wpAny_pyIter_listiter st.1 hQ

theorem walksRange (I : Addr) (hI : I ∉ hfp A) (a : Int) (n : Nat) :
    Walks prog w A I (I :: hfp A) [I] n (fun i v => ∃ t, v = .int (a + i) t) (fun i h => IsRangeIter h I (a + i) ((n : Int) - i) 1 ∧ HdOK A h) where
  sub := fun b hb => by simp at hb; simp [hb]
  frame := fun _ _ _ st hk => ⟨hk I (by simp) _ st.1, st.2.at fun b hb o e => hk b (by simp [hb]) o e⟩
  item := fun i s Q E hi st hQ => by
    refine wpAny_pyNext_range_item st.1 (by lia) fun h' hit' hs' => ?_
    refine hQ _ h' _ ⟨_, rfl⟩ ⟨?_, st.2.at fun b hb o e => (hs'.2 b (fun q => hI (q ▸ hb))).trans e⟩ fun b o hb e => hs'.extBut b o (fun h => hb (by simp [h])) e
    have e1 : a + ((i + 1 : Nat) : Int) = a + (i : Int) + 1 := by lia
    have e2 : (n : Int) - ((i + 1 : Nat) : Int) = (n : Int) - (i : Int) - 1 := by lia
    rw [e1, e2]; exact hit'
  done := fun s Q E st hQ => wp_rangeEnd st.2 st.1 (by lia) fun h' he' => hQ h' s.toks fun b o hb e => he' b o e
  self := fun _ s Q E st hQ => by
    exact wpAny_pyIter_rangeiter st.1 hQ
end
end Mine
end
section
namespace Mine
open PySem PySem.W PyProof.Rows

theorem insI_perm (a : Int) : ∀ l : List Int, (insI a l).Perm (a :: l)
  | [] => .refl _
  | b :: r => by
    unfold insI
    split
    · exact .refl _
    · exact ((insI_perm a r).cons b).trans (.swap a b r)
theorem sortI_perm : ∀ l : List Int, (sortI l).Perm l
  | [] => .refl _
  | a :: r => (insI_perm a (sortI r)).trans ((sortI_perm r).cons a)
theorem insI_sorted (a : Int) : ∀ l : List Int, l.Pairwise (· ≤ ·) → (insI a l).Pairwise (· ≤ ·)
  | [], _ => by simp [insI]
  | b :: r, h => by
    unfold insI
    have h' := List.pairwise_cons.mp h
    split
    · rename_i hab
      refine List.pairwise_cons.mpr ⟨fun c hc => ?_, h⟩
      rcases List.mem_cons.mp hc with rfl | hc
      · exact hab
      · exact Int.le_trans hab (h'.1 c hc)
    · rename_i hab
      refine List.pairwise_cons.mpr ⟨fun c hc => ?_, insI_sorted a r h'.2⟩
      rcases List.mem_cons.mp ((insI_perm a r).mem_iff.mp hc) with rfl | hc
      · lia
      · exact h'.1 c hc
theorem sortI_sorted : ∀ l : List Int, (sortI l).Pairwise (· ≤ ·)
  | [] => .nil
  | a :: r => insI_sorted a _ (sortI_sorted r)
theorem sortI_unique {l m : List Int} (hp : m.Perm l) (hs : m.Pairwise (· ≤ ·)) : m = sortI l :=
  List.Perm.eq_of_pairwise (le := (· ≤ ·)) (fun _ _ _ _ h1 h2 => Int.le_antisymm h1 h2) hs (sortI_sorted l) (hp.trans (sortI_perm l).symm)

theorem preSum_of : ∀ (ns : List Int) (val : Nat → Int) (k : Nat), (∀ i n, ns[i]? = some n → val (k + i) = n) → preSum val (k + ns.length) = preSum val k + ns.sum
  | [], _, _, _ => by simp
  | n :: r, val, k, h => by
    have h0 := h 0 n (by simp)
    have := preSum_of r val (k + 1) fun i m hm => by
      have := h (i + 1) m (by simpa using hm)
      rwa [show k + (i + 1) = k + 1 + i by (clear h h0 hm this; lia)] at this
    rw [List.length_cons, show k + (r.length + 1) = k + 1 + r.length by (clear h h0 this; lia), this, List.sum_cons]
    show preSum val k + val k + r.sum = _
    rw [show val k = n from by simpa using h0]; lia

section
variable {prog : Program} {w : World} {A : Around} {E : Value → Shared → Prop} {s : Shared} {O : List Addr} {Q : Value → Shared → Prop}

theorem call_sum_ok {l : Addr} {vs : List Value} {ns : List Int} (hd : HdOK A s.heap) (hl : s.heap.IsList l vs.toArray) (hi : IntsAre vs ns)
    (h : ∀ v s', Kp [] s s' → (∃ t, v = .int ns.sum t) → Q v s') : wpAny (model prog w) A (call (.builtin "sum") [.ref l]) Q E s := by
  refine call_sum_walkG (wpAny_pyIter_list hl ?_)
  have hne : l ≠ s.heap.objs.size := by obtain ⟨o, ho, _⟩ := hl; exact Nat.ne_of_lt (Heap.lt_size ho)
  have hI : s.heap.objs.size ∉ hfp A := fun q => absurd (hd.lt _ q) (Nat.lt_irrefl _)
  have W := walksList (prog := prog) (w := w) (A := A.in1) s.heap.objs.size l hne hI vs.toArray
  refine ⟨s.heap.objs.size, _, _, _, _, _, (fun i => ns.getD i 0), rfl, W, ⟨⟨_, Heap.get?_push_size _ rfl, rfl, rfl⟩, hl.push _, ?_⟩, ?_, ?_, ?_⟩
  · exact HdOK.at (A := A.in1) hd fun b _ o e => Heap.get?_push_of_some _ e
  · intro b hb
    rw [Heap.size_push]
    rcases List.mem_cons.mp hb with rfl | hb
    · exact Nat.lt_succ_self _
    · rcases List.mem_cons.mp hb with rfl | hb
      · obtain ⟨o, ho, _⟩ := hl; exact Nat.lt_succ_of_lt (Heap.lt_size ho)
      · exact Nat.lt_succ_of_lt (hd.lt _ hb)
  · intro i v hv
    have hv' : vs[i]? = some v := by simpa using hv
    obtain ⟨n, u, e⟩ := IntsAre.all hi v (List.mem_of_getElem? hv')
    have hlen := hi.length
    have hlt : i < vs.length := (List.getElem?_eq_some_iff.mp hv').1
    obtain ⟨t, ht⟩ := hi.get i (ns[i]'(by lia)) (by simp)
    rw [hv'] at ht
    cases ht
    exact ⟨t, by simp [List.getD, show i < ns.length by (clear hd hl hi h hne hI W hv hv' e; lia)]⟩
  · intro h' tk t' hk
    refine h _ _ (Kp.of fun b o e => hk b o ?_ (Heap.get?_push_of_some _ e)) ⟨t', ?_⟩
    · simp only [List.mem_singleton]; exact Nat.ne_of_lt (Heap.lt_size e)
    · have := preSum_of ns (fun i => ns.getD i 0) 0 (fun i n hn => by simp [hn])
      have hlen : vs.toArray.size = ns.length := by simp [hi.length]
      rw [hlen]
      simp only [Nat.zero_add] at this
      rw [this]; simp [preSum]

theorem list1_ok {h : Heap} {as xs : List PV} {vs : List Value} (e : list1 as = some xs) (ra : RepL h O as vs) : ∃ l ws, vs = [.ref l] ∧ l ∉ O ∧ h.IsList l (List.toArray ws) ∧ RepL h O xs ws := by
  unfold list1 at e
  split at e
  · cases e
    obtain ⟨v, vs', rfl, ⟨l, ws, rfl, hl0, hl, hr⟩, hn⟩ := ra
    exact ⟨l, ws, by rw [show vs' = [] from hn], hl0, hl, hr⟩
  · cases e
theorem int1_ok {h : Heap} {as : List PV} {i : Int} {vs : List Value} (e : int1 as = some i) (ra : RepL h O as vs) : ∃ t, vs = [.int i t] := by
  unfold int1 at e
  split at e
  · cases e
    obtain ⟨v, vs', rfl, ⟨t, rfl⟩, hn⟩ := ra
    exact ⟨t, by rw [show vs' = [] from hn]⟩
  · cases e
theorem ints2_ok {h : Heap} {f : Int → Int → Option PV} {V : PV} {as : List PV} {vs : List Value} (e : ints2 f as = some V) (ra : RepL h O as vs) : ∃ i j t u, vs = [.int i t, .int j u] ∧ f i j = some V := by
  unfold ints2 at e
  split at e
  · obtain ⟨i, j, rfl, rfl, e2⟩ := two_some e
    obtain ⟨v, vs', rfl, ⟨t, rfl⟩, ⟨v2, vs2, rfl, ⟨u, rfl⟩, hn⟩⟩ := ra
    exact ⟨i, j, t, u, by rw [show vs2 = [] from hn], e2⟩
  · cases e
theorem hd_false {hd : Bool} {α : Type} {o : Option α} {v : α} (e : (bif hd then none else o) = some v) : hd = false ∧ o = some v := by
  cases hd with
  | true => cases e
  | false => exact ⟨rfl, e⟩
theorem builtin_ok {hd : Bool} {b : Blt} {as : List PV} {vs : List Value} {V : PV} (hO : ∀ a, a ∈ O → ∃ o, s.heap.get? a = some o) (hh : HdOK A s.heap) (hh' : hd = false → A.handled = none)
    (e : runB hd b as = some V) (ra : RepL s.heap O as vs) (h : ∀ v s', Kp [] s s' → Rep s'.heap O V v → Q v s') : wpAny (model prog w) A (call b.val vs) Q E s := by
  cases b with
  | len =>
    obtain ⟨xs, h1, e⟩ := Option.bind_eq_some_iff.mp e
    obtain ⟨l, ws, rfl, _, hl, hr⟩ := list1_ok h1 ra
    split at e
    · rename_i hsz
      cases e
      have hw := hr.length
      unfold szLine at hsz
      refine Calls.call_len_list hl (by simp; omega) (h _ _ (Kp.tok _ _ _) ⟨s.toks + 1, ?_⟩)
      simp [hw]
    · cases e
  | sum =>
    obtain ⟨xs, h1, e⟩ := Option.bind_eq_some_iff.mp e
    obtain ⟨l, ws, rfl, _, hl, hr⟩ := list1_ok h1 ra
    obtain ⟨ns, hns, rfl⟩ := Option.map_eq_some_iff.mp e
    exact call_sum_ok hh hl (RepL.ints hr hns) fun v s' k hv => h v s' k hv
  | int =>
    obtain ⟨i, h1, rfl⟩ := Option.map_eq_some_iff.mp e
    obtain ⟨t, rfl⟩ := int1_ok h1 ra
    exact call_int_int (h _ _ (Kp.refl _ _) ⟨t, rfl⟩)
  | sorted =>
    obtain ⟨xs, h1, e⟩ := Option.bind_eq_some_iff.mp e
    obtain ⟨l, ws, rfl, _, hl, hr⟩ := list1_ok h1 ra
    obtain ⟨ns, hns, e⟩ := Option.bind_eq_some_iff.mp e
    split at e
    · rename_i hsz
      cases e
      have hi := RepL.ints hr hns
      refine sorted_ints hl hi (by have := hi.length; unfold sortMax at hsz; lia) fun out ns' a1 a2 a3 => ?_
      obtain ⟨ep, he⟩ := sortedAll_at s.heap ws out
      refine h _ _ (Kp.of (s := s) (tk := s.toks) fun _ _ => sortedAll_old) ?_
      rw [← sortI_unique a2 a3]
      exact ⟨_, out.toList, rfl, not_old hO (Nat.le_succ _), ⟨_, he, rfl, ep, by simp⟩, RepL.of_ints a1⟩
    · cases e
  | min =>
    obtain ⟨hf, e⟩ := hd_false e
    obtain ⟨i, j, t, u, rfl, e⟩ := ints2_ok e ra
    cases e
    refine min_two_ints (hh' hf) fun h' tk hk => h _ _ (Kp.of hk) ?_
    split
    · exact ⟨u, rfl⟩
    · exact ⟨t, rfl⟩
  | max =>
    obtain ⟨hf, e⟩ := hd_false e
    obtain ⟨i, j, t, u, rfl, e⟩ := ints2_ok e ra
    cases e
    refine max_two_ints (hh' hf) fun h' tk hk => h _ _ (Kp.of hk) ?_
    split
    · exact ⟨u, rfl⟩
    · exact ⟨t, rfl⟩
  | range => cases e
  | enumerate => cases e
end
end Mine
end
section
namespace Mine
open PySem PySem.W PyProof.Rows

/-- all objects outside X stay as they are -/
structure KW (X : List Addr) (s s' : Shared) : Prop where
  same : ∃ h' tk, s' = { s with heap := h', toks := tk }
  keep : ∀ b o, b ∉ X → s.heap.get? b = some o → s'.heap.get? b = some o
theorem KW.refl (X : List Addr) (s : Shared) : KW X s s := ⟨⟨s.heap, s.toks, rfl⟩, fun _ _ _ e => e⟩
theorem KW.of {X : List Addr} {s : Shared} {h' : Heap} {tk : Nat} (k : ∀ b o, b ∉ X → s.heap.get? b = some o → h'.get? b = some o) : KW X s { s with heap := h', toks := tk } := ⟨⟨_, _, rfl⟩, k⟩
theorem KW.trans {X : List Addr} {s₁ s₂ s₃ : Shared} (a : KW X s₁ s₂) (b : KW X s₂ s₃) : KW X s₁ s₃ := by
  obtain ⟨h, tk, rfl⟩ := a.same
  obtain ⟨h', tk', rfl⟩ := b.same
  exact ⟨⟨h', tk', rfl⟩, fun c o hc e => b.keep c o hc (a.keep c o hc e)⟩
theorem KW.mono {X Y : List Addr} {s s' : Shared} (a : KW X s s') (h : ∀ b, b ∈ X → b ∈ Y) : KW Y s s' := ⟨a.same, fun b o hb e => a.keep b o (fun q => hb (h b q)) e⟩
theorem Kp.kw {s s' : Shared} (a : Kp [] s s') : KW [] s s' := ⟨a.same, fun b o _ e => a.all b o e⟩
theorem KW.simT {X : List Addr} {s s' : Shared} (a : KW X s s') : SimT X s.heap s'.heap := fun b o hb e _ => ⟨o, a.keep b o hb e, rfl, rfl⟩

/-- an iterator at I whose turns a loop with the target t draws -/
structure Dr (prog : Program) (w : World) (A : Around) (t : PySem.Expr) (I : Addr) (fp wr : List Addr) (n : Nat) (It : Nat → Heap → Heap → Value → Prop) (St : Nat → Heap → Prop) : Prop where
  sub : ∀ b ∈ wr, b ∈ fp
  ex : ∀ i h, St i h → ∀ b ∈ fp, ∃ o, h.get? b = some o
  frame : ∀ i h h', St i h → (∀ b ∈ fp, ∀ o, h.get? b = some o → h'.get? b = some o) → St i h'
  item : ∀ i (s : Shared) (Q : Option Value → Shared → Prop) (E : Value → Shared → Prop), i < n → St i s.heap →
    (∀ v s₁, (∀ (Q' : Unit → Shared → Prop) (E' : Value → Shared → Prop), (∀ s₂, St (i + 1) s₂.heap → It i s.heap s₂.heap v → KW wr s s₂ → Q' () s₂) → wpAny (model prog w) A (letOwnedTupleGo t (.ref I) v) Q' E' s₁) → Q (some v) s₁) →
    wpAny (model prog w) A (pyNext (.ref I)) Q E s
  done : ∀ (s : Shared) (Q : Option Value → Shared → Prop) (E : Value → Shared → Prop), St n s.heap → (∀ s', KW wr s s' → Q none s') → wpAny (model prog w) A (pyNext (.ref I)) Q E s
  self : ∀ i (s : Shared) (Q : Value → Shared → Prop) (E : Value → Shared → Prop), St i s.heap → Q (.ref I) s → wpAny (model prog w) A (pyIter (.ref I)) Q E s

theorem letGo_plain {M : Model} {A : Around} {t : PySem.Expr} {I : Addr} {v : Value} {s : Shared} {Q : Unit → Shared → Prop} {E : Value → Shared → Prop} {o : Obj} {c : String} (ho : s.heap.get? I = some o) (hc : o.cls = .type c)
    (hn : (["enumerate", "zip", "dict_itemiterator", "dict_reverseitemiterator", "odict_iterator", "itertools.zip_longest", "itertools.pairwise"] : List String).contains c = false) (h : Q () s) :
    wpAny M A (letOwnedTupleGo t (.ref I) v) Q E s := by
  have key : ∀ a : Addr, wpAny M A (do
      let o ← load I
      match o.cls, o.data with
      | .type n, .fields vs =>
        if (["enumerate", "zip", "dict_itemiterator", "dict_reverseitemiterator", "odict_iterator", "itertools.zip_longest", "itertools.pairwise"] : List String).contains n && vs[0]? == some (rawInt a) then
          rule "for.unpacks-the-owned-tuple"
          updateField I 0 .none
      | _, _ => pure ()) Q E s := fun a => by
    refine wpAny_bind (wpAny_load ho ?_)
    rw [hc]
    cases o.data with
    | fields vs =>
      simp only [hn, Bool.false_and, Bool.false_eq_true, if_false]
      exact wpAny_pure h
    | _ => exact wpAny_pure h
  cases t <;> first
    | exact wpAny_pure h
    | (cases v <;> first | exact wpAny_pure h | exact key _)

theorem Walks.dr {prog : Program} {w : World} {A : Around} {I : Addr} {fp wr : List Addr} {n : Nat} {P : Nat → Value → Prop} {St : Nat → Heap → Prop} (W : Walks prog w A I fp wr n P St) (t : PySem.Expr) {c : String}
    (hT : ∀ i h, St i h → ∃ o, h.get? I = some o ∧ o.cls = .type c) (hex : ∀ i h, St i h → ∀ b ∈ fp, ∃ o, h.get? b = some o)
    (hn : (["enumerate", "zip", "dict_itemiterator", "dict_reverseitemiterator", "odict_iterator", "itertools.zip_longest", "itertools.pairwise"] : List String).contains c = false) :
    Dr prog w A t I fp wr n (fun i _ _ v => P i v) St where
  sub := W.sub
  ex := hex
  frame := W.frame
  item := fun i s Q E hi st h => W.item i s Q E hi st fun v h' tk hP hs hk => h v _ fun Q' E' hQ => by
    obtain ⟨o, ho, hc⟩ := hT _ _ hs
    exact letGo_plain (s := { s with heap := h', toks := tk }) ho hc hn (hQ _ hs hP (KW.of hk))
  done := fun s Q E st h => W.done s Q E st fun h' tk hk => h _ (KW.of hk)
  self := W.self

theorem WalksT.dr {prog : Program} {w : World} {A : Around} {I : Addr} {fp wr : List Addr} {n : Nat} {Pt : Nat → Array Value → Prop} {St : Nat → Heap → Prop} {Mid : Nat → Addr → Heap → Prop} (W : WalksT prog w A I fp wr n Pt St Mid)
    (hex : ∀ i h, St i h → ∀ b ∈ fp, ∃ o, h.get? b = some o) (elts : List PySem.Expr) (k : Nat) (pos : Pos) :
    Dr prog w A (.Tuple elts k pos) I fp wr n (fun i h₀ h v => ∃ T vals, v = .ref T ∧ h₀.get? T = none ∧ T ∉ wr ∧ h.IsTuple T vals ∧ Pt i vals) St where
  sub := W.sub
  ex := hex
  frame := W.frame
  item := fun i s Q E hi st h => W.item i s Q E hi st fun T vals h' tk hP hT hTup hM hk => h _ _ fun Q' E' hQ => by
    refine W.go elts k pos i T _ Q' E' hM fun h'' hs hk' => hQ _ hs ⟨T, vals, rfl, Heap.get?_none_of_le hT, W.apart _ _ _ hM, ?_, hP⟩ (KW.of fun b o hb e => hk' b o hb (hk b o hb e))
    obtain ⟨o, ho, r⟩ := hTup
    exact ⟨o, hk' T o (W.apart _ _ _ hM) ho, r⟩
  done := fun s Q E st h => W.done s Q E st fun h' tk hk => h _ (KW.of hk)
  self := W.self

/-- fresh addresses may be forbidden too -/
theorem Rep.avoid {h : Heap} {O X : List Addr} (hX : ∀ a ∈ X, h.get? a = none) : ∀ {V : PV} {v : Value}, Rep h O V v → Rep h (O ++ X) V v := by
  have key : (∀ (V : PV) (v : Value), Rep h O V v → Rep h (O ++ X) V v) ∧ (∀ (xs : List PV) (vs : List Value), RepL h O xs vs → RepL h (O ++ X) xs vs) := by
    have off : ∀ a o, h.get? a = some o → a ∉ O → a ∉ O ++ X := fun a o e ho q => by
      rcases List.mem_append.mp q with q | q
      · exact ho q
      · rw [hX a q] at e; cases e
    have L : ∀ (n : Nat), (∀ (V : PV) (v : Value), sizeOf V ≤ n → Rep h O V v → Rep h (O ++ X) V v) ∧ (∀ (xs : List PV) (vs : List Value), sizeOf xs ≤ n → RepL h O xs vs → RepL h (O ++ X) xs vs) := by
      intro n
      induction n with
      | zero =>
        refine ⟨fun V v hs => ?_, fun xs vs hs => ?_⟩
        · cases V <;> simp at hs
        · cases xs <;> simp at hs
      | succ n ih =>
        refine ⟨fun V v hs x => ?_, fun xs vs hs x => ?_⟩
        · cases V with
          | list xs =>
            obtain ⟨a, vs, e, ha, hl, hr⟩ := x
            obtain ⟨o, ho, r⟩ := id hl
            exact ⟨a, vs, e, off a o ho ha, hl, ih.2 xs vs (by simp at hs; lia) hr⟩
          | tup xs =>
            obtain ⟨a, vs, e, ha, hl, hr⟩ := x
            obtain ⟨o, ho, r⟩ := id hl
            exact ⟨a, vs, e, off a o ho ha, hl, ih.2 xs vs (by simp at hs; lia) hr⟩
          | _ => exact x
        · cases xs with
          | nil => exact x
          | cons y ys =>
            obtain ⟨v, vs', e, hv, hr⟩ := x
            exact ⟨v, vs', e, ih.1 y v (by simp at hs; lia) hv, ih.2 ys vs' (by simp at hs; lia) hr⟩
    exact ⟨fun V v => (L (sizeOf V)).1 V v (Nat.le_refl _), fun xs vs => (L (sizeOf xs)).2 xs vs (Nat.le_refl _)⟩
  exact fun {V v} => key.1 V v
theorem RepL.avoid {h : Heap} {O X : List Addr} (hX : ∀ a ∈ X, h.get? a = none) : ∀ {xs : List PV} {vs : List Value}, RepL h O xs vs → RepL h (O ++ X) xs vs
  | [], _, x => x
  | _ :: _, _, ⟨v, vs', e, hv, hr⟩ => ⟨v, vs', e, Rep.avoid hX hv, RepL.avoid hX hr⟩
theorem get_none_of_le {h : Heap} {a : Addr} (ha : h.objs.size ≤ a) : h.get? a = none := Heap.get?_none_of_le ha
end Mine
end
section
namespace Mine
open PySem PySem.W PyProof.Rows

/-- what a loop over it finds: the items, deep; the iterator's own objects are fresh since s₀ -/
structure Src (prog : Program) (w : World) (A : Around) (t : PySem.Expr) (X : List Addr) (s₀ s : Shared) (items : List PV) (I : Addr) (fp wr : List Addr) (It : Nat → Heap → Heap → Value → Prop) (St : Nat → Heap → Prop) : Prop where
  dr : Dr prog w A t I fp wr items.length It St
  st : St 0 s.heap
  fpl : ∀ b ∈ fp, b < s.heap.objs.size
  new : ∀ b ∈ wr, s₀.heap.get? b = none
  off : ∀ b ∈ fp, b ∉ X ∧ ∀ o, s₀.heap.get? b = some o → (∀ es ep, o.data ≠ .dict es ep) ∧ ∀ v, o.data ≠ .cell v
  rep : ∀ Y, (∀ a ∈ Y, s.heap.get? a = none) → ∀ Z, (∀ a ∈ Z, a ∈ X ++ wr ++ Y) → ∀ h₀ h, (∀ a ∈ Z, a ∈ wr ∨ ∃ o, h₀.get? a = some o) → SimT (X ++ wr ++ Y) s.heap h → ∀ i V v, items[i]? = some V → It i h₀ h v → Rep h Z V v

section
variable {prog : Program} {w : World} {A : Around} {E : Value → Shared → Prop} {s : Shared} {X : List Addr} {Q : Value → Shared → Prop} {t : PySem.Expr}

theorem hfp_off (hd : HdOK A s.heap) : ∀ b ∈ hfp A, ∀ o, s.heap.get? b = some o → (∀ es ep, o.data ≠ .dict es ep) ∧ ∀ v, o.data ≠ .cell v := fun b hb o ho => by
  rcases hd with q | ⟨e, q, oe, vs, he, hf, _⟩
  · simp [hfp, q] at hb
  · simp [hfp, q] at hb
    subst hb
    rw [he] at ho; cases ho
    rw [hf]
    exact ⟨fun _ _ q => (by cases q), fun _ q => (by cases q)⟩
theorem list_off {l : Addr} {vs : Array Value} (hl : s.heap.IsList l vs) : ∀ o, s.heap.get? l = some o → (∀ es ep, o.data ≠ .dict es ep) ∧ ∀ v, o.data ≠ .cell v := fun o ho => by
  obtain ⟨o', ho', _, n, hd⟩ := hl
  rw [ho'] at ho; cases ho
  rw [hd]
  exact ⟨fun _ _ q => (by cases q), fun _ q => (by cases q)⟩

theorem src_list {l : Addr} {xs : List PV} {vs : List Value} (hX : ∀ a ∈ X, ∃ o, s.heap.get? a = some o) (hd : HdOK A s.heap) (hhX : ∀ b ∈ hfp A, b ∉ X) (hlX : l ∉ X) (hl : s.heap.IsList l vs.toArray) (hr : RepL s.heap X xs vs)
    (h : ∀ I fp wr It St s', Kp [] s s' → Src prog w A t X s s' xs I fp wr It St → Q (.ref I) s') : wpAny (model prog w) A (pyIter (.ref l)) Q E s := by
  refine wpAny_pyIter_list hl ?_
  have hll : l < s.heap.objs.size := by obtain ⟨o, ho, _⟩ := hl; exact Heap.lt_size ho
  have hne : l ≠ s.heap.objs.size := Nat.ne_of_lt hll
  have hI : s.heap.objs.size ∉ hfp A := fun q => absurd (hd.lt _ q) (Nat.lt_irrefl _)
  have W := walksList (prog := prog) (w := w) (A := A) s.heap.objs.size l hne hI vs.toArray
  have D := Walks.dr W t (c := "list_iterator") (fun i h st => by obtain ⟨⟨o, ho, hc, _⟩, _⟩ := st; exact ⟨o, ho, hc⟩) (fun i h st b hb => by
    obtain ⟨⟨o, ho, _⟩, ⟨o2, ho2, _⟩, hd2⟩ := st
    rcases List.mem_cons.mp hb with rfl | hb
    · exact ⟨o, ho⟩
    · rcases List.mem_cons.mp hb with rfl | hb
      · exact ⟨o2, ho2⟩
      · exact hd2.ex b hb) (by decide)
  have hlen : vs.toArray.size = xs.length := by simp [hr.length]
  rw [hlen] at D
  refine h s.heap.objs.size _ _ _ _ _ (Kp.push _ _ _) ⟨D, ⟨⟨_, Heap.get?_push_size _ rfl, rfl, rfl⟩, hl.push _, hd.at fun b _ o e => Heap.get?_push_of_some _ e⟩, ?_, ?_, ?_, ?_⟩
  · intro b hb
    rw [Heap.size_push]
    rcases List.mem_cons.mp hb with rfl | hb
    · exact Nat.lt_succ_self _
    · rcases List.mem_cons.mp hb with rfl | hb
      · exact Nat.lt_succ_of_lt hll
      · exact Nat.lt_succ_of_lt (hd.lt _ hb)
  · intro b hb
    rw [List.mem_singleton.mp hb]; exact get_none_of_le (Nat.le_refl _)
  · intro b hb
    rcases List.mem_cons.mp hb with rfl | hb
    · exact ⟨not_old hX (Nat.le_refl _), fun o ho => by rw [get_none_of_le (Nat.le_refl _)] at ho; cases ho⟩
    · rcases List.mem_cons.mp hb with rfl | hb
      · exact ⟨hlX, list_off hl⟩
      · exact ⟨hhX b hb, hfp_off hd b hb⟩
  · intro Y hY Z hZ h₀ h' _ k i V v hi hv
    have hr' : RepL (s.heap.push { cls := .type "list_iterator", data := .fields #[.ref l, .int 0 0] }) (X ++ [s.heap.objs.size] ++ Y) xs vs :=
      RepL.avoid hY <| RepL.sim ((Kp.push (F := []) s _).simX _).t _ _ (RepL.avoid (fun a ha => by rw [List.mem_singleton.mp ha]; exact get_none_of_le (Nat.le_refl _)) hr)
    obtain ⟨v', h1, h2⟩ := RepL.get (RepL.sim k xs vs hr') hi
    have : v = v' := by
      have hv' : vs[i]? = some v := by simpa using hv
      rw [hv'] at h1; exact Option.some.inj h1
    rw [this]; exact Rep.less hZ _ _ h2

theorem rangeI_get {a b : Int} {i : Nat} {V : PV} (h : (rangeI a b)[i]? = some V) : V = .int (a + i) := by
  unfold rangeI at h
  simp only [List.getElem?_map, Option.map_eq_some_iff] at h
  obtain ⟨j, h1, h2⟩ := h
  have : j = i := by
    rw [List.getElem?_eq_some_iff] at h1
    obtain ⟨_, h1⟩ := h1
    simpa using h1.symm
  rw [← h2, this]
theorem src_range {r : Addr} {a b : Int} {t' u v : Tok} (hX : ∀ a ∈ X, ∃ o, s.heap.get? a = some o) (hd : HdOK A s.heap) (hhX : ∀ b ∈ hfp A, b ∉ X) (hr : IsRange s.heap r a b 1 t' u v)
    (ha : -1000 ≤ a ∧ a ≤ 1000) (hb : -1000 ≤ b ∧ b ≤ 1000)
    (h : ∀ I fp wr It St s', Kp [] s s' → Src prog w A t X s s' (rangeI a b) I fp wr It St → Q (.ref I) s') : wpAny (model prog w) A (pyIter (.ref r)) Q E s := by
  refine wpAny_pyIter_range hr (small_one (by lia) (by omega) (by lia) (by (clear hX hd hhX hr ha h; omega))) ?_
  have hI : s.heap.objs.size ∉ hfp A := fun q => absurd (hd.lt _ q) (Nat.lt_irrefl _)
  have hn : Builtin.Range.rangeSize a b 1 = (((b - a).toNat : Nat) : Int) := by rw [rangeSize_one]; split <;> (clear hX hd hhX hr ha hb h hI; lia)
  have hlen : (rangeI a b).length = (b - a).toNat := by simp [rangeI]
  have D := Walks.dr (walksRange (prog := prog) (w := w) (A := A) s.heap.objs.size hI a (b - a).toNat) t (c := "range_iterator") (fun i h st => ⟨_, st.1, rfl⟩) (fun i h st b hb => by
    rcases List.mem_cons.mp hb with rfl | hb
    · exact ⟨_, st.1⟩
    · exact st.2.ex b hb) (by decide)
  rw [← hlen] at D
  refine h s.heap.objs.size _ _ _ _ _ (Kp.push _ _ _) ⟨D, ⟨?_, hd.at fun b _ o e => Heap.get?_push_of_some _ e⟩, ?_, ?_, ?_, ?_⟩
  · rw [hn, hlen]; simpa using Heap.get?_push_size _ rfl
  · intro b hb
    rw [Heap.size_push]
    rcases List.mem_cons.mp hb with rfl | hb
    · exact Nat.lt_succ_self _
    · exact Nat.lt_succ_of_lt (hd.lt _ hb)
  · intro b hb
    rw [List.mem_singleton.mp hb]; exact get_none_of_le (Nat.le_refl _)
  · intro b hb
    rcases List.mem_cons.mp hb with rfl | hb
    · exact ⟨not_old hX (Nat.le_refl _), fun o ho => by rw [get_none_of_le (Nat.le_refl _)] at ho; cases ho⟩
    · exact ⟨hhX b hb, hfp_off hd b hb⟩
  · rintro Y hY Z hZ h₀ h' _ k i V v hi ⟨t, rfl⟩
    rw [rangeI_get hi]
    exact ⟨t, rfl⟩

theorem src_enum {l : Addr} {xs : List PV} {vs : List Value} {elts : List PySem.Expr} {k : Nat} {pos : Pos} (hX : ∀ a ∈ X, ∃ o, s.heap.get? a = some o) (hh : A.handled = none) (hlX : l ∉ X) (hl : s.heap.IsList l vs.toArray) (hr : RepL s.heap X xs vs)
    (h : ∀ I fp wr It St s', Kp [] s s' → Src prog w A (.Tuple elts k pos) X s s' (xs.zipIdx.map fun (v, (i : Nat)) => .tup [.int i, v]) I fp wr It St → Q (.ref I) s') :
    wpAny (model prog w) A (call (.type "enumerate") [.ref l]) (fun x s₁ => wpAny (model prog w) A (pyIter x) Q E s₁) E s := by
  have hll : l < s.heap.objs.size := by obtain ⟨o, ho, _⟩ := hl; exact Heap.lt_size ho
  refine call_enumerate_list hl fun h' he hit hsz hk => ?_
  refine wpAny_pyIter_enum he ?_
  have D := WalksT.dr (WalksT.enumerate (prog := prog) (w := w) hh (s.heap.objs.size + 1) s.heap.objs.size l (Nat.succ_ne_self _) (Nat.ne_of_lt (Nat.lt_succ_of_lt hll)) (Nat.ne_of_lt hll) vs.toArray) (fun i h st b hb => by
    obtain ⟨⟨old, he⟩, ⟨o, ho, _⟩, ⟨o2, ho2, _⟩⟩ := st
    simp only [List.mem_cons, List.not_mem_nil, or_false] at hb
    rcases hb with rfl | rfl | rfl
    · exact ⟨_, he⟩
    · exact ⟨_, ho⟩
    · exact ⟨_, ho2⟩) elts k pos
  have hlen : vs.toArray.size = (xs.zipIdx.map fun (v, (i : Nat)) => PV.tup [.int i, v]).length := by simp [hr.length]
  rw [hlen] at D
  refine h _ _ _ _ _ _ (Kp.of (tk := s.toks) hk) ⟨D, ⟨⟨_, he⟩, hit, hl.at fun o e => hk _ _ e⟩, ?_, ?_, ?_, ?_⟩
  · intro b hb
    show b < h'.objs.size
    rw [hsz]
    simp only [List.mem_cons, List.not_mem_nil, or_false] at hb
    rcases hb with rfl | rfl | rfl
    · exact Nat.lt_succ_self _
    · exact Nat.lt_succ_of_lt (Nat.lt_succ_self _)
    · exact Nat.lt_succ_of_lt (Nat.lt_succ_of_lt hll)
  · intro b hb
    simp only [List.mem_cons, List.not_mem_nil, or_false] at hb
    rcases hb with rfl | rfl <;> exact get_none_of_le (by lia)
  · intro b hb
    simp only [List.mem_cons, List.not_mem_nil, or_false] at hb
    rcases hb with rfl | rfl | rfl
    · exact ⟨not_old hX (by exact Nat.le_add_right _ _), fun o ho => by rw [get_none_of_le (by exact Nat.le_add_right _ _)] at ho; cases ho⟩
    · exact ⟨not_old hX (by exact Nat.le_refl _), fun o ho => by rw [get_none_of_le (by exact Nat.le_refl _)] at ho; cases ho⟩
    · exact ⟨hlX, list_off hl⟩
  · rintro Y hY Z hZ h₀ h'' hX₀ kk i V v hi ⟨T, vals, rfl, hT0, hTw, hTup, t, x, hx, rfl⟩
    have hr' : RepL h' (X ++ [s.heap.objs.size + 1, s.heap.objs.size] ++ Y) xs vs :=
      RepL.avoid hY <| RepL.sim ((Kp.of (F := []) (s := s) (tk := s.toks) hk).simX _).t _ _ (RepL.avoid (fun a ha => by
        simp only [List.mem_cons, List.not_mem_nil, or_false] at ha
        rcases ha with rfl | rfl <;> exact get_none_of_le (by lia)) hr)
    simp only [List.getElem?_map, Option.map_eq_some_iff] at hi
    obtain ⟨⟨y, j⟩, h1, h2⟩ := hi
    rw [List.getElem?_zipIdx] at h1
    simp only [Option.map_eq_some_iff, Prod.mk.injEq] at h1
    obtain ⟨y', h3, rfl, rfl⟩ := h1
    obtain ⟨v', h4, h5⟩ := RepL.get (RepL.sim kk xs vs hr') h3
    have hx' : vs[i]? = some x := by simpa using hx
    rw [h4] at hx'; cases hx'
    subst h2
    refine ⟨T, [.int i t, x], rfl, ?_, by simpa using hTup, ?_⟩
    · intro q
      rcases hX₀ T q with q | ⟨o, ho⟩
      · exact hTw q
      · rw [hT0] at ho; cases ho
    · exact RepL.cons ⟨t, by simp⟩ (RepL.cons (Rep.less hZ _ _ h5) RepL.nil)

end
end Mine
end
section
namespace Mine
open PySem PySem.W PyProof.Rows

theorem turn2a (elt t it t2 it2 : PySem.Expr) (ifs : List PySem.Expr) (scope : Scope) (pos : Pos) (i acc : Value) (env : Env) :
    compTurn (.ListComp elt [⟨t, it, [], 0⟩, ⟨t2, it2, ifs, 0⟩] scope pos) 0 i acc env = (do
      standAt it.pos
      match ← pyNext i with
      | none => pure (.done .next)
      | some v =>
        letOwnedTupleGo t i v
        assign t env v
        let x ← eval it2 env
        standAt it2.pos
        let x ← foldedSetIterable it2 env x
        let _ ← runOwn (.compStart (.ListComp elt [⟨t, it, [], 0⟩, ⟨t2, it2, ifs, 0⟩] scope pos) 1 (← holding [x] (pyIter x)) acc env) env
        again (.compLoop (.ListComp elt [⟨t, it, [], 0⟩, ⟨t2, it2, ifs, 0⟩] scope pos) 0 i acc env)) := by rfl
theorem turn2b (elt t it t2 it2 : PySem.Expr) (ifs : List PySem.Expr) (scope : Scope) (pos : Pos) (i acc : Value) (env : Env) :
    compTurn (.ListComp elt [⟨t, it, [], 0⟩, ⟨t2, it2, ifs, 0⟩] scope pos) 1 i acc env = (do
      standAt it2.pos
      match ← pyNext i with
      | none => pure (.done .next)
      | some v =>
        letOwnedTupleGo t2 i v
        assign t2 env v
        let mut ok := true
        for c in ifs do
          if ok then ok ← isTrue c env (eval c env)
        if ok then
          (do let _ ← call (.builtin "list.append") [acc, ← eval elt env])
        again (.compLoop (.ListComp elt [⟨t, it, [], 0⟩, ⟨t2, it2, ifs, 0⟩] scope pos) 1 i acc env)) := by rfl
end Mine
end
section
namespace Mine
open PySem PySem.W PyProof.Rows

theorem rset_lookup {x y : Str} {p : Ent} : ∀ {ρ : Rho}, (rset x p ρ).lookup y = if y = x then some p else ρ.lookup y
  | [] => by
    simp only [rset, List.lookup_cons, List.lookup_nil]
    by_cases h : y = x
    · subst h; simp
    · rw [if_neg h, beq_false_of_ne h]
  | (z, q) :: r => by
    simp only [rset]
    by_cases hz : z = x
    · rw [if_pos hz]
      subst hz
      simp only [List.lookup_cons]
      by_cases h : y = z
      · subst h; simp
      · rw [if_neg h, beq_false_of_ne h]
    · rw [if_neg hz]
      simp only [List.lookup_cons]
      rw [rset_lookup]
      by_cases h : y = z
      · subst h
        rw [if_neg hz]
        simp [hz]
      · rw [beq_false_of_ne h]

/-- the objects that carry a block's names -/
noncomputable def carr (env : Env) : List Addr := env.locals :: env.cells.map (·.2)
/-- those that it stores into -/
noncomputable def ownL (env : Env) (sc : Scope) : List Addr := env.locals :: sc.names.filterMap fun (n, k) => if k == .cell then env.cells.lookup n else none

theorem mem_ownL {env : Env} {sc : Scope} {x : Str} {c : Addr} (h : sc.names.lookup x = some .cell) (hc : env.cells.lookup x = some c) : c ∈ ownL env sc :=
  List.mem_cons_of_mem _ (List.mem_filterMap.mpr ⟨(x, .cell), mem_of_lookup h, by simpa using hc⟩)
theorem lookup_mem_carr {env : Env} {x : Str} {c : Addr} (hc : env.cells.lookup x = some c) : c ∈ carr env := List.mem_cons_of_mem _ (List.mem_map.mpr ⟨_, mem_of_lookup hc, rfl⟩)
theorem ownL_carr {env : Env} {sc : Scope} : ∀ b ∈ ownL env sc, b ∈ carr env := fun b hb => by
  rcases List.mem_cons.mp hb with rfl | hb
  · exact List.mem_cons_self ..
  · obtain ⟨⟨n, k⟩, _, h⟩ := List.mem_filterMap.mp hb
    dsimp only at h
    split at h
    · exact lookup_mem_carr h
    · cases h

theorem Hold.kw {env : Env} {s s' : Shared} {X : List Addr} {x : Str} {v : Value} (a : Hold env s.heap x v) (k : KW X s s') (hX : ∀ b ∈ carr env, b ∉ X) : Hold env s'.heap x v := by
  unfold Hold at a ⊢
  split at a
  · obtain ⟨m, hm, e⟩ := a
    exact ⟨m, hm.at' fun o e => k.keep _ o (hX _ (List.mem_cons_self ..)) e, e⟩
  · obtain ⟨c, hc, o, ho, hd⟩ := a; exact ⟨c, hc, o, k.keep _ o (hX _ (lookup_mem_carr hc)) ho, hd⟩
  · obtain ⟨c, hc, o, ho, hd⟩ := a; exact ⟨c, hc, o, k.keep _ o (hX _ (lookup_mem_carr hc)) ho, hd⟩
  · exact a.elim

/-- a block's own names stand ready for storing -/
structure Lay (env : Env) (sc : Scope) (h : Heap) : Prop where
  ns : ∃ m, h.Ns env.locals m
  cell : ∀ x, sc.names.lookup x = some .cell → ∃ c v, env.cells.lookup x = some c ∧ h.IsCell c v
/-- the same, for all heaps -/
structure LayS (env : Env) (sc : Scope) : Prop where
  kind : env.scope.kind = .function
  loc : ∀ x, sc.names.lookup x = some .local → env.kindOf x = some .local
  cel : ∀ x, sc.names.lookup x = some .cell → env.kindOf x = some .cell
  apart : ∀ x y c, sc.names.lookup x = some .cell → env.cells.lookup x = some c → env.cells.lookup y = some c → y = x

theorem Lay.kw {env : Env} {sc : Scope} {s s' : Shared} {X : List Addr} (a : Lay env sc s.heap) (k : KW X s s') (hX : ∀ b ∈ carr env, b ∉ X) : Lay env sc s'.heap := by
  refine ⟨?_, fun x hx => ?_⟩
  · obtain ⟨m, hm⟩ := a.ns
    exact ⟨m, hm.at' fun o e => k.keep _ o (hX _ (List.mem_cons_self ..)) e⟩
  · obtain ⟨c, v, hc, o, ho, hd⟩ := a.cell x hx
    exact ⟨c, v, hc, o, k.keep _ o (hX _ (lookup_mem_carr hc)) ho, hd⟩
theorem Lay.kp {env : Env} {sc : Scope} {s s' : Shared} {F : List Addr} (a : Lay env sc s.heap) (k : Kp F s s') : Lay env sc s'.heap := by
  refine ⟨?_, fun x hx => ?_⟩
  · obtain ⟨m, hm⟩ := a.ns
    exact ⟨m, Ns.sim hm (k.simX []) (by simp)⟩
  · obtain ⟨c, v, hc, hd⟩ := a.cell x hx
    exact ⟨c, v, hc, IsCell.sim hd (k.simX []) (by simp)⟩

theorem ns_unique {h : Heap} {a : Addr} {m m' : Str → Option Value} (x : h.Ns a m) (y : h.Ns a m') : m = m' := by
  obtain ⟨o, es, ep, ho, hd, _, hf⟩ := x
  obtain ⟨o', es', ep', ho', hd', _, hf'⟩ := y
  rw [ho] at ho'; cases ho'
  rw [hd] at hd'; cases hd'
  funext n; rw [← hf, ← hf']

section
variable {prog : Program} {w : World} {A : Around} {E : Value → Shared → Prop} {s : Shared} {Q : Unit → Shared → Prop}

theorem simT_of_but {s : Shared} {h' : Heap} {a : Addr} (hs : Heap.SameBut a s.heap h') (hn : ∀ o, s.heap.get? a = some o → ∀ xs n, o.data ≠ .seq xs n) (X : List Addr) : SimT X s.heap h' := fun b o _ e q => by
  by_cases hb : b = a
  · subst hb
    obtain ⟨xs, n, q⟩ := q
    exact absurd q (hn o e xs n)
  · exact ⟨o, (hs.2 b hb).trans e, rfl, rfl⟩

theorem store_ok {env : Env} {sc : Scope} {x : Str} {v : Value} (LS : LayS env sc) (L : Lay env sc s.heap) (hx : sc.names.lookup x = some .local ∨ sc.names.lookup x = some .cell)
    (h : ∀ s', KW (ownL env sc) s s' → Lay env sc s'.heap → Hold env s'.heap x v → (∀ y u, y ≠ x → Hold env s.heap y u → Hold env s'.heap y u) → (∀ X, SimT X s.heap s'.heap) → Q () s') :
    wpAny (model prog w) A (storeName env x v) Q E s := by
  have cellNs : ∀ {c : Addr} {v : Option Value}, s.heap.IsCell c v → c ≠ env.locals := fun hc e => by
    obtain ⟨o, ho, hd⟩ := hc
    obtain ⟨m, o', es, ep, ho', hd', _⟩ := L.ns
    rw [e, ho'] at ho; cases ho
    rw [hd] at hd'; cases hd'
  rcases hx with hx | hx
  · obtain ⟨m, hm⟩ := L.ns
    have hl := LS.loc x hx
    refine wpAny_storeName_local hl hm (fun h' hn' hs' => ?_) (by rw [LS.kind]; rfl)
    have hLo : env.locals ∈ ownL env sc := List.mem_cons_self ..
    refine h _ (KW.of fun b o hb e => hs'.extBut b o (fun q => hb (q ▸ hLo)) e) ⟨⟨_, hn'⟩, fun y hy => ?_⟩ ?_ (fun y u hyx hu => ?_) (fun X => simT_of_but hs' (fun o ho xs n => ?_) X)
    · obtain ⟨c, v, hc, hv⟩ := L.cell y hy
      exact ⟨c, v, hc, hv.sameBut hs' (cellNs hv)⟩
    · unfold Hold; rw [hl]; exact ⟨_, hn', by simp⟩
    · unfold Hold at hu ⊢
      split at hu
      · obtain ⟨m', hm', e⟩ := hu
        refine ⟨_, hn', ?_⟩
        rw [if_neg hyx]
        have := ns_unique hm hm'
        rw [this]; exact e
      · obtain ⟨c, hc, hv⟩ := hu; exact ⟨c, hc, hv.sameBut hs' (cellNs hv)⟩
      · obtain ⟨c, hc, hv⟩ := hu; exact ⟨c, hc, hv.sameBut hs' (cellNs hv)⟩
      · exact hu.elim
    · obtain ⟨o', es, ep, ho', hd', _⟩ := hm
      rw [ho] at ho'; cases ho'
      rw [hd']; intro q; cases q
  · obtain ⟨c, v₀, hc, hv₀⟩ := L.cell x hx
    have hl := LS.cel x hx
    refine wpAny_storeName_cell LS.kind hl hc hv₀ fun h' hv' hs' => ?_
    have hco : c ∈ ownL env sc := mem_ownL hx hc
    refine h _ (KW.of (tk := s.toks) fun b o hb e => hs'.extBut b o (fun q => hb (q ▸ hco)) e) ⟨?_, fun y hy => ?_⟩ ?_ (fun y u hyx hu => ?_) (fun X => simT_of_but hs' (fun o ho xs n => ?_) X)
    · obtain ⟨m, hm⟩ := L.ns
      exact ⟨m, hm.sameBut hs' (cellNs hv₀).symm⟩
    · obtain ⟨c', v', hc', hv''⟩ := L.cell y hy
      by_cases hcc : c' = c
      · exact ⟨c, _, hcc ▸ hc', hv'⟩
      · exact ⟨c', v', hc', hv''.sameBut hs' hcc⟩
    · unfold Hold; rw [hl]; exact ⟨c, hc, hv'⟩
    · have hne : ∀ c', env.cells.lookup y = some c' → c' ≠ c := fun c' q e => hyx (LS.apart x y c hx hc (e ▸ q))
      unfold Hold at hu ⊢
      split at hu
      · obtain ⟨m', hm', e⟩ := hu
        exact ⟨m', hm'.sameBut hs' (cellNs hv₀).symm, e⟩
      · obtain ⟨c', hc', hv''⟩ := hu; exact ⟨c', hc', hv''.sameBut hs' (hne c' hc')⟩
      · obtain ⟨c', hc', hv''⟩ := hu; exact ⟨c', hc', hv''.sameBut hs' (hne c' hc')⟩
      · exact hu.elim
    · obtain ⟨o', ho', hd'⟩ := hv₀
      rw [ho] at ho'; cases ho'
      rw [hd']; intro q; cases q
end
end Mine
end
section
namespace Mine
open PySem PySem.W PyProof.Rows

noncomputable def tnames (t : PySem.Expr) : List Str := match tname t with
  | some x => [x]
  | none => ((tupE t).getD []).filterMap tname

/-- what a store of names leaves -/
structure StP (env : Env) (sc : Scope) (X : List Addr) (N : List Str) (ρ ρ' : Rho) (s s' : Shared) : Prop where
  kw : KW (ownL env sc) s s'
  lay : Lay env sc s'.heap
  hold : ∀ y u, y ∉ N → Hold env s.heap y u → Hold env s'.heap y u
  sim : ∀ Y, SimT Y s.heap s'.heap
  old : ∀ y, y ∉ N → ρ'.lookup y = ρ.lookup y
  new : ∀ y, y ∈ N → ∃ W u, ρ'.lookup y = some (W, false) ∧ Hold env s'.heap y u ∧ Rep s'.heap X W u

section
variable {prog : Program} {w : World} {A : Around} {E : Value → Shared → Prop} {s : Shared} {Q : Unit → Shared → Prop} {env : Env} {sc : Scope} {X : List Addr}

theorem own_cases {x : Str} (e : own sc x = true) : sc.names.lookup x = some .local ∨ sc.names.lookup x = some .cell := by
  unfold own at e
  rw [Bool.or_eq_true, beq_iff_eq, beq_iff_eq] at e
  exact e
theorem storeNO_some {x : Str} {p : Ent} {ρ ρ' : Rho} (e : storeNO sc x p ρ = some ρ') : (sc.names.lookup x = some .local ∨ sc.names.lookup x = some .cell) ∧ ρ' = rset x p ρ := by
  unfold storeNO at e
  cases h : own sc x with
  | true => rw [h] at e; cases e; exact ⟨own_cases h, rfl⟩
  | false => rw [h] at e; cases e
theorem tupV_some {v : PV} {vs : List PV} (e : tupV v = some vs) : v = .tup vs := by
  unfold tupV at e
  split at e
  · cases e; rfl
  · cases e
theorem storeNsO_cons {t : PySem.Expr} {ts : List PySem.Expr} {Vs : List PV} {ρ ρ' : Rho} (e : storeNsO sc (t :: ts) Vs ρ = some ρ') : ∃ x p V r ρ₁, t = .Name x p ∧ Vs = V :: r ∧ storeNO sc x (V, false) ρ = some ρ₁ ∧ storeNsO sc ts r ρ₁ = some ρ' := by
  cases Vs with
  | nil => cases e
  | cons V r =>
    obtain ⟨x, h1, e1⟩ := Option.bind_eq_some_iff.mp e
    obtain ⟨ρ₁, h2, e2⟩ := Option.bind_eq_some_iff.mp e1
    obtain ⟨p, rfl⟩ := tname_some h1
    exact ⟨x, p, V, r, ρ₁, rfl, rfl, h2, e2⟩
theorem storeNsO_nil {Vs : List PV} {ρ ρ' : Rho} (e : storeNsO sc [] Vs ρ = some ρ') : Vs = [] ∧ ρ' = ρ := by
  cases Vs with
  | nil => cases e; exact ⟨rfl, rfl⟩
  | cons _ _ => cases e

theorem storeN_ok {x : Str} {V : PV} {v : Value} {ρ ρ' : Rho} (LS : LayS env sc) (L : Lay env sc s.heap) (hv : Rep s.heap X V v) (e : storeNO sc x (V, false) ρ = some ρ')
    (h : ∀ s', StP env sc X [x] ρ ρ' s s' → Q () s') : wpAny (model prog w) A (storeName env x v) Q E s := by
  obtain ⟨hx, rfl⟩ := storeNO_some e
  refine store_ok LS L hx fun s' k l hh ho hs => h s' ⟨k, l, fun y u hy => ho y u (fun q => hy (by simp [q])), hs, fun y hy => ?_, fun y hy => ?_⟩
  · rw [rset_lookup, if_neg (fun q => hy (by simp [q]))]
  · rw [List.mem_singleton] at hy
    subst hy
    exact ⟨V, v, by rw [rset_lookup, if_pos rfl], hh, Rep.sim (hs X) V v hv⟩

theorem StP.trans {N M : List Str} {ρ₁ ρ₂ ρ₃ : Rho} {s₁ s₂ s₃ : Shared} (a : StP env sc X N ρ₁ ρ₂ s₁ s₂) (b : StP env sc X M ρ₂ ρ₃ s₂ s₃) : StP env sc X (N ++ M) ρ₁ ρ₃ s₁ s₃ where
  kw := a.kw.trans b.kw
  lay := b.lay
  hold := fun y u hy h => b.hold y u (fun q => hy (List.mem_append_right _ q)) (a.hold y u (fun q => hy (List.mem_append_left _ q)) h)
  sim := fun Y => (a.sim Y).trans (b.sim Y)
  old := fun y hy => (b.old y (fun q => hy (List.mem_append_right _ q))).trans (a.old y (fun q => hy (List.mem_append_left _ q)))
  new := fun y hy => by
    by_cases hM : y ∈ M
    · exact b.new y hM
    · have hN : y ∈ N := (List.mem_append.mp hy).resolve_right hM
      obtain ⟨W, u, h1, h2, h3⟩ := a.new y hN
      exact ⟨W, u, (b.old y hM).trans h1, b.hold y u hM h2, Rep.sim (b.sim X) W u h3⟩

theorem storeNs_ok (LS : LayS env sc) : ∀ (ts : List PySem.Expr) (Vs : List PV) (vs : List Value) (ρ ρ' : Rho) (s : Shared) (Q : Unit → Shared → Prop), Lay env sc s.heap → RepL s.heap X Vs vs → storeNsO sc ts Vs ρ = some ρ' →
    (∀ s', StP env sc X (ts.filterMap tname) ρ ρ' s s' → Q () s') → wpAny (model prog w) A (assignInOrder ((assignEach ts env).map (·.2)) vs) Q E s
  | [], Vs, vs, ρ, ρ', s, Q, L, hr, e, h => by
    obtain ⟨rfl, rfl⟩ := storeNsO_nil e
    exact wpAny_pure (h s ⟨KW.refl _ _, L, fun _ _ _ h => h, fun Y => SimT.refl _ _, fun _ _ => rfl, fun y hy => (by cases hy)⟩)
  | t :: ts, Vs, vs, ρ, ρ', s, Q, L, hr, e, h => by
    obtain ⟨x, p, V, r, ρ₁, rfl, rfl, h1, h2⟩ := storeNsO_cons e
    obtain ⟨v, vs', rfl, hv, hr'⟩ := hr
    show wpAny _ _ (do holding vs' (assign (.Name x p) env v); assignInOrder ((assignEach ts env).map (·.2)) vs') _ _ _
    refine wpAny_bind (wpAny_holding (wpAny_assign_Name (storeN_ok LS L hv h1 fun s₁ st => ?_)))
    exact storeNs_ok LS ts r vs' ρ₁ ρ' s₁ Q st.lay (RepL.sim (st.sim X) _ _ hr') h2 fun s₂ st₂ => h s₂ (st.trans st₂)

theorem storeNs_names : ∀ {ts : List PySem.Expr} {Vs : List PV} {ρ ρ' : Rho}, storeNsO sc ts Vs ρ = some ρ' → (assignEach ts env).length = Vs.length ∧ (assignEach ts env).findIdx? (·.1) = none
  | [], Vs, ρ, ρ', e => by obtain ⟨rfl, rfl⟩ := storeNsO_nil e; exact ⟨rfl, rfl⟩
  | t :: ts, Vs, ρ, ρ', e => by
    obtain ⟨x, p, V, r, ρ₁, rfl, rfl, h1, h2⟩ := storeNsO_cons e
    obtain ⟨a, b⟩ := storeNs_names h2
    refine ⟨by show _ + 1 = _ + 1; rw [a], ?_⟩
    show List.findIdx? _ ((false, assign (.Name x p) env) :: assignEach ts env) = none
    rw [List.findIdx?_cons]; simp [b]

theorem storeNs_tuple {ts : List PySem.Expr} {kk : Nat} {pos : Pos} {Vs : List PV} {v : Value} {ρ ρ' : Rho} (hh : A.handled = none) (LS : LayS env sc) (L : Lay env sc s.heap) (hv : Rep s.heap X (.tup Vs) v) (e : storeNsO sc ts Vs ρ = some ρ')
    (h : ∀ s', StP env sc X (ts.filterMap tname) ρ ρ' s s' → Q () s') : wpAny (model prog w) A (assign (.Tuple ts kk pos) env v) Q E s := by
  obtain ⟨T, vs, rfl, _, hT, hr⟩ := hv
  obtain ⟨h1, h2⟩ := storeNs_names (env := env) e
  refine wpAny_assign_Tuple hh hT (by rw [h1]; simp [hr.length]) h2 fun h' he => ?_
  have k : Kp [] s { s with heap := h' } := Kp.of (tk := s.toks) fun b o q => he b o (Nat.ne_of_lt (Heap.lt_size q)) q
  refine storeNs_ok LS ts Vs vs ρ ρ' _ Q (L.kp k) (hr.kp k) e fun s' st => h s' ⟨(k.kw.mono (by simp)).trans st.kw, st.lay, fun y u hy q => st.hold y u hy (q.sim (k.simX _)), fun Y => (k.simX Y).t.trans (st.sim Y), st.old, st.new⟩

theorem storeTO_cases {hd : Bool} {t : PySem.Expr} {V : PV} {ρ ρ' : Rho} (e : storeTO hd sc t V ρ = some ρ') : (∃ x p, t = .Name x p ∧ storeNO sc x (V, false) ρ = some ρ') ∨ (∃ ts k p vs, t = .Tuple ts k p ∧ V = .tup vs ∧ hd = false ∧ storeNsO sc ts vs ρ = some ρ') := by
  unfold storeTO at e
  split at e
  · rename_i x hx
    obtain ⟨p, rfl⟩ := tname_some hx
    exact .inl ⟨x, p, rfl, e⟩
  · obtain ⟨hf, e1⟩ := hd_false e
    obtain ⟨ts, h1, e2⟩ := Option.bind_eq_some_iff.mp e1
    obtain ⟨vs, h2, e3⟩ := Option.bind_eq_some_iff.mp e2
    obtain ⟨k, p, rfl⟩ := tupE_some h1
    exact .inr ⟨ts, k, p, vs, rfl, tupV_some h2, hf, e3⟩
theorem storeT_ok {hd : Bool} {t : PySem.Expr} {V : PV} {v : Value} {ρ ρ' : Rho} (hh : hd = false → A.handled = none) (LS : LayS env sc) (L : Lay env sc s.heap) (hv : Rep s.heap X V v) (e : storeT hd sc t V ρ = .ok ρ')
    (h : ∀ s', StP env sc X (tnames t) ρ ρ' s s' → Q () s') : wpAny (model prog w) A (assign t env v) Q E s := by
  rcases storeTO_cases (ofO_ok e) with ⟨x, p, rfl, e1⟩ | ⟨ts, k, p, vs, rfl, rfl, hf, e1⟩
  · exact wpAny_assign_Name (storeN_ok LS L hv e1 h)
  · exact storeNs_tuple (hh hf) LS L hv e1 h
end
end Mine
end
section
namespace Mine
open PySem PySem.W PyProof.Rows

theorem Res.bind_ok {α β : Type} {r : Res α} {f : α → Res β} {b : β} (h : r.bind f = .ok b) : ∃ a, r = .ok a ∧ f a = .ok b := by
  cases r with
  | ok a => exact ⟨a, rfl, h⟩
  | tie => cases h
  | stuck => cases h
theorem Res.noTie_ok {α : Type} {r : Res α} {a : α} (h : r.noTie = .ok a) : r = .ok a := by
  cases r with
  | ok _ => exact h
  | tie => cases h
  | stuck => cases h

noncomputable def storable (sc : Scope) (y : Str) : Prop := sc.names.lookup y = some .local ∨ sc.names.lookup y = some .cell

theorem storeNs_storable {sc : Scope} : ∀ {ts : List PySem.Expr} {Vs : List PV} {ρ ρ' : Rho}, storeNsO sc ts Vs ρ = some ρ' → ∀ y ∈ ts.filterMap tname, storable sc y
  | [], _, _, _, _, y, hy => by cases hy
  | t :: ts, Vs, ρ, ρ', e, y, hy => by
    obtain ⟨x, p, V, r, ρ₁, rfl, rfl, h1, h2⟩ := storeNsO_cons e
    rcases List.mem_cons.mp (show y ∈ x :: ts.filterMap tname from hy) with rfl | hy
    · exact (storeNO_some h1).1
    · exact storeNs_storable h2 y hy
theorem storeT_storable {hd : Bool} {sc : Scope} {t : PySem.Expr} {V : PV} {ρ ρ' : Rho} (e : storeT hd sc t V ρ = .ok ρ') : ∀ y ∈ tnames t, storable sc y := by
  rcases storeTO_cases (ofO_ok e) with ⟨x, p, rfl, e1⟩ | ⟨ts, k, p, vs, rfl, rfl, hf, e1⟩
  · intro y hy
    rw [show y = _ from List.mem_singleton.mp hy]
    exact (storeNO_some e1).1
  · exact storeNs_storable e1

/-- the objects that carry names: dicts and cells -/
noncomputable def CarrOK (env : Env) (h : Heap) : Prop := ∀ c ∈ carr env, ∃ o, h.get? c = some o ∧ ((∃ es ep, o.data = .dict es ep) ∨ ∃ v, o.data = .cell v)
theorem CarrOK.sim {env : Env} {h h' : Heap} (a : CarrOK env h) (k : SimX [] h h') : CarrOK env h' := fun c hc => by
  obtain ⟨o, ho, hd⟩ := a c hc
  obtain ⟨o', ho', _, hd'⟩ := k c o (by simp) ho
  exact ⟨o', ho', by rw [hd']; exact hd⟩
theorem CarrOK.kw {env : Env} {s s' : Shared} {X : List Addr} (a : CarrOK env s.heap) (k : KW X s s') (hX : ∀ c ∈ carr env, c ∉ X) : CarrOK env s'.heap := fun c hc => by
  obtain ⟨o, ho, hd⟩ := a c hc
  exact ⟨o, k.keep c o (hX c hc) ho, hd⟩
theorem Lay.own {env : Env} {sc : Scope} {h : Heap} (L : Lay env sc h) (hn : (sc.names.map (·.1)).Nodup) : ∀ c ∈ ownL env sc, ∃ o, h.get? c = some o ∧ ((∃ es ep, o.data = .dict es ep) ∨ ∃ v, o.data = .cell v) := fun c hc => by
  rcases List.mem_cons.mp hc with rfl | hc
  · obtain ⟨m, o, es, ep, ho, hd, _⟩ := L.ns
    exact ⟨o, ho, .inl ⟨es, ep, hd⟩⟩
  · obtain ⟨⟨n, k⟩, hm, h⟩ := List.mem_filterMap.mp hc
    dsimp only at h
    split at h
    · rename_i hk
      have hk' : k = .cell := by simpa using hk
      subst hk'
      have : sc.names.lookup n = some .cell := by
        clear h hc L
        generalize sc.names = l at hn hm
        induction l with
        | nil => cases hm
        | cons x r ih =>
          obtain ⟨n', k'⟩ := x
          rw [List.map_cons, List.nodup_cons] at hn
          rcases List.mem_cons.mp hm with e | hm2
          · cases e; simp
          · rw [List.lookup_cons]
            have : (n == n') = false := by
              refine beq_false_of_ne fun q => hn.1 ?_
              subst q
              exact List.mem_map.mpr ⟨(n, .cell), hm2, rfl⟩
            rw [this]; exact ih hn.2 hm2
      obtain ⟨c', v, hc', o, ho, hd⟩ := L.cell n this
      rw [h] at hc'; cases hc'
      exact ⟨o, ho, .inr ⟨v, hd⟩⟩
    · cases h
theorem CarrOK.st {env : Env} {sc : Scope} {s s' : Shared} {X : List Addr} (a : CarrOK env s.heap) (hn : (sc.names.map (·.1)).Nodup) (k : KW X s s') (hX : ∀ c ∈ carr env, c ∈ X → c ∈ ownL env sc) (L : Lay env sc s'.heap) : CarrOK env s'.heap := fun c hc => by
  by_cases h : c ∈ X
  · exact L.own hn c (hX c hc h)
  · obtain ⟨o, ho, hd⟩ := a c hc
    exact ⟨o, k.keep c o h ho, hd⟩

/-- what the names outside N say -/
noncomputable def EnvN (N : Str → Prop) (env : Env) (h : Heap) (X : List Addr) (ρ : Rho) : Prop := ∀ x V o, ¬ N x → ρ.lookup x = some (V, o) → ∃ v, Hold env h x v ∧ Rep h X V v

/-- a stretch of a comprehension's loop: only the iterator, the list and the block's own names change -/
structure CL (cenv : Env) (scope : Scope) (wr : List Addr) (D : Addr) (N : Str → Prop) (s₀ s : Shared) : Prop where
  kw : KW (wr ++ D :: ownL cenv scope) s₀ s
  lay : Lay cenv scope s.heap
  hold : ∀ y u, ¬ N y → Hold cenv s₀.heap y u → Hold cenv s.heap y u
  sim : SimT (D :: wr) s₀.heap s.heap
theorem CL.refl {cenv : Env} {scope : Scope} {wr : List Addr} {D : Addr} {N : Str → Prop} {s : Shared} (L : Lay cenv scope s.heap) : CL cenv scope wr D N s s := ⟨KW.refl _ _, L, fun _ _ _ h => h, SimT.refl _ _⟩
theorem CL.trans {cenv : Env} {scope : Scope} {wr : List Addr} {D : Addr} {N : Str → Prop} {s₁ s₂ s₃ : Shared} (a : CL cenv scope wr D N s₁ s₂) (b : CL cenv scope wr D N s₂ s₃) : CL cenv scope wr D N s₁ s₃ :=
  ⟨a.kw.trans b.kw, b.lay, fun y u hy h => b.hold y u hy (a.hold y u hy h), a.sim.trans b.sim⟩
theorem CL.more {cenv : Env} {scope : Scope} {wr wr' : List Addr} {D : Addr} {N N' : Str → Prop} {s₁ s₂ : Shared} (a : CL cenv scope wr D N s₁ s₂) (h : ∀ b ∈ wr, b ∈ wr') (hN : ∀ y, N y → N' y) : CL cenv scope wr' D N' s₁ s₂ :=
  ⟨a.kw.mono (fun b hb => by
    rcases List.mem_append.mp hb with hb | hb
    · exact List.mem_append_left _ (h b hb)
    · exact List.mem_append_right _ hb), a.lay, fun y u hy => a.hold y u fun q => hy (hN y q), a.sim.mono fun b hb => by
    rcases List.mem_cons.mp hb with rfl | hb
    · exact List.mem_cons_self ..
    · exact List.mem_cons_of_mem _ (h b hb)⟩

noncomputable def Acc (D : Addr) (X : List Addr) (ws : List PV) (s : Shared) : Prop := ∃ vs, PlainL s.heap D (List.toArray vs) ∧ RepL s.heap X ws vs
noncomputable def DL (h : Heap) (a : Addr) : Prop := ∃ o, h.get? a = some o ∧ o.dict = none
theorem PlainL.dl {h : Heap} {a : Addr} {vs : Array Value} (x : PlainL h a vs) : DL h a := let ⟨o, _, h1, _, h2, _⟩ := x; ⟨o, h1, h2⟩

section
variable {prog : Program} {w : World} {A : Around} {R : Result → Shared → Prop}

theorem mem_split_at {α : Type} {l : List α} {i : Nat} (h : i < l.length) : ∃ V, l[i]? = some V ∧ l.drop i = V :: l.drop (i + 1) := by
  refine ⟨l[i], List.getElem?_eq_getElem h, ?_⟩
  exact List.drop_eq_getElem_cons h

theorem loop_ok {e : PySem.Expr} {d : Nat} {t : PySem.Expr} {p : Pos} {TAIL : Sem Fin} {hd : Bool} {cenv : Env} {scope : Scope} {X Y : List Addr} {sA sI s₀ : Shared} {items : List PV} {I D : Addr} {fp wr : List Addr}
    {It : Nat → Heap → Heap → Value → Prop} {St : Nat → Heap → Prop} {ρ : Rho} {N : Str → Prop} {g : Rho → Res (List PV)} {ws done₀ : List PV}
    (hturn : compTurn e d (.ref I) (.ref D) cenv = (standAt p >>= fun _ => pyNext (.ref I) >>= fun r => match r with
      | none => pure (.done .next)
      | some v => letOwnedTupleGo t (.ref I) v >>= fun _ => assign t cenv v >>= fun _ => TAIL))
    (hden : ∀ s Q, wpAny (model prog w) A ((compTurn e d (.ref I) (.ref D) cenv).onRaise (fun x => do noteFrame x cenv; theTreesLotGoes x)) Q (fun e s' => R (.error e) s') s →
      wpAny (model prog w) (A.under (.compLoop e d (.ref I) (.ref D) cenv)) ((model prog w).den (.compLoop e d (.ref I) (.ref D) cenv)) Q (fun e s' => R (.error e) s') s)
    (hh : hd = false → A.handled = none) (LS : LayS cenv scope) (hnd : (scope.names.map (·.1)).Nodup) (L : Lay cenv scope s₀.heap) (S : Src prog w A t X sA sI items I fp wr It St) (hst : St 0 s₀.heap)
    (hsim : SimT (X ++ wr ++ Y) sI.heap s₀.heap) (hY : ∀ a ∈ Y, sI.heap.get? a = none) (hX : ∀ a ∈ X ++ Y, ∃ o, s₀.heap.get? a = some o) (hXw : ∀ a ∈ X ++ Y, a ∉ wr)
    (hD : D ∈ X ++ Y) (hDf : D ∉ fp) (hDc : D ∉ carr cenv) (hc : ∀ b ∈ carr cenv, b ∉ fp)
    (hN1 : ∀ y ∈ tnames t, storable scope y → N y) (hN2 : ∀ y, N y → y ∉ tnames t → ρ.lookup y = none)
    (hρ : EnvN N cenv s₀.heap (X ++ wr ++ Y) ρ) (hacc : Acc D (X ++ wr ++ Y) done₀ s₀)
    (hres : flatR (fun v => (storeT hd scope t v ρ).bind g) items = .ok ws) (hlen : (done₀ ++ ws).length ≤ szLine)
    (hbody : ∀ ρ' ws₁ done s (Q : Fin → Shared → Prop) E, CL cenv scope wr D N s₀ s → g ρ' = .ok ws₁ → (done ++ ws₁).length ≤ szLine → EnvE cenv s.heap (X ++ wr ++ Y) ρ' → Acc D (X ++ wr ++ Y) done s → (∀ a ∈ X ++ wr ++ Y, ∃ o, s.heap.get? a = some o) →
      (∀ s', CL cenv scope [] D N s s' → Acc D (X ++ wr ++ Y) (done ++ ws₁) s' → Q (.again (.compLoop e d (.ref I) (.ref D) cenv)) s') → wpAny (model prog w) A TAIL Q E s)
    (hR : ∀ s', CL cenv scope wr D N s₀ s' → Acc D (X ++ wr ++ Y) (done₀ ++ ws) s' → R (.ok .next) s') :
    codeAny (model prog w) A (.compLoop e d (.ref I) (.ref D) cenv) R s₀ := by
  have hwf := S.dr.sub
  refine codeAny_loop rfl (fun k s => ∃ i done rest, i ≤ items.length ∧ k = items.length - i ∧ flatR (fun v => (storeT hd scope t v ρ).bind g) (items.drop i) = .ok rest ∧ done ++ rest = done₀ ++ ws ∧
    St i s.heap ∧ CL cenv scope wr D N s₀ s ∧ Acc D (X ++ wr ++ Y) done s) (fun k s hI => ?_) items.length ⟨0, done₀, ws, Nat.zero_le _, rfl, by simpa using hres, rfl, hst, CL.refl L, hacc⟩
  obtain ⟨i, done, rest, hi, rfl, hr, hdr, hsti, C, hac⟩ := hI
  refine hden _ _ ?_
  refine wpAny_noted ?_
  rw [hturn]
  refine wpAny_bind (wpAny_standAt (wpAny_bind ?_))
  by_cases hlt : i < items.length
  · obtain ⟨V, hV, hdrop⟩ := mem_split_at hlt
    rw [hdrop] at hr
    unfold flatR at hr
    obtain ⟨ws₁, h1, h2⟩ := Res.bind_ok hr
    obtain ⟨rest', h3, h4⟩ := Res.bind_ok h2
    obtain ⟨ρ', h5, h6⟩ := Res.bind_ok h1
    have h4' : ws₁ ++ rest' = rest := by cases h4; rfl
    have exAt : ∀ s, CL cenv scope wr D N s₀ s → Acc D (X ++ wr ++ Y) done s → ∀ a ∈ X ++ Y, ∃ o, s.heap.get? a = some o := fun s C hac a ha => by
      by_cases haD : a = D
      · obtain ⟨vs, ⟨o, _, ho, _⟩, _⟩ := hac
        exact ⟨o, haD ▸ ho⟩
      · by_cases hao : a ∈ ownL cenv scope
        · obtain ⟨o, ho, _⟩ := C.lay.own hnd a hao
          exact ⟨o, ho⟩
        · obtain ⟨o, ho⟩ := hX a ha
          refine ⟨o, C.kw.keep a o (fun q => ?_) ho⟩
          rcases List.mem_append.mp q with q | q
          · exact hXw a ha q
          · rcases List.mem_cons.mp q with q | q
            · exact haD q
            · exact hao q
    refine S.dr.item i s _ _ hlt hsti fun v s₁ hgo => ?_
    refine wpAny_bind (hgo _ _ fun s₂ hst2 hIt k2 => ?_)
    have hcw : ∀ b ∈ carr cenv, b ∉ wr := fun b hb q => hc b hb (hwf b q)
    have hDw : D ∉ wr := fun q => hDf (hwf D q)
    have lay2 : Lay cenv scope s₂.heap := C.lay.kw k2 hcw
    have sub1 : ∀ b, b ∈ D :: wr → b ∈ X ++ wr ++ Y := fun b hb => by
      rcases List.mem_cons.mp hb with rfl | hb
      · rcases List.mem_append.mp hD with q | q
        · exact List.mem_append_left _ (List.mem_append_left _ q)
        · exact List.mem_append_right _ q
      · exact List.mem_append_left _ (List.mem_append_right _ hb)
    have sub2 : ∀ b, b ∈ wr → b ∈ X ++ wr ++ Y := fun b hb => sub1 b (List.mem_cons_of_mem _ hb)
    have sim2 : SimT (X ++ wr ++ Y) sI.heap s₂.heap := (hsim.trans (C.sim.mono sub1)).trans (k2.simT.mono sub2)
    have hrep := S.rep Y hY (X ++ wr ++ Y) (fun _ h => h) s.heap s₂.heap (fun a ha => by
      rcases List.mem_append.mp ha with ha | ha
      · rcases List.mem_append.mp ha with ha | ha
        · exact .inr (exAt s C hac a (List.mem_append_left _ ha))
        · exact .inl ha
      · exact .inr (exAt s C hac a (List.mem_append_right _ ha))) sim2 i V v hV hIt
    refine wpAny_bind (storeT_ok hh LS lay2 hrep h5 fun s₃ st => ?_)
    have hac3 : Acc D (X ++ wr ++ Y) done s₃ := by
      obtain ⟨vs, ⟨o, nn, ho, r⟩, hrr⟩ := hac
      exact ⟨vs, ⟨o, nn, st.kw.keep D o (fun q => hDc (ownL_carr D q)) (k2.keep D o hDw ho), r⟩, RepL.sim (st.sim _) _ _ (RepL.sim (k2.simT.mono sub2) _ _ hrr)⟩
    have C3 : CL cenv scope wr D N s₀ s₃ := by
      refine C.trans ⟨?_, st.lay, fun y u hy h => st.hold y u (fun q => hy (hN1 y q (storeT_storable h5 y q))) (h.kw k2 hcw), (k2.simT.trans (st.sim wr)).mono fun b hb => List.mem_cons_of_mem _ hb⟩
      exact (k2.mono fun b hb => List.mem_append_left _ hb).trans (st.kw.mono fun b hb => List.mem_append_right _ (List.mem_cons_of_mem _ hb))
    have hE : EnvE cenv s₃.heap (X ++ wr ++ Y) ρ' := fun y W o hy => by
      by_cases hyt : y ∈ tnames t
      · obtain ⟨W', u, q1, q2, q3⟩ := st.new y hyt
        rw [q1] at hy; cases hy
        exact ⟨u, q2, q3⟩
      · rw [st.old y hyt] at hy
        by_cases hyN : N y
        · rw [hN2 y hyN hyt] at hy; cases hy
        · obtain ⟨u, q1, q2⟩ := hρ y W o hyN hy
          refine ⟨u, C3.hold y u hyN q1, Rep.sim (C3.sim.mono sub1) _ _ q2⟩
    have hl1 : (done ++ ws₁).length ≤ szLine := by
      refine Nat.le_trans ?_ hlen
      rw [← hdr, ← h4']; simp
    have hex3 : ∀ a ∈ X ++ wr ++ Y, ∃ o, s₃.heap.get? a = some o := fun a ha => by
      have hst3 : St (i + 1) s₃.heap := S.dr.frame _ _ _ hst2 fun b hb o ho => st.kw.keep b o (fun q => hc b (ownL_carr b q) hb) ho
      rcases List.mem_append.mp ha with ha | ha
      · rcases List.mem_append.mp ha with ha | ha
        · exact exAt s₃ C3 hac3 a (List.mem_append_left _ ha)
        · exact S.dr.ex _ _ hst3 a (hwf a ha)
      · exact exAt s₃ C3 hac3 a (List.mem_append_right _ ha)
    refine hbody ρ' ws₁ done s₃ _ _ C3 h6 hl1 hE hac3 hex3 fun s₄ C4 hac4 => ?_
    refine ⟨rfl, items.length - (i + 1), by (clear hturn hden hh LS hnd L S hst hsim hY hX hXw hD hDf hDc hc hN1 hN2 hρ hacc hres hlen hbody hR hwf hdr hsti C hac hV hdrop hr h1 h2 h3 h4 h5 h6 h4' exAt hgo hst2 hIt k2 hcw hDw lay2 sub1 sub2 sim2 hrep st hac3 C3 hE hl1 hex3 C4 hac4; omega), i + 1, done ++ ws₁, rest', hlt, rfl, h3, by rw [List.append_assoc, h4', hdr], ?_, C3.trans (C4.more (by simp) fun _ q => q), hac4⟩
    refine S.dr.frame _ _ _ hst2 fun b hb o ho => C4.kw.keep b o (fun q => ?_) (st.kw.keep b o (fun q => hc b (ownL_carr b q) hb) ho)
    rcases List.mem_cons.mp q with q | q
    · exact hDf (q ▸ hb)
    · exact hc b (ownL_carr b q) hb
  · have hi' : i = items.length := by (clear hturn hden hh LS hnd L S hst hsim hY hX hXw hD hDf hDc hc hN1 hN2 hρ hacc hres hlen hbody hR hwf hr hdr hsti C hac; lia)
    subst hi'
    rw [List.drop_length] at hr
    have hrest : rest = [] := by cases hr; rfl
    subst hrest
    rw [List.append_nil] at hdr
    have hcw : ∀ b ∈ carr cenv, b ∉ wr := fun b hb q => hc b hb (hwf b q)
    have hDw : D ∉ wr := fun q => hDf (hwf D q)
    refine S.dr.done s _ _ hsti fun s' k => wpAny_pure ?_
    refine hR s' (C.trans ⟨k.mono fun b hb => List.mem_append_left _ hb, C.lay.kw k hcw, fun y u hy h => h.kw k hcw, k.simT.mono fun b hb => List.mem_cons_of_mem _ hb⟩) ?_
    rw [← hdr]
    obtain ⟨vs, ⟨o, nn, ho, r⟩, hrr⟩ := hac
    refine ⟨vs, ⟨o, nn, k.keep D o hDw ho, r⟩, RepL.sim (k.simT.mono fun b hb => List.mem_append_left _ (List.mem_append_right _ hb)) _ _ hrr⟩
end
end Mine
end
section
namespace Mine
open PySem PySem.W PyProof.Rows

noncomputable def clFrom (env : Env) : List (Str × NameKind) → List (Str × Addr) → List (Str × Addr)
  | [], acc => acc
  | (n, k) :: r, acc => if k == .free then clFrom env r ((n, (env.cells.lookup n).getD 0) :: acc) else clFrom env r acc

theorem clFrom_mem (env : Env) : ∀ (names : List (Str × NameKind)) (acc : List (Str × Addr)) n c, (n, c) ∈ clFrom env names acc → (n, c) ∈ acc ∨ ((n, NameKind.free) ∈ names ∧ c = (env.cells.lookup n).getD 0)
  | [], _, _, _, h => .inl h
  | (m, k) :: r, acc, n, c, h => by
    unfold clFrom at h
    split at h
    · rename_i hk
      have hk' : k = .free := by simpa using hk
      subst hk'
      rcases clFrom_mem env r _ n c h with h | ⟨h, e⟩
      · rcases List.mem_cons.mp h with h | h
        · cases h; exact .inr ⟨List.mem_cons_self .., rfl⟩
        · exact .inl h
      · exact .inr ⟨List.mem_cons_of_mem _ h, e⟩
    · rcases clFrom_mem env r _ n c h with h | ⟨h, e⟩
      · exact .inl h
      · exact .inr ⟨List.mem_cons_of_mem _ h, e⟩
theorem clFrom_acc (env : Env) : ∀ (names : List (Str × NameKind)) (acc : List (Str × Addr)) x, x ∈ acc → x ∈ clFrom env names acc
  | [], _, _, h => h
  | (m, k) :: r, acc, x, h => by
    unfold clFrom
    split
    · exact clFrom_acc env r _ x (List.mem_cons_of_mem _ h)
    · exact clFrom_acc env r _ x h
theorem clFrom_has (env : Env) : ∀ (names : List (Str × NameKind)) (acc : List (Str × Addr)) n, (n, NameKind.free) ∈ names → ∃ c, (n, c) ∈ clFrom env names acc
  | [], _, _, h => by cases h
  | (m, k) :: r, acc, n, h => by
    unfold clFrom
    rcases List.mem_cons.mp h with h | h
    · cases h
      rw [if_pos (by decide)]
      exact ⟨_, clFrom_acc env r _ _ (List.mem_cons_self ..)⟩
    · split
      · exact clFrom_has env r _ n h
      · exact clFrom_has env r _ n h

theorem cellsFrom_app : ∀ (names : List (Str × NameKind)) (k : Nat) (acc : List (Str × Addr)), cellsFrom k names acc = cellsFrom k names [] ++ acc
  | [], _, _ => rfl
  | (m, kd) :: r, k, acc => by
    unfold cellsFrom
    split
    · rw [cellsFrom_app r (k + 1) ((m, k) :: acc), cellsFrom_app r (k + 1) [(m, k)]]; simp
    · exact cellsFrom_app r k acc
theorem cellsFrom_mem : ∀ (names : List (Str × NameKind)) (k : Nat) n c, (n, c) ∈ cellsFrom k names [] → (n, NameKind.cell) ∈ names
  | [], _, _, _, h => by cases h
  | (m, kd) :: r, k, n, c, h => by
    unfold cellsFrom at h
    split at h
    · rename_i hk
      have hk' : kd = .cell := by simpa using hk
      subst hk'
      rw [cellsFrom_app] at h
      rcases List.mem_append.mp h with h | h
      · exact List.mem_cons_of_mem _ (cellsFrom_mem r _ n c h)
      · rw [List.mem_singleton] at h; cases h; exact List.mem_cons_self ..
    · exact List.mem_cons_of_mem _ (cellsFrom_mem r _ n c h)
theorem cellsFrom_has : ∀ (names : List (Str × NameKind)) (k : Nat) n, (n, NameKind.cell) ∈ names → ∃ c, (n, c) ∈ cellsFrom k names []
  | [], _, _, h => by cases h
  | (m, kd) :: r, k, n, h => by
    unfold cellsFrom
    rcases List.mem_cons.mp h with h | h
    · cases h
      rw [if_pos (by decide), cellsFrom_app]
      exact ⟨k, List.mem_append_right _ (List.mem_cons_self ..)⟩
    · obtain ⟨c, hc⟩ := cellsFrom_has r (k + 1) n h
      obtain ⟨c', hc'⟩ := cellsFrom_has r k n h
      split
      · rw [cellsFrom_app]; exact ⟨c, List.mem_append_left _ hc⟩
      · exact ⟨c', hc'⟩

theorem lookup_of_mem {α : Type} : ∀ {l : List (Str × α)} {n : Str} {c : α}, (n, c) ∈ l → ∃ c', l.lookup n = some c'
  | (k, v) :: r, n, c, h => by
    rw [List.lookup_cons]
    rcases List.mem_cons.mp h with h | h
    · cases h; simp
    · cases n == k with
      | true => exact ⟨_, rfl⟩
      | false => exact lookup_of_mem h
theorem mem_unique {α : Type} : ∀ {l : List (Str × α)} {n : Str} {c c' : α}, (l.map (·.1)).Nodup → (n, c) ∈ l → (n, c') ∈ l → c = c'
  | (k, v) :: r, n, c, c', hn, h, h' => by
    rw [List.map_cons, List.nodup_cons] at hn
    rcases List.mem_cons.mp h with e | h <;> rcases List.mem_cons.mp h' with e' | h'
    · cases e; cases e'; rfl
    · cases e; exact absurd (List.mem_map.mpr ⟨_, h', rfl⟩) hn.1
    · cases e'; exact absurd (List.mem_map.mpr ⟨_, h, rfl⟩) hn.1
    · exact mem_unique hn.2 h h'
theorem lookup_eq_of_mem {α : Type} {l : List (Str × α)} {n : Str} {c : α} (hn : (l.map (·.1)).Nodup) (h : (n, c) ∈ l) : l.lookup n = some c := by
  obtain ⟨c', h'⟩ := lookup_of_mem h
  rw [h', mem_unique hn (mem_of_lookup h') h]
theorem lookup_app {α : Type} : ∀ {l m : List (Str × α)} {n : Str}, (l ++ m).lookup n = (match l.lookup n with | some c => some c | none => m.lookup n)
  | [], _, _ => rfl
  | (k, v) :: r, m, n => by
    rw [List.cons_append, List.lookup_cons, List.lookup_cons]
    cases n == k with
    | true => rfl
    | false => exact lookup_app

theorem closureFor_eq {env : Env} {scope : Scope} (h : ∀ n, (n, NameKind.free) ∈ scope.names → ∃ c, env.cells.lookup n = some c) : closureFor scope env = pure (clFrom env scope.names []) := by
  unfold closureFor
  have key : ∀ (names : List (Str × NameKind)) (acc : List (Str × Addr)), (∀ n, (n, NameKind.free) ∈ names → ∃ c, env.cells.lookup n = some c) →
      (forIn names acc fun x r => if (x.2 == NameKind.free) = true then (do let a ← cellOf env x.1; pure (ForInStep.yield ((x.1, a) :: r))) else pure (ForInStep.yield r) : Sem (List (Str × Addr))) = pure (clFrom env names acc) := by
    intro names
    induction names with
    | nil => intro acc _; rfl
    | cons x r ih =>
      intro acc hx
      obtain ⟨n, k⟩ := x
      rw [List.forIn_cons]
      unfold clFrom
      dsimp only
      split
      · rename_i hk
        have hk' : k = .free := by simpa using hk
        subst hk'
        obtain ⟨c, hc⟩ := hx n (List.mem_cons_self ..)
        rw [show cellOf env n = pure c by unfold cellOf; rw [hc], hc]
        exact ih _ fun m hm => hx m (List.mem_cons_of_mem _ hm)
      · exact ih _ fun m hm => hx m (List.mem_cons_of_mem _ hm)
  have := key scope.names [] h
  show (forIn scope.names [] _ >>= pure) = _
  rw [show ((forIn scope.names ([] : List (Str × Addr)) fun (x : Str × NameKind) (r : List (Str × Addr)) => if (x.2 == NameKind.free) = true then (do let a ← cellOf env x.1; pure (ForInStep.yield ((x.1, a) :: r))) else pure (ForInStep.yield r) : Sem (List (Str × Addr))) >>= pure) = pure (clFrom env scope.names []) from by rw [this]; rfl]

/-- what stays of a block's environment -/
structure EnvS (env : Env) (sc : Scope) : Prop where
  scope : env.scope = sc
  kind : sc.kind = .function
  globals : env.globals = mainGlobals
  builtins : env.builtins = builtinsNs
  dbg : sc.names.lookup (Str.ofString "__debug__") = none
  cdict : sc.names.lookup (Str.ofString "__classdict__") = none
  cin : ∀ x, sc.names.lookup x = some .cell ∨ sc.names.lookup x = some .free → ∃ c, env.cells.lookup x = some c

theorem lookup_relab (scope sc : Scope) (x : Str) : (relab scope sc).names.lookup x = (scope.names.lookup x).map fun k => if (k == .free && sc.kind == .function && sc.names.lookup x == some .cell) then .cell else k := by
  unfold relab
  show List.lookup x (scope.names.map _) = _
  induction scope.names with
  | nil => rfl
  | cons y r ih =>
    obtain ⟨n, k⟩ := y
    rw [List.map_cons, List.lookup_cons]
    by_cases hc : (k == NameKind.free && sc.kind == .function && sc.names.lookup n == some .cell) = true
    · simp only [if_pos hc, List.lookup_cons]
      cases hx : x == n with
      | true =>
        rw [beq_iff_eq] at hx; subst hx
        rw [Option.map_some, if_pos hc]
      | false => exact ih
    · simp only [if_neg hc, List.lookup_cons]
      cases hx : x == n with
      | true =>
        rw [beq_iff_eq] at hx; subst hx
        rw [Option.map_some, if_neg hc]
      | false => exact ih

theorem scOK_nodup {sc : Scope} (h : scOK sc = true) : sc.kind = .function ∧ (sc.names.lookup (Str.ofString "__debug__")) = none ∧ (sc.names.lookup (Str.ofString "__classdict__")) = none ∧ (sc.names.map (·.1)).Nodup := by
  unfold scOK at h
  simp only [Bool.and_eq_true, decide_eq_true_eq] at h
  obtain ⟨⟨⟨h1, h2⟩, h3⟩, h4⟩ := h
  exact ⟨by simpa using h1, by simpa using h2, by simpa using h3, h4⟩

structure CompEnv (env cenv : Env) (scope sc : Scope) (X : List Addr) (ρ : Rho) (s s' : Shared) : Prop where
  kp : Kp [] s s'
  es : EnvS cenv (relab scope sc)
  ls : LayS cenv scope
  lay : Lay cenv scope s'.heap
  car : CarrOK cenv s'.heap
  ent : EnvE cenv s'.heap X (inner scope ρ)
  from_ : ∀ b ∈ carr cenv, b ∉ carr env → s.heap.objs.size ≤ b
  own : ∀ b ∈ ownL cenv scope, s.heap.objs.size ≤ b
  loc : s'.heap.Ns cenv.locals fun _ => none

theorem inner_lookup {scope : Scope} {ρ : Rho} {x : Str} {V : PV} {o : Bool} (h : (inner scope ρ).lookup x = some (V, o)) : scope.names.lookup x = some .free ∧ o = false ∧ ∃ o', ρ.lookup x = some (V, o') := by
  unfold inner freeze at h
  induction ρ with
  | nil => cases h
  | cons p r ih =>
    obtain ⟨y, W, q⟩ := p
    by_cases hy : (scope.names.lookup y == some NameKind.free) = true
    · rw [List.filter_cons_of_pos (by exact hy), List.map_cons] at h
      rw [List.lookup_cons] at h ⊢
      cases hxy : x == y with
      | true =>
        rw [hxy] at h
        rw [beq_iff_eq] at hxy; subst hxy
        cases h
        exact ⟨by simpa using hy, rfl, q, rfl⟩
      | false =>
        rw [hxy] at h
        exact ih h
    · rw [List.filter_cons_of_neg (by exact hy)] at h
      obtain ⟨h1, h2, o', h3⟩ := ih h
      refine ⟨h1, h2, o', ?_⟩
      rw [List.lookup_cons]
      cases hxy : x == y with
      | true =>
        rw [beq_iff_eq] at hxy; subst hxy
        exact absurd (by simpa using h1) hy
      | false => exact h3

section
variable {M : Model} {A : Around} {E : Value → Shared → Prop} {s : Shared} {Q : Env → Shared → Prop} {env : Env} {sc scope : Scope} {X : List Addr} {ρ : Rho}

theorem compEnv_free (ES : EnvS env sc) (hc : compOK scope sc = true) : ∀ n, (n, NameKind.free) ∈ scope.names → ∃ c, env.cells.lookup n = some c := fun n hn => by
  unfold compOK at hc
  rw [Bool.and_eq_true, List.all_eq_true] at hc
  have := hc.2 _ hn
  simp only [bne_self_eq_false, Bool.false_or, Bool.or_eq_true, beq_iff_eq] at this
  exact ES.cin n this

theorem compEnv_ok (ES : EnvS env sc) (hc : compOK scope sc = true) (hcar : CarrOK env s.heap) (hE : EnvE env s.heap X ρ)
    (h : ∀ cenv s', CompEnv env { cenv with scope := relabel scope env } scope sc X ρ s s' → Q cenv s') :
    wpAny M A (newFunctionEnv scope env.globals (clFrom env scope.names []) [] env.qual none .none (some env)) Q E s := by
  have hfree := compEnv_free ES hc
  have hok := hc
  unfold compOK at hok
  rw [Bool.and_eq_true, List.all_eq_true] at hok
  obtain ⟨hkind, hdbg, hcd, hnd⟩ := scOK_nodup hok.1
  simp only [newFunctionEnv, Option.isSome_some, if_true]
  refine wpAny_bind (wpAny_alloc ?_)
  refine wpAny_bind (wpAny_layCells _ (fun name kind cells => by cases hkc : kind == NameKind.cell <;> simp [hkc]) _ _ _ _ ?_)
  have ok := cellsFrom_ok scope.names (s.heap.push { cls := .type "dict", data := .dict #[] }) (s.heap.objs.size + 1) [] ⟨fun _ _ hm => (nomatch hm), List.Pairwise.nil⟩ (by rw [Heap.size_push]; exact Nat.le_refl _)
  rw [Heap.size_push] at ok
  rw [show ({ s with heap := s.heap.push { cls := .type "dict", data := .dict #[] } } : Shared).heap.objs.size = s.heap.objs.size + 1 from Heap.size_push ..]
  rw [List.forIn_nil]
  refine wpAny_bind (wpAny_pure (wpAny_pure (h _ _ ?_)))
  rw [cellsFrom_app]
  generalize hcs : cellsFrom (s.heap.objs.size + 1) scope.names [] = cs at ok
  have csmem : ∀ n c, (n, c) ∈ cs → (n, NameKind.cell) ∈ scope.names := fun n c q => cellsFrom_mem _ _ _ _ (hcs ▸ q)
  have cshas : ∀ n, (n, NameKind.cell) ∈ scope.names → ∃ c, (n, c) ∈ cs := fun n q => hcs ▸ cellsFrom_has _ _ _ q
  have clmem : ∀ n c, (n, c) ∈ clFrom env scope.names [] → (n, NameKind.free) ∈ scope.names ∧ env.cells.lookup n = some c := fun n c q => by
    rcases clFrom_mem env _ _ n c q with q | ⟨q, e⟩
    · cases q
    · obtain ⟨c', hc'⟩ := hfree n q
      rw [hc'] at e
      exact ⟨q, by rw [hc', e]; rfl⟩
  have clhas : ∀ n, (n, NameKind.free) ∈ scope.names → ∃ c, (n, c) ∈ clFrom env scope.names [] := fun n q => clFrom_has env _ _ n q
  generalize clFrom env scope.names [] = cl at clmem clhas
  have lkc : ∀ n, scope.names.lookup n = some .cell → ∃ c, (cs ++ cl).lookup n = some c ∧ (n, c) ∈ cs := fun n q => by
    obtain ⟨c, hc⟩ := cshas n (mem_of_lookup q)
    obtain ⟨c', hc'⟩ := lookup_of_mem hc
    exact ⟨c', by rw [lookup_app, hc'], mem_of_lookup hc'⟩
  have lkf : ∀ n, scope.names.lookup n = some .free → ∃ c, (cs ++ cl).lookup n = some c ∧ env.cells.lookup n = some c := fun n q => by
    obtain ⟨c, hc⟩ := clhas n (mem_of_lookup q)
    obtain ⟨c', hc'⟩ := lookup_of_mem hc
    refine ⟨c', ?_, (clmem _ _ (mem_of_lookup hc')).2⟩
    rw [lookup_app]
    cases hx : cs.lookup n with
    | none => exact hc'
    | some d =>
      have := lookup_eq_of_mem hnd (csmem _ _ (mem_of_lookup hx))
      rw [q] at this; cases this
  have kk : ∀ b o, s.heap.get? b = some o → (pushCells (s.heap.push { cls := .type "dict", data := .dict #[] }) scope.names).get? b = some o := fun b o e => pushCells_keeps _ _ b o (Heap.get?_push_of_some _ e)
  have kp : Kp [] s { s with heap := pushCells (s.heap.push { cls := .type "dict", data := .dict #[] }) scope.names } := Kp.of (tk := s.toks) kk
  have hNs : (pushCells (s.heap.push { cls := .type "dict", data := .dict #[] }) scope.names).Ns s.heap.objs.size fun _ => none := (Heap.Ns.new s.heap (.type "dict")).keeps (pushCells_keeps _ _)
  refine ⟨kp, ?_, ?_, ?_, ?_, ?_, ?_, ?_, hNs⟩
  · refine ⟨?_, hkind, ES.globals, ES.builtins, ?_, ?_, fun x hx => ?_⟩
    · show relabel scope env = _
      unfold relabel relab Env.kindOf
      rw [ES.scope]
    · rw [lookup_relab, hdbg]; rfl
    · rw [lookup_relab, hcd]; rfl
    · rw [lookup_relab] at hx
      show ∃ c, (cs ++ cl).lookup x = some c
      cases hs : scope.names.lookup x with
      | none => rw [hs] at hx; simp at hx
      | some k =>
        rw [hs] at hx
        by_cases hk : k = .cell
        · subst hk; obtain ⟨c, q, _⟩ := lkc x hs; exact ⟨c, q⟩
        · by_cases hf : k = .free
          · subst hf; obtain ⟨c, q, _⟩ := lkf x hs; exact ⟨c, q⟩
          · simp only [Option.map_some] at hx
            rw [if_neg (by simp [hf])] at hx
            simp [hk, hf] at hx
  · have kd : ∀ x k, scope.names.lookup x = some k → k ≠ .free → (relabel scope env).names.lookup x = some k := fun x k q hk => by
      have : (relabel scope env) = relab scope sc := by unfold relabel relab Env.kindOf; rw [ES.scope]
      rw [this, lookup_relab, q, Option.map_some, if_neg (by simp [hk])]
    refine ⟨hkind, fun x hx => kd x _ hx (by decide), fun x hx => kd x _ hx (by decide), fun x y c hx hc hy => ?_⟩
    obtain ⟨c', h1, h2⟩ := lkc x hx
    have hc' : (cs ++ cl).lookup x = some c := hc
    rw [h1] at hc'; cases hc'
    have hy' : (cs ++ cl).lookup y = some c := hy
    rw [lookup_app] at hy'
    cases hq : cs.lookup y with
    | some d =>
      rw [hq] at hy'; cases hy'
      exact name_of_addr ok.apart (mem_of_lookup hq) h2
    | none =>
      rw [hq] at hy'
      have h3 := (clmem _ _ (mem_of_lookup hy')).2
      obtain ⟨o, ho, _⟩ := hcar c (lookup_mem_carr h3)
      exact absurd (Heap.lt_size ho) (Nat.not_lt.mpr (Nat.le_of_succ_le (ok.empty _ _ h2).2))
  · refine ⟨⟨_, hNs⟩, fun x hx => ?_⟩
    obtain ⟨c, h1, h2⟩ := lkc x hx
    exact ⟨c, none, h1, (ok.empty _ _ h2).1⟩
  · intro c hc
    rcases List.mem_cons.mp hc with rfl | hc
    · obtain ⟨o, es, ep, ho, hd, _⟩ := hNs
      exact ⟨o, ho, .inl ⟨es, ep, hd⟩⟩
    · obtain ⟨⟨n, d⟩, hm, rfl⟩ := List.mem_map.mp hc
      rcases List.mem_append.mp hm with hm | hm
      · obtain ⟨o, ho, hd⟩ := (ok.empty _ _ hm).1
        exact ⟨o, ho, .inr ⟨_, hd⟩⟩
      · obtain ⟨o, ho, hd⟩ := hcar _ (lookup_mem_carr (clmem _ _ hm).2)
        exact ⟨o, kk _ _ ho, hd⟩
  · intro x V o hx
    obtain ⟨h1, _, o', h2⟩ := inner_lookup hx
    obtain ⟨v, hv, hr⟩ := hE x V o' h2
    refine ⟨v, ?_, Rep.sim (kp.simX _).t V v hr⟩
    obtain ⟨c, q1, q2⟩ := lkf x h1
    have hcell : s.heap.IsCell c (some v) := by
      have := hok.2 _ (mem_of_lookup h1)
      simp only [bne_self_eq_false, Bool.false_or, Bool.or_eq_true, beq_iff_eq] at this
      unfold Hold Env.kindOf at hv
      rw [ES.scope] at hv
      rcases this with q | q <;> rw [q] at hv <;> (obtain ⟨c', q3, q4⟩ := hv; rw [q2] at q3; cases q3; exact q4)
    have hcell' := IsCell.sim hcell (kp.simX []) (by simp)
    have hk : (relabel scope env).names.lookup x = some .cell ∨ (relabel scope env).names.lookup x = some .free := by
      have : (relabel scope env) = relab scope sc := by unfold relabel relab Env.kindOf; rw [ES.scope]
      rw [this, lookup_relab, h1, Option.map_some]
      split
      · exact .inl rfl
      · exact .inr rfl
    show match (relabel scope env).names.lookup x with
      | some .local => _
      | some .cell => _
      | some .free => _
      | _ => False
    rcases hk with q | q <;> rw [q] <;> exact ⟨c, q1, hcell'⟩
  · intro b hb hnb
    rcases List.mem_cons.mp hb with rfl | hb
    · exact Nat.le_refl _
    · obtain ⟨⟨n, d⟩, hm, rfl⟩ := List.mem_map.mp hb
      rcases List.mem_append.mp hm with hm | hm
      · exact Nat.le_of_succ_le (ok.empty _ _ hm).2
      · exact absurd (lookup_mem_carr (clmem _ _ hm).2) hnb
  · intro b hb
    rcases List.mem_cons.mp hb with rfl | hb
    · exact Nat.le_refl _
    · obtain ⟨⟨n, k⟩, hm, hq⟩ := List.mem_filterMap.mp hb
      dsimp only at hq
      split at hq
      · rename_i hk
        have hk' : k = .cell := by simpa using hk
        subst hk'
        obtain ⟨c, h1, h2⟩ := lkc n (lookup_eq_of_mem hnd hm)
        have hq' : (cs ++ cl).lookup n = some b := hq
        rw [h1] at hq'; cases hq'
        exact Nat.le_of_succ_le (ok.empty _ _ h2).2
      · cases hq
end
end Mine
end
section
namespace Mine
open PySem PySem.W PyProof.Rows

/-- what an evaluation finds in the heap -/
structure PI (base : Heap) (A : Around) (env : Env) (X : List Addr) (h : Heap) : Prop where
  st : base.StaysIn h
  hd : HdOK A h
  hf : ∀ b ∈ hfp A, b ∉ X
  ex : ∀ a ∈ X, ∃ o, h.get? a = some o
  car : CarrOK env h
  nb : ∀ a ∈ X, base.get? a = none
  nc : ∀ a ∈ carr env, base.get? a = none

theorem PI.kp {base : Heap} {A : Around} {env : Env} {X F : List Addr} {s s' : Shared} (P : PI base A env X s.heap) (k : Kp F s s') (hF : ∀ b ∈ F, base.get? b = none) : PI base A env X s'.heap where
  st := fun b o e => k.keep b o (fun q => by rw [hF b q] at e; cases e) (P.st b o e)
  hd := P.hd.sim (k.simX _)
  hf := P.hf
  ex := fun a ha => let ⟨o, ho⟩ := P.ex a ha; let ⟨sl, h'⟩ := k.slot a o ho; ⟨_, h'⟩
  car := P.car.sim (k.simX _)
  nb := P.nb
  nc := P.nc
theorem PI.kp0 {base : Heap} {A : Around} {env : Env} {X : List Addr} {s s' : Shared} (P : PI base A env X s.heap) (k : Kp [] s s') : PI base A env X s'.heap := P.kp k (by simp)
theorem PI.less {base h : Heap} {A : Around} {env : Env} {X Y : List Addr} (P : PI base A env X h) (k : ∀ a ∈ Y, a ∈ X) : PI base A env Y h where
  st := P.st
  hd := P.hd
  hf := fun b hb q => P.hf b hb (k b q)
  ex := fun a ha => P.ex a (k a ha)
  car := P.car
  nb := fun a ha => P.nb a (k a ha)
  nc := P.nc
theorem PI.fresh {base h : Heap} {A : Around} {env : Env} {X : List Addr} (P : PI base A env X h) {a : Addr} (ha : h.get? a = none) : base.get? a = none := by
  cases q : base.get? a with
  | none => rfl
  | some o => have := P.st a o q; rw [ha] at this; cases this

theorem EnvE.avoid {env : Env} {h : Heap} {O X : List Addr} {ρ : Rho} (a : EnvE env h O ρ) (hX : ∀ a ∈ X, h.get? a = none) : EnvE env h (O ++ X) ρ := fun x V o e => by
  obtain ⟨v, hv, hr⟩ := a x V o e
  exact ⟨v, hv, Rep.avoid hX hr⟩
theorem Kp.kw_fresh {F X : List Addr} {s₀ s₁ s₂ : Shared} (a : Kp F s₀ s₁) (b : KW X s₁ s₂) (h : ∀ c ∈ X, s₀.heap.get? c = none) : Kp F s₀ s₂ := by
  obtain ⟨h₁, t₁, rfl⟩ := a.same
  obtain ⟨h₂, t₂, rfl⟩ := b.same
  have off : ∀ c o, s₀.heap.get? c = some o → c ∉ X := fun c o e q => by rw [h c q] at e; cases e
  refine ⟨⟨h₂, t₂, rfl⟩, fun c o hc e => b.keep c o (off c o e) (a.keep c o hc e), fun c o e => ?_⟩
  obtain ⟨sl, e'⟩ := a.slot c o e
  exact ⟨sl, b.keep c _ (off c o e) e'⟩

/-- a test, a value: what they find in a block that calls nothing -/
noncomputable def PT (prog : Program) (w : World) (base : Heap) (A : Around) (cenv : Env) (f : Rho → Res Bool) (code : Sem Bool) : Prop :=
  ∀ X ρ' c s (Q : Bool → Shared → Prop) E, f ρ' = .ok c → EnvE cenv s.heap X ρ' → PI base A cenv X s.heap → (∀ s', Kp [] s s' → Q c s') → wpAny (model prog w) A code Q E s
noncomputable def PE (prog : Program) (w : World) (base : Heap) (A : Around) (cenv : Env) (f : Rho → Res PV) (code : Sem Value) : Prop :=
  ∀ X ρ' V s (Q : Value → Shared → Prop) E, f ρ' = .ok V → EnvE cenv s.heap X ρ' → PI base A cenv X s.heap → (∀ v s', Kp [] s s' → Rep s'.heap X V v → Q v s') → wpAny (model prog w) A code Q E s

/-- what a turn adds -/
noncomputable def addE (fT : Rho → Res Bool) (fV : Rho → Res PV) (ρ' : Rho) : Res (List PV) := (fT ρ').noTie.bind fun c => if c then (fV ρ').noTie.bind fun w => .ok [w] else .ok []

section
variable {prog : Program} {w : World} {A : Around} {R : Result → Shared → Prop} {base : Heap}

theorem list_append_ok {D : Addr} {ws : List PV} {V : PV} {v : Value} {X : List Addr} {s : Shared} {Q : Value → Shared → Prop} {E : Value → Shared → Prop} (hD : D ∈ X) (ha : Acc D X ws s) (hv : Rep s.heap X V v) (hlen : ws.length ≤ 1000)
    (h : ∀ s', KW [D] s s' → SimT [D] s.heap s'.heap → Heap.SameBut D s.heap s'.heap → Acc D X (ws ++ [V]) s' → Q .none s') : wpAny (model prog w) A (call (.builtin "list.append") [.ref D, v]) Q E s := by
  obtain ⟨vs, hl, hr⟩ := ha
  refine list_append_plainL hl (fun h' hl' hs => ?_) (by rw [List.size_toArray, hr.length]; exact Nat.le_trans hlen sz_1000)
  have k : KW [D] s { s with heap := h' } := KW.of (tk := s.toks) fun b o hb e => (hs.2 b (fun q => hb (q ▸ List.mem_cons_self ..))).trans e
  refine h _ k k.simT hs ⟨vs ++ [v], by simpa using hl', ?_⟩
  exact RepL.snoc (RepL.sim (k.simT.mono fun b hb => by rw [List.mem_singleton.mp hb]; exact hD) _ _ hr) (Rep.sim (k.simT.mono fun b hb => by rw [List.mem_singleton.mp hb]; exact hD) _ _ hv)

theorem PI.cl {cenv : Env} {scope : Scope} {wr X : List Addr} {D : Addr} {N : Str → Prop} {s₀ s : Shared} (P : PI base A cenv X s₀.heap) (C : CL cenv scope wr D N s₀ s) (hnd : (scope.names.map (·.1)).Nodup) (hw : ∀ b ∈ wr, base.get? b = none) (hDb : base.get? D = none)
    (hcw : ∀ c ∈ carr cenv, c ∉ wr) (hcD : D ∉ carr cenv) (hfw : ∀ b ∈ hfp A, b ∉ wr) (hfD : D ∉ hfp A) (ex : ∀ a ∈ X, ∃ o, s.heap.get? a = some o) : PI base A cenv X s.heap where
  st := fun b o e => C.kw.keep b o (fun q => by
    rcases List.mem_append.mp q with q | q
    · rw [hw b q] at e; cases e
    · rcases List.mem_cons.mp q with rfl | q
      · rw [hDb] at e; cases e
      · rw [P.nc b (ownL_carr b q)] at e; cases e) (P.st b o e)
  hd := P.hd.at fun b hb o ho => C.kw.keep b o (fun q => by
    rcases List.mem_append.mp q with q | q
    · exact hfw b hb q
    · rcases List.mem_cons.mp q with rfl | q
      · exact hfD hb
      · obtain ⟨o', ho', hd'⟩ := P.car b (ownL_carr b q)
        rw [ho] at ho'; cases ho'
        have := hfp_off P.hd b hb o ho
        rcases hd' with ⟨es, ep, hd'⟩ | ⟨v, hd'⟩
        · exact this.1 es ep hd'
        · exact this.2 v hd') ho
  hf := P.hf
  ex := ex
  car := P.car.st hnd C.kw (fun c hc q => by
    rcases List.mem_append.mp q with q | q
    · exact absurd q (hcw c hc)
    · rcases List.mem_cons.mp q with rfl | q
      · exact absurd hc hcD
      · exact q) C.lay
  nb := P.nb
  nc := P.nc

/-- the end of a turn: the tests, the value, the list -/
theorem tail_ok {cenv : Env} {scope : Scope} {X : List Addr} {D : Addr} {N : Str → Prop} {ifs : List PySem.Expr} {elt : PySem.Expr} {fT : Rho → Res Bool} {fV : Rho → Res PV} {next : Code} {ρ' : Rho} {done ws₁ : List PV} {s : Shared} {Q : Fin → Shared → Prop} {E : Value → Shared → Prop}
    (hT : PT prog w base A cenv fT (forIn ifs true fun c r => if r = true then do let ok ← isTrue c cenv (eval c cenv); pure (ForInStep.yield ok) else pure (ForInStep.yield r))) (hV : PE prog w base A cenv fV (eval elt cenv))
    (hD : D ∈ X) (hDc : D ∉ carr cenv) (L : Lay cenv scope s.heap) (P : PI base A cenv X s.heap) (hE : EnvE cenv s.heap X ρ') (ha : Acc D X done s) (hg : addE fT fV ρ' = .ok ws₁) (hlen : (done ++ ws₁).length ≤ szLine)
    (h : ∀ s', CL cenv scope [] D N s s' → Acc D X (done ++ ws₁) s' → Q (.again next) s') :
    wpAny (model prog w) A (do
      let mut ok := true
      for c in ifs do
        if ok then ok ← isTrue c cenv (eval c cenv)
      if ok then
        (do let _ ← call (.builtin "list.append") [.ref D, ← eval elt cenv])
      again next) Q E s := by
  unfold addE at hg
  obtain ⟨c, hc, hg⟩ := Res.bind_ok hg
  have hc := Res.noTie_ok hc
  have sim0 : ∀ {s s' : Shared}, Kp [] s s' → Lay cenv scope s.heap → CL cenv scope [] D N s s' := fun k L =>
    ⟨k.kw.mono (by simp), L.kp k, fun y u _ hy => hy.sim (k.simX _), (k.simX _).t⟩
  have acc0 : ∀ {s s' : Shared}, Kp [] s s' → Acc D X done s → Acc D X done s' := fun k ⟨vs, ⟨o, nn, ho, r⟩, hr⟩ => ⟨vs, ⟨o, nn, k.keep _ o (by simp) ho, r⟩, hr.kp k⟩
  refine wpAny_bind (hT X ρ' c s _ _ hc hE P fun s₁ k₁ => ?_)
  cases c with
  | false =>
    have : ws₁ = [] := by cases hg; rfl
    subst this
    exact wpAny_pure (h s₁ (sim0 k₁ L) (by rw [List.append_nil]; exact acc0 k₁ ha))
  | true =>
    rw [if_pos rfl] at hg
    obtain ⟨V, hV', hg⟩ := Res.bind_ok hg
    have hV' := Res.noTie_ok hV'
    have : ws₁ = [V] := by cases hg; rfl
    subst this
    refine wpAny_bind (wpAny_bind (hV X ρ' V s₁ _ _ hV' (hE.kp k₁) (P.kp0 k₁) fun v s₂ k₂ hv => ?_))
    have k := k₁.trans k₂
    refine wpAny_bind (list_append_ok hD (acc0 k ha) hv (by rw [List.length_append] at hlen; unfold szLine at hlen; (exact Nat.le_of_lt hlen)) fun s₃ k₃ m₃ sb a₃ => ?_)
    refine wpAny_pure (wpAny_pure (h s₃ ?_ a₃))
    have hcw : ∀ b ∈ carr cenv, b ∉ [D] := fun b hb q => hDc (List.mem_singleton.mp q ▸ hb)
    refine (sim0 k L).trans ⟨k₃.mono (by simp), (L.kp k).kw k₃ hcw, fun y u _ hy => hy.kw k₃ hcw, m₃⟩
end
end Mine
end
section
namespace Mine
open PySem PySem.W PyProof.Rows

section
variable {prog : Program} {w : World} {A : Around} {R : Result → Shared → Prop} {base : Heap}

/-- the list and the block of a comprehension, made -/
structure Made (env cenv : Env) (scope sc : Scope) (X wr fp : List Addr) (D : Addr) (ρ : Rho) (s₂ s₄ : Shared) : Prop where
  kp : Kp [] s₂ s₄
  es : EnvS cenv (relab scope sc)
  ls : LayS cenv scope
  lay : Lay cenv scope s₄.heap
  car : CarrOK cenv s₄.heap
  ent : EnvE cenv s₄.heap (X ++ wr ++ [D]) (inner scope ρ)
  hDf : D ∉ fp
  hDX : D ∉ X
  hDc : D ∉ carr cenv
  hc : ∀ b ∈ carr cenv, b ∉ fp
  acc : Acc D (X ++ wr ++ [D]) [] s₄
  dD : s₂.heap.objs.size ≤ D
  own : ∀ b ∈ ownL cenv scope, s₂.heap.objs.size ≤ b
  nb : (∀ a ∈ carr env, base.get? a = none) → base.StaysIn s₂.heap → ∀ a ∈ carr cenv, base.get? a = none
  loc : s₄.heap.Ns cenv.locals fun _ => none

theorem made_ok {env : Env} {scope sc : Scope} {X : List Addr} {ρ : Rho} {F : List Addr} {sA s₂ : Shared} {t : PySem.Expr} {items : List PV} {I : Addr} {fp wr : List Addr} {It : Nat → Heap → Heap → Value → Prop} {St : Nat → Heap → Prop}
    {Q : Value → Env → Shared → Prop} {E : Value → Shared → Prop} (ES : EnvS env sc) (hc : compOK scope sc = true) (S : Src prog w A t X sA s₂ items I fp wr It St) (kA : Kp F sA s₂) (hcar : CarrOK env sA.heap) (hE : EnvE env sA.heap X ρ) (hX : ∀ a ∈ X, ∃ o, sA.heap.get? a = some o)
    (h : ∀ D cenv s₄, Made (base := base) env { cenv with scope := relabel scope env } scope sc X wr fp D ρ s₂ s₄ → Q (.ref D) cenv s₄) :
    wpAny (model prog w) A (newList []) (fun acc s₃ => wpAny (model prog w) A (newFunctionEnv scope env.globals (clFrom env scope.names []) [] env.qual none .none (some env)) (fun cenv s₄ => Q acc cenv s₄) E s₃) E s₂ := by
  refine wpAny_newObj_type ?_
  have k1 : Kp [] s₂ { s₂ with heap := s₂.heap.push { cls := .type "list", dict := none, data := .seq ([] : List Value).toArray } } := Kp.push [] s₂ _
  have hDn : s₂.heap.get? s₂.heap.objs.size = none := get_none_of_le (Nat.le_refl _)
  have hDA : sA.heap.get? s₂.heap.objs.size = none := by
    cases q : sA.heap.get? s₂.heap.objs.size with
    | none => rfl
    | some o => obtain ⟨sl, h'⟩ := kA.slot _ o q; rw [hDn] at h'; cases h'
  have e0 : EnvE env sA.heap (X ++ wr ++ [s₂.heap.objs.size]) ρ := (hE.avoid S.new).avoid fun a ha => by rw [List.mem_singleton.mp ha]; exact hDA
  have e1 := (e0.kp kA).kp k1
  have c1 : CarrOK env s₂.heap := hcar.sim (kA.simX _)
  refine compEnv_ok ES hc (c1.sim (k1.simX _)) e1 fun cenv s₄ C => h _ cenv s₄ ?_
  have sz1 : ({ s₂ with heap := s₂.heap.push { cls := .type "list", dict := none, data := .seq ([] : List Value).toArray } } : Shared).heap.objs.size = s₂.heap.objs.size + 1 := Heap.size_push ..
  have big : ∀ b, ({ s₂ with heap := s₂.heap.push { cls := .type "list", dict := none, data := .seq ([] : List Value).toArray } } : Shared).heap.objs.size ≤ b → s₂.heap.objs.size < b := fun b q => by rw [sz1] at q; exact q
  have oldc : ∀ b ∈ carr env, b < s₂.heap.objs.size := fun b hb => let ⟨o, ho, _⟩ := c1 b hb; Heap.lt_size ho
  refine ⟨k1.trans C.kp, C.es, C.ls, C.lay, C.car, C.ent, ?_, ?_, ?_, ?_, ?_, Nat.le_refl _, fun b hb => Nat.le_of_lt (big b (C.own b hb)), ?_, C.loc⟩
  · exact fun q => Nat.lt_irrefl _ (S.fpl _ q)
  · intro q
    obtain ⟨o, ho⟩ := hX _ q
    rw [hDA] at ho; cases ho
  · intro q
    by_cases hq : s₂.heap.objs.size ∈ carr env
    · exact Nat.lt_irrefl _ (oldc _ hq)
    · exact Nat.lt_irrefl _ (big _ (C.from_ _ q hq))
  · intro b hb q
    by_cases hq : b ∈ carr env
    · obtain ⟨o, ho, hd⟩ := hcar b hq
      have := (S.off b q).2 o ho
      rcases hd with ⟨es, ep, hd⟩ | ⟨v, hd⟩
      · exact this.1 es ep hd
      · exact this.2 v hd
    · exact Nat.lt_irrefl _ (Nat.lt_trans (S.fpl b q) (big _ (C.from_ b hb hq)))
  · exact ⟨[], ⟨_, _, C.kp.keep _ _ (by simp) (Heap.get?_push_size _ rfl), rfl, rfl, rfl⟩, rfl⟩
  · intro h1 h2 a ha
    by_cases hq : a ∈ carr env
    · exact h1 a hq
    · cases q : base.get? a with
      | none => rfl
      | some o => exact absurd (Nat.lt_trans (Heap.lt_size (h2 a o q)) (big _ (C.from_ a ha hq))) (Nat.lt_irrefl _)

theorem Made.pi {env cenv : Env} {scope sc : Scope} {X wr fp : List Addr} {D : Addr} {ρ : Rho} {sA s₂ s₄ : Shared} {F : List Addr} (M : Made (base := base) env cenv scope sc X wr fp D ρ s₂ s₄) (P : PI base A env X sA.heap) (kA : Kp F sA s₂) (hF : ∀ b ∈ F, base.get? b = none)
    (hwe : ∀ b ∈ wr, ∃ o, s₂.heap.get? b = some o) (hwn : ∀ b ∈ wr, sA.heap.get? b = none) : PI base A cenv (X ++ wr ++ [D]) s₄.heap := by
  have P2 : PI base A env X s₂.heap := P.kp kA hF
  have P4 : PI base A env X s₄.heap := P2.kp0 M.kp
  refine ⟨P4.st, P4.hd, ?_, ?_, M.car, ?_, M.nb P.nc P2.st⟩
  · intro b hb q
    rcases List.mem_append.mp q with q | q
    · rcases List.mem_append.mp q with q | q
      · exact P.hf b hb q
      · rcases P.hd with hn | ⟨e, he, o, vs, ho, _⟩
        · simp [hfp, hn] at hb
        · simp [hfp, he] at hb
          subst hb
          have := hwn b q
          rw [ho] at this; cases this
    · rw [List.mem_singleton.mp q] at hb
      exact absurd (P2.hd.lt _ hb) (Nat.not_lt.mpr M.dD)
  · intro a ha
    rcases List.mem_append.mp ha with ha | ha
    · rcases List.mem_append.mp ha with ha | ha
      · exact P4.ex a ha
      · obtain ⟨o, ho⟩ := hwe a ha
        exact ⟨o, M.kp.keep a o (by simp) ho⟩
    · obtain ⟨vs, ⟨o, _, ho, _⟩, _⟩ := M.acc
      exact ⟨o, List.mem_singleton.mp ha ▸ ho⟩
  · intro a ha
    rcases List.mem_append.mp ha with ha | ha
    · rcases List.mem_append.mp ha with ha | ha
      · exact P.nb a ha
      · exact P.fresh (hwn a ha)
    · rw [List.mem_singleton.mp ha]
      exact P2.fresh (get_none_of_le M.dD)

theorem comp1_core {env : Env} {scope sc : Scope} {X : List Addr} {ρ : Rho} {F : List Addr} {sA s₂ : Shared} {t it elt : PySem.Expr} {ifs : List PySem.Expr} {pos : Pos} {items : List PV} {I : Addr} {fp wr : List Addr} {It : Nat → Heap → Heap → Value → Prop} {St : Nat → Heap → Prop}
    {RR : Value → Addr → Result → Shared → Prop} {E : Value → Shared → Prop} {hd : Bool} {fT : Rho → Res Bool} {fV : Rho → Res PV} {ws : List PV}
    (ES : EnvS env sc) (hc : compOK scope sc = true) (hh : hd = false → A.handled = none) (S : Src prog w A t X sA s₂ items I fp wr It St) (kA : Kp F sA s₂) (hF : ∀ b ∈ F, base.get? b = none) (P : PI base A env X sA.heap) (hE : EnvE env sA.heap X ρ)
    (hT : ∀ cenv, EnvS cenv (relab scope sc) → PT prog w base A cenv fT (forIn ifs true fun c r => if r = true then do let ok ← isTrue c cenv (eval c cenv); pure (ForInStep.yield ok) else pure (ForInStep.yield r)))
    (hV : ∀ cenv, EnvS cenv (relab scope sc) → PE prog w base A cenv fV (eval elt cenv))
    (hres : flatR (fun v => (storeT hd scope t v (inner scope ρ)).bind (addE fT fV)) items = .ok ws) (hlen : ws.length ≤ szLine)
    (hRR : ∀ D C s', KW wr s₂ s' → Rep s'.heap X (.list ws) (.ref D) → (∃ m, s'.heap.Ns C m) → s₂.heap.get? C = none → s₂.heap.get? D = none → D ≠ C → DL s'.heap D → RR (.ref D) C (.ok .next) s') :
    wpAny (model prog w) A (newList []) (fun acc s₃ => wpAny (model prog w) A (newFunctionEnv scope env.globals (clFrom env scope.names []) [] env.qual none .none (some env)) (fun cenv s₄ =>
      codeAny (model prog w) A (.compStart (.ListComp elt [⟨t, it, ifs, 0⟩] scope pos) 0 (.ref I) acc { cenv with scope := relabel scope env }) (RR acc cenv.locals) s₄) E s₃) E s₂ := by
  refine made_ok (base := base) ES hc S kA P.car hE P.ex fun D cenv0 s₄ M => ?_
  generalize hce : ({ cenv0 with scope := relabel scope env } : Env) = cenv at M
  have hloc : cenv0.locals = cenv.locals := by rw [← hce]
  rw [hloc]
  obtain ⟨hkind, hdbg, hcd, hnd⟩ := scOK_nodup (by unfold compOK at hc; rw [Bool.and_eq_true] at hc; exact hc.1)
  have hwe : ∀ b ∈ wr, ∃ o, s₂.heap.get? b = some o := fun b hb => S.dr.ex _ _ S.st b (S.dr.sub b hb)
  have Pc := M.pi P kA hF hwe S.new
  have st4 : St 0 s₄.heap := S.dr.frame _ _ _ S.st fun b _ o e => M.kp.keep b o (by simp) e
  have hDw : D ∉ wr := fun q => M.hDf (S.dr.sub D q)
  have hXw : ∀ a ∈ X ++ [D], a ∉ wr := fun a ha q => by
    rcases List.mem_append.mp ha with ha | ha
    · exact (S.off a (S.dr.sub a q)).1 ha
    · rw [List.mem_singleton.mp ha] at q; exact hDw q
  have loop : codeAny (model prog w) A (.compLoop (.ListComp elt [⟨t, it, ifs, 0⟩] scope pos) 0 (.ref I) (.ref D) cenv) (RR (.ref D) cenv.locals) s₄ := by
    refine loop_ok (X := X) (Y := [D]) (sI := s₂) (N := storable scope) (done₀ := []) (compTurn_list elt t it ifs scope pos (.ref I) (.ref D) cenv) (fun s Q h => h) hh M.ls hnd M.lay S st4 (M.kp.simX _).t
      (fun a ha => by rw [List.mem_singleton.mp ha]; exact get_none_of_le M.dD) (fun a ha => ?_) hXw (List.mem_append_right _ (List.mem_singleton.mpr rfl)) M.hDf M.hDc M.hc (fun y _ h => h) (fun y hy _ => ?_) (fun x V o _ e => M.ent x V o e) M.acc hres hlen ?_ ?_
    · rcases List.mem_append.mp ha with ha | ha
      · exact Pc.ex a (List.mem_append_left _ (List.mem_append_left _ ha))
      · exact Pc.ex a (List.mem_append_right _ ha)
    · cases q : (inner scope ρ).lookup y with
      | none => rfl
      | some e =>
        obtain ⟨h1, _⟩ := inner_lookup (V := e.1) (o := e.2) q
        unfold storable at hy
        rw [h1] at hy
        rcases hy with hy | hy <;> cases hy
    · intro ρ' ws₁ done s Q E' C hg hl hEn hac hex hQ
      have Ps : PI base A cenv (X ++ wr ++ [D]) s.heap := Pc.cl C hnd (fun b hb => Pc.nb b (List.mem_append_left _ (List.mem_append_right _ hb))) (Pc.nb D (List.mem_append_right _ (List.mem_singleton.mpr rfl)))
        (fun c hc' q => M.hc c hc' (S.dr.sub c q)) M.hDc (fun b hb q => Pc.hf b hb (List.mem_append_left _ (List.mem_append_right _ q))) (fun q => Pc.hf D q (List.mem_append_right _ (List.mem_singleton.mpr rfl))) hex
      exact tail_ok (hT cenv M.es) (hV cenv M.es) (List.mem_append_right _ (List.mem_singleton.mpr rfl)) M.hDc C.lay Ps hEn hac hg hl hQ
    · intro s' C hac
      refine hRR D cenv.locals s' ?_ ?_ C.lay.ns ?_ (get_none_of_le M.dD) (fun q => M.hDc (q ▸ List.mem_cons_self ..)) (let ⟨_, hl, _⟩ := hac; PlainL.dl hl)
      · refine ⟨?_, fun b o hb e => C.kw.keep b o (fun q => ?_) (M.kp.keep b o (by simp) e)⟩
        · obtain ⟨h1, t1, e1⟩ := M.kp.same
          obtain ⟨h2, t2, e2⟩ := C.kw.same
          rw [e1] at e2
          exact ⟨h2, t2, e2⟩
        · rcases List.mem_append.mp q with q | q
          · exact hb q
          · rcases List.mem_cons.mp q with q | q
            · exact absurd (Heap.lt_size e) (Nat.not_lt.mpr (q ▸ M.dD))
            · exact absurd (Heap.lt_size e) (Nat.not_lt.mpr (M.own b q))
      · obtain ⟨vs, hl, hr⟩ := hac
        exact ⟨D, vs, rfl, M.hDX, hl.isList, RepL.less (fun a ha => List.mem_append_left _ (List.mem_append_left _ ha)) _ _ hr⟩
      · exact get_none_of_le (M.own _ (List.mem_cons_self ..))
  have := codeAny_compStart_list (prog := prog) (w := w) (A := A) (R := RR (.ref D) cenv.locals) (s := s₄) (elt := elt) (target := t) (iter := it) (ifs := ifs) (rest := []) (scope := scope) (pos := pos) (it := .ref I) (acc := .ref D) (env := cenv) loop (S.dr.self 0 _ _ _ st4 loop)
  rw [← hce] at this
  rw [← hce]
  exact this
end
end Mine
end
section
namespace Mine
open PySem PySem.W PyProof.Rows

/-- the items of a loop, in a block that calls nothing -/
noncomputable def PIt (prog : Program) (w : World) (base : Heap) (A : Around) (cenv : Env) (t : PySem.Expr) (f : Rho → Res (List PV)) (code : Sem Value) : Prop :=
  ∀ X ρ' items s (Q : Value → Shared → Prop) E, f ρ' = .ok items → EnvE cenv s.heap X ρ' → PI base A cenv X s.heap →
    (∀ I fp wr It St s', Kp [] s s' → Src prog w A t X s s' items I fp wr It St → Q (.ref I) s') → wpAny (model prog w) A code (fun x s₁ => wpAny (model prog w) A (pyIter x) Q E s₁) E s

section
variable {prog : Program} {w : World} {A : Around} {R : Result → Shared → Prop} {base : Heap}

theorem compStart_one {elt t it t2 it2 : PySem.Expr} {ifs : List PySem.Expr} {scope : Scope} {pos : Pos} {i acc : Value} {env : Env} {s : Shared}
    (h0 : codeAny (model prog w) A (.compLoop (.ListComp elt [⟨t, it, [], 0⟩, ⟨t2, it2, ifs, 0⟩] scope pos) 1 i acc env) R s)
    (h : wpAny (model prog w) A (pyIter i) (fun it' s' => codeAny (model prog w) A (.compLoop (.ListComp elt [⟨t, it, [], 0⟩, ⟨t2, it2, ifs, 0⟩] scope pos) 1 it' acc env) R s')
      (notedBy (model prog w) A env fun x s' => R (.error x) s') s) :
    codeAny (model prog w) A (.compStart (.ListComp elt [⟨t, it, [], 0⟩, ⟨t2, it2, ifs, 0⟩] scope pos) 1 i acc env) R s := by
  refine codeAny_of_tree ?_
  show wpAny _ _ ((compStart (.ListComp elt [⟨t, it, [], 0⟩, ⟨t2, it2, ifs, 0⟩] scope pos) 1 i acc env).onRaise (fun x => do noteFrame x env; standAt theWindowsPlace)) _ _ s
  refine wpAny_notedAt ?_
  unfold compStart
  show wpAny _ _ (ask >>= _) _ _ s
  refine wpAny_bind (wpAny_askSetting (wpAny_ite ?_))
  split
  · first
      | exact wpAny_bind (wpAny_pure (wpAny_pure (And.intro rfl h0)))
      | exact wpAny_pure (And.intro rfl h0)
  · refine wpAny_bind (wpAny_rule ?_)
    show wpAny _ _ (standAt it2.pos >>= _) _ _ s
    exact wpAny_bind (wpAny_standAt (wpAny_bind (wpAny_mono h (fun it' s' h' => wpAny_pure (And.intro rfl h')) fun _ _ x => x)))

theorem comp2_core {env : Env} {scope sc : Scope} {X : List Addr} {ρ : Rho} {F : List Addr} {sA s₂ : Shared} {t it t2 it2 elt : PySem.Expr} {ifs : List PySem.Expr} {pos : Pos} {items : List PV} {I : Addr} {fp wr : List Addr} {It : Nat → Heap → Heap → Value → Prop} {St : Nat → Heap → Prop}
    {RR : Value → Addr → Result → Shared → Prop} {E : Value → Shared → Prop} {hd : Bool} {fI : Rho → Res (List PV)} {fT : Rho → Res Bool} {fV : Rho → Res PV} {ws : List PV}
    (ES : EnvS env sc) (hc : compOK scope sc = true) (hh : hd = false → A.handled = none) (S : Src prog w A t X sA s₂ items I fp wr It St) (kA : Kp F sA s₂) (hF : ∀ b ∈ F, base.get? b = none) (P : PI base A env X sA.heap) (hE : EnvE env sA.heap X ρ)
    (hI : ∀ cenv, EnvS cenv (relab scope sc) → PIt prog w base A cenv t2 fI (eval it2 cenv)) (hfs : ∀ cenv x, foldedSetIterable it2 cenv x = pure x)
    (hT : ∀ cenv, EnvS cenv (relab scope sc) → PT prog w base A cenv fT (forIn ifs true fun c r => if r = true then do let ok ← isTrue c cenv (eval c cenv); pure (ForInStep.yield ok) else pure (ForInStep.yield r)))
    (hV : ∀ cenv, EnvS cenv (relab scope sc) → PE prog w base A cenv fV (eval elt cenv))
    (hres : flatR (fun v => (storeT hd scope t v (inner scope ρ)).bind fun ρ' => (fI ρ').noTie.bind fun items2 => flatR (fun v2 => (storeT hd scope t2 v2 ρ').bind (addE fT fV)) items2) items = .ok ws) (hlen : ws.length ≤ szLine)
    (hRR : ∀ D C s', KW wr s₂ s' → Rep s'.heap X (.list ws) (.ref D) → (∃ m, s'.heap.Ns C m) → s₂.heap.get? C = none → s₂.heap.get? D = none → D ≠ C → DL s'.heap D → RR (.ref D) C (.ok .next) s') :
    wpAny (model prog w) A (newList []) (fun acc s₃ => wpAny (model prog w) A (newFunctionEnv scope env.globals (clFrom env scope.names []) [] env.qual none .none (some env)) (fun cenv s₄ =>
      codeAny (model prog w) A (.compStart (.ListComp elt [⟨t, it, [], 0⟩, ⟨t2, it2, ifs, 0⟩] scope pos) 0 (.ref I) acc { cenv with scope := relabel scope env }) (RR acc cenv.locals) s₄) E s₃) E s₂ := by
  refine made_ok (base := base) ES hc S kA P.car hE P.ex fun D cenv0 s₄ M => ?_
  generalize hce : ({ cenv0 with scope := relabel scope env } : Env) = cenv at M
  have hloc : cenv0.locals = cenv.locals := by rw [← hce]
  rw [hloc]
  obtain ⟨hkind, hdbg, hcd, hnd⟩ := scOK_nodup (by unfold compOK at hc; rw [Bool.and_eq_true] at hc; exact hc.1)
  have hwe : ∀ b ∈ wr, ∃ o, s₂.heap.get? b = some o := fun b hb => S.dr.ex _ _ S.st b (S.dr.sub b hb)
  have Pc := M.pi P kA hF hwe S.new
  have st4 : St 0 s₄.heap := S.dr.frame _ _ _ S.st fun b _ o e => M.kp.keep b o (by simp) e
  have hDw : D ∉ wr := fun q => M.hDf (S.dr.sub D q)
  have hXw : ∀ a ∈ X ++ [D], a ∉ wr := fun a ha q => by
    rcases List.mem_append.mp ha with ha | ha
    · exact (S.off a (S.dr.sub a q)).1 ha
    · rw [List.mem_singleton.mp ha] at q; exact hDw q
  have DX : D ∈ X ++ wr ++ [D] := List.mem_append_right _ (List.mem_singleton.mpr rfl)
  have loop : codeAny (model prog w) A (.compLoop (.ListComp elt [⟨t, it, [], 0⟩, ⟨t2, it2, ifs, 0⟩] scope pos) 0 (.ref I) (.ref D) cenv) (RR (.ref D) cenv.locals) s₄ := by
    refine loop_ok (X := X) (Y := [D]) (sI := s₂) (N := storable scope) (done₀ := []) (turn2a elt t it t2 it2 ifs scope pos (.ref I) (.ref D) cenv) (fun s Q h => h) hh M.ls hnd M.lay S st4 (M.kp.simX _).t
      (fun a ha => by rw [List.mem_singleton.mp ha]; exact get_none_of_le M.dD) (fun a ha => ?_) hXw (List.mem_append_right _ (List.mem_singleton.mpr rfl)) M.hDf M.hDc M.hc (fun y _ h => h) (fun y hy _ => ?_) (fun x V o _ e => M.ent x V o e) M.acc hres hlen ?_ ?_
    · rcases List.mem_append.mp ha with ha | ha
      · exact Pc.ex a (List.mem_append_left _ (List.mem_append_left _ ha))
      · exact Pc.ex a (List.mem_append_right _ ha)
    · cases q : (inner scope ρ).lookup y with
      | none => rfl
      | some e =>
        obtain ⟨h1, _⟩ := inner_lookup (V := e.1) (o := e.2) q
        unfold storable at hy
        rw [h1] at hy
        rcases hy with hy | hy <;> cases hy
    · intro ρ' ws₁ done s Q E' C hg hl hEn hac hex hQ
      have Ps : PI base A cenv (X ++ wr ++ [D]) s.heap := Pc.cl C hnd (fun b hb => Pc.nb b (List.mem_append_left _ (List.mem_append_right _ hb))) (Pc.nb D DX)
        (fun c hc' q => M.hc c hc' (S.dr.sub c q)) M.hDc (fun b hb q => Pc.hf b hb (List.mem_append_left _ (List.mem_append_right _ q))) (fun q => Pc.hf D q DX) hex
      obtain ⟨items2, hg1, hg2⟩ := Res.bind_ok hg
      have hg1 := Res.noTie_ok hg1
      refine wpAny_bind (wpAny_mono (hI cenv M.es _ ρ' items2 s (fun iv s₁ => wpAny (model prog w) A (do
        let _ ← runOwn (.compStart (.ListComp elt [⟨t, it, [], 0⟩, ⟨t2, it2, ifs, 0⟩] scope pos) 1 iv (.ref D) cenv) cenv
        again (.compLoop (.ListComp elt [⟨t, it, [], 0⟩, ⟨t2, it2, ifs, 0⟩] scope pos) 0 (.ref I) (.ref D) cenv)) Q E' s₁) E' hg1 hEn Ps ?_) (fun x s₁ h₁ => ?_) fun _ _ e => e)
      · intro I2 fp2 wr2 It2 St2 s₁ k₁ S2
        have P1 := Ps.kp0 k₁
        refine wpAny_bind (wpAny_runOwn ?_)
        rw [Around.mark_none]
        have off2 : ∀ a ∈ X ++ wr ++ [D], a ∉ fp2 := fun a ha q => (S2.off a q).1 ha
        have L1 : Lay cenv scope s₁.heap := C.lay.kp k₁
        have loop2 : codeAny (model prog w) A (.compLoop (.ListComp elt [⟨t, it, [], 0⟩, ⟨t2, it2, ifs, 0⟩] scope pos) 1 (.ref I2) (.ref D) cenv)
            (fun r s' => match r with | .ok f => wpAny (model prog w) A (again (.compLoop (.ListComp elt [⟨t, it, [], 0⟩, ⟨t2, it2, ifs, 0⟩] scope pos) 0 (.ref I) (.ref D) cenv)) Q E' s' | .error e => cameBackBy (model prog w) A cenv E' e s') s₁ := by
          refine loop_ok (X := X ++ wr ++ [D]) (Y := []) (sI := s₁) (N := fun y => y ∈ tnames t2 ∧ storable scope y) (done₀ := done) (turn2b elt t it t2 it2 ifs scope pos (.ref I2) (.ref D) cenv) (fun s Q h => h) hh M.ls hnd L1 S2 S2.st (SimT.refl _ _)
            (fun a ha => by cases ha) (fun a ha => ?_) (fun a ha q => ?_) (List.mem_append_left _ DX) (off2 D DX) M.hDc (fun b hb q => ?_) (fun y hy hs => ⟨hy, hs⟩) (fun y hy hn => absurd hy.1 hn) (fun x V o _ e => ?_) ?_ hg2 hl ?_ ?_
          · rw [List.append_nil] at ha
            exact P1.ex a ha
          · rw [List.append_nil] at ha
            exact off2 a ha (S2.dr.sub a q)
          · obtain ⟨o, ho, hd'⟩ := Ps.car b hb
            have := (S2.off b q).2 o ho
            rcases hd' with ⟨es, ep, hd'⟩ | ⟨v, hd'⟩
            · exact this.1 es ep hd'
            · exact this.2 v hd'
          · have := ((hEn.avoid S2.new).kp k₁) x V o e
            rw [List.append_nil]; exact this
          · obtain ⟨vs, ⟨o, nn, ho, r⟩, hr'⟩ := hac
            refine ⟨vs, ⟨o, nn, k₁.keep D o (by simp) ho, r⟩, ?_⟩
            rw [List.append_nil]
            exact RepL.sim (k₁.simX _).t _ _ (RepL.avoid S2.new hr')
          · intro ρ2 ws₂ done2 s₃ Q2 E2 C2 hg3 hl3 hE3 hac3 hex3 hQ3
            have P1' : PI base A cenv (X ++ wr ++ [D] ++ wr2 ++ []) s₁.heap := by
              refine ⟨P1.st, P1.hd, ?_, ?_, P1.car, ?_, P1.nc⟩
              · intro b hb q
                rw [List.append_nil] at q
                rcases List.mem_append.mp q with q | q
                · exact P1.hf b hb q
                · rcases Ps.hd with hn | ⟨e, he, o, vs, ho, _⟩
                  · simp [hfp, hn] at hb
                  · simp [hfp, he] at hb
                    subst hb
                    have := S2.new b q
                    rw [ho] at this; cases this
              · intro a ha
                rw [List.append_nil] at ha
                rcases List.mem_append.mp ha with ha | ha
                · exact P1.ex a ha
                · exact S2.dr.ex _ _ S2.st a (S2.dr.sub a ha)
              · intro a ha
                rw [List.append_nil] at ha
                rcases List.mem_append.mp ha with ha | ha
                · exact P1.nb a ha
                · exact Ps.fresh (S2.new a ha)
            have P3 : PI base A cenv (X ++ wr ++ [D] ++ wr2 ++ []) s₃.heap := P1'.cl C2 hnd (fun b hb => Ps.fresh (S2.new b hb)) (Pc.nb D DX)
              (fun c hc' q => by
                obtain ⟨o, ho, _⟩ := Ps.car c hc'
                rw [S2.new c q] at ho; cases ho) M.hDc (fun b hb q => P1'.hf b hb (List.mem_append_left _ (List.mem_append_right _ q))) (fun q => P1'.hf D q (List.mem_append_left _ (List.mem_append_left _ DX))) hex3
            exact tail_ok (hT cenv M.es) (hV cenv M.es) (List.mem_append_left _ (List.mem_append_left _ DX)) M.hDc C2.lay P3 hE3 hac3 hg3 hl3 hQ3
          · intro s' C2 hac2
            refine wpAny_pure (hQ s' ⟨⟨?_, fun b o hb e => ?_⟩, C2.lay, fun y u hy h => C2.hold y u (fun q => hy q.2) (h.sim (k₁.simX _)), fun b o hb e q => ?_⟩ ?_)
            · obtain ⟨h1, t1, e1⟩ := k₁.same
              obtain ⟨h2, t2, e2⟩ := C2.kw.same
              rw [e1] at e2
              exact ⟨h2, t2, e2⟩
            · refine C2.kw.keep b o (fun q => ?_) (k₁.keep b o (by simp) e)
              rcases List.mem_append.mp q with q | q
              · rw [S2.new b q] at e; cases e
              · exact hb q
            · refine C2.sim b o (fun q' => ?_) (k₁.keep b o (by simp) e) q
              rcases List.mem_cons.mp q' with q' | q'
              · exact hb (List.mem_singleton.mpr q')
              · rw [S2.new b q'] at e; cases e
            · obtain ⟨vs, hl', hr'⟩ := hac2
              exact ⟨vs, hl', RepL.less (fun a ha => List.mem_append_left _ (List.mem_append_left _ ha)) _ _ hr'⟩
        exact compStart_one loop2 (S2.dr.self 0 _ _ _ S2.st loop2)
      · refine wpAny_bind (wpAny_standAt (wpAny_bind (wpAny_of_eq (hfs cenv x) ?_)))
        exact wpAny_bind (wpAny_holding h₁)
    · intro s' C hac
      refine hRR D cenv.locals s' ?_ ?_ C.lay.ns ?_ (get_none_of_le M.dD) (fun q => M.hDc (q ▸ List.mem_cons_self ..)) (let ⟨_, hl, _⟩ := hac; PlainL.dl hl)
      · refine ⟨?_, fun b o hb e => C.kw.keep b o (fun q => ?_) (M.kp.keep b o (by simp) e)⟩
        · obtain ⟨h1, t1, e1⟩ := M.kp.same
          obtain ⟨h2, t2, e2⟩ := C.kw.same
          rw [e1] at e2
          exact ⟨h2, t2, e2⟩
        · rcases List.mem_append.mp q with q | q
          · exact hb q
          · rcases List.mem_cons.mp q with q | q
            · exact absurd (Heap.lt_size e) (Nat.not_lt.mpr (q ▸ M.dD))
            · exact absurd (Heap.lt_size e) (Nat.not_lt.mpr (M.own b q))
      · obtain ⟨vs, hl, hr⟩ := hac
        exact ⟨D, vs, rfl, M.hDX, hl.isList, RepL.less (fun a ha => List.mem_append_left _ (List.mem_append_left _ ha)) _ _ hr⟩
      · exact get_none_of_le (M.own _ (List.mem_cons_self ..))
  have := codeAny_compStart_list (prog := prog) (w := w) (A := A) (R := RR (.ref D) cenv.locals) (s := s₄) (elt := elt) (target := t) (iter := it) (ifs := []) (rest := [⟨t2, it2, ifs, 0⟩]) (scope := scope) (pos := pos) (it := .ref I) (acc := .ref D) (env := cenv) loop (S.dr.self 0 _ _ _ st4 loop)
  rw [← hce] at this
  rw [← hce]
  exact this
end
end Mine
end
section
namespace Mine
open PySem PySem.W PyProof.Rows

theorem Kp.drop {F : List Addr} {L : Addr} {s₀ s : Shared} (a : Kp (L :: F) s₀ s) (h : s₀.heap.get? L = none) : Kp F s₀ s :=
  ⟨a.same, fun b o hb e => a.keep b o (fun q => by
    rcases List.mem_cons.mp q with rfl | q
    · rw [h] at e; cases e
    · exact hb q) e, a.slot⟩
theorem Kp.slots {F : List Addr} {s : Shared} {h' : Heap} (a : Heap.SlotsOnly F s.heap h') : Kp F s { s with heap := h' } :=
  ⟨⟨h', s.toks, rfl⟩, fun b o hb e => (a.2.1 b hb).trans e, fun b o e => a.2.2 b o e⟩
theorem Kp.but {F : List Addr} {s₀ s : Shared} {h' : Heap} {e : Addr} (a : Kp F s₀ s) (he : s₀.heap.get? e = none) (h : ∀ b, b ≠ e → h'.get? b = s.heap.get? b) : Kp F s₀ { s with heap := h' } := by
  obtain ⟨h₁, t₁, rfl⟩ := a.same
  have off : ∀ b o, s₀.heap.get? b = some o → b ≠ e := fun b o q r => by rw [r, he] at q; cases q
  refine ⟨⟨h', t₁, rfl⟩, fun b o hb q => (h b (off b o q)).trans (a.keep b o hb q), fun b o q => ?_⟩
  obtain ⟨sl, r⟩ := a.slot b o q
  exact ⟨sl, (h b (off b o q)).trans r⟩
theorem Kp.none_of {F : List Addr} {s₀ s : Shared} (a : Kp F s₀ s) {e : Addr} (h : s.heap.get? e = none) : s₀.heap.get? e = none := by
  cases q : s₀.heap.get? e with
  | none => rfl
  | some o => obtain ⟨sl, r⟩ := a.slot e o q; rw [h] at r; cases r

/-- the tie's exception e, new since s₀, with a trail or (if not noted) none -/
structure TieX (noted : Bool) (tc : Addr) (F : List Addr) (s₀ s : Shared) (e : Addr) : Prop where
  kp : Kp F s₀ s
  new : s₀.heap.get? e = none
  obj : ∃ oe vs, s.heap.get? e = some oe ∧ oe.cls = .ref tc ∧ oe.data = .fields vs ∧ vs[2]? = some .none ∧
    ((noted = false ∧ vs[1]? = some .none) ∨ ∃ T oT ts fl, vs[1]? = some (.ref T) ∧ s₀.heap.get? T = none ∧ T ≠ e ∧ s.heap.get? T = some oT ∧ oT.data = .fields ts ∧ ts[3]? = some fl)

theorem TieX.un {noted : Bool} {tc : Addr} {F : List Addr} {s₀ s : Shared} {e : Addr} (x : TieX noted tc F s₀ s e) : TieX false tc F s₀ s e :=
  ⟨x.kp, x.new, let ⟨oe, vs, h1, h2, h3, h4, h5⟩ := x.obj; ⟨oe, vs, h1, h2, h3, h4, h5.elim (fun q => .inl ⟨rfl, q.2⟩) .inr⟩⟩
theorem TieX.from {noted : Bool} {tc : Addr} {F : List Addr} {s₀ s₁ s : Shared} {e : Addr} (x : TieX noted tc F s₁ s e) (k : Kp F s₀ s₁) : TieX noted tc F s₀ s e :=
  ⟨k.trans x.kp, k.none_of x.new, let ⟨oe, vs, h1, h2, h3, h4, h5⟩ := x.obj; ⟨oe, vs, h1, h2, h3, h4, h5.elim .inl fun ⟨T, oT, ts, fl, q1, q2, q3⟩ => .inr ⟨T, oT, ts, fl, q1, k.none_of q2, q3⟩⟩⟩
theorem TieX.hd {noted : Bool} {tc : Addr} {F : List Addr} {s₀ s : Shared} {e : Addr} (x : TieX noted tc F s₀ s e) : HdE s.heap e :=
  let ⟨oe, vs, h1, _, h3, h4, _⟩ := x.obj; ⟨oe, vs, h1, h3, h4⟩
theorem TieX.drop {noted : Bool} {tc L : Addr} {F : List Addr} {s₀ s : Shared} {e : Addr} (x : TieX noted tc (L :: F) s₀ s e) (h : s₀.heap.get? L = none) : TieX noted tc F s₀ s e := ⟨x.kp.drop h, x.new, x.obj⟩
/-- the frames of the calls under way -/
noncomputable def NoHeap : Heap := { objs := #[] }
structure FrOK (A : Around) (env : Env) (F : List Addr) (h : Heap) : Prop where
  fr : ∃ outer, A.frames = some (env :: outer) ∧ F = (env :: outer).filterMap (·.frame) ∧ h.FunFrames NoHeap (env :: outer)
  fl : ∃ L, env.frame = some L

theorem FrOK.of {A : Around} {env : Env} {F : List Addr} {h h' : Heap} (x : FrOK A env F h) (k : ∀ b o, h.get? b = some o → (∀ vs, o.data ≠ .fields vs) → ∃ o', h'.get? b = some o' ∧ o'.data = o.data) : FrOK A env F h' :=
  let ⟨outer, h1, h2, h3⟩ := x.fr; ⟨⟨outer, h1, h2, h3.of_keeps k⟩, x.fl⟩
theorem FrOK.sim {A : Around} {env : Env} {F : List Addr} {h h' : Heap} (x : FrOK A env F h) (k : SimX [] h h') : FrOK A env F h' := by
  obtain ⟨outer, h1, h2, h3⟩ := x.fr
  refine ⟨⟨outer, h1, h2, h3.of_keeps fun b o e _ => ?_⟩, x.fl⟩
  obtain ⟨o', e', _, hd⟩ := k b o (by simp) e
  exact ⟨o', e', hd⟩
theorem FrOK.kp {A : Around} {env : Env} {F F' : List Addr} {s s' : Shared} (x : FrOK A env F s.heap) (k : Kp F' s s') : FrOK A env F s'.heap := x.sim (k.simX _)
theorem FrOK.not_fields {A : Around} {env : Env} {F : List Addr} {h : Heap} (x : FrOK A env F h) : ∀ b ∈ F, ∃ o, h.get? b = some o ∧ ∀ vs, o.data ≠ .fields vs := fun b hb => by
  obtain ⟨outer, h1, h2, h3⟩ := x.fr
  rw [h2] at hb
  exact (h3.mem hb).2

section
variable {M : Model} {A : Around} {E : Value → Shared → Prop} {s s₀ : Shared} {Q : Unit → Shared → Prop} {env : Env} {tc : Addr} {F : List Addr} {e : Addr} {noted : Bool}

theorem entry_ok {L : Addr} {head : Value} {had : Bool} (hf : FrOK A env F s.heap) (hfl : env.frame = some L) (hx : TieX noted tc F s₀ s e) (h : ∀ s', TieX true tc F s₀ s' e → FrOK A env F s'.heap → Q () s') :
    wpAny M A (do let a ← frameOf env; let pl ← entryPlaceOf L had; let b ← EntryCells.newEntry head a .none (rawInt L) .none pl; setField (.ref e) 1 b) Q E s := by
  have nf := hf.not_fields
  obtain ⟨outer, f1, f2, f3⟩ := hf.fr
  obtain ⟨oe, vs, he, hc, hd, h2, _⟩ := hx.obj
  have heF : e ∉ F := fun q => by
    obtain ⟨o, ho, hn⟩ := nf e q
    rw [he] at ho; cases ho
    exact hn vs hd
  refine wpAny_bind (wpAny_frameOf_fun f1 f3 hfl fun h₁ hs₁ => ?_)
  rw [← f2] at hs₁
  refine wpAny_bind (wpAny_entryPlaceOf fun pl hpl => ?_)
  unfold EntryCells.newEntry newFields
  refine wpAny_bind (wpAny_newObj_type ?_ (hpl.sizeOk5 _ _ _ _ _))
  have k₁ : Kp F s₀ { s with heap := h₁ } := hx.kp.trans (Kp.slots hs₁)
  generalize hto : ({ cls := .type "traceback", dict := none, data := .fields ([head, .ref L, .none, rawInt L, .none] ++ (if pl.isEmpty then List.replicate 6 Value.none else pl)).toArray } : Obj) = to
  have k₂ : Kp F s₀ { s with heap := h₁.push to } := k₁.trans (Kp.push F { s with heap := h₁ } to)
  have he₁ : h₁.get? e = some oe := (hs₁.2.1 e heF).trans he
  have he₂ : (h₁.push to).get? e = some oe := Heap.get?_push_of_some to he₁
  have hsz : 1 < vs.size := by
    have := (Array.getElem?_eq_some_iff.mp h2).1
    exact Nat.lt_of_succ_lt this
  refine wpAny_setField (s := { s with heap := h₁.push to }) he₂ hd hsz (h _ ?_ ?_)
  rotate_left
  · refine hf.of fun b o hb hn => ?_
    obtain ⟨sl, hs⟩ := hs₁.2.2 b o hb
    have hbe : b ≠ e := fun q => by subst q; rw [he] at hb; cases hb; exact hn vs hd
    exact ⟨_, (Heap.get?_update_other _ _ (Ne.symm hbe)).trans (Heap.get?_push_of_some to hs), rfl⟩
  have hTe : h₁.objs.size ≠ e := Nat.ne_of_gt (Heap.lt_size he₁)
  have hd₃ := Obj.data_mapFields hd (·.setIfInBounds 1 (Value.ref h₁.objs.size))
  have he₃ := Heap.get?_update_self (Obj.mapFields (·.setIfInBounds 1 (Value.ref h₁.objs.size))) he₂ (Obj.isFreed_of_fields hd₃)
  have hfree : to.isFreed = false := by rw [← hto]; rfl
  have hT₂ : (h₁.push to).get? h₁.objs.size = some to := Heap.get?_push_size h₁ hfree
  have other : ∀ b, b ≠ e → ((h₁.push to).update e (Obj.mapFields (·.setIfInBounds 1 (Value.ref h₁.objs.size)))).get? b = (h₁.push to).get? b := fun b hb => Heap.get?_update_other _ _ (Ne.symm hb)
  refine ⟨k₂.but hx.new other, hx.new, _, _, he₃, (Obj.cls_mapFields _ _).trans hc, hd₃, ?_, .inr ⟨h₁.objs.size, to, _, rawInt L, by simp [hsz], k₁.none_of (get_none_of_le (Nat.le_refl _)), hTe, (other _ hTe).trans hT₂, by rw [← hto], by simp⟩⟩
  rw [Array.getElem?_setIfInBounds_ne (by decide)]; exact h2

theorem note_ok (hf : FrOK A env F s.heap) (hx : TieX noted tc F s₀ s e) (h : ∀ s', TieX true tc F s₀ s' e → FrOK A env F s'.heap → Q () s') : wpAny M A (noteFrame (.ref e) env) Q E s := by
  obtain ⟨L, hfl⟩ := hf.fl
  obtain ⟨oe, vs, he, hc, hd, h2, hq⟩ := hx.obj
  unfold noteFrame
  simp only [hfl]
  rcases hq with ⟨hn, h1⟩ | ⟨T, oT, ts, fl, h1, hTn, hTe, hT, hdT, h3⟩
  · refine wpAny_bind (wpAny_field he hd h1 ?_)
    rw [if_neg (by decide)]
    exact entry_ok hf hfl hx h
  · refine wpAny_bind (wpAny_field he hd h1 ?_)
    rw [if_pos (show (Value.ref T != Value.none) = true from by simp)]
    refine wpAny_bind (wpAny_field hT hdT h3 ?_)
    by_cases hfl' : (fl == rawInt L) = true
    · rw [if_pos hfl']
      exact wpAny_pure (h s ⟨hx.kp, hx.new, oe, vs, he, hc, hd, h2, .inr ⟨T, oT, ts, fl, h1, hTn, hTe, hT, hdT, h3⟩⟩ hf)
    · rw [if_neg hfl']
      refine wpAny_bind (wpAny_setField hT hdT (Array.getElem?_eq_some_iff.mp h3).1 ?_)
      have other : ∀ b, b ≠ T → (s.heap.update T (Obj.mapFields (·.setIfInBounds 3 Value.none))).get? b = s.heap.get? b := fun b hb => Heap.get?_update_other _ _ (Ne.symm hb)
      have hT' := Heap.get?_update_self (Obj.mapFields (·.setIfInBounds 3 Value.none)) hT (Obj.isFreed_of_fields (Obj.data_mapFields hdT _))
      have hx' : TieX true tc F s₀ { s with heap := s.heap.update T (Obj.mapFields (·.setIfInBounds 3 Value.none)) } e :=
        ⟨hx.kp.but hTn other, hx.new, oe, vs, (other e (Ne.symm hTe)).trans he, hc, hd, h2, .inr ⟨T, _, _, .none, h1, hTn, hTe, hT', Obj.data_mapFields hdT _, by simp [(Array.getElem?_eq_some_iff.mp h3).1]⟩⟩
      refine entry_ok (hf.of fun b o ho hn => ⟨o, (other b fun q => ?_).trans ho, rfl⟩) hfl hx' h
      subst q
      rw [hT] at ho; cases ho
      exact hn ts hdT

theorem flight_ok {fl : Option Addr} (hf : FrOK A env F s.heap) (hx : TieX true tc F s₀ s e) (h : ∀ s', TieX true tc F s₀ s' e → FrOK A env F s'.heap → Q () s') : wpAny M A (setFlight (.ref e) fl) Q E s := by
  obtain ⟨oe, vs, he, hc, hd, h2, hq⟩ := hx.obj
  rcases hq with ⟨hn, _⟩ | ⟨T, oT, ts, f0, h1, hTn, hTe, hT, hdT, h3⟩
  · cases hn
  · unfold setFlight
    refine wpAny_bind (wpAny_field he hd h1 ?_)
    rw [if_pos (show (Value.ref T != Value.none) = true from by simp)]
    refine wpAny_setField hT hdT (Array.getElem?_eq_some_iff.mp h3).1 (h _ ?_ (hf.of fun b o hb hn => ⟨o, (Heap.get?_update_other _ _ fun q => by subst q; rw [hT] at hb; cases hb; exact hn ts hdT).trans hb, rfl⟩))
    have other : ∀ b v, b ≠ T → (s.heap.update T (Obj.mapFields (·.setIfInBounds 3 v))).get? b = s.heap.get? b := fun b v hb => Heap.get?_update_other _ _ (Ne.symm hb)
    refine ⟨hx.kp.but hTn fun b hb => other b _ hb, hx.new, oe, vs, (other e _ (Ne.symm hTe)).trans he, hc, hd, h2, .inr ⟨T, _, _, fl.elim Value.none fun f => rawInt f, h1, hTn, hTe, Heap.get?_update_self _ hT (Obj.isFreed_of_fields (Obj.data_mapFields hdT _)), Obj.data_mapFields hdT _, ?_⟩⟩
    · have := (Array.getElem?_eq_some_iff.mp h3).1
      simp [this]

theorem leave_ok (hf : FrOK A env F s.heap) (hx : TieX noted tc F s₀ s e) (h : ∀ s', TieX true tc F s₀ s' e → Q () s') : wpAny M A (leaving env (.ref e)) Q E s := by
  unfold leaving
  exact wpAny_bind (note_ok hf hx fun s₁ x₁ f₁ => flight_ok f₁ x₁ fun s₂ x₂ _ => h s₂ x₂)

theorem came_ok (hf : FrOK A env F s.heap) (hx : TieX true tc F s₀ s e) (h : ∀ s', TieX true tc F s₀ s' e → FrOK A env F s'.heap → E (.ref e) s') : cameBackBy M A env E (.ref e) s := by
  obtain ⟨oe, vs, he, hc, hd, h2, hq⟩ := hx.obj
  rcases hq with ⟨hn, _⟩ | ⟨T, oT, ts, f0, h1, hTn, hTe, hT, hdT, h3⟩
  · cases hn
  · unfold cameBackBy
    refine wpAny_bind (wpAny_field he hd h1 ?_)
    rw [if_neg (show ¬ ((Value.ref T == Value.none) = true) from by simp)]
    exact flight_ok hf hx h

theorem loop_tie (hf : FrOK A env F s.heap) (hx : TieX noted tc F s₀ s e) (h : ∀ s', TieX true tc F s₀ s' e → FrOK A env F s'.heap → E (.ref e) s') : notedBy M A env (cameBackBy M A env E) (.ref e) s := by
  unfold notedBy
  exact note_ok hf hx fun s₁ x₁ f₁ => came_ok f₁ x₁ h
end
end Mine
end
section
namespace Mine
open PySem PySem.W PyProof.Rows

section
variable {prog : Program} {w : World} {A : Around} {E : Value → Shared → Prop} {s : Shared} {X : List Addr} {Q : Value → Shared → Prop} {env : Env}

theorem subTail {value slice : PySem.Expr} {o i : Value} {T id : String} {vs : List Value} (hT : s.TypeIs o T) (hl : typeLookup (.type T) "__getitem__" = pure (some (.builtin id))) (hs : subscripted slice false o i = operate vs (getItem o i))
    (h : wpAny (model prog w) A (getItem o i) Q E s) : wpAny (model prog w) A (subscriptTail value slice o i) Q E s := by
  unfold subscriptTail
  refine wpAny_bind ?_
  rw [getitemInPython_of_ne hT.not_modules]
  refine wpAny_bind (wpAny_specialOf hT hl ?_)
  have fin : wpAny (model prog w) A (subscripted slice false o i) (fun r s₃ => wpAny (model prog w) A (letTemporaryGo value o r >>= fun _ => pure r) Q E s₃) E s := by
    rw [hs]
    exact wpAny_operating (wpAny_mono h (fun r s₃ h₃ => wpAny_bind (wpAny_letTemporaryGo (wpAny_pure h₃))) fun _ _ x => x)
  first
    | exact wpAny_pure (wpAny_bind fin)
    | exact wpAny_bind (wpAny_pure (wpAny_bind fin))
    | exact wpAny_bind fin

theorem idxO_some {xs : List PV} {k : Int} {V : PV} (e : idxO xs k = some V) : xs.length ≤ 1000 ∧ 0 ≤ (if k < 0 then k + xs.length else k) ∧ xs[(if k < 0 then k + xs.length else k).toNat]? = some V := by
  unfold idxO at e
  by_cases hc : xs.length ≤ szLine ∧ 0 ≤ (if k < 0 then k + xs.length else k)
  · rw [if_pos hc] at e
    exact ⟨hc.1, hc.2, e⟩
  · rw [if_neg hc] at e; cases e
theorem intV_some {v : PV} {i : Int} (e : intV v = some i) : v = .int i := by
  unfold intV at e
  split at e
  · cases e; rfl
  · cases e
theorem boolV_some {v : PV} {i : Bool} (e : boolV v = some i) : v = .bool i := by
  unfold boolV at e
  split at e
  · cases e; rfl
  · cases e
theorem listV_some {v : PV} {i : List PV} (e : listV v = some i) : v = .list i := by
  unfold listV at e
  split at e
  · cases e; rfl
  · cases e
theorem seqV_some {v : PV} {i : List PV} (e : seqV v = some i) : v = .list i ∨ v = .tup i := by
  unfold seqV at e
  split at e
  · cases e; exact .inl rfl
  · cases e; exact .inr rfl
  · cases e

theorem idx_bnd {xs : List PV} {k : Int} {V : PV} (h1 : xs.length ≤ 1000) (h2 : xs[(if k < 0 then k + xs.length else k).toNat]? = some V) (h3 : 0 ≤ (if k < 0 then k + xs.length else k)) : -(xs.length : Int) ≤ k ∧ k < xs.length := by
  have hlt := (List.getElem?_eq_some_iff.mp h2).1
  split at h3 <;> rename_i hk
  · rw [if_pos hk] at hlt; (clear h1 h2; lia)
  · rw [if_neg hk] at hlt; lia
theorem idx_ok {value slice : PySem.Expr} {a kv V : PV} {va vi : Value} (hs : ∀ (o : Value) (k : Int) (t : Tok), subscripted slice false o (.int k t) = operate [o, .int k t] (getItem o (.int k t)))
    (ra : Rep s.heap X a va) (ri : Rep s.heap X kv vi) (e : idxV a kv = some V) (h : ∀ v, Rep s.heap X V v → Q v s) : wpAny (model prog w) A (subscriptTail value slice va vi) Q E s := by
  obtain ⟨xs, e1, e2⟩ := Option.bind_eq_some_iff.mp e
  obtain ⟨k, e3, e4⟩ := Option.bind_eq_some_iff.mp e2
  cases intV_some e3
  obtain ⟨t, rfl⟩ := ri
  obtain ⟨h1, h2, h3⟩ := idxO_some e4
  obtain ⟨b1, b2⟩ := idx_bnd h1 h3 h2
  rcases seqV_some e1 with rfl | rfl
  · obtain ⟨l, vs, rfl, _, hl, hr⟩ := ra
    obtain ⟨v, hv, hrv⟩ := RepL.get hr h3
    have hlen := hr.length
    refine subTail hl.typeIs slot_list_getitem.lookup (hs _ _ _) ?_
    by_cases hk : k < 0
    · rw [if_pos hk] at hv
      refine wpAny_getItem_list_neg hl hk (by rw [List.size_toArray, hlen]; exact b1) (by (clear hs h e4 e2 e3 h2 h3 b2 e1 e hl hr hv hrv hk; lia)) ?_ (h v hrv)
      rw [List.size_toArray, hlen]; simpa using hv
    · rw [if_neg hk] at hv
      exact wpAny_getItem_list hl (by (clear hs h e4 e2 e3 h1 h2 h3 b1 b2 e1 e hl hr hv hrv hlen; lia)) (by lia) (by simpa using hv) (h v hrv)
  · obtain ⟨l, vs, rfl, _, hl, hr⟩ := ra
    obtain ⟨v, hv, hrv⟩ := RepL.get hr h3
    have hlen := hr.length
    have ht : IsTup s.heap l vs.toArray := hl
    refine subTail ht.typeIs slot_tuple_getitem.lookup (hs _ _ _) ?_
    refine getItem_tuple ht (by lia) (by lia) (j := (if k < 0 then k + xs.length else k).toNat) ?_ (by simpa using hv) (h v hrv)
    unfold seqIndex?
    rw [List.size_toArray, hlen]
    dsimp only
    rw [if_pos]
    rw [Bool.and_eq_true, decide_eq_true_eq, decide_eq_true_eq]
    split at h2
    · rename_i hk; rw [if_pos hk]; lia
    · rename_i hk; rw [if_neg hk]; lia

theorem slice_idx (items : Array Value) (lo hi : Option Int) (i j : Nat) (hlo : lo = some (i : Int) ∨ (lo = none ∧ i = 0)) (hhi : hi = some (j : Int) ∨ (hi = none ∧ items.size ≤ j)) :
    slicePick items lo hi none = ((items.toList.take j).drop i).toArray := by
  have hb : sliceBounds lo hi none items.size = (((min i items.size : Nat) : Int), ((min j items.size : Nat) : Int), 1) := by
    have e1 : (sliceBounds lo hi none items.size).1 = ((min i items.size : Nat) : Int) := by
      rcases hlo with rfl | ⟨rfl, rfl⟩
      · simp only [sliceBounds, Option.getD_none, show (1 : Int) > 0 by decide, if_true]
        rw [if_neg (by lia)]; (clear hhi; lia)
      · simp [sliceBounds]
    have e2 : (sliceBounds lo hi none items.size).2.1 = ((min j items.size : Nat) : Int) := by
      rcases hhi with rfl | ⟨rfl, h⟩
      · simp only [sliceBounds, Option.getD_none, show (1 : Int) > 0 by decide, if_true]
        rw [if_neg (by lia)]; lia
      · simp only [sliceBounds, Option.getD_none, show (1 : Int) > 0 by decide, if_true]
        lia
    exact Prod.ext e1 (Prod.ext e2 rfl)
  unfold slicePick
  rw [hb]
  dsimp only
  rw [sliceRange_one, pick_run]
  congr 1
  apply List.ext_getElem?
  intro n
  simp only [List.getElem?_take, List.getElem?_drop, Array.getElem?_toList]
  have : items.toList.length = items.size := by simp
  by_cases h1 : n < min j items.size - min i items.size
  · rw [if_pos h1]
    have : min i items.size = i := by (clear hlo hhi hb this; lia)
    rw [this, if_pos (by lia)]
  · rw [if_neg h1]
    split
    · rename_i h2
      symm
      apply Array.getElem?_eq_none
      clear hlo hhi hb this; lia
    · rfl

theorem slice_ok {value : PySem.Expr} {lo up : Option PySem.Expr} {p pos : Pos} {i j : Nat} (hi : natLit lo 0 = some i) (hj : natLit up 1000 = some j)
    (h : wpAny (model prog w) A (eval value env) (fun va s₁ => ∃ xs, Rep s₁.heap X (.list xs) va ∧ xs.length ≤ 1000 ∧ (∀ a ∈ X, ∃ o, s₁.heap.get? a = some o) ∧ ∀ v s', Kp [] s₁ s' → Rep s'.heap X (.list (sliceE xs i j)) v → Q v s') E s) :
    wpAny (model prog w) A (eval (.Subscript value (.Slice lo up .none p) pos) env) Q E s := by
  have part : ∀ (e : Option PySem.Expr) (d k : Nat), natLit e d = some k → ∀ (s : Shared) (Q : Value → Shared → Prop), (∀ v c tk, IsPart v c → (c = some (k : Int) ∨ (c = none ∧ k = d)) → Q v { s with toks := tk }) → wpAny (model prog w) A (evalPart e env) Q E s := by
    intro e d k hk s Q hQ
    rcases natLit_some hk with ⟨rfl, rfl⟩ | ⟨ii, kk, pp, rfl, hb, rfl⟩
    · rw [evalPart_none]
      exact wpAny_pure (hQ .none none s.toks .none (.inr ⟨rfl, rfl⟩))
    · refine wpAny_Constant_int (k := kk) (pos := pp) (hQ _ (some ii) _ (.int _ _) (.inl ?_))
      rw [Int.toNat_of_nonneg hb.1]
  refine Subscript_ (wpAny_mono h (fun va s₁ h₁ => ?_) fun _ _ e => e)
  obtain ⟨xs, ⟨l, vs, rfl, _, hl, hr⟩, hlen, hX, hQ⟩ := h₁
  refine wpAny_Slice (part lo 0 i hi _ _ fun vl cl t1 p1 q1 => part up 1000 j hj _ _ fun vu cu t2 p2 q2 => ?_)
  rw [evalPart_none]
  refine wpAny_pure ?_
  have hlv := hr.length
  have k1 : Kp [] s₁ { s₁ with heap := s₁.heap.push { cls := .type "slice", data := .fields #[vl, vu, .none] }, toks := t2 } := Kp.of fun b o e => Heap.get?_push_of_some _ e
  have hl' : ({ s₁ with heap := s₁.heap.push { cls := .type "slice", data := .fields #[vl, vu, .none] }, toks := t2 } : Shared).heap.IsList l vs.toArray := hl.push _
  refine subTail (T := "list") hl'.typeIs slot_list_getitem.lookup (vs := [.ref s₁.heap.objs.size, .ref l]) rfl ?_
  refine wpAny_getItem_list_slice hl' (Heap.IsSliceOf.new ..) p1 p2 .none (by simp) ?_ (by rw [List.size_toArray, hlv]; exact Nat.le_trans hlen sz_1000)
  have k2 : Kp [] s₁ { s₁ with heap := (s₁.heap.push { cls := .type "slice", data := .fields #[vl, vu, .none] }).push { cls := .type "list", data := .seq (slicePick vs.toArray cl cu none) }, toks := t2 } := k1.trans (Kp.push (F := []) { s₁ with heap := s₁.heap.push { cls := .type "slice", data := .fields #[vl, vu, .none] }, toks := t2 } _)
  refine hQ _ _ k2 ?_
  have e : slicePick vs.toArray cl cu none = ((vs.take j).drop i).toArray := by
    have := slice_idx vs.toArray cl cu i j q1 (q2.imp id fun q => ⟨q.1, by rw [List.size_toArray, hlv, q.2]; exact hlen⟩)
    simpa using this
  refine ⟨_, (vs.take j).drop i, rfl, not_old (h := s₁.heap.push { cls := .type "slice", data := .fields #[vl, vu, .none] }) (fun a ha => let ⟨o, ho⟩ := hX a ha; ⟨o, Heap.get?_push_of_some _ ho⟩) (Nat.le_refl _), ?_, ?_⟩
  · rw [e]
    exact ⟨_, Heap.get?_push_size _ rfl, rfl, _, rfl⟩
  · exact RepL.kp ((hr.take j).drop i) k2

theorem mul_ok {l : Addr} {a : PV} {va : Value} {k : Int} {t : Tok} (hX : ∀ a ∈ X, ∃ o, s.heap.get? a = some o) (hl : s.heap.IsList l #[va]) (ra : Rep s.heap X a va) (hk : 0 ≤ k ∧ k ≤ 1000)
    (h : ∀ v s', Kp [] s s' → Rep s'.heap X (.list (List.replicate k.toNat a)) v → (∀ D, v = .ref D → s.heap.get? D = none ∧ DL s'.heap D) → Q v s') : wpAny (model prog w) A (binaryOp .Mult (.ref l) (.int k t)) Q E s := by
  obtain ⟨⟨cls, d, data, sl⟩, ho, hcl, n, hd⟩ := id hl
  simp only at hcl hd
  subst hcl hd
  refine wpAny_binaryOp_repeat_ref (T := "list") (U := "int") (by decide) ⟨_, ho, rfl⟩ (fun s' => typeIs_int s' k t) noFill_list_mul F.fills_int_mul F.slot_int_rmul repeat_list F.slot_int_index.lookup
    (call_meets F.slot_int_rmul (typeIs_int s k t) F.entry_int_rmul (F.args_int_rmul_2 _ _) (lm_int_rmul_list_any k t l #[va] n d sl)
      ⟨ho, rfl, ⟨_, ho, rfl⟩, call_meets F.slot_list_mul ⟨_, ho, rfl⟩ F.entry_list_mul (F.args_list_mul_2 _ _)
        (lm_list_mul_any l #[va] n d sl k t (by simp [Builtin.List.listFitsIndex]; lia) (by simp; lia) (by simp [Builtin.List.listTooLong, sizeLine_eq]; lia))
        ⟨ho, ?_⟩⟩)
  have e : List.foldl (fun x1 x2 => x1 ++ x2) #[] (List.replicate (if (#[va] : Array Value).isEmpty = true then 0 else k.toNat) #[va]) = (List.replicate k.toNat va).toArray := by
    rw [listMul_foldl_if]
    congr 1
    generalize k.toNat = m
    induction m with
    | zero => rfl
    | succ m ih => rw [List.replicate_succ, List.flatten_cons, ih, List.replicate_succ]; rfl
  rw [e]
  exact h _ _ (Kp.push _ _ _) (new_list hX (RepL.replicate ra k.toNat)) fun D q => by cases q; exact ⟨get_none_of_le (Nat.le_refl _), _, Heap.get?_push_size _ rfl, rfl⟩
end
end Mine
end
section
namespace Mine
open PySem PySem.W PyProof.Rows

structure Kt where
  prog : Program
  w : World
  base : Heap
  mg : Str → Option Value
  mb : Str → Option Value
  tc : Addr

/-- the function object of fd -/
noncomputable def FnOK (base : Heap) (fd : FD) (a : Addr) : Prop :=
  ∃ (o : Obj) (f : FuncData) (dvs : List Value), base.get? a = some o ∧ o.data = .func f ∧ f.scope = fd.scope ∧ f.body = .stmts fd.body ∧ f.closure = [] ∧ f.globals = mainGlobals ∧ f.builtins = builtinsNs ∧ base.CodeRec f.code f.qualname ∧
    f.scope.isCoroutine = false ∧ f.scope.isGenerator = false ∧ fd.params.Nodup ∧ (∀ x ∈ fd.params, storable fd.scope x) ∧ RepL base [] fd.dflts dvs ∧
    ∀ (s : Shared) (vals : List Value), base.StaysIn s.heap → vals.length ≤ fd.params.length → fd.params.length - fd.dflts.length ≤ vals.length →
      BindsTo s f ⟨vals, []⟩ (fd.params.zip (vals ++ dvs.drop (vals.length - (fd.params.length - fd.dflts.length))))

noncomputable def tieName : Str := Str.ofString "TiesException"
/-- the names of the module -/
structure GOK (K : Kt) (G : GL) : Prop where
  ns : K.base.Ns mainGlobals K.mg
  nb : K.base.Ns builtinsNs K.mb
  lim : K.base.NoLimit
  vals : ∀ x V, G.vals.lookup x = some V → ∃ v, K.mg x = some v ∧ Rep K.base [] V v
  funs : ∀ x fd, G.vals.lookup x = none → G.funs.lookup x = some fd → ∃ a, K.mg x = some (.ref a) ∧ FnOK K.base fd a
  blt : ∀ x v, G.vals.lookup x = none → G.funs.lookup x = none → bltV x = some v → K.mg x = none ∧ K.mb x = some v
  ties : K.mg tieName = some (.ref K.tc) ∧ ∃ nm q N bs hdct sn sub ab col dd k0 k1 k2 k3 k5, K.base.get? K.tc = some (excClassObj nm q K.tc N bs [.type "Exception", .type "BaseException", .type "object"] hdct sn sub ab col dd k0 k1 k2 k3 k5 "Exception.__new__") ∧
    ∃ mN, K.base.Ns N mN ∧ mN "__init__" = none

/-- what a run asks of what is around it -/
structure Cn (K : Kt) (C : Cx) (A : Around) (env : Env) (n : Nat) (F : List Addr) (h : Heap) : Prop where
  hh : C.hd = false → A.handled = none
  un : A.units + 4 * n + 8 < cLine
  pu : C.pure = true → F = []
  dp : C.pure = false → A.depth + n < recursionLimit
  fr : C.pure = false → FrOK A env F h
  fb : ∀ b ∈ F, K.base.get? b = none
  fd : ∀ b ∈ F, ∃ o es ep, h.get? b = some o ∧ o.data = .dict es ep

theorem Cn.down {K : Kt} {C : Cx} {A : Around} {env : Env} {n m : Nat} {F : List Addr} {h : Heap} (x : Cn K C A env n F h) (hm : m ≤ n) : Cn K C A env m F h :=
  ⟨x.hh, by have := x.un; lia, x.pu, fun q => (by have := x.dp q; lia), x.fr, x.fb, x.fd⟩
theorem Cn.kp {K : Kt} {C : Cx} {A : Around} {env : Env} {n : Nat} {F F' : List Addr} {s s' : Shared} (x : Cn K C A env n F s.heap) (k : Kp F' s s') : Cn K C A env n F s'.heap :=
  ⟨x.hh, x.un, x.pu, x.dp, fun q => (x.fr q).kp k, x.fb, fun b hb => let ⟨o, es, ep, h1, h2⟩ := x.fd b hb; let ⟨_, h3⟩ := k.slot b o h1; ⟨_, es, ep, h3, h2⟩⟩

/-- all that an expression asks -/
structure Ev (K : Kt) (G : GL) (C : Cx) (n : Nat) (sc : Scope) (ρ : Rho) (A : Around) (env : Env) (X F : List Addr) (s : Shared) : Prop where
  g : C.G = G
  es : EnvS env sc
  cn : Cn K C A env n F s.heap
  ee : EnvE env s.heap X ρ
  pi : PI K.base A env X s.heap
theorem Ev.kp {K : Kt} {G : GL} {C : Cx} {n : Nat} {sc : Scope} {ρ : Rho} {A : Around} {env : Env} {X F : List Addr} {s s' : Shared} (x : Ev K G C n sc ρ A env X F s) (k : Kp F s s') : Ev K G C n sc ρ A env X F s' :=
  ⟨x.g, x.es, x.cn.kp k, x.ee.kp k, x.pi.kp k x.cn.fb⟩
theorem Ev.kp0 {K : Kt} {G : GL} {C : Cx} {n : Nat} {sc : Scope} {ρ : Rho} {A : Around} {env : Env} {X F : List Addr} {s s' : Shared} (x : Ev K G C n sc ρ A env X F s) (k : Kp [] s s') : Ev K G C n sc ρ A env X F s' :=
  x.kp (k.mono (by simp))
theorem Ev.down {K : Kt} {G : GL} {C : Cx} {n m : Nat} {sc : Scope} {ρ : Rho} {A : Around} {env : Env} {X F : List Addr} {s : Shared} (x : Ev K G C n sc ρ A env X F s) (hm : m ≤ n) : Ev K G C m sc ρ A env X F s :=
  ⟨x.g, x.es, x.cn.down hm, x.ee, x.pi⟩

/-- the goals of a run that answers as r -/
structure Gd {α β : Type} (tc : Addr) (F : List Addr) (s : Shared) (r : Res α) (R : α → β → Shared → Prop) (Q : β → Shared → Prop) (E : Value → Shared → Prop) : Prop where
  ns : r ≠ .stuck
  ok : ∀ V, r = .ok V → ∀ v s', Kp F s s' → R V v s' → Q v s'
  tie : r = .tie → ∀ e s', TieX false tc F s s' e → E (.ref e) s'

section
variable {α β γ δ : Type} {tc : Addr} {F : List Addr} {s s' : Shared} {r : Res α} {f : α → Res γ} {R : α → β → Shared → Prop} {R2 : γ → δ → Shared → Prop} {Q : δ → Shared → Prop} {E : Value → Shared → Prop}

theorem Gd.bind (g : Gd tc F s (r.bind f) R2 Q E) : Gd tc F s r R (fun v s' => ∃ V, R V v s' ∧ Kp F s s' ∧ Gd tc F s' (f V) R2 Q E) E where
  ns := fun q => by
    have := g.ns
    rw [q] at this
    exact this rfl
  ok := fun V q v s' k hR => ⟨V, hR, k, by
    have e : r.bind f = f V := by rw [q]; rfl
    exact ⟨e ▸ g.ns, fun V' q' v' s'' k' h' => g.ok V' (e.trans q') v' s'' (k.trans k') h', fun q' x s'' t => g.tie (e.trans q') x s'' (t.from k)⟩⟩
  tie := fun q x s' t => g.tie (by rw [q]; rfl) x s' t
theorem Gd.fin0 {Q : β → Shared → Prop} {V : α} {v : β} (g : Gd tc F s (.ok V) R Q E) (k : Kp [] s s') (h : R V v s') : Q v s' := g.ok V rfl v s' (k.mono (by simp)) h
/-- a part that answers at once -/
theorem Gd.opt {Q : β → Shared → Prop} {o : Option α} (g : Gd tc F s (ofO o) R Q E) : ∃ V, o = some V ∧ ∀ v s', Kp F s s' → R V v s' → Q v s' := by
  cases h : o with
  | some V => exact ⟨V, rfl, fun v s' k hr => g.ok V (by rw [h]; rfl) v s' k hr⟩
  | none => exact absurd (by rw [h]; rfl) g.ns
/-- a part that answers at once, on the way -/
theorem Gd.optb {o : Option α} (g : Gd tc F s ((ofO o).bind f) R2 Q E) : ∃ V, o = some V ∧ Gd tc F s (f V) R2 Q E := by
  cases h : o with
  | some V => rw [h] at g; exact ⟨V, rfl, g⟩
  | none => rw [h] at g; exact absurd rfl g.ns
theorem Gd.eq {Q : β → Shared → Prop} {r' : Res α} (g : Gd tc F s r R Q E) (h : r = r') : Gd tc F s r' R Q E := h ▸ g
end

section
variable {K : Kt} {G : GL} {C : Cx} {n : Nat} {sc : Scope} {ρ : Rho} {A : Around} {env : Env} {X F : List Addr} {s : Shared} {Q : Value → Shared → Prop} {E : Value → Shared → Prop}

theorem Rep.base {base h : Heap} (hs : base.StaysIn h) (hX : ∀ a ∈ X, base.get? a = none) {V : PV} {v : Value} (r : Rep base [] V v) : Rep h X V v := by
  have r1 := Rep.avoid hX r
  rw [List.nil_append] at r1
  exact Rep.sim (fun b o _ e _ => ⟨o, hs b o e, rfl, rfl⟩) V v r1
theorem RepL.base {base h : Heap} (hs : base.StaysIn h) (hX : ∀ a ∈ X, base.get? a = none) {V : List PV} {v : List Value} (r : RepL base [] V v) : RepL h X V v := by
  have r1 := RepL.avoid hX r
  rw [List.nil_append] at r1
  exact RepL.sim (fun b o _ e _ => ⟨o, hs b o e, rfl, rfl⟩) V v r1

theorem not_debug (ES : EnvS env sc) {x : Str} {k : NameKind} (h : sc.names.lookup x = some k) : (x == ("__debug__" : Str)) = false := by
  refine beq_false_of_ne fun q => ?_
  have := ES.dbg
  rw [show Str.ofString "__debug__" = x from q.symm, h] at this
  cases this

theorem global_load (GK : GOK K G) (ES : EnvS env sc) (P : K.base.StaysIn s.heap) {x : Str} {p : Pos} {v : Value} (hx : sc.names.lookup x = some .globalImplicit) (hv : K.mg x = some v) (h : Q v s) : wpAny (model K.prog K.w) A (eval (.Name x p) env) Q E s :=
  Calls.Name_function_global (by rw [ES.scope]; exact ES.kind) (by unfold Env.kindOf; rw [ES.scope]; exact hx) (Calls.loadGlobal_global (by rw [ES.globals]; exact GK.ns.keeps P) hv h) (not_debug ES hx)
theorem builtin_load (GK : GOK K G) (ES : EnvS env sc) (P : K.base.StaysIn s.heap) {x : Str} {p : Pos} {v : Value} (hx : sc.names.lookup x = some .globalImplicit) (hm : K.mg x = none) (hv : K.mb x = some v) (h : Q v s) : wpAny (model K.prog K.w) A (eval (.Name x p) env) Q E s :=
  Calls.Name_function_global (by rw [ES.scope]; exact ES.kind) (by unfold Env.kindOf; rw [ES.scope]; exact hx) (Calls.loadGlobal_builtin (by rw [ES.globals]; exact GK.ns.keeps P) hm (by rw [ES.builtins]; exact GK.nb.keeps P) hv h) (not_debug ES hx)

theorem own_load (ES : EnvS env sc) {x : Str} {v : Value} (hv : Hold env s.heap x v) (h : Q v s) : wpAny (model K.prog K.w) A (loadName env x) Q E s := by
  have hk : env.scope.kind = .function := by rw [ES.scope]; exact ES.kind
  unfold Hold at hv
  split at hv
  · rename_i hl
    obtain ⟨m, hm, e⟩ := hv
    exact wpAny_loadName_local hk hl hm e h
  · rename_i hl
    obtain ⟨c, hc, e⟩ := hv
    exact wpAny_loadName_cell hk hl hc e h
  · rename_i hl
    obtain ⟨c, hc, e⟩ := hv
    refine wpAny_loadName_free hk hl hc e h (beq_false_of_ne fun q => ?_)
    have := ES.cdict
    unfold Env.kindOf at hl
    rw [ES.scope] at hl
    rw [show Str.ofString "__classdict__" = x from q.symm, hl] at this
    cases this
  · exact hv.elim
theorem nameO_cases {G : GL} {y : Str} {V : PV} (e : nameO G sc ρ y = some V) : (∃ k, sc.names.lookup y = some k) ∧ ((sc.names.lookup y = some .globalImplicit ∧ G.vals.lookup y = some V) ∨ ∃ o, ρ.lookup y = some (V, o)) := by
  obtain ⟨k, hk, e1⟩ := Option.bind_eq_some_iff.mp e
  refine ⟨⟨k, hk⟩, ?_⟩
  cases k with
  | globalImplicit => exact .inl ⟨hk, e1⟩
  | globalExplicit => cases e1
  | _ =>
    obtain ⟨p, hp, rfl⟩ := Option.map_eq_some_iff.mp e1
    exact .inr ⟨p.2, hp⟩
theorem name_ok (GK : GOK K G) (x : Ev K G C n sc ρ A env X F s) {y : Str} {p : Pos} (g : Gd K.tc F s (nameE C.G sc ρ y) (fun V v s' => Rep s'.heap X V v) Q E) : wpAny (model K.prog K.w) A (eval (.Name y p) env) Q E s := by
  obtain ⟨V, e, fin⟩ := g.opt
  rw [x.g] at e
  obtain ⟨⟨k, hk⟩, ⟨hk2, hv⟩ | ⟨o, hl⟩⟩ := nameO_cases e
  · obtain ⟨v, h1, h2⟩ := GK.vals y V hv
    exact global_load GK x.es x.pi.st hk2 h1 (fin _ _ (Kp.refl _ _) (h2.base x.pi.st x.pi.nb))
  · obtain ⟨v, h1, h2⟩ := x.ee y V o hl
    exact wpAny_Name (own_load x.es h1 (fin _ _ (Kp.refl _ _) h2)) (not_debug x.es hk)
end
end Mine
end
section
namespace Mine
open PySem PySem.W PyProof.Rows

/-! what each part of the evaluator, given n turns, says of the code -/
noncomputable def SE (K : Kt) (G : GL) (n : Nat) : Prop := ∀ C sc ρ e A env X F s (Q : Value → Shared → Prop) E, Ev K G C n sc ρ A env X F s →
  Gd K.tc F s (evE n C sc ρ e) (fun V v s' => Rep s'.heap X V v) Q E → wpAny (model K.prog K.w) A (eval e env) Q E s
noncomputable def ST (K : Kt) (G : GL) (n : Nat) : Prop := ∀ C sc ρ e A env X F s (Q : Bool → Shared → Prop) E, Ev K G C n sc ρ A env X F s →
  Gd K.tc F s (evT n C sc ρ e) (fun V v _ => v = V) Q E → wpAny (model K.prog K.w) A (isTrue e env (eval e env)) Q E s
noncomputable def SB (K : Kt) (G : GL) (n : Nat) : Prop := ∀ C sc ρ op es A env X F s (Q : Bool → Shared → Prop) E, Ev K G C n sc ρ A env X F s →
  Gd K.tc F s (evB n C sc ρ op es) (fun V v _ => v = V) Q E → wpAny (model K.prog K.w) A (allTrue op es env) Q E s
noncomputable def SFs (K : Kt) (G : GL) (n : Nat) : Prop := ∀ C sc ρ es A env X F s (Q : Bool → Shared → Prop) E, Ev K G C n sc ρ A env X F s →
  Gd K.tc F s (evFs n C sc ρ es) (fun V v _ => v = V) Q E →
  wpAny (model K.prog K.w) A (forIn es true fun c r => if r = true then do let ok ← isTrue c env (eval c env); pure (ForInStep.yield ok) else pure (ForInStep.yield r)) Q E s
noncomputable def SrcR (K : Kt) (A : Around) (t : PySem.Expr) (X : List Addr) (s : Shared) (items : List PV) (v : Value) (s' : Shared) : Prop := ∃ I fp wr It St, v = .ref I ∧ Src K.prog K.w A t X s s' items I fp wr It St
noncomputable def SI (K : Kt) (G : GL) (n : Nat) : Prop := ∀ C sc ρ t e A env X F s (Q : Value → Shared → Prop) E, Ev K G C n sc ρ A env X F s →
  Gd K.tc F s (evI n C sc ρ t e) (SrcR K A t X s) Q E → wpAny (model K.prog K.w) A (eval e env) (fun x s₁ => wpAny (model K.prog K.w) A (pyIter x) Q E s₁) E s

/-- what a call asks of what is around it -/
structure CnC (K : Kt) (C : Cx) (A : Around) (n : Nat) (X F : List Addr) (s : Shared) : Prop where
  hh : C.hd = false → A.handled = none
  un : A.units + 4 * n + 8 < cLine
  dp : A.depth + n < recursionLimit
  fr : ∃ l, A.frames = some l ∧ F = l.filterMap (·.frame) ∧ s.heap.FunFrames NoHeap l
  fb : ∀ b ∈ F, K.base.get? b = none
  fd : ∀ b ∈ F, ∃ o es ep, s.heap.get? b = some o ∧ o.data = .dict es ep
  st : K.base.StaysIn s.heap
  hd : HdOK A s.heap
  hf : ∀ b ∈ hfp A, b ∉ X
  ex : ∀ a ∈ X, ∃ o, s.heap.get? a = some o
  nb : ∀ a ∈ X, K.base.get? a = none
noncomputable def SC (K : Kt) (G : GL) (n : Nat) : Prop := ∀ C fd a as vs A X F s (Q : Value → Shared → Prop) E, C.G = G → C.pure = false → FnOK K.base fd a → RepL s.heap X as vs → CnC K C A n X F s →
  Gd K.tc F s (callF n C fd as) (fun V v s' => Rep s'.heap X V v) Q E →
  codeAny (model K.prog K.w) A (.call (.ref a) ⟨vs, []⟩) (fun r s' => match r with | .ok (.ret v) => Q v s' | .ok _ => False | .error e => E e s') s

section
variable {K : Kt} {G : GL} {n : Nat}

theorem args_ok (H : SE K G n) {C : Cx} {sc : Scope} {ρ : Rho} {A : Around} {env : Env} {X F : List Addr} {pos : Pos} {E : Value → Shared → Prop} : ∀ (es : List PySem.Expr) (s : Shared) (Q : List Value → Shared → Prop), Ev K G C n sc ρ A env X F s →
    Gd K.tc F s (mapR (evE n C sc ρ) es) (fun Vs vs s' => RepL s'.heap X Vs vs) Q E → wpAny (model K.prog K.w) A (spliced (backTo pos (starEach es env))) Q E s := by
  intro es
  induction es with
  | nil => intro s Q x g; exact wpAny_items_nil (g.fin0 (V := []) (Kp.refl _ _) rfl)
  | cons e r ih =>
    intro s Q x g
    have g1 : Gd K.tc F s ((evE n C sc ρ e).bind fun b => (mapR (evE n C sc ρ) r).bind fun bs => .ok (b :: bs)) (fun Vs vs s' => RepL s'.heap X Vs vs) Q E := g
    have g2 := g1.bind (R := fun V v s' => Rep s'.heap X V v)
    have hst : starEach (e :: r) env = (false, eval e env) :: starEach r env := by
      cases e with
      | Starred _ _ => exfalso; exact g2.ns (by cases n <;> rfl)
      | _ => rfl
    refine wpAny_items_cons (wpAny_mono (H C sc ρ e A env X F s _ E x g2) (fun v s₁ h₁ => ?_) fun _ _ e => e) hst
    obtain ⟨V, hv, k, g3⟩ := h₁
    refine wpAny_mono (ih s₁ _ (x.kp k) (g3.bind (R := fun Vs vs s' => RepL s'.heap X Vs vs))) (fun vs s₂ h₂ => ?_) fun _ _ e => e
    obtain ⟨Vs, hvs, k2, g4⟩ := h₂
    exact g4.fin0 (Kp.refl _ _) (RepL.cons (hv.kp k2) hvs)

theorem star1 {e : PySem.Expr} {r : List PySem.Expr} {env : Env} (h : plainArg e = true) : starEach (e :: r) env = (false, eval e env) :: starEach r env := by
  cases e with
  | Starred _ _ => exact Bool.noConfusion (show false = true from h)
  | _ => rfl
theorem plain_any {pos : Pos} {env : Env} : ∀ {es : List PySem.Expr}, es.all plainArg = true → (backTo pos (starEach es env)).any (·.1) = false
  | [], _ => rfl
  | e :: r, h => by
    rw [List.all_cons, Bool.and_eq_true] at h
    have ih := plain_any (pos := pos) (env := env) h.2
    rw [star1 h.1]
    exact ih

theorem evalArgs_any {M : Model} {A : Around} {E : Value → Shared → Prop} {s : Shared} {f : Value} {pos : Pos} {env : Env} {es : List PySem.Expr} {Q : Args → Shared → Prop} (hn : ∀ e r, es = e :: r → plainArg e = true)
    (h : wpAny M A (spliced (backTo pos (starEach es env))) (fun vs s' => Q ⟨vs, []⟩ s') E s) : wpAny M A (evalArgs f true (backTo pos (starEach es env)) []) Q E s := by
  cases es with
  | nil =>
    have h' : wpAny M A (spliced []) (fun vs s' => Q ⟨vs, []⟩ s') E s := h
    show wpAny M A (evalArgs f true [] []) Q E s
    unfold evalArgs
    show wpAny M A (spliced [] >>= _) Q E s
    refine wpAny_bind (wpAny_mono h' (fun vs s' h' => ?_) fun _ _ x => x)
    refine wpAny_holding ?_
    exact wpAny_bind (wpAny_pure (wpAny_bind (wpAny_pure (wpAny_pure h'))))
  | cons e r =>
    have hp := hn e r rfl
    rw [star1 hp] at h ⊢
    exact Calls.evalArgs_plain h

theorem test_cmp {C : Cx} {sc : Scope} {ρ : Rho} {A : Around} {env : Env} {X F : List Addr} {s : Shared} {m : Nat} (x : Ev K G C m sc ρ A env X F s) : A.units + 8 < cLine := by
  have := x.cn.un; lia

theorem behind_false {op : CmpOp} {r : PySem.Expr} (h : noSet r = true) : behindInMarks op r = false := by
  cases r with
  | Set _ _ _ => exact Bool.noConfusion (show false = true from h)
  | _ => cases op <;> rfl

theorem SB_step (HT : ST K G n) (HB : SB K G n) : SB K G (n + 1) := by
  intro C sc ρ op es A env X F s Q E x g
  have x' := x.down (Nat.le_succ n)
  cases es with
  | nil =>
    cases op with
    | And => exact wpAny_allTrue_And_nil (g.fin0 (V := true) (Kp.refl _ _) rfl)
    | Or => exact wpAny_allTrue_Or_nil (g.fin0 (V := false) (Kp.refl _ _) rfl)
  | cons e r =>
    cases op with
    | And =>
      have g1 : Gd K.tc F s ((evT n C sc ρ e).bind fun b => match BoolOp.And, b with | .And, false => .ok false | .Or, true => .ok true | _, _ => evB n C sc ρ .And r) (fun V v _ => v = V) Q E := g
      refine wpAny_allTrue_And_cons (wpAny_mono (HT C sc ρ e A env X F s _ E x' (g1.bind (R := fun V v _ => v = V))) (fun b s₁ h₁ => ?_) fun _ _ e => e)
      obtain ⟨V, rfl, k, g2⟩ := h₁
      cases b with
      | true => exact HB C sc ρ .And r A env X F s₁ Q E (x'.kp k) g2
      | false => exact g2.fin0 (V := false) (Kp.refl _ _) rfl
    | Or =>
      have g1 : Gd K.tc F s ((evT n C sc ρ e).bind fun b => match BoolOp.Or, b with | .And, false => .ok false | .Or, true => .ok true | _, _ => evB n C sc ρ .Or r) (fun V v _ => v = V) Q E := g
      refine wpAny_allTrue_Or_cons (wpAny_mono (HT C sc ρ e A env X F s _ E x' (g1.bind (R := fun V v _ => v = V))) (fun b s₁ h₁ => ?_) fun _ _ e => e)
      obtain ⟨V, rfl, k, g2⟩ := h₁
      cases b with
      | true => exact g2.fin0 (V := true) (Kp.refl _ _) rfl
      | false => exact HB C sc ρ .Or r A env X F s₁ Q E (x'.kp k) g2

theorem SFs_step (HT : ST K G n) : SFs K G (n + 1) := by
  intro C sc ρ es A env X F s Q E x g
  match es, g with
  | [], g => exact wpAny_tests_nil (g.fin0 (V := true) (Kp.refl _ _) rfl)
  | [t], g => exact wpAny_tests_one (HT C sc ρ t A env X F s Q E (x.down (Nat.le_succ n)) g)
  | _ :: _ :: _, g => exact absurd rfl g.ns

theorem isTrue_val (HE : SE K G n) {C : Cx} {sc : Scope} {ρ : Rho} {A : Around} {env : Env} {X F : List Addr} {s : Shared} {Q : Bool → Shared → Prop} {E : Value → Shared → Prop} {e : PySem.Expr} (x : Ev K G C n sc ρ A env X F s) (he : isTrue e env (eval e env) = (do let v ← eval e env; standAt e.pos; holding [v] (truthy v)))
    (g : Gd K.tc F s ((evE n C sc ρ e).bind fun v => ofO (boolV v)) (fun V v _ => v = V) Q E) : wpAny (model K.prog K.w) A (isTrue e env (eval e env)) Q E s := by
  refine wpAny_isTrue_value (wpAny_mono (HE C sc ρ e A env X F s _ E x (g.bind (R := fun V v s' => Rep s'.heap X V v))) (fun v s₁ h₁ => ?_) fun _ _ e => e) he
  obtain ⟨V, hv, k, g2⟩ := h₁
  obtain ⟨b, hb, fin⟩ := g2.opt
  cases boolV_some hb
  rw [show v = .bool b from hv]
  exact wpAny_truthy_bool (fin b _ (Kp.refl _ _) rfl)
theorem isTrue_cmp1 (HE : SE K G n) {C : Cx} {sc : Scope} {ρ : Rho} {A : Around} {env : Env} {X F : List Addr} {s : Shared} {Q : Bool → Shared → Prop} {E : Value → Shared → Prop} {l r : PySem.Expr} {op : CmpOp} {p : Pos} (x : Ev K G C n sc ρ A env X F s)
    (g : Gd K.tc F s (if noSet r then (evE n C sc ρ l).bind fun a => (evE n C sc ρ r).bind fun b => ofO (cmpO op a b) else .stuck) (fun V v _ => v = V) Q E) : wpAny (model K.prog K.w) A (isTrue (.Compare l [op] [r] p) env (eval (.Compare l [op] [r] p) env)) Q E s := by
  cases hr : noSet r with
  | false => rw [hr] at g; exact absurd rfl g.ns
  | true =>
    rw [hr, if_pos rfl] at g
    refine wpAny_isTrue_Compare1 (wpAny_mono (HE C sc ρ l A env X F s _ E x (g.bind (R := fun V v s' => Rep s'.heap X V v))) (fun a s₁ h₁ => ?_) fun _ _ e => e) (behind_false hr)
    obtain ⟨Va, ha, k, g2⟩ := h₁
    refine wpAny_mono (HE C sc ρ r A env X F s₁ _ E (x.kp k) (g2.bind (R := fun V v s' => Rep s'.heap X V v))) (fun b s₂ h₂ => ?_) fun _ _ e => e
    obtain ⟨Vb, hb, k2, g3⟩ := h₂
    obtain ⟨c, hc, fin⟩ := g3.opt
    exact cmp_ok (test_cmp x) hc (ha.kp k2) hb (wpAny_truthy_bool (fin c _ (Kp.refl _ _) rfl))
theorem isTrue_cmp2 (HE : SE K G n) {C : Cx} {sc : Scope} {ρ : Rho} {A : Around} {env : Env} {X F : List Addr} {s : Shared} {Q : Bool → Shared → Prop} {E : Value → Shared → Prop} {l r r2 : PySem.Expr} {op op2 : CmpOp} {p : Pos} (x : Ev K G C n sc ρ A env X F s)
    (g : Gd K.tc F s (if noSet r && noSet r2 then (evE n C sc ρ l).bind fun a => (evE n C sc ρ r).bind fun b => (ofO (cmpO op a b)).bind fun c => if c then (evE n C sc ρ r2).bind fun b2 => ofO (cmpO op2 b b2) else .ok false else .stuck) (fun V v _ => v = V) Q E) :
    wpAny (model K.prog K.w) A (isTrue (.Compare l [op, op2] [r, r2] p) env (eval (.Compare l [op, op2] [r, r2] p) env)) Q E s := by
  cases hr : (noSet r && noSet r2) with
  | false => rw [hr] at g; exact absurd rfl g.ns
  | true =>
    rw [hr, if_pos rfl] at g
    rw [Bool.and_eq_true] at hr
    refine isTrue_chain (wpAny_mono (HE C sc ρ l A env X F s _ E x (g.bind (R := fun V v s' => Rep s'.heap X V v))) (fun a s₁ h₁ => test_link ?_) fun _ _ e => e) (behind_false hr.2)
    obtain ⟨Va, ha, k, g2⟩ := h₁
    refine wpAny_mono (HE C sc ρ r A env X F s₁ _ E (x.kp k) (g2.bind (R := fun V v s' => Rep s'.heap X V v))) (fun b s₂ h₂ => ?_) fun _ _ e => e
    obtain ⟨Vb, hb, k2, g3⟩ := h₂
    obtain ⟨c, hc, g4⟩ := g3.optb
    refine cmp_ok (test_cmp x) hc (ha.kp k2) hb (wpAny_truthy_bool ?_)
    cases c with
    | false => exact g4.fin0 (V := false) (Kp.refl _ _) rfl
    | true =>
      rw [if_pos rfl]
      refine test_last (wpAny_mono (HE C sc ρ r2 A env X F s₂ _ E ((x.kp k).kp k2) (g4.bind (R := fun V v s' => Rep s'.heap X V v))) (fun b2 s₃ h₃ => ?_) fun _ _ e => e)
      obtain ⟨Vc, hb2, k3, g5⟩ := h₃
      obtain ⟨c, hc2, fin⟩ := g5.opt
      exact cmp_ok (test_cmp x) hc2 (hb.kp k3) hb2 (wpAny_truthy_bool (fin c _ (Kp.refl _ _) rfl))
/-- the forms of a test -/
inductive TForm : PySem.Expr → Prop
  | not (x p) : TForm (.UnaryOp .Not x p)
  | bool (op vs p) : TForm (.BoolOp op vs p)
  | cmp1 (l op r p) : TForm (.Compare l [op] [r] p)
  | cmp2 (l op op2 r r2 p) : TForm (.Compare l [op, op2] [r, r2] p)
  | val (e) (h : ∀ env, isTrue e env (eval e env) = (do let v ← eval e env; standAt e.pos; holding [v] (truthy v))) (h2 : ∀ n C sc ρ, evT (n + 1) C sc ρ e = (evE n C sc ρ e).bind fun v => ofO (boolV v)) : TForm e
theorem tform (e : PySem.Expr) : TForm e ∨ ∀ n C sc ρ, evT (n + 1) C sc ρ e = .stuck := by
  cases e with
  | UnaryOp op y p =>
    cases op with
    | Not => exact .inl (.not y p)
    | _ => exact .inl (.val _ (fun _ => rfl) fun _ _ _ _ => rfl)
  | BoolOp op vs p => exact .inl (.bool op vs p)
  | IfExp _ _ _ _ => exact .inr fun _ _ _ _ => rfl
  | Compare l ops rs p =>
    match ops, rs with
    | [op], [r] => exact .inl (.cmp1 l op r p)
    | [op, op2], [r, r2] => exact .inl (.cmp2 l op op2 r r2 p)
    | [], _ => exact .inr fun _ _ _ _ => rfl
    | [_], [] => exact .inr fun _ _ _ _ => rfl
    | [_], _ :: _ :: _ => exact .inr fun _ _ _ _ => rfl
    | [_, _], [] => exact .inr fun _ _ _ _ => rfl
    | [_, _], [_] => exact .inr fun _ _ _ _ => rfl
    | [_, _], _ :: _ :: _ :: _ => exact .inr fun _ _ _ _ => rfl
    | _ :: _ :: _ :: _, _ => exact .inr fun _ _ _ _ => rfl
  | _ => exact .inl (.val _ (fun _ => rfl) fun _ _ _ _ => rfl)
theorem ST_step (HE : SE K G n) (HT : ST K G n) (HB : SB K G n) : ST K G (n + 1) := by
  intro C sc ρ e A env X F s Q E x g
  have x' := x.down (Nat.le_succ n)
  rcases tform e with h | h
  · cases h with
    | not y p =>
      refine wpAny_isTrue_Not (wpAny_mono (HT C sc ρ y A env X F s _ E x' (Gd.bind (R := fun V v _ => v = V) (f := fun b => .ok (!b)) g)) (fun b s₁ h₁ => ?_) fun _ _ e => e)
      obtain ⟨V, rfl, k, g2⟩ := h₁
      exact g2.fin0 (V := !b) (Kp.refl _ _) rfl
    | bool op vs p => exact wpAny_isTrue_BoolOp (HB C sc ρ op vs A env X F s Q E x' g)
    | cmp1 l op r p => exact isTrue_cmp1 HE x' g
    | cmp2 l op op2 r r2 p => exact isTrue_cmp2 HE x' g
    | val e h1 h2 => exact isTrue_val HE x' (h1 env) (g.eq (h2 n C sc ρ))
  · exact absurd (h n C sc ρ) g.ns
end
end Mine
end
section
namespace Mine
open PySem PySem.W PyProof.Rows

section
variable {K : Kt} {G : GL} {n : Nat}

theorem Src.from {prog : Program} {w : World} {A : Around} {t : PySem.Expr} {X F : List Addr} {s s₀ s' : Shared} {items : List PV} {I : Addr} {fp wr : List Addr} {It : Nat → Heap → Heap → Value → Prop} {St : Nat → Heap → Prop}
    (S : Src prog w A t X s₀ s' items I fp wr It St) (k : Kp F s s₀) : Src prog w A t X s s' items I fp wr It St where
  dr := S.dr
  st := S.st
  fpl := S.fpl
  new := fun b hb => k.none_of (S.new b hb)
  off := fun b hb => ⟨(S.off b hb).1, fun o ho => by
    obtain ⟨sl, h'⟩ := k.slot b o ho
    exact ((S.off b hb).2 { o with slots := sl } h' :)⟩
  rep := S.rep

theorem isG_spec {G : GL} {sc : Scope} {f : Str} (h : isG G sc f = true) : sc.names.lookup f = some .globalImplicit ∧ G.vals.lookup f = none ∧ G.funs.lookup f = none := by
  unfold isG at h
  simp only [Bool.and_eq_true, beq_iff_eq, Option.isNone_iff_eq_none] at h
  exact ⟨h.1.1, h.1.2, h.2⟩

theorem all_plain {es : List PySem.Expr} (h : es.all plainArg = true) : ∀ e r, es = e :: r → plainArg e = true := fun e r q => by
  subst q
  rw [List.all_cons, Bool.and_eq_true] at h
  exact h.1

/-- a call of a built-in: its value, with the values of the arguments -/
theorem blt_call (GK : GOK K G) (HE : SE K G n) {C : Cx} {sc : Scope} {ρ : Rho} {f : Str} {fp pos : Pos} {as : List PySem.Expr} {A : Around} {env : Env} {X F : List Addr} {s : Shared} {Q : Value → Shared → Prop} {E : Value → Shared → Prop} {α β : Type} {h : List PV → Res α} {R : α → β → Shared → Prop} {Q0 : β → Shared → Prop} {b : Blt}
    (x : Ev K G C n sc ρ A env X F s) (hG : isG C.G sc f = true) (hb : bltOf f = some b) (hp : as.all plainArg = true) (g : Gd K.tc F s ((mapR (evE n C sc ρ) as).bind h) R Q0 E)
    (fin : ∀ Vs vs s₁, RepL s₁.heap X Vs vs → Kp F s s₁ → Gd K.tc F s₁ (h Vs) R Q0 E → wpAny (model K.prog K.w) A (call b.val vs) Q E s₁) : wpAny (model K.prog K.w) A (eval (.Call (.Name f fp) as [] pos) env) Q E s := by
  rw [x.g] at hG
  obtain ⟨q1, q2, q3⟩ := isG_spec hG
  obtain ⟨m1, m2⟩ := GK.blt f b.val q2 q3 (by unfold bltV; rw [hb]; rfl)
  have ar := args_ok (pos := pos) HE as s _ x (g.bind (R := fun Vs vs s' => RepL s'.heap X Vs vs))
  have fin' : ∀ vs s₁, (∃ V, RepL s₁.heap X V vs ∧ Kp F s s₁ ∧ Gd K.tc F s₁ (h V) R Q0 E) → wpAny (model K.prog K.w) A (call b.val vs) Q E s₁ := fun vs s₁ ⟨Vs, hvs, k, g2⟩ => fin Vs vs s₁ hvs k g2
  refine wpAny_Call_NameR (builtin_load GK x.es x.pi.st q1 m1 m2 ?_)
  have key : ∀ v : Value, (∃ id, v = .builtin id) ∨ (∃ T, v = .type T) → (∀ vs s₁, (∃ V, RepL s₁.heap X V vs ∧ Kp F s s₁ ∧ Gd K.tc F s₁ (h V) R Q0 E) → wpAny (model K.prog K.w) A (call v vs) Q E s₁) → wpAny (model K.prog K.w) A (callWith pos v [] (backTo pos (starEach as env)) []) Q E s := by
    rintro v (⟨id, rfl⟩ | ⟨T, rfl⟩) fin'
    · exact Calls.callWith_builtin (plain_any hp) (evalArgs_any (all_plain hp) (wpAny_mono ar (fun vs s₁ h₁ => fin' vs s₁ h₁) fun _ _ e => e))
    · exact PySem.callWith_type (plain_any hp) (evalArgs_any (all_plain hp) (wpAny_mono ar (fun vs s₁ h₁ => fin' vs s₁ h₁) fun _ _ e => e))
  refine key b.val ?_ fin'
  cases b <;> first | exact .inl ⟨_, rfl⟩ | exact .inr ⟨_, rfl⟩

theorem SI_gen (HE : SE K G n) {C : Cx} {sc : Scope} {ρ : Rho} {t e : PySem.Expr} {A : Around} {env : Env} {X F : List Addr} {s : Shared} {Q : Value → Shared → Prop} {E : Value → Shared → Prop} (x : Ev K G C n sc ρ A env X F s)
    (g : Gd K.tc F s ((evE n C sc ρ e).bind fun v => ofO (listV v)) (SrcR K A t X s) Q E) : wpAny (model K.prog K.w) A (eval e env) (fun x s₁ => wpAny (model K.prog K.w) A (pyIter x) Q E s₁) E s := by
  refine wpAny_mono (HE C sc ρ e A env X F s _ E x (g.bind (R := fun V v s' => Rep s'.heap X V v))) (fun v s₁ h₁ => ?_) fun _ _ e => e
  obtain ⟨V, hv, k, g2⟩ := h₁
  obtain ⟨xs, hx, fin⟩ := g2.opt
  cases listV_some hx
  obtain ⟨l, vs, rfl, hlX, hl, hr⟩ := hv
  have P := (x.kp k).pi
  exact src_list P.ex P.hd P.hf hlX hl hr fun I fp wr It St s' k' S => fin _ _ (k'.mono (by simp)) ⟨I, fp, wr, It, St, rfl, S.from k⟩
theorem range_ok {C : Cx} {sc : Scope} {ρ : Rho} {t : PySem.Expr} {A : Around} {env : Env} {X F : List Addr} {s s₁ : Shared} {Q : Value → Shared → Prop} {E : Value → Shared → Prop} {Vs items : List PV} {vs : List Value} (x : Ev K G C n sc ρ A env X F s₁) (k : Kp F s s₁)
    (hvs : RepL s₁.heap X Vs vs) (e : rangeO Vs = some items) (fin : ∀ v s', Kp F s₁ s' → SrcR K A t X s items v s' → Q v s') : wpAny (model K.prog K.w) A (call (.type "range") vs) (fun x s₁ => wpAny (model K.prog K.w) A (pyIter x) Q E s₁) E s₁ := by
  have P := x.pi
  unfold rangeO at e
  split at e
  · rename_i b
    obtain ⟨_, _, rfl, ⟨tb, rfl⟩, hnil⟩ := hvs
    rw [show _ = [] from hnil]
    split at e
    · rename_i hb
      cases e
      refine call_range_1 ?_
      have k1 : Kp [] s₁ { s₁ with heap := s₁.heap.push { cls := .type "range", data := .fields #[.int 0 s₁.toks, .int b tb, .int 1 (s₁.toks + 1)] }, toks := s₁.toks + 1 + 1 } := Kp.of fun b o e => Heap.get?_push_of_some _ e
      have P1 := P.kp0 k1
      exact src_range P1.ex P1.hd P1.hf (IsRange.new ..) (by decide) hb fun I fp wr It St s' k' S => fin _ _ ((k1.trans k').mono (by simp)) ⟨I, fp, wr, It, St, rfl, (S.from k1).from k⟩
    · cases e
  · rename_i a b
    obtain ⟨_, _, rfl, ⟨ta, rfl⟩, ⟨_, _, rfl, ⟨tb, rfl⟩, hnil⟩⟩ := hvs
    rw [show _ = [] from hnil]
    split at e
    · rename_i hb
      cases e
      refine call_range_2 ?_
      have k1 : Kp [] s₁ { s₁ with heap := s₁.heap.push { cls := .type "range", data := .fields #[.int a ta, .int b tb, .int 1 s₁.toks] }, toks := s₁.toks + 1 } := Kp.of fun b o e => Heap.get?_push_of_some _ e
      have P1 := P.kp0 k1
      exact src_range P1.ex P1.hd P1.hf (IsRange.new ..) hb.1 hb.2 fun I fp wr It St s' k' S => fin _ _ ((k1.trans k').mono (by simp)) ⟨I, fp, wr, It, St, rfl, (S.from k1).from k⟩
    · cases e
  · cases e
theorem isTup_some {t : PySem.Expr} (h : isTup t = true) : ∃ elts k pos, t = .Tuple elts k pos := x25 (eq_of_beq h)
theorem it_ok {C : Cx} {sc : Scope} {ρ : Rho} {t : PySem.Expr} {A : Around} {env : Env} {X F : List Addr} {s s₁ : Shared} {Q : Value → Shared → Prop} {E : Value → Shared → Prop} {Vs items : List PV} {vs : List Value} {b : Blt} (x : Ev K G C n sc ρ A env X F s₁) (k : Kp F s s₁)
    (hvs : RepL s₁.heap X Vs vs) (e : itO (!C.hd && isTup t) b Vs = some items) (fin : ∀ v s', Kp F s₁ s' → SrcR K A t X s items v s' → Q v s') : wpAny (model K.prog K.w) A (call b.val vs) (fun x s₁ => wpAny (model K.prog K.w) A (pyIter x) Q E s₁) E s₁ := by
  cases b with
  | range => exact range_ok x k hvs e fin
  | enumerate =>
    obtain ⟨xs, h1, e1⟩ := Option.bind_eq_some_iff.mp e
    obtain ⟨l, ws, rfl, hlX, hl, hr⟩ := list1_ok h1 hvs
    cases hc : (!C.hd && isTup t) with
    | false => rw [hc] at e1; cases e1
    | true =>
      rw [hc] at e1
      cases e1
      rw [Bool.and_eq_true, Bool.not_eq_true'] at hc
      obtain ⟨elts, kk, pp, rfl⟩ := isTup_some hc.2
      exact src_enum x.pi.ex (x.cn.hh hc.1) hlX hl hr fun I fp wr It St s' k' S => fin _ _ (k'.mono (by simp)) ⟨I, fp, wr, It, St, rfl, S.from k⟩
  | _ => cases e
/-- the forms of what a loop draws from -/
inductive IForm : PySem.Expr → Prop
  | call (f fp as p) : IForm (.Call (.Name f fp) as [] p)
  | val (e) (h : ∀ n C sc ρ t, evI (n + 1) C sc ρ t e = (evE n C sc ρ e).bind fun v => ofO (listV v)) : IForm e
theorem iform (e : PySem.Expr) : IForm e ∨ ∀ n C sc ρ t, evI (n + 1) C sc ρ t e = .stuck := by
  cases e with
  | Call f as kws p =>
    cases f with
    | Name y yp =>
      cases kws with
      | nil => exact .inl (.call y yp as p)
      | cons _ _ => exact .inl (.val _ fun _ _ _ _ _ => rfl)
    | _ => exact .inl (.val _ fun _ _ _ _ _ => rfl)
  | Set _ _ _ => exact .inr fun _ _ _ _ _ => rfl
  | _ => exact .inl (.val _ fun _ _ _ _ _ => rfl)
theorem SI_step (GK : GOK K G) (HE : SE K G n) : SI K G (n + 1) := by
  intro C sc ρ t e A env X F s Q E x g
  have x' := x.down (Nat.le_succ n)
  rcases iform e with h | h
  · cases h with
    | call f fp as p =>
      have g1 : Gd K.tc F s (if isG C.G sc f && isIt f && as.all plainArg then (mapR (evE n C sc ρ) as).bind fun vs => itE (!C.hd && isTup t) f vs else .stuck) (SrcR K A t X s) Q E := g
      cases hc : (isG C.G sc f && isIt f && as.all plainArg) with
      | false => rw [hc] at g1; exact absurd rfl g1.ns
      | true =>
        rw [hc, if_pos rfl] at g1
        rw [Bool.and_eq_true, Bool.and_eq_true] at hc
        have hI : (bltOf f).any (fun b => !b.fn) = true := hc.1.2
        cases hb : bltOf f with
        | none => rw [hb] at hI; cases hI
        | some b =>
          refine blt_call GK HE x' hc.1.1 hb hc.2 g1 fun Vs vs s₁ hvs k g2 => ?_
          have g3 : Gd K.tc F s₁ (ofO ((bltOf f).bind fun b => itO (!C.hd && isTup t) b Vs)) (SrcR K A t X s) Q E := g2
          rw [hb] at g3
          obtain ⟨items, hi, fin⟩ := g3.opt
          exact it_ok (x'.kp k) k hvs hi fin
    | val e h => exact SI_gen HE x' (g.eq (h n C sc ρ t))
  · exact absurd (h n C sc ρ t) g.ns
end
end Mine
end
section
namespace Mine
open PySem PySem.W PyProof.Rows

theorem noTie_ne {α : Type} {r : Res α} : r.noTie ≠ .tie := by cases r <;> intro q <;> cases q
theorem bind_ne_tie {α β : Type} {r : Res α} {f : α → Res β} (h1 : r ≠ .tie) (h2 : ∀ a, f a ≠ .tie) : r.bind f ≠ .tie := by
  cases r with
  | ok a => exact h2 a
  | tie => exact absurd rfl h1
  | stuck => intro q; cases q
theorem storeT_ne {hd : Bool} {sc : Scope} {t : PySem.Expr} {V : PV} {ρ : Rho} : storeT hd sc t V ρ ≠ .tie := ofO_ne
theorem lstO_some {ws : List PV} {V : PV} (h : lstO ws = some V) : ws.length ≤ 1000 ∧ V = .list ws := by
  unfold lstO at h
  split at h
  · rename_i hl; cases h; exact ⟨hl, rfl⟩
  · cases h
theorem flatR_ne {α β : Type} {f : α → Res (List β)} (h : ∀ a, f a ≠ .tie) : ∀ l, flatR f l ≠ .tie
  | [] => by intro q; cases q
  | a :: r => bind_ne_tie (h a) fun _ => bind_ne_tie (flatR_ne h r) fun _ => by intro q; cases q
theorem addE_ne {fT : Rho → Res Bool} {fV : Rho → Res PV} {ρ : Rho} : addE fT fV ρ ≠ .tie :=
  bind_ne_tie noTie_ne fun c => by
    cases c with
    | false => intro q; cases q
    | true => exact bind_ne_tie noTie_ne fun _ => by intro q; cases q

theorem Gd.bind' {α β γ δ : Type} {tc : Addr} {F : List Addr} {s : Shared} {r : Res α} {f : α → Res γ} {R : α → β → Shared → Prop} {R2 : γ → δ → Shared → Prop} {Q : δ → Shared → Prop} {E : Value → Shared → Prop}
    (g : Gd tc F s (r.bind f) R2 Q E) : Gd tc F s r R (fun v s' => ∃ V, R V v s' ∧ Kp F s s' ∧ Gd tc F s' (f V) R2 Q E ∧ r = .ok V) E :=
  ⟨g.bind (R := R).ns, fun V q v s' k hR => let ⟨V', hR', k', g'⟩ := g.bind (R := fun V' v s' => V' = V ∧ R V' v s').ok V q v s' k ⟨rfl, hR⟩; ⟨V, hR, k, hR'.1 ▸ g', q⟩, g.bind (R := R).tie⟩

section
variable {K : Kt} {G : GL} {n : Nat}

theorem Ev.inner {C : Cx} {sc sc' : Scope} {ρ ρ' : Rho} {A : Around} {env cenv : Env} {X X' F : List Addr} {s s' : Shared} (x : Ev K G C n sc ρ A env X F s) (es : EnvS cenv sc') (ee : EnvE cenv s'.heap X' ρ') (pi : PI K.base A cenv X' s'.heap) :
    Ev K G { C with pure := true } n sc' ρ' A cenv X' [] s' :=
  ⟨x.g, es, ⟨x.cn.hh, x.cn.un, fun _ => rfl, fun q => (by cases q), fun q => (by cases q), fun b hb => (by cases hb), fun b hb => (by cases hb)⟩, ee, pi⟩

theorem pt_of (H : SFs K G n) {C : Cx} {sc sc' : Scope} {ρ : Rho} {A : Around} {env cenv : Env} {X F : List Addr} {s : Shared} {ifs : List PySem.Expr} (x : Ev K G C n sc ρ A env X F s) (es : EnvS cenv sc') :
    PT K.prog K.w K.base A cenv (fun ρ' => evFs n { C with pure := true } sc' ρ' ifs) (forIn ifs true fun c r => if r = true then do let ok ← isTrue c cenv (eval c cenv); pure (ForInStep.yield ok) else pure (ForInStep.yield r)) := by
  intro X' ρ' c s' Q E hf hE hP hQ
  dsimp only at hf
  refine H _ _ ρ' ifs A cenv X' [] s' Q E (x.inner es hE hP) ⟨?_, fun V q v s'' k h => ?_, fun q => ?_⟩
  · rw [hf]; intro q; cases q
  · rw [hf] at q; cases q
    subst h
    exact hQ s'' k
  · rw [hf] at q; cases q
theorem pe_of (H : SE K G n) {C : Cx} {sc sc' : Scope} {ρ : Rho} {A : Around} {env cenv : Env} {X F : List Addr} {s : Shared} {e : PySem.Expr} (x : Ev K G C n sc ρ A env X F s) (es : EnvS cenv sc') :
    PE K.prog K.w K.base A cenv (fun ρ' => evE n { C with pure := true } sc' ρ' e) (eval e cenv) := by
  intro X' ρ' c s' Q E hf hE hP hQ
  dsimp only at hf
  refine H _ _ ρ' e A cenv X' [] s' Q E (x.inner es hE hP) ⟨?_, fun V q v s'' k h => ?_, fun q => ?_⟩
  · rw [hf]; intro q; cases q
  · rw [hf] at q; cases q
    exact hQ v s'' k h
  · rw [hf] at q; cases q
theorem pi_of (H : SI K G n) {C : Cx} {sc sc' : Scope} {ρ : Rho} {A : Around} {env cenv : Env} {X F : List Addr} {s : Shared} {t e : PySem.Expr} (x : Ev K G C n sc ρ A env X F s) (es : EnvS cenv sc') :
    PIt K.prog K.w K.base A cenv t (fun ρ' => evI n { C with pure := true } sc' ρ' t e) (eval e cenv) := by
  intro X' ρ' c s' Q E hf hE hP hQ
  dsimp only at hf
  refine H _ _ ρ' t e A cenv X' [] s' Q E (x.inner es hE hP) ⟨?_, fun V q v s'' k h => ?_, fun q => ?_⟩
  · rw [hf]; intro q; cases q
  · rw [hf] at q; cases q
    obtain ⟨I, fp, wr, It, St, rfl, S⟩ := h
    exact hQ I fp wr It St s'' k S
  · rw [hf] at q; cases q

theorem folded_of {e : PySem.Expr} (h : noSet e = true) (env : Env) (x : Value) : foldedSetIterable e env x = pure x := by
  cases e with
  | Set _ _ _ => exact Bool.noConfusion (show false = true from h)
  | _ => rfl
theorem noSet_of {C : Cx} {sc : Scope} {ρ : Rho} {t e : PySem.Expr} (h : evI n C sc ρ t e ≠ .stuck) : noSet e = true := by
  cases n with
  | zero => exact absurd rfl h
  | succ n =>
    cases q : noSet e with
    | true => rfl
    | false =>
      refine absurd ?_ h
      show (if noSet e = true then _ else _) = _
      rw [q]; rfl

/-- how a comprehension's block ends -/
theorem comp_end {A : Around} {X F : List Addr} {s s' : Shared} {ws : List PV} {D Cc : Addr} {Q : Value → Shared → Prop} {E : Value → Shared → Prop} (k : Kp F s s') (hr : Rep s'.heap X (.list ws) (.ref D))
    (hn : ∃ m, s'.heap.Ns Cc m) (hC : s.heap.get? Cc = none) (hDC : D ≠ Cc) (hDL : DL s'.heap D) (hQ : ∀ s'', Kp F s s'' → Rep s''.heap X (.list ws) (.ref D) → DL s''.heap D → Q (.ref D) s'') :
    compPost (model K.prog K.w) A E none Q (.ref D) Cc (.ok .next) s' := by
  obtain ⟨m, hm⟩ := hn
  refine ⟨m, hm, fun h' hs => hQ _ ?_ ?_ (let ⟨o, ho, hd⟩ := hDL; ⟨o, (hs.2 D hDC).trans ho, hd⟩)⟩
  · exact k.kw_fresh (X := [Cc]) (KW.of (tk := s'.toks) fun b o hb e => (hs.2 b (fun q => hb (List.mem_singleton.mpr q))).trans e) fun b hb => by rw [List.mem_singleton.mp hb]; exact hC
  · refine Rep.sim (simT_of_but hs (fun o ho xs nn => ?_) X) _ _ hr
    obtain ⟨o', es, ep, ho', hd, _⟩ := hm
    rw [ho] at ho'; cases ho'
    rw [hd]; intro q; cases q

noncomputable def nm1 (scope : Scope) : Prop := ∀ x ∈ scope.names, x.2 = NameKind.local → scope.names.lookup x.1 = some .local
theorem nm1_of {scope : Scope} (h : (scope.names.map (·.1)).Nodup) : nm1 scope := fun x hx hl => by
  obtain ⟨a, b⟩ := x
  have hl' : b = .local := hl
  subst hl'
  exact lookup_eq_of_mem h hx

theorem SE_comp1g (HE : SE K G n) (HF : SFs K G n) (HI : SI K G n) {C : Cx} {sc scope : Scope} {ρ : Rho} {t it elt : PySem.Expr} {ifs : List PySem.Expr} {pos : Pos} {A : Around} {env : Env} {X F : List Addr} {s : Shared} {Q : Value → Shared → Prop} {E : Value → Shared → Prop} {RX : PV → Value → Shared → Prop} {Q0 : Value → Shared → Prop} {use : Option (Value → Sem Unit)}
    (x : Ev K G C (n + 1) sc ρ A env X F s) (g : Gd K.tc F s (evE (n + 1) C sc ρ (.ListComp elt [⟨t, it, ifs, 0⟩] scope pos)) RX Q0 E)
    (hpost : ∀ ws D Cc s', evE (n + 1) C sc ρ (.ListComp elt [⟨t, it, ifs, 0⟩] scope pos) = .ok (.list ws) → Kp F s s' → Rep s'.heap X (.list ws) (.ref D) → s.heap.get? D = none → s.heap.get? Cc = none → (∃ m, s'.heap.Ns Cc m) → D ≠ Cc → DL s'.heap D →
      compPost (model K.prog K.w) A E use Q (.ref D) Cc (.ok .next) s') :
    wpAny (model K.prog K.w) A (comprehension (.ListComp elt [⟨t, it, ifs, 0⟩] scope pos) scope env (firstIterPos [⟨t, it, ifs, 0⟩] pos) (newList []) (firstAsync [⟨t, it, ifs, 0⟩]) (firstIter [⟨t, it, ifs, 0⟩] env) use) Q E s := by
  have x' := x.down (Nat.le_succ n)
  have g1 : Gd K.tc F s (if compOK scope sc then (evI n C sc ρ t it).bind fun items =>
      (flatR (fun v => (storeT C.hd scope t v (inner scope ρ)).bind (addE (fun ρ' => evFs n { C with pure := true } (relab scope sc) ρ' ifs) fun ρ' => evE n { C with pure := true } (relab scope sc) ρ' elt)) items).bind fun ws =>
        ofO (lstO ws)
      else .stuck) RX Q0 E := g
  cases hc : compOK scope sc with
  | false => rw [hc] at g1; exact absurd rfl g1.ns
  | true =>
    rw [hc, if_pos rfl] at g1
    have hsc := hc
    unfold compOK at hsc
    rw [Bool.and_eq_true] at hsc
    obtain ⟨hkind, _, _, hnd⟩ := scOK_nodup hsc.1
    have g2 := g1.bind' (R := SrcR K A t X s)
    have hns := noSet_of g2.ns
    refine wpAny_comprehension_free (use := use) rfl (fun y => folded_of hns env y) (closureFor_eq (compEnv_free x.es hc)) hkind (nm1_of hnd) ?_
    refine wpAny_mono (HI C sc ρ t it A env X F s _ E x' (g2)) (fun _ _ h => wpAny_mono h (fun iv s₂ h₂ => ?_) fun _ _ e => e) fun _ _ e => e
    obtain ⟨items, ⟨I, fp, wr, It, St, rfl, S⟩, k, g3, hit⟩ := h₂
    cases hres : flatR (fun v => (storeT C.hd scope t v (inner scope ρ)).bind (addE (fun ρ' => evFs n { C with pure := true } (relab scope sc) ρ' ifs) fun ρ' => evE n { C with pure := true } (relab scope sc) ρ' elt)) items with
    | ok ws =>
      rw [hres] at g3
      have g4 : Gd K.tc F s₂ (ofO (lstO ws)) RX Q0 E := g3
      obtain ⟨V, hV, _⟩ := g4.opt
      obtain ⟨hl, rfl⟩ := lstO_some hV
      · skip
        refine comp1_core (base := K.base) x.es hc x.cn.hh S k x.cn.fb x.pi x.ee (fun cenv es => pt_of HF x' es) (fun cenv es => pe_of HE x' es) hres hl fun D Cc s' kw hr hn hCn hDn hDC hDL => ?_
        refine hpost ws D Cc s' ?_ (k.kw_fresh kw S.new) hr (k.none_of hDn) (k.none_of hCn) hn hDC hDL
        show (if compOK scope sc then (evI n C sc ρ t it).bind _ else _) = _
        rw [hc, if_pos rfl, hit]
        show (flatR (fun v => (storeT C.hd scope t v (inner scope ρ)).bind (addE (fun ρ' => evFs n { C with pure := true } (relab scope sc) ρ' ifs) fun ρ' => evE n { C with pure := true } (relab scope sc) ρ' elt)) items).bind _ = _
        rw [hres]
        exact congrArg ofO hV
    | tie => exact absurd hres (flatR_ne (fun v => bind_ne_tie storeT_ne fun _ => addE_ne) items)
    | stuck => rw [hres] at g3; exact absurd rfl g3.ns

end
end Mine
end
section
namespace Mine
open PySem PySem.W PyProof.Rows

section
variable {K : Kt} {G : GL} {n : Nat}

theorem SE_comp2g (HE : SE K G n) (HF : SFs K G n) (HI : SI K G n) {C : Cx} {sc scope : Scope} {ρ : Rho} {t it t2 it2 elt : PySem.Expr} {ifs : List PySem.Expr} {pos : Pos} {A : Around} {env : Env} {X F : List Addr} {s : Shared} {Q : Value → Shared → Prop} {E : Value → Shared → Prop} {RX : PV → Value → Shared → Prop} {Q0 : Value → Shared → Prop} {use : Option (Value → Sem Unit)}
    (x : Ev K G C (n + 1) sc ρ A env X F s) (g : Gd K.tc F s (evE (n + 1) C sc ρ (.ListComp elt [⟨t, it, [], 0⟩, ⟨t2, it2, ifs, 0⟩] scope pos)) RX Q0 E)
    (hpost : ∀ ws D Cc s', evE (n + 1) C sc ρ (.ListComp elt [⟨t, it, [], 0⟩, ⟨t2, it2, ifs, 0⟩] scope pos) = .ok (.list ws) → Kp F s s' → Rep s'.heap X (.list ws) (.ref D) → s.heap.get? D = none → s.heap.get? Cc = none → (∃ m, s'.heap.Ns Cc m) → D ≠ Cc → DL s'.heap D →
      compPost (model K.prog K.w) A E use Q (.ref D) Cc (.ok .next) s') :
    wpAny (model K.prog K.w) A (comprehension (.ListComp elt [⟨t, it, [], 0⟩, ⟨t2, it2, ifs, 0⟩] scope pos) scope env (firstIterPos [⟨t, it, [], 0⟩, ⟨t2, it2, ifs, 0⟩] pos) (newList []) (firstAsync [⟨t, it, [], 0⟩, ⟨t2, it2, ifs, 0⟩]) (firstIter [⟨t, it, [], 0⟩, ⟨t2, it2, ifs, 0⟩] env) use) Q E s := by
  have x' := x.down (Nat.le_succ n)
  have g1 : Gd K.tc F s (if compOK scope sc && noSet it2 then (evI n C sc ρ t it).bind fun items =>
      (flatR (fun v => (storeT C.hd scope t v (inner scope ρ)).bind fun ρ' => (evI n { C with pure := true } (relab scope sc) ρ' t2 it2).noTie.bind fun items2 =>
        flatR (fun v2 => (storeT C.hd scope t2 v2 ρ').bind (addE (fun ρ' => evFs n { C with pure := true } (relab scope sc) ρ' ifs) fun ρ' => evE n { C with pure := true } (relab scope sc) ρ' elt)) items2) items).bind fun ws =>
        ofO (lstO ws)
      else .stuck) RX Q0 E := g
  cases hc : (compOK scope sc && noSet it2) with
  | false => rw [hc] at g1; exact absurd rfl g1.ns
  | true =>
    rw [hc, if_pos rfl] at g1
    rw [Bool.and_eq_true] at hc
    obtain ⟨hc, hs2⟩ := hc
    have hsc := hc
    unfold compOK at hsc
    rw [Bool.and_eq_true] at hsc
    obtain ⟨hkind, _, _, hnd⟩ := scOK_nodup hsc.1
    have g2 := g1.bind' (R := SrcR K A t X s)
    have hns := noSet_of g2.ns
    refine wpAny_comprehension_free (use := use) rfl (fun y => folded_of hns env y) (closureFor_eq (compEnv_free x.es hc)) hkind (nm1_of hnd) ?_
    refine wpAny_mono (HI C sc ρ t it A env X F s _ E x' (g2)) (fun _ _ h => wpAny_mono h (fun iv s₂ h₂ => ?_) fun _ _ e => e) fun _ _ e => e
    obtain ⟨items, ⟨I, fp, wr, It, St, rfl, S⟩, k, g3, hit⟩ := h₂
    cases hres : flatR (fun v => (storeT C.hd scope t v (inner scope ρ)).bind fun ρ' => (evI n { C with pure := true } (relab scope sc) ρ' t2 it2).noTie.bind fun items2 =>
        flatR (fun v2 => (storeT C.hd scope t2 v2 ρ').bind (addE (fun ρ' => evFs n { C with pure := true } (relab scope sc) ρ' ifs) fun ρ' => evE n { C with pure := true } (relab scope sc) ρ' elt)) items2) items with
    | ok ws =>
      rw [hres] at g3
      have g4 : Gd K.tc F s₂ (ofO (lstO ws)) RX Q0 E := g3
      obtain ⟨V, hV, _⟩ := g4.opt
      obtain ⟨hl, rfl⟩ := lstO_some hV
      · skip
        refine comp2_core (base := K.base) (fI := fun ρ' => evI n { C with pure := true } (relab scope sc) ρ' t2 it2) x.es hc x.cn.hh S k x.cn.fb x.pi x.ee (fun cenv es => pi_of HI x' es) (fun cenv y => folded_of hs2 cenv y) (fun cenv es => pt_of HF x' es) (fun cenv es => pe_of HE x' es) hres hl fun D Cc s' kw hr hn hCn hDn hDC hDL => ?_
        refine hpost ws D Cc s' ?_ (k.kw_fresh kw S.new) hr (k.none_of hDn) (k.none_of hCn) hn hDC hDL
        show (if compOK scope sc && noSet it2 then (evI n C sc ρ t it).bind _ else _) = _
        rw [hc, hs2, Bool.and_true, if_pos rfl, hit]
        show (flatR (fun v => (storeT C.hd scope t v (inner scope ρ)).bind fun ρ' => (evI n { C with pure := true } (relab scope sc) ρ' t2 it2).noTie.bind fun items2 => flatR (fun v2 => (storeT C.hd scope t2 v2 ρ').bind (addE (fun ρ' => evFs n { C with pure := true } (relab scope sc) ρ' ifs) fun ρ' => evE n { C with pure := true } (relab scope sc) ρ' elt)) items2) items).bind _ = _
        rw [hres]
        exact congrArg ofO hV
    | tie => exact absurd hres (flatR_ne (fun v => bind_ne_tie storeT_ne fun _ => bind_ne_tie noTie_ne fun _ => flatR_ne (fun v => bind_ne_tie storeT_ne fun _ => addE_ne) _) items)
    | stuck => rw [hres] at g3; exact absurd rfl g3.ns

theorem CnC.of {C : Cx} {sc : Scope} {ρ : Rho} {A : Around} {env : Env} {X F : List Addr} {s : Shared} (x : Ev K G C n sc ρ A env X F s) (hp : C.pure = false) : CnC K C A n X F s := by
  obtain ⟨outer, h1, h2, h3⟩ := (x.cn.fr hp).fr
  exact ⟨x.cn.hh, x.cn.un, x.cn.dp hp, ⟨_, h1, h2, h3⟩, x.cn.fb, x.cn.fd, x.pi.st, x.pi.hd, x.pi.hf, x.pi.ex, x.pi.nb⟩

theorem SE_call (GK : GOK K G) (HE : SE K G n) (HC : SC K G n) {C : Cx} {sc : Scope} {ρ : Rho} {f : Str} {fp pos : Pos} {as : List PySem.Expr} {A : Around} {env : Env} {X F : List Addr} {s : Shared} {Q : Value → Shared → Prop} {E : Value → Shared → Prop}
    (x : Ev K G C (n + 1) sc ρ A env X F s) (g : Gd K.tc F s (evE (n + 1) C sc ρ (.Call (.Name f fp) as [] pos)) (fun V v s' => Rep s'.heap X V v) Q E) :
    wpAny (model K.prog K.w) A (eval (.Call (.Name f fp) as [] pos) env) Q E s := by
  have x' := x.down (Nat.le_succ n)
  have g1 : Gd K.tc F s (if isG C.G sc f then
        if isBlt f && as.all plainArg then (mapR (evE n C sc ρ) as).bind fun vs => builtinE C.hd f vs else .stuck
      else if C.pure then .stuck
      else if sc.names.lookup f == some NameKind.globalImplicit && (C.G.vals.lookup f).isNone then
        (match C.G.funs.lookup f with
        | some fd => (mapR (evE n C sc ρ) as).bind fun vs => callF n C fd vs
        | none => .stuck)
      else .stuck) (fun V v s' => Rep s'.heap X V v) Q E := g
  rw [x.g] at g1
  cases hG : isG G sc f with
  | true =>
    rw [hG, if_pos rfl] at g1
    cases hb : (isBlt f && as.all plainArg) with
    | false => rw [hb] at g1; exact absurd rfl g1.ns
    | true =>
      rw [hb, if_pos rfl] at g1
      rw [Bool.and_eq_true] at hb
      have hB : (bltOf f).any Blt.fn = true := hb.1
      cases hq : bltOf f with
      | none => rw [hq] at hB; cases hB
      | some b =>
        refine blt_call GK HE x' (x.g ▸ hG) hq hb.2 g1 fun Vs vs s₁ hvs k g2 => ?_
        have g3 : Gd K.tc F s₁ (ofO ((bltOf f).bind fun b => runB C.hd b Vs)) (fun V v s' => Rep s'.heap X V v) Q E := g2
        rw [hq] at g3
        obtain ⟨V, hr, fin⟩ := g3.opt
        have P := (x.kp k).pi
        exact builtin_ok P.ex P.hd x.cn.hh hr hvs fun v s' k' hv => fin v s' (k'.mono (by simp)) hv
  | false =>
    rw [hG] at g1
    cases hp : C.pure with
    | true => rw [hp] at g1; exact absurd rfl g1.ns
    | false =>
      rw [hp] at g1
      cases hc : (sc.names.lookup f == some NameKind.globalImplicit && (G.vals.lookup f).isNone) with
      | false => rw [hc] at g1; exact absurd rfl g1.ns
      | true =>
        rw [hc] at g1
        have g2 : Gd K.tc F s (match G.funs.lookup f with
          | some fd => (mapR (evE n C sc ρ) as).bind fun vs => callF n C fd vs
          | none => .stuck) (fun V v s' => Rep s'.heap X V v) Q E := g1
        rw [Bool.and_eq_true, beq_iff_eq, Option.isNone_iff_eq_none] at hc
        cases hf : G.funs.lookup f with
        | none => rw [hf] at g2; exact absurd rfl g2.ns
        | some fd =>
          rw [hf] at g2
          obtain ⟨a, m1, fo⟩ := GK.funs f fd hc.2 hf
          have fo' := fo
          obtain ⟨o, fdat, dvs, ho, hd, _⟩ := fo'
          refine wpAny_Call_NameR (global_load GK x.es x.pi.st hc.1 m1 (Calls.callWith_function (o := o) (fd := fdat) (evalArgs_any (fun e r q => ?_) (wpAny_mono (args_ok HE as s _ x' (g2.bind (R := fun Vs vs s' => RepL s'.heap X Vs vs))) (fun vs s₁ h₁ => ?_) fun _ _ e => e))))
          · subst q
            cases hpl : plainArg e with
            | true => rfl
            | false =>
              obtain ⟨y, p, rfl⟩ := plain_star hpl
              exact absurd (by cases n <;> rfl) g2.ns
          · obtain ⟨Vs, hvs, k, g3⟩ := h₁
            have x1 := x'.kp k
            refine ⟨⟨x1.pi.st _ _ ho, hd⟩, ?_⟩
            exact wpAny_call (HC C fd a Vs vs A X F s₁ Q E x.g hp fo hvs (CnC.of x1 hp) g3)
end
end Mine
end
section
namespace Mine
open PySem PySem.W PyProof.Rows

section
variable {K : Kt} {G : GL} {n : Nat}

theorem Gd.put {α β : Type} {tc : Addr} {F : List Addr} {s s' : Shared} {r : Res α} {R : α → β → Shared → Prop} {Q : β → Shared → Prop} {E : Value → Shared → Prop} {v : β} (V : α) (g : Gd tc F s r R Q E) (e : r = .ok V) (k : Kp [] s s') (h : R V v s') : Q v s' :=
  g.ok V e v s' (k.mono (by simp)) h

theorem SE_idx (HE : SE K G n) {C : Cx} {sc : Scope} {ρ : Rho} {v i : PySem.Expr} {pos : Pos} {A : Around} {env : Env} {X F : List Addr} {s : Shared} {Q : Value → Shared → Prop} {E : Value → Shared → Prop}
    (x : Ev K G C n sc ρ A env X F s) (g : Gd K.tc F s ((evE n C sc ρ v).bind fun a => (evE n C sc ρ i).bind fun k => ofO (idxV a k)) (fun V v s' => Rep s'.heap X V v) Q E) (hs : ∀ (o : Value) (k : Int) (t : Tok), subscripted i false o (.int k t) = operate [o, .int k t] (getItem o (.int k t))) :
    wpAny (model K.prog K.w) A (eval (.Subscript v i pos) env) Q E s := by
  refine Subscript_ (wpAny_mono (HE C sc ρ v A env X F s _ E x (g.bind (R := fun V v s' => Rep s'.heap X V v))) (fun va s₁ h₁ => ?_) fun _ _ e => e)
  obtain ⟨Va, ha, k, g2⟩ := h₁
  refine wpAny_mono (HE C sc ρ i A env X F s₁ _ E (x.kp k) (g2.bind (R := fun V v s' => Rep s'.heap X V v))) (fun vi s₂ h₂ => ?_) fun _ _ e => e
  obtain ⟨Vi, hi, k2, g3⟩ := h₂
  obtain ⟨V, hr, fin⟩ := g3.opt
  exact idx_ok hs (ha.kp k2) hi hr fun v hv => fin v _ (Kp.refl _ _) hv

theorem SE_list (HE : SE K G n) {C : Cx} {sc : Scope} {ρ : Rho} {es : List PySem.Expr} {p : Pos} {A : Around} {env : Env} {X F : List Addr} {s : Shared} {Q : Value → Shared → Prop} {E : Value → Shared → Prop} {RX : PV → Value → Shared → Prop}
    (x : Ev K G C (n + 1) sc ρ A env X F s) (g : Gd K.tc F s (evE (n + 1) C sc ρ (.List es p)) RX Q E) (hRX : ∀ ws D s'', Rep s''.heap X (.list ws) (.ref D) → s.heap.get? D = none → DL s''.heap D → RX (.list ws) (.ref D) s'') :
    wpAny (model K.prog K.w) A (eval (.List es p) env) Q E s := by
  have x' := x.down (Nat.le_succ n)
  have g1 : Gd K.tc F s ((mapR (evE n C sc ρ) es).bind fun vs => ofO (lstO vs)) RX Q E := g
  refine wpAny_List (wpAny_mono (args_ok HE es s _ x' (g1.bind (R := fun Vs vs s' => RepL s'.heap X Vs vs))) (fun vs s₁ h₁ => ?_) fun _ _ e => e)
  obtain ⟨Vs, hvs, k, g2⟩ := h₁
  obtain ⟨V, hV, fin⟩ := g2.opt
  obtain ⟨hl, rfl⟩ := lstO_some hV
  exact ⟨by rw [hvs.length]; exact Nat.le_trans hl sz_1000, fin _ _ (Kp.push _ _ _) (hRX _ _ _ (new_list (x.kp k).pi.ex hvs) (k.none_of (get_none_of_le (Nat.le_refl _))) ⟨_, Heap.get?_push_size _ rfl, rfl⟩)⟩

theorem repO_some {a b V : PV} (h : repO a b = some V) : ∃ j, b = .int j ∧ (0 ≤ j ∧ j ≤ 1000) ∧ V = .list (List.replicate j.toNat a) := by
  obtain ⟨j, hj, h1⟩ := Option.bind_eq_some_iff.mp h
  split at h1
  · rename_i hc; cases h1; exact ⟨j, intV_some hj, hc.2, rfl⟩
  · cases h1
theorem SE_mul (HE : SE K G n) {C : Cx} {sc : Scope} {ρ : Rho} {l r y : PySem.Expr} {op : Operator} {p : Pos} {A : Around} {env : Env} {X F : List Addr} {s : Shared} {Q : Value → Shared → Prop} {E : Value → Shared → Prop} {RX : PV → Value → Shared → Prop}
    (x : Ev K G C (n + 1) sc ρ A env X F s) (hm : mulForm l op = some y) (g : Gd K.tc F s (evE (n + 1) C sc ρ (.BinOp l op r p)) RX Q E) (hRX : ∀ ws D s'', Rep s''.heap X (.list ws) (.ref D) → s.heap.get? D = none → DL s''.heap D → RX (.list ws) (.ref D) s'') :
    wpAny (model K.prog K.w) A (eval (.BinOp l op r p) env) Q E s := by
  have x' := x.down (Nat.le_succ n)
  have g1 : Gd K.tc F s (match mulForm l op with
      | some x => (evE n C sc ρ x).bind fun a => (evE n C sc ρ r).bind fun b => ofO (repO a b)
      | none => (evE n C sc ρ l).bind fun a => (evE n C sc ρ r).bind fun b => binE op a b) RX Q E := g
  rw [hm] at g1
  obtain ⟨lp, rfl, rfl⟩ := mulForm_some hm
  have g1' := g1.bind (R := fun V v s' => Rep s'.heap X V v)
  have hst : starEach [y] env = (false, eval y env) :: starEach [] env := by
    cases hp : plainArg y with
    | true => exact star1 hp
    | false =>
      obtain ⟨z, p, rfl⟩ := plain_star hp
      exfalso; exact g1'.ns (by cases n <;> rfl)
  refine wpAny_BinOp (wpAny_List (wpAny_items_cons (wpAny_mono (HE C sc ρ y A env X F s _ E x' g1') (fun va s₁ h₁ => ?_) fun _ _ e => e) hst))
  obtain ⟨Va, ha, k, g2⟩ := h₁
  refine wpAny_items_nil ⟨by show 1 ≤ sizeLine; rw [sizeLine_eq]; decide, ?_⟩
  have k1 : Kp [] s₁ { s₁ with heap := s₁.heap.push { cls := .type "list", data := .seq [va].toArray } } := Kp.push _ _ _
  have g2' : Gd K.tc F { s₁ with heap := s₁.heap.push { cls := .type "list", data := .seq [va].toArray } } ((evE n C sc ρ r).bind fun b => ofO (repO Va b)) RX Q E :=
    ⟨g2.ns, fun V q v s' k' h => g2.ok V q v s' ((k1.mono (by simp)).trans k') h, fun q e s' t => g2.tie q e s' (t.from (k1.mono (by simp)))⟩
  refine wpAny_mono (HE C sc ρ r A env X F _ _ E ((x'.kp k).kp0 k1) (g2'.bind (R := fun V v s' => Rep s'.heap X V v))) (fun b s₂ h₂ => ?_) fun _ _ e => e
  obtain ⟨Vb, hb, k2, g3⟩ := h₂
  obtain ⟨V, hV, fin⟩ := g3.opt
  obtain ⟨j, rfl, hc, rfl⟩ := repO_some hV
  obtain ⟨t, rfl⟩ := hb
  have hl2 : s₂.heap.IsList s₁.heap.objs.size #[va] := IsList.sim (X := []) (h := s₁.heap.push { cls := .type "list", data := .seq [va].toArray }) ⟨_, Heap.get?_push_size _ rfl, rfl, _, rfl⟩ (k2.simX []) (by simp)
  refine mul_ok (((x'.kp k).kp0 k1).kp k2).pi.ex hl2 ((ha.kp k1).kp k2) hc fun v s' k' hv hnew => ?_
  obtain ⟨D, ws', rfl, _⟩ := id hv
  exact fin _ _ (k'.mono (by simp)) (hRX _ _ _ hv (((k.trans (k1.mono (by simp))).trans k2).none_of (hnew D rfl).1) (hnew D rfl).2)

theorem SE_bin (HE : SE K G n) {C : Cx} {sc : Scope} {ρ : Rho} {l r : PySem.Expr} {op : Operator} {p : Pos} {A : Around} {env : Env} {X F : List Addr} {s : Shared} {Q : Value → Shared → Prop} {E : Value → Shared → Prop} (x : Ev K G C n sc ρ A env X F s)
    (g : Gd K.tc F s ((evE n C sc ρ l).bind fun a => (evE n C sc ρ r).bind fun b => ofO (binO op a b)) (fun V v s' => Rep s'.heap X V v) Q E) : wpAny (model K.prog K.w) A (eval (.BinOp l op r p) env) Q E s := by
  refine wpAny_BinOp (wpAny_mono (HE C sc ρ l A env X F s _ E x (g.bind (R := fun V v s' => Rep s'.heap X V v))) (fun a s₁ h₁ => ?_) fun _ _ e => e)
  obtain ⟨Va, ha, k, g2⟩ := h₁
  refine wpAny_mono (HE C sc ρ r A env X F s₁ _ E (x.kp k) (g2.bind (R := fun V v s' => Rep s'.heap X V v))) (fun b s₂ h₂ => ?_) fun _ _ e => e
  obtain ⟨Vb, hb, k2, g3⟩ := h₂
  obtain ⟨V, hr, fin⟩ := g3.opt
  exact bin_ok ((x.kp k).kp k2).pi.ex hr (ha.kp k2) hb fun v s' k' hv => fin v s' (k'.mono (by simp)) hv
theorem const_ok {A : Around} {env : Env} {c : Const} {kk p X F} {s : Shared} {Q : Value → Shared → Prop} {E : Value → Shared → Prop} {tc : Addr} (g : Gd tc F s (ofO (constO c)) (fun V v s' => Rep s'.heap X V v) Q E) : wpAny (model K.prog K.w) A (eval (.Constant c kk p) env) Q E s := by
  obtain ⟨V, hV, fin⟩ := g.opt
  cases c with
  | none => cases hV; exact wpAny_Constant_none (fin _ _ (Kp.refl _ _) rfl)
  | bool b => cases hV; exact wpAny_Constant_bool (fin _ _ (Kp.refl _ _) rfl)
  | int i => cases hV; exact wpAny_Constant_int (fin _ _ (Kp.tok _ _ _) ⟨_, rfl⟩)
  | str y => cases hV; exact wpAny_Constant_str (fin _ _ (Kp.tok _ _ _) ⟨_, rfl⟩)
  | _ => cases hV
/-- the forms of a value -/
inductive EForm : PySem.Expr → Prop
  | const (c k p) : EForm (.Constant c k p)
  | name (x p) : EForm (.Name x p)
  | bin (l op r p) : EForm (.BinOp l op r p)
  | neg (x p) : EForm (.UnaryOp .USub x p)
  | ife (t a b p) : EForm (.IfExp t a b p)
  | and2 (a b p) : EForm (.BoolOp .And [a, b] p)
  | cmp (l op r p) : EForm (.Compare l [op] [r] p)
  | list (es p) : EForm (.List es p)
  | tup (es k p) : EForm (.Tuple es k p)
  | slice (v lo up sp p) : EForm (.Subscript v (.Slice lo up none sp) p)
  | sub (v i p) (h : ∀ (o : Value) (k : Int) (t : Tok), subscripted i false o (.int k t) = operate [o, .int k t] (getItem o (.int k t))) (h2 : ∀ n C sc ρ, evE (n + 1) C sc ρ (.Subscript v i p) = (evE n C sc ρ v).bind fun a => (evE n C sc ρ i).bind fun k => ofO (idxV a k)) : EForm (.Subscript v i p)
  | comp (elt gens scope p) : EForm (.ListComp elt gens scope p)
  | call (f fp as p) : EForm (.Call (.Name f fp) as [] p)
theorem eform (e : PySem.Expr) : EForm e ∨ ∀ n C sc ρ, evE (n + 1) C sc ρ e = .stuck := by
  cases e with
  | Constant c k p => exact .inl (.const c k p)
  | Name y p => exact .inl (.name y p)
  | BinOp l op r p => exact .inl (.bin l op r p)
  | UnaryOp op y p =>
    cases op with
    | USub => exact .inl (.neg y p)
    | _ => exact .inr fun _ _ _ _ => rfl
  | IfExp t a b p => exact .inl (.ife t a b p)
  | BoolOp op vs p =>
    cases op with
    | Or => exact .inr fun _ _ _ _ => by rcases vs with _ | ⟨_, _ | ⟨_, _ | _⟩⟩ <;> rfl
    | And =>
      match vs with
      | [a, b] => exact .inl (.and2 a b p)
      | [] => exact .inr fun _ _ _ _ => rfl
      | [_] => exact .inr fun _ _ _ _ => rfl
      | _ :: _ :: _ :: _ => exact .inr fun _ _ _ _ => rfl
  | Compare l ops rs p =>
    match ops, rs with
    | [op], [r] => exact .inl (.cmp l op r p)
    | [], _ => exact .inr fun _ _ _ _ => rfl
    | [_], [] => exact .inr fun _ _ _ _ => rfl
    | [_], _ :: _ :: _ => exact .inr fun _ _ _ _ => rfl
    | _ :: _ :: _, _ => exact .inr fun _ _ _ _ => rfl
  | List es p => exact .inl (.list es p)
  | Tuple es k p => exact .inl (.tup es k p)
  | Subscript v i p =>
    cases i with
    | Slice lo up st sp =>
      cases st with
      | none => exact .inl (.slice v lo up sp p)
      | some st => exact .inr fun _ _ _ _ => rfl
    | _ => exact .inl (.sub _ _ _ (fun _ _ _ => rfl) fun _ _ _ _ => rfl)
  | ListComp elt gens scope p => exact .inl (.comp elt gens scope p)
  | Call f as kws p =>
    cases f with
    | Name f fp =>
      cases kws with
      | nil => exact .inl (.call f fp as p)
      | cons _ _ => exact .inr fun _ _ _ _ => rfl
    | _ => exact .inr fun _ _ _ _ => rfl
  | _ => exact .inr fun _ _ _ _ => rfl
theorem tupO_some {ws : List PV} {V : PV} (h : tupO ws = some V) : ws.length ≤ 1000 ∧ V = .tup ws := by
  unfold tupO at h
  split at h
  · rename_i hl; cases h; exact ⟨hl, rfl⟩
  · cases h
theorem SE_cmp (HE : SE K G n) {C : Cx} {sc : Scope} {ρ : Rho} {l r : PySem.Expr} {op : CmpOp} {p : Pos} {A : Around} {env : Env} {X F : List Addr} {s : Shared} {Q : Value → Shared → Prop} {E : Value → Shared → Prop} (x : Ev K G C n sc ρ A env X F s)
    (g : Gd K.tc F s (if noSet r then (evE n C sc ρ l).bind fun a => (evE n C sc ρ r).bind fun b => ofO ((cmpO op a b).map .bool) else .stuck) (fun V v s' => Rep s'.heap X V v) Q E) : wpAny (model K.prog K.w) A (eval (.Compare l [op] [r] p) env) Q E s := by
  cases hr : noSet r with
  | false => rw [hr] at g; exact absurd rfl g.ns
  | true =>
    rw [hr, if_pos rfl] at g
    refine wpAny_Compare1 (wpAny_mono (HE C sc ρ l A env X F s _ E x (g.bind (R := fun V v s' => Rep s'.heap X V v))) (fun a s₁ h₁ => ?_) fun _ _ e => e) (behind_false hr)
    obtain ⟨Va, ha, k, g2⟩ := h₁
    refine wpAny_mono (HE C sc ρ r A env X F s₁ _ E (x.kp k) (g2.bind (R := fun V v s' => Rep s'.heap X V v))) (fun b s₂ h₂ => ?_) fun _ _ e => e
    obtain ⟨Vb, hb, k2, g3⟩ := h₂
    obtain ⟨V, hV, fin⟩ := g3.opt
    obtain ⟨c, hc, rfl⟩ := Option.map_eq_some_iff.mp hV
    exact cmp_ok (test_cmp x) hc (ha.kp k2) hb (fin _ _ (Kp.refl _ _) rfl)
theorem SE_slice (HE : SE K G n) {C : Cx} {sc : Scope} {ρ : Rho} {v : PySem.Expr} {lo up : Option PySem.Expr} {sp p : Pos} {A : Around} {env : Env} {X F : List Addr} {s : Shared} {Q : Value → Shared → Prop} {E : Value → Shared → Prop} (x : Ev K G C n sc ρ A env X F s)
    (g : Gd K.tc F s ((ofO (sliceLit lo up)).bind fun q => (evE n C sc ρ v).bind fun a => ofO (sliceV q a)) (fun V v s' => Rep s'.heap X V v) Q E) : wpAny (model K.prog K.w) A (eval (.Subscript v (.Slice lo up none sp) p) env) Q E s := by
  obtain ⟨q, hq, g1⟩ := g.optb
  obtain ⟨i, h1, hq1⟩ := Option.bind_eq_some_iff.mp hq
  obtain ⟨j, h2, rfl⟩ := Option.map_eq_some_iff.mp hq1
  refine slice_ok (X := X) h1 h2 (wpAny_mono (HE C sc ρ v A env X F s _ E x (g1.bind (R := fun V v s' => Rep s'.heap X V v))) (fun va s₁ h₁ => ?_) fun _ _ e => e)
  obtain ⟨Va, ha, k, g2⟩ := h₁
  obtain ⟨V, hV, fin⟩ := g2.opt
  obtain ⟨xs, hx, hV1⟩ := Option.bind_eq_some_iff.mp hV
  cases listV_some hx
  split at hV1
  · rename_i hl
    cases hV1
    exact ⟨xs, ha, hl, (x.kp k).pi.ex, fun v s' k' hv => fin v s' (k'.mono (by simp)) hv⟩
  · cases hV1
theorem SE_step (GK : GOK K G) (HE : SE K G n) (HT : ST K G n) (HC : SC K G n) (HU : ∀ C sc ρ elt gens scope p A env X F s (Q : Value → Shared → Prop) E, Ev K G C (n + 1) sc ρ A env X F s → Gd K.tc F s (evE (n + 1) C sc ρ (.ListComp elt gens scope p)) (fun V v s' => Rep s'.heap X V v) Q E → wpAny (model K.prog K.w) A (eval (.ListComp elt gens scope p) env) Q E s) : SE K G (n + 1) := by
  intro C sc ρ e A env X F s Q E x g
  have x' := x.down (Nat.le_succ n)
  rcases eform e with h | h
  · cases h with
    | const c k p => exact const_ok g
    | name y p => exact name_ok GK x' g
    | bin l op r p =>
      cases hm : mulForm l op with
      | some y => exact SE_mul HE x hm g fun _ _ _ h _ _ => h
      | none =>
        have g1 : Gd K.tc F s (match mulForm l op with
          | some x => (evE n C sc ρ x).bind fun a => (evE n C sc ρ r).bind fun b => ofO (repO a b)
          | none => (evE n C sc ρ l).bind fun a => (evE n C sc ρ r).bind fun b => binE op a b) (fun V v s' => Rep s'.heap X V v) Q E := g
        rw [hm] at g1
        exact SE_bin HE x' g1
    | neg y p =>
      refine wpAny_UnaryOp (wpAny_mono (HE C sc ρ y A env X F s _ E x' (Gd.bind (R := fun V v s' => Rep s'.heap X V v) (f := fun a => ofO (negO a)) g)) (fun a s₁ h₁ => ?_) fun _ _ e => e)
      obtain ⟨Va, ha, k, g2⟩ := h₁
      obtain ⟨V, hV, fin⟩ := g2.opt
      obtain ⟨i, hi, rfl⟩ := Option.map_eq_some_iff.mp hV
      cases intV_some hi
      obtain ⟨t, rfl⟩ := ha
      exact PySem.P.neg_int (fin _ _ (Kp.tok _ _ _) ⟨_, rfl⟩)
    | ife t a b p =>
      refine wpAny_IfExp (wpAny_mono (HT C sc ρ t A env X F s _ E x' (Gd.bind (R := fun V v _ => v = V) (show Gd K.tc F s ((evT n C sc ρ t).bind fun c => if c then evE n C sc ρ a else evE n C sc ρ b) (fun V v s' => Rep s'.heap X V v) Q E from g))) (fun c s₁ h₁ => ?_) fun _ _ e => e)
      obtain ⟨V, rfl, k, g2⟩ := h₁
      cases c with
      | true => exact HE C sc ρ a A env X F s₁ Q E (x'.kp k) g2
      | false => exact HE C sc ρ b A env X F s₁ Q E (x'.kp k) g2
    | and2 a b p =>
      refine wpAny_And2 (wpAny_mono (HE C sc ρ a A env X F s _ E x' (Gd.bind (R := fun V v s' => Rep s'.heap X V v) (f := fun v => (ofO (boolV v)).bind fun c => if c then evE n C sc ρ b else .ok (.bool false)) g)) (fun v s₁ h₁ => ?_) fun _ _ e => e)
      obtain ⟨V, hv, k, g2⟩ := h₁
      obtain ⟨c, hc, g3⟩ := g2.optb
      cases boolV_some hc
      rw [show v = .bool c from hv]
      refine wpAny_truthy_bool ?_
      cases c with
      | true => exact HE C sc ρ b A env X F s₁ Q E (x'.kp k) g3
      | false => exact Gd.put (PV.bool false) g3 rfl (Kp.refl _ _) rfl
    | cmp l op r p => exact SE_cmp HE x' g
    | list es p => exact SE_list HE x g fun _ _ _ h _ _ => h
    | tup es kk p =>
      refine wpAny_Tuple (wpAny_mono (args_ok HE es s _ x' (Gd.bind (R := fun Vs vs s' => RepL s'.heap X Vs vs) (f := fun vs => ofO (tupO vs)) g)) (fun vs s₁ h₁ => ?_) fun _ _ e => e)
      obtain ⟨Vs, hvs, k, g2⟩ := h₁
      obtain ⟨V, hV, fin⟩ := g2.opt
      obtain ⟨hl, rfl⟩ := tupO_some hV
      refine ⟨by rw [hvs.length]; exact Nat.le_trans hl sz_1000, fin _ _ (Kp.push _ _ _) ?_⟩
      exact ⟨_, vs, rfl, not_old (x.kp k).pi.ex (Nat.le_refl _), ⟨_, Heap.get?_push_size _ rfl, rfl, _, rfl⟩, RepL.sim ((Kp.push (F := []) s₁ _).simX _).t _ _ hvs⟩
    | slice v lo up sp p => exact SE_slice HE x' g
    | sub v i p h1 h2 => exact SE_idx HE x' (g.eq (h2 n C sc ρ)) h1
    | comp elt gens scope p => exact HU C sc ρ elt gens scope p A env X F s Q E x g
    | call f fp as p => exact SE_call GK HE HC x g
  · exact absurd (h n C sc ρ) g.ns
end
end Mine
end
section
namespace Mine
open PySem PySem.W PyProof.Rows

theorem Hold.unique {env : Env} {h : Heap} {x : Str} {u v : Value} (a : Hold env h x u) (b : Hold env h x v) : u = v := by
  unfold Hold at a b
  split at a
  · rename_i hl
    rw [hl] at b
    obtain ⟨m, hm, e⟩ := a
    obtain ⟨m', hm', e'⟩ := b
    rw [ns_unique hm hm'] at e
    exact Option.some.inj (e.symm.trans e')
  · rename_i hl
    rw [hl] at b
    obtain ⟨c, hc, o, ho, hd⟩ := a
    obtain ⟨c', hc', o', ho', hd'⟩ := b
    rw [hc] at hc'; cases hc'
    rw [ho] at ho'; cases ho'
    rw [hd] at hd'; cases hd'; rfl
  · rename_i hl
    rw [hl] at b
    obtain ⟨c, hc, o, ho, hd⟩ := a
    obtain ⟨c', hc', o', ho', hd'⟩ := b
    rw [hc] at hc'; cases hc'
    rw [ho] at ho'; cases ho'
    rw [hd] at hd'; cases hd'; rfl
  · exact a.elim

/-- the frame: W may not be named by it, O are the lists that it alone holds -/
structure FE (env : Env) (h : Heap) (W O : List Addr) (ρ : Rho) : Prop where
  un : ∀ x V, ρ.lookup x = some (V, false) → ∃ v, Hold env h x v ∧ Rep h (W ++ O) V v
  ow : ∀ x V, ρ.lookup x = some (V, true) → ∃ a xs vs, V = .list xs ∧ xs.all PV.scalar = true ∧ Hold env h x (.ref a) ∧ a ∈ O ∧ a ∉ W ∧ h.IsList a (List.toArray vs) ∧ RepL h [] xs vs ∧ DL h a
  di : ∀ x y V V' a, x ≠ y → ρ.lookup x = some (V, true) → ρ.lookup y = some (V', true) → Hold env h x (.ref a) → Hold env h y (.ref a) → False
  cl : ∀ a ∈ O, ∃ o xs n, h.get? a = some o ∧ o.cls = .type "list" ∧ o.data = .seq xs n

theorem FE.ee {env : Env} {h : Heap} {W O : List Addr} {ρ : Rho} (f : FE env h W O ρ) : EnvE env h W ρ := fun x V o e => by
  cases o with
  | false =>
    obtain ⟨v, h1, h2⟩ := f.un x V e
    exact ⟨v, h1, Rep.less (fun a ha => List.mem_append_left _ ha) _ _ h2⟩
  | true =>
    obtain ⟨a, xs, vs, rfl, hs, h1, _, h3, h4, h5, _⟩ := f.ow x V e
    exact ⟨_, h1, a, vs, rfl, h3, h4, RepL.scalar hs h5⟩
theorem lookup_filter {p : Str → Bool} : ∀ {ρ : Rho} {x : Str}, (ρ.filter fun (y, _) => p y).lookup x = if p x = true then ρ.lookup x else none
  | [], x => by simp
  | (y, q) :: r, x => by
    rw [List.filter_cons]
    dsimp only
    by_cases hp : p y = true
    · rw [if_pos hp, List.lookup_cons, List.lookup_cons]
      cases hxy : x == y with
      | true => rw [beq_iff_eq] at hxy; subst hxy; rw [if_pos hp]
      | false => exact lookup_filter
    · rw [if_neg hp, List.lookup_cons, lookup_filter]
      cases hxy : x == y with
      | true => rw [beq_iff_eq] at hxy; subst hxy; rw [if_neg hp, if_neg hp]
      | false => rfl
theorem unowned_lookup {ρ : Rho} {x : Str} {V : PV} {o : Bool} (h : (unowned ρ).lookup x = some (V, o)) : o = false ∧ ρ.lookup x = some (V, false) := by
  unfold unowned at h
  have e := lookup_filter (p := fun y => match ρ.lookup y with | some (_, false) => true | _ => false) (ρ := ρ) (x := x)
  have h' := Eq.trans e.symm h
  split at h'
  · rename_i hp
    rw [if_pos rfl, hp] at h'
    cases h'
    exact ⟨rfl, hp⟩
  · rw [if_neg (by simp)] at h'; cases h'
theorem FE.eu {env : Env} {h : Heap} {W O : List Addr} {ρ : Rho} (f : FE env h W O ρ) : EnvE env h (W ++ O) (unowned ρ) := fun x V o e => by
  obtain ⟨rfl, h1⟩ := unowned_lookup e
  exact f.un x V h1

theorem DL.kp {F : List Addr} {s s' : Shared} {a : Addr} (d : DL s.heap a) (k : Kp F s s') : DL s'.heap a := let ⟨o, ho, hd⟩ := d; let ⟨_, h'⟩ := k.slot a o ho; ⟨_, h', hd⟩
theorem FE.kp {env : Env} {s s' : Shared} {W O F : List Addr} {ρ : Rho} (f : FE env s.heap W O ρ) (kk : Kp F s s') : FE env s'.heap W O ρ := by
  have k := kk.simX []
  refine ⟨fun x V e => ?_, fun x V e => ?_, fun x y V V' a hxy e1 e2 h1 h2 => ?_, fun a ha => ?_⟩
  · obtain ⟨v, h1, h2⟩ := f.un x V e
    exact ⟨v, h1.sim k, Rep.sim (SimX.t (k.mono (by simp))) _ _ h2⟩
  · obtain ⟨a, xs, vs, e1, hs, h1, h2, h3, h4, h5, h6⟩ := f.ow x V e
    exact ⟨a, xs, vs, e1, hs, h1.sim k, h2, h3, IsList.sim h4 k (by simp), RepL.sim (SimX.t k) _ _ h5, h6.kp kk⟩
  · obtain ⟨b, _, _, _, _, q1, _⟩ := f.ow x V e1
    obtain ⟨c, _, _, _, _, q2, _⟩ := f.ow y V' e2
    have r1 := (q1.sim k).unique h1
    have r2 := (q2.sim k).unique h2
    cases r1; cases r2
    exact f.di x y V V' a hxy e1 e2 q1 q2
  · obtain ⟨o, xs, n, h1, h2, h3⟩ := f.cl a ha
    obtain ⟨o', e1, e2, e3⟩ := k a o (by simp) h1
    exact ⟨o', xs, n, e1, e2.trans h2, e3.trans h3⟩

/-- what a stretch of statements leaves: those of X may change, those of F but for their slots -/
structure FK (F X : List Addr) (s s' : Shared) : Prop where
  same : ∃ h' tk, s' = { s with heap := h', toks := tk }
  keep : ∀ b o, b ∉ X → b ∉ F → s.heap.get? b = some o → s'.heap.get? b = some o
  slot : ∀ b o, b ∉ X → s.heap.get? b = some o → ∃ sl, s'.heap.get? b = some { o with slots := sl }
theorem FK.of_kp {F X : List Addr} {s s' : Shared} (k : Kp F s s') : FK F X s s' := ⟨k.same, fun b o _ hb e => k.keep b o hb e, fun b o _ e => k.slot b o e⟩
theorem FK.of_kw {F X : List Addr} {s s' : Shared} (k : KW X s s') : FK F X s s' := ⟨k.same, fun b o hb _ e => k.keep b o hb e, fun b o hb e => ⟨o.slots, k.keep b o hb e⟩⟩
theorem FK.next {F L O O' : List Addr} {s₁ s₂ s₃ : Shared} (a : FK F (L ++ O) s₁ s₂) (b : FK F (L ++ O') s₂ s₃) (h : ∀ a ∈ O', a ∈ O ∨ s₁.heap.get? a = none) : FK F (L ++ O) s₁ s₃ := by
  obtain ⟨h1, t1, rfl⟩ := a.same
  obtain ⟨h2, t2, rfl⟩ := b.same
  have off : ∀ c o, c ∉ L ++ O → s₁.heap.get? c = some o → c ∉ L ++ O' := fun c o hc e q => by
    rcases List.mem_append.mp q with q | q
    · exact hc (List.mem_append_left _ q)
    · rcases h c q with q | q
      · exact hc (List.mem_append_right _ q)
      · rw [q] at e; cases e
  refine ⟨⟨h2, t2, rfl⟩, fun c o hc hf e => b.keep c o (off c o hc e) hf (a.keep c o hc hf e), fun c o hc e => ?_⟩
  obtain ⟨sl, e'⟩ := a.slot c o hc e
  obtain ⟨sl', e''⟩ := b.slot c _ (off c o hc e) e'
  exact ⟨sl', e''⟩
theorem FK.kp {F X : List Addr} {s₀ s s' : Shared} (b : FK F X s s') (a : Kp F s₀ s) (h : ∀ c ∈ X, s₀.heap.get? c = none) : Kp F s₀ s' := by
  obtain ⟨h1, t1, rfl⟩ := a.same
  obtain ⟨h2, t2, rfl⟩ := b.same
  have off : ∀ c o, s₀.heap.get? c = some o → c ∉ X := fun c o e q => by rw [h c q] at e; cases e
  refine ⟨⟨h2, t2, rfl⟩, fun c o hc e => b.keep c o (off c o e) hc (a.keep c o hc e), fun c o e => ?_⟩
  obtain ⟨sl, e'⟩ := a.slot c o e
  obtain ⟨sl', e''⟩ := b.slot c _ (off c o e) e'
  exact ⟨sl', e''⟩

/-- a statement's state -/
structure Sv (K : Kt) (G : GL) (C : Cx) (n : Nat) (sc : Scope) (ρ : Rho) (A : Around) (env : Env) (W O F : List Addr) (sF s : Shared) : Prop where
  g : C.G = G
  np : C.pure = false
  es : EnvS env sc
  ls : LayS env sc
  lay : Lay env sc s.heap
  hh : C.hd = false → A.handled = none
  un' : A.units + 4 * n + 8 < cLine
  dp : A.depth + n < recursionLimit
  fo : ∃ outer, A.frames = some (env :: outer) ∧ F = env.locals :: outer.filterMap (·.frame) ∧ sF.heap.FunFrames NoHeap outer ∧ ∀ b ∈ outer.filterMap (·.frame), ∃ o es ep, sF.heap.get? b = some o ∧ o.data = .dict es ep
  fl : env.frame = some env.locals
  fb : ∀ b ∈ F, K.base.get? b = none
  fe : FE env s.heap W O ρ
  pi : PI K.base A env (W ++ O) s.heap
  kF : Kp F sF s
  fr : ∀ b ∈ ownL env sc ++ O, sF.heap.get? b = none
  nd : (sc.names.map (·.1)).Nodup

theorem Sv.frOK {K : Kt} {G : GL} {C : Cx} {n : Nat} {sc : Scope} {ρ : Rho} {A : Around} {env : Env} {W O F : List Addr} {sF s : Shared} (x : Sv K G C n sc ρ A env W O F sF s) : FrOK A env F s.heap := by
  obtain ⟨outer, h1, h2, h3, _⟩ := x.fo
  refine ⟨⟨outer, h1, ?_, ?_⟩, ⟨_, x.fl⟩⟩
  · rw [h2, List.filterMap_cons, x.fl]
  · refine ⟨?_, ?_, h3.of_keeps fun b o e _ => ?_⟩
    · rw [x.es.scope, x.es.kind]; decide
    · obtain ⟨m, o, es, ep, ho, hd, _⟩ := x.lay.ns
      exact ⟨_, o, x.fl, by simp [NoHeap, Heap.get?], ho, fun vs q => by rw [hd] at q; cases q⟩
    · obtain ⟨sl, e'⟩ := x.kF.slot b o e
      exact ⟨_, e', rfl⟩
theorem Sv.fdd {K : Kt} {G : GL} {C : Cx} {n : Nat} {sc : Scope} {ρ : Rho} {A : Around} {env : Env} {W O F : List Addr} {sF s : Shared} (x : Sv K G C n sc ρ A env W O F sF s) : ∀ b ∈ F, ∃ o es ep, s.heap.get? b = some o ∧ o.data = .dict es ep := fun b hb => by
  obtain ⟨outer, _, h2, _, h4⟩ := x.fo
  rw [h2] at hb
  rcases List.mem_cons.mp hb with rfl | hb
  · obtain ⟨m, o, es, ep, ho, hd, _⟩ := x.lay.ns
    exact ⟨o, es, ep, ho, hd⟩
  · obtain ⟨o, es, ep, q1, q2⟩ := h4 b hb
    obtain ⟨sl, q3⟩ := x.kF.slot b o q1
    exact ⟨_, es, ep, q3, q2⟩
theorem Sv.cn {K : Kt} {G : GL} {C : Cx} {n : Nat} {sc : Scope} {ρ : Rho} {A : Around} {env : Env} {W O F : List Addr} {sF s : Shared} (x : Sv K G C n sc ρ A env W O F sF s) : Cn K C A env n F s.heap :=
  ⟨x.hh, x.un', fun q => (by rw [x.np] at q; cases q), fun _ => x.dp, fun _ => x.frOK, x.fb, x.fdd⟩
theorem Sv.ev {K : Kt} {G : GL} {C : Cx} {n : Nat} {sc : Scope} {ρ : Rho} {A : Around} {env : Env} {W O F : List Addr} {sF s : Shared} (x : Sv K G C n sc ρ A env W O F sF s) : Ev K G C n sc ρ A env W F s :=
  ⟨x.g, x.es, x.cn, x.fe.ee, x.pi.less fun a ha => List.mem_append_left _ ha⟩
theorem Sv.eu {K : Kt} {G : GL} {C : Cx} {n : Nat} {sc : Scope} {ρ : Rho} {A : Around} {env : Env} {W O F : List Addr} {sF s : Shared} (x : Sv K G C n sc ρ A env W O F sF s) : Ev K G C n sc (unowned ρ) A env (W ++ O) F s :=
  ⟨x.g, x.es, x.cn, x.fe.eu, x.pi⟩
theorem Sv.kp {K : Kt} {G : GL} {C : Cx} {n : Nat} {sc : Scope} {ρ : Rho} {A : Around} {env : Env} {W O F : List Addr} {sF s s' : Shared} (x : Sv K G C n sc ρ A env W O F sF s) (k : Kp F s s') : Sv K G C n sc ρ A env W O F sF s' :=
  { x with lay := x.lay.kp k, fe := x.fe.kp k, pi := x.pi.kp k x.fb, kF := x.kF.trans k }
theorem Sv.down {K : Kt} {G : GL} {C : Cx} {n m : Nat} {sc : Scope} {ρ : Rho} {A : Around} {env : Env} {W O F : List Addr} {sF s : Shared} (x : Sv K G C n sc ρ A env W O F sF s) (h : m ≤ n) : Sv K G C m sc ρ A env W O F sF s :=
  { x with un' := by have := x.un'; lia, dp := by have := x.dp; lia }

noncomputable def FlowIs (W : List Addr) : MFlow → Flow → Shared → Prop
  | .next, fl, _ => fl = .next
  | .ret V, fl, s' => ∃ v, fl = .ret v ∧ Rep s'.heap W V v
/-- where a statement ends -/
noncomputable def Px (K : Kt) (A : Around) (env : Env) (sc : Scope) (W O F : List Addr) (s : Shared) (f : MFlow) (ρ' : Rho) (fl : Flow) (s' : Shared) : Prop :=
  ∃ O', FK F (ownL env sc ++ O) s s' ∧ FE env s'.heap W O' ρ' ∧ PI K.base A env (W ++ O') s'.heap ∧ Lay env sc s'.heap ∧ (∀ a ∈ O', a ∈ O ∨ s.heap.get? a = none) ∧ FlowIs W f fl s'
structure Gs (K : Kt) (A : Around) (env : Env) (sc : Scope) (W O F : List Addr) (sF s : Shared) (r : Res (MFlow × Rho)) (Q : Flow → Shared → Prop) (E : Value → Shared → Prop) : Prop where
  ns : r ≠ .stuck
  ok : ∀ f ρ', r = .ok (f, ρ') → ∀ fl s', Px K A env sc W O F s f ρ' fl s' → Q fl s'
  tie : r = .tie → ∀ e s' b, TieX b K.tc F sF s' e → FrOK A env F s'.heap → E (.ref e) s'

noncomputable def SX (K : Kt) (G : GL) (n : Nat) : Prop := ∀ C sc ρ st A env W O F sF s (Q : Flow → Shared → Prop) E, Sv K G C n sc ρ A env W O F sF s → Gs K A env sc W O F sF s (ex n C sc ρ st) Q E → wpAny (model K.prog K.w) A (exec st env) Q E s
noncomputable def SXS (K : Kt) (G : GL) (n : Nat) : Prop := ∀ C sc ρ ss A env W O F sF s (Q : Flow → Shared → Prop) E, Sv K G C n sc ρ A env W O F sF s → Gs K A env sc W O F sF s (exs n C sc ρ ss) Q E → wpAny (model K.prog K.w) A (execs ss env) Q E s

section
variable {K : Kt} {G : GL} {n : Nat} {C : Cx} {sc : Scope} {ρ ρ' : Rho} {A : Around} {env : Env} {W O F : List Addr} {sF s s' : Shared} {Q : Flow → Shared → Prop} {E : Value → Shared → Prop}

theorem Sv.px {fl : Flow} (x : Sv K G C n sc ρ A env W O F sF s) (p : Px K A env sc W O F s .next ρ' fl s') :
    ∃ O', Sv K G C n sc ρ' A env W O' F sF s' ∧ fl = .next ∧ (∀ a ∈ O', a ∈ O ∨ s.heap.get? a = none) ∧ FK F (ownL env sc ++ O) s s' := by
  obtain ⟨O', k, fe, pi, lay, hO, hfl⟩ := p
  refine ⟨O', { x with lay := lay, fe := fe, pi := pi, kF := k.kp x.kF x.fr, fr := fun b hb => ?_ }, hfl, hO, k⟩
  rcases List.mem_append.mp hb with hb | hb
  · exact x.fr b (List.mem_append_left _ hb)
  · rcases hO b hb with q | q
    · exact x.fr b (List.mem_append_right _ q)
    · exact x.kF.none_of q

theorem Px.after {O' : List Addr} {f : MFlow} {fl : Flow} {s₁ s₂ : Shared} (k : FK F (ownL env sc ++ O) s s₁) (hO : ∀ a ∈ O', a ∈ O ∨ s.heap.get? a = none) (hL : Lay env sc s₁.heap) (hn : (sc.names.map (·.1)).Nodup)
    (p : Px K A env sc W O' F s₁ f ρ' fl s₂) : Px K A env sc W O F s f ρ' fl s₂ := by
  obtain ⟨O₂, k2, fe, pi, lay, hO2, hfl⟩ := p
  refine ⟨O₂, k.next k2 hO, fe, pi, lay, fun a ha => ?_, hfl⟩
  rcases hO2 a ha with q | q
  · exact hO a q
  · by_cases hm : a ∈ O
    · exact .inl hm
    · refine .inr ?_
      cases e : s.heap.get? a with
      | none => rfl
      | some o =>
        have hx : a ∉ ownL env sc ++ O := fun z => by
          rcases List.mem_append.mp z with z | z
          · obtain ⟨o', ho', _⟩ := hL.own hn a z
            rw [q] at ho'; cases ho'
          · exact hm z
        obtain ⟨sl, e'⟩ := k.slot a o hx e
        rw [q] at e'; cases e'
end
end Mine
end
section
namespace Mine
open PySem PySem.W PyProof.Rows

theorem bindL_other {kindOf : Str → Option NameKind} {x : Str} : ∀ {bs : List (Str × Value)} {m : Str → Option Value}, x ∉ bs.map (·.1) → bindL kindOf bs m x = m x
  | [], _, _ => rfl
  | (y, v) :: r, m, h => by
    rw [List.map_cons, List.mem_cons, not_or] at h
    unfold bindL
    rw [bindL_other h.2]
    split
    · dsimp only; rw [if_neg h.1]
    · rfl
theorem bindC_other {kindOf : Str → Option NameKind} {x : Str} : ∀ {bs : List (Str × Value)} {m : Str → Option Value}, x ∉ bs.map (·.1) → bindC kindOf bs m x = m x
  | [], _, _ => rfl
  | (y, v) :: r, m, h => by
    rw [List.map_cons, List.mem_cons, not_or] at h
    unfold bindC
    rw [bindC_other h.2]
    split
    · rfl
    · dsimp only; rw [if_neg h.1]
theorem bindL_mem {kindOf : Str → Option NameKind} {x : Str} {v : Value} (hk : kindOf x = some .local) : ∀ {bs : List (Str × Value)} {m : Str → Option Value}, (bs.map (·.1)).Nodup → (x, v) ∈ bs → bindL kindOf bs m x = some v
  | (y, w) :: r, m, hn, h => by
    rw [List.map_cons, List.nodup_cons] at hn
    unfold bindL
    rcases List.mem_cons.mp h with e | h
    · cases e
      rw [bindL_other hn.1, if_pos hk]
      simp
    · exact bindL_mem hk hn.2 h
theorem bindC_mem {kindOf : Str → Option NameKind} {x : Str} {v : Value} (hk : kindOf x ≠ some .local) : ∀ {bs : List (Str × Value)} {m : Str → Option Value}, (bs.map (·.1)).Nodup → (x, v) ∈ bs → bindC kindOf bs m x = some v
  | (y, w) :: r, m, hn, h => by
    rw [List.map_cons, List.nodup_cons] at hn
    unfold bindC
    rcases List.mem_cons.mp h with e | h
    · cases e
      rw [bindC_other hn.1, if_neg hk]
      simp
    · exact bindC_mem hk hn.2 h

theorem zip_lookup {h : Heap} {X : List Addr} : ∀ {ps : List Str} {Vs : List PV} {vs : List Value}, RepL h X Vs vs → ∀ {x : Str} {V : PV} {o : Bool}, ((ps.zip Vs).map fun (x, v) => (x, ((v, false) : Ent))).lookup x = some (V, o) →
    o = false ∧ ∃ v, (x, v) ∈ ps.zip vs ∧ Rep h X V v
  | [], _, _, _, _, _, _, e => by simp at e
  | _ :: _, [], _, _, _, _, _, e => by simp at e
  | p :: ps, V' :: Vs, _, ⟨v, vs', rfl, hv, hr⟩, x, V, o, e => by
    rw [List.zip_cons_cons, List.map_cons, List.lookup_cons] at e
    cases hx : x == p with
    | true =>
      rw [beq_iff_eq] at hx; subst hx
      simp at e
      obtain ⟨rfl, rfl⟩ := e
      exact ⟨rfl, v, List.mem_cons_self .., hv⟩
    | false =>
      simp only [hx] at e
      obtain ⟨h1, u, h2, h3⟩ := zip_lookup hr e
      exact ⟨h1, u, List.mem_cons_of_mem _ h2, h3⟩

theorem zip_fst : ∀ {ps : List Str} {vs : List Value}, ps.length = vs.length → (ps.zip vs).map (·.1) = ps
  | [], _, _ => by simp
  | _ :: _, [], h => by simp at h
  | p :: ps, v :: vs, h => by
    rw [List.zip_cons_cons, List.map_cons, zip_fst (by simpa using h)]

section
variable {K : Kt} {G : GL} {n : Nat}

theorem bindsO_some {fd : FD} {as : List PV} {ρ : Rho} (h : bindsO fd as = some ρ) : (as.length ≤ fd.params.length ∧ fd.params.length - fd.dflts.length ≤ as.length ∧ (as ++ fd.dflts.drop (as.length - (fd.params.length - fd.dflts.length))).length = fd.params.length) ∧
    ρ = (fd.params.zip (as ++ fd.dflts.drop (as.length - (fd.params.length - fd.dflts.length)))).map fun (x, v) => (x, (v, false)) := by
  unfold bindsO at h
  dsimp only at h
  split at h
  · rename_i hc; cases h; exact ⟨hc, rfl⟩
  · cases h
theorem SC_step (GK : GOK K G) (HX : SXS K G n) : SC K G (n + 1) := by
  intro C fd a as vs A X F s Q E hg hp fo hvs cc g
  have g1 : Gd K.tc F s (if scOK fd.scope && fd.scope.names.all (fun x => x.2 != .free) then (bindsOf fd as).bind fun ρ => (exs n C fd.scope ρ fd.body).bind fun (f, _) => match f with
    | .ret v => .ok v
    | .next => .stuck
    else .stuck) (fun V v s' => Rep s'.heap X V v) Q E := g
  cases hc : (scOK fd.scope && fd.scope.names.all (fun x => x.2 != .free)) with
  | false => rw [hc] at g1; exact absurd rfl g1.ns
  | true =>
    rw [hc, if_pos rfl] at g1
    rw [Bool.and_eq_true] at hc
    obtain ⟨hsc, hfree⟩ := hc
    obtain ⟨hkind, hdbg, hcd, hnd⟩ := scOK_nodup hsc
    obtain ⟨o, f, dvs, ho, hdat, hscope, hbody, hclo, hglob, hblt, hcode, hco, hgen, hpn, hpst, hdv, hbind⟩ := fo
    have hlen := hvs.length
    obtain ⟨ρ, hb, g1⟩ := g1.optb
    obtain ⟨⟨c1, c2, c3⟩, hρ⟩ := bindsO_some hb
    · skip
      · have _ := c1
        have hdl := hdv.length
        let vals := vs ++ dvs.drop (vs.length - (fd.params.length - fd.dflts.length))
        have hall : RepL s.heap X (as ++ fd.dflts.drop (as.length - (fd.params.length - fd.dflts.length))) vals := by
          refine RepL.append hvs ?_
          rw [hlen]
          exact RepL.drop _ (hdv.base cc.st cc.nb)
        have hvl : fd.params.length = vals.length := by rw [hall.length]; exact c3.symm
        have hbs : ((fd.params.zip vals).map (·.1)).Nodup := by rw [zip_fst hvl]; exact hpn
        obtain ⟨l, hA, hF, hff⟩ := cc.fr
        have hroom : A.depth < recursionLimit := by have := cc.dp; lia
        refine codeAny_call_function hroom (cc.st _ _ ho) hdat hco hgen hbody (hcode.keeps cc.st) ?_
        refine hbind s vs cc.st (by lia) (by lia) _ _ _ _ ?_
        rw [hclo]
        have hk2 : f.scope.kind = .function := by rw [hscope]; exact hkind
        refine wpAny_newFunctionEnv_cells hk2 (fun x hx => ?_) fun env he s' x => ?_
        · have hxp : x.1 ∈ fd.params := by
            have : x.1 ∈ (fd.params.zip vals).map (·.1) := List.mem_map.mpr ⟨x, hx, rfl⟩
            rw [zip_fst hvl] at this
            exact this
          rw [hscope]
          rcases hpst x.1 hxp with q | q
          · exact .inl q
          · obtain ⟨c, hc⟩ := cellsFrom_has _ (s.heap.objs.size + 1) _ (mem_of_lookup q)
            obtain ⟨c', hc'⟩ := lookup_of_mem hc
            exact .inr ⟨q, by rw [hc']; rfl⟩
        · have eL : env.locals = s.heap.objs.size := by rw [he]; rfl
          have eS : env.scope = fd.scope := by rw [he]; exact hscope
          have eC : env.cells = cellsFrom (s.heap.objs.size + 1) fd.scope.names [] := by rw [he, ← hscope]; rfl
          have eF : env.frame = some env.locals := by rw [he]; rfl
          have eG : env.globals = mainGlobals := by rw [he]; exact hglob
          have eB : env.builtins = builtinsNs := by rw [he]; exact hblt
          have keep := x.toInCall.keep
          have kp : Kp [] s s' := by
            obtain ⟨h', tk, rfl⟩ := x.toInCall.same
            exact Kp.of keep
          have csz : ∀ nm c, (nm, c) ∈ env.cells → s.heap.objs.size < c := fun nm c hm => by
            have := x.above nm c hm
            rw [eL] at this; exact this
          have lkc : ∀ y, fd.scope.names.lookup y = some .cell → ∃ c, env.cells.lookup y = some c := fun y q => by
            obtain ⟨c, hc⟩ := cellsFrom_has _ (s.heap.objs.size + 1) _ (mem_of_lookup q)
            obtain ⟨c', hc'⟩ := lookup_of_mem hc
            exact ⟨c', by rw [eC, hc']⟩
          have hes : EnvS env fd.scope := ⟨eS, hkind, eG, eB, hdbg, hcd, fun y hy => hy.elim (lkc y) fun q => by
            rw [List.all_eq_true] at hfree
            have := hfree _ (mem_of_lookup q)
            simp at this⟩
          have hls : LayS env fd.scope := by
            refine ⟨by rw [eS]; exact hkind, fun y hy => by unfold Env.kindOf; rw [eS]; exact hy, fun y hy => by unfold Env.kindOf; rw [eS]; exact hy, fun y z c hy hc hz => ?_⟩
            exact name_of_addr x.apart (mem_of_lookup hz) (mem_of_lookup hc)
          have hlay : Lay env fd.scope s'.heap := ⟨⟨_, x.toInCall.ns⟩, fun y hy => by
            obtain ⟨c, hc⟩ := lkc y hy
            exact ⟨c, _, hc, x.cell y c hc⟩⟩
          have hcar : CarrOK env s'.heap := fun c hc => by
            rcases List.mem_cons.mp hc with rfl | hc
            · obtain ⟨o, es, ep, ho, hd, _⟩ := x.toInCall.ns
              exact ⟨o, ho, .inl ⟨es, ep, hd⟩⟩
            · obtain ⟨⟨nm, c'⟩, hm, rfl⟩ := List.mem_map.mp hc
              obtain ⟨c2, hc2⟩ := lookup_of_mem hm
              have hpr : ∀ (q : Str × Addr), q ∈ env.cells → ∃ o v, s'.heap.get? q.2 = some o ∧ o.data = .cell v := fun q hq => by
                have hnodup : (env.cells.map (·.1)).Nodup := by
                  rw [eC]
                  have key : ∀ (names : List (Str × NameKind)) (k : Nat), (names.map (·.1)).Nodup → ((cellsFrom k names []).map (·.1)).Nodup := by
                    intro names
                    induction names with
                    | nil => intro k _; exact List.nodup_nil
                    | cons y r ih =>
                      intro k hn
                      obtain ⟨m, kd⟩ := y
                      rw [List.map_cons, List.nodup_cons] at hn
                      unfold cellsFrom
                      split
                      · rw [cellsFrom_app, List.map_append, List.nodup_append]
                        refine ⟨ih _ hn.2, by simp, ?_⟩
                        intro a ha b hb
                        simp at hb
                        subst hb
                        intro e
                        subst e
                        obtain ⟨⟨a', c⟩, hm, rfl⟩ := List.mem_map.mp ha
                        exact hn.1 (List.mem_map.mpr ⟨_, cellsFrom_mem _ _ _ _ hm, rfl⟩)
                      · exact ih _ hn.2
                  exact key _ _ hnd
                have := x.cell q.1 q.2 (lookup_eq_of_mem hnodup hq)
                obtain ⟨o, ho, hd⟩ := this
                exact ⟨o, _, ho, hd⟩
              obtain ⟨o, v, ho, hd⟩ := hpr _ hm
              exact ⟨o, ho, .inr ⟨v, hd⟩⟩
          have fresh : ∀ b ∈ carr env, s.heap.objs.size ≤ b := fun b hb => by
            rcases List.mem_cons.mp hb with rfl | hb
            · rw [eL]; exact Nat.le_refl _
            · obtain ⟨⟨nm, c'⟩, hm, rfl⟩ := List.mem_map.mp hb
              exact Nat.le_of_lt (csz nm _ hm)
          have basefresh : ∀ b, s.heap.objs.size ≤ b → K.base.get? b = none := fun b hb => by
            cases q : K.base.get? b with
            | none => rfl
            | some o => exact absurd (Heap.lt_size (cc.st b o q)) (Nat.not_lt.mpr hb)
          have hpi : PI K.base (A.deeper env) env (X ++ []) s'.heap := by
            rw [List.append_nil]
            exact ⟨fun b o q => keep b o (cc.st b o q), HdOK.sim (A := A) cc.hd (kp.simX _), cc.hf, fun a ha => let ⟨o, ho⟩ := cc.ex a ha; ⟨o, keep a o ho⟩, hcar, cc.nb, fun a ha => basefresh a (fresh a ha)⟩
          have hfe : FE env s'.heap X [] ρ := by
            refine ⟨fun y V e => ?_, fun y V e => ?_, fun y z V V' a _ e => ?_, fun a ha => by cases ha⟩
            · rw [hρ] at e
              obtain ⟨_, v, hm, hr⟩ := zip_lookup hall e
              refine ⟨v, ?_, by rw [List.append_nil]; exact Rep.kp hr kp⟩
              have hyp : y ∈ fd.params := by
                have : y ∈ (fd.params.zip vals).map (·.1) := List.mem_map.mpr ⟨(y, v), hm, rfl⟩
                rw [zip_fst hvl] at this
                exact this
              unfold Hold
              rcases hpst y hyp with q | q
              · have hky : env.kindOf y = some .local := by unfold Env.kindOf; rw [eS]; exact q
                rw [hky]
                exact ⟨_, x.toInCall.ns, bindL_mem hky hbs hm⟩
              · have hky : env.kindOf y = some .cell := by unfold Env.kindOf; rw [eS]; exact q
                rw [hky]
                obtain ⟨c, hc⟩ := lkc y q
                refine ⟨c, hc, ?_⟩
                have := x.cell y c hc
                rw [bindC_mem (by rw [hky]; simp) hbs hm] at this
                exact this
            · rw [hρ] at e
              exact absurd (zip_lookup hall e).1 (by simp)
            · rw [hρ] at e
              exact absurd (zip_lookup hall e).1 (by simp)
          have hLs : s.heap.get? env.locals = none := get_none_of_le (by rw [eL]; exact Nat.le_refl _)
          have hown : ∀ b ∈ ownL env fd.scope ++ [], s.heap.get? b = none := fun b hb => by
            rw [List.append_nil] at hb
            exact get_none_of_le (fresh b (ownL_carr b hb))
          have sv : Sv K G C n fd.scope ρ (A.deeper env) env X [] (env.locals :: F) s s' :=
            { g := hg, np := hp, es := hes, ls := hls, lay := hlay, hh := cc.hh,
              un' := (by have := cc.un; show A.units + 3 + 4 * n + 8 < cLine; lia),
              dp := (by have := cc.dp; show A.depth + 1 + n < recursionLimit; lia),
              fo := ⟨l, Around.frames_deeper hA, by rw [hF], hff, by rw [← hF]; exact cc.fd⟩, fl := eF,
              fb := (fun b hb => by
                rcases List.mem_cons.mp hb with rfl | hb
                · exact basefresh _ (by rw [eL]; exact Nat.le_refl _)
                · exact cc.fb b hb),
              fe := hfe, pi := hpi, kF := kp.mono (by simp), fr := hown, nd := hnd }
          refine ⟨(GK.lim.keeps cc.st).keeps keep, codeAny_func ?_⟩
          refine HX C fd.scope ρ fd.body (A.deeper env) env X [] (env.locals :: F) s s' _ _ sv ⟨fun q => ?_, fun fl ρ' q flow s'' px => ?_, fun q e s'' b t fk => ?_⟩
          · have := g1.ns
            rw [q] at this
            exact this rfl
          · have hg2 := g1
            rw [q] at hg2
            cases fl with
            | next => exact absurd rfl hg2.ns
            | ret V =>
              obtain ⟨O', k, fe, pi, lay, hO, v, rfl, hr⟩ := px
              exact hg2.ok V rfl v s'' ((k.kp sv.kF hown).drop hLs) hr
          · have hg2 := g1
            rw [q] at hg2
            exact leave_ok fk t fun s₃ t₃ => hg2.tie rfl e s₃ (t₃.un.drop hLs)
end
end Mine
end
section
namespace Mine
open PySem PySem.W PyProof.Rows

theorem FK.trans {F X : List Addr} {s₁ s₂ s₃ : Shared} (a : FK F X s₁ s₂) (b : FK F X s₂ s₃) : FK F X s₁ s₃ := by
  have a' : FK F ([] ++ X) s₁ s₂ := a
  have b' : FK F ([] ++ X) s₂ s₃ := b
  exact a'.next b' fun _ h => .inl h

theorem PI.store {base : Heap} {A : Around} {env : Env} {sc : Scope} {X : List Addr} {s s' : Shared} (P : PI base A env X s.heap) (k : KW (ownL env sc) s s') (L : Lay env sc s'.heap) (hn : (sc.names.map (·.1)).Nodup) : PI base A env X s'.heap where
  st := fun b o e => k.keep b o (fun q => by rw [P.nc b (ownL_carr b q)] at e; cases e) (P.st b o e)
  hd := P.hd.at fun b hb o ho => k.keep b o (fun q => by
    obtain ⟨o', ho', hd'⟩ := P.car b (ownL_carr b q)
    rw [ho] at ho'; cases ho'
    have := hfp_off P.hd b hb o ho
    rcases hd' with ⟨es, ep, hd'⟩ | ⟨v, hd'⟩
    · exact this.1 es ep hd'
    · exact this.2 v hd') ho
  hf := P.hf
  ex := fun a ha => by
    by_cases h : a ∈ ownL env sc
    · obtain ⟨o, ho, _⟩ := L.own hn a h
      exact ⟨o, ho⟩
    · obtain ⟨o, ho⟩ := P.ex a ha
      exact ⟨o, k.keep a o h ho⟩
  car := P.car.st hn k (fun c hc q => q) L
  nb := P.nb
  nc := P.nc

theorem Lay.not_list {env : Env} {sc : Scope} {h : Heap} {a : Addr} {vs : Array Value} (L : Lay env sc h) (hn : (sc.names.map (·.1)).Nodup) (hl : h.IsList a vs) : a ∉ ownL env sc := fun q => by
  obtain ⟨o, ho, hd⟩ := L.own hn a q
  obtain ⟨o', ho', _, n, hd'⟩ := hl
  rw [ho] at ho'; cases ho'
  rcases hd with ⟨es, ep, hd⟩ | ⟨v, hd⟩ <;> (rw [hd] at hd'; cases hd')

theorem FE.addO {env : Env} {h : Heap} {W O : List Addr} {ρ : Rho} (f : FE env h W O ρ) {a : Addr} (ha : h.get? a = none) : FE env h W O ρ ∧ (∀ x V, ρ.lookup x = some (V, false) → ∃ v, Hold env h x v ∧ Rep h (W ++ (O ++ [a])) V v) :=
  ⟨f, fun x V e => by
    obtain ⟨v, h1, h2⟩ := f.un x V e
    refine ⟨v, h1, ?_⟩
    rw [← List.append_assoc]
    exact Rep.avoid (fun b hb => by rw [List.mem_singleton.mp hb]; exact ha) h2⟩

theorem freeze_lookup {ρ : Rho} {x : Str} {V : PV} {o : Bool} (h : (freeze ρ).lookup x = some (V, o)) : o = false ∧ ∃ o', ρ.lookup x = some (V, o') := by
  unfold freeze at h
  induction ρ with
  | nil => cases h
  | cons p r ih =>
    obtain ⟨y, W, q⟩ := p
    rw [List.map_cons, List.lookup_cons] at h
    rw [List.lookup_cons]
    cases hxy : x == y with
    | true => rw [hxy] at h; cases h; exact ⟨rfl, q, rfl⟩
    | false => rw [hxy] at h; exact ih h
theorem FE.freeze {env : Env} {h : Heap} {W O : List Addr} {ρ : Rho} (f : FE env h W O ρ) : FE env h W [] (freeze ρ) := by
  refine ⟨fun x V e => ?_, fun x V e => ?_, fun x y V V' a _ e => ?_, fun a ha => by cases ha⟩
  · obtain ⟨_, o, e'⟩ := freeze_lookup e
    obtain ⟨v, h1, h2⟩ := f.ee x V o e'
    exact ⟨v, h1, by rw [List.append_nil]; exact h2⟩
  · exact absurd (freeze_lookup e).1 (by simp)
  · exact absurd (freeze_lookup e).1 (by simp)

theorem Rep.flatW {h : Heap} {W O : List Addr} (hO : ∀ a ∈ O, ∃ o xs n, h.get? a = some o ∧ o.cls = .type "list" ∧ o.data = .seq xs n) : ∀ {V : PV} {v : Value}, V.flat = true → Rep h W V v → Rep h (W ++ O) V v
  | .none, _, _, x => x
  | .bool _, _, _, x => x
  | .int _, _, _, x => x
  | .str _, _, _, x => x
  | .list _, _, hf, _ => by simp [PV.flat] at hf
  | .tup xs, _, hf, ⟨a, vs, e, ha, hl, hr⟩ => by
    refine ⟨a, vs, e, fun q => ?_, hl, RepL.scalar hf hr⟩
    rcases List.mem_append.mp q with q | q
    · exact ha q
    · obtain ⟨o, _, _, ho, hc, _⟩ := hO a q
      obtain ⟨o', ho', hc', _⟩ := hl
      rw [ho] at ho'; cases ho'
      rw [hc] at hc'; simp at hc'
theorem RepL.flatW {h : Heap} {W O : List Addr} (hO : ∀ a ∈ O, ∃ o xs n, h.get? a = some o ∧ o.cls = .type "list" ∧ o.data = .seq xs n) : ∀ {xs : List PV} {vs : List Value}, xs.all PV.flat = true → RepL h W xs vs → RepL h (W ++ O) xs vs
  | [], _, _, x => x
  | x :: xs, _, hf, ⟨v, vs', e, hv, hr⟩ => by
    rw [List.all_cons, Bool.and_eq_true] at hf
    exact ⟨v, vs', e, Rep.flatW hO hf.1 hv, RepL.flatW hO hf.2 hr⟩

section
variable {K : Kt} {G : GL} {n : Nat} {C : Cx} {sc : Scope} {ρ ρ' : Rho} {A : Around} {env : Env} {W O F : List Addr} {sF s : Shared} {E : Value → Shared → Prop}

theorem frame_store {x : Str} {V : PV} {v : Value} {own : Bool} {Q : Unit → Shared → Prop} (LS : LayS env sc) (L : Lay env sc s.heap)
    (un : ∀ y V, y ≠ x → ρ.lookup y = some (V, false) → ∃ v, Hold env s.heap y v ∧ Rep s.heap (W ++ O) V v)
    (hn : (sc.names.map (·.1)).Nodup) (ow : ∀ y V, y ≠ x → ρ.lookup y = some (V, true) → ∃ a xs vs, V = .list xs ∧ xs.all PV.scalar = true ∧ Hold env s.heap y (.ref a) ∧ a ∈ O ∧ a ∉ W ∧ s.heap.IsList a (List.toArray vs) ∧ RepL s.heap [] xs vs ∧ DL s.heap a)
    (di : ∀ y z V V' a, y ≠ z → ρ.lookup y = some (V, true) → ρ.lookup z = some (V', true) → Hold env s.heap y (.ref a) → Hold env s.heap z (.ref a) → False)
    (cl : ∀ a ∈ O, ∃ o xs n, s.heap.get? a = some o ∧ o.cls = .type "list" ∧ o.data = .seq xs n)
    (h0 : own = false → Rep s.heap (W ++ O) V v)
    (h1 : own = true → ∃ a xs vs, v = .ref a ∧ V = .list xs ∧ xs.all PV.scalar = true ∧ a ∈ O ∧ a ∉ W ∧ s.heap.IsList a (List.toArray vs) ∧ RepL s.heap [] xs vs ∧ DL s.heap a ∧ ∀ y V', y ≠ x → ρ.lookup y = some (V', true) → ¬ Hold env s.heap y (.ref a))
    (e : storeNO sc x (V, own) ρ = some ρ') (hQ : ∀ s', KW (ownL env sc) s s' → Lay env sc s'.heap → FE env s'.heap W O ρ' → (∀ X, SimT X s.heap s'.heap) → Q () s') :
    wpAny (model K.prog K.w) A (storeName env x v) Q E s := by
  obtain ⟨hx, rfl⟩ := storeNO_some e
  have dlk : ∀ {s' : Shared} {a : Addr} {vs : Array Value}, KW (ownL env sc) s s' → s.heap.IsList a vs → DL s.heap a → DL s'.heap a := fun k hl ⟨o, ho, hd⟩ => ⟨o, k.keep _ o (L.not_list hn hl) ho, hd⟩
  refine store_ok LS L hx fun s' k l hh ho hs => hQ s' k l ⟨fun y V' e => ?_, fun y V' e => ?_, fun y z V1 V2 a hyz e1 e2 q1 q2 => ?_, fun a ha => ?_⟩ hs
  · rw [rset_lookup] at e
    by_cases hy : y = x
    · rw [if_pos hy] at e
      cases e
      subst hy
      exact ⟨v, hh, Rep.sim (hs _) _ _ (h0 rfl)⟩
    · rw [if_neg hy] at e
      obtain ⟨u, r1, r2⟩ := un y V' hy e
      exact ⟨u, ho y u hy r1, Rep.sim (hs _) _ _ r2⟩
  · rw [rset_lookup] at e
    by_cases hy : y = x
    · rw [if_pos hy] at e
      cases e
      subst hy
      obtain ⟨a, xs, vs, rfl, rfl, r1, r2, r3, r4, r5, r6, _⟩ := h1 rfl
      exact ⟨a, xs, vs, rfl, r1, hh, r2, r3, IsList.simT r4 (hs []) (by simp), RepL.sim (hs _) _ _ r5, dlk k r4 r6⟩
    · rw [if_neg hy] at e
      obtain ⟨a, xs, vs, rfl, r1, r0, r2, r3, r4, r5, r6⟩ := ow y V' hy e
      exact ⟨a, xs, vs, rfl, r1, ho y _ hy r0, r2, r3, IsList.simT r4 (hs []) (by simp), RepL.sim (hs _) _ _ r5, dlk k r4 r6⟩
  · rw [rset_lookup] at e1 e2
    by_cases hy : y = x
    · subst hy
      have hz : z ≠ y := Ne.symm hyz
      rw [if_pos rfl] at e1
      rw [if_neg hz] at e2
      cases e1
      obtain ⟨b, _, _, rfl, _, _, _, _, _, _, _, hno⟩ := h1 rfl
      have e3 := hh.unique q1
      cases e3
      obtain ⟨c, _, _, _, _, r0, _⟩ := ow z V2 hz e2
      have e4 := (ho z _ hz r0).unique q2
      cases e4
      exact hno z V2 hz e2 r0
    · rw [if_neg hy] at e1
      obtain ⟨c, _, _, _, _, r0, _⟩ := ow y V1 hy e1
      have e4 := (ho y _ hy r0).unique q1
      cases e4
      by_cases hz : z = x
      · subst hz
        rw [if_pos rfl] at e2
        cases e2
        obtain ⟨b, _, _, rfl, _, _, _, _, _, _, _, hno⟩ := h1 rfl
        have e3 := hh.unique q2
        cases e3
        exact hno y V1 hy e1 r0
      · rw [if_neg hz] at e2
        obtain ⟨c', _, _, _, _, r0', _⟩ := ow z V2 hz e2
        have e4' := (ho z _ hz r0').unique q2
        cases e4'
        exact di y z V1 V2 a hyz e1 e2 r0 r0'
  · obtain ⟨o, xs, nn, c1, c2, c3⟩ := cl a ha
    obtain ⟨o', d1, d2, d3⟩ := hs [] a o (by simp) c1 ⟨xs, nn, c3⟩
    exact ⟨o', xs, nn, d1, d2.trans c2, d3.trans c3⟩

theorem FE.store {x : Str} {V : PV} {v : Value} {Q : Unit → Shared → Prop} (hn : (sc.names.map (·.1)).Nodup) (LS : LayS env sc) (L : Lay env sc s.heap) (f : FE env s.heap W O ρ) (h0 : Rep s.heap (W ++ O) V v) (e : storeNO sc x (V, false) ρ = some ρ')
    (hQ : ∀ s', KW (ownL env sc) s s' → Lay env sc s'.heap → FE env s'.heap W O ρ' → (∀ X, SimT X s.heap s'.heap) → Q () s') : wpAny (model K.prog K.w) A (storeName env x v) Q E s :=
  frame_store LS L (fun y V _ e => f.un y V e) hn (fun y V _ e => f.ow y V e) (fun y z V V' a => f.di y z V V' a) f.cl (fun _ => h0) (fun q => by cases q) e hQ

/-- a value assigned to a name -/
theorem assign_ok {e : PySem.Expr} {x : Str} {V : PV} {v : Value} {s₁ : Shared} {Q : Unit → Shared → Prop} (S : Sv K G C n sc ρ A env W O F sF s) (k : Kp F s s₁) (hv : Rep s₁.heap W V v) (hfr : freshForm e = true → ∀ a, v = .ref a → s.heap.get? a = none ∧ DL s₁.heap a)
    (ha : assignO sc e x V ρ = some ρ') (hQ : ∀ s', Px K A env sc W O F s .next ρ' .next s' → KW (ownL env sc) s₁ s' → Q () s') : wpAny (model K.prog K.w) A (storeName env x v) Q E s₁ := by
  have S1 := S.kp k
  have fin : ∀ (O' : List Addr) s', PI K.base A env (W ++ O') s₁.heap → (∀ a ∈ O', a ∈ O ∨ s.heap.get? a = none) → KW (ownL env sc) s₁ s' → Lay env sc s'.heap → FE env s'.heap W O' ρ' → Q () s' := fun O' s' P hO kk L f =>
    hQ s' ⟨O', (FK.of_kp k).trans (FK.of_kw (kk.mono fun b hb => List.mem_append_left _ hb)), f, P.store kk L S.nd, L, hO, rfl⟩ kk
  have old : ∀ a ∈ O, a ∈ O ∨ s.heap.get? a = none := fun a h => .inl h
  have frz : storeNO sc x (V, false) (Mine.freeze ρ) = some ρ' → wpAny (model K.prog K.w) A (storeName env x v) Q E s₁ := fun he =>
    FE.store S.nd S.ls S1.lay S1.fe.freeze (by rw [List.append_nil]; exact hv) he fun s' kk L f _ => fin [] s' (S1.pi.less fun a ha => by rw [List.append_nil] at ha; exact List.mem_append_left _ ha) (fun a ha => by cases ha) kk L f
  have newO : ∀ a, s.heap.get? a = none → a ∉ O := fun a h q => by
    obtain ⟨o, ho⟩ := S.pi.ex a (List.mem_append_right _ q)
    rw [h] at ho; cases ho
  unfold assignO at ha
  cases hf : freshForm e with
  | true =>
    rw [hf, if_pos rfl] at ha
    obtain ⟨vs, hV, ha⟩ := Option.bind_eq_some_iff.mp ha
    cases listV_some hV
    · skip
      obtain ⟨a, ws, rfl, haW, hl, hr⟩ := id hv
      obtain ⟨hnew, hdl⟩ := hfr hf a rfl
      by_cases h1 : vs.all PV.scalar = true
      · rw [if_pos h1] at ha
        obtain ⟨_, un1⟩ := S.fe.addO hnew
        have hex : ∃ o, s₁.heap.get? a = some o := by obtain ⟨o, ho, _⟩ := hl; exact ⟨o, ho⟩
        have P1 : PI K.base A env (W ++ (O ++ [a])) s₁.heap := by
          refine ⟨S1.pi.st, S1.pi.hd, ?_, ?_, S1.pi.car, ?_, S1.pi.nc⟩
          · intro b hb q
            rw [← List.append_assoc] at q
            rcases List.mem_append.mp q with q | q
            · exact S1.pi.hf b hb q
            · rw [List.mem_singleton.mp q] at hb
              rcases S.pi.hd with hn | ⟨e, he, o, _, ho, _⟩
              · simp [hfp, hn] at hb
              · simp [hfp, he] at hb
                subst hb
                rw [hnew] at ho; cases ho
          · intro b hb
            rw [← List.append_assoc] at hb
            rcases List.mem_append.mp hb with hb | hb
            · exact S1.pi.ex b hb
            · rw [List.mem_singleton.mp hb]; exact hex
          · intro b hb
            rw [← List.append_assoc] at hb
            rcases List.mem_append.mp hb with hb | hb
            · exact S1.pi.nb b hb
            · rw [List.mem_singleton.mp hb]; exact S.pi.fresh hnew
        refine frame_store (O := O ++ [a]) S.ls S1.lay (fun y V' _ e => ?_) S.nd (fun y V' _ e => ?_) (fun y z V V' a => S1.fe.di y z V V' a) (fun b hb => ?_) (fun q => by cases q) (fun _ => ⟨a, vs, ws, rfl, rfl, h1, List.mem_append_right _ (List.mem_singleton.mpr rfl), haW, hl, RepL.scalar h1 hr, hdl, fun y V' hy e hh => ?_⟩) ha
          fun s' kk L f _ => fin (O ++ [a]) s' P1 (fun b hb => ?_) kk L f
        · obtain ⟨u, r1, r2⟩ := un1 y V' e
          exact ⟨u, r1.sim (k.simX _), Rep.sim (k.simX _).t _ _ r2⟩
        · obtain ⟨b, xs, us, q0, q1, q2, q3, q4⟩ := S1.fe.ow y V' e
          exact ⟨b, xs, us, q0, q1, q2, List.mem_append_left _ q3, q4⟩
        · rcases List.mem_append.mp hb with hb | hb
          · exact S1.fe.cl b hb
          · rw [List.mem_singleton.mp hb]
            obtain ⟨o, ho, hc, nn, hd⟩ := hl
            exact ⟨o, _, nn, ho, hc, hd⟩
        · obtain ⟨b, xs, us, q0, q1, q2, q3, _⟩ := S.fe.ow y V' e
          have := (q2.sim (k.simX _)).unique hh
          cases this
          exact newO a hnew q3
        · rcases List.mem_append.mp hb with hb | hb
          · exact .inl hb
          · exact .inr (by rw [List.mem_singleton.mp hb]; exact hnew)
      · rw [if_neg h1] at ha
        by_cases h2 : vs.all PV.flat = true
        · rw [if_pos h2] at ha
          refine FE.store S.nd S.ls S1.lay S1.fe ?_ ha fun s' kk L f _ => fin O s' S1.pi old kk L f
          refine ⟨a, ws, rfl, fun q => ?_, hl, RepL.flatW S1.fe.cl h2 hr⟩
          rcases List.mem_append.mp q with q | q
          · exact haW q
          · exact newO a hnew q
        · rw [if_neg h2] at ha
          exact frz ha
  | false =>
    rw [hf, if_neg (by simp)] at ha
    by_cases h1 : V.flat = true
    · rw [if_pos h1] at ha
      exact FE.store S.nd S.ls S1.lay S1.fe (Rep.flatW S1.fe.cl h1 hv) ha fun s' kk L f _ => fin O s' S1.pi old kk L f
    · rw [if_neg h1] at ha
      exact frz ha
end
end Mine
end
section
namespace Mine
open PySem PySem.W PyProof.Rows

noncomputable def SEF (K : Kt) (G : GL) (n : Nat) : Prop := ∀ C sc ρ e A env X F s (Q : Value → Shared → Prop) E, freshForm e = true → Ev K G C n sc ρ A env X F s →
  Gd K.tc F s (evE n C sc ρ e) (fun V v s' => Rep s'.heap X V v ∧ ∀ a, v = .ref a → s.heap.get? a = none ∧ DL s'.heap a) Q E → wpAny (model K.prog K.w) A (eval e env) Q E s
noncomputable def SU (K : Kt) (G : GL) (n : Nat) : Prop := ∀ C sc ρ elt gens scope p A env X F s (Q : Value → Shared → Prop) E (use : Option (Value → Sem Unit)) (RX : PV → Value → Shared → Prop) (Q0 : Value → Shared → Prop), Ev K G C n sc ρ A env X F s →
  Gd K.tc F s (evE n C sc ρ (.ListComp elt gens scope p)) RX Q0 E →
  (∀ ws D Cc s', evE n C sc ρ (.ListComp elt gens scope p) = .ok (.list ws) → Kp F s s' → Rep s'.heap X (.list ws) (.ref D) → s.heap.get? D = none → s.heap.get? Cc = none → (∃ m, s'.heap.Ns Cc m) → D ≠ Cc → DL s'.heap D →
    compPost (model K.prog K.w) A E use Q (.ref D) Cc (.ok .next) s') →
  wpAny (model K.prog K.w) A (comprehension (.ListComp elt gens scope p) scope env (firstIterPos gens p) (newList []) (firstAsync gens) (firstIter gens env) use) Q E s

section
variable {K : Kt} {G : GL} {n : Nat}

theorem int0 (k : Int) : k = 0 ∨ (∃ m, k = .ofNat (m + 1)) ∨ ∃ m, k = .negSucc m := by
  rcases k with (_ | m) | m
  · exact .inl rfl
  · exact .inr (.inl ⟨_, rfl⟩)
  · exact .inr (.inr ⟨_, rfl⟩)
theorem uform1 {elt : PySem.Expr} {scope : Scope} {p : Pos} {g : Comprehension} {r : List Comprehension} (h : g.is_async ≠ 0) : ∀ n C sc ρ, evE (n + 1) C sc ρ (.ListComp elt (g :: r) scope p) = .stuck := by
  intro n C sc ρ
  obtain ⟨t, it, ifs, k⟩ := g
  rcases int0 k with rfl | ⟨m, rfl⟩ | ⟨m, rfl⟩
  · exact absurd rfl h
  · rcases r with _ | ⟨_, _ | ⟨_, _⟩⟩
    · rfl
    · rcases ifs with _ | ⟨_, _⟩ <;> rfl
    · rcases ifs with _ | ⟨_, _⟩ <;> rfl
  · rcases r with _ | ⟨_, _ | ⟨_, _⟩⟩
    · rfl
    · rcases ifs with _ | ⟨_, _⟩ <;> rfl
    · rcases ifs with _ | ⟨_, _⟩ <;> rfl
theorem uform2 {elt : PySem.Expr} {scope : Scope} {p : Pos} {t it : PySem.Expr} {ifs : List PySem.Expr} {g : Comprehension} (h : g.is_async ≠ 0) : ∀ n C sc ρ, evE (n + 1) C sc ρ (.ListComp elt [⟨t, it, ifs, 0⟩, g] scope p) = .stuck := by
  intro n C sc ρ
  obtain ⟨t2, it2, ifs2, k⟩ := g
  rcases int0 k with rfl | ⟨m, rfl⟩ | ⟨m, rfl⟩
  · exact absurd rfl h
  · rcases ifs with _ | ⟨_, _⟩ <;> rfl
  · rcases ifs with _ | ⟨_, _⟩ <;> rfl
theorem uform {elt : PySem.Expr} {scope : Scope} {p : Pos} (gens : List Comprehension) : (∃ t it ifs, gens = [⟨t, it, ifs, 0⟩]) ∨ (∃ t it t2 it2 ifs2, gens = [⟨t, it, [], 0⟩, ⟨t2, it2, ifs2, 0⟩]) ∨ ∀ n C sc ρ, evE (n + 1) C sc ρ (.ListComp elt gens scope p) = .stuck := by
  rcases gens with _ | ⟨⟨t, it, ifs, k⟩, r⟩
  · exact .inr (.inr fun _ _ _ _ => rfl)
  · by_cases hk : k = 0
    · subst hk
      rcases r with _ | ⟨⟨t2, it2, ifs2, k2⟩, _ | ⟨_, _⟩⟩
      · exact .inl ⟨_, _, _, rfl⟩
      · by_cases hk2 : k2 = 0
        · subst hk2
          rcases ifs with _ | ⟨_, _⟩
          · exact .inr (.inl ⟨_, _, _, _, _, rfl⟩)
          · exact .inr (.inr fun _ _ _ _ => rfl)
        · exact .inr (.inr (uform2 hk2))
      · refine .inr (.inr fun _ _ _ _ => ?_)
        rcases ifs with _ | ⟨_, _⟩ <;> rcases k2 with (_ | _) | _ <;> rfl
    · exact .inr (.inr (uform1 hk))

theorem SU_step (HE : SE K G n) (HF : SFs K G n) (HI : SI K G n) : SU K G (n + 1) := by
  intro C sc ρ elt gens scope p A env X F s Q E use RX Q0 x g hpost
  rcases uform (elt := elt) (scope := scope) (p := p) gens with ⟨t, it, ifs, rfl⟩ | ⟨t, it, t2, it2, ifs2, rfl⟩ | h
  · exact SE_comp1g HE HF HI x g hpost
  · exact SE_comp2g HE HF HI x g hpost
  · exact absurd (h n C sc ρ) g.ns

theorem SEF_step (HE : SE K G n) (HU : SU K G (n + 1)) : SEF K G (n + 1) := by
  intro C sc ρ e A env X F s Q E hf x g
  rcases fresh_cases hf with ⟨elt, gens, scope, p, rfl⟩ | ⟨es, p, rfl⟩ | ⟨l, op, r, p, y, rfl, hm⟩
  · rw [eval_ListComp]
    exact HU C sc ρ elt gens scope p A env X F s Q E none _ _ x g fun ws D Cc s' e k hr hD hC hn hDC hDL => comp_end k hr hn hC hDC hDL fun s'' k'' hr'' hl'' => g.ok (.list ws) e (.ref D) s'' k'' ⟨hr'', fun a q => by cases q; exact ⟨hD, hl''⟩⟩
  · exact SE_list HE x g fun ws D s'' hr hD hl => ⟨hr, fun a q => by cases q; exact ⟨hD, hl⟩⟩
  · exact SE_mul HE x hm g fun ws D s'' hr hD hl => ⟨hr, fun a q => by cases q; exact ⟨hD, hl⟩⟩
end

theorem FE.kw {env : Env} {W O X X' : List Addr} {ρ : Rho} {s s' : Shared} (f : FE env s.heap W O ρ) (k : KW X s s') (hc : ∀ b ∈ carr env, b ∉ X) (hs : SimT X' s.heap s'.heap) (hX : ∀ b ∈ X', b ∈ W) (hO : ∀ a ∈ O, a ∉ X) : FE env s'.heap W O ρ := by
  have hO' : ∀ a ∈ O, ∀ (vs : Array Value), s.heap.IsList a vs → s'.heap.IsList a vs := fun a ha vs ⟨o, ho, r⟩ => ⟨o, k.keep a o (hO a ha) ho, r⟩
  refine ⟨fun x V e => ?_, fun x V e => ?_, fun x y V V' a hxy e1 e2 h1 h2 => ?_, fun a ha => ?_⟩
  · obtain ⟨v, h1, h2⟩ := f.un x V e
    exact ⟨v, h1.kw k hc, Rep.sim (hs.mono fun b hb => List.mem_append_left _ (hX b hb)) _ _ h2⟩
  · obtain ⟨a, xs, vs, e1, hsc, h1, h2, h3, h4, h5, o, ho, hd⟩ := f.ow x V e
    exact ⟨a, xs, vs, e1, hsc, h1.kw k hc, h2, h3, hO' a h2 _ h4, RepL.scalar hsc h5, o, k.keep a o (hO a h2) ho, hd⟩
  · obtain ⟨b, _, _, _, _, q1, _⟩ := f.ow x V e1
    obtain ⟨c, _, _, _, _, q2, _⟩ := f.ow y V' e2
    have r1 := (q1.kw k hc).unique h1
    have r2 := (q2.kw k hc).unique h2
    cases r1; cases r2
    exact f.di x y V V' a hxy e1 e2 q1 q2
  · obtain ⟨o, xs, n, h1, h2, h3⟩ := f.cl a ha
    exact ⟨o, xs, n, k.keep a o (hO a ha) h1, h2, h3⟩

theorem PI.kwX {base : Heap} {A : Around} {env : Env} {X Y : List Addr} {s s' : Shared} (P : PI base A env X s.heap) (k : KW Y s s') (hb : ∀ b ∈ Y, base.get? b = none) (hf : ∀ b ∈ hfp A, b ∉ Y) (hc : ∀ b ∈ carr env, b ∉ Y) (ex : ∀ a ∈ X, ∃ o, s'.heap.get? a = some o) : PI base A env X s'.heap where
  st := fun b o e => k.keep b o (fun q => by rw [hb b q] at e; cases e) (P.st b o e)
  hd := P.hd.at fun b hb o ho => k.keep b o (hf b hb) ho
  hf := P.hf
  ex := ex
  car := P.car.kw k hc
  nb := P.nb
  nc := P.nc

theorem FE.stp {env : Env} {sc : Scope} {W O : List Addr} {N : List Str} {ρ ρ' : Rho} {s s' : Shared} (f : FE env s.heap W O ρ) (st : StP env sc (W ++ O) N ρ ρ' s s') (L : Lay env sc s.heap) (hn : (sc.names.map (·.1)).Nodup) : FE env s'.heap W O ρ' := by
  have nw : ∀ {y V}, ρ'.lookup y = some (V, true) → y ∉ N := fun {y V} e hy => by
    obtain ⟨W', u, h1, _⟩ := st.new y hy
    rw [h1] at e; cases e
  refine ⟨fun x V e => ?_, fun x V e => ?_, fun x y V V' a hxy e1 e2 h1 h2 => ?_, fun a ha => ?_⟩
  · by_cases hx : x ∈ N
    · obtain ⟨W', u, h1, h2, h3⟩ := st.new x hx
      rw [h1] at e; cases e
      exact ⟨u, h2, h3⟩
    · rw [st.old x hx] at e
      obtain ⟨v, h1, h2⟩ := f.un x V e
      exact ⟨v, st.hold x v hx h1, Rep.sim (st.sim _) _ _ h2⟩
  · have hx := nw e
    rw [st.old x hx] at e
    obtain ⟨a, xs, vs, e1, hsc, h1, h2, h3, h4, h5, o, ho, hd⟩ := f.ow x V e
    exact ⟨a, xs, vs, e1, hsc, st.hold x _ hx h1, h2, h3, IsList.simT h4 (st.sim []) (by simp), RepL.scalar hsc h5, o, st.kw.keep a o (L.not_list hn h4) ho, hd⟩
  · have hx := nw e1
    have hy := nw e2
    rw [st.old x hx] at e1
    rw [st.old y hy] at e2
    obtain ⟨b, _, _, _, _, q1, _⟩ := f.ow x V e1
    obtain ⟨c, _, _, _, _, q2, _⟩ := f.ow y V' e2
    have r1 := (st.hold x _ hx q1).unique h1
    have r2 := (st.hold y _ hy q2).unique h2
    cases r1; cases r2
    exact f.di x y V V' a hxy e1 e2 q1 q2
  · obtain ⟨o, xs, n, h1, h2, h3⟩ := f.cl a ha
    obtain ⟨o', e1, e2, e3⟩ := st.sim [] a o (by simp) h1 ⟨xs, n, h3⟩
    exact ⟨o', xs, n, e1, e2.trans h2, e3.trans h3⟩

section
variable {K : Kt} {G : GL} {n : Nat} {C : Cx} {sc : Scope} {ρ ρ' : Rho} {A : Around} {env : Env} {W O F : List Addr} {sF s : Shared} {E : Value → Shared → Prop}

/-- a comprehension's own table goes -/
theorem Px.but {Cc : Addr} {s' : Shared} {h' : Heap} {m : Str → Option Value} (S : Sv K G C n sc ρ A env W O F sF s) (p : Px K A env sc W O F s .next ρ' .next s') (hC : s.heap.get? Cc = none) (hm : s'.heap.Ns Cc m) (hs : Heap.SameBut Cc s'.heap h') :
    Px K A env sc W O F s .next ρ' .next { s' with heap := h' } := by
  obtain ⟨O', k, fe, pi, lay, hO, hfl⟩ := p
  have kw : KW [Cc] s' { s' with heap := h' } := KW.of (tk := s'.toks) fun b o hb e => (hs.2 b (fun q => hb (List.mem_singleton.mpr q))).trans e
  have hcar : ∀ b ∈ carr env, b ∉ [Cc] := fun b hb q => by
    obtain ⟨o, ho, _⟩ := S.pi.car b hb
    rw [List.mem_singleton.mp q, hC] at ho; cases ho
  have hOC : ∀ a ∈ O', a ∉ [Cc] := fun a ha q => by
    obtain ⟨o, xs, nn, h1, _, h3⟩ := fe.cl a ha
    obtain ⟨o', es, ep, ho', hd, _⟩ := hm
    rw [List.mem_singleton.mp q, ho'] at h1; cases h1
    rw [hd] at h3; cases h3
  have hW : ∀ a ∈ W, a ∉ [Cc] := fun a ha q => by
    obtain ⟨o, ho⟩ := S.pi.ex a (List.mem_append_left _ ha)
    rw [List.mem_singleton.mp q, hC] at ho; cases ho
  have sim : SimT [] s'.heap h' := simT_of_but hs (fun o ho xs nn => by
    obtain ⟨o', es, ep, ho', hd, _⟩ := hm
    rw [ho] at ho'; cases ho'
    rw [hd]; intro q; cases q) []
  have hmm : ∀ b o, b ∉ [Cc] → s'.heap.get? b = some o → h'.get? b = some o := kw.keep
  refine ⟨O', ?_, fe.kw kw hcar sim (by simp) hOC, ?_, lay.kw kw hcar, hO, rfl⟩
  · have off : ∀ b o, s.heap.get? b = some o → b ∉ [Cc] := fun b o e q => by rw [List.mem_singleton.mp q, hC] at e; cases e
    obtain ⟨h1, t1, rfl⟩ := k.same
    refine ⟨⟨h', t1, rfl⟩, fun b o hb hf e => hmm b o (off b o e) (k.keep b o hb hf e), fun b o hb e => ?_⟩
    obtain ⟨sl, e'⟩ := k.slot b o hb e
    exact ⟨sl, hmm b _ (off b o e) e'⟩
  · refine pi.kwX kw (fun b hb => by rw [List.mem_singleton.mp hb]; exact S.pi.fresh hC) (fun b hb q => ?_) hcar fun a ha => ?_
    · rcases S.pi.hd with hn | ⟨e, he, o, _, ho, _⟩
      · simp [hfp, hn] at hb
      · simp [hfp, he] at hb
        subst hb
        rw [List.mem_singleton.mp q, hC] at ho; cases ho
    · obtain ⟨o, ho⟩ := pi.ex a ha
      refine ⟨o, hmm a o ?_ ho⟩
      rcases List.mem_append.mp ha with ha | ha
      · exact hW a ha
      · exact hOC a ha

theorem Gs.gd {α β : Type} {r : Res α} {f : α → Res (MFlow × Rho)} {R : α → β → Shared → Prop} {Q : Flow → Shared → Prop} (S : Sv K G C n sc ρ A env W O F sF s) (g : Gs K A env sc W O F sF s (r.bind f) Q E) :
    Gd K.tc F s r R (fun v s' => ∃ V, R V v s' ∧ Kp F s s' ∧ r = .ok V) E :=
  ⟨fun q => by have := g.ns; rw [q] at this; exact this rfl, fun V q v s' k h => ⟨V, h, k, q⟩, fun q e s' t => g.tie (by rw [q]; rfl) e s' false (t.from S.kF) (S.frOK.kp t.kp)⟩
theorem Gs.then {α : Type} {r : Res α} {V : α} {f : α → Res (MFlow × Rho)} {Q : Flow → Shared → Prop} (g : Gs K A env sc W O F sF s (r.bind f) Q E) (h : r = .ok V) : Gs K A env sc W O F sF s (f V) Q E := by
  have e : r.bind f = f V := by rw [h]; rfl
  exact e ▸ g

theorem Gs.opt {α : Type} {o : Option α} {f : α → Res (MFlow × Rho)} {Q : Flow → Shared → Prop} (g : Gs K A env sc W O F sF s ((ofO o).bind f) Q E) : ∃ V, o = some V ∧ Gs K A env sc W O F sF s (f V) Q E := by
  cases o with
  | some V => exact ⟨V, rfl, g⟩
  | none => exact absurd rfl g.ns

/-- a value assigned to a name -/
theorem SX_assign (HE : SE K G n) (HF : SEF K G n) (HU : SU K G n) {x : Str} {p' pos : Pos} {e : PySem.Expr} {Q : Flow → Shared → Prop} (S : Sv K G C n sc ρ A env W O F sF s)
    (g : Gs K A env sc W O F sF s ((evE n C sc ρ e).bind fun v => (assignN sc e x v ρ).bind fun ρ' => .ok (.next, ρ')) Q E) : wpAny (model K.prog K.w) A (exec (.Assign [.Name x p'] e pos) env) Q E s := by
  have fin : ∀ V s₁ v, evE n C sc ρ e = .ok V → Kp F s s₁ → Rep s₁.heap W V v → (freshForm e = true → ∀ a, v = .ref a → s.heap.get? a = none ∧ DL s₁.heap a) →
      ∀ Q' : Unit → Shared → Prop, (∀ ρ' s', Px K A env sc W O F s .next ρ' .next s' → KW (ownL env sc) s₁ s' → (∀ s'', Px K A env sc W O F s .next ρ' .next s'' → Q .next s'') → Q' () s') → wpAny (model K.prog K.w) A (storeName env x v) Q' E s₁ := by
    intro V s₁ v hev k hv hfr Q' hQ'
    have g2 := g.then hev
    obtain ⟨ρ', ha, g3⟩ := Gs.opt g2
    exact assign_ok S k hv hfr ha fun s' px kk => hQ' ρ' s' px kk fun s'' px' => g3.ok .next ρ' rfl .next s'' px'
  have plain : swapsWith e (some (.Name x p')) pos.line env = pure false → wpAny (model K.prog K.w) A (exec (.Assign [.Name x p'] e pos) env) Q E s := by
    intro hsw
    refine wpAny_Assign_Name ?_ hsw
    cases hf : freshForm e with
    | true =>
      refine wpAny_mono (HF C sc ρ e A env W F s _ E hf S.ev (g.gd S (R := fun V v s' => Rep s'.heap W V v ∧ ∀ a, v = .ref a → s.heap.get? a = none ∧ DL s'.heap a))) (fun v s₁ h₁ => ?_) fun _ _ e => e
      obtain ⟨V, ⟨hv, hn⟩, k, hev⟩ := h₁
      exact fin V s₁ v hev k hv (fun _ => hn) _ fun ρ' s' px _ hq => hq s' px
    | false =>
      refine wpAny_mono (HE C sc ρ e A env W F s _ E S.ev (g.gd S (R := fun V v s' => Rep s'.heap W V v))) (fun v s₁ h₁ => ?_) fun _ _ e => e
      obtain ⟨V, hv, k, hev⟩ := h₁
      exact fin V s₁ v hev k hv (fun q => by rw [hf] at q; cases q) _ fun ρ' s' px _ hq => hq s' px
  cases e with
  | ListComp elt gens scope lp =>
    have hb : ∃ b, swapsWith (.ListComp elt gens scope lp) (some (.Name x p')) pos.line env = pure b := ⟨_, rfl⟩
    obtain ⟨b, hb⟩ := hb
    cases b with
    | false => exact plain hb
    | true =>
      rw [exec_Assign_Name_used _ _ _ _ hb]
      refine wpAny_bind (wpAny_standAt (wpAny_bind ?_))
      show wpAny _ A (do let _ ← comprehension (.ListComp elt gens scope lp) scope env (firstIterPos gens lp) (newList []) (firstAsync gens) (firstIter gens env) (some (assign (.Name x p') env))) _ _ s
      refine wpAny_bind (wpAny_mono (HU C sc ρ elt gens scope lp A env W F s (fun _ s' => Q .next s') E (some (assign (.Name x p') env)) (fun V v s' => Rep s'.heap W V v) _ S.ev (g.gd S) ?_) (fun _ s' hq => wpAny_pure (wpAny_pure hq)) fun _ _ e => e)
      intro ws D Cc s' hev k hr hD hC hn hDC hDL
      show wpAny _ A (assign (.Name x p') env (.ref D)) _ _ s'
      refine wpAny_assign_Name (fin (.list ws) s' (.ref D) hev k hr (fun _ a q => by cases q; exact ⟨hD, hDL⟩) _ fun ρ' s'' px kk hq => ?_)
      obtain ⟨m, hm⟩ := hn
      have hm' : s''.heap.Ns Cc m := hm.at' fun o e => kk.keep Cc o (fun q => by
        obtain ⟨o', ho', _⟩ := S.lay.own S.nd Cc q
        rw [hC] at ho'; cases ho') e
      exact ⟨m, hm', fun h' hs => hq _ (px.but S hC hm' hs)⟩
  | SetComp _ _ _ _ => exact absurd (by cases n <;> rfl) g.ns
  | DictComp _ _ _ _ _ => exact absurd (by cases n <;> rfl) g.ns
  | _ => exact plain rfl
end
end Mine
end
section
namespace Mine
open PySem PySem.W PyProof.Rows

section
variable {K : Kt} {G : GL} {n : Nat} {C : Cx} {sc : Scope} {ρ ρ' : Rho} {A : Around} {env : Env} {W O F : List Addr} {sF s : Shared} {E : Value → Shared → Prop}

theorem ownE_some {x : Str} {p : Ent} (h : (bif own sc x then ρ.lookup x else none) = some p) : ρ.lookup x = some p ∧ ∃ k, sc.names.lookup x = some k := by
  cases ho : own sc x with
  | false => rw [ho] at h; cases h
  | true =>
    rw [ho] at h
    refine ⟨h, ?_⟩
    unfold own at ho
    rw [Bool.or_eq_true, beq_iff_eq, beq_iff_eq] at ho
    rcases ho with ho | ho
    · exact ⟨_, ho⟩
    · exact ⟨_, ho⟩

theorem px_next {s₁ s₂ : Shared} (S : Sv K G C n sc ρ A env W O F sF s) (k : Kp F s s₁) (kk : KW (ownL env sc) s₁ s₂) (L : Lay env sc s₂.heap) (f : FE env s₂.heap W O ρ') : Px K A env sc W O F s .next ρ' .next s₂ :=
  ⟨O, (FK.of_kp k).trans (FK.of_kw (kk.mono fun b hb => List.mem_append_left _ hb)), f, (S.kp k).pi.store kk L S.nd, L, fun a h => .inl h, rfl⟩

theorem SX_tup (HE : SE K G n) {ts : List PySem.Expr} {kk : Nat} {pp pos : Pos} {e : PySem.Expr} {Q : Flow → Shared → Prop} (S : Sv K G C n sc ρ A env W O F sF s)
    (g : Gs K A env sc W O F sF s (if C.hd || !isCall e then .stuck else (evE n C sc ρ e).bind fun v => (assignT sc e ts v ρ).bind fun ρ' => .ok (.next, ρ')) Q E) : wpAny (model K.prog K.w) A (exec (.Assign [.Tuple ts kk pp] e pos) env) Q E s := by
  cases hhc : (C.hd || !isCall e) with
  | true => rw [hhc] at g; exact absurd rfl g.ns
  | false =>
    rw [hhc] at g
    rw [Bool.or_eq_false_iff, Bool.not_eq_false'] at hhc
    obtain ⟨hh, hcall⟩ := hhc
    have g1 : Gs K A env sc W O F sF s ((evE n C sc ρ e).bind fun v => (assignT sc e ts v ρ).bind fun ρ' => .ok (.next, ρ')) Q E := g
    obtain ⟨f, as, ks, cp, rfl⟩ := x16 (eq_of_beq hcall)
    rw [arm_exec_Assign]
    refine wpAny_bind (wpAny_standAt (wpAny_bind (wpAny_of_eq (a := false) rfl ?_)))
    rw [if_neg (by simp)]
    refine wpAny_bind (wpAny_mono (HE C sc ρ _ A env W F s _ E S.ev (g1.gd S (R := fun V v s' => Rep s'.heap W V v))) (fun v s₁ h₁ => ?_) fun _ _ e => e)
    obtain ⟨V, hv, k, hev⟩ := h₁
    have g2 := g1.then hev
    refine wpAny_bind (wpAny_of_eq (a := none) rfl ?_)
    have S1 := S.kp k
    show wpAny _ _ (do assignAll v [assign (.Tuple ts kk pp) env]; pure Flow.next) _ _ _
    refine wpAny_bind ?_
    show wpAny _ _ (assign (.Tuple ts kk pp) env v) _ _ _
    obtain ⟨ρ', ha, g4⟩ := Gs.opt g2
    rw [hcall, cond_true] at ha
    obtain ⟨vs, hvs, hs⟩ := Option.bind_eq_some_iff.mp ha
    cases tupV_some hvs
    cases hfl : PV.flat (.tup vs) with
    | true =>
      rw [hfl, if_pos rfl] at hs
      refine storeNs_tuple (X := W ++ O) (S.hh hh) S.ls S1.lay (Rep.flatW S1.fe.cl hfl hv) hs fun s' st => wpAny_pure (g4.ok .next ρ' rfl .next s' (px_next S k st.kw st.lay (S1.fe.stp st S1.lay S.nd)))
    | false =>
      rw [hfl, if_neg (by simp)] at hs
      refine storeNs_tuple (X := W ++ []) (S.hh hh) S.ls S1.lay (by rw [List.append_nil]; exact hv) hs fun s' st => wpAny_pure (g4.ok .next ρ' rfl .next s' ?_)
      exact ⟨[], (FK.of_kp k).trans (FK.of_kw (st.kw.mono fun b hb => List.mem_append_left _ hb)), S1.fe.freeze.stp st S1.lay S.nd, (S1.pi.less fun a ha => by rw [List.append_nil] at ha; exact List.mem_append_left _ ha).store st.kw st.lay S.nd, st.lay, fun a h => (by cases h), rfl⟩
end
end Mine
end
section
namespace Mine
open PySem PySem.W PyProof.Rows

section
variable {prog : Program} {w : World} {A : Around} {E : Value → Shared → Prop} {s : Shared}
theorem set_plain {l : Addr} {items : Array Value} {j : Nat} {kk : Int} {t : Tok} {v : Value} {Q : Unit → Shared → Prop} (hl : PlainL s.heap l items) (hkk : kk = (j : Int)) (hj : j < items.size) (hfit : kk < 2 ^ 63)
    (hQ : ∀ h', PlainL h' l (items.setIfInBounds j v) → Heap.SameBut l s.heap h' → Q () { s with heap := h' }) : wpAny (model prog w) A (setItem (.ref l) (.int kk t) v) Q E s := by
  have hT := hl.isList.typeIs
  obtain ⟨o, ne, ho, hc, hdn, hd⟩ := id hl
  obtain ⟨n', hd'⟩ := Obj.data_mapSeq hd (·.setIfInBounds j v)
  have hnew : PlainL (s.heap.update l (Obj.mapSeq (·.setIfInBounds j v))) l (items.setIfInBounds j v) := by
    refine ⟨_, n', Heap.get?_update_self _ ho (Obj.isFreed_of_seq hd'), (Obj.cls_mapSeq ..).trans hc, ?_, hd'⟩
    obtain ⟨c, d, dt, sl⟩ := o
    subst hd
    exact hdn
  have hx : items[j]? = some items[j] := Array.getElem?_eq_getElem hj
  unfold setItem
  try with_reducible refine wpAny_holding ?_
  first | refine wpAny_bind (wpAny_pure ?_) | skip
  refine wpAny_bind (wpAny_sequenceKey hT (by decide) ?_)
  refine wpAny_bind (wpAny_callSpecial?_slot (name := Str.ofString "__setitem__") hT slot_list_setitem (wpAny_call_entry slot_list_setitem hT entry_list_setitem ?_ (args_list_setitem _ _ _)))
  show wpAny _ _ (Builtin.List.listSubscript? (.int kk t) >>= _) _ _ s
  refine wpAny_bind (wpAny_listSubscript_int (fitsIndex_of (by lia) hfit) ?_)
  clear hfit
  subst hkk
  show wpAny _ _ ((seqItemAt l j >>= fun r => pure (r.map (j, ·))) >>= _) _ _ s
  refine wpAny_bind (wpAny_bind (wpAny_seqItemAt ho hd (wpAny_pure ?_)))
  rw [hx]
  show wpAny _ _ (setSeqItemAt l j v >>= _) _ _ s
  refine wpAny_bind (wpAny_setSeqItemAt ho hd ?_)
  first
    | exact wpAny_bind (wpAny_pure (wpAny_pure ⟨.none, rfl, wpAny_pure (hQ _ hnew (Heap.SameBut.update ..))⟩))
    | exact wpAny_pure ⟨.none, rfl, wpAny_pure (hQ _ hnew (Heap.SameBut.update ..))⟩
end

section
variable {K : Kt} {G : GL} {n : Nat} {C : Cx} {sc : Scope} {ρ ρ' : Rho} {A : Around} {env : Env} {W O F : List Addr} {sF s : Shared} {E : Value → Shared → Prop}

/-- a list of the frame's own changes -/
theorem mut_ok {x : Str} {xs xs' : List PV} {a : Addr} {vs' : List Value} {s₁ : Shared} {h' : Heap} (S : Sv K G C n sc ρ A env W O F sF s) (k : Kp F s s₁) (hx : ρ.lookup x = some (.list xs, true)) (ha : Hold env s₁.heap x (.ref a)) (haO : a ∈ O) (haW : a ∉ W)
    (hp : PlainL h' a (List.toArray vs')) (hs : Heap.SameBut a s₁.heap h') (hr : RepL h' [] xs' vs') (hsc : xs'.all PV.scalar = true) (he : storeNO sc x (.list xs', true) ρ = some ρ') : Px K A env sc W O F s .next ρ' .next { s₁ with heap := h' } := by
  obtain ⟨_, rfl⟩ := storeNO_some he
  have S1 := S.kp k
  have kw : KW [a] s₁ { s₁ with heap := h' } := KW.of (tk := s₁.toks) fun b o hb e => (hs.2 b (fun q => hb (List.mem_singleton.mpr q))).trans e
  obtain ⟨oa, xsa, na, hoa, hca, hda⟩ := S1.fe.cl a haO
  have hcar : ∀ b ∈ carr env, b ∉ [a] := fun b hb q => by
    obtain ⟨o, ho, hd⟩ := S1.pi.car b hb
    rw [List.mem_singleton.mp q, hoa] at ho; cases ho
    rcases hd with ⟨es, ep, hd⟩ | ⟨v, hd⟩ <;> (rw [hd] at hda; cases hda)
  have sim : SimT [a] s₁.heap h' := kw.simT
  have other : ∀ y V, y ≠ x → ρ.lookup y = some (V, true) → ∀ b, Hold env s₁.heap y (.ref b) → b ≠ a := fun y V hy e b hb q => by
    subst q
    exact S1.fe.di y x V _ b hy e hx hb ha
  have fe : FE env h' W O (rset x (.list xs', true) ρ) := by
    refine ⟨fun y V e => ?_, fun y V e => ?_, fun y z V V' b hyz e1 e2 h1 h2 => ?_, fun b hb => ?_⟩
    · rw [rset_lookup] at e
      by_cases hy : y = x
      · rw [if_pos hy] at e; cases e
      · rw [if_neg hy] at e
        obtain ⟨v, h1, h2⟩ := S1.fe.un y V e
        exact ⟨v, h1.kw kw hcar, Rep.sim (sim.mono fun b hb => by rw [List.mem_singleton.mp hb]; exact List.mem_append_right _ haO) _ _ h2⟩
    · rw [rset_lookup] at e
      by_cases hy : y = x
      · rw [if_pos hy] at e; cases e
        subst hy
        exact ⟨a, xs', vs', rfl, hsc, ha.kw kw hcar, haO, haW, hp.isList, hr, PlainL.dl hp⟩
      · rw [if_neg hy] at e
        obtain ⟨b, ys, us, e1, hsy, h1, h2, h3, ⟨o, ho, r⟩, h5, o2, ho2, hd2⟩ := S1.fe.ow y V e
        have hne := other y V hy e b h1
        have hb : b ∉ [a] := fun q => hne (List.mem_singleton.mp q)
        exact ⟨b, ys, us, e1, hsy, h1.kw kw hcar, h2, h3, ⟨o, kw.keep b o hb ho, r⟩, RepL.scalar hsy h5, o2, kw.keep b o2 hb ho2, hd2⟩
    · have back : ∀ y V, (rset x (.list xs', true) ρ).lookup y = some (V, true) → ∀ b, Hold env h' y (.ref b) → Hold env s₁.heap y (.ref b) ∧ ∃ V', ρ.lookup y = some (V', true) := fun y V e b hb => by
        rw [rset_lookup] at e
        by_cases hy : y = x
        · subst hy
          have := (ha.kw kw hcar).unique hb
          cases this
          exact ⟨ha, _, hx⟩
        · rw [if_neg hy] at e
          obtain ⟨c, _, _, _, _, h1, _⟩ := S1.fe.ow y V e
          have := (h1.kw kw hcar).unique hb
          cases this
          exact ⟨h1, _, e⟩
      obtain ⟨q1, V1, l1⟩ := back y V e1 b h1
      obtain ⟨q2, V2, l2⟩ := back z V' e2 b h2
      exact S1.fe.di y z V1 V2 b hyz l1 l2 q1 q2
    · by_cases hba : b = a
      · subst hba
        obtain ⟨o, nn, h1, h2, _, h4⟩ := hp
        exact ⟨o, _, nn, h1, h2, h4⟩
      · obtain ⟨o, xs, nn, h1, h2, h3⟩ := S1.fe.cl b hb
        exact ⟨o, xs, nn, kw.keep b o (fun q => hba (List.mem_singleton.mp q)) h1, h2, h3⟩
  refine ⟨O, (FK.of_kp k).trans (FK.of_kw (kw.mono fun b hb => by rw [List.mem_singleton.mp hb]; exact List.mem_append_right _ haO)), fe, ?_, S1.lay.kw kw hcar, fun b h => .inl h, rfl⟩
  refine S1.pi.kwX kw (fun b hb => by rw [List.mem_singleton.mp hb]; exact S1.pi.nb a (List.mem_append_right _ haO)) (fun b hb q => S1.pi.hf b hb (by rw [List.mem_singleton.mp q]; exact List.mem_append_right _ haO)) hcar fun b hb => ?_
  by_cases hba : b = a
  · subst hba
    obtain ⟨o, _, ho, _⟩ := hp
    exact ⟨o, ho⟩
  · obtain ⟨o, ho⟩ := S1.pi.ex b hb
    exact ⟨o, kw.keep b o (fun q => hba (List.mem_singleton.mp q)) ho⟩

theorem augO_some {p : Ent} {k : PV} {q : List PV × Nat × Int} (h : augO p k = some q) : ∃ xs j old, p = (.list xs, true) ∧ k = .int (j : Nat) ∧ q = (xs, j, old) ∧ xs.length ≤ 1000 ∧ j < xs.length ∧ xs[j]? = some (.int old) := by
  obtain ⟨V, o⟩ := p
  unfold augO at h
  cases o with
  | false => cases h
  | true =>
    obtain ⟨xs, h1, h2⟩ := Option.bind_eq_some_iff.mp h
    obtain ⟨jj, h3, h4⟩ := Option.bind_eq_some_iff.mp h2
    cases listV_some h1
    cases intV_some h3
    split at h4
    · rename_i hc
      obtain ⟨v, h5, h6⟩ := Option.bind_eq_some_iff.mp h4
      obtain ⟨old, h7, h8⟩ := Option.map_eq_some_iff.mp h6
      cases intV_some h7
      cases h8
      obtain ⟨c1, c2, c3⟩ := hc
      exact ⟨xs, jj.toNat, old, rfl, by rw [Int.toNat_of_nonneg c2], rfl, c1, (Int.toNat_lt c2).mpr c3, h5⟩
    · cases h4
theorem augVO_some {op : Operator} {a c : Int} {b : PV} (h : augVO op a b = some c) : ∃ d, b = .int d ∧ (op = .Add ∧ c = a + d ∨ op = .Sub ∧ c = a - d) := by
  unfold augVO at h
  split at h
  · obtain ⟨d, h1, h2⟩ := Option.map_eq_some_iff.mp h
    exact ⟨d, intV_some h1, .inl ⟨rfl, h2.symm⟩⟩
  · obtain ⟨d, h1, h2⟩ := Option.map_eq_some_iff.mp h
    exact ⟨d, intV_some h1, .inr ⟨rfl, h2.symm⟩⟩
  · cases h

theorem fit_small {j : Nat} (h : j ≤ 1000) : (j : Int) < 2 ^ 63 := by omega
theorem sub_plain {i : PySem.Expr} (h : isSl i = false) : ∀ ov iv new, augStore i ov iv new = (do holding [new, ov, iv] (setItem ov iv new); release [new, ov, iv] []; pure .next) := by
  intro ov iv new
  cases i with
  | Slice _ _ _ _ => exact Bool.noConfusion (show true = false from h)
  | _ => rfl

theorem SX_set (HE : SE K G n) {x : Str} {xp sp pos : Pos} {i e : PySem.Expr} {op : Operator} {Q : Flow → Shared → Prop} (S : Sv K G C n sc ρ A env W O F sF s)
    (g : Gs K A env sc W O F sF s (if isSl i then .stuck else (ownE sc ρ x).bind fun p => (evE n C sc ρ i).bind fun k => (augG p k).bind fun q => (evE n C sc ρ e).bind fun b => (augV op q.2.2 b).bind fun w =>
        (storeN sc x (.list (q.1.set q.2.1 (.int w)), true) ρ).bind fun ρ' => .ok (.next, ρ')) Q E) : wpAny (model K.prog K.w) A (exec (.AugAssign (.Subscript (.Name x xp) i sp) op e pos) env) Q E s := by
  cases hsl : isSl i with
  | true => rw [hsl] at g; exact absurd rfl g.ns
  | false =>
    rw [hsl, if_neg (by simp)] at g
    obtain ⟨⟨V, o⟩, ho, g2⟩ := Gs.opt g
    obtain ⟨hl, kx, hkx⟩ := ownE_some ho
    obtain ⟨v, h1, h2⟩ := S.fe.ee x V o hl
    refine wpAny_AugAssign_Subscript_any (wpAny_Name (own_load S.es h1 ?_) (not_debug S.es hkx)) (sub_plain hsl)
    refine wpAny_mono (HE C sc ρ i A env W F s _ E S.ev (g2.gd S (R := fun V v s' => Rep s'.heap W V v))) (fun iv s₁ h₁ => ?_) fun _ _ e => e
    obtain ⟨Vi, hi, k1, hevi⟩ := h₁
    obtain ⟨q, hg, g4⟩ := Gs.opt (g2.then hevi)
    obtain ⟨xs, j, old, e1, rfl, rfl, hlen, hj, hxj⟩ := augO_some hg
    cases e1
    obtain ⟨ti, rfl⟩ := hi
    obtain ⟨a, xs', vs, e2, hsc, hH, haO, haW, hIs, hRl, hDl⟩ := (S.kp k1).fe.ow x (.list xs) hl
    cases e2
    have e3 := (h1.sim (k1.simX _)).unique hH
    cases e3
    obtain ⟨vo, hvo, hro⟩ := RepL.get hRl hxj
    obtain ⟨to, rfl⟩ := hro
    refine wpAny_getItem_list hIs (Int.natCast_nonneg j) (fit_small (Nat.le_trans (Nat.le_of_lt hj) hlen)) (x := .int old to) (by simpa using hvo) ?_
    refine wpAny_mono (HE C sc ρ e A env W F s₁ (fun bv s₂ => ∃ Vb, Rep s₂.heap W Vb bv ∧ Kp F s s₂ ∧ evE n C sc ρ e = .ok Vb) E (S.kp k1).ev ?_) (fun bv s₂ h₂ => ?_) fun _ _ e => e
    · have gg := g4.gd S (R := fun V v s' => Rep s'.heap W V v)
      exact ⟨gg.ns, fun V q v s' k' h => ⟨V, h, k1.trans k', q⟩, fun q e s' t => gg.tie q e s' (t.from k1)⟩
    · obtain ⟨Vb, hb, k2, hevb⟩ := h₂
      obtain ⟨wv, hw, g6⟩ := Gs.opt (g4.then hevb)
      obtain ⟨ρ', hst, g7⟩ := Gs.opt g6
      have S2 := S.kp k2
      obtain ⟨a2, xs2, vs2, e4, hsc2, hH2, haO2, haW2, hIs2, hRl2, hDl2⟩ := S2.fe.ow x (.list xs) hl
      cases e4
      have e5 := (h1.sim (k2.simX _)).unique hH2
      cases e5
      have fin : ∀ t s₃, s₃ = { s₂ with toks := t } → ∀ u, wpAny (model K.prog K.w) A (setItem (.ref a) (.int (j : Int) ti) (.int wv u)) (fun _ => Q .next) E s₃ := by
        rintro t s₃ rfl u
        have k3 : Kp F s { s₂ with toks := t } := k2.trans (Kp.tok _ _ _)
        have hlv := hRl2.length
        have hpl : PlainL s₂.heap a vs2.toArray := by
          obtain ⟨o, ho, hc, nn, hd⟩ := hIs2
          obtain ⟨o', ho', hd'⟩ := hDl2
          rw [ho] at ho'; cases ho'
          exact ⟨o, nn, ho, hc, hd', hd⟩
        have hall : (xs.set j (.int wv)).all PV.scalar = true := by
          rw [List.all_eq_true]
          intro y hy
          rcases List.mem_or_eq_of_mem_set hy with h | h
          · exact List.all_eq_true.mp hsc2 y h
          · subst h; rfl
        refine set_plain (s := { s₂ with toks := t }) hpl rfl (by rw [List.size_toArray, hlv]; exact hj) (fit_small (Nat.le_trans (Nat.le_of_lt hj) hlen)) fun h' hp' hs' => ?_
        exact g7.ok .next ρ' rfl .next _ (mut_ok S k3 hl hH2 haO2 haW2 (vs' := vs2.set j (.int wv u)) (by simpa using hp') hs' (RepL.scalar (h := s₂.heap) hall (RepL.set j hRl2 ⟨u, rfl⟩)) hall hst)
      obtain ⟨d, rfl, hop⟩ := augVO_some hw
      obtain ⟨u, rfl⟩ := hb
      rcases hop with ⟨rfl, rfl⟩ | ⟨rfl, rfl⟩
      · exact PySem.P.iadd_int (fin _ _ rfl _)
      · exact PySem.P.isub_int (fin _ _ rfl _)
end
end Mine
end
section
namespace Mine
open PySem PySem.W PyProof.Rows

section
variable {K : Kt} {G : GL} {n : Nat} {C : Cx} {sc : Scope} {ρ ρ' : Rho} {A : Around} {env : Env} {W O F : List Addr} {sF s : Shared} {E : Value → Shared → Prop}

theorem not_interactive (ES : EnvS env sc) : interactive env = false := by
  unfold interactive
  rw [ES.scope, ES.kind]; rfl

theorem listO_some {p : Ent} {xs : List PV} (h : listO p = some xs) : p = (.list xs, true) ∧ xs.length ≤ 1000 := by
  obtain ⟨V, o⟩ := p
  unfold listO at h
  cases o with
  | false => cases h
  | true =>
    obtain ⟨ys, h1, h2⟩ := Option.bind_eq_some_iff.mp h
    cases listV_some h1
    split at h2
    · rename_i hl; cases h2; exact ⟨rfl, hl⟩
    · cases h2

theorem SX_append (HE : SE K G n) {x : Str} {xp apos cp pos : Pos} {m : Str} {e : PySem.Expr} {Q : Flow → Shared → Prop} (S : Sv K G C n sc ρ A env W O F sF s)
    (g : Gs K A env sc W O F sF s (if m = Str.ofString "append" ∧ (apos.endLine == cp.line) = true ∧ plainArg e = true then (ownE sc ρ x).bind fun p => (listG p).bind fun xs => (evE n C sc ρ e).bind fun b => if b.scalar = true then (storeN sc x (.list (xs ++ [b]), true) ρ).bind fun ρ' => .ok (.next, ρ') else .stuck
        else .stuck) Q E) : wpAny (model K.prog K.w) A (exec (.Expr (.Call (.Attribute (.Name x xp) m apos) [e] [] cp) pos) env) Q E s := by
  by_cases hc : m = Str.ofString "append" ∧ (apos.endLine == cp.line) = true ∧ plainArg e = true
  · rw [if_pos hc] at g
    obtain ⟨rfl, hline, hpl⟩ := hc
    have hst : starEach [e] env = [(false, eval e env)] := star1 hpl
    obtain ⟨p, ho, g2⟩ := Gs.opt g
    obtain ⟨xs, hlg, g3⟩ := Gs.opt g2
    obtain ⟨rfl, hlen⟩ := listO_some hlg
    obtain ⟨hl, kx, hkx⟩ := ownE_some ho
    obtain ⟨a, xs', vs, e1, hsc, hH, haO, haW, hIs, hRl, hDl⟩ := S.fe.ow x (.list xs) hl
    cases e1
    have plain : ∀ {s₁ : Shared} {ws : List Value}, s₁.heap.IsList a ws.toArray → DL s₁.heap a → PlainL s₁.heap a ws.toArray := fun ⟨o, ho, hc, nn, hd⟩ ⟨o', ho', hd'⟩ => by
      rw [ho] at ho'; cases ho'
      exact ⟨o, nn, ho, hc, hd', hd⟩
    have hfew : ((backTo cp (starEach [e] env)).all (fun x => !x.1) && (backToKw cp (keywordEach [] env)).all (fun x => x.1.isSome)
      && decide (([e] : List PySem.Expr).length + ([] : List Keyword).length + (if ([] : List Keyword).isEmpty then 0 else 1) < 30)) = true := by rw [hst]; rfl
    refine wpAny_Expr ?_ (not_interactive S.es) rfl
    refine wpAny_Call_append rfl hfew hline (by rw [hst]; rfl) (wpAny_Name (own_load S.es hH ⟨a, _, rfl, plain hIs hDl, ?_⟩) (not_debug S.es hkx))
    refine wpAny_mono (HE C sc ρ e A env W F s _ E S.ev (g3.gd S (R := fun V v s' => Rep s'.heap W V v))) (fun bv s₁ h₁ => ?_) fun _ _ e => e
    obtain ⟨Vb, hb, k, hev⟩ := h₁
    have g4 := g3.then hev
    by_cases hbs : Vb.scalar = true
    · rw [if_pos hbs] at g4
      obtain ⟨ρ', hstn, g5⟩ := Gs.opt g4
      obtain ⟨a2, xs2, vs2, e4, hsc2, hH2, haO2, haW2, hIs2, hRl2, hDl2⟩ := (S.kp k).fe.ow x (.list xs) hl
      cases e4
      have e5 := (hH.sim (k.simX _)).unique hH2
      cases e5
      refine list_append_plainL (plain hIs2 hDl2) (fun h' hp' hs' => ?_) (by rw [List.size_toArray, hRl2.length]; exact Nat.le_trans hlen sz_1000)
      have hall : (xs ++ [Vb]).all PV.scalar = true := by rw [List.all_append, hsc2]; simp [hbs]
      exact g5.ok .next ρ' rfl .next _ (mut_ok S k hl hH2 haO2 haW2 (vs' := vs2 ++ [bv]) (by simpa using hp') hs' (RepL.scalar (h := s₁.heap) (O := []) hall (RepL.snoc hRl2 (Rep.scalar hbs hb))) hall hstn)
    · rw [if_neg hbs] at g4; exact absurd rfl g4.ns
  · rw [if_neg hc] at g; exact absurd rfl g.ns

theorem Gs.shift {r : Res (MFlow × Rho)} {s₁ : Shared} {Q : Flow → Shared → Prop} (S : Sv K G C n sc ρ A env W O F sF s) (g : Gs K A env sc W O F sF s r Q E) (k : Kp F s s₁) : Gs K A env sc W O F sF s₁ r Q E :=
  ⟨g.ns, fun f ρ' q fl s' p => g.ok f ρ' q fl s' (p.after (FK.of_kp k) (fun _ h => .inl h) (S.kp k).lay S.nd), g.tie⟩

theorem SX_if (HT : ST K G n) (HX : SXS K G n) {t : PySem.Expr} {a b : List Stmt} {pos : Pos} {Q : Flow → Shared → Prop} (S : Sv K G C n sc ρ A env W O F sF s)
    (g : Gs K A env sc W O F sF s ((evT n C sc ρ t).bind fun c => if c then exs n C sc ρ a else exs n C sc ρ b) Q E) : wpAny (model K.prog K.w) A (exec (.If t a b pos) env) Q E s := by
  refine wpAny_If (wpAny_mono (HT C sc ρ t A env W F s _ E S.ev (g.gd S (R := fun V v _ => v = V))) (fun c s₁ h₁ => ?_) fun _ _ e => e)
  obtain ⟨V, rfl, k, hev⟩ := h₁
  have g2 := (g.then hev).shift S k
  cases c with
  | true => exact HX C sc ρ a A env W O F sF s₁ Q E (S.kp k) g2
  | false => exact HX C sc ρ b A env W O F sF s₁ Q E (S.kp k) g2

theorem SX_return (HE : SE K G n) {e : PySem.Expr} {pos : Pos} {Q : Flow → Shared → Prop} (S : Sv K G C n sc ρ A env W O F sF s)
    (g : Gs K A env sc W O F sF s ((evE n C sc ρ e).bind fun v => .ok (.ret v, ρ)) Q E) : wpAny (model K.prog K.w) A (exec (.Return (some e) pos) env) Q E s := by
  refine wpAny_Return_some (wpAny_mono (HE C sc ρ e A env W F s _ E S.ev (g.gd S (R := fun V v s' => Rep s'.heap W V v))) (fun v s₁ h₁ => ?_) fun _ _ e => e)
  obtain ⟨V, hv, k, hev⟩ := h₁
  have S1 := S.kp k
  exact (g.then hev).ok (.ret V) ρ rfl _ s₁ ⟨O, FK.of_kp k, S1.fe, S1.pi, S1.lay, fun _ h => .inl h, v, rfl, hv⟩

theorem SX_raise (GK : GOK K G) {x : Str} {np cp kp pos : Pos} {msg : Str} {kk : Nat} {Q : Flow → Shared → Prop} (S : Sv K G C n sc ρ A env W O F sF s)
    (g : Gs K A env sc W O F sF s (if x = Str.ofString "TiesException" ∧ isG C.G sc x = true ∧ C.hd = false ∧ C.pure = false then .tie else .stuck) Q E) :
    wpAny (model K.prog K.w) A (exec (.Raise (some (.Call (.Name x np) [.Constant (.str msg) kk kp] [] cp)) none pos) env) Q E s := by
  by_cases hc : x = Str.ofString "TiesException" ∧ isG C.G sc x = true ∧ C.hd = false ∧ C.pure = false
  · rw [if_pos hc] at g
    obtain ⟨hx, hG, hh, _⟩ := hc
    rw [S.g] at hG
    obtain ⟨q1, q2, q3⟩ := isG_spec hG
    obtain ⟨m1, nm, q, N, bs, hdct, sn, sub, ab, col, dd, k0, k1, k2, k3, k5, hC, mN, hN, hni⟩ := GK.ties
    refine wpAny_Raise_call_sub (nm := nm) (q := q) (C := K.tc) (N := N) (bs := bs) (hdct := hdct) (sn := sn) (sub := sub) (ab := ab) (col := col) (dd := dd) (k0 := k0) (k1 := k1) (k2 := k2) (k3 := k3) (k5 := k5) PySem.F.excBase_Exception (S.hh hh) rfl hni (global_load GK S.es S.pi.st q1 (by rw [hx]; exact m1) ⟨rfl, ?_⟩)
    refine Calls.evalArgs_plain (Calls.spliced_cons (Calls.Constant_str (k := kk) (pos := kp) (Calls.spliced_nil ⟨rfl, ?_, S.pi.st _ _ hC, hN.keeps S.pi.st, fun h' e hm => ?_⟩)))
    · show 1 ≤ sizeLine
      rw [sizeLine_eq]; decide
    · have kp : Kp [] s { s with heap := h', toks := s.toks + 1 } := Kp.of hm.keeps
      obtain ⟨t, he, htn, ht⟩ := hm.there
      refine g.tie rfl e _ false ⟨S.kF.trans (kp.mono (by simp)), S.kF.none_of hm.new, _, _, he, rfl, rfl, rfl, .inl ⟨rfl, rfl⟩⟩ (S.frOK.kp kp)
  · rw [if_neg hc] at g; exact absurd rfl g.ns
end
end Mine
end
section
namespace Mine
open PySem PySem.W PyProof.Rows

section
variable {K : Kt} {G : GL} {n : Nat} {C : Cx} {sc : Scope} {ρ ρ' : Rho} {A : Around} {env : Env} {W O F : List Addr} {sF s : Shared} {E : Value → Shared → Prop}

theorem FrOK.mark {h : Option Value} {hp : Heap} (x : FrOK A env F hp) : FrOK (A.mark h) env F hp := ⟨x.fr, x.fl⟩
theorem FrOK.unmark {h : Option Value} {hp : Heap} (x : FrOK (A.mark h) env F hp) : FrOK A env F hp := ⟨x.fr, x.fl⟩

theorem SX_try (GK : GOK K G) (HE : SE K G n) (HX : SXS K G n) {x : Str} {e : PySem.Expr} {rp np hp pos : Pos} {b₀ : Stmt} {hb : List Stmt} {Q : Flow → Shared → Prop} (S : Sv K G C n sc ρ A env W O F sF s)
    (g : Gs K A env sc W O F sF s (if x = Str.ofString "TiesException" ∧ isG C.G sc x = true ∧ C.hd = false ∧ C.pure = false then
          (match evE n C sc ρ e with
          | .ok v => .ok (.ret v, ρ)
          | .tie => exs n { C with hd := true } sc ρ (b₀ :: hb)
          | .stuck => .stuck)
        else .stuck) Q E) :
    wpAny (model K.prog K.w) A (exec (.Try [.Return (some e) rp] [.ExceptHandler (some (.Name x np)) none (b₀ :: hb) hp] [] [] pos) env) Q E s := by
  by_cases hc : x = Str.ofString "TiesException" ∧ isG C.G sc x = true ∧ C.hd = false ∧ C.pure = false
  · rw [if_pos hc] at g
    obtain ⟨hx, hG, hh, _⟩ := hc
    rw [S.g] at hG
    obtain ⟨q1, q2, q3⟩ := isG_spec hG
    obtain ⟨m1, nm, qn, N, bs, hdct, sn, sub, ab, col, dd, k0, k1, k2, k3, k5, hC, mN, hN, hni⟩ := GK.ties
    have hhn := S.hh hh
    refine wpAny_Try_except (wpAny_execs_cons (wpAny_Return_some (HE C sc ρ e A env W F s _ _ S.ev ⟨fun q => ?_, fun V q v s₁ k hv => ?_, fun q ex s₁ t => ?_⟩)))
    · rw [q] at g; exact g.ns rfl
    · rw [q] at g
      have S1 := S.kp k
      exact g.ok (.ret V) ρ rfl _ s₁ ⟨O, FK.of_kp k, S1.fe, S1.pi, S1.lay, fun _ h => .inl h, v, rfl, hv⟩
    · rw [q] at g
      refine note_ok (S.frOK.kp t.kp) t fun s₂ t₂ f₂ => flight_ok f₂ t₂ fun s₃ t₃ f₃ => ?_
      have S3 := S.kp t₃.kp
      obtain ⟨oe, vs, heo, hec, _⟩ := t₃.obj
      refine wpAny_handleBy_cons ?_ (by intro z; cases z)
      refine codeAny_handlers_test (global_load GK S.es S3.pi.st q1 (by rw [hx]; exact m1) ?_)
      refine wpAny_excMatches_sub_self (nm := nm) (q := qn) (N := N) (bs := bs) (bm := [.type "Exception", .type "BaseException", .type "object"]) (hdct := hdct) (sn := sn) (sub := sub) (ab := ab) (col := col) (dd := dd) (k0 := k0) (k1 := k1) (k2 := k2) (k3 := k3) (k5 := k5) (S3.pi.st _ _ hC) heo hec (by decide) ?_
      rw [if_pos rfl]
      show codeAny _ _ _ _ _
      refine codeAny_handlers_suite (flight_ok f₃.mark t₃ fun s₄ t₄ f₄ => ?_)
      have S4 := S.kp t₄.kp
      have hnew := t₄.new
      have pim : PI K.base (A.mark (some (.ref ex))) env (W ++ O) s₄.heap := by
        refine ⟨S4.pi.st, .inr ⟨ex, rfl, t₄.hd⟩, fun b hb q => ?_, S4.pi.ex, S4.pi.car, S4.pi.nb, S4.pi.nc⟩
        have : b = ex := by simpa [hfp, Around.mark] using hb
        subst this
        obtain ⟨o, ho⟩ := S.pi.ex b q
        rw [hnew] at ho; cases ho
      have Sm : Sv K G { C with hd := true } n sc ρ (A.mark (some (.ref ex))) env W O F sF s₄ :=
        { g := S.g, np := S.np, es := S.es, ls := S.ls, lay := S4.lay, hh := fun z => (by cases z), un' := S.un', dp := S.dp, fo := S.fo, fl := S.fl, fb := S.fb, fe := S4.fe, pi := pim, kF := S4.kF, fr := S.fr, nd := S.nd }
      refine HX _ sc ρ (b₀ :: hb) (A.mark (some (.ref ex))) env W O F sF s₄ _ _ Sm ⟨g.ns, fun f ρ' q fl s₅ px => ?_, fun q e2 s₅ b t₅ f₅ => ?_⟩
      · obtain ⟨O', k, fe, pi, lay, hO, hfl⟩ := px
        have px' : Px K A env sc W O F s₄ f ρ' fl s₅ := ⟨O', k, fe, ⟨pi.st, .inl hhn, fun b hb => (by simp [hfp, hhn] at hb), pi.ex, pi.car, pi.nb, pi.nc⟩, lay, hO, hfl⟩
        exact g.ok f ρ' q fl s₅ (px'.after (FK.of_kp t₄.kp) (fun _ h => .inl h) S4.lay S.nd)
      · exact note_ok f₅ t₅ fun s₆ t₆ f₆ => came_ok f₆.unmark t₆ fun s₇ t₇ f₇ => g.tie q e2 s₇ true t₇ f₇
  · rw [if_neg hc] at g; exact absurd rfl g.ns
end
end Mine
end
section
namespace Mine
open PySem PySem.W PyProof.Rows

section
variable {K : Kt} {G : GL} {n : Nat} {C : Cx} {sc : Scope} {ρ ρ' : Rho} {A : Around} {env : Env} {W O F : List Addr} {sF s : Shared} {E : Value → Shared → Prop}

theorem FE.addW {h : Heap} {wr : List Addr} (f : FE env h W O ρ) (hw : ∀ a ∈ wr, h.get? a = none) (ho : ∀ a ∈ O, ∃ o, h.get? a = some o) : FE env h (W ++ wr) O ρ := by
  refine ⟨fun x V e => ?_, fun x V e => ?_, f.di, f.cl⟩
  · obtain ⟨v, h1, h2⟩ := f.un x V e
    refine ⟨v, h1, Rep.less (fun a ha => ?_) _ _ (Rep.avoid hw h2)⟩
    simp only [List.mem_append] at ha ⊢
    rcases ha with (ha | ha) | ha
    · exact .inl (.inl ha)
    · exact .inr ha
    · exact .inl (.inr ha)
  · obtain ⟨a, xs, vs, e1, hs, h1, h2, h3, r⟩ := f.ow x V e
    refine ⟨a, xs, vs, e1, hs, h1, h2, fun q => ?_, r⟩
    rcases List.mem_append.mp q with q | q
    · exact h3 q
    · obtain ⟨o, ho⟩ := ho a h2
      rw [hw a q] at ho; cases ho
theorem FE.lessW {h : Heap} {W' : List Addr} (f : FE env h W' O ρ) (hw : ∀ a ∈ W, a ∈ W') : FE env h W O ρ := by
  refine ⟨fun x V e => ?_, fun x V e => ?_, f.di, f.cl⟩
  · obtain ⟨v, h1, h2⟩ := f.un x V e
    refine ⟨v, h1, Rep.less (fun a ha => ?_) _ _ h2⟩
    rcases List.mem_append.mp ha with ha | ha
    · exact List.mem_append_left _ (hw a ha)
    · exact List.mem_append_right _ ha
  · obtain ⟨a, xs, vs, e1, hs, h1, h2, h3, r⟩ := f.ow x V e
    exact ⟨a, xs, vs, e1, hs, h1, h2, fun q => h3 (hw a q), r⟩

theorem SX_for (HI : SI K G n) (HX : SXS K G n) {t it : PySem.Expr} {body : List Stmt} {pos : Pos} {Q : Flow → Shared → Prop} (S : Sv K G C n sc ρ A env W O F sF s)
    (g : Gs K A env sc W O F sF s ((evI n C sc (unowned ρ) t it).bind fun items => if items.length ≤ szLine then
        forR (fun v ρ₁ => (storeT C.hd sc t v ρ₁).bind fun ρ₂ => exs n C sc ρ₂ body) items ρ else .stuck) Q E) :
    wpAny (model K.prog K.w) A (exec (.For t it body [] pos) env) Q E s := by
  have gd := g.gd S (R := SrcR K A t (W ++ O) s)
  refine wpAny_For (HI C sc (unowned ρ) t it A env (W ++ O) F s _ E S.eu gd |> fun h => wpAny_mono h (fun _ _ h => wpAny_mono h (fun iv s₂ h₂ => ?_) fun _ _ e => e) fun _ _ e => e) (fun y => folded_of (noSet_of gd.ns) env y)
  obtain ⟨items, ⟨I, fp, wr, It, St, rfl, Sr⟩, k, hit⟩ := h₂
  have g2 := g.then hit
  by_cases hlen : items.length ≤ szLine
  · rw [if_pos hlen] at g2
    generalize hbody : (fun (v : PV) (ρ₁ : Rho) => (storeT C.hd sc t v ρ₁).bind fun ρ₂ => exs n C sc ρ₂ body) = f at g2
    -- facts of the source
    have S2 := S.kp k
    have wrs : ∀ b ∈ wr, s.heap.get? b = none := Sr.new
    have wrF : ∀ b ∈ wr, sF.heap.get? b = none := fun b hb => S.kF.none_of (wrs b hb)
    have wrb : ∀ b ∈ wr, K.base.get? b = none := fun b hb => S.pi.fresh (wrs b hb)
    have wfp := Sr.dr.sub
    have fpe : ∀ b ∈ fp, ∃ o, s₂.heap.get? b = some o := Sr.dr.ex _ _ Sr.st
    have carfp : ∀ b ∈ carr env, b ∉ fp := fun b hb q => by
      obtain ⟨o, ho, hd⟩ := S.pi.car b hb
      have := (Sr.off b q).2 o ho
      rcases hd with ⟨es, ep, hd⟩ | ⟨v, hd⟩
      · exact this.1 es ep hd
      · exact this.2 v hd
    have carwr : ∀ b ∈ carr env, b ∉ wr := fun b hb q => carfp b hb (wfp b q)
    have Ffp : ∀ b ∈ fp, b ∉ F := fun b hb q => by
      obtain ⟨o, es, ep, ho, hd⟩ := S.fdd b q
      exact ((Sr.off b hb).2 o ho).1 es ep hd
    have hfwr : ∀ b ∈ hfp A, b ∉ wr := fun b hb q => by
      obtain ⟨o, ho⟩ := S.pi.hd.ex b hb
      rw [wrs b q] at ho; cases ho
    have piW : ∀ {Oi : List Addr} {s' : Shared}, PI K.base A env (W ++ Oi) s'.heap → (∀ b ∈ wr, ∃ o, s'.heap.get? b = some o) → PI K.base A env (W ++ wr ++ Oi) s'.heap := fun {Oi s'} P ex => by
      refine ⟨P.st, P.hd, fun b hb q => ?_, fun b hb => ?_, P.car, fun b hb => ?_, P.nc⟩
      · simp only [List.mem_append] at q
        rcases q with (q | q) | q
        · exact P.hf b hb (List.mem_append_left _ q)
        · exact hfwr b hb q
        · exact P.hf b hb (List.mem_append_right _ q)
      · simp only [List.mem_append] at hb
        rcases hb with (q | q) | q
        · exact P.ex b (List.mem_append_left _ q)
        · exact ex b q
        · exact P.ex b (List.mem_append_right _ q)
      · simp only [List.mem_append] at hb
        rcases hb with (q | q) | q
        · exact P.nb b (List.mem_append_left _ q)
        · exact wrb b q
        · exact P.nb b (List.mem_append_right _ q)
    have hOe : ∀ a ∈ O, ∃ o, s.heap.get? a = some o := fun a ha => S.pi.ex a (List.mem_append_right _ ha)
    have S2w : Sv K G C n sc ρ A env (W ++ wr) O F sF s₂ := { S2 with fe := (S.fe.addW wrs hOe).kp k, pi := piW S2.pi fun b hb => fpe b (wfp b hb) }
    refine codeAny_forLoop_any (fun kk s' => ∃ i ρi Oi, kk = items.length - i ∧ i ≤ items.length ∧ forR f (items.drop i) ρi = forR f items ρ ∧ St i s'.heap ∧ Sv K G C n sc ρi A env (W ++ wr) Oi F sF s' ∧
      FK F (ownL env sc ++ (O ++ wr)) s₂ s' ∧ (∀ a ∈ Oi, a ∈ O ∨ s₂.heap.get? a = none)) (fun kk s' hI => ?_) items.length
      ⟨0, ρ, O, rfl, Nat.zero_le _, rfl, Sr.st, S2w, FK.of_kp (Kp.refl _ _), fun a h => .inl h⟩
    obtain ⟨i, ρi, Oi, rfl, hi, hr, hst, Si, hFK, hOi⟩ := hI
    have Oi_wr : ∀ a ∈ Oi, a ∉ wr := fun a ha q => by
      rcases hOi a ha with h | h
      · obtain ⟨o, ho⟩ := hOe a h
        rw [wrs a q] at ho; cases ho
      · obtain ⟨o, ho⟩ := fpe a (wfp a q)
        rw [h] at ho; cases ho
    have Oi_fp : ∀ a ∈ Oi, a ∉ fp := fun a ha q => by
      rcases hOi a ha with h | h
      · exact (Sr.off a q).1 (List.mem_append_right _ h)
      · obtain ⟨o, ho⟩ := fpe a q
        rw [h] at ho; cases ho
    -- from the loop's states back to s
    have toPx : ∀ {Ox : List Addr} {s₄ : Shared} {fl : Flow} {m : MFlow} {ρ' : Rho}, FK F (ownL env sc ++ (O ++ wr)) s₂ s₄ → FE env s₄.heap (W ++ wr) Ox ρ' → PI K.base A env (W ++ wr ++ Ox) s₄.heap → Lay env sc s₄.heap → (∀ a ∈ Ox, a ∈ O ∨ s₂.heap.get? a = none) → FlowIs (W ++ wr) m fl s₄ →
        Px K A env sc W O F s m ρ' fl s₄ := by
      intro Ox s₄ fl m ρ' h1 h2 h3 h4 h5 h6
      refine ⟨Ox, ?_, h2.lessW (fun a ha => List.mem_append_left _ ha), h3.less (fun a ha => ?_), h4, fun a ha => (h5 a ha).imp id fun q => k.none_of q, ?_⟩
      · have off : ∀ b o, b ∉ ownL env sc ++ O → s.heap.get? b = some o → b ∉ ownL env sc ++ (O ++ wr) := fun b o hb e q => by
          simp only [List.mem_append] at q hb
          rcases q with q | q | q
          · exact hb (.inl q)
          · exact hb (.inr q)
          · rw [wrs b q] at e; cases e
        obtain ⟨ha, ta, rfl⟩ := k.same
        obtain ⟨hb, tb, rfl⟩ := h1.same
        refine ⟨⟨hb, tb, rfl⟩, fun b o hb' hf e => h1.keep b o (off b o hb' e) hf (k.keep b o hf e), fun b o hb' e => ?_⟩
        obtain ⟨sl, e'⟩ := k.slot b o e
        obtain ⟨sl', e''⟩ := h1.slot b _ (off b o hb' e) e'
        exact ⟨sl', e''⟩
      · simp only [List.mem_append] at ha ⊢
        rcases ha with ha | ha
        · exact .inl (.inl ha)
        · exact .inr ha
      · cases m with
        | next => exact h6
        | ret V =>
          obtain ⟨v, q1, q2⟩ := h6
          exact ⟨v, q1, Rep.less (fun a ha => List.mem_append_left _ ha) _ _ q2⟩
    by_cases hlt : i < items.length
    · obtain ⟨V, hV, hdrop⟩ := mem_split_at hlt
      rw [hdrop] at hr
      refine Sr.dr.item i s' _ _ hlt hst fun v s₁ hgo => ?_
      refine hgo _ _ fun s₃ hst3 hIt k3 => ?_
      -- after the draw
      have ex3 : ∀ a ∈ W ++ Oi, ∃ o, s₃.heap.get? a = some o := fun a ha => by
        have ha' : a ∈ W ++ wr ++ Oi := by
          simp only [List.mem_append] at ha ⊢
          rcases ha with ha | ha
          · exact .inl (.inl ha)
          · exact .inr ha
        obtain ⟨o, ho⟩ := Si.pi.ex a ha'
        refine ⟨o, k3.keep a o (fun q => ?_) ho⟩
        rcases List.mem_append.mp ha with ha | ha
        · obtain ⟨o', ho'⟩ := S.pi.ex a (List.mem_append_left _ ha)
          rw [wrs a q] at ho'; cases ho'
        · exact Oi_wr a ha q
      have ex3w : ∀ b ∈ fp, ∃ o, s₃.heap.get? b = some o := Sr.dr.ex _ _ hst3
      have S3 : Sv K G C n sc ρi A env (W ++ wr) Oi F sF s₃ :=
        { Si with lay := Si.lay.kw k3 carwr, fe := Si.fe.kw k3 carwr k3.simT (fun b hb => List.mem_append_right _ hb) Oi_wr,
                  pi := Si.pi.kwX k3 wrb hfwr carwr fun a ha => (by
                    simp only [List.mem_append] at ha
                    rcases ha with (ha | ha) | ha
                    · exact ex3 a (List.mem_append_left _ ha)
                    · exact ex3w a (wfp a ha)
                    · exact ex3 a (List.mem_append_right _ ha)),
                  kF := Si.kF.kw_fresh k3 wrF }
      have sim3 : SimT (W ++ O ++ wr ++ Oi.filter (fun a => decide (a ∉ O))) s₂.heap s₃.heap := by
        refine SimT.trans (h₂ := s'.heap) (fun b o hb e q => ?_) (k3.simT.mono fun b hb => List.mem_append_left _ (List.mem_append_right _ hb))
        have hbx : b ∉ ownL env sc ++ (O ++ wr) := fun z => by
          simp only [List.mem_append] at z hb
          rcases z with z | z | z
          · obtain ⟨o', ho', hd'⟩ := S2.lay.own S.nd b z
            rw [e] at ho'; cases ho'
            obtain ⟨xs, nn, q⟩ := q
            rcases hd' with ⟨es, ep, hd'⟩ | ⟨v, hd'⟩ <;> (rw [hd'] at q; cases q)
          · exact hb (.inl (.inl (.inr z)))
          · exact hb (.inl (.inr z))
        obtain ⟨sl, e'⟩ := hFK.slot b o hbx e
        exact ⟨_, e', rfl, rfl⟩
      have hrep : Rep s₃.heap (W ++ wr ++ Oi) V v := by
        refine Sr.rep (Oi.filter (fun a => decide (a ∉ O))) (fun a ha => ?_) (W ++ wr ++ Oi) (fun a ha => ?_) s'.heap s₃.heap (fun a ha => ?_) sim3 i V v hV hIt
        · obtain ⟨h1, h2⟩ := List.mem_filter.mp ha
          exact (hOi a h1).resolve_left (by simpa using h2)
        · simp only [List.mem_append] at ha ⊢
          rcases ha with (ha | ha) | ha
          · exact .inl (.inl (.inl ha))
          · exact .inl (.inr ha)
          · by_cases hO : a ∈ O
            · exact .inl (.inl (.inr hO))
            · exact .inr (List.mem_filter.mpr ⟨ha, by simpa using hO⟩)
        · simp only [List.mem_append] at ha
          rcases ha with (ha | ha) | ha
          · exact .inr (Si.pi.ex a (List.mem_append_left _ (List.mem_append_left _ ha)))
          · exact .inl ha
          · exact .inr (Si.pi.ex a (List.mem_append_right _ ha))
      have hr2 : (f V ρi).bind (fun (fl, ρ') => match fl with | .next => forR f (items.drop (i + 1)) ρ' | .ret w => .ok (.ret w, ρ')) = forR f items ρ := hr
      have hfV : f V ρi = (storeT C.hd sc t V ρi).bind fun ρ₂ => exs n C sc ρ₂ body := by rw [← hbody]
      cases hsT : storeT C.hd sc t V ρi with
      | tie => exact absurd hsT storeT_ne
      | stuck =>
        rw [hfV, hsT] at hr2
        exact absurd hr2.symm g2.ns
      | ok ρ₂ =>
        have hf2 : f V ρi = exs n C sc ρ₂ body := by rw [hfV, hsT]; rfl
        rw [hf2] at hr2
        refine storeT_ok (X := W ++ wr ++ Oi) S.hh S.ls S3.lay hrep hsT fun s₄ st => ?_
        have S4 : Sv K G C n sc ρ₂ A env (W ++ wr) Oi F sF s₄ :=
          { S3 with lay := st.lay, fe := S3.fe.stp st S3.lay S.nd, pi := S3.pi.store st.kw st.lay S.nd, kF := S3.kF.kw_fresh st.kw fun b hb => S.fr b (List.mem_append_left _ hb) }
        have FK4 : FK F (ownL env sc ++ (O ++ wr)) s₂ s₄ := (hFK.trans (FK.of_kw (k3.mono fun b hb => List.mem_append_right _ (List.mem_append_right _ hb)))).trans (FK.of_kw (st.kw.mono fun b hb => List.mem_append_left _ hb))
        refine HX C sc ρ₂ body A env (W ++ wr) Oi F sF s₄ _ _ S4 ⟨fun q => ?_, fun fl ρ' q flow s₅ px => ?_, fun q e s₅ b t₅ f₅ => ?_⟩
        · rw [q] at hr2
          exact absurd hr2.symm g2.ns
        · rw [q] at hr2
          obtain ⟨O5, k5, fe5, pi5, lay5, hO5, hfl5⟩ := px
          have FK5 : FK F (ownL env sc ++ (O ++ wr)) s₂ s₅ := FK4.next k5 fun a ha => (hOi a ha).imp (fun h => List.mem_append_left _ h) id
          have hO5' : ∀ a ∈ O5, a ∈ O ∨ s₂.heap.get? a = none := fun a ha => by
            rcases hO5 a ha with h | h
            · exact hOi a h
            · by_cases hx : a ∈ ownL env sc ++ (O ++ wr)
              · simp only [List.mem_append] at hx
                rcases hx with hx | hx | hx
                · obtain ⟨o, ho, _⟩ := st.lay.own S.nd a hx
                  rw [h] at ho; cases ho
                · exact .inl hx
                · obtain ⟨o, ho⟩ := S4.pi.ex a (List.mem_append_left _ (List.mem_append_right _ hx))
                  rw [h] at ho; cases ho
              · refine .inr ?_
                cases e : s₂.heap.get? a with
                | none => rfl
                | some o =>
                  obtain ⟨sl, e'⟩ := FK4.slot a o hx e
                  rw [h] at e'; cases e'
          cases fl with
          | next =>
            have hfl : flow = .next := hfl5
            subst hfl
            have px5 : Px K A env sc (W ++ wr) Oi F s₄ .next ρ' .next s₅ := ⟨O5, k5, fe5, pi5, lay5, hO5, rfl⟩
            refine ⟨items.length - (i + 1), by omega, i + 1, ρ', O5, rfl, hlt, hr2, ?_, ?_, FK5, hO5'⟩
            · refine Sr.dr.frame _ _ _ hst3 fun b hb o ho => ?_
              have h4 : s₄.heap.get? b = some o := st.kw.keep b o (fun q => carfp b (ownL_carr b q) hb) ho
              refine k5.keep b o (fun q => ?_) (Ffp b hb) h4
              rcases List.mem_append.mp q with q | q
              · exact carfp b (ownL_carr b q) hb
              · exact Oi_fp b q hb
            · refine { S4 with lay := lay5, fe := fe5, pi := pi5, kF := k5.kp S4.kF S4.fr, fr := fun b hb => ?_ }
              rcases List.mem_append.mp hb with hb | hb
              · exact S.fr b (List.mem_append_left _ hb)
              · rcases hO5' b hb with h | h
                · exact S.fr b (List.mem_append_right _ h)
                · exact S.kF.none_of (k.none_of h)
          | ret V' =>
            obtain ⟨v', hv1, hv2⟩ := hfl5
            subst hv1
            exact g2.ok (.ret V') ρ' hr2.symm _ s₅ (toPx FK5 fe5 pi5 lay5 hO5' ⟨v', rfl, hv2⟩)
        · rw [q] at hr2
          exact loop_tie f₅ t₅ fun s₆ t₆ f₆ => g2.tie hr2.symm e s₆ true t₆ f₆
    · have hi' : i = items.length := by lia
      subst hi'
      rw [List.drop_length] at hr
      refine Sr.dr.done s' _ _ hst fun s₃ k3 => wpAny_execs_nil ?_
      have ex3 : ∀ a ∈ W ++ Oi, ∃ o, s₃.heap.get? a = some o := fun a ha => by
        have ha' : a ∈ W ++ wr ++ Oi := by
          simp only [List.mem_append] at ha ⊢
          rcases ha with ha | ha
          · exact .inl (.inl ha)
          · exact .inr ha
        obtain ⟨o, ho⟩ := Si.pi.ex a ha'
        refine ⟨o, k3.keep a o (fun q => ?_) ho⟩
        rcases List.mem_append.mp ha with ha | ha
        · obtain ⟨o', ho'⟩ := S.pi.ex a (List.mem_append_left _ ha)
          rw [wrs a q] at ho'; cases ho'
        · exact Oi_wr a ha q
      have fe3 := (Si.fe.kw k3 carwr k3.simT (fun b hb => List.mem_append_right _ hb) Oi_wr)
      have pi3 : PI K.base A env (W ++ Oi) s₃.heap := (Si.pi.less (Y := W ++ Oi) fun a ha => by
        simp only [List.mem_append] at ha ⊢
        rcases ha with ha | ha
        · exact .inl (.inl ha)
        · exact .inr ha).kwX k3 wrb hfwr carwr ex3
      have FK3 : FK F (ownL env sc ++ (O ++ wr)) s₂ s₃ := hFK.trans (FK.of_kw (k3.mono fun b hb => List.mem_append_right _ (List.mem_append_right _ hb)))
      refine g2.ok .next ρi (by rw [← hr]; rfl) .next s₃ ?_
      refine ⟨Oi, ?_, fe3.lessW (fun a ha => List.mem_append_left _ ha), pi3, Si.lay.kw k3 carwr, fun a ha => (hOi a ha).imp id fun q => k.none_of q, rfl⟩
      have off : ∀ b o, b ∉ ownL env sc ++ O → s.heap.get? b = some o → b ∉ ownL env sc ++ (O ++ wr) := fun b o hb e q => by
        simp only [List.mem_append] at q hb
        rcases q with q | q | q
        · exact hb (.inl q)
        · exact hb (.inr q)
        · rw [wrs b q] at e; cases e
      obtain ⟨ha, ta, rfl⟩ := k.same
      obtain ⟨hb, tb, rfl⟩ := FK3.same
      refine ⟨⟨hb, tb, rfl⟩, fun b o hb' hf e => FK3.keep b o (off b o hb' e) hf (k.keep b o hf e), fun b o hb' e => ?_⟩
      obtain ⟨sl, e'⟩ := k.slot b o e
      obtain ⟨sl', e''⟩ := FK3.slot b _ (off b o hb' e) e'
      exact ⟨sl', e''⟩
  · rw [if_neg hlen] at g2; exact absurd rfl g2.ns
end
end Mine
end
section
namespace Mine
open PySem PySem.W PyProof.Rows

section
variable {K : Kt} {G : GL} {n : Nat}

theorem SXS_step (HX : SX K G n) (HS : SXS K G n) : SXS K G (n + 1) := by
  intro C sc ρ ss A env W O F sF s Q E S g
  have S' := S.down (Nat.le_succ n)
  cases ss with
  | nil => exact wpAny_execs_nil (g.ok .next ρ rfl .next s ⟨O, FK.of_kp (Kp.refl _ _), S.fe, S.pi, S.lay, fun _ h => .inl h, rfl⟩)
  | cons st r =>
    have g1 : Gs K A env sc W O F sF s ((ex n C sc ρ st).bind fun (f, ρ') => match f with
      | .next => exs n C sc ρ' r
      | .ret v => .ok (.ret v, ρ')) Q E := g
    refine wpAny_execs_cons (HX C sc ρ st A env W O F sF s _ E S' ⟨fun q => ?_, fun f ρ' q fl s₁ px => ?_, fun q e s₁ b t fr => ?_⟩)
    · rw [q] at g1; exact g1.ns rfl
    · have g2 := g1.then q
      cases f with
      | next =>
        obtain ⟨O', S1, rfl, hO, k⟩ := S'.px px
        refine HS C sc ρ' r A env W O' F sF s₁ Q E S1 ⟨g2.ns, fun f2 ρ2 q2 fl2 s₂ px2 => g2.ok f2 ρ2 q2 fl2 s₂ (px2.after k hO S1.lay S.nd), g2.tie⟩
      | ret V =>
        have px' := px
        obtain ⟨O', k, fe, pi, lay, hO, v, rfl, hr⟩ := px
        exact g2.ok (.ret V) ρ' rfl _ s₁ px'
    · exact g1.tie (by rw [q]; rfl) e s₁ b t fr

theorem subX_some {t : PySem.Expr} {z : Str × PySem.Expr} (h : subX t = some z) : ∃ xp sp, t = .Subscript (.Name z.1 xp) z.2 sp := by
  obtain ⟨q, h1, h2⟩ := Option.bind_eq_some_iff.mp h
  obtain ⟨x, h3, rfl⟩ := Option.map_eq_some_iff.mp h2
  obtain ⟨sp, rfl⟩ := subE_some h1
  obtain ⟨xp, e⟩ := tname_some h3
  exact ⟨xp, sp, by rw [e]⟩
theorem ks_nil {l : List Keyword} (h : l.isEmpty = true) : l = [] := List.isEmpty_iff.mp h
theorem appX_some {t : PySem.Expr} {z : Str × Str × Bool × PySem.Expr} (h : appX t = some z) : ∃ xp apos cp, t = .Call (.Attribute (.Name z.1 xp) z.2.1 apos) [z.2.2.2] [] cp ∧ z.2.2.1 = (apos.endLine == cp.line) := by
  obtain ⟨q, h1, h2⟩ := Option.bind_eq_some_iff.mp h
  obtain ⟨r, h3, h4⟩ := Option.bind_eq_some_iff.mp h2
  obtain ⟨x, h5, h6⟩ := Option.bind_eq_some_iff.mp h4
  obtain ⟨e, h7, h8⟩ := Option.bind_eq_some_iff.mp h6
  cases hk : q.2.2.1.isEmpty with
  | false => rw [hk] at h8; cases h8
  | true =>
    rw [hk] at h8
    cases h8
    obtain ⟨xp, e5⟩ := tname_some h5
    exact ⟨xp, r.2.2, q.2.2.2, by rw [callX_some h1, attrX_some h3, e5, one_some h7, ks_nil hk], rfl⟩
theorem raiseX_some {t : PySem.Expr} {x : Str} (h : raiseX t = some x) : ∃ np msg kk kp cp, t = .Call (.Name x np) [.Constant (.str msg) kk kp] [] cp := by
  obtain ⟨q, h1, h2⟩ := Option.bind_eq_some_iff.mp h
  obtain ⟨a, h3, h4⟩ := Option.bind_eq_some_iff.mp h2
  obtain ⟨c, h5, h6⟩ := Option.bind_eq_some_iff.mp h4
  cases hk : (c.ctorIdx == 5 && q.2.2.1.isEmpty) with
  | false => rw [hk] at h6; cases h6
  | true =>
    rw [hk] at h6
    rw [Bool.and_eq_true] at hk
    obtain ⟨msg, rfl⟩ := c5 (eq_of_beq hk.1)
    obtain ⟨kk, kp, rfl⟩ := constX_some h5
    obtain ⟨np, e⟩ := tname_some h6
    exact ⟨np, msg, kk, kp, q.2.2.2, by rw [callX_some h1, e, one_some h3, ks_nil hk.2]⟩
theorem retX_some {t : List Stmt} {e : PySem.Expr} (h : retX t = some e) : ∃ p, t = [.Return (some e) p] := by
  obtain ⟨s, h1, h2⟩ := Option.bind_eq_some_iff.mp h
  obtain ⟨p, rfl⟩ := retV_some h2
  exact ⟨p, one_some h1⟩
theorem hdlX_some {t : List ExceptHandler} {z : Str × Stmt × List Stmt} (h : hdlX t = some z) : ∃ np hp, t = [.ExceptHandler (some (.Name z.1 np)) .none (z.2.1 :: z.2.2) hp] := by
  obtain ⟨⟨a, b, l, p⟩, h1, h2⟩ := Option.bind_eq_some_iff.mp h
  obtain ⟨y, h3, h4⟩ := Option.bind_eq_some_iff.mp h2
  obtain ⟨x, h5, h6⟩ := Option.bind_eq_some_iff.mp h4
  have h3 : a = some y := h3
  subst h3
  obtain ⟨np, rfl⟩ := tname_some h5
  cases b with
  | some _ => cases h6
  | none =>
    cases l with
    | nil => cases h6
    | cons b₀ r => cases h6; exact ⟨np, p, one_some h1⟩

theorem SX_step (GK : GOK K G) (HE : SE K G n) (HT : ST K G n) (HI : SI K G n) (HF : SEF K G n) (HU : SU K G n) (HS : SXS K G n) : SX K G (n + 1) := by
  intro C sc ρ st A env W O F sF s Q E S g
  have S' := S.down (Nat.le_succ n)
  have no : ex (n + 1) C sc ρ st = .stuck → wpAny (model K.prog K.w) A (exec st env) Q E s := fun h => absurd h g.ns
  cases st with
  | Assign targets e pos =>
    obtain ⟨t, ht, g1⟩ := Gs.opt (o := one targets) g
    cases one_some ht
    cases hn : tname t with
    | some x =>
      obtain ⟨p, rfl⟩ := tname_some hn
      exact SX_assign HE HF HU S' g
    | none =>
      rw [hn] at g1
      obtain ⟨ts, hts, _⟩ := Gs.opt (o := tupE t) g1
      obtain ⟨k, p, rfl⟩ := tupE_some hts
      exact SX_tup HE S' g
  | AugAssign t op e pos =>
    obtain ⟨z, hz, _⟩ := Gs.opt (o := subX t) g
    obtain ⟨xp, sp, rfl⟩ := subX_some hz
    exact SX_set HE S' g
  | Expr e pos =>
    obtain ⟨z, hz, g1⟩ := Gs.opt (o := appX e) g
    obtain ⟨xp, apos, cp, rfl, _⟩ := appX_some hz
    exact SX_append HE S' g
  | If t a b pos => exact SX_if HT HS S' g
  | For t it body orelse pos =>
    cases orelse with
    | nil => exact SX_for HI HS S' g
    | cons _ _ => exact no rfl
  | Return e pos =>
    cases e with
    | some e => exact SX_return HE S' g
    | none => exact no rfl
  | Raise e c pos =>
    cases e with
    | none => exact no rfl
    | some v =>
      cases c with
      | some _ => exact no rfl
      | none =>
        obtain ⟨x, hx, _⟩ := Gs.opt (o := raiseX v) g
        obtain ⟨np, msg, kk, kp, cp, rfl⟩ := raiseX_some hx
        exact SX_raise GK S' g
  | Try body hs orelse final pos =>
    cases orelse with
    | cons _ _ => exact no rfl
    | nil =>
      cases final with
      | cons _ _ => exact no rfl
      | nil =>
        obtain ⟨e, he, g1⟩ := Gs.opt (o := retX body) g
        obtain ⟨z, hz, g2⟩ := Gs.opt (o := hdlX hs) g1
        obtain ⟨p, rfl⟩ := retX_some he
        obtain ⟨np, hp, rfl⟩ := hdlX_some hz
        exact SX_try GK HE HS S' g
  | _ => exact no rfl

theorem SU.eval (HU : SU K G n) : ∀ C sc ρ elt gens scope p A env X F s (Q : Value → Shared → Prop) E, Ev K G C n sc ρ A env X F s → Gd K.tc F s (evE n C sc ρ (.ListComp elt gens scope p)) (fun V v s' => Rep s'.heap X V v) Q E → wpAny (model K.prog K.w) A (eval (.ListComp elt gens scope p) env) Q E s := by
  intro C sc ρ elt gens scope p A env X F s Q E x g
  rw [eval_ListComp]
  exact HU C sc ρ elt gens scope p A env X F s Q E none _ _ x g fun ws D Cc s' e k hr hD hC hn hDC hDL => comp_end k hr hn hC hDC hDL fun s'' k'' hr'' hl'' => g.ok (.list ws) e (.ref D) s'' k'' hr''

structure All (K : Kt) (G : GL) (n : Nat) : Prop where
  e : SE K G n
  t : ST K G n
  b : SB K G n
  fs : SFs K G n
  i : SI K G n
  c : SC K G n
  f : SEF K G n
  u : SU K G n
  x : SX K G n
  xs : SXS K G n

theorem all_zero : All K G 0 where
  e := fun _ _ _ _ _ _ _ _ _ _ _ _ g => absurd rfl g.ns
  t := fun _ _ _ _ _ _ _ _ _ _ _ _ g => absurd rfl g.ns
  b := fun _ _ _ _ _ _ _ _ _ _ _ _ _ g => absurd rfl g.ns
  fs := fun _ _ _ _ _ _ _ _ _ _ _ _ g => absurd rfl g.ns
  i := fun _ _ _ _ _ _ _ _ _ _ _ _ _ g => absurd rfl g.ns
  c := fun _ _ _ _ _ _ _ _ _ _ _ _ _ _ _ _ g => absurd rfl g.ns
  f := fun _ _ _ _ _ _ _ _ _ _ _ _ _ g => absurd rfl g.ns
  u := fun _ _ _ _ _ _ _ _ _ _ _ _ _ _ _ _ _ _ g => absurd rfl g.ns
  x := fun _ _ _ _ _ _ _ _ _ _ _ _ _ _ g => absurd rfl g.ns
  xs := fun _ _ _ _ _ _ _ _ _ _ _ _ _ _ g => absurd rfl g.ns

theorem all_ok (GK : GOK K G) : ∀ n, All K G n
  | 0 => all_zero
  | n + 1 => by
    have h := all_ok GK n
    have hu := SU_step (K := K) (G := G) (n := n) h.e h.fs h.i
    exact ⟨SE_step GK h.e h.t h.c (SU.eval hu), ST_step h.e h.t h.b, SB_step h.t h.b, SFs_step h.t, SI_step GK h.e, SC_step GK h.xs, SEF_step h.e hu, hu, SX_step GK h.e h.t h.i h.f h.u h.xs, SXS_step h.x h.xs⟩
end
end Mine
end
section
namespace Mine
open PySem PySem.W PyProof.Rows

noncomputable def cPV : Const → PV
  | .bool b => .bool b
  | .int b => .int b
  | _ => .none
noncomputable def constPV (e : PySem.Expr) : PV := (constX e).elim .none cPV
noncomputable def funsOf : List Stmt → List (Str × FD)
  | [] => []
  | .FunctionDef name args body _ _ _ scope _ _ _ :: r => (name, { params := args.args.map (·.arg), dflts := args.defaults.map constPV, body, scope }) :: funsOf r
  | _ :: r => funsOf r
noncomputable def strL (l : List String) : PV := .list (l.map fun s => .str (Str.ofString s))
noncomputable def names1 : PV := .list [strL ["dhondt", "jefferson", "greatestdivisors"], strL ["saintelague", "webster", "majorfractions"], strL ["modified_saintelague"], strL ["huntington", "hill", "equalproportions"], strL ["adams", "smallestdivisor"], strL ["dean", "harmonicmean"], strL ["largest_remainder", "hamilton", "lrm"]]
noncomputable def G1 : GL := ⟨funsOf PySem.Challenge.pw_ai0004_01.main.body, [(Str.ofString "_law_names", names1)]⟩

/-- all functions of a list stand in the heap -/
noncomputable def AllFn (base : Heap) (mg : Str → Option Value) : List (Str × FD) → Prop
  | [] => True
  | p :: r => (∃ a, mg p.1 = some (.ref a) ∧ FnOK base p.2 a) ∧ AllFn base mg r
theorem AllFn.at {base : Heap} {mg : Str → Option Value} {l : List (Str × FD)} : AllFn base mg l → ∀ x fd, l.lookup x = some fd → ∃ a, mg x = some (.ref a) ∧ FnOK base fd a := by
  induction l with
  | nil => intro _ x fd e; cases e
  | cons p r ih =>
    intro h x fd e
    obtain ⟨y, g⟩ := p
    rw [List.lookup_cons] at e
    cases hx : x == y with
    | true => rw [hx] at e; cases e; rw [beq_iff_eq] at hx; subst hx; exact h.1
    | false => rw [hx] at e; exact ih h.2 x fd e

theorem vals_one {base : Heap} {mg : Str → Option Value} {nm : Str} {v : Value} {V0 : PV} (h : mg nm = some v) (r : Rep base [] V0 v) : ∀ x V, List.lookup x [(nm, V0)] = some V → ∃ v, mg x = some v ∧ Rep base [] V v := by
  intro x V e
  rw [List.lookup_cons] at e
  cases hx : x == nm with
  | true => rw [hx] at e; cases e; rw [beq_iff_eq] at hx; subst hx; exact ⟨v, h, r⟩
  | false => rw [hx] at e; cases e
theorem stor_of {sc : Scope} {l : List Str} (h : (l.all fun x => sc.names.lookup x == some .local || sc.names.lookup x == some .cell) = true) : ∀ x ∈ l, storable sc x := fun x hx => by
  have := List.all_eq_true.mp h x hx
  rw [Bool.or_eq_true] at this
  exact this.imp (fun q => by simpa using q) (fun q => by simpa using q)
end Mine
end
section
namespace Mine
open PySem PySem.W PyProof.Rows

theorem join {K : Kt} {G : GL} (GK : GOK K G) {fd : FD} {fa : Addr} (fo : FnOK K.base fd fa) {s₁ : Shared} (hs : K.base = s₁.heap) {a : Addr} {vs : List Value} {ns : List Int} (hL : s₁.heap.IsList a vs.toArray) (hI : IntsAre vs ns)
    (hlaw : callF 400 ⟨G, false, false⟩ fd [.list (ns.map .int)] = .ok (.bool true)) {R : Result → Shared → Prop} (hR : ∀ s', Kp [] s₁ s' → R (.ok (.ret (.bool true))) s') :
    codeAny (model K.prog K.w) callerA (.call (.ref fa) ⟨[.ref a], []⟩) R s₁ := by
  have hrep : RepL s₁.heap [] [PV.list (ns.map .int)] [.ref a] := RepL.cons ⟨a, vs, rfl, by simp, hL, RepL.of_ints hI⟩ RepL.nil
  have cc : CnC K ⟨G, false, false⟩ callerA 400 [] [] s₁ :=
    { hh := fun _ => rfl, un := by show 4 + 4 * 400 + 8 < cLine; decide, dp := by show 1 + claimMargin + 400 < recursionLimit; decide, fr := ⟨[], rfl, rfl, trivial⟩, fb := fun b hb => (by cases hb), fd := fun b hb => (by cases hb),
      st := fun b o e => hs ▸ e, hd := .inl rfl, hf := fun b hb => (by simp [hfp, callerA] at hb), ex := fun b hb => (by cases hb), nb := fun b hb => (by cases hb) }
  have h := (all_ok GK 400).c ⟨G, false, false⟩ fd fa [PV.list (ns.map .int)] [.ref a] callerA [] [] s₁ (fun v s' => v = .bool true ∧ Kp [] s₁ s') (fun _ _ => False) rfl rfl fo hrep cc
    ⟨(by rw [hlaw]; intro q; cases q), fun V q v s' k hv => (by rw [hlaw] at q; cases q; exact ⟨hv, k⟩), fun q => (by rw [hlaw] at q; cases q)⟩
  refine codeAny_mono h fun r s' hr => ?_
  cases r with
  | error e => exact hr.elim
  | ok f =>
    cases f with
    | ret v => obtain ⟨rfl, k⟩ := hr; exact hR s' k
    | _ => exact hr.elim
end Mine
end
section
namespace Mine
open PySem PySem.W PyProof.Rows PySem.Challenge

theorem mem_of_lookup {β : Type} {x : Str} {b : β} : ∀ {l : List (Str × β)}, l.lookup x = some b → (x, b) ∈ l
  | (y, c) :: r, h => by
    rw [List.lookup_cons] at h
    cases hx : x == y with
    | true => rw [hx] at h; cases h; rw [beq_iff_eq] at hx; subst hx; exact List.mem_cons_self
    | false => rw [hx] at h; exact List.mem_cons_of_mem _ (mem_of_lookup h)
theorem blt1 {h : Heap} {mean : ExcName → Option Value} {mg mb : Str → Option Value} {loose : List Str} {p : Program}
    (T : Top p loose mean mg mb h) (hl : (bltN.all fun x =>
      !startupNames.contains x.1 && !loose.contains x.1 && !((recsOf p).map (·.name)).contains x.1 && !((litsOf p).map (·.1)).contains x.1 && !((clssOf p loose).map (·.name)).contains x.1) = true) {x : Str} {v : Value} (hx : bltV x = some v) : mg x = none ∧ mb x = some v := by
  obtain ⟨b, hb, rfl⟩ := Option.map_eq_some_iff.mp hx
  have hm := mem_of_lookup (l := bltN) hb
  have := List.all_eq_true.mp hl _ hm
  simp only [Bool.and_eq_true, Bool.not_eq_true', List.contains_eq_mem, decide_eq_false_iff_not] at this
  obtain ⟨⟨⟨⟨a, b⟩, c⟩, d⟩, e⟩ := this
  refine ⟨T.free x a b c d e, ?_⟩
  clear a b c d e hb hx hl
  simp only [bltN, List.mem_cons, Prod.mk.injEq, List.not_mem_nil, or_false] at hm
  rcases hm with h | h | h | h | h | h | h | h <;> (rw [h.1, h.2]; exact (T.builtins _ (by decide +kernel)).trans (by kernel_rfl))
end Mine
end
section
namespace Mine
open PySem

section rules
variable {n : Nat} {C : Cx} {sc : Scope} {ρ ρ' ρ'' : Rho}

theorem r_call {fd : FD} {as : List PV} {v : PV} (hs : (scOK fd.scope && fd.scope.names.all (fun x => x.2 != .free)) = true) (hb : bindsOf fd as = .ok ρ) (hx : exs n C fd.scope ρ fd.body = .ok (.ret v, ρ')) : callF (n + 1) C fd as = .ok v := by
  show (if _ then _ else _) = _
  rw [if_pos hs, hb]
  show (exs n C fd.scope ρ fd.body).bind _ = _
  rw [hx]; rfl
theorem r_nil : exs (n + 1) C sc ρ [] = .ok (.next, ρ) := rfl
theorem r_next {st : Stmt} {r : List Stmt} {res : Res (MFlow × Rho)} (h1 : ex n C sc ρ st = .ok (.next, ρ')) (h2 : exs n C sc ρ' r = res) : exs (n + 1) C sc ρ (st :: r) = res := by
  show (ex n C sc ρ st).bind _ = _
  rw [h1]; exact h2
theorem r_ret {st : Stmt} {r : List Stmt} {v : PV} (h1 : ex n C sc ρ st = .ok (.ret v, ρ')) : exs (n + 1) C sc ρ (st :: r) = .ok (.ret v, ρ') := by
  show (ex n C sc ρ st).bind _ = _
  rw [h1]; rfl
theorem r_tie {st : Stmt} {r : List Stmt} (h1 : ex n C sc ρ st = .tie) : exs (n + 1) C sc ρ (st :: r) = .tie := by
  show (ex n C sc ρ st).bind _ = _
  rw [h1]; rfl
theorem r_return {e : PySem.Expr} {p : Pos} {v : PV} (h : evE n C sc ρ e = .ok v) : ex (n + 1) C sc ρ (.Return (some e) p) = .ok (.ret v, ρ) := by
  show (evE n C sc ρ e).bind _ = _
  rw [h]; rfl
theorem r_if {t : PySem.Expr} {a b : List Stmt} {p : Pos} {c : Bool} {res : Res (MFlow × Rho)} (h : evT n C sc ρ t = .ok c) (h2 : (if c then exs n C sc ρ a else exs n C sc ρ b) = res) : ex (n + 1) C sc ρ (.If t a b p) = res := by
  show (evT n C sc ρ t).bind _ = _
  rw [h]; exact h2
theorem r_ifT {t : PySem.Expr} {a b : List Stmt} {p : Pos} {res : Res (MFlow × Rho)} (h : evT n C sc ρ t = .ok true) (h2 : exs n C sc ρ a = res) : ex (n + 1) C sc ρ (.If t a b p) = res := r_if h h2
theorem r_ifF {t : PySem.Expr} {a b : List Stmt} {p : Pos} {res : Res (MFlow × Rho)} (h : evT n C sc ρ t = .ok false) (h2 : exs n C sc ρ b = res) : ex (n + 1) C sc ρ (.If t a b p) = res := r_if h h2
theorem r_assign {x : Str} {p' p : Pos} {e : PySem.Expr} {v : PV} (h : evE n C sc ρ e = .ok v) (h2 : assignN sc e x v ρ = .ok ρ') : ex (n + 1) C sc ρ (.Assign [.Name x p'] e p) = .ok (.next, ρ') := by
  show (evE n C sc ρ e).bind _ = _
  rw [h]
  show (assignN sc e x v ρ).bind _ = _
  rw [h2]; rfl
theorem r_bin {op : Operator} {l r : PySem.Expr} {p : Pos} {a b v : PV} (hm : mulForm l op = none) (h1 : evE n C sc ρ l = .ok a) (h2 : evE n C sc ρ r = .ok b) (h3 : binE op a b = .ok v) : evE (n + 1) C sc ρ (.BinOp l op r p) = .ok v := by
  show (match mulForm l op with | some x => _ | none => (evE n C sc ρ l).bind fun a => (evE n C sc ρ r).bind fun b => binE op a b) = _
  rw [hm]
  show (evE n C sc ρ l).bind _ = _
  rw [h1]
  show (evE n C sc ρ r).bind _ = _
  rw [h2]; exact h3
theorem b_mul {a b : Int} (h : mulOk a b = true) : binE .Mult (.int a) (.int b) = .ok (.int (a * b)) := by
  show ofO (if mulOk a b then _ else _) = _
  rw [if_pos h]; rfl
theorem r_cmp {op : CmpOp} {l r : PySem.Expr} {p : Pos} {a b : PV} {c : Bool} (hs : noSet r = true) (h1 : evE n C sc ρ l = .ok a) (h2 : evE n C sc ρ r = .ok b) (h3 : cmpE op a b = .ok c) : evE (n + 1) C sc ρ (.Compare l [op] [r] p) = .ok (.bool c) := by
  show (if noSet r then (evE n C sc ρ l).bind fun a => (evE n C sc ρ r).bind fun b => ofO ((cmpO op a b).map PV.bool) else .stuck) = _
  rw [if_pos hs, h1]
  show (evE n C sc ρ r).bind _ = _
  rw [h2]
  show ofO ((cmpO op a b).map PV.bool) = _
  rw [ofO_ok h3]; rfl
theorem r_tcmp {op : CmpOp} {l r : PySem.Expr} {p : Pos} {a b : PV} {c : Bool} (hs : noSet r = true) (h1 : evE n C sc ρ l = .ok a) (h2 : evE n C sc ρ r = .ok b) (h3 : cmpE op a b = .ok c) : evT (n + 1) C sc ρ (.Compare l [op] [r] p) = .ok c := by
  show (if noSet r then (evE n C sc ρ l).bind fun a => (evE n C sc ρ r).bind fun b => cmpE op a b else .stuck) = _
  rw [if_pos hs, h1]
  show (evE n C sc ρ r).bind _ = _
  rw [h2]; exact h3
theorem r_tup2 {e1 e2 : PySem.Expr} {k : Nat} {p : Pos} {a b : PV} (h1 : evE n C sc ρ e1 = .ok a) (h2 : evE n C sc ρ e2 = .ok b) : evE (n + 1) C sc ρ (.Tuple [e1, e2] k p) = .ok (.tup [a, b]) := by
  show (mapR (evE n C sc ρ) [e1, e2]).bind _ = _
  have : mapR (evE n C sc ρ) [e1, e2] = .ok [a, b] := by
    show (evE n C sc ρ e1).bind _ = _
    rw [h1]
    show ((evE n C sc ρ e2).bind _).bind _ = _
    rw [h2]; rfl
  rw [this]; rfl
end rules

noncomputable def fdOf (s : String) : FD := match G1.funs.lookup (Str.ofString s) with | some fd => fd | none => ⟨[], [], [], default⟩
noncomputable def aboveFD : FD := fdOf "_law_above"
noncomputable def claimFD : FD := fdOf "_law_claim"

theorem above_ev (n : Nat) (hd : Bool) (a b c d : Int) (h1 : mulOk a d = true) (h2 : mulOk c b = true) :
    callF (n + 10) ⟨G1, false, hd⟩ aboveFD [.tup [.int a, .int b], .tup [.int c, .int d]] = .ok (.bool (decide (a * d > c * b))) := by
  refine r_call (by decide +kernel) rfl (r_ret (r_return (r_cmp rfl (r_bin rfl rfl rfl (b_mul h1)) (r_bin rfl rfl rfl (b_mul h2)) rfl)))
end Mine
end
section
namespace Mine
open PySem

noncomputable def Big : Nat := 10000000000000000000000000000000000000000000000000000000000000000000000000000000000000000000000000000000000000000
theorem big_lt {a : Int} (h : a.natAbs < Big) : a.natAbs < 2 ^ 500 := Nat.lt_trans h (by decide +kernel)
theorem mulOk_of {a b : Int} (ha : a.natAbs < Big) (hb : b.natAbs < Big) : mulOk a b = true := by
  unfold mulOk
  rw [Bool.and_eq_true, decide_eq_true_eq, decide_eq_true_eq]
  exact ⟨big_lt ha, big_lt hb⟩
theorem eqv_int (a b : Int) : PV.beq (.int a) (.int b) = .ok (decide (a = b)) := by
  show Res.ok (PyData.eqv (.int a) (.int b)) = _
  first | rfl | (congr 1; done) | (simp [PyData.eqv]; done)

section rules
variable {n : Nat} {C : Cx} {sc : Scope} {ρ ρ' ρ'' : Rho}
theorem r_and2 {x y : PySem.Expr} {p : Pos} {a b : Bool} (h1 : evT n C sc ρ x = .ok a) (h2 : evT (n - 1) C sc ρ y = .ok b) (hn : ∃ m, n = m + 2) : evT (n + 2) C sc ρ (.BoolOp .And [x, y] p) = .ok (a && b) := by
  obtain ⟨m, rfl⟩ := hn
  show evB (m + 2 + 1) C sc ρ .And [x, y] = _
  show (evT (m + 2) C sc ρ x).bind _ = _
  rw [h1]
  cases a with
  | false => rfl
  | true =>
    show (evT (m + 1) C sc ρ y).bind _ = _
    rw [show evT (m + 1) C sc ρ y = .ok b from h2]
    cases b <;> rfl
end rules

noncomputable def pairP (p : Int × Int) : PV := .tup [.int p.1, .int p.2]
noncomputable def claimP (k : Nat) (v s h t : Int) : Int × Int := match k with
  | 0 => (v, s)
  | 1 => (v, 2 * s - 1)
  | 2 => if s = 1 then (5 * v, 7) else (v, 2 * s - 1)
  | 3 => (v * v, s * (s - 1))
  | 4 => (v, s - 1)
  | 5 => (v * (2 * s - 1), 2 * s * (s - 1))
  | _ => (v * h - s * t, 1)

noncomputable def Lim : Nat := 100000000000000000000000000000000000000000000000000
theorem claim_ev (n : Nat) (hd : Bool) (k : Nat) (hk : k ≤ 6) (v s h t : Int) (hv : v.natAbs < Lim) (hs : s.natAbs < Lim) (hh : h.natAbs < Lim) (ht : t.natAbs < Lim) :
    callF (n + 20) ⟨G1, false, hd⟩ claimFD [.int k, .int v, .int s, .int h, .int t] = .ok (pairP (claimP k v s h t)) := by
  have e : Lim * 10 < Big := by decide +kernel
  have L5 : 1000 < Lim := by decide +kernel
  generalize Lim = L at *
  have m1 : mulOk 5 v = true := mulOk_of (by decide) (by lia)
  have m2 : mulOk 2 s = true := mulOk_of (by decide) (by lia)
  have m3 : mulOk v v = true := mulOk_of (by lia) (by lia)
  have m4 : mulOk s (s - 1) = true := mulOk_of (by lia) (by (clear hk hv hh ht L5 m1 m2 m3; omega))
  have m5 : mulOk v (2 * s - 1) = true := mulOk_of (by lia) (by (clear hk hv hh ht L5 m1 m2 m3 m4; omega))
  have m6 : mulOk (2 * s) (s - 1) = true := mulOk_of (by (clear hk hv hh ht L5 m1 m2 m3 m4 m5; lia)) (by (clear hk hv hh ht L5 m1 m2 m3 m4 m5; omega))
  have m7 : mulOk v h = true := mulOk_of (by lia) (by lia)
  have m8 : mulOk s t = true := mulOk_of (by lia) (by lia)
  match k, hk with
  | 0, _ => exact r_call (by decide +kernel) rfl (r_ret (r_ifT rfl (r_ret (r_return (r_tup2 rfl rfl)))))
  | 1, _ => exact r_call (by decide +kernel) rfl (r_next (r_ifF rfl rfl) (r_next (r_ifF rfl rfl) (r_ret (r_ifT rfl (r_ret (r_return (r_tup2 rfl (r_bin rfl (r_bin rfl rfl rfl (b_mul m2)) rfl rfl))))))))
  | 2, _ =>
    by_cases h1 : s = 1
    · rw [show claimP 2 v s h t = (5 * v, 7) by simp [claimP, h1]]
      exact r_call (by decide +kernel) rfl (r_next (r_ifF rfl rfl) (r_ret (r_ifT (r_and2 (a := true) (b := true) rfl (r_tcmp rfl rfl rfl (by rw [show cmpE .Eq (.int s) (.int 1) = PV.beq (.int s) (.int 1) from rfl, eqv_int, h1]; rfl)) ⟨_, rfl⟩) (r_ret (r_return (r_tup2 (r_bin rfl rfl rfl (b_mul m1)) rfl))))))
    · rw [show claimP 2 v s h t = (v, 2 * s - 1) by simp [claimP, h1]]
      exact r_call (by decide +kernel) rfl (r_next (r_ifF rfl rfl) (r_next (r_ifF (r_and2 (a := true) (b := false) rfl (r_tcmp rfl rfl rfl (by rw [show cmpE .Eq (.int s) (.int 1) = PV.beq (.int s) (.int 1) from rfl, eqv_int]; simp [h1])) ⟨_, rfl⟩) rfl) (r_ret (r_ifT rfl (r_ret (r_return (r_tup2 rfl (r_bin rfl (r_bin rfl rfl rfl (b_mul m2)) rfl rfl))))))))
  | 3, _ => exact r_call (by decide +kernel) rfl (r_next (r_ifF rfl rfl) (r_next (r_ifF rfl rfl) (r_next (r_ifF rfl rfl) (r_ret (r_ifT rfl (r_ret (r_return (r_tup2 (r_bin rfl rfl rfl (b_mul m3)) (r_bin rfl rfl rfl (b_mul m4))))))))))
  | 4, _ => exact r_call (by decide +kernel) rfl (r_next (r_ifF rfl rfl) (r_next (r_ifF rfl rfl) (r_next (r_ifF rfl rfl) (r_next (r_ifF rfl rfl) (r_ret (r_ifT rfl (r_ret (r_return (r_tup2 rfl rfl)))))))))
  | 5, _ => exact r_call (by decide +kernel) rfl (r_next (r_ifF rfl rfl) (r_next (r_ifF rfl rfl) (r_next (r_ifF rfl rfl) (r_next (r_ifF rfl rfl) (r_next (r_ifF rfl rfl) (r_ret (r_ifT rfl (r_ret (r_return (r_tup2 (r_bin rfl rfl (r_bin rfl (r_bin rfl rfl rfl (b_mul m2)) rfl rfl) (b_mul m5)) (r_bin rfl (r_bin rfl rfl rfl (b_mul m2)) rfl (b_mul m6))))))))))))
  | 6, _ => exact r_call (by decide +kernel) rfl (r_next (r_ifF rfl rfl) (r_next (r_ifF rfl rfl) (r_next (r_ifF rfl rfl) (r_next (r_ifF rfl rfl) (r_next (r_ifF rfl rfl) (r_next (r_ifF rfl rfl) (r_ret (r_return (r_tup2 (r_bin rfl (r_bin rfl rfl rfl (b_mul m7)) (r_bin rfl rfl rfl (b_mul m8)) rfl) rfl)))))))))
end Mine
end
section
namespace Mine
open PySem

noncomputable def idxE (xs : List PV) (j : Int) : Res PV := ofO (idxO xs j)
section rules
variable {n : Nat} {C : Cx} {sc : Scope} {ρ ρ' ρ'' : Rho}

theorem m_nil : mapR (evE n C sc ρ) [] = .ok [] := rfl
theorem m_cons {e : PySem.Expr} {r : List PySem.Expr} {v : PV} {vs : List PV} (h1 : evE n C sc ρ e = .ok v) (h2 : mapR (evE n C sc ρ) r = .ok vs) : mapR (evE n C sc ρ) (e :: r) = .ok (v :: vs) := by
  show (evE n C sc ρ e).bind _ = _
  rw [h1]
  show (mapR (evE n C sc ρ) r).bind _ = _
  rw [h2]; rfl
/-- a call of a function of the text's own -/
theorem r_fun {f : Str} {p p' : Pos} {as : List PySem.Expr} {fd : FD} {vs : List PV} {res : Res PV} (hg : isG C.G sc f = false) (hp : C.pure = false)
    (hn : (sc.names.lookup f == some NameKind.globalImplicit && (C.G.vals.lookup f).isNone) = true) (hf : C.G.funs.lookup f = some fd)
    (ha : mapR (evE n C sc ρ) as = .ok vs) (hc : callF n C fd vs = res) : evE (n + 1) C sc ρ (.Call (.Name f p) as [] p') = res := by
  show (if isG C.G sc f then _ else if C.pure then _ else if _ then (match C.G.funs.lookup f with | some fd => (mapR (evE n C sc ρ) as).bind fun vs => callF n C fd vs | none => .stuck) else _) = _
  rw [hg, hp, hn, hf]
  show (mapR (evE n C sc ρ) as).bind _ = _
  rw [ha]; exact hc
theorem r_not {x : PySem.Expr} {p : Pos} {b : Bool} (h : evT n C sc ρ x = .ok b) : evT (n + 1) C sc ρ (.UnaryOp .Not x p) = .ok (!b) := by
  show (evT n C sc ρ x).bind _ = _
  rw [h]; rfl
theorem r_orT {x y : PySem.Expr} {p : Pos} (h1 : evT n C sc ρ x = .ok true) : evT (n + 2) C sc ρ (.BoolOp .Or [x, y] p) = .ok true := by
  show (evT n C sc ρ x).bind _ = _
  rw [h1]; rfl
theorem r_orF {x y : PySem.Expr} {p : Pos} {b : Bool} (h1 : evT (n + 2) C sc ρ x = .ok false) (h2 : evT (n + 1) C sc ρ y = .ok b) : evT (n + 4) C sc ρ (.BoolOp .Or [x, y] p) = .ok b := by
  show (evT (n + 2) C sc ρ x).bind _ = _
  rw [h1]
  show (evT (n + 1) C sc ρ y).bind _ = _
  rw [h2]
  cases b <;> rfl
/-- a test that is a call -/
theorem r_tcall {f : PySem.Expr} {as : List PySem.Expr} {ks : List (Keyword)} {p : Pos} {b : Bool} (h : evE n C sc ρ (.Call f as ks p) = .ok (.bool b)) : evT (n + 1) C sc ρ (.Call f as ks p) = .ok b := by
  show (evE n C sc ρ (.Call f as ks p)).bind _ = _
  rw [h]; rfl
theorem r_for {t it : PySem.Expr} {body : List Stmt} {p : Pos} {items : List PV} {res : Res (MFlow × Rho)} (h1 : evI n C sc (unowned ρ) t it = .ok items) (hl : items.length ≤ szLine)
    (h2 : forR (fun v ρ₁ => (storeT C.hd sc t v ρ₁).bind fun ρ₂ => exs n C sc ρ₂ body) items ρ = res) : ex (n + 1) C sc ρ (.For t it body [] p) = res := by
  show (evI n C sc (unowned ρ) t it).bind _ = _
  rw [h1]
  show (if items.length ≤ szLine then _ else _) = _
  rw [if_pos hl]; exact h2
theorem r_sub {v i : PySem.Expr} {p : Pos} {xs : List PV} {j : Int} {w : PV} (hsl : isSl i = false) (h1 : evE n C sc ρ v = .ok (.list xs)) (h2 : evE n C sc ρ i = .ok (.int j)) (h3 : idxE xs j = .ok w) : evE (n + 1) C sc ρ (.Subscript v i p) = .ok w := by
  have : evE (n + 1) C sc ρ (.Subscript v i p) = (evE n C sc ρ v).bind fun a => (evE n C sc ρ i).bind fun k => ofO (idxV a k) := by
    cases i <;> first | rfl | exact Bool.noConfusion hsl
  rw [this, h1]
  show (evE n C sc ρ i).bind _ = _
  rw [h2]; exact h3
end rules

noncomputable def intL (l : List Int) : PV := .list (l.map .int)
noncomputable def gt0 (l : List Int) (i : Nat) : Int := l.getD i 0
theorem idx_nat {l : List Int} {i : Nat} (h : i < l.length) (hl : l.length ≤ 1000) : idxE (l.map PV.int) (i : Int) = .ok (.int (gt0 l i)) := by
  have hz : (l.map PV.int).length ≤ szLine := by rw [List.length_map]; exact hl
  show ofO (idxO _ _) = _
  unfold idxO
  rw [if_neg (show ¬ ((i : Int) < 0) by lia), if_pos ⟨hz, by exact Int.natCast_nonneg _⟩, Int.toNat_natCast, List.getElem?_map]
  have : l[i]? = some (gt0 l i) := by
    unfold gt0
    rw [List.getD_eq_getElem?_getD, List.getElem?_eq_getElem h]; rfl
  rw [this]; rfl
end Mine
end
section
namespace Mine
open PySem

theorem forR_idx {turn : PV → Rho → Res (MFlow × Rho)} : ∀ {items : List PV} {Inv : Nat → Rho → Prop}, (∀ (i : Nat) (hi : i < items.length) ρ, Inv i ρ → ∃ ρ', turn items[i] ρ = .ok (.next, ρ') ∧ Inv (i + 1) ρ') →
    ∀ {ρ : Rho}, Inv 0 ρ → ∃ ρ', forR turn items ρ = .ok (.next, ρ') ∧ Inv items.length ρ'
  | [], _, _, ρ, hi => ⟨ρ, rfl, hi⟩
  | v :: r, Inv, h, ρ, hi => by
    obtain ⟨ρ1, e1, i1⟩ := h 0 (by simp) ρ hi
    obtain ⟨ρ2, e2, i2⟩ := forR_idx (items := r) (Inv := fun i ρ => Inv (i + 1) ρ) (fun i hi ρ hI => h (i + 1) (by simp; omega) ρ hI) i1
    refine ⟨ρ2, ?_, i2⟩
    show (turn v ρ).bind _ = _
    have e1 : turn v ρ = .ok (.next, ρ1) := e1
    rw [e1]; exact e2

noncomputable def abv (p q : Int × Int) : Bool := decide (p.1 * q.2 > q.1 * p.2)
theorem natAbs_mul_lt {a b : Int} {A B : Nat} (ha : a.natAbs < A) (hb : b.natAbs < B) : (a * b).natAbs < A * B := by
  rw [Int.natAbs_mul]; exact Nat.mul_lt_mul'' ha hb
theorem claim_big {k : Nat} {v s h t : Int} (hv : v.natAbs < Lim) (hs : s.natAbs < Lim) (hh : h.natAbs < Lim) (ht : t.natAbs < Lim) : (claimP k v s h t).1.natAbs < Big ∧ (claimP k v s h t).2.natAbs < Big := by
  have e : Lim * 10 < Big := by decide +kernel
  have e2 : Lim * Lim * 10 < Big := by decide +kernel
  have e3 : (2 * Lim + 1) * Lim ≤ Lim * Lim * 10 := by decide +kernel
  have e4 : (2 * Lim) * (Lim + 1) ≤ Lim * Lim * 10 := by decide +kernel
  have e5 : Lim * (Lim + 1) ≤ Lim * Lim * 10 := by decide +kernel
  have L5 : 1000 < Lim := by decide +kernel
  have m3 := natAbs_mul_lt hv hv
  have m4 := natAbs_mul_lt (a := s) (b := s - 1) hs (show (s - 1).natAbs < Lim + 1 by (clear hv hh ht e e2 e3 e4 e5 m3; omega))
  have m5 := natAbs_mul_lt (a := v) (b := 2 * s - 1) hv (show (2 * s - 1).natAbs < 2 * Lim + 1 by (clear hv hh ht e e2 e3 e4 e5 m3 m4; omega))
  have m6 := natAbs_mul_lt (a := 2 * s) (b := s - 1) (show (2 * s).natAbs < 2 * Lim by lia) (show (s - 1).natAbs < Lim + 1 by (clear hv hh ht e e2 e3 e4 e5 m3 m4 m5; omega))
  have m7 := natAbs_mul_lt hv hh
  have m8 := natAbs_mul_lt hs ht
  rw [Nat.mul_comm Lim (2 * Lim + 1)] at m5
  generalize hL2 : Lim * Lim = L2 at *
  generalize (2 * Lim + 1) * Lim = L3 at *
  generalize (2 * Lim) * (Lim + 1) = L4 at *
  generalize Lim * (Lim + 1) = L5' at *
  generalize Lim = L at *
  generalize Big = B at *
  have mm : (v * h - s * t).natAbs ≤ (v * h).natAbs + (s * t).natAbs := by (clear m3 m7 m8 m5 e3 m6 e4 m4 e5 hv hs hh ht L5 hL2 e2 e; omega)
  unfold claimP
  split
  · dsimp only; (clear m3 m7 m8 m5 e3 m6 e4 m4 e5 hh ht L5 mm; lia)
  · dsimp only; (clear m3 m7 m8 m5 e3 m6 e4 m4 e5 hh ht hL2 e2 mm; omega)
  · split
    · dsimp only; lia
    · dsimp only; (clear m3 m7 m8 m5 e3 m6 e4 m4 e5 hh ht hL2 e2 mm; omega)
  · dsimp only; lia
  · dsimp only; (clear m3 m7 m8 m5 e3 m6 e4 m4 e5 hh ht hL2 e2 mm; omega)
  · dsimp only; lia
  · dsimp only
    generalize (v * h - s * t) = d at *
    lia

theorem above_pairs (n : Nat) (hd : Bool) {p q : Int × Int} (hp : p.1.natAbs < Big ∧ p.2.natAbs < Big) (hq : q.1.natAbs < Big ∧ q.2.natAbs < Big) :
    callF (n + 10) ⟨G1, false, hd⟩ aboveFD [pairP p, pairP q] = .ok (.bool (abv p q)) :=
  above_ev n hd p.1 p.2 q.1 q.2 (mulOk_of hp.1 hq.2) (mulOk_of hq.1 hp.2)
end Mine
end
section
namespace Mine
open PySem

noncomputable def endsFD : FD := fdOf "_law_ends"
noncomputable def endsLoop : List Stmt := match endsFD.body with
  | [_, _, _, .For _ _ b _ _, _] => b
  | _ => []
/-- the claim of party p for its seat s -/
noncomputable def clm (k : Nat) (V : List Int) (h : Int) (p : Nat) (s : Int) : Int × Int := claimP k (gt0 V p) s h V.sum
/-- one turn of _law_ends: the last so far (nought: none yet; else its place and one), the best so far -/
noncomputable def endsStep (k : Nat) (V X : List Int) (h : Int) (i : Nat) (σ : Nat × Nat) : Nat × Nat :=
  (if gt0 X i > 0 ∧ (σ.1 = 0 ∨ abv (clm k V h i (gt0 X i)) (clm k V h (σ.1 - 1) (gt0 X (σ.1 - 1))) = false) then i + 1 else σ.1,
   if abv (clm k V h i (gt0 X i + 1)) (clm k V h σ.2 (gt0 X σ.2 + 1)) = true then i else σ.2)
noncomputable def endsN (k : Nat) (V X : List Int) (h : Int) : Nat → Nat × Nat
  | 0 => (0, 0)
  | i + 1 => endsStep k V X h i (endsN k V X h i)

noncomputable def endsF (k : Nat) (V X : List Int) (h : Int) (l b : Int) : Rho :=
  [(Str.ofString "kind", .int k, false), (Str.ofString "votes", intL V, false), (Str.ofString "state", intL X, false), (Str.ofString "house", .int h, false), (Str.ofString "total", .int V.sum, false), (Str.ofString "last", .int l, false), (Str.ofString "best", .int b, false)]
noncomputable def endsT (p c : Int) : Rho := [(Str.ofString "place", .int p, false), (Str.ofString "count", .int c, false)]
noncomputable def endsM (p c : Int) (m : PV) : Rho := [(Str.ofString "place", .int p, false), (Str.ofString "count", .int c, false), (Str.ofString "mine", m, false)]

/-- the argument list of a claim -/
structure Fine (V X : List Int) (h : Int) : Prop where
  len : X.length = V.length
  sm : V.length ≤ 1000
  hv : ∀ p, (gt0 V p).natAbs < Lim
  hx : ∀ p, (gt0 X p).natAbs + 1 < Lim
  hh : h.natAbs < Lim
  ht : V.sum.natAbs < Lim
variable {k : Nat} {V X : List Int} {h : Int}
theorem Fine.call (F : Fine V X h) (hk : k ≤ 6) (n : Nat) (hd : Bool) (p : Nat) : callF (n + 20) ⟨G1, false, hd⟩ claimFD [.int k, .int (gt0 V p), .int (gt0 X p), .int h, .int V.sum] = .ok (pairP (clm k V h p (gt0 X p))) :=
  claim_ev n hd k hk _ _ _ _ (F.hv p) (by have := F.hx p; (exact Nat.lt_of_succ_lt this)) F.hh F.ht
theorem Fine.call1 (F : Fine V X h) (hk : k ≤ 6) (n : Nat) (hd : Bool) (p : Nat) : callF (n + 20) ⟨G1, false, hd⟩ claimFD [.int k, .int (gt0 V p), .int (gt0 X p + 1), .int h, .int V.sum] = .ok (pairP (clm k V h p (gt0 X p + 1))) :=
  claim_ev n hd k hk _ _ _ _ (F.hv p) (by have := F.hx p; (clear F hk; omega)) F.hh F.ht
theorem Fine.big (F : Fine V X h) (p : Nat) : (clm k V h p (gt0 X p)).1.natAbs < Big ∧ (clm k V h p (gt0 X p)).2.natAbs < Big := claim_big (F.hv p) (by have := F.hx p; (exact Nat.lt_of_succ_lt this)) F.hh F.ht
theorem Fine.big1 (F : Fine V X h) (p : Nat) : (clm k V h p (gt0 X p + 1)).1.natAbs < Big ∧ (clm k V h p (gt0 X p + 1)).2.natAbs < Big := claim_big (F.hv p) (by have := F.hx p; omega) F.hh F.ht

/-- the second and the third statement of the turn -/
theorem ends_best (F : Fine V X h) (hk : k ≤ 6) (n : Nat) {l : Int} {b i : Nat} (hi : i < V.length) (hb : b < V.length) {tl : Rho} (ht : tl = endsT i (gt0 X i) ∨ ∃ m, tl = endsM i (gt0 X i) m) :
    exs (n + 60) ⟨G1, false, false⟩ endsFD.scope (endsF k V X h l b ++ tl) (endsLoop.drop 1) = .ok (.next, endsF k V X h l (if abv (clm k V h i (gt0 X i + 1)) (clm k V h b (gt0 X b + 1)) = true then i else b : Nat) ++ endsM i (gt0 X i) (pairP (clm k V h i (gt0 X i + 1)))) := by
  have v1 := idx_nat hi F.sm
  have v2 := idx_nat hb F.sm
  have x2 := idx_nat (l := X) (i := b) (by rw [F.len]; exact hb) (by rw [F.len]; exact F.sm)
  have tst : evT (n + 57) ⟨G1, false, false⟩ endsFD.scope (endsF k V X h l b ++ endsM i (gt0 X i) (pairP (clm k V h i (gt0 X i + 1)))) (match endsLoop with | [_, _, .If t _ _ _] => t | _ => .Constant .none 0 default) = .ok (abv (clm k V h i (gt0 X i + 1)) (clm k V h b (gt0 X b + 1))) :=
    r_tcall (r_fun rfl rfl rfl rfl (m_cons rfl (m_cons (r_fun rfl rfl rfl rfl (m_cons rfl (m_cons (r_sub rfl rfl rfl v2) (m_cons (r_bin rfl (r_sub rfl rfl rfl x2) rfl rfl) (m_cons rfl (m_cons rfl m_nil))))) (F.call1 hk _ _ b)) m_nil)) (above_pairs _ _ (F.big1 i) (F.big1 b)))
  have asg : ex (n + 59) ⟨G1, false, false⟩ endsFD.scope (endsF k V X h l b ++ tl) (match endsLoop with | [_, s, _] => s | _ => default) = .ok (.next, endsF k V X h l b ++ endsM i (gt0 X i) (pairP (clm k V h i (gt0 X i + 1)))) := by
    rcases ht with rfl | ⟨m, rfl⟩
    · exact r_assign (r_fun rfl rfl rfl rfl (m_cons rfl (m_cons (r_sub rfl rfl rfl v1) (m_cons (r_bin rfl rfl rfl rfl) (m_cons rfl (m_cons rfl m_nil))))) (F.call1 hk _ _ i)) rfl
    · exact r_assign (r_fun rfl rfl rfl rfl (m_cons rfl (m_cons (r_sub rfl rfl rfl v1) (m_cons (r_bin rfl rfl rfl rfl) (m_cons rfl (m_cons rfl m_nil))))) (F.call1 hk _ _ i)) rfl
  refine r_next asg ?_
  cases hc : abv (clm k V h i (gt0 X i + 1)) (clm k V h b (gt0 X b + 1)) with
  | true =>
    rw [hc] at tst
    exact r_next (r_ifT tst (r_next (r_assign rfl rfl) r_nil)) r_nil
  | false =>
    rw [hc] at tst
    exact r_next (r_ifF tst r_nil) r_nil
/-- the first statement of the turn: l is the last so far (nought: none) -/
theorem ends_last (F : Fine V X h) (hk : k ≤ 6) (n : Nat) {b i l : Nat} (hi : i < V.length) (hl : l ≤ V.length) {tl : Rho} (ht : tl = endsT i (gt0 X i) ∨ ∃ m, tl = endsM i (gt0 X i) m) :
    ∃ tl', (tl' = endsT i (gt0 X i) ∨ ∃ m, tl' = endsM i (gt0 X i) m) ∧
    ex (n + 65) ⟨G1, false, false⟩ endsFD.scope (endsF k V X h ((l : Int) - 1) b ++ tl) (match endsLoop with | s :: _ => s | _ => default) = .ok (.next, endsF k V X h (((if gt0 X i > 0 ∧ (l = 0 ∨ abv (clm k V h i (gt0 X i)) (clm k V h (l - 1) (gt0 X (l - 1))) = false) then i + 1 else l : Nat) : Int) - 1) b ++ tl') := by
  have v1 := idx_nat hi F.sm
  by_cases hp : gt0 X i > 0
  case neg =>
    refine ⟨tl, ht, ?_⟩
    rw [if_neg (fun h => hp h.1)]
    have hp' : decide (gt0 X i > 0) = false := decide_eq_false hp
    rcases ht with rfl | ⟨m, rfl⟩
    · exact r_ifF (r_tcmp rfl rfl rfl (congrArg Res.ok hp')) r_nil
    · exact r_ifF (r_tcmp rfl rfl rfl (congrArg Res.ok hp')) r_nil
  case pos =>
    have hp' : decide (gt0 X i > 0) = true := decide_eq_true hp
    have tst : evT (n + 64) ⟨G1, false, false⟩ endsFD.scope (endsF k V X h ((l : Int) - 1) b ++ tl) (match endsLoop with | .If t _ _ _ :: _ => t | _ => .Constant .none 0 default) = .ok true := by
      rcases ht with rfl | ⟨m, rfl⟩
      · exact r_tcmp rfl rfl rfl (congrArg Res.ok hp')
      · exact r_tcmp rfl rfl rfl (congrArg Res.ok hp')
    have asg : ex (n + 63) ⟨G1, false, false⟩ endsFD.scope (endsF k V X h ((l : Int) - 1) b ++ tl) (match endsLoop with | .If _ (s :: _) _ _ :: _ => s | _ => default) = .ok (.next, endsF k V X h ((l : Int) - 1) b ++ endsM i (gt0 X i) (pairP (clm k V h i (gt0 X i)))) := by
      rcases ht with rfl | ⟨m, rfl⟩
      · exact r_assign (r_fun rfl rfl rfl rfl (m_cons rfl (m_cons (r_sub rfl rfl rfl v1) (m_cons rfl (m_cons rfl (m_cons rfl m_nil))))) (F.call hk _ _ i)) rfl
      · exact r_assign (r_fun rfl rfl rfl rfl (m_cons rfl (m_cons (r_sub rfl rfl rfl v1) (m_cons rfl (m_cons rfl (m_cons rfl m_nil))))) (F.call hk _ _ i)) rfl
    refine ⟨endsM i (gt0 X i) (pairP (clm k V h i (gt0 X i))), .inr ⟨_, rfl⟩, ?_⟩
    refine r_ifT tst (r_next asg ?_)
    by_cases hl0 : l = 0
    · subst hl0
      rw [if_pos ⟨hp, .inl rfl⟩]
      exact r_next (r_ifT (r_orT (r_tcmp rfl rfl rfl rfl)) (r_next (r_assign rfl (v := .int i) (by rw [show ((i + 1 : Nat) : Int) - 1 = i by (clear F hk hi ht v1 hp hp' hl tst asg; lia)]; rfl)) r_nil)) r_nil
    · have hneg : decide (((l : Int) - 1) < 0) = false := decide_eq_false (by (clear F hk hi hl ht v1 hp hp' tst asg; lia))
      have hl1 : ((l : Int) - 1) = ((l - 1 : Nat) : Int) := by (clear F hk hi hl ht v1 hp hp' tst asg hneg; lia)
      have v2 := idx_nat (l := V) (i := l - 1) (by (clear F hk hi ht v1 hp hp' tst asg hl0 hneg; omega)) F.sm
      have x2 := idx_nat (l := X) (i := l - 1) (by rw [F.len]; (clear F hk hi ht v1 hp hp' tst asg hl0 hneg v2; omega)) (by rw [F.len]; exact F.sm)
      rw [← hl1] at v2 x2
      have tt : evT (n + 61) ⟨G1, false, false⟩ endsFD.scope (endsF k V X h ((l : Int) - 1) b ++ endsM i (gt0 X i) (pairP (clm k V h i (gt0 X i)))) (match endsLoop with | .If _ [_, .If t _ _ _] _ _ :: _ => t | _ => .Constant .none 0 default) = .ok (!abv (clm k V h i (gt0 X i)) (clm k V h (l - 1) (gt0 X (l - 1)))) :=
        r_orF (r_tcmp rfl rfl rfl (congrArg Res.ok hneg)) (r_not (r_tcall (r_fun rfl rfl rfl rfl (m_cons rfl (m_cons (r_fun rfl rfl rfl rfl (m_cons rfl (m_cons (r_sub rfl rfl rfl v2) (m_cons (r_sub rfl rfl rfl x2) (m_cons rfl (m_cons rfl m_nil))))) (F.call hk _ _ (l - 1))) m_nil)) (above_pairs _ _ (F.big i) (F.big (l - 1))))))
      cases hc : abv (clm k V h i (gt0 X i)) (clm k V h (l - 1) (gt0 X (l - 1))) with
      | true =>
        rw [hc] at tt
        rw [if_neg (fun h => by rcases h.2 with h | h; exact hl0 h; exact Bool.noConfusion h)]
        exact r_next (r_ifF tt r_nil) r_nil
      | false =>
        rw [hc] at tt
        rw [if_pos ⟨hp, .inr rfl⟩]
        exact r_next (r_ifT tt (r_next (r_assign rfl (v := .int i) (by rw [show ((i + 1 : Nat) : Int) - 1 = i by (clear F hk hi hl ht v1 hp hp' tst asg hl0 hneg hl1 v2 x2 tt hc; lia)]; rfl)) r_nil)) r_nil
end Mine
end
section
namespace Mine
open PySem
variable {k : Nat} {V X : List Int} {h : Int}

theorem endsN_le (k : Nat) (V X : List Int) (h : Int) : ∀ i, (endsN k V X h i).1 ≤ i
  | 0 => Nat.le_refl _
  | i + 1 => by
    have := endsN_le k V X h i
    dsimp only [endsN, endsStep]
    split
    · exact Nat.le_refl _
    · exact Nat.le_succ_of_le this
theorem endsN_lt (k : Nat) (V X : List Int) (h : Int) {m : Nat} (hm : 0 < m) : ∀ i, i ≤ m → (endsN k V X h i).2 < m
  | 0, _ => hm
  | i + 1, hi => by
    have := endsN_lt k V X h hm i (by exact Nat.le_of_lt hi)
    dsimp only [endsN, endsStep]
    split
    · exact hi
    · exact this

theorem ends_turn (F : Fine V X h) (hk : k ≤ 6) (n : Nat) {b i l : Nat} (hi : i < V.length) (hl : l ≤ V.length) (hb : b < V.length) {tl : Rho} (ht : tl = endsT i (gt0 X i) ∨ ∃ m, tl = endsM i (gt0 X i) m) :
    ∃ m, exs (n + 66) ⟨G1, false, false⟩ endsFD.scope (endsF k V X h ((l : Int) - 1) b ++ tl) endsLoop = .ok (.next, endsF k V X h (((endsStep k V X h i (l, b)).1 : Int) - 1) (endsStep k V X h i (l, b)).2 ++ endsM i (gt0 X i) m) := by
  obtain ⟨tl', ht', e⟩ := ends_last F hk n hi hl ht (b := b)
  have e2 := ends_best F hk (n + 5) (l := (((if gt0 X i > 0 ∧ (l = 0 ∨ abv (clm k V h i (gt0 X i)) (clm k V h (l - 1) (gt0 X (l - 1))) = false) then i + 1 else l : Nat) : Int) - 1)) hi hb ht'
  exact ⟨pairP (clm k V h i (gt0 X i + 1)), r_next e e2⟩
theorem intsOf_map : ∀ l : List Int, intsOf (l.map .int) = some l
  | [] => rfl
  | a :: r => by
    show (intsOf (r.map .int)).map (a :: ·) = _
    rw [intsOf_map r]; rfl
theorem b_sum (hd : Bool) (l : List Int) : builtinE hd (Str.ofString "sum") [intL l] = .ok (.int l.sum) := by
  show ofO ((intsOf (l.map .int)).map fun ns => PV.int ns.sum) = _
  rw [intsOf_map]; rfl
theorem r_blt {n : Nat} {C : Cx} {sc : Scope} {ρ : Rho} {f : Str} {p p' : Pos} {as : List PySem.Expr} {vs : List PV} {v : PV} (hg : isG C.G sc f = true) (hb : (isBlt f && as.all plainArg) = true)
    (ha : mapR (evE n C sc ρ) as = .ok vs) (hc : builtinE C.hd f vs = .ok v) : evE (n + 1) C sc ρ (.Call (.Name f p) as [] p') = .ok v := by
  show (if isG C.G sc f then (if isBlt f && as.all plainArg then (mapR (evE n C sc ρ) as).bind fun vs => builtinE C.hd f vs else .stuck) else _) = _
  rw [hg, if_pos rfl, hb, if_pos rfl, ha]
  exact hc

theorem r_for_inv {n : Nat} {C : Cx} {sc : Scope} {ρ : Rho} {t it : PySem.Expr} {body rest : List Stmt} {p : Pos} {items : List PV} {res : Res (MFlow × Rho)} (Inv : Nat → Rho → Prop)
    (h1 : evI n C sc (unowned ρ) t it = .ok items) (hl : items.length ≤ szLine) (h0 : Inv 0 ρ)
    (hs : ∀ (i : Nat) (hi : i < items.length) ρ, Inv i ρ → ∃ ρ1, storeT C.hd sc t items[i] ρ = .ok ρ1 ∧ ∃ ρ', exs n C sc ρ1 body = .ok (.next, ρ') ∧ Inv (i + 1) ρ')
    (hk : ∀ ρ', Inv items.length ρ' → exs (n + 1) C sc ρ' rest = res) : exs (n + 2) C sc ρ (.For t it body [] p :: rest) = res := by
  obtain ⟨ρ', e, hI⟩ := forR_idx (turn := fun v ρ₁ => (storeT C.hd sc t v ρ₁).bind fun ρ₂ => exs n C sc ρ₂ body) (Inv := Inv) (fun i hi ρ hI => by
    obtain ⟨ρ1, e1, ρ', e2, hI'⟩ := hs i hi ρ hI
    refine ⟨ρ', ?_, hI'⟩
    show (storeT C.hd sc t items[i] ρ).bind _ = _
    rw [e1]; exact e2) h0
  exact r_next (r_for h1 hl e) (hk ρ' hI)

noncomputable def Out (r : Res (MFlow × Rho)) : Res PV := r.bind fun (f, _) => match f with
  | .ret v => .ok v
  | .next => .stuck
section outs
variable {n : Nat} {C : Cx} {sc : Scope} {ρ ρ' ρ'' : Rho} {res : Res PV}
theorem c_call {fd : FD} {as : List PV} (hs : (scOK fd.scope && fd.scope.names.all (fun x => x.2 != .free)) = true) (hb : bindsOf fd as = .ok ρ) (hx : Out (exs n C fd.scope ρ fd.body) = res) : callF (n + 1) C fd as = res := by
  show (if _ then _ else _) = _
  rw [if_pos hs, hb]
  exact hx
theorem o_next {st : Stmt} {r : List Stmt} (h1 : ex n C sc ρ st = .ok (.next, ρ')) (h2 : Out (exs n C sc ρ' r) = res) : Out (exs (n + 1) C sc ρ (st :: r)) = res := by
  rw [show exs (n + 1) C sc ρ (st :: r) = (ex n C sc ρ st).bind fun (f, ρ') => match f with
      | .next => exs n C sc ρ' r
      | .ret v => .ok (.ret v, ρ') from rfl, h1]
  exact h2
theorem o_return {e : PySem.Expr} {p : Pos} {r : List Stmt} {v : PV} (h : evE n C sc ρ e = .ok v) : Out (exs (n + 2) C sc ρ (.Return (some e) p :: r)) = .ok v := by
  rw [r_ret (r_return h)]; rfl
theorem o_returnTie {e : PySem.Expr} {p : Pos} {r : List Stmt} (h : evE n C sc ρ e = .tie) : Out (exs (n + 2) C sc ρ (.Return (some e) p :: r)) = .tie := by
  have : ex (n + 1) C sc ρ (.Return (some e) p) = .tie := by
    show (evE n C sc ρ e).bind _ = _
    rw [h]; rfl
  rw [r_tie this]; rfl
/-- a branch that does not go on -/
theorem o_ifR {c : Bool} {t : PySem.Expr} {a b r : List Stmt} {p : Pos} (h : evT n C sc ρ t = .ok c) (h2 : Out (if c then exs n C sc ρ a else exs n C sc ρ b) = res) (hr : res ≠ .stuck) : Out (exs (n + 2) C sc ρ (.If t a b p :: r)) = res := by
  have e : ex (n + 1) C sc ρ (.If t a b p) = if c then exs n C sc ρ a else exs n C sc ρ b := r_if h rfl
  rw [show exs (n + 2) C sc ρ (.If t a b p :: r) = (ex (n + 1) C sc ρ (.If t a b p)).bind fun (f, ρ') => match f with
      | .next => exs (n + 1) C sc ρ' r
      | .ret v => .ok (.ret v, ρ') from rfl, e]
  generalize (if c then exs n C sc ρ a else exs n C sc ρ b) = q at h2
  match q, h2 with
  | .ok (.next, _), h2 => exact absurd h2.symm hr
  | .ok (.ret v, _), h2 => exact h2
  | .tie, h2 => exact h2
  | .stuck, h2 => exact absurd h2.symm hr
theorem o_ifT {t : PySem.Expr} {a b r : List Stmt} {p : Pos} {v : PV} (h : evT n C sc ρ t = .ok true) (h2 : Out (exs n C sc ρ a) = .ok v) : Out (exs (n + 2) C sc ρ (.If t a b p :: r)) = .ok v := o_ifR h h2 (fun e => by cases e)
theorem o_for_inv {t it : PySem.Expr} {body rest : List Stmt} {p : Pos} {items : List PV} (Inv : Nat → Rho → Prop)
    (h1 : evI n C sc (unowned ρ) t it = .ok items) (hl : items.length ≤ szLine) (h0 : Inv 0 ρ)
    (hs : ∀ (i : Nat) (hi : i < items.length) ρ, Inv i ρ → ∃ ρ1, storeT C.hd sc t items[i] ρ = .ok ρ1 ∧ ∃ ρ', exs n C sc ρ1 body = .ok (.next, ρ') ∧ Inv (i + 1) ρ')
    (hk : ∀ ρ', Inv items.length ρ' → Out (exs (n + 1) C sc ρ' rest) = res) : Out (exs (n + 2) C sc ρ (.For t it body [] p :: rest)) = res := by
  obtain ⟨ρ', e, hI⟩ := forR_idx (turn := fun v ρ₁ => (storeT C.hd sc t v ρ₁).bind fun ρ₂ => exs n C sc ρ₂ body) (Inv := Inv) (fun i hi ρ hI => by
    obtain ⟨ρ1, e1, ρ', e2, hI'⟩ := hs i hi ρ hI
    refine ⟨ρ', ?_, hI'⟩
    show (storeT C.hd sc t items[i] ρ).bind _ = _
    rw [e1]; exact e2) h0
  exact o_next (r_for h1 hl e) (hk ρ' hI)
end outs

theorem ends_ev (F : Fine V X h) (hk : k ≤ 6) (hm : 0 < V.length) (n : Nat) :
    callF (n + 80) ⟨G1, false, false⟩ endsFD [.int k, intL V, intL X, .int h] = .ok (.tup [.int (((endsN k V X h X.length).1 : Int) - 1), .int ((endsN k V X h X.length).2 : Int)]) := by
  have hlen : ((X.map PV.int).zipIdx.map fun (v, (i : Nat)) => PV.tup [.int i, v]).length = X.length := by simp
  have hit : ∀ (i : Nat) (hi : i < ((X.map PV.int).zipIdx.map fun (v, (i : Nat)) => PV.tup [.int i, v]).length), ((X.map PV.int).zipIdx.map fun (v, (i : Nat)) => PV.tup [.int i, v])[i] = .tup [.int i, .int (gt0 X i)] := by
    intro i hi
    have hi' : i < X.length := by lia
    simp [gt0, List.getD_eq_getElem?_getD, List.getElem?_eq_getElem hi']
  have hz : ((X.map PV.int).zipIdx.map fun (v, (i : Nat)) => PV.tup [.int i, v]).length ≤ szLine := by rw [hlen, F.len]; exact F.sm
  refine c_call (by decide +kernel) rfl (o_next (r_assign (v := .int V.sum) (r_blt rfl rfl (m_cons rfl m_nil) (b_sum _ _)) rfl) (o_next (r_assign rfl rfl) (o_next (r_assign rfl rfl) ?_)))
  refine o_for_inv (items := (X.map PV.int).zipIdx.map fun (v, (i : Nat)) => PV.tup [.int i, v]) (fun i ρ => ∃ tl, ρ = endsF k V X h (((endsN k V X h i).1 : Int) - 1) (endsN k V X h i).2 ++ tl ∧ (tl = [] ∨ ∃ p c m, tl = endsM p c m)) rfl hz ⟨[], rfl, .inl rfl⟩ ?_ ?_
  · intro i hi ρ ⟨tl, e, ht⟩
    have hi' : i < V.length := by rw [← F.len]; lia
    have h1 := endsN_le k V X h i
    have h2 := endsN_lt k V X h hm i (by exact Nat.le_of_lt hi')
    have hst : ∃ tl2, (tl2 = endsT i (gt0 X i) ∨ ∃ m, tl2 = endsM i (gt0 X i) m) ∧ storeT false endsFD.scope (match endsFD.body with | [_, _, _, .For t _ _ _ _, _] => t | _ => default) (.tup [.int i, .int (gt0 X i)]) ρ = .ok (endsF k V X h (((endsN k V X h i).1 : Int) - 1) (endsN k V X h i).2 ++ tl2) := by
      subst e
      rcases ht with rfl | ⟨p, c, m, rfl⟩
      · exact ⟨endsT i (gt0 X i), .inl rfl, rfl⟩
      · exact ⟨endsM i (gt0 X i) m, .inr ⟨m, rfl⟩, rfl⟩
    obtain ⟨tl2, ht2, e2⟩ := hst
    obtain ⟨m, e3⟩ := ends_turn F hk (n + 8) hi' (l := (endsN k V X h i).1) (b := (endsN k V X h i).2) (by (clear F hk hm hlen hit hz hi e ht h2 ht2 e2; lia)) h2 ht2
    rw [hit i hi]
    exact ⟨_, e2, _, e3, endsM i (gt0 X i) m, rfl, .inr ⟨_, _, _, rfl⟩⟩
  · intro ρ' ⟨tl, e, ht⟩
    rw [hlen] at e
    subst e
    rcases ht with rfl | ⟨p, c, m, rfl⟩
    · exact o_return (r_tup2 rfl rfl)
    · exact o_return (r_tup2 rfl rfl)
end Mine
end
section
namespace Mine
open PySem
variable {k : Nat} {V X : List Int} {h : Int}

section rules
variable {n : Nat} {C : Cx} {sc : Scope} {ρ ρ' : Rho}
theorem r_assignT {ts : List PySem.Expr} {c : Nat} {p' p : Pos} {e : PySem.Expr} {v : PV} (hc : (C.hd || !isCall e) = false) (h : evE n C sc ρ e = .ok v) (h2 : assignT sc e ts v ρ = .ok ρ') : ex (n + 1) C sc ρ (.Assign [.Tuple ts c p'] e p) = .ok (.next, ρ') := by
  have q : ex (n + 1) C sc ρ (.Assign [.Tuple ts c p'] e p) = if (C.hd || !isCall e) = true then Res.stuck else (evE n C sc ρ e).bind fun v => (assignT sc e ts v ρ).bind fun ρ' => Res.ok (MFlow.next, ρ') := rfl
  rw [q, hc, h]
  show (assignT sc e ts v ρ).bind _ = _
  rw [h2]; rfl
theorem r_ife {t a b : PySem.Expr} {p : Pos} {c : Bool} {v w : PV} (h : evT n C sc ρ t = .ok c) (h1 : c = true → evE n C sc ρ a = .ok v) (h2 : c = false → evE n C sc ρ b = .ok w) : evE (n + 1) C sc ρ (.IfExp t a b p) = .ok (if c then v else w) := by
  show (evT n C sc ρ t).bind _ = _
  rw [h]
  show (if c then evE n C sc ρ a else evE n C sc ρ b) = _
  cases c with
  | true => exact h1 rfl
  | false => exact h2 rfl
theorem r_tup3 {e1 e2 e3 : PySem.Expr} {k : Nat} {p : Pos} {a b c : PV} (h1 : evE n C sc ρ e1 = .ok a) (h2 : evE n C sc ρ e2 = .ok b) (h3 : evE n C sc ρ e3 = .ok c) : evE (n + 1) C sc ρ (.Tuple [e1, e2, e3] k p) = .ok (.tup [a, b, c]) := by
  show (mapR (evE n C sc ρ) [e1, e2, e3]).bind _ = _
  rw [m_cons h1 (m_cons h2 (m_cons h3 m_nil))]; rfl
theorem r_or2 {x y : PySem.Expr} {p : Pos} {a b : Bool} (h1 : evT (n + 2) C sc ρ x = .ok a) (h2 : evT (n + 1) C sc ρ y = .ok b) : evT (n + 4) C sc ρ (.BoolOp .Or [x, y] p) = .ok (a || b) := by
  cases a with
  | true => exact r_orT h1
  | false => exact r_orF h1 h2
theorem r_and {x y : PySem.Expr} {p : Pos} {a b : Bool} (h1 : evT (n + 2) C sc ρ x = .ok a) (h2 : evT (n + 1) C sc ρ y = .ok b) : evT (n + 4) C sc ρ (.BoolOp .And [x, y] p) = .ok (a && b) :=
  r_and2 (n := n + 2) h1 h2 ⟨n, rfl⟩
theorem o_ifRet {c : Bool} {t : PySem.Expr} {a r : List Stmt} {p : Pos} {res : Res PV} (h : evT (n + 1) C sc ρ t = .ok c) (h1 : c = true → Out (exs (n + 1) C sc ρ a) = res) (hr : res ≠ .stuck) (h2 : c = false → Out (exs (n + 2) C sc ρ r) = res) :
    Out (exs (n + 3) C sc ρ (.If t a [] p :: r)) = res := by
  cases c with
  | true => exact o_ifR h (h1 rfl) hr
  | false => exact o_next (r_ifF h r_nil) (h2 rfl)
end rules

noncomputable def weighT (k : Nat) (V X : List Int) (h : Int) (l b : Nat) : Int :=
  if (abv (clm k V h b (gt0 X b + 1)) (clm k V h l (gt0 X l)) || (decide ((b : Int) < (l : Int)) && !abv (clm k V h l (gt0 X l)) (clm k V h b (gt0 X b + 1)))) = true then 1
  else if abv (clm k V h l (gt0 X l)) (clm k V h b (gt0 X b + 1)) = true then -1 else 0
noncomputable def weighFD : FD := fdOf "_law_weighed"

theorem weigh_ev (F : Fine V X h) (hk : k ≤ 6) (n : Nat) (l b : Nat) (hl : l < V.length) (hb : b < V.length) (el : (endsN k V X h X.length).1 = l + 1) (eb : (endsN k V X h X.length).2 = b) :
    callF (n + 90) ⟨G1, false, false⟩ weighFD [.int k, intL V, intL X, .int h] = .ok (.tup [.int (weighT k V X h l b), .int l, .int b]) := by
  have hm : 0 < V.length := by exact Nat.zero_lt_of_lt hb
  have E : ∀ n, callF (n + 80) ⟨G1, false, false⟩ endsFD [.int k, intL V, intL X, .int h] = .ok (.tup [.int l, .int b]) := fun n => by
    have E := ends_ev F hk hm n
    rw [el, eb, show ((l + 1 : Nat) : Int) - 1 = (l : Int) by lia] at E
    exact E
  have vl := idx_nat (l := V) (i := l) hl F.sm
  have xl := idx_nat (l := X) (i := l) (by rw [F.len]; exact hl) (by rw [F.len]; exact F.sm)
  have vb := idx_nat (l := V) (i := b) hb F.sm
  have xb := idx_nat (l := X) (i := b) (by rw [F.len]; exact hb) (by rw [F.len]; exact F.sm)
  refine c_call (by decide +kernel) rfl (o_next (r_assignT rfl (r_fun rfl rfl rfl rfl (m_cons rfl (m_cons rfl (m_cons rfl (m_cons rfl m_nil)))) (E _)) rfl) ?_)
  refine o_next (r_assign (r_fun rfl rfl rfl rfl (m_cons rfl (m_cons (r_sub rfl rfl rfl vl) (m_cons (r_sub rfl rfl rfl xl) (m_cons rfl (m_cons (r_blt rfl rfl (m_cons rfl m_nil) (b_sum _ _)) m_nil))))) (F.call hk _ _ l)) rfl) ?_
  refine o_next (r_assign (r_fun rfl rfl rfl rfl (m_cons rfl (m_cons (r_sub rfl rfl rfl vb) (m_cons (r_bin rfl (r_sub rfl rfl rfl xb) rfl rfl) (m_cons rfl (m_cons (r_blt rfl rfl (m_cons rfl m_nil) (b_sum _ _)) m_nil))))) (F.call1 hk _ _ b)) rfl) ?_
  have du : ∀ n, callF (n + 10) ⟨G1, false, false⟩ aboveFD [pairP (clm k V h l (gt0 X l)), pairP (clm k V h b (gt0 X b + 1))] = _ := fun n => above_pairs n false (F.big l) (F.big1 b)
  have ud : ∀ n, callF (n + 10) ⟨G1, false, false⟩ aboveFD [pairP (clm k V h b (gt0 X b + 1)), pairP (clm k V h l (gt0 X l))] = _ := fun n => above_pairs n false (F.big1 b) (F.big l)
  refine o_ifRet (r_or2 (r_tcall (r_fun rfl rfl rfl rfl (m_cons rfl (m_cons rfl m_nil)) (ud _))) (r_and (r_tcmp rfl rfl rfl rfl) (r_not (r_tcall (r_fun rfl rfl rfl rfl (m_cons rfl (m_cons rfl m_nil)) (du _)))))) ?_ (fun h => by cases h) ?_
  · intro hc
    rw [show weighT k V X h l b = 1 from if_pos hc]
    exact o_return (r_tup3 rfl rfl rfl)
  · intro hc
    rw [show weighT k V X h l b = _ from if_neg (by rw [hc]; exact Bool.false_ne_true)]
    refine o_return (r_tup3 ?_ rfl rfl)
    refine Eq.trans (r_ife (v := .int (-1)) (w := .int 0) (r_tcall (r_fun rfl rfl rfl rfl (m_cons rfl (m_cons rfl m_nil)) (du _))) (fun _ => rfl) (fun _ => rfl)) ?_
    split <;> rfl
end Mine
end
section
namespace Mine
open PySem

theorem flatR_map {α : Type} {g : α → PV} {q : α → Bool} {f : α → PV} {turn : PV → Res (List PV)} : ∀ {L : List α}, (∀ a, a ∈ L → turn (g a) = .ok (if q a then [f a] else [])) → flatR turn (L.map g) = .ok ((L.filter q).map f)
  | [], _ => rfl
  | a :: r, h => by
    have ih := flatR_map (L := r) fun b hb => h b (List.mem_cons_of_mem _ hb)
    show (turn (g a)).bind _ = _
    rw [h a List.mem_cons_self]
    show (flatR turn (r.map g)).bind _ = _
    rw [ih]
    cases hq : q a with
    | true => rw [List.filter_cons_of_pos hq]; rfl
    | false => rw [List.filter_cons_of_neg (by rw [hq]; exact Bool.false_ne_true)]; rfl
theorem flatR_flat {α : Type} {g : α → PV} {f : α → List PV} {turn : PV → Res (List PV)} : ∀ {L : List α}, (∀ a, a ∈ L → turn (g a) = .ok (f a)) → flatR turn (L.map g) = .ok (L.flatMap f)
  | [], _ => rfl
  | a :: r, h => by
    have ih := flatR_flat (L := r) fun b hb => h b (List.mem_cons_of_mem _ hb)
    show (turn (g a)).bind _ = _
    rw [h a List.mem_cons_self]
    show (flatR turn (r.map g)).bind _ = _
    rw [ih]; rfl

theorem lstO_le {ws : List PV} (h : ws.length ≤ szLine) : ofO (lstO ws) = .ok (.list ws) := by
  unfold lstO
  rw [if_pos h]; rfl
section rules
variable {n : Nat} {C : Cx} {sc : Scope} {ρ ρ' : Rho}

theorem r_compF {α : Type} {elt t it : PySem.Expr} {test : PySem.Expr} {scope : Scope} {p : Pos} {L : List α} {g f : α → PV} {q : α → Bool} (hc : compOK scope sc = true) (hi : evI (n + 1) C sc ρ t it = .ok (L.map g)) (hl : L.length ≤ szLine)
    (h : ∀ a, a ∈ L → ∃ ρ', storeT C.hd scope t (g a) (inner scope ρ) = .ok ρ' ∧ evT n { C with pure := true } (relab scope sc) ρ' test = .ok (q a) ∧ (q a = true → evE (n + 1) { C with pure := true } (relab scope sc) ρ' elt = .ok (f a))) :
    evE (n + 2) C sc ρ (.ListComp elt [⟨t, it, [test], 0⟩] scope p) = .ok (.list ((L.filter q).map f)) := by
  show (if compOK scope sc then (evI (n + 1) C sc ρ t it).bind fun items =>
        (flatR (fun v => (storeT C.hd scope t v (inner scope ρ)).bind fun ρ' =>
          (evFs (n + 1) { C with pure := true } (relab scope sc) ρ' [test]).noTie.bind fun c => if c then (evE (n + 1) { C with pure := true } (relab scope sc) ρ' elt).noTie.bind fun w => .ok [w] else .ok []) items).bind fun ws =>
          ofO (lstO ws)
        else .stuck) = _
  rw [if_pos hc, hi]
  show (flatR _ (L.map g)).bind _ = _
  rw [flatR_map (q := q) (f := f) (fun a ha => by
    obtain ⟨ρ', h1, h2, h3⟩ := h a ha
    show (storeT C.hd scope t (g a) (inner scope ρ)).bind _ = _
    rw [h1]
    show (evT n { C with pure := true } (relab scope sc) ρ' test).noTie.bind _ = _
    rw [h2]
    show (if q a = true then _ else _) = _
    cases hq : q a with
    | true => rw [if_pos rfl, if_pos rfl, h3 hq]; rfl
    | false => rw [if_neg Bool.false_ne_true, if_neg Bool.false_ne_true])]
  refine lstO_le ?_
  rw [List.length_map]
  exact Nat.le_trans (List.length_filter_le _ _) hl
theorem r_comp {α : Type} {elt t it : PySem.Expr} {scope : Scope} {p : Pos} {L : List α} {g f : α → PV} (hc : compOK scope sc = true) (hi : evI (n + 1) C sc ρ t it = .ok (L.map g)) (hl : L.length ≤ szLine)
    (h : ∀ a, a ∈ L → ∃ ρ', storeT C.hd scope t (g a) (inner scope ρ) = .ok ρ' ∧ evE (n + 1) { C with pure := true } (relab scope sc) ρ' elt = .ok (f a)) :
    evE (n + 2) C sc ρ (.ListComp elt [⟨t, it, [], 0⟩] scope p) = .ok (.list (L.map f)) := by
  show (if compOK scope sc then (evI (n + 1) C sc ρ t it).bind fun items =>
        (flatR (fun v => (storeT C.hd scope t v (inner scope ρ)).bind fun ρ' =>
          (evFs (n + 1) { C with pure := true } (relab scope sc) ρ' []).noTie.bind fun c => if c then (evE (n + 1) { C with pure := true } (relab scope sc) ρ' elt).noTie.bind fun w => .ok [w] else .ok []) items).bind fun ws =>
          ofO (lstO ws)
        else .stuck) = _
  rw [if_pos hc, hi]
  show (flatR _ (L.map g)).bind _ = _
  rw [flatR_map (q := fun _ => true) (f := f) (fun a ha => by
    obtain ⟨ρ', h1, h3⟩ := h a ha
    show (storeT C.hd scope t (g a) (inner scope ρ)).bind _ = _
    rw [h1]
    show (evE (n + 1) { C with pure := true } (relab scope sc) ρ' elt).noTie.bind _ = _
    rw [h3]; rfl)]
  rw [List.filter_eq_self.mpr (fun _ _ => rfl)]
  refine lstO_le ?_
  rw [List.length_map]
  exact hl
/-- two clauses, no test -/
theorem r_comp2 {α β : Type} {elt t it t2 it2 : PySem.Expr} {scope : Scope} {p : Pos} {L : List α} {g : α → PV} {M : α → List β} {g2 : α → β → PV} {f : α → β → PV} (hc : (compOK scope sc && noSet it2) = true) (hi : evI (n + 1) C sc ρ t it = .ok (L.map g)) (hl : (L.flatMap M).length ≤ szLine)
    (h : ∀ a, a ∈ L → ∃ ρ', storeT C.hd scope t (g a) (inner scope ρ) = .ok ρ' ∧ evI (n + 1) { C with pure := true } (relab scope sc) ρ' t2 it2 = .ok ((M a).map (g2 a)) ∧
      ∀ b, b ∈ M a → ∃ ρ2, storeT C.hd scope t2 (g2 a b) ρ' = .ok ρ2 ∧ evE (n + 1) { C with pure := true } (relab scope sc) ρ2 elt = .ok (f a b)) :
    evE (n + 2) C sc ρ (.ListComp elt [⟨t, it, [], 0⟩, ⟨t2, it2, [], 0⟩] scope p) = .ok (.list (L.flatMap fun a => (M a).map (f a))) := by
  show (if compOK scope sc && noSet it2 then (evI (n + 1) C sc ρ t it).bind fun items =>
        (flatR (fun v => (storeT C.hd scope t v (inner scope ρ)).bind fun ρ' =>
          (evI (n + 1) { C with pure := true } (relab scope sc) ρ' t2 it2).noTie.bind fun items2 =>
            flatR (fun v2 => (storeT C.hd scope t2 v2 ρ').bind fun ρ2 =>
              (evFs (n + 1) { C with pure := true } (relab scope sc) ρ2 []).noTie.bind fun c => if c then (evE (n + 1) { C with pure := true } (relab scope sc) ρ2 elt).noTie.bind fun w => .ok [w] else .ok []) items2) items).bind fun ws =>
            ofO (lstO ws)
        else .stuck) = _
  rw [if_pos hc, hi]
  show (flatR _ (L.map g)).bind _ = _
  rw [flatR_flat (f := fun a => (M a).map (f a)) (fun a ha => by
    obtain ⟨ρ', h1, h2, h3⟩ := h a ha
    show (storeT C.hd scope t (g a) (inner scope ρ)).bind _ = _
    rw [h1]
    show (evI (n + 1) { C with pure := true } (relab scope sc) ρ' t2 it2).noTie.bind _ = _
    rw [h2]
    show flatR _ ((M a).map (g2 a)) = _
    rw [flatR_map (q := fun _ => true) (f := f a) (fun b hb => by
      obtain ⟨ρ2, k1, k3⟩ := h3 b hb
      show (storeT C.hd scope t2 (g2 a b) ρ').bind _ = _
      rw [k1]
      show (evE (n + 1) { C with pure := true } (relab scope sc) ρ2 elt).noTie.bind _ = _
      rw [k3]; rfl)]
    rw [List.filter_eq_self.mpr (fun _ _ => rfl)])]
  refine lstO_le ?_
  rw [List.length_flatMap] at hl ⊢
  refine Nat.le_trans (Nat.le_of_eq ?_) hl
  congr 1
  exact List.map_congr_left fun a _ => List.length_map ..

theorem i_name {t : PySem.Expr} {x : Str} {p : Pos} {xs : List PV} (h : nameE C.G sc ρ x = .ok (.list xs)) : evI (n + 2) C sc ρ t (.Name x p) = .ok xs := by
  show (nameE C.G sc ρ x).bind _ = _
  rw [h]; rfl
theorem i_sub {t v i : PySem.Expr} {p : Pos} {xs : List PV} (h : evE n C sc ρ (.Subscript v i p) = .ok (.list xs)) : evI (n + 1) C sc ρ t (.Subscript v i p) = .ok xs := by
  show (evE n C sc ρ (.Subscript v i p)).bind _ = _
  rw [h]; rfl
theorem i_list {t : PySem.Expr} {es : List PySem.Expr} {p : Pos} {xs : List PV} (h : mapR (evE n C sc ρ) es = .ok xs) (hl : xs.length ≤ szLine) : evI (n + 2) C sc ρ t (.List es p) = .ok xs := by
  show ((mapR (evE n C sc ρ) es).bind _).bind _ = _
  rw [h]
  show (ofO (lstO xs)).bind _ = _
  rw [lstO_le hl]; rfl
theorem rangeI_nat (m : Nat) : rangeI 0 (m : Int) = (List.range m).map fun i : Nat => PV.int (i : Int) := by
  unfold rangeI
  rw [show ((m : Int) - 0).toNat = m by rfl]
  exact List.map_congr_left fun i _ => by rw [Int.zero_add]
theorem i_range {t a : PySem.Expr} {p p' : Pos} {m : Nat} (hg : (isG C.G sc (Str.ofString "range") && isIt (Str.ofString "range") && [a].all plainArg) = true) (h : evE n C sc ρ a = .ok (.int m)) (hm : m ≤ 1000) :
    evI (n + 1) C sc ρ t (.Call (.Name (Str.ofString "range") p) [a] [] p') = .ok ((List.range m).map fun i : Nat => PV.int (i : Int)) := by
  show (if isG C.G sc (Str.ofString "range") && isIt (Str.ofString "range") && [a].all plainArg then (mapR (evE n C sc ρ) [a]).bind _ else _) = _
  rw [if_pos hg, m_cons h m_nil]
  show ofO (if -1000 ≤ (m : Int) ∧ (m : Int) ≤ 1000 then some (rangeI 0 m) else none) = _
  rw [if_pos (by lia), rangeI_nat]; rfl
theorem i_range2 {t a b : PySem.Expr} {p p' : Pos} {k m : Nat} (hg : (isG C.G sc (Str.ofString "range") && isIt (Str.ofString "range") && [a, b].all plainArg) = true) (h1 : evE n C sc ρ a = .ok (.int k)) (h2 : evE n C sc ρ b = .ok (.int m)) (hk : k ≤ 1000) (hm : m ≤ 1000) :
    evI (n + 1) C sc ρ t (.Call (.Name (Str.ofString "range") p) [a, b] [] p') = .ok ((List.range (m - k)).map fun i : Nat => PV.int ((k : Int) + (i : Int))) := by
  show (if isG C.G sc (Str.ofString "range") && isIt (Str.ofString "range") && [a, b].all plainArg then (mapR (evE n C sc ρ) [a, b]).bind _ else _) = _
  rw [if_pos hg, m_cons h1 (m_cons h2 m_nil)]
  show ofO (if (-1000 ≤ (k : Int) ∧ (k : Int) ≤ 1000) ∧ (-1000 ≤ (m : Int) ∧ (m : Int) ≤ 1000) then some (rangeI k m) else none) = _
  rw [if_pos (by lia)]
  unfold rangeI
  rw [show ((m : Int) - (k : Int)).toNat = m - k by lia]; rfl
theorem b_len (hd : Bool) (xs : List PV) (h : xs.length ≤ szLine) : builtinE hd (Str.ofString "len") [.list xs] = .ok (.int xs.length) := by
  show ofO (if xs.length ≤ szLine then _ else _) = _
  rw [if_pos h]; rfl
theorem b_sorted (hd : Bool) (l : List Int) (h : l.length ≤ sortMax) : builtinE hd (Str.ofString "sorted") [intL l] = .ok (intL (sortI l)) := by
  show ofO ((intsOf (l.map .int)).bind fun ns => if ns.length ≤ sortMax then some (PV.list ((sortI ns).map PV.int)) else none) = _
  rw [intsOf_map]
  show ofO (if l.length ≤ sortMax then _ else _) = _
  rw [if_pos h]; rfl
theorem r_usub {x : PySem.Expr} {p : Pos} {a : Int} (h : evE n C sc ρ x = .ok (.int a)) : evE (n + 1) C sc ρ (.UnaryOp .USub x p) = .ok (.int (-a)) := by
  show (evE n C sc ρ x).bind _ = _
  rw [h]; rfl
theorem b_fdiv {a b : Int} (h0 : b ≠ 0) (h : b.natAbs < Big) : binE .FloorDiv (.int a) (.int b) = .ok (.int (a.fdiv b)) := by
  show ofO (if b = 0 then _ else if b.natAbs < 2 ^ 500 then _ else _) = _
  rw [if_neg h0, if_pos (big_lt h)]; rfl
theorem b_mod {a b : Int} (h0 : b ≠ 0) : binE .Mod (.int a) (.int b) = .ok (.int (a.fmod b)) := by
  show ofO (if b = 0 then _ else _) = _
  rw [if_neg h0]; rfl
/-- `[x] * k` -/
theorem r_rep {l r x : PySem.Expr} {op : Operator} {p : Pos} {a : PV} {m : Nat} (hm : mulForm l op = some x) (h1 : evE n C sc ρ x = .ok a) (h2 : evE n C sc ρ r = .ok (.int m)) (hs : a.scalar = true) (hl : m ≤ 1000) : evE (n + 1) C sc ρ (.BinOp l op r p) = .ok (.list (List.replicate m a)) := by
  show (match mulForm l op with | some x => _ | none => (evE n C sc ρ l).bind fun a => (evE n C sc ρ r).bind fun b => binE op a b) = _
  rw [hm]
  show (evE n C sc ρ x).bind _ = _
  rw [h1]
  show (evE n C sc ρ r).bind _ = _
  rw [h2]
  show ofO (if a.scalar = true ∧ 0 ≤ (m : Int) ∧ (m : Int) ≤ 1000 then some (PV.list (List.replicate (m : Int).toNat a)) else none) = _
  rw [if_pos ⟨hs, by exact Int.natCast_nonneg _, by lia⟩, Int.toNat_natCast]; rfl
theorem idx_nz {xs : List PV} {j : Int} {i : Nat} {v : PV} (hl : xs.length ≤ szLine) (hj : (if j < 0 then j + xs.length else j) = (i : Int)) (h : xs[i]? = some v) : idxE xs j = .ok v := by
  show ofO (idxO _ _) = _
  unfold idxO
  rw [hj, if_pos ⟨hl, by exact Int.natCast_nonneg _⟩, Int.toNat_natCast, h]; rfl
end rules
end Mine
end
section
namespace Mine
open PySem

noncomputable abbrev S (s : String) : Str := Str.ofString s
theorem c_in (a : Int) (l : List Int) : cmpE .In (.int a) (intL l) = .ok (l.any fun b => b == a) := by
  show ofO ((intsOf (l.map .int)).map fun ns => ns.any fun b => b == a) = _
  rw [intsOf_map]; rfl
theorem c_eq (a b : Int) : cmpE .Eq (.int a) (.int b) = .ok (decide (a = b)) := eqv_int a b

/-- the tests of a name -/
structure Nm (nm : Str) (k : Nat) : Prop where
  q : (nm == S "quota") = false
  l : ([S "lrm", S "hamilton", S "largest_remainder"].any fun b => b == nm) = (k == 6)
  d : ([S "dhondt", S "jefferson", S "saintelague", S "webster", S "modified_saintelague", S "huntington", S "hill", S "adams", S "dean", S "smallestdivisor", S "harmonicmean", S "equalproportions", S "majorfractions", S "greatestdivisors"].any fun b => b == nm) = (k != 6)
  g0 : ([S "dhondt", S "jefferson", S "greatestdivisors"].any fun b => b == nm) = (k == 0)
  g1 : ([S "saintelague", S "webster", S "majorfractions"].any fun b => b == nm) = (k == 1)
  g2 : ([S "modified_saintelague"].any fun b => b == nm) = (k == 2)
  g3 : ([S "huntington", S "hill", S "equalproportions"].any fun b => b == nm) = (k == 3)
  g4 : ([S "adams", S "smallestdivisor"].any fun b => b == nm) = (k == 4)
  g5 : ([S "dean", S "harmonicmean"].any fun b => b == nm) = (k == 5)

noncomputable def divFD : FD := fdOf "divisor"
noncomputable def pairL (l : List (Int × Int)) : PV := .list (l.map pairP)

theorem all_int (l : List Int) : (l.map PV.int).all PV.scalar = true := by
  rw [List.all_map]; exact List.all_eq_true.mpr fun _ _ => rfl
section rules
variable {n : Nat} {C : Cx} {sc : Scope} {ρ ρ' : Rho}
theorem a_ints {e : PySem.Expr} {x : Str} {l : List Int} (hf : freshForm e = true) : assignN sc e x (intL l) ρ = storeN sc x (intL l, true) ρ := by
  show ofO (if freshForm e then (if (l.map PV.int).all PV.scalar then storeNO sc x (intL l, true) ρ else _) else _) = _
  rw [if_pos hf, if_pos (all_int l)]; rfl
theorem a_pairs {e : PySem.Expr} {x : Str} {l : List (Int × Int)} (hf : freshForm e = true) (hl : l ≠ []) : assignN sc e x (pairL l) ρ = storeN sc x (pairL l, false) ρ := by
  show ofO (if freshForm e then (if (l.map pairP).all PV.scalar then _ else if (l.map pairP).all PV.flat then storeNO sc x (pairL l, false) ρ else _) else _) = _
  rw [if_pos hf, if_neg, if_pos]
  · rfl
  · rw [List.all_map]; exact List.all_eq_true.mpr fun _ _ => rfl
  · cases l with
    | nil => exact absurd rfl hl
    | cons a r => exact Bool.false_ne_true
/-- a list that is not of plain text, made apart: (not from a comprehension) -/
theorem a_pairs' {e : PySem.Expr} {x : Str} {l : List (Int × Int)} (hf : freshForm e = false) : assignN sc e x (pairL l) ρ = storeN sc x (pairL l, false) (freeze ρ) := by
  show ofO (if freshForm e then _ else if (PV.list (l.map pairP)).flat = true then _ else storeNO sc x (pairL l, false) (freeze ρ)) = _
  rw [if_neg (by rw [hf]; exact Bool.false_ne_true), if_neg (by exact Bool.false_ne_true)]; rfl
theorem a_ints' {e : PySem.Expr} {x : Str} {l : List Int} (hf : freshForm e = false) : assignN sc e x (intL l) ρ = storeN sc x (intL l, false) (freeze ρ) := by
  show ofO (if freshForm e then _ else if (PV.list (l.map PV.int)).flat = true then _ else storeNO sc x (intL l, false) (freeze ρ)) = _
  rw [if_neg (by rw [hf]; exact Bool.false_ne_true), if_neg (by exact Bool.false_ne_true)]; rfl
noncomputable def listL (l : List (List Int)) : PV := .list (l.map intL)
theorem a_lists {e : PySem.Expr} {x : Str} {l : List (List Int)} (hf : freshForm e = true) (hl : l ≠ []) : assignN sc e x (listL l) ρ = storeN sc x (listL l, false) (freeze ρ) := by
  show ofO (if freshForm e then (if (l.map intL).all PV.scalar then _ else if (l.map intL).all PV.flat then _ else storeNO sc x (listL l, false) (freeze ρ)) else _) = _
  rw [if_pos hf]
  cases l with
  | nil => exact absurd rfl hl
  | cons a r => rw [if_neg (by exact Bool.false_ne_true), if_neg (by exact Bool.false_ne_true)]; rfl
theorem r_subT {v i : PySem.Expr} {p : Pos} {xs : List PV} {j : Int} {w : PV} (hsl : isSl i = false) (h1 : evE n C sc ρ v = .ok (.tup xs)) (h2 : evE n C sc ρ i = .ok (.int j)) (h3 : idxE xs j = .ok w) : evE (n + 1) C sc ρ (.Subscript v i p) = .ok w := by
  have : evE (n + 1) C sc ρ (.Subscript v i p) = (evE n C sc ρ v).bind fun a => (evE n C sc ρ i).bind fun k => ofO (idxV a k) := by
    cases i <;> first | rfl | exact Bool.noConfusion hsl
  rw [this, h1]
  show (evE n C sc ρ i).bind _ = _
  rw [h2]; exact h3
/-- `x[i] += e` -/
theorem r_aug {x : Str} {i e : PySem.Expr} {p p' p'' : Pos} {op : Operator} {X : List Int} {j : Nat} {b w : Int} (hs : isSl i = false) (ho : ownE sc ρ x = .ok (intL X, true)) (hi : evE n C sc ρ i = .ok (.int j)) (hj : j < X.length) (hl : X.length ≤ szLine)
    (he : evE n C sc ρ e = .ok (.int b)) (ha : augV op (gt0 X j) (.int b) = .ok w) (hst : storeN sc x (intL (X.set j w), true) ρ = .ok ρ') : ex (n + 1) C sc ρ (.AugAssign (.Subscript (.Name x p) i p') op e p'') = .ok (.next, ρ') := by
  show (if isSl i then _ else (ownE sc ρ x).bind fun p => (evE n C sc ρ i).bind fun k => (augG p k).bind fun q => (evE n C sc ρ e).bind fun b => (augV op q.2.2 b).bind fun w =>
        (storeN sc x (.list (q.1.set q.2.1 (.int w)), true) ρ).bind fun ρ' => Res.ok (MFlow.next, ρ')) = _
  have hg : augG (intL X, true) (.int j) = .ok (X.map .int, j, gt0 X j) := by
    show ofO (if (X.map PV.int).length ≤ szLine ∧ 0 ≤ (j : Int) ∧ (j : Int) < (X.map PV.int).length then ((X.map PV.int)[(j : Int).toNat]?).bind _ else none) = _
    rw [List.length_map, if_pos ⟨hl, by exact Int.natCast_nonneg _, by lia⟩, Int.toNat_natCast, List.getElem?_map]
    have : X[j]? = some (gt0 X j) := by
      unfold gt0
      rw [List.getD_eq_getElem?_getD, List.getElem?_eq_getElem hj]; rfl
    rw [this]; rfl
  rw [if_neg (by rw [hs]; exact Bool.false_ne_true), ho]
  show (evE n C sc ρ i).bind _ = _
  rw [hi]
  show (augG (intL X, true) (.int j)).bind _ = _
  rw [hg]
  show (evE n C sc ρ e).bind _ = _
  rw [he]
  show (augV op (gt0 X j) (.int b)).bind _ = _
  rw [ha]
  show (storeN sc x (.list ((X.map PV.int).set j (.int w)), true) ρ).bind _ = _
  rw [← List.map_set]
  show (storeN sc x (intL (X.set j w), true) ρ).bind _ = _
  rw [hst]; rfl
theorem r_tname {x : Str} {p : Pos} {b : Bool} (h : nameE C.G sc ρ x = .ok (.bool b)) : evT (n + 2) C sc ρ (.Name x p) = .ok b := by
  show (nameE C.G sc ρ x).bind _ = _
  rw [h]; rfl
end rules
theorem idx_lists {l : List (List Int)} {i : Nat} (h : i < l.length) (hl : l.length ≤ 1000) : idxE (l.map intL) (i : Int) = .ok (intL (l.getD i [])) := by
  refine idx_nz (i := i) (by rw [List.length_map]; exact hl) (if_neg (by lia)) ?_
  rw [List.getElem?_map, List.getElem?_eq_getElem h, List.getD_eq_getElem?_getD, List.getElem?_eq_getElem h]; rfl

/-- the divisors -/
noncomputable def divs (k H : Nat) : List (Int × Int) := match k with
  | 0 => (List.range H).map fun i : Nat => ((i : Int) + 1, 1)
  | 1 => (List.range H).map fun i : Nat => (2 * (i : Int) + 1, 1)
  | 2 => (7, 5) :: (List.range (H - 1)).map fun i : Nat => (2 * (1 + (i : Int)) + 1, 1)
  | 3 => (List.range H).map fun i : Nat => (((i : Int) + 1) * ((i : Int) + 2), 1)
  | 4 => (List.range H).map fun i : Nat => ((i : Int) + 1, 1)
  | _ => (List.range H).map fun i : Nat => (2 * ((i : Int) + 1) * ((i : Int) + 2), 2 * ((i : Int) + 1) + 1)
/-- the seats that are given ahead -/
noncomputable def base (k : Nat) (V : List Int) : List Int := if k < 3 then List.replicate V.length 0 else V.map fun p => if p > 0 then 1 else 0

noncomputable def divF (V : List Int) (H : Nat) (nm : Str) (al : Bool) : Rho := [(S "votes", intL V, false), (S "seats", .int H, false), (S "method", .str nm, false), (S "tiesallowed", .bool al, false)]
noncomputable def divF1 (V : List Int) (H : Nat) (nm : Str) (al : Bool) (R : List Int) (o : Bool) (ds : List (Int × Int)) : Rho := divF V H nm al ++ [(S "representatives", intL R, o), (S "divisors", pairL ds, false)]

variable {V : List Int} {H : Nat} {nm : Str} {al hd : Bool}

theorem small_mul {a b : Int} (ha : a.natAbs < 100000000) (hb : b.natAbs < 100000000) : mulOk a b = true := by
  have L : 100000000 < Big := by decide +kernel
  exact mulOk_of (by exact Nat.lt_trans ha L) (by exact Nat.lt_trans hb L)

theorem r_repI {n : Nat} {C : Cx} {sc : Scope} {ρ : Rho} {l r x : PySem.Expr} {op : Operator} {p : Pos} {a : Int} {m : Nat} (hm : mulForm l op = some x) (h1 : evE n C sc ρ x = .ok (.int a)) (h2 : evE n C sc ρ r = .ok (.int m)) (hl : m ≤ 1000) : evE (n + 1) C sc ρ (.BinOp l op r p) = .ok (intL (List.replicate m a)) := by
  rw [r_rep hm h1 h2 rfl hl, intL, List.map_replicate]
theorem b_lenI (hd : Bool) (l : List Int) (h : l.length ≤ 1000) : builtinE hd (S "len") [intL l] = .ok (.int l.length) := by
  have := b_len hd (l.map PV.int) (by rw [List.length_map]; exact h)
  rw [List.length_map] at this; exact this
theorem r_lenN {n : Nat} {C : Cx} {sc : Scope} {ρ : Rho} {p p' : Pos} {e : PySem.Expr} {l : List Int} (hg : isG C.G sc (S "len") = true) (hb : (isBlt (S "len") && [e].all plainArg) = true) (h1 : evE n C sc ρ e = .ok (intL l)) (h : l.length ≤ 1000) : evE (n + 1) C sc ρ (.Call (.Name (S "len") p) [e] [] p') = .ok (.int l.length) :=
  r_blt hg hb (m_cons h1 m_nil) (b_lenI _ _ h)
theorem i_names {n : Nat} {C : Cx} {sc : Scope} {ρ : Rho} {t : PySem.Expr} {x : Str} {p : Pos} {α : Type} {L : List α} {g : α → PV} (h : nameE C.G sc ρ x = .ok (.list (L.map g))) : evI (n + 2) C sc ρ t (.Name x p) = .ok (L.map g) := i_name h
theorem r_compI {n : Nat} {C : Cx} {sc : Scope} {ρ : Rho} {α : Type} {elt t it : PySem.Expr} {scope : Scope} {p : Pos} {L : List α} {g : α → PV} {f : α → Int} (hc : compOK scope sc = true) (hi : evI (n + 1) C sc ρ t it = .ok (L.map g)) (hl : L.length ≤ szLine)
    (h : ∀ a, a ∈ L → ∃ ρ', storeT C.hd scope t (g a) (inner scope ρ) = .ok ρ' ∧ evE (n + 1) { C with pure := true } (relab scope sc) ρ' elt = .ok (.int (f a))) :
    evE (n + 2) C sc ρ (.ListComp elt [⟨t, it, [], 0⟩] scope p) = .ok (intL (L.map f)) := by
  rw [r_comp (f := fun a => .int (f a)) hc hi hl h, intL, List.map_map]; rfl
theorem r_compP {n : Nat} {C : Cx} {sc : Scope} {ρ : Rho} {α : Type} {elt t it : PySem.Expr} {scope : Scope} {p : Pos} {L : List α} {g : α → PV} {f : α → Int × Int} (hc : compOK scope sc = true) (hi : evI (n + 1) C sc ρ t it = .ok (L.map g)) (hl : L.length ≤ szLine)
    (h : ∀ a, a ∈ L → ∃ ρ', storeT C.hd scope t (g a) (inner scope ρ) = .ok ρ' ∧ evE (n + 1) { C with pure := true } (relab scope sc) ρ' elt = .ok (pairP (f a))) :
    evE (n + 2) C sc ρ (.ListComp elt [⟨t, it, [], 0⟩] scope p) = .ok (pairL (L.map f)) := by
  rw [r_comp (f := fun a => pairP (f a)) hc hi hl h, pairL, List.map_map]; rfl
theorem r_compL {n : Nat} {C : Cx} {sc : Scope} {ρ : Rho} {α : Type} {elt t it : PySem.Expr} {scope : Scope} {p : Pos} {L : List α} {g : α → PV} {f : α → List Int} (hc : compOK scope sc = true) (hi : evI (n + 1) C sc ρ t it = .ok (L.map g)) (hl : L.length ≤ szLine)
    (h : ∀ a, a ∈ L → ∃ ρ', storeT C.hd scope t (g a) (inner scope ρ) = .ok ρ' ∧ evE (n + 1) { C with pure := true } (relab scope sc) ρ' elt = .ok (intL (f a))) :
    evE (n + 2) C sc ρ (.ListComp elt [⟨t, it, [], 0⟩] scope p) = .ok (listL (L.map f)) := by
  rw [r_comp (f := fun a => intL (f a)) hc hi hl h, listL, List.map_map]; rfl
theorem r_rangeI {n : Nat} {C : Cx} {sc : Scope} {ρ : Rho} {t a : PySem.Expr} {p p' : Pos} {m : Nat} (hg : (isG C.G sc (Str.ofString "range") && isIt (Str.ofString "range") && [a].all plainArg) = true) (h : evE n C sc ρ a = .ok (.int m)) (hm : m ≤ 1000) :
    evI (n + 1) C sc ρ t (.Call (.Name (Str.ofString "range") p) [a] [] p') = .ok ((List.range m).map fun i : Nat => PV.int (i : Int)) := i_range hg h hm

theorem r_ife01 {n : Nat} {C : Cx} {sc : Scope} {ρ : Rho} {P : Prop} [Decidable P] {t a b : PySem.Expr} {p : Pos} {x y : Int} (h : evT n C sc ρ t = .ok (decide P)) (h1 : evE n C sc ρ a = .ok (.int x)) (h2 : evE n C sc ρ b = .ok (.int y)) : evE (n + 1) C sc ρ (.IfExp t a b p) = .ok (.int (if P then x else y)) := by
  rw [r_ife h (fun _ => h1) (fun _ => h2)]
  by_cases hp : P
  · rw [decide_eq_true hp, if_pos rfl, if_pos hp]
  · rw [decide_eq_false hp, if_neg Bool.false_ne_true, if_neg hp]
/-- phase A: the divisors -/
theorem div_A (n : Nat) (k : Nat) (hk : k < 6) (N : Nm nm k) (hl : V.length ≤ 1000) (hH : H ≤ 1000) (h1 : 0 < H) (h3 : 3 ≤ k → V.length ≤ H) (res : Res PV)
    (h : Out (exs (n + 80) ⟨G1, false, hd⟩ divFD.scope (divF1 V H nm al (base k V) (k != 2) (divs k H)) (divFD.body.drop 2)) = res) :
    Out (exs (n + 82) ⟨G1, false, hd⟩ divFD.scope (divF V H nm al) divFD.body) = res := by
  refine o_next (r_assign (r_repI rfl rfl (r_lenN rfl rfl rfl hl) hl) (a_ints rfl)) ?_
  have hr : ∀ {α : Type} (f : Nat → α), ((List.range H).map f) ≠ [] := fun f => by
    intro e
    have := congrArg List.length e
    rw [List.length_map, List.length_range] at this
    exact absurd this (by rw [List.length_nil]; (exact Nat.ne_of_gt h1))
  have hR : (List.range H).length ≤ szLine := by rw [List.length_range]; exact hH
  have sm : ∀ a, a ∈ List.range H → a < 1000 := fun a ha => by have := List.mem_range.mp ha; lia
  have cI : ∀ {l : List Str} {b : Bool}, (l.any fun b => b == nm) = b → cmpE .In (.str nm) (.list (l.map .str)) = .ok b := by
    intro l b hb
    have : ∀ l : List Str, strsOf (l.map .str) = some l := by
      intro l
      induction l with
      | nil => rfl
      | cons a r ih => show (strsOf (r.map .str)).map (a :: ·) = _; rw [ih]; rfl
    show ofO ((strsOf (l.map .str)).map fun ns => ns.any fun b => b == nm) = _
    rw [this, ← hb]; rfl
  match k, hk with
  | 0, _ =>
    refine o_next (ρ' := divF1 V H nm al (base 0 V) true (divs 0 H)) (r_ifT (r_tcmp rfl rfl rfl (cI N.g0)) (r_next (r_assign (r_compP (f := fun i : Nat => ((i : Int) + 1, 1)) rfl (r_rangeI rfl rfl hH) hR fun a ha => ⟨_, rfl, rfl⟩) (a_pairs rfl (hr _))) r_nil)) h
  | 1, _ =>
    refine o_next (ρ' := divF1 V H nm al (base 1 V) true (divs 1 H)) (r_ifF (r_tcmp rfl rfl rfl (cI N.g0)) (r_next (r_ifT (r_tcmp rfl rfl rfl (cI N.g1)) (r_next (r_assign (r_compP (f := fun i : Nat => (2 * (i : Int) + 1, 1)) rfl (r_rangeI rfl rfl hH) hR fun a ha => ⟨_, rfl, r_tup2 (r_bin rfl (r_bin rfl rfl rfl (b_mul (small_mul (by decide) (by have := sm a ha; (clear hk hl hH h1 hr hR sm cI N h3 h ha; omega))))) rfl rfl) rfl⟩) (a_pairs rfl (hr _))) r_nil)) r_nil)) h
  | 2, _ =>
    have cr : ∀ m, evE (m + 20) ⟨G1, false, hd⟩ divFD.scope (divF V H nm al ++ [(S "representatives", intL (List.replicate V.length 0), true)]) (match divFD.body with | [_, .If _ _ [.If _ _ [.If _ [.Assign _ e _] _ _] _] _, _, _, _, _, _] => e | _ => default) = .ok (pairL (divs 2 H)) := by
      intro m
      refine Eq.trans (r_bin (b := pairL ((List.range (H - 1)).map fun i : Nat => (2 * (1 + (i : Int)) + 1, 1))) (a := .list [pairP (7, 5)]) rfl rfl (r_compP (f := fun i : Nat => (2 * (1 + (i : Int)) + 1, 1)) rfl (i_range2 (k := 1) (m := H) rfl rfl rfl (by exact Nat.zero_lt_succ _) hH) (by rw [List.length_range]; exact Nat.le_trans (Nat.sub_le _ _) hH) fun a ha => ⟨_, rfl, r_tup2 (r_bin rfl (r_bin rfl rfl rfl (b_mul (small_mul (by decide) (by have := List.mem_range.mp ha; (clear hk hl hr hR sm cI N h3 h ha; omega))))) rfl rfl) rfl⟩) ?_) rfl
      show ofO (if [pairP (7, 5)].length + (((List.range (H - 1)).map fun i : Nat => ((2 * (1 + (i : Int)) + 1, 1) : Int × Int)).map pairP).length ≤ 1000 then _ else _) = _
      rw [if_pos (by simp only [List.length_map, List.length_range, List.length_cons, List.length_nil]; lia)]
      rfl
    refine o_next (ρ' := divF1 V H nm al (base 2 V) false (divs 2 H)) (r_ifF (r_tcmp rfl rfl rfl (cI N.g0)) (r_next (r_ifF (r_tcmp rfl rfl rfl (cI N.g1)) (r_next (r_ifT (r_tcmp rfl rfl rfl (cI N.g2)) (r_next (r_assign (cr _) (a_pairs' rfl)) r_nil)) r_nil)) r_nil)) h
  | 3, _ =>
    have hlt : decide ((H : Int) < V.length) = false := decide_eq_false (by have := h3 (by exact Nat.le_refl _); (clear hk hl hH h1 hr hR sm cI N h3 h; lia))
    refine o_next (ρ' := divF1 V H nm al (base 3 V) true (divs 3 H)) (r_ifF (r_tcmp rfl rfl rfl (cI N.g0)) (r_next (r_ifF (r_tcmp rfl rfl rfl (cI N.g1)) (r_next (r_ifF (r_tcmp rfl rfl rfl (cI N.g2)) (r_next (r_ifT (r_tcmp rfl rfl rfl (cI N.g3)) (r_next (r_ifF (r_tcmp rfl rfl (r_lenN rfl rfl rfl hl) (congrArg Res.ok hlt)) (r_next (r_assign (r_compI (f := fun p : Int => if p > 0 then 1 else 0) rfl (i_names (g := PV.int) rfl) hl fun a ha => ⟨_, rfl, r_ife01 (r_tcmp rfl rfl rfl rfl) rfl rfl⟩) (a_ints rfl)) (r_next (r_assign (r_compP (f := fun i : Nat => (((i : Int) + 1) * ((i : Int) + 2), 1)) rfl (r_rangeI rfl rfl hH) hR fun a ha => ⟨_, rfl, r_tup2 (r_bin rfl rfl rfl (b_mul (small_mul (by have := sm a ha; (clear hk hl hH h1 hr hR sm cI N h3 h hlt ha; omega)) (by have := sm a ha; (clear hk hl hH h1 hr hR sm cI N h3 h hlt ha; omega))))) rfl⟩) (a_pairs rfl (hr _))) r_nil))) r_nil)) r_nil)) r_nil)) r_nil)) h
  | 4, _ =>
    have hlt : decide ((H : Int) < V.length) = false := decide_eq_false (by have := h3 (by decide); (clear hk hl hH h1 hr hR sm cI N h3 h; lia))
    refine o_next (ρ' := divF1 V H nm al (base 4 V) true (divs 4 H)) (r_ifF (r_tcmp rfl rfl rfl (cI N.g0)) (r_next (r_ifF (r_tcmp rfl rfl rfl (cI N.g1)) (r_next (r_ifF (r_tcmp rfl rfl rfl (cI N.g2)) (r_next (r_ifF (r_tcmp rfl rfl rfl (cI N.g3)) (r_next (r_ifT (r_tcmp rfl rfl rfl (cI N.g4)) (r_next (r_ifF (r_tcmp rfl rfl (r_lenN rfl rfl rfl hl) (congrArg Res.ok hlt)) (r_next (r_assign (r_compI (f := fun p : Int => if p > 0 then 1 else 0) rfl (i_names (g := PV.int) rfl) hl fun a ha => ⟨_, rfl, r_ife01 (r_tcmp rfl rfl rfl rfl) rfl rfl⟩) (a_ints rfl)) (r_next (r_assign (r_compP (f := fun i : Nat => ((i : Int) + 1, 1)) rfl (r_rangeI rfl rfl hH) hR fun a ha => ⟨_, rfl, rfl⟩) (a_pairs rfl (hr _))) r_nil))) r_nil)) r_nil)) r_nil)) r_nil)) r_nil)) h
  | 5, _ =>
    have hlt : decide ((H : Int) < V.length) = false := decide_eq_false (by have := h3 (by decide); (clear hk hl hH h1 hr hR sm cI N h3 h; lia))
    refine o_next (ρ' := divF1 V H nm al (base 5 V) true (divs 5 H)) (r_ifF (r_tcmp rfl rfl rfl (cI N.g0)) (r_next (r_ifF (r_tcmp rfl rfl rfl (cI N.g1)) (r_next (r_ifF (r_tcmp rfl rfl rfl (cI N.g2)) (r_next (r_ifF (r_tcmp rfl rfl rfl (cI N.g3)) (r_next (r_ifF (r_tcmp rfl rfl rfl (cI N.g4)) (r_next (r_ifT (r_tcmp rfl rfl rfl (cI N.g5)) (r_next (r_ifF (r_tcmp rfl rfl (r_lenN rfl rfl rfl hl) (congrArg Res.ok hlt)) (r_next (r_assign (r_compI (f := fun p : Int => if p > 0 then 1 else 0) rfl (i_names (g := PV.int) rfl) hl fun a ha => ⟨_, rfl, r_ife01 (r_tcmp rfl rfl rfl rfl) rfl rfl⟩) (a_ints rfl)) (r_next (r_assign (r_compP (f := fun i : Nat => (2 * ((i : Int) + 1) * ((i : Int) + 2), 2 * ((i : Int) + 1) + 1)) rfl (r_rangeI rfl rfl hH) hR fun a ha => ⟨_, rfl, r_tup2 (r_bin rfl (r_bin rfl rfl rfl (b_mul (small_mul (by decide) (by have := sm a ha; (clear hk hl hH h1 hr hR sm cI N h3 h hlt ha; omega))))) rfl (b_mul (small_mul (by have := sm a ha; (clear hk hl hH h1 hr hR sm cI N h3 h hlt ha; omega)) (by have := sm a ha; (clear hk hl hH h1 hr hR sm cI N h3 h hlt ha; omega))))) (r_bin rfl (r_bin rfl rfl rfl (b_mul (small_mul (by decide) (by have := sm a ha; (clear hk hl hH h1 hr hR sm cI N h3 h hlt ha; omega))))) rfl rfl)⟩) (a_pairs rfl (hr _))) r_nil))) r_nil)) r_nil)) r_nil)) r_nil)) r_nil)) r_nil)) h
end Mine
end
section
namespace Mine
open PySem

noncomputable def commonN (ds : List (Int × Int)) : Nat → Int
  | 0 => 1
  | i + 1 => commonN ds i * (ds.getD i (0, 0)).1
noncomputable def wgt (k : Nat) (c : Int) (p : Int) (d : Int × Int) : Int := if k = 3 then (p * p * d.2 * c).fdiv d.1 else (p * d.2 * c).fdiv d.1
noncomputable def wts (k : Nat) (V : List Int) (ds : List (Int × Int)) : List (List Int) := V.map fun p => ds.map (wgt k (commonN ds ds.length) p)
noncomputable def muOf (R : List Int) (H : Nat) (WS : List (List Int)) : Int := gt0 (sortI WS.flatten) (((WS.flatten.length : Int) - H + R.sum).toNat)
noncomputable def above (μ : Int) (l : List Int) : Nat := (l.filter fun w => decide (w > μ)).length
noncomputable def repsOf (R : List Int) (m : Nat) (μ : Int) (WS : List (List Int)) : List Int := (List.range m).map fun i : Nat => gt0 R i + (above μ (WS.getD i []) : Int)

structure DsOK (ds : List (Int × Int)) : Prop where
  ne : ds ≠ []
  len : ds.length ≤ 24
  bd : ∀ d, d ∈ ds → d.1 ≠ 0 ∧ d.1.natAbs < 2000 ∧ d.2.natAbs < 2000

theorem getD_mem {α : Type} {l : List α} {i : Nat} {a : α} (h : i < l.length) : l.getD i a ∈ l := by
  rw [List.getD_eq_getElem?_getD, List.getElem?_eq_getElem h]; exact List.getElem_mem h
theorem commonN_bd {ds : List (Int × Int)} (D : DsOK ds) : ∀ i, i ≤ ds.length → (commonN ds i).natAbs ≤ 2000 ^ i
  | 0, _ => Nat.le_refl _
  | i + 1, h => by
    have ih := commonN_bd D i (by exact Nat.le_of_lt h)
    have := (D.bd _ (getD_mem (a := (0, 0)) (show i < ds.length by assumption))).2.1
    show (commonN ds i * (ds.getD i (0, 0)).1).natAbs ≤ _
    rw [Int.natAbs_mul, Nat.pow_succ]
    exact Nat.mul_le_mul ih (Nat.le_of_lt this)
theorem commonN_big {ds : List (Int × Int)} (D : DsOK ds) (i : Nat) (h : i ≤ ds.length) : (commonN ds i).natAbs < Big := by
  have := commonN_bd D i h
  have h2 : 2000 ^ i ≤ 2000 ^ 24 := Nat.pow_le_pow_right (by decide) (Nat.le_trans h D.len)
  have h3 : 2000 ^ 24 < Big := by decide +kernel
  exact Nat.lt_of_le_of_lt this (Nat.lt_of_le_of_lt h2 h3)

variable {V : List Int} {H : Nat} {nm : Str} {al hd : Bool}

noncomputable def dtl (ds : List (Int × Int)) : Nat → Rho
  | 0 => []
  | i + 1 => [(S "d", pairP (ds.getD i (0, 0)), false)]
noncomputable def divF3 (V : List Int) (H : Nat) (nm : Str) (al : Bool) (R' : List Int) (o : Bool) (ds : List (Int × Int)) (WS : List (List Int)) (μ : Int) : Rho :=
  divF1 V H nm al R' o ds ++ [(S "common", .int (commonN ds ds.length), false)] ++ dtl ds ds.length ++ [(S "weights", listL WS, false), (S "flatweights", intL (sortI WS.flatten), false), (S "minweight", .int μ, false)]

theorem mul_mul_big {a b : Int} {A B : Nat} (ha : a.natAbs < A) (hb : b.natAbs < B) (h : A * B < Big) : (a * b).natAbs < Big := Nat.lt_trans (natAbs_mul_lt ha hb) h
theorem cI {nm : Str} {l : List Str} {b : Bool} (hb : (l.any fun b => b == nm) = b) : cmpE .In (.str nm) (.list (l.map .str)) = .ok b := by
  have : ∀ l : List Str, strsOf (l.map .str) = some l := by
    intro l
    induction l with
    | nil => rfl
    | cons a r ih => show (strsOf (r.map .str)).map (a :: ·) = _; rw [ih]; rfl
  show ofO ((strsOf (l.map .str)).map fun ns => ns.any fun b => b == nm) = _
  rw [this, ← hb]; rfl
theorem flat_int {α : Type} : ∀ (L : List (List Int)), (L.flatMap fun a => a.map PV.int) = L.flatten.map PV.int
  | [] => rfl
  | a :: r => by rw [List.flatMap_cons, flat_int (α := α) r, List.flatten_cons, List.map_append]

theorem r_flat {n : Nat} {C : Cx} {sc : Scope} {ρ : Rho} {elt t it t2 it2 : PySem.Expr} {scope : Scope} {p : Pos} {WS : List (List Int)} (hc : (compOK scope sc && noSet it2) = true) (hi : evI (n + 1) C sc ρ t it = .ok (WS.map intL)) (hl : WS.flatten.length ≤ szLine)
    (h : ∀ a, a ∈ WS → ∃ ρ', storeT C.hd scope t (intL a) (inner scope ρ) = .ok ρ' ∧ evI (n + 1) { C with pure := true } (relab scope sc) ρ' t2 it2 = .ok (a.map .int) ∧
      ∀ b, b ∈ a → ∃ ρ2, storeT C.hd scope t2 (.int b) ρ' = .ok ρ2 ∧ evE (n + 1) { C with pure := true } (relab scope sc) ρ2 elt = .ok (.int b)) :
    evE (n + 2) C sc ρ (.ListComp elt [⟨t, it, [], 0⟩, ⟨t2, it2, [], 0⟩] scope p) = .ok (intL WS.flatten) := by
  rw [r_comp2 (M := fun l : List Int => l) (g := intL) (g2 := fun _ b => PV.int b) (f := fun _ b => PV.int b) hc hi (by rw [show WS.flatMap (fun l => l) = WS.flatten from List.flatMap_id]; exact hl) h]
  show Res.ok (PV.list (WS.flatMap fun a => a.map PV.int)) = _
  rw [flat_int (α := Int)]; rfl
theorem r_lenF {n : Nat} {C : Cx} {sc : Scope} {ρ : Rho} {p0 p1 : Pos} {elt t it test : PySem.Expr} {scope : Scope} {p : Pos} {L : List Int} {q : Int → Bool} (hg : isG C.G sc (S "len") = true) (hb : (isBlt (S "len") && [PySem.Expr.ListComp elt [⟨t, it, [test], 0⟩] scope p].all plainArg) = true)
    (hc : compOK scope sc = true) (hi : evI (n + 1) C sc ρ t it = .ok (L.map PV.int)) (hl : L.length ≤ szLine)
    (h : ∀ a, a ∈ L → ∃ ρ', storeT C.hd scope t (.int a) (inner scope ρ) = .ok ρ' ∧ evT n { C with pure := true } (relab scope sc) ρ' test = .ok (q a) ∧ evE (n + 1) { C with pure := true } (relab scope sc) ρ' elt = .ok (.int a)) :
    evE (n + 3) C sc ρ (.Call (.Name (S "len") p0) [.ListComp elt [⟨t, it, [test], 0⟩] scope p] [] p1) = .ok (.int ((L.filter q).length : Int)) := by
  refine r_blt hg hb (m_cons (r_compF (f := PV.int) (q := q) hc hi hl fun a ha => ?_) m_nil) ?_
  · obtain ⟨ρ', h1, h2, h3⟩ := h a ha
    exact ⟨ρ', h1, h2, fun _ => h3⟩
  · exact b_lenI _ _ (Nat.le_trans (List.length_filter_le _ _) hl)
theorem insI_length (a : Int) : ∀ l, (insI a l).length = l.length + 1
  | [] => rfl
  | b :: r => by
    unfold insI
    split
    · rfl
    · rw [List.length_cons, insI_length a r]; rfl
theorem sortI_length : ∀ l : List Int, (sortI l).length = l.length
  | [] => rfl
  | a :: r => by
    show (insI a (sortI r)).length = _
    rw [insI_length, sortI_length r]; rfl

theorem div_B1 (n : Nat) (k : Nat) (N : Nm nm k) {R : List Int} {o : Bool} {ds : List (Int × Int)} (D : DsOK ds) (hl : V.length ≤ 1000) (hm : 0 < V.length) (hR : R.length = V.length)
    (hV : ∀ p, p ∈ V → p.natAbs < Lim) (hf : (wts k V ds).flatten.length ≤ sortMax) (hs : R.sum < H) (hi : H ≤ (wts k V ds).flatten.length + R.sum) :
    ex (n + 79) ⟨G1, false, hd⟩ divFD.scope (divF1 V H nm al R o ds) ((divFD.body.drop 2).headD default) =
      .ok (.next, divF3 V H nm al (repsOf R V.length (muOf R H (wts k V ds)) (wts k V ds)) true ds (wts k V ds) (muOf R H (wts k V ds))) := by
  refine r_ifT (r_tcmp rfl rfl (r_blt rfl rfl (m_cons rfl m_nil) (b_sum _ _)) (congrArg Res.ok (decide_eq_true hs))) ?_
  refine r_next (r_assign (v := .int 1) rfl rfl) ?_
  refine r_for_inv (items := ds.map pairP) (fun i ρ => ρ = divF1 V H nm al R o ds ++ [(S "common", .int (commonN ds i), false)] ++ dtl ds i) (by cases o <;> exact i_names rfl) (by rw [List.length_map]; exact Nat.le_trans D.len (by decide)) rfl ?_ ?_
  · intro i hi ρ e
    subst e
    rw [List.length_map] at hi
    have hg : (ds.map pairP)[i]'(by rw [List.length_map]; exact hi) = pairP (ds.getD i (0, 0)) := by
      rw [List.getElem_map, List.getD_eq_getElem?_getD, List.getElem?_eq_getElem hi]; rfl
    rw [hg]
    have hmul : mulOk (commonN ds i) (ds.getD i (0, 0)).1 = true := mulOk_of (commonN_big D i (by exact Nat.le_of_lt hi)) (Nat.lt_trans (D.bd _ (getD_mem hi)).2.1 (by decide +kernel))
    refine ⟨divF1 V H nm al R o ds ++ [(S "common", .int (commonN ds i), false)] ++ dtl ds (i + 1), by cases i <;> rfl, divF1 V H nm al R o ds ++ [(S "common", .int (commonN ds (i + 1)), false)] ++ dtl ds (i + 1), r_next (r_assign (v := .int (commonN ds (i + 1))) (r_bin rfl rfl (r_subT rfl rfl rfl rfl) (b_mul hmul)) rfl) r_nil, rfl⟩
  intro ρ' e
  subst e
  rw [List.length_map]
  have hlast : ∃ w, dtl ds ds.length = [(S "d", w, false)] := by
    cases h : ds.length with
    | zero => exact absurd (List.length_eq_zero_iff.mp h) D.ne
    | succ j => exact ⟨_, rfl⟩
  unfold divF3
  obtain ⟨w, hw⟩ := hlast
  rw [hw]
  generalize hc : commonN ds ds.length = c
  have hcb : c.natAbs < Big := by rw [← hc]; exact commonN_big D _ (Nat.le_refl _)
  have hW : wts k V ds = V.map fun p => ds.map (wgt k c p) := by unfold wts; rw [hc]
  have LB : Lim * Lim * 2000 < Big := by decide +kernel
  have LB1 : Lim * 2000 < Big := by decide +kernel
  have LB2 : Lim < Big := by decide +kernel
  have wl : ds.length ≤ szLine := Nat.le_trans D.len (by decide)
  have wne : (V.map fun p => ds.map (wgt k c p)) ≠ [] := by
    intro e
    have := congrArg List.length e
    rw [List.length_map, List.length_nil] at this
    lia
  refine r_next (ρ' := divF1 V H nm al R false ds ++ [(S "common", .int c, false), (S "d", w, false), (S "weights", listL (V.map fun p => ds.map (wgt k c p)), false)]) ?_ ?_
  · by_cases h3 : k = 3
    · subst h3
      refine r_ifT (r_tcmp rfl rfl rfl (cI N.g3)) (r_next (r_assign (r_compL (f := fun p => ds.map (wgt 3 c p)) rfl (i_names (g := PV.int) rfl) hl fun p hp => ⟨_, rfl, r_compI (f := wgt 3 c p) rfl (i_names (g := pairP) rfl) wl fun d hd' => ⟨_, rfl, ?_⟩⟩) (a_lists rfl wne)) r_nil)
      have hb := D.bd d hd'
      have h2 := hV p hp
      exact r_bin rfl (r_bin rfl (r_bin rfl (r_bin rfl rfl rfl (b_mul (mulOk_of (by exact Nat.lt_trans h2 LB2) (by exact Nat.lt_trans h2 LB2)))) (r_subT rfl rfl rfl rfl) (b_mul (mulOk_of (mul_mul_big h2 h2 (by decide)) (by lia)))) rfl (b_mul (mulOk_of (mul_mul_big (natAbs_mul_lt h2 h2) hb.2.2 LB) hcb))) (r_subT rfl rfl rfl rfl) (b_fdiv hb.1 (by lia))
    · have e : ∀ p d, wgt k c p d = (p * d.2 * c).fdiv d.1 := fun p d => if_neg h3
      refine r_ifF (r_tcmp rfl rfl rfl (cI (N.g3.trans (by cases k with | zero => rfl | succ k => rw [beq_eq_false_iff_ne]; exact h3)))) (r_next (r_assign (r_compL (f := fun p => ds.map (wgt k c p)) rfl (i_names (g := PV.int) rfl) hl fun p hp => ⟨_, rfl, r_compI (f := wgt k c p) rfl (i_names (g := pairP) rfl) wl fun d hd' => ⟨_, rfl, ?_⟩⟩) (a_lists rfl wne)) r_nil)
      rw [e]
      have hb := D.bd d hd'
      have h2 := hV p hp
      exact r_bin rfl (r_bin rfl (r_bin rfl rfl (r_subT rfl rfl rfl rfl) (b_mul (mulOk_of (by exact Nat.lt_trans h2 LB2) (by lia)))) rfl (b_mul (mulOk_of (mul_mul_big h2 hb.2.2 LB1) hcb))) (r_subT rfl rfl rfl rfl) (b_fdiv hb.1 (by lia))
  rw [hW] at hf hi ⊢
  generalize hWS : (V.map fun p => ds.map (wgt k c p)) = WS at *
  have hWl : WS.length = V.length := by rw [← hWS, List.length_map]
  have hfl : WS.flatten.length ≤ szLine := Nat.le_trans hf (by decide)
  refine r_next (r_assign (r_blt rfl rfl (m_cons (r_flat (WS := WS) rfl (i_names (g := intL) rfl) hfl fun l _ => ⟨_, rfl, i_names (g := PV.int) rfl, fun b _ => ⟨_, rfl, rfl⟩⟩) m_nil) (b_sorted _ _ hf)) (a_ints' rfl)) ?_
  have hmu : idxE ((sortI WS.flatten).map PV.int) (-(H : Int) + R.sum) = .ok (.int (muOf R H WS)) := by
    have hsl : (sortI WS.flatten).length = WS.flatten.length := sortI_length _
    refine idx_nz (i := ((WS.flatten.length : Int) - H + R.sum).toNat) (by rw [List.length_map, hsl]; exact hfl) ?_ ?_
    · rw [List.length_map, hsl, if_pos (by lia)]
      lia
    · have hlt : ((WS.flatten.length : Int) - H + R.sum).toNat < (sortI WS.flatten).length := by rw [hsl]; lia
      rw [List.getElem?_map, List.getElem?_eq_getElem hlt]
      unfold muOf gt0
      rw [List.getD_eq_getElem?_getD, List.getElem?_eq_getElem hlt]; rfl
  refine r_next (r_assign (v := .int (muOf R H WS)) (r_sub rfl rfl (r_bin rfl (r_usub rfl) (r_blt rfl rfl (m_cons rfl m_nil) (b_sum _ _)) rfl) hmu) rfl) ?_
  generalize muOf R H WS = μ
  refine r_next (r_assign (r_compI (f := fun i : Nat => gt0 R i + (above μ (WS.getD i []) : Int)) rfl (r_rangeI rfl (r_lenN rfl rfl rfl hl) hl) (by rw [List.length_range]; exact hl) fun i hi' => ⟨_, rfl, ?_⟩) (a_ints rfl)) r_nil
  have hi2 := List.mem_range.mp hi'
  exact r_bin rfl (r_sub rfl rfl rfl (idx_nat (by lia) (by lia))) (r_lenF (q := fun w => decide (w > μ)) rfl rfl rfl (i_sub (r_sub rfl rfl rfl (idx_lists (by lia) (by lia)))) (by
      refine Nat.le_trans ?_ hfl
      exact (List.sublist_flatten_of_mem (getD_mem (by lia))).length_le) fun a _ => ⟨_, rfl, r_tcmp rfl rfl rfl rfl, rfl⟩) rfl
end Mine
end
section
namespace Mine
open PySem

noncomputable def stepX (H : Nat) (μ : Int) (WS : List (List Int)) (i : Nat) (X : List Int) : List Int := if (decide (X.sum < H) && (WS.getD i []).any fun b => b == μ) = true then X.set i (gt0 X i + 1) else X
noncomputable def tieB (H : Nat) (μ : Int) (WS : List (List Int)) (i : Nat) (X : List Int) : Bool := decide (X.sum = H) && (WS.getD i []).any fun b => b == μ
noncomputable def loopX (H : Nat) (μ : Int) (WS : List (List Int)) (X : List Int) : Nat → List Int
  | 0 => X
  | i + 1 => stepX H μ WS i (loopX H μ WS X i)
noncomputable def tieN (H : Nat) (μ : Int) (WS : List (List Int)) (X : List Int) : Nat → Bool
  | 0 => false
  | i + 1 => tieN H μ WS X i || tieB H μ WS i (loopX H μ WS X i)
theorem stepX_length {H : Nat} {μ : Int} {WS : List (List Int)} {i : Nat} {X : List Int} : (stepX H μ WS i X).length = X.length := by
  unfold stepX; split
  · exact List.length_set ..
  · rfl
theorem loopX_length {H : Nat} {μ : Int} {WS : List (List Int)} {X : List Int} : ∀ i, (loopX H μ WS X i).length = X.length
  | 0 => rfl
  | i + 1 => by show (stepX _ _ _ _ _).length = _; rw [stepX_length, loopX_length i]
theorem tieN_first {H : Nat} {μ : Int} {WS : List (List Int)} {X : List Int} : ∀ m, tieN H μ WS X m = true → ∃ i, i < m ∧ tieN H μ WS X i = false ∧ tieB H μ WS i (loopX H μ WS X i) = true
  | 0, h => by cases h
  | m + 1, h => by
    cases e : tieN H μ WS X m with
    | true =>
      obtain ⟨i, a, b, c⟩ := tieN_first m e
      exact ⟨i, by lia, b, c⟩
    | false =>
      refine ⟨m, by exact Nat.lt_succ_self _, e, ?_⟩
      have : (tieN H μ WS X m || tieB H μ WS m (loopX H μ WS X m)) = true := h
      rw [e, Bool.false_or] at this; exact this

theorem forR_tie {turn : PV → Rho → Res (MFlow × Rho)} : ∀ {items : List PV} {Inv : Nat → Rho → Prop} (i0 : Nat) (h0 : i0 < items.length), (∀ (i : Nat) (hi : i < items.length) ρ, i < i0 → Inv i ρ → ∃ ρ', turn items[i] ρ = .ok (.next, ρ') ∧ Inv (i + 1) ρ') →
    (∀ ρ, Inv i0 ρ → turn items[i0] ρ = .tie) → ∀ {ρ : Rho}, Inv 0 ρ → forR turn items ρ = .tie
  | [], _, _, h0, _, _, _, _ => absurd h0 (by rw [List.length_nil]; lia)
  | v :: r, Inv, 0, _, _, ht, ρ, hi => by
    show (turn v ρ).bind _ = _
    rw [show turn v ρ = .tie from ht ρ hi]; rfl
  | v :: r, Inv, i0 + 1, h0, h, ht, ρ, hi => by
    obtain ⟨ρ1, e1, i1⟩ := h 0 (by simp) ρ (by exact Nat.zero_lt_succ _) hi
    have e2 := forR_tie (items := r) (Inv := fun i ρ => Inv (i + 1) ρ) i0 (by simpa using h0) (fun i hi ρ hlt hI => h (i + 1) (by simp; omega) ρ (by exact Nat.lt_succ_of_le hlt) hI) ht i1
    show (turn v ρ).bind _ = _
    rw [show turn v ρ = .ok (.next, ρ1) from e1]; exact e2
section rules
variable {n : Nat} {C : Cx} {sc : Scope} {ρ ρ' : Rho}
theorem r_for_tie {t it : PySem.Expr} {body : List Stmt} {p : Pos} {items : List PV} (Inv : Nat → Rho → Prop) (i0 : Nat) (hi0 : i0 < items.length)
    (h1 : evI n C sc (unowned ρ) t it = .ok items) (hl : items.length ≤ szLine) (h0 : Inv 0 ρ)
    (hs : ∀ (i : Nat) (hi : i < items.length) ρ, i < i0 → Inv i ρ → ∃ ρ1, storeT C.hd sc t items[i] ρ = .ok ρ1 ∧ ∃ ρ', exs n C sc ρ1 body = .ok (.next, ρ') ∧ Inv (i + 1) ρ')
    (hk : ∀ ρ, Inv i0 ρ → ∃ ρ1, storeT C.hd sc t items[i0] ρ = .ok ρ1 ∧ exs n C sc ρ1 body = .tie) : ex (n + 1) C sc ρ (.For t it body [] p) = .tie := by
  refine r_for h1 hl (forR_tie (turn := fun v ρ₁ => (storeT C.hd sc t v ρ₁).bind fun ρ₂ => exs n C sc ρ₂ body) (Inv := Inv) i0 hi0 (fun i hi ρ hlt hI => ?_) (fun ρ hI => ?_) h0)
  · obtain ⟨ρ1, e1, ρ', e2, hI'⟩ := hs i hi ρ hlt hI
    refine ⟨ρ', ?_, hI'⟩
    show (storeT C.hd sc t items[i] ρ).bind _ = _
    rw [e1]; exact e2
  · obtain ⟨ρ1, e1, e2⟩ := hk ρ hI
    show (storeT C.hd sc t items[i0] ρ).bind _ = _
    rw [e1]; exact e2
theorem o_tie {st : Stmt} {r : List Stmt} (h1 : ex n C sc ρ st = .tie) : Out (exs (n + 1) C sc ρ (st :: r)) = .tie := by
  rw [r_tie h1]; rfl
theorem r_raise {x : Str} {s : Str} {u : Nat} {p p1 p2 p3 : Pos} (h : x = Str.ofString "TiesException") (hg : isG C.G sc x = true) (h1 : C.hd = false) (h2 : C.pure = false) : ex (n + 1) C sc ρ (.Raise (some (.Call (.Name x p) [.Constant (.str s) u p1] [] p2)) .none p3) = .tie := by
  show (if x = Str.ofString "TiesException" ∧ isG C.G sc x = true ∧ C.hd = false ∧ C.pure = false then Res.tie else .stuck) = _
  rw [if_pos ⟨h, hg, h1, h2⟩]
end rules

variable {V : List Int} {H : Nat} {nm : Str} {al hd : Bool}

noncomputable def divF4 (V : List Int) (H : Nat) (nm : Str) (al : Bool) (X : List Int) (D w FL : PV) (c : Int) (WS : List (List Int)) (μ : Int) (t : Bool) : Rho :=
  divF V H nm al ++ [(S "representatives", intL X, true), (S "divisors", D, false), (S "common", .int c, false), (S "d", w, false), (S "weights", listL WS, false), (S "flatweights", FL, false), (S "minweight", .int μ, false), (S "ties", .bool t, false)]
noncomputable def itl : Nat → Rho
  | 0 => []
  | i + 1 => [(S "i", .int (i : Int), false)]
noncomputable def divLoop : List Stmt := match divFD.body.drop 4 with
  | .If _ [.For _ _ b _ _] _ _ :: _ => b
  | _ => []

theorem div_turn (n : Nat) {X : List Int} {D w FL : PV} {c : Int} {WS : List (List Int)} {μ : Int} {t : Bool} {i : Nat} (hl : V.length ≤ 1000) (hX : X.length = V.length) (hW : WS.length = V.length) (hi : i < V.length)
    (ha : al = true ∨ tieB H μ WS i X = false) :
    exs (n + 60) ⟨G1, false, hd⟩ divFD.scope (divF4 V H nm al X D w FL c WS μ t ++ [(S "i", .int (i : Int), false)]) divLoop = .ok (.next, divF4 V H nm al (stepX H μ WS i X) D w FL c WS μ (t || tieB H μ WS i X) ++ [(S "i", .int (i : Int), false)]) := by
  have hw := idx_lists (l := WS) (i := i) (by lia) (by lia)
  refine r_next (ρ' := divF4 V H nm al X D w FL c WS μ (t || tieB H μ WS i X) ++ [(S "i", .int (i : Int), false)]) ?_ ?_
  · refine r_if (c := tieB H μ WS i X) (r_and (r_tcmp rfl (r_blt rfl rfl (m_cons rfl m_nil) (b_sum _ _)) rfl (c_eq _ _)) (r_tcmp rfl rfl (r_sub rfl rfl rfl hw) (c_in _ _))) ?_
    cases hT : tieB H μ WS i X with
    | false =>
      rw [if_neg Bool.false_ne_true, Bool.or_false]
      exact r_nil
    | true =>
      have hal : al = true := ha.resolve_right (by rw [hT]; exact Bool.noConfusion)
      subst hal
      rw [if_pos rfl]
      cases t with
      | true => exact r_next (r_ifF (r_not (b := true) (r_tname rfl)) r_nil) r_nil
      | false => exact r_next (r_ifT (r_not (b := false) (r_tname rfl)) (r_next (r_ifF (r_not (b := true) (r_tname rfl)) r_nil) (r_next (r_assign rfl rfl) r_nil))) r_nil
  · refine r_next (r_if (r_and (r_tcmp rfl (r_blt rfl rfl (m_cons rfl m_nil) (b_sum _ _)) rfl rfl) (r_tcmp rfl rfl (r_sub rfl rfl rfl hw) (c_in _ _))) (res := .ok (.next, divF4 V H nm al (stepX H μ WS i X) D w FL c WS μ (t || tieB H μ WS i X) ++ [(S "i", .int (i : Int), false)])) ?_) r_nil
    unfold stepX
    cases hT : (decide (X.sum < (H : Int)) && (WS.getD i []).any fun b => b == μ) with
    | false =>
      rw [if_neg Bool.false_ne_true, if_neg Bool.false_ne_true]
      exact r_nil
    | true =>
      rw [if_pos rfl, if_pos rfl]
      exact r_next (r_aug rfl rfl rfl (by lia) (by rw [hX]; exact hl) rfl rfl rfl) r_nil
theorem div_turnTie (n : Nat) {X : List Int} {D w FL : PV} {c : Int} {WS : List (List Int)} {μ : Int} {i : Nat} (hl : V.length ≤ 1000) (hX : X.length = V.length) (hW : WS.length = V.length) (hi : i < V.length)
    (ha : tieB H μ WS i X = true) :
    exs (n + 60) ⟨G1, false, false⟩ divFD.scope (divF4 V H nm false X D w FL c WS μ false ++ [(S "i", .int (i : Int), false)]) divLoop = .tie := by
  have hw := idx_lists (l := WS) (i := i) (by lia) (by lia)
  refine r_tie (r_if (c := tieB H μ WS i X) (r_and (r_tcmp rfl (r_blt rfl rfl (m_cons rfl m_nil) (b_sum _ _)) rfl (c_eq _ _)) (r_tcmp rfl rfl (r_sub rfl rfl rfl hw) (c_in _ _))) ?_)
  rw [ha, if_pos rfl]
  exact r_tie (r_ifT (r_not (b := false) (r_tname rfl)) (r_tie (r_ifT (r_not (b := false) (r_tname rfl)) (r_tie (r_raise rfl rfl rfl rfl)))))
end Mine
end
section
namespace Mine
open PySem
variable {V : List Int} {H : Nat} {nm : Str} {al hd : Bool}

noncomputable def divF5 (V : List Int) (H : Nat) (nm : Str) (al : Bool) (X : List Int) (D w FL : PV) (c : Int) (WS : List (List Int)) (μ : Int) : Rho :=
  divF V H nm al ++ [(S "representatives", intL X, true), (S "divisors", D, false), (S "common", .int c, false), (S "d", w, false), (S "weights", listL WS, false), (S "flatweights", FL, false), (S "minweight", .int μ, false)]

theorem range_at {m i : Nat} (h : i < ((List.range m).map fun i : Nat => PV.int (i : Int)).length) : ((List.range m).map fun i : Nat => PV.int (i : Int))[i] = PV.int (i : Int) := by simp

theorem div_tail (n : Nat) {X : List Int} {D w FL : PV} {c : Int} {WS : List (List Int)} {μ : Int} (hl : V.length ≤ 1000) (hX : X.length = V.length) (hW : WS.length = V.length) (hs : X.sum < H)
    (ha : al = true ∨ tieN H μ WS X V.length = false) :
    Out (exs (n + 76) ⟨G1, false, hd⟩ divFD.scope (divF5 V H nm al X D w FL c WS μ) (divFD.body.drop 3)) = .ok (intL (loopX H μ WS X V.length)) := by
  refine o_next (r_assign (v := .bool false) rfl rfl) ?_
  have hlen : ((List.range V.length).map fun i : Nat => PV.int (i : Int)).length = V.length := by rw [List.length_map, List.length_range]
  have htl : ∀ i, i ≤ V.length → al = true ∨ tieN H μ WS X i = false := by
    intro i hi
    refine ha.imp id fun h => ?_
    have : ∀ d, tieN H μ WS X (i + d) = false → tieN H μ WS X i = false := by
      intro d
      induction d with
      | zero => exact id
      | succ d ih => intro h; exact ih (Bool.or_eq_false_iff.mp h).1
    exact this (V.length - i) (by rw [show i + (V.length - i) = V.length by lia]; exact h)
  refine o_next (ρ' := divF4 V H nm al (loopX H μ WS X V.length) D w FL c WS μ (tieN H μ WS X V.length) ++ itl V.length) (r_ifT (r_tcmp rfl rfl (r_blt rfl rfl (m_cons rfl m_nil) (b_sum _ _)) (congrArg Res.ok (decide_eq_true hs))) ?_) ?_
  · refine r_for_inv (items := (List.range V.length).map fun i : Nat => PV.int (i : Int)) (fun i ρ => ρ = divF4 V H nm al (loopX H μ WS X i) D w FL c WS μ (tieN H μ WS X i) ++ itl i) (r_rangeI rfl (r_lenN rfl rfl rfl hl) hl) (by rw [hlen]; exact hl) rfl ?_ ?_
    · intro i hi ρ e
      subst e
      rw [range_at]
      rw [hlen] at hi
      have := fun q => div_turn (nm := nm) (hd := hd) (D := D) (w := w) (FL := FL) (c := c) (al := al) (V := V) (H := H) q (t := tieN H μ WS X i) (X := loopX H μ WS X i) (WS := WS) (μ := μ) (i := i) hl (by rw [loopX_length, hX]) hW hi ((htl (i + 1) (by assumption)).imp id fun h => (Bool.or_eq_false_iff.mp h).2)
      exact ⟨_, by cases i <;> rfl, _, this _, rfl⟩
    · intro ρ' e
      subst e
      rw [hlen]
      exact r_nil
  · have hc : (tieN H μ WS X V.length && !al) = false := by
      rcases ha with h | h
      · rw [h, Bool.not_true, Bool.and_false]
      · rw [h, Bool.false_and]
    generalize tieN H μ WS X V.length = t at hc
    refine o_next (r_if (c := false) ?_ ?_) (o_return (v := intL (loopX H μ WS X V.length)) rfl) (ρ' := divF4 V H nm al (loopX H μ WS X V.length) D w FL c WS μ t ++ itl V.length)
    · refine Eq.trans (r_and (a := t) (b := !al) (r_tname rfl) (r_not (r_tname rfl))) (by rw [hc])
    · rw [if_neg Bool.false_ne_true]; exact r_nil
theorem div_tailTie (n : Nat) {X : List Int} {D w FL : PV} {c : Int} {WS : List (List Int)} {μ : Int} (hl : V.length ≤ 1000) (hX : X.length = V.length) (hW : WS.length = V.length) (hs : X.sum < H)
    (ha : tieN H μ WS X V.length = true) :
    Out (exs (n + 76) ⟨G1, false, false⟩ divFD.scope (divF5 V H nm false X D w FL c WS μ) (divFD.body.drop 3)) = .tie := by
  refine o_next (r_assign (v := .bool false) rfl rfl) ?_
  have hlen : ((List.range V.length).map fun i : Nat => PV.int (i : Int)).length = V.length := by rw [List.length_map, List.length_range]
  obtain ⟨i0, h0, hf, ht⟩ := tieN_first _ ha
  have htl : ∀ i, i ≤ i0 → tieN H μ WS X i = false := by
    intro i hi
    have : ∀ d, tieN H μ WS X (i + d) = false → tieN H μ WS X i = false := by
      intro d
      induction d with
      | zero => exact id
      | succ d ih => intro h; exact ih (Bool.or_eq_false_iff.mp h).1
    exact this (i0 - i) (by rw [show i + (i0 - i) = i0 by (clear hl hX hW hs ha hlen h0 hf ht this; lia)]; exact hf)
  refine o_tie (r_ifT (r_tcmp rfl rfl (r_blt rfl rfl (m_cons rfl m_nil) (b_sum _ _)) (congrArg Res.ok (decide_eq_true hs))) (r_tie ?_))
  refine r_for_tie (items := (List.range V.length).map fun i : Nat => PV.int (i : Int)) (fun i ρ => i ≤ i0 ∧ ρ = divF4 V H nm false (loopX H μ WS X i) D w FL c WS μ false ++ itl i) i0 (by rw [hlen]; exact h0) (r_rangeI rfl (r_lenN rfl rfl rfl hl) hl) (by rw [hlen]; exact hl) ⟨Nat.zero_le _, rfl⟩ ?_ ?_
  · intro i hi ρ hlt e
    obtain ⟨_, e⟩ := e
    subst e
    rw [range_at]
    rw [hlen] at hi
    have hh := Bool.or_eq_false_iff.mp (htl (i + 1) (by assumption))
    have := fun q => div_turn (nm := nm) (hd := false) (D := D) (w := w) (FL := FL) (c := c) (al := false) (V := V) (H := H) q (t := false) (X := loopX H μ WS X i) (WS := WS) (μ := μ) (i := i) hl (by rw [loopX_length, hX]) hW hi (.inr hh.2)
    exact ⟨_, by cases i <;> rfl, _, (this _).trans (by rw [hh.2, Bool.or_false]; rfl), by assumption, rfl⟩
  · intro ρ e
    obtain ⟨_, e⟩ := e
    subst e
    rw [range_at]
    exact ⟨_, by cases i0 <;> rfl, div_turnTie _ hl (by rw [loopX_length, hX]) hW h0 ht⟩
theorem div_skip (n : Nat) {R : List Int} {o : Bool} {ds : List (Int × Int)} (hs : ¬ R.sum < (H : Int)) :
    Out (exs (n + 80) ⟨G1, false, hd⟩ divFD.scope (divF1 V H nm al R o ds) (divFD.body.drop 2)) = .ok (intL R) := by
  refine o_next (r_ifF (r_tcmp rfl rfl (r_blt rfl rfl (m_cons rfl m_nil) (b_sum _ _)) (congrArg Res.ok (decide_eq_false hs))) r_nil) ?_
  refine o_next (r_assign (v := .bool false) rfl rfl) ?_
  refine o_next (r_ifF (r_tcmp rfl rfl (r_blt rfl rfl (m_cons rfl m_nil) (b_sum _ _)) (congrArg Res.ok (decide_eq_false hs))) r_nil) ?_
  refine o_next (r_ifF (r_and (a := false) (b := !al) (r_tname rfl) (r_not (r_tname rfl))) r_nil) (o_return rfl)

noncomputable def divX (k : Nat) (V : List Int) (H : Nat) : List Int :=
  if (base k V).sum < H then loopX H (muOf (base k V) H (wts k V (divs k H))) (wts k V (divs k H)) (repsOf (base k V) V.length (muOf (base k V) H (wts k V (divs k H))) (wts k V (divs k H))) V.length else base k V
noncomputable def divT (k : Nat) (V : List Int) (H : Nat) : Bool :=
  if (base k V).sum < H then tieN H (muOf (base k V) H (wts k V (divs k H))) (wts k V (divs k H)) (repsOf (base k V) V.length (muOf (base k V) H (wts k V (divs k H))) (wts k V (divs k H))) V.length else false
theorem base_length (k : Nat) (V : List Int) : (base k V).length = V.length := by
  unfold base; split
  · exact List.length_replicate
  · exact List.length_map ..
theorem repsOf_length {R : List Int} {m : Nat} {μ : Int} {WS : List (List Int)} : (repsOf R m μ WS).length = m := by
  unfold repsOf; rw [List.length_map, List.length_range]
theorem divs_length (k H : Nat) (h : 0 < H) : (divs k H).length = H := by
  unfold divs
  split <;> simp <;> lia
theorem wts_flat (k : Nat) (V : List Int) (ds : List (Int × Int)) : (wts k V ds).flatten.length = V.length * ds.length := by
  unfold wts
  induction V with
  | nil => simp
  | cons a r ih => rw [List.map_cons, List.flatten_cons, List.length_append, ih, List.length_map, List.length_cons, Nat.add_mul]; lia
theorem divs_ok {k H : Nat} (hk : k < 6) (h0 : 0 < H) (h : H ≤ 24) : DsOK (divs k H) := by
  refine ⟨fun e => ?_, by rw [divs_length k H h0]; exact h, ?_⟩
  · have := congrArg List.length e
    rw [divs_length k H h0, List.length_nil] at this; lia
  · intro d hd
    have hR : ∀ i, i ∈ List.range H → (i : Int) < 24 ∧ 0 ≤ (i : Int) := fun i hi => by have := List.mem_range.mp hi; lia
    match k, hk with
    | 0, _ => obtain ⟨i, hi, rfl⟩ := List.mem_map.mp hd; have := hR i hi; simp only; (clear hk h0 h hR hi hd; omega)
    | 1, _ => obtain ⟨i, hi, rfl⟩ := List.mem_map.mp hd; have := hR i hi; simp only; lia
    | 2, _ =>
      rcases List.mem_cons.mp hd with rfl | hd
      · simp only; decide
      · obtain ⟨i, hi, rfl⟩ := List.mem_map.mp hd; have := List.mem_range.mp hi; simp only; lia
    | 3, _ =>
      obtain ⟨i, hi, rfl⟩ := List.mem_map.mp hd; have := hR i hi; simp only
      have q : ((i : Int) + 1) * ((i : Int) + 2) ≤ 24 * 25 := Int.mul_le_mul (by exact Int.add_one_le_of_lt this.1) (by lia) (by exact Int.natCast_nonneg _) (by exact Int.natCast_nonneg _)
      have q2 : 0 < ((i : Int) + 1) * ((i : Int) + 2) := Int.mul_pos (by exact Int.lt_add_one_of_le this.2) (by (clear hk h0 h hR hi hd q; lia))
      clear hk h0 h hR hi hd this; omega
    | 4, _ => obtain ⟨i, hi, rfl⟩ := List.mem_map.mp hd; have := hR i hi; simp only; (clear hk h0 h hR hi hd; omega)
    | 5, _ =>
      obtain ⟨i, hi, rfl⟩ := List.mem_map.mp hd; have := hR i hi; simp only
      have q : 2 * ((i : Int) + 1) * ((i : Int) + 2) ≤ 48 * 25 := Int.mul_le_mul (by lia) (by lia) (by exact Int.natCast_nonneg _) (by exact Int.natCast_nonneg _)
      have q2 : 0 < 2 * ((i : Int) + 1) * ((i : Int) + 2) := Int.mul_pos (by (clear hk h0 h hR hi hd q; lia)) (by (clear hk h0 h hR hi hd q; lia))
      clear hk h0 h hR hi hd; omega

structure DivOK (k : Nat) (V : List Int) (H : Nat) : Prop where
  k6 : k < 6
  m0 : 0 < V.length
  h0 : 0 < H
  h24 : H ≤ 24
  h3 : 3 ≤ k → V.length ≤ H
  vb : ∀ p, p ∈ V → p.natAbs < Lim
  sz : V.length * H ≤ sortMax
  lt : (base k V).sum < H → (repsOf (base k V) V.length (muOf (base k V) H (wts k V (divs k H))) (wts k V (divs k H))).sum < H
  b0 : 0 ≤ (base k V).sum
theorem DivOK.vl (D : DivOK k V H) : V.length ≤ 1000 := by
  have h1 : V.length * 1 ≤ V.length * H := Nat.mul_le_mul_left _ D.h0
  have h2 := D.sz
  have h3 : sortMax ≤ 1000 := by decide
  lia
theorem div_start {k : Nat} (n : Nat) (D : DivOK k V H) (N : Nm nm k) {res : Res PV}
    (h1 : (base k V).sum < H → ∀ w, Out (exs (n + 79) ⟨G1, false, hd⟩ divFD.scope (divF5 V H nm al (repsOf (base k V) V.length (muOf (base k V) H (wts k V (divs k H))) (wts k V (divs k H))) (pairL (divs k H)) w (intL (sortI (wts k V (divs k H)).flatten)) (commonN (divs k H) (divs k H).length) (wts k V (divs k H)) (muOf (base k V) H (wts k V (divs k H)))) (divFD.body.drop 3)) = res)
    (h2 : ¬ (base k V).sum < H → res = .ok (intL (base k V))) :
    callF (n + 83) ⟨G1, false, hd⟩ divFD [intL V, .int H, .str nm, .bool al] = res := by
  refine c_call (by decide +kernel) rfl ?_
  have hd' := divs_ok D.k6 D.h0 D.h24
  refine div_A n k D.k6 N D.vl (by have := D.h24; lia) D.h0 D.h3 res ?_
  by_cases hs : (base k V).sum < H
  · have hfl := wts_flat k V (divs k H)
    rw [divs_length k H D.h0] at hfl
    have hHm : 1 * H ≤ V.length * H := Nat.mul_le_mul_right _ D.m0
    have b1 := div_B1 (V := V) (H := H) (nm := nm) (al := al) (hd := hd) n k N (R := base k V) (o := k != 2) hd' D.vl D.m0 (base_length k V) D.vb (by rw [hfl]; exact D.sz) hs (by rw [hfl]; have := D.b0; lia)
    have hw : ∃ w, dtl (divs k H) (divs k H).length = [(S "d", w, false)] := by
      cases h : (divs k H).length with
      | zero => exact absurd (List.length_eq_zero_iff.mp h) hd'.ne
      | succ j => exact ⟨_, rfl⟩
    obtain ⟨w, hw⟩ := hw
    unfold divF3 at b1
    rw [hw] at b1
    exact o_next b1 (h1 hs w)
  · rw [h2 hs]
    exact div_skip n hs
theorem div_ev {k : Nat} (n : Nat) (D : DivOK k V H) (N : Nm nm k) (ha : al = true ∨ divT k V H = false) :
    callF (n + 83) ⟨G1, false, hd⟩ divFD [intL V, .int H, .str nm, .bool al] = .ok (intL (divX k V H)) := by
  refine div_start n D N (fun hs w => ?_) (fun hs => by unfold divX; rw [if_neg hs])
  unfold divT at ha
  unfold divX
  rw [if_pos hs] at ha ⊢
  exact div_tail (n + 3) D.vl repsOf_length (by unfold wts; rw [List.length_map]) (D.lt hs) ha
theorem div_evTie {k : Nat} (n : Nat) (D : DivOK k V H) (N : Nm nm k) (ha : divT k V H = true) :
    callF (n + 83) ⟨G1, false, false⟩ divFD [intL V, .int H, .str nm, .bool false] = .tie := by
  by_cases hs : (base k V).sum < H
  · refine div_start n D N (fun hs w => ?_) (fun h => absurd hs h)
    unfold divT at ha
    rw [if_pos hs] at ha
    exact div_tailTie (n + 3) D.vl repsOf_length (by unfold wts; rw [List.length_map]) (D.lt hs) ha
  · unfold divT at ha
    rw [if_neg hs] at ha
    cases ha
end Mine
end
section
namespace Mine
open PySem
variable {V : List Int} {H : Nat} {nm : Str} {al hd : Bool}

section outs
variable {n : Nat} {C : Cx} {sc : Scope} {ρ ρ' : Rho} {res : Res PV}
theorem o_ifFR {t : PySem.Expr} {a b r : List Stmt} {p : Pos} (hr : res ≠ .stuck) (h : evT n C sc ρ t = .ok false) (h2 : Out (exs n C sc ρ b) = res) : Out (exs (n + 2) C sc ρ (.If t a b p :: r)) = res := o_ifR h h2 hr
theorem o_ifTR {t : PySem.Expr} {a b r : List Stmt} {p : Pos} (hr : res ≠ .stuck) (h : evT n C sc ρ t = .ok true) (h2 : Out (exs n C sc ρ a) = res) : Out (exs (n + 2) C sc ρ (.If t a b p :: r)) = res := o_ifR h h2 hr
theorem o_ret {e : PySem.Expr} {p : Pos} {r : List Stmt} (h : evE n C sc ρ e = res) : Out (exs (n + 2) C sc ρ (.Return (some e) p :: r)) = res := by
  subst h
  cases h : evE n C sc ρ e with
  | ok v => exact o_return h
  | tie => exact o_returnTie h
  | stuck =>
    have : ex (n + 1) C sc ρ (.Return (some e) p) = .stuck := by
      show (evE n C sc ρ e).bind _ = _
      rw [h]; rfl
    have : exs (n + 2) C sc ρ (.Return (some e) p :: r) = .stuck := by
      show (ex (n + 1) C sc ρ (.Return (some e) p)).bind _ = _
      rw [this]; rfl
    rw [this]; rfl
end outs

noncomputable def thrFD : FD := fdOf "apply_threshold"
noncomputable def compFD : FD := fdOf "compute"
noncomputable def lrFD : FD := fdOf "largest_remainder"
noncomputable def toldFD : FD := fdOf "_law_told"
theorem thr_ev (n : Nat) (v : PV) : callF (n + 10) ⟨G1, false, hd⟩ thrFD [v, .none] = .ok v := by
  exact c_call (by decide +kernel) rfl (o_ifFR (fun e => by cases e) (r_tcmp rfl rfl rfl rfl) (o_return rfl))

/-- compute, by what the method gives -/
theorem comp_div {k : Nat} {res : Res PV} (N : Nm nm k) (hk : k < 6) (hr : res ≠ .stuck) (h : ∀ n, callF (n + 83) ⟨G1, false, hd⟩ divFD [intL V, .int H, .str nm, .bool al] = res) (n : Nat) :
    callF (n + 110) ⟨G1, false, hd⟩ compFD [.str nm, intL V, .int H, .none, .bool al] = res := by
  refine c_call (by decide +kernel) rfl (o_next (r_assign (r_fun rfl rfl rfl rfl (m_cons rfl (m_cons rfl m_nil)) (thr_ev _ _)) (a_ints' rfl)) ?_)
  refine o_ifFR hr (r_tcmp rfl rfl rfl (congrArg Res.ok N.q)) (o_ifFR hr (r_tcmp rfl rfl rfl (cI (N.l.trans (by rw [beq_eq_false_iff_ne]; (exact Nat.ne_of_lt hk))))) (o_ifTR hr (r_tcmp rfl rfl rfl (cI (N.d.trans (by rw [bne_iff_ne]; (exact Nat.ne_of_lt hk))))) (o_ret (r_fun rfl rfl rfl rfl (m_cons rfl (m_cons rfl (m_cons rfl (m_cons rfl m_nil)))) (h _)))))
theorem comp_lr {res : Res PV} (N : Nm nm 6) (hr : res ≠ .stuck) (h : ∀ n, callF (n + 83) ⟨G1, false, hd⟩ lrFD [intL V, .int H, .bool al] = res) (n : Nat) :
    callF (n + 110) ⟨G1, false, hd⟩ compFD [.str nm, intL V, .int H, .none, .bool al] = res := by
  refine c_call (by decide +kernel) rfl (o_next (r_assign (r_fun rfl rfl rfl rfl (m_cons rfl (m_cons rfl m_nil)) (thr_ev _ _)) (a_ints' rfl)) ?_)
  refine o_ifFR hr (r_tcmp rfl rfl rfl (congrArg Res.ok N.q)) (o_ifTR hr (r_tcmp rfl rfl rfl (cI N.l)) (o_ret (r_fun rfl rfl rfl rfl (m_cons rfl (m_cons rfl (m_cons rfl m_nil))) (h _))))
theorem comp_dflt (n : Nat) (C : Cx) (a b c : PV) : callF n C compFD [a, b, c] = callF n C compFD [a, b, c, .none, .bool true] := by
  cases n with
  | zero => rfl
  | succ n => rfl

/-- what a method answers -/
structure Cmp (nm : Str) (V : List Int) (H : Nat) (X : List Int) (T : Bool) : Prop where
  c1 : ∀ n hd, callF (n + 110) ⟨G1, false, hd⟩ compFD [.str nm, intL V, .int H] = .ok (intL X)
  c2 : ∀ n, callF (n + 110) ⟨G1, false, false⟩ compFD [.str nm, intL V, .int H, .none, .bool false] = if T then .tie else .ok (intL X)
theorem Cmp.of_div {k : Nat} (D : DivOK k V H) (N : Nm nm k) : Cmp nm V H (divX k V H) (divT k V H) := by
  refine ⟨fun n hd => ?_, fun n => ?_⟩
  · rw [comp_dflt]
    exact comp_div N D.k6 (fun e => by cases e) (fun n => div_ev n D N (.inl rfl)) n
  · cases h : divT k V H with
    | true => exact comp_div N D.k6 (fun e => by cases e) (fun n => div_evTie n D N h) n
    | false => exact comp_div N D.k6 (fun e => by cases e) (fun n => div_ev n D N (.inr h)) n
theorem told_ev {X : List Int} {T : Bool} (c : Cmp nm V H X T) (n : Nat) : callF (n + 120) ⟨G1, false, false⟩ toldFD [.str nm, intL V, .int H] = .ok (.tup [intL X, .bool T]) := by
  refine c_call (by decide +kernel) rfl ?_
  have tr : ∀ (m : Nat) (C : Cx) (sc : Scope) (ρ : Rho) (e : PySem.Expr) (x : Str) (b₀ : Stmt) (hb r : List Stmt) (p p1 p2 p3 : Pos) (v : PV), (x = Str.ofString "TiesException" ∧ isG C.G sc x = true ∧ C.hd = false ∧ C.pure = false) →
      (evE m C sc ρ e = .ok v ∨ (evE m C sc ρ e = .tie ∧ Out (exs m { C with hd := true } sc ρ (b₀ :: hb)) = .ok v)) →
      Out (exs (m + 2) C sc ρ (.Try [.Return (some e) p1] [.ExceptHandler (some (.Name x p2)) .none (b₀ :: hb) p3] [] [] p :: r)) = .ok v := by
    intro m C sc ρ e x b₀ hb r p p1 p2 p3 v hx hv
    have e0 : ex (m + 1) C sc ρ (.Try [.Return (some e) p1] [.ExceptHandler (some (.Name x p2)) .none (b₀ :: hb) p3] [] [] p) = (match evE m C sc ρ e with
          | .ok v => .ok (.ret v, ρ)
          | .tie => exs m { C with hd := true } sc ρ (b₀ :: hb)
          | .stuck => .stuck) := by
      show (if x = Str.ofString "TiesException" ∧ isG C.G sc x = true ∧ C.hd = false ∧ C.pure = false then _ else _) = _
      refine (if_pos hx).trans ?_
      cases evE m C sc ρ e <;> rfl
    have e1 : exs (m + 2) C sc ρ (.Try [.Return (some e) p1] [.ExceptHandler (some (.Name x p2)) .none (b₀ :: hb) p3] [] [] p :: r) = (ex (m + 1) C sc ρ (.Try [.Return (some e) p1] [.ExceptHandler (some (.Name x p2)) .none (b₀ :: hb) p3] [] [] p)).bind fun (f, ρ') => match f with
      | .next => exs (m + 1) C sc ρ' r
      | .ret v => .ok (.ret v, ρ') := rfl
    rw [e1, e0]
    rcases hv with h | ⟨h, h2⟩
    · rw [h]; rfl
    · rw [h]
      show Out ((exs m { C with hd := true } sc ρ (b₀ :: hb)).bind _) = _
      generalize exs m { C with hd := true } sc ρ (b₀ :: hb) = q at h2
      match q, h2 with
      | .ok (.ret v, _), h2 => exact h2
  refine tr _ _ _ _ _ _ _ _ _ _ _ _ _ _ ⟨rfl, rfl, rfl, rfl⟩ ?_
  have h2 := c.c2
  cases T with
  | false => exact .inl (r_tup2 (r_fun rfl rfl rfl rfl (m_cons rfl (m_cons rfl (m_cons rfl (m_cons rfl (m_cons rfl m_nil))))) (h2 _)) rfl)
  | true =>
    refine .inr ⟨?_, o_return (r_tup2 (r_fun rfl rfl rfl rfl (m_cons rfl (m_cons rfl (m_cons rfl m_nil))) (c.c1 _ _)) rfl)⟩
    have tt : ∀ (m : Nat) (C : Cx) (sc : Scope) (ρ : Rho) (e f : PySem.Expr) (u : Nat) (p : Pos), evE m C sc ρ e = .tie → evE (m + 1) C sc ρ (.Tuple [e, f] u p) = .tie := by
      intro m C sc ρ e f u p h
      show (mapR (evE m C sc ρ) [e, f]).bind _ = _
      have : mapR (evE m C sc ρ) [e, f] = .tie := by
        show (evE m C sc ρ e).bind _ = _
        rw [h]; rfl
      rw [this]; rfl
    exact tt _ _ _ _ _ _ _ _ (r_fun rfl rfl rfl rfl (m_cons rfl (m_cons rfl (m_cons rfl (m_cons rfl (m_cons rfl m_nil))))) (h2 _))
end Mine
end
section
namespace Mine
open PySem
variable {V : List Int} {H : Nat} {al hd : Bool}

theorem idx_pairs {l : List (Int × Int)} {i : Nat} (h : i < l.length) (hl : l.length ≤ 1000) : idxE (l.map pairP) (i : Int) = .ok (pairP (l.getD i (0, 0))) := by
  refine idx_nz (i := i) (by rw [List.length_map]; exact hl) (if_neg (by lia)) ?_
  rw [List.getElem?_map, List.getElem?_eq_getElem h, List.getD_eq_getElem?_getD, List.getElem?_eq_getElem h]; rfl
theorem getD_map {α : Type} {V : List Int} {f : Int → α} {d : α} {i : Nat} (h : i < V.length) : (V.map f).getD i d = f (gt0 V i) := by
  unfold gt0
  rw [List.getD_eq_getElem?_getD, List.getElem?_map, List.getElem?_eq_getElem h, List.getD_eq_getElem?_getD, List.getElem?_eq_getElem h]; rfl
theorem gt0_mem {V : List Int} {i : Nat} (h : i < V.length) : gt0 V i ∈ V := by
  unfold gt0; exact getD_mem h

noncomputable def lrQ (V : List Int) (H : Nat) : List (Int × Int) := V.map fun p => (p * H, V.sum)
noncomputable def lrR (V : List Int) (H : Nat) : List Int := (lrQ V H).map fun q => q.1.fdiv q.2
noncomputable def lrM (V : List Int) (H : Nat) : List Int := (List.range V.length).map fun i : Nat => gt0 V i * H - gt0 (lrR V H) i * V.sum
noncomputable def lrC (V : List Int) (H : Nat) : Int := gt0 (sortI (lrM V H)) (((V.length : Int) + (lrR V H).sum - H).toNat)
noncomputable def stepR (H : Nat) (M : List Int) (c : Int) (i : Nat) (X : List Int) : List Int := if (decide (X.sum < H) && decide (gt0 M i ≥ c)) = true then X.set i (gt0 X i + 1) else X
noncomputable def tieR (H : Nat) (M : List Int) (c : Int) (i : Nat) (X : List Int) : Bool := decide (X.sum = H) && decide (gt0 M i ≥ c)
noncomputable def loopR (H : Nat) (M : List Int) (c : Int) (X : List Int) : Nat → List Int
  | 0 => X
  | i + 1 => stepR H M c i (loopR H M c X i)
noncomputable def tieRN (H : Nat) (M : List Int) (c : Int) (X : List Int) : Nat → Bool
  | 0 => false
  | i + 1 => tieRN H M c X i || tieR H M c i (loopR H M c X i)
theorem stepR_length {M : List Int} {c : Int} {i : Nat} {X : List Int} : (stepR H M c i X).length = X.length := by
  unfold stepR; split
  · exact List.length_set ..
  · rfl
theorem loopR_length {M : List Int} {c : Int} {X : List Int} : ∀ i, (loopR H M c X i).length = X.length
  | 0 => rfl
  | i + 1 => by show (stepR _ _ _ _ _).length = _; rw [stepR_length, loopR_length i]

noncomputable def lrF (V : List Int) (H : Nat) (al : Bool) : Rho := [(S "votes", intL V, false), (S "seats", .int H, false), (S "tiesallowed", .bool al, false)]
noncomputable def lrF1 (V : List Int) (H : Nat) (al : Bool) (X : List Int) (t : Bool) : Rho := lrF V H al ++ [(S "quotas", pairL (lrQ V H), false), (S "representatives", intL X, true), (S "ties", .bool t, false)]
noncomputable def lrF2 (V : List Int) (H : Nat) (al : Bool) (X : List Int) (t : Bool) (M : List Int) (c : Int) : Rho := lrF1 V H al X t ++ [(S "remainders", intL M, true), (S "cutoff", .int c, false)]
noncomputable def rtl : Option (Nat × Int) → Rho
  | none => []
  | some (i, s) => [(S "i", .int (i : Int), false), (S "reps_sum", .int s, false)]
noncomputable def lrLoop : List Stmt := match lrFD.body.drop 4 with
  | .If _ [_, _, .For _ _ b _ _] _ _ :: _ => b
  | _ => []

theorem lr_turn (n : Nat) {X M : List Int} {c : Int} {t : Bool} {i : Nat} {tl : Rho} (hl : V.length ≤ 1000) (hX : X.length = V.length) (hM : M.length = V.length) (hi : i < V.length)
    (ht : tl = [(S "i", .int (i : Int), false)] ∨ ∃ s, tl = [(S "i", .int (i : Int), false), (S "reps_sum", .int s, false)]) :
    exs (n + 60) ⟨G1, false, hd⟩ lrFD.scope (lrF2 V H al X t M c ++ tl) lrLoop = .ok (.next, lrF2 V H al (stepR H M c i X) (t || tieR H M c i X) M c ++ rtl (some (i, X.sum))) := by
  have hw := idx_nat (l := M) (i := i) (by lia) (by lia)
  refine r_next (ρ' := lrF2 V H al X t M c ++ rtl (some (i, X.sum))) ?_ ?_
  · rcases ht with rfl | ⟨s, rfl⟩
    · exact r_assign (r_blt rfl rfl (m_cons rfl m_nil) (b_sum _ _)) rfl
    · exact r_assign (r_blt rfl rfl (m_cons rfl m_nil) (b_sum _ _)) rfl
  have hge := Int.lt_trichotomy (gt0 M i) c
  refine r_next (r_if (c := tieR H M c i X) (r_and (r_tcmp rfl rfl rfl (c_eq _ _)) (r_tcmp rfl (r_sub rfl rfl rfl hw) rfl rfl)) (res := .ok (.next, lrF2 V H al (stepR H M c i X) (t || tieR H M c i X) M c ++ rtl (some (i, X.sum)))) ?_) r_nil
  cases hT : tieR H M c i X with
  | true =>
    have hq := hT
    unfold tieR at hq
    rw [Bool.and_eq_true, decide_eq_true_eq, decide_eq_true_eq] at hq
    have : stepR H M c i X = X := by
      unfold stepR
      rw [if_neg]
      rw [Bool.and_eq_true, decide_eq_true_eq]
      clear hl hX hM hi ht hw hge hT; omega
    rw [this, if_pos rfl, Bool.or_true]
    cases t with
    | true => exact r_next (r_ifF (r_not (b := true) (r_tname rfl)) r_nil) r_nil
    | false => exact r_next (r_ifT (r_not (b := false) (r_tname rfl)) (r_next (r_assign rfl rfl) r_nil)) r_nil
  | false =>
    rw [if_neg Bool.false_ne_true, Bool.or_false]
    refine r_next (r_if (c := decide (X.sum < (H : Int)) && decide (gt0 M i > c)) (r_and (r_tcmp rfl rfl rfl rfl) (r_tcmp rfl (r_sub rfl rfl rfl hw) rfl rfl)) (res := .ok (.next, lrF2 V H al (stepR H M c i X) t M c ++ rtl (some (i, X.sum)))) ?_) r_nil
    unfold stepR
    cases h1 : (decide (X.sum < (H : Int)) && decide (gt0 M i > c)) with
    | true =>
      rw [if_pos rfl, if_pos (by
        rw [Bool.and_eq_true, decide_eq_true_eq, decide_eq_true_eq] at h1 ⊢
        lia)]
      exact r_next (r_aug rfl rfl rfl (by lia) (by rw [hX]; exact hl) rfl rfl rfl) r_nil
    | false =>
      rw [if_neg Bool.false_ne_true]
      refine r_next (r_if (c := decide (X.sum < (H : Int)) && decide (gt0 M i = c)) (r_and (r_tcmp rfl rfl rfl rfl) (r_tcmp rfl (r_sub rfl rfl rfl hw) rfl (c_eq _ _))) (res := .ok (.next, lrF2 V H al (if (decide (X.sum < (H : Int)) && decide (gt0 M i ≥ c)) = true then X.set i (gt0 X i + 1) else X) t M c ++ rtl (some (i, X.sum)))) ?_) r_nil
      cases h2 : (decide (X.sum < (H : Int)) && decide (gt0 M i = c)) with
      | true =>
        rw [if_pos rfl, if_pos (by
          rw [Bool.and_eq_true, decide_eq_true_eq, decide_eq_true_eq] at h2 ⊢
          lia)]
        exact r_next (r_aug rfl rfl rfl (by lia) (by rw [hX]; exact hl) rfl rfl rfl) r_nil
      | false =>
        rw [if_neg Bool.false_ne_true, if_neg (by
          rw [Bool.and_eq_false_iff, decide_eq_false_iff_not, decide_eq_false_iff_not] at h1 h2
          rw [Bool.and_eq_true, decide_eq_true_eq, decide_eq_true_eq]
          lia)]
        exact r_nil

noncomputable def lrX (V : List Int) (H : Nat) : List Int := if (lrR V H).sum < H then loopR H (lrM V H) (lrC V H) (lrR V H) V.length else lrR V H
noncomputable def lrT (V : List Int) (H : Nat) : Bool := if (lrR V H).sum < H then tieRN H (lrM V H) (lrC V H) (lrR V H) V.length else false
structure LrOK (V : List Int) (H : Nat) : Prop where
  h0 : 0 < H
  h24 : H ≤ 24
  m63 : V.length ≤ sortMax
  vb : ∀ p, p ∈ V → p.natAbs < Lim ∧ 0 ≤ p
  tb : V.sum.natAbs < Lim ∧ 0 < V.sum
  r0 : (H : Int) ≤ V.length + (lrR V H).sum
theorem lrR_at {i : Nat} (h : i < V.length) : gt0 (lrR V H) i = (gt0 V i * H).fdiv V.sum := by
  unfold lrR lrQ
  rw [List.map_map]
  exact getD_map (f := (fun q : Int × Int => q.1.fdiv q.2) ∘ fun p => (p * H, V.sum)) h
theorem lrR_length : (lrR V H).length = V.length := by unfold lrR lrQ; rw [List.length_map, List.length_map]
theorem lrM_length : (lrM V H).length = V.length := by unfold lrM; rw [List.length_map, List.length_range]

theorem lr_mid (n : Nat) (D : LrOK V H) {res : Res PV} (h : Out (exs (n + 77) ⟨G1, false, hd⟩ lrFD.scope (lrF1 V H al (lrR V H) false) (lrFD.body.drop 4)) = res) : callF (n + 82) ⟨G1, false, hd⟩ lrFD [intL V, .int H, .bool al] = res := by
  have hl : V.length ≤ 1000 := Nat.le_trans D.m63 (by decide)
  have LB : Lim * 1000 < Big := by decide +kernel
  have L1 : 1000 < Lim := by decide +kernel
  refine c_call (by decide +kernel) rfl (o_next (r_ifF (r_tcmp rfl rfl rfl ((c_eq _ _).trans (congrArg Res.ok (decide_eq_false (by have := D.h0; lia))))) r_nil) ?_)
  refine o_next (r_assign (r_compP (f := fun p : Int => (p * H, V.sum)) rfl (i_names (g := PV.int) rfl) hl fun p hp => ⟨_, rfl, r_tup2 (r_bin rfl (r_blt rfl rfl (m_cons rfl m_nil) rfl) rfl (b_mul (mulOk_of (by have := (D.vb p hp).1; (clear D h hl L1 hp; lia)) (by have := D.h24; lia)))) (r_blt rfl rfl (m_cons (r_blt rfl rfl (m_cons rfl m_nil) (b_sum _ _)) m_nil) rfl)⟩) (a_pairs rfl (by
    intro e
    have := congrArg List.length e
    rw [List.length_map, List.length_nil] at this
    have h2 := List.length_eq_zero_iff.mp this
    have := D.tb.2
    rw [h2] at this
    exact absurd this (by decide)))) ?_
  refine o_next (r_assign (r_compI (f := fun q : Int × Int => q.1.fdiv q.2) rfl (i_names (g := pairP) rfl) (by rw [List.length_map]; exact hl) fun q hq => ⟨_, rfl, r_bin rfl (r_subT rfl rfl rfl rfl) (r_subT rfl rfl rfl rfl) ?_⟩) (a_ints rfl)) ?_
  · obtain ⟨p, hp, rfl⟩ := List.mem_map.mp hq
    exact b_fdiv (by have := D.tb.2; show V.sum ≠ 0; (exact Int.ne_of_gt this)) (by have := D.tb.1; show V.sum.natAbs < Big; (clear D h hl L1 hp hq; lia))
  · exact o_next (r_assign (v := .bool false) rfl rfl) h
theorem lr_end (n : Nat) {X : List Int} {t : Bool} {tl : Rho} (htl : tl = [] ∨ ∃ M c q, tl = [(S "remainders", intL M, true), (S "cutoff", .int c, false)] ++ rtl q) (ha : al = true ∨ t = false ∨ hd = false) :
    Out (exs (n + 70) ⟨G1, false, hd⟩ lrFD.scope (lrF1 V H al X t ++ tl) (lrFD.body.drop 5)) = if (t && !al) = true then .tie else .ok (intL X) := by
  have tst : ∀ m ρ, nameE G1 lrFD.scope ρ (S "ties") = .ok (.bool t) → nameE G1 lrFD.scope ρ (S "tiesallowed") = .ok (.bool al) → evT (m + 20) ⟨G1, false, hd⟩ lrFD.scope ρ (match lrFD.body.drop 5 with | .If t _ _ _ :: _ => t | _ => default) = .ok (t && !al) := fun m ρ h1 h2 => r_and (a := t) (b := !al) (r_tname h1) (r_not (r_tname h2))
  have e1 : nameE G1 lrFD.scope (lrF1 V H al X t ++ tl) (S "ties") = .ok (.bool t) := by rcases htl with rfl | ⟨M, c, q, rfl⟩ <;> rfl
  have e2 : nameE G1 lrFD.scope (lrF1 V H al X t ++ tl) (S "tiesallowed") = .ok (.bool al) := by rcases htl with rfl | ⟨M, c, q, rfl⟩ <;> rfl
  have e3 : nameE G1 lrFD.scope (lrF1 V H al X t ++ tl) (S "representatives") = .ok (intL X) := by rcases htl with rfl | ⟨M, c, q, rfl⟩ <;> rfl
  cases hc : (t && !al) with
  | false =>
    rw [if_neg Bool.false_ne_true]
    refine o_next (r_ifF ((tst _ _ e1 e2).trans (by rw [hc])) r_nil) (o_return ?_)
    exact e3
  | true =>
    rw [if_pos rfl]
    have hh : hd = false := by
      rw [Bool.and_eq_true] at hc
      rcases ha with h | h | h
      · rw [h] at hc; cases hc.2
      · rw [h] at hc; cases hc.1
      · exact h
    subst hh
    exact o_tie (r_ifT ((tst _ _ e1 e2).trans (by rw [hc])) (r_tie (r_raise rfl rfl rfl rfl)))
theorem lr_ev (n : Nat) (D : LrOK V H) (ha : al = true ∨ lrT V H = false ∨ hd = false) :
    callF (n + 83) ⟨G1, false, hd⟩ lrFD [intL V, .int H, .bool al] = if (lrT V H && !al) = true then .tie else .ok (intL (lrX V H)) := by
  have hl : V.length ≤ 1000 := Nat.le_trans D.m63 (by decide)
  have hl' : (lrR V H).length ≤ 1000 := by rw [lrR_length]; exact hl
  refine lr_mid (n + 1) D ?_
  unfold lrT at ha
  unfold lrT lrX
  by_cases hs : (lrR V H).sum < H
  · rw [if_pos hs] at ha
    rw [if_pos hs, if_pos hs]
    have LB : Lim * 1000 * Lim < Big := by decide +kernel
    have LB2 : Lim * 1000 < Big := by decide +kernel
    have hlen : ((List.range V.length).map fun i : Nat => PV.int (i : Int)).length = V.length := by rw [List.length_map, List.length_range]
    have hmu : idxE ((sortI (lrM V H)).map PV.int) ((lrR V H).sum - (H : Int)) = .ok (.int (lrC V H)) := by
      have hsl : (sortI (lrM V H)).length = V.length := by rw [sortI_length, lrM_length]
      have := D.r0
      refine idx_nz (i := ((V.length : Int) + (lrR V H).sum - H).toNat) (by rw [List.length_map, hsl]; exact hl) ?_ ?_
      · rw [List.length_map, hsl, if_pos (by lia)]
        lia
      · have hlt : ((V.length : Int) + (lrR V H).sum - H).toNat < (sortI (lrM V H)).length := by rw [hsl]; (clear D ha hl hl' LB LB2 hlen hsl; omega)
        rw [List.getElem?_map, List.getElem?_eq_getElem hlt]
        unfold lrC gt0
        rw [List.getD_eq_getElem?_getD, List.getElem?_eq_getElem hlt]; rfl
    refine o_next (ρ' := lrF2 V H al (loopR H (lrM V H) (lrC V H) (lrR V H) V.length) (tieRN H (lrM V H) (lrC V H) (lrR V H) V.length) (lrM V H) (lrC V H) ++ rtl (match V.length with | 0 => none | i + 1 => some (i, (loopR H (lrM V H) (lrC V H) (lrR V H) i).sum))) (r_ifT (r_tcmp rfl (r_blt rfl rfl (m_cons rfl m_nil) (b_sum _ _)) rfl (congrArg Res.ok (decide_eq_true hs))) ?_) (lr_end _ (.inr ⟨_, _, _, rfl⟩) ha)
    refine r_next (r_assign (r_compI (f := fun i : Nat => gt0 V i * H - gt0 (lrR V H) i * V.sum) rfl (r_rangeI rfl (r_lenN rfl rfl rfl hl) hl) (by rw [List.length_range]; exact hl) fun i hi => ⟨_, rfl, ?_⟩) (a_ints rfl)) ?_
    · have hi := List.mem_range.mp hi
      have hq : idxE ((lrQ V H).map pairP) (i : Int) = .ok (pairP (gt0 V i * H, V.sum)) := by
        rw [idx_pairs (by unfold lrQ; rw [List.length_map]; exact hi) (by unfold lrQ; rw [List.length_map]; exact hl)]
        unfold lrQ
        rw [getD_map hi]
      have hb := D.vb _ (gt0_mem hi)
      have hbd : (gt0 (lrR V H) i).natAbs < Lim * 1000 := by
        rw [lrR_at hi]
        have h1 : 0 ≤ gt0 V i * (H : Int) := Int.mul_nonneg hb.2 (by exact Int.natCast_nonneg _)
        have h2 : (gt0 V i * (H : Int)).natAbs < Lim * 1000 := natAbs_mul_lt hb.1 (by have := D.h24; (clear D ha hl hl' hs LB LB2 hlen hmu hi hq hb h1; omega))
        have h3 : (gt0 V i * (H : Int)).fdiv V.sum ≤ gt0 V i * (H : Int) := by
          rw [Int.fdiv_eq_ediv_of_nonneg _ (by have := D.tb.2; (exact Int.le_of_lt this))]
          exact Int.ediv_le_self _ h1
        have h4 : 0 ≤ (gt0 V i * (H : Int)).fdiv V.sum := Int.fdiv_nonneg h1 (by have := D.tb.2; (exact Int.le_of_lt this))
        clear D ha hl hl' hs LB LB2 hlen hmu hi hq hb; omega
      exact r_bin rfl (r_subT rfl (r_sub rfl rfl rfl hq) rfl rfl) (r_bin rfl (r_sub rfl rfl rfl (idx_nat (by rw [lrR_length]; exact hi) hl')) (r_subT rfl (r_sub rfl rfl rfl hq) rfl rfl) (b_mul (mulOk_of (by exact Nat.lt_trans hbd LB2) (by have := D.tb.1; show V.sum.natAbs < Big; (clear D ha hl hl' hs LB hlen hmu hi hq hb hbd; lia))))) rfl
    refine r_next (r_assign (v := .int (lrC V H)) (r_sub rfl (r_blt rfl rfl (m_cons rfl m_nil) (b_sorted _ (lrM V H) (by rw [lrM_length]; exact D.m63))) (r_bin rfl (r_blt rfl rfl (m_cons rfl m_nil) (b_sum _ _)) rfl rfl) hmu) rfl) ?_
    refine r_for_inv (items := (List.range V.length).map fun i : Nat => PV.int (i : Int)) (fun i ρ => ρ = lrF2 V H al (loopR H (lrM V H) (lrC V H) (lrR V H) i) (tieRN H (lrM V H) (lrC V H) (lrR V H) i) (lrM V H) (lrC V H) ++ rtl (match i with | 0 => none | i + 1 => some (i, (loopR H (lrM V H) (lrC V H) (lrR V H) i).sum))) (r_rangeI rfl (r_lenN rfl rfl rfl hl) hl) (by rw [hlen]; exact hl) rfl ?_ ?_
    · intro i hi ρ e
      subst e
      rw [range_at]
      rw [hlen] at hi
      have := fun q tl ht => lr_turn (hd := hd) (al := al) (V := V) (H := H) q (t := tieRN H (lrM V H) (lrC V H) (lrR V H) i) (X := loopR H (lrM V H) (lrC V H) (lrR V H) i) (M := lrM V H) (c := lrC V H) (i := i) (tl := tl) hl (by rw [loopR_length, lrR_length]) lrM_length hi ht
      cases i with
      | zero => exact ⟨_, rfl, _, this _ _ (.inl rfl), rfl⟩
      | succ j => exact ⟨_, rfl, _, this _ _ (.inr ⟨_, rfl⟩), rfl⟩
    · intro ρ' e
      subst e
      rw [hlen]
      exact r_nil
  · rw [if_neg hs] at ha
    rw [if_neg hs, if_neg hs]
    exact o_next (r_ifF (r_tcmp rfl (r_blt rfl rfl (m_cons rfl m_nil) (b_sum _ _)) rfl (congrArg Res.ok (decide_eq_false hs))) r_nil) (lr_end (tl := []) _ (.inl rfl) ha)
theorem Cmp.of_lr {nm : Str} (D : LrOK V H) (N : Nm nm 6) : Cmp nm V H (lrX V H) (lrT V H) := by
  refine ⟨fun n hd => ?_, fun n => ?_⟩
  · rw [comp_dflt]
    refine comp_lr N (fun e => by cases e) (fun n => (lr_ev n D (.inl rfl)).trans ?_) n
    rw [Bool.not_true, Bool.and_false, if_neg Bool.false_ne_true]
  · refine comp_lr N (by cases lrT V H <;> exact fun e => by cases e) (fun n => (lr_ev n D (.inr (.inr rfl))).trans ?_) n
    rw [Bool.not_false, Bool.and_true]
end Mine
end
section
namespace Mine
open PySem

noncomputable def lawFD : FD := fdOf "law"
noncomputable def nmOK (nm : Str) (k : Nat) : Bool :=
  ((nm == S "quota") == false) &&
  (([S "lrm", S "hamilton", S "largest_remainder"].any fun b => b == nm) == (k == 6)) &&
  (([S "dhondt", S "jefferson", S "saintelague", S "webster", S "modified_saintelague", S "huntington", S "hill", S "adams", S "dean", S "smallestdivisor", S "harmonicmean", S "equalproportions", S "majorfractions", S "greatestdivisors"].any fun b => b == nm) == (k != 6)) &&
  (([S "dhondt", S "jefferson", S "greatestdivisors"].any fun b => b == nm) == (k == 0)) &&
  (([S "saintelague", S "webster", S "majorfractions"].any fun b => b == nm) == (k == 1)) &&
  (([S "modified_saintelague"].any fun b => b == nm) == (k == 2)) &&
  (([S "huntington", S "hill", S "equalproportions"].any fun b => b == nm) == (k == 3)) &&
  (([S "adams", S "smallestdivisor"].any fun b => b == nm) == (k == 4)) &&
  (([S "dean", S "harmonicmean"].any fun b => b == nm) == (k == 5))
theorem Nm.of {nm : Str} {k : Nat} (h : nmOK nm k = true) : Nm nm k := by
  unfold nmOK at h
  simp only [Bool.and_eq_true] at h
  obtain ⟨⟨⟨⟨⟨⟨⟨⟨a, b⟩, c⟩, d⟩, e⟩, f⟩, g⟩, i⟩, j⟩ := h
  exact ⟨eq_of_beq a, eq_of_beq b, eq_of_beq c, eq_of_beq d, eq_of_beq e, eq_of_beq f, eq_of_beq g, eq_of_beq i, eq_of_beq j⟩

section rules
variable {n : Nat} {C : Cx} {sc : Scope} {ρ ρ' : Rho}
theorem r_slice {v : PySem.Expr} {lo up : Option PySem.Expr} {p p' : Pos} {L : List Int} {i j : Nat} (h : evE n C sc ρ v = .ok (intL L)) (hl : L.length ≤ 1000) (hi : natLit lo 0 = some i) (hj : natLit up 1000 = some j) :
    evE (n + 1) C sc ρ (.Subscript v (.Slice lo up .none p) p') = .ok (intL ((L.take j).drop i)) := by
  show (ofO ((natLit lo 0).bind fun i => (natLit up 1000).map fun j => (i, j))).bind _ = _
  rw [hi, hj]
  show (evE n C sc ρ v).bind _ = _
  rw [h]
  show ofO (if (L.map PV.int).length ≤ 1000 then some (PV.list (sliceE (L.map PV.int) i j)) else none) = _
  rw [if_pos (by rw [List.length_map]; exact hl)]
  unfold sliceE intL
  rw [List.map_drop, List.map_take]; rfl
theorem b_addL {a b : List Int} (h : a.length + b.length ≤ 1000) : binE .Add (intL a) (intL b) = .ok (intL (a ++ b)) := by
  show ofO (if (a.map PV.int).length + (b.map PV.int).length ≤ 1000 then some (PV.list (a.map PV.int ++ b.map PV.int)) else none) = _
  rw [List.length_map, List.length_map, if_pos h, ← List.map_append]; rfl
end rules

theorem fmod_nat (f : Int) (m : Nat) (hm : 0 < m) : ∃ k : Nat, f.fmod m = k ∧ k < m := by
  have h1 := Int.fmod_nonneg_of_pos f (show (0 : Int) < m by lia)
  have h2 := Int.fmod_lt_of_pos f (show (0 : Int) < m by lia)
  exact ⟨(f.fmod m).toNat, by omega, by (clear h1; omega)⟩

noncomputable def lawF0 (ns HD : List Int) (f : Int) (k : Nat) : Rho := [(S "script", intL ns, false), (S "head", intL HD, false), (S "first", .int f, false), (S "kind", .int k, false)]
theorem name_ev (k : Nat) (hk : k ≤ 6) (f : Int) (ns HD : List Int) : ∃ nm, Nm nm k ∧ ∀ n, evE (n + 20) ⟨G1, false, false⟩ lawFD.scope (lawF0 ns HD f k) (match lawFD.body.drop 3 with | .Assign _ e _ :: _ => e | _ => default) = .ok (.str nm) := by
  have m3 : ∀ m : Nat, 0 < m → ∃ t : Nat, (f.fdiv 7).fmod m = t ∧ t < m := fun m h => fmod_nat _ m h
  match k, hk with
  | 0, _ =>
    obtain ⟨t, ht, h⟩ := m3 3 (by decide)
    match t, h with
    | 0, _ => exact ⟨_, Nm.of (by decide +kernel), fun n => r_sub rfl (r_sub rfl rfl rfl rfl) (r_bin rfl (r_bin rfl rfl rfl (b_fdiv (by decide) (by decide +kernel))) (r_blt rfl rfl (m_cons (r_sub rfl rfl rfl rfl) m_nil) rfl) (b_mod (by decide))) ((congrArg (idxE _) ht).trans rfl)⟩
    | 1, _ => exact ⟨_, Nm.of (by decide +kernel), fun n => r_sub rfl (r_sub rfl rfl rfl rfl) (r_bin rfl (r_bin rfl rfl rfl (b_fdiv (by decide) (by decide +kernel))) (r_blt rfl rfl (m_cons (r_sub rfl rfl rfl rfl) m_nil) rfl) (b_mod (by decide))) ((congrArg (idxE _) ht).trans rfl)⟩
    | 2, _ => exact ⟨_, Nm.of (by decide +kernel), fun n => r_sub rfl (r_sub rfl rfl rfl rfl) (r_bin rfl (r_bin rfl rfl rfl (b_fdiv (by decide) (by decide +kernel))) (r_blt rfl rfl (m_cons (r_sub rfl rfl rfl rfl) m_nil) rfl) (b_mod (by decide))) ((congrArg (idxE _) ht).trans rfl)⟩
  | 1, _ =>
    obtain ⟨t, ht, h⟩ := m3 3 (by decide)
    match t, h with
    | 0, _ => exact ⟨_, Nm.of (by decide +kernel), fun n => r_sub rfl (r_sub rfl rfl rfl rfl) (r_bin rfl (r_bin rfl rfl rfl (b_fdiv (by decide) (by decide +kernel))) (r_blt rfl rfl (m_cons (r_sub rfl rfl rfl rfl) m_nil) rfl) (b_mod (by decide))) ((congrArg (idxE _) ht).trans rfl)⟩
    | 1, _ => exact ⟨_, Nm.of (by decide +kernel), fun n => r_sub rfl (r_sub rfl rfl rfl rfl) (r_bin rfl (r_bin rfl rfl rfl (b_fdiv (by decide) (by decide +kernel))) (r_blt rfl rfl (m_cons (r_sub rfl rfl rfl rfl) m_nil) rfl) (b_mod (by decide))) ((congrArg (idxE _) ht).trans rfl)⟩
    | 2, _ => exact ⟨_, Nm.of (by decide +kernel), fun n => r_sub rfl (r_sub rfl rfl rfl rfl) (r_bin rfl (r_bin rfl rfl rfl (b_fdiv (by decide) (by decide +kernel))) (r_blt rfl rfl (m_cons (r_sub rfl rfl rfl rfl) m_nil) rfl) (b_mod (by decide))) ((congrArg (idxE _) ht).trans rfl)⟩
  | 2, _ =>
    obtain ⟨t, ht, h⟩ := m3 1 (by decide)
    match t, h with
    | 0, _ => exact ⟨_, Nm.of (by decide +kernel), fun n => r_sub rfl (r_sub rfl rfl rfl rfl) (r_bin rfl (r_bin rfl rfl rfl (b_fdiv (by decide) (by decide +kernel))) (r_blt rfl rfl (m_cons (r_sub rfl rfl rfl rfl) m_nil) rfl) (b_mod (by decide))) ((congrArg (idxE _) ht).trans rfl)⟩
  | 3, _ =>
    obtain ⟨t, ht, h⟩ := m3 3 (by decide)
    match t, h with
    | 0, _ => exact ⟨_, Nm.of (by decide +kernel), fun n => r_sub rfl (r_sub rfl rfl rfl rfl) (r_bin rfl (r_bin rfl rfl rfl (b_fdiv (by decide) (by decide +kernel))) (r_blt rfl rfl (m_cons (r_sub rfl rfl rfl rfl) m_nil) rfl) (b_mod (by decide))) ((congrArg (idxE _) ht).trans rfl)⟩
    | 1, _ => exact ⟨_, Nm.of (by decide +kernel), fun n => r_sub rfl (r_sub rfl rfl rfl rfl) (r_bin rfl (r_bin rfl rfl rfl (b_fdiv (by decide) (by decide +kernel))) (r_blt rfl rfl (m_cons (r_sub rfl rfl rfl rfl) m_nil) rfl) (b_mod (by decide))) ((congrArg (idxE _) ht).trans rfl)⟩
    | 2, _ => exact ⟨_, Nm.of (by decide +kernel), fun n => r_sub rfl (r_sub rfl rfl rfl rfl) (r_bin rfl (r_bin rfl rfl rfl (b_fdiv (by decide) (by decide +kernel))) (r_blt rfl rfl (m_cons (r_sub rfl rfl rfl rfl) m_nil) rfl) (b_mod (by decide))) ((congrArg (idxE _) ht).trans rfl)⟩
  | 4, _ =>
    obtain ⟨t, ht, h⟩ := m3 2 (by decide)
    match t, h with
    | 0, _ => exact ⟨_, Nm.of (by decide +kernel), fun n => r_sub rfl (r_sub rfl rfl rfl rfl) (r_bin rfl (r_bin rfl rfl rfl (b_fdiv (by decide) (by decide +kernel))) (r_blt rfl rfl (m_cons (r_sub rfl rfl rfl rfl) m_nil) rfl) (b_mod (by decide))) ((congrArg (idxE _) ht).trans rfl)⟩
    | 1, _ => exact ⟨_, Nm.of (by decide +kernel), fun n => r_sub rfl (r_sub rfl rfl rfl rfl) (r_bin rfl (r_bin rfl rfl rfl (b_fdiv (by decide) (by decide +kernel))) (r_blt rfl rfl (m_cons (r_sub rfl rfl rfl rfl) m_nil) rfl) (b_mod (by decide))) ((congrArg (idxE _) ht).trans rfl)⟩
  | 5, _ =>
    obtain ⟨t, ht, h⟩ := m3 2 (by decide)
    match t, h with
    | 0, _ => exact ⟨_, Nm.of (by decide +kernel), fun n => r_sub rfl (r_sub rfl rfl rfl rfl) (r_bin rfl (r_bin rfl rfl rfl (b_fdiv (by decide) (by decide +kernel))) (r_blt rfl rfl (m_cons (r_sub rfl rfl rfl rfl) m_nil) rfl) (b_mod (by decide))) ((congrArg (idxE _) ht).trans rfl)⟩
    | 1, _ => exact ⟨_, Nm.of (by decide +kernel), fun n => r_sub rfl (r_sub rfl rfl rfl rfl) (r_bin rfl (r_bin rfl rfl rfl (b_fdiv (by decide) (by decide +kernel))) (r_blt rfl rfl (m_cons (r_sub rfl rfl rfl rfl) m_nil) rfl) (b_mod (by decide))) ((congrArg (idxE _) ht).trans rfl)⟩
  | 6, _ =>
    obtain ⟨t, ht, h⟩ := m3 3 (by decide)
    match t, h with
    | 0, _ => exact ⟨_, Nm.of (by decide +kernel), fun n => r_sub rfl (r_sub rfl rfl rfl rfl) (r_bin rfl (r_bin rfl rfl rfl (b_fdiv (by decide) (by decide +kernel))) (r_blt rfl rfl (m_cons (r_sub rfl rfl rfl rfl) m_nil) rfl) (b_mod (by decide))) ((congrArg (idxE _) ht).trans rfl)⟩
    | 1, _ => exact ⟨_, Nm.of (by decide +kernel), fun n => r_sub rfl (r_sub rfl rfl rfl rfl) (r_bin rfl (r_bin rfl rfl rfl (b_fdiv (by decide) (by decide +kernel))) (r_blt rfl rfl (m_cons (r_sub rfl rfl rfl rfl) m_nil) rfl) (b_mod (by decide))) ((congrArg (idxE _) ht).trans rfl)⟩
    | 2, _ => exact ⟨_, Nm.of (by decide +kernel), fun n => r_sub rfl (r_sub rfl rfl rfl rfl) (r_bin rfl (r_bin rfl rfl rfl (b_fdiv (by decide) (by decide +kernel))) (r_blt rfl rfl (m_cons (r_sub rfl rfl rfl rfl) m_nil) rfl) (b_mod (by decide))) ((congrArg (idxE _) ht).trans rfl)⟩
end Mine
end
section
namespace Mine
open PySem

noncomputable def tens : Int := 1000000000000000000
noncomputable def vote1 (f x : Int) : Int := if (f.fdiv 21).fmod 2 = 1 then (1 + x.fmod 12) * tens + (x.fdiv 12).fmod 3 else 1 + x.fmod 12
noncomputable def vote (f : Int) (k : Nat) (x : Int) (p : Nat) : Int := if k = 6 then vote1 f x * 97 + gt0 [1, 5, 11, 20, 33] p else vote1 f x
noncomputable def nums (ns : List Int) (r : Int) : List Int := (ns.take 5).drop 3 ++ [r, r.fdiv 12 + 4, r.fdiv 144 + 1]
noncomputable def votesN (f : Int) (k : Nat) (L : List Int) (i : Nat) : List Int := (List.range i).map fun p => vote f k (gt0 L p) p

section rules
variable {n : Nat} {C : Cx} {sc : Scope} {ρ ρ' : Rho}
noncomputable def enumL (L : List Int) : List PV := (L.map PV.int).zipIdx.map fun (v, (i : Nat)) => PV.tup [.int i, v]
theorem i_enum {t a : PySem.Expr} {p p' : Pos} {L : List Int} (hg : (isG C.G sc (S "enumerate") && isIt (S "enumerate") && [a].all plainArg) = true) (hh : (!C.hd && isTup t) = true) (h : evE n C sc ρ a = .ok (intL L)) :
    evI (n + 1) C sc ρ t (.Call (.Name (S "enumerate") p) [a] [] p') = .ok (enumL L) := by
  show (if isG C.G sc (S "enumerate") && isIt (S "enumerate") && [a].all plainArg then (mapR (evE n C sc ρ) [a]).bind _ else _) = _
  rw [if_pos hg, m_cons h m_nil]
  show ofO (bif (!C.hd && isTup t) then some (enumL L) else none) = _
  rw [hh]; rfl
theorem enumL_length {L : List Int} : (enumL L).length = L.length := by simp [enumL]
theorem enumL_at {L : List Int} {i : Nat} (hi : i < (enumL L).length) : (enumL L)[i] = .tup [.int i, .int (gt0 L i)] := by
  have hi' : i < L.length := by rw [← enumL_length]; exact hi
  simp [enumL, gt0, List.getD_eq_getElem?_getD, List.getElem?_eq_getElem hi']
theorem r_list3 {a b c : PySem.Expr} {p : Pos} {x y z : Int} (h1 : evE n C sc ρ a = .ok (.int x)) (h2 : evE n C sc ρ b = .ok (.int y)) (h3 : evE n C sc ρ c = .ok (.int z)) : evE (n + 1) C sc ρ (.List [a, b, c] p) = .ok (intL [x, y, z]) := by
  show (mapR (evE n C sc ρ) [a, b, c]).bind _ = _
  rw [m_cons h1 (m_cons h2 (m_cons h3 m_nil))]; rfl
theorem r_list2 {a b : PySem.Expr} {p : Pos} {x y : Int} (h1 : evE n C sc ρ a = .ok (.int x)) (h2 : evE n C sc ρ b = .ok (.int y)) : evE (n + 1) C sc ρ (.List [a, b] p) = .ok (intL [x, y]) := by
  show (mapR (evE n C sc ρ) [a, b]).bind _ = _
  rw [m_cons h1 (m_cons h2 m_nil)]; rfl
theorem r_append {x m : Str} {p apos pos p' : Pos} {e : PySem.Expr} {L : List Int} {b : Int} (hm : m = Str.ofString "append" ∧ (apos.endLine == pos.line) = true ∧ plainArg e = true) (ho : ownE sc ρ x = .ok (intL L, true)) (hl : L.length ≤ szLine) (he : evE n C sc ρ e = .ok (.int b))
    (hst : storeN sc x (intL (L ++ [b]), true) ρ = .ok ρ') : ex (n + 1) C sc ρ (.Expr (.Call (.Attribute (.Name x p) m apos) [e] [] pos) p') = .ok (.next, ρ') := by
  show (if m = Str.ofString "append" ∧ (apos.endLine == pos.line) = true ∧ plainArg e = true then (ownE sc ρ x).bind fun p => (listG p).bind fun xs => (evE n C sc ρ e).bind fun b => if b.scalar = true then (storeN sc x (.list (xs ++ [b]), true) ρ).bind fun ρ' => Res.ok (MFlow.next, ρ') else .stuck
        else .stuck) = _
  rw [if_pos hm, ho]
  show (listG (intL L, true)).bind _ = _
  have : listG (intL L, true) = .ok (L.map .int) := by
    show ofO (if (L.map PV.int).length ≤ szLine then _ else _) = _
    rw [List.length_map, if_pos hl]; rfl
  rw [this]
  show (evE n C sc ρ e).bind _ = _
  rw [he]
  show (storeN sc x (.list (L.map PV.int ++ [PV.int b]), true) ρ).bind _ = _
  rw [show L.map PV.int ++ [PV.int b] = (L ++ [b]).map PV.int by rw [List.map_append]; rfl]
  show (storeN sc x (intL (L ++ [b]), true) ρ).bind _ = _
  rw [hst]; rfl
end rules

noncomputable def lawFv (ns HD : List Int) (f : Int) (k : Nat) (nm : Str) (r : Int) (vs : List Int) : Rho := lawF0 ns HD f k ++ [(S "name", .str nm, false), (S "rest", .int r, false), (S "votes", intL vs, true)]
noncomputable def lawLoop1 : List Stmt := match lawFD.body.drop 6 with
  | .For _ _ b _ _ :: _ => b
  | _ => []
theorem mod_bd (x : Int) (m : Int) (h : 0 < m) : 0 ≤ x.fmod m ∧ x.fmod m < m := ⟨Int.fmod_nonneg_of_pos x h, Int.fmod_lt_of_pos x h⟩

theorem law_turn1 (n : Nat) {ns HD : List Int} {f : Int} {k : Nat} {nm : Str} {r : Int} {vs : List Int} {p : Nat} {x : Int} {tl : Rho} (hp : p < 5) (hv : vs.length ≤ 1000)
    (ht : tl = [(S "place", .int (p : Int), false), (S "number", .int x, false)] ∨ ∃ o, tl = [(S "place", .int (p : Int), false), (S "number", .int x, false), (S "one", .int o, false)]) :
    exs (n + 60) ⟨G1, false, false⟩ lawFD.scope (lawFv ns HD f k nm r vs ++ tl) lawLoop1 = .ok (.next, lawFv ns HD f k nm r (vs ++ [vote f k x p]) ++ [(S "place", .int (p : Int), false), (S "number", .int x, false), (S "one", .int (vote f k x p), false)]) := by
  have a12 := mod_bd x 12 (by decide)
  have b3 := mod_bd (x.fdiv 12) 3 (by decide)
  have LB : 10000000000000000000000 < Big := by decide +kernel
  refine r_next (ρ' := lawFv ns HD f k nm r vs ++ [(S "place", .int (p : Int), false), (S "number", .int x, false), (S "one", .int (1 + x.fmod 12), false)]) ?_ ?_
  · rcases ht with rfl | ⟨o, rfl⟩
    · exact r_assign (r_bin rfl rfl (r_bin rfl rfl rfl (b_mod (by decide))) rfl) rfl
    · exact r_assign (r_bin rfl rfl (r_bin rfl rfl rfl (b_mod (by decide))) rfl) rfl
  refine r_next (ρ' := lawFv ns HD f k nm r vs ++ [(S "place", .int (p : Int), false), (S "number", .int x, false), (S "one", .int (vote1 f x), false)]) ?_ ?_
  · refine r_if (c := decide ((f.fdiv 21).fmod 2 = 1)) (r_tcmp rfl (r_bin rfl (r_bin rfl rfl rfl (b_fdiv (by decide) (by decide))) rfl (b_mod (by decide))) rfl (c_eq _ _)) ?_
    unfold vote1
    by_cases h : (f.fdiv 21).fmod 2 = 1
    · rw [decide_eq_true h, if_pos rfl, if_pos h]
      exact r_next (r_assign (r_bin rfl (r_bin rfl rfl rfl (b_mul (mulOk_of (by (clear hp hv ht b3 h; omega)) (by decide)))) (r_bin rfl (r_bin rfl rfl rfl (b_fdiv (by decide) (by decide))) rfl (b_mod (by decide))) rfl) rfl) r_nil
    · rw [decide_eq_false h, if_neg Bool.false_ne_true, if_neg h]
      exact r_nil
  refine r_next (ρ' := lawFv ns HD f k nm r vs ++ [(S "place", .int (p : Int), false), (S "number", .int x, false), (S "one", .int (vote f k x p), false)]) ?_ ?_
  · refine r_if (c := decide ((k : Int) = 6)) (r_tcmp rfl rfl rfl (c_eq _ _)) ?_
    unfold vote
    by_cases h : k = 6
    · rw [decide_eq_true (by lia), if_pos rfl, if_pos h]
      have hb : (vote1 f x).natAbs < Big := by
        unfold vote1 tens; split <;> omega
      exact r_next (r_assign (r_bin rfl (r_bin rfl rfl rfl (b_mul (mulOk_of hb (by decide)))) (r_sub (xs := [1, 5, 11, 20, 33].map PV.int) rfl rfl rfl (idx_nat (l := [1, 5, 11, 20, 33]) hp (by decide))) rfl) rfl) r_nil
    · rw [decide_eq_false (by lia), if_neg Bool.false_ne_true, if_neg h]
      exact r_nil
  exact r_next (r_append ⟨rfl, rfl, rfl⟩ rfl hv rfl rfl) r_nil
end Mine
end
section
namespace Mine
open PySem

/-- what the law's head makes -/
structure Facts (k : Nat) (nm : Str) (V : List Int) (H i j : Nat) : Prop where
  nk : Nm nm k
  k6 : k ≤ 6
  m3 : 3 ≤ V.length
  m5 : V.length ≤ 5
  vb : ∀ p, p ∈ V → 0 < p ∧ p < 10000000000000000000000
  h0 : 0 < H
  h12 : H ≤ 12
  hm : 3 ≤ k → k < 6 → V.length ≤ H
  im : i < V.length
  jm : j < V.length
  ij : i ≠ j

theorem r_cmp2 {n : Nat} {C : Cx} {sc : Scope} {ρ : Rho} {op op2 : CmpOp} {l r r2 : PySem.Expr} {p : Pos} {a b b2 : PV} {c d : Bool} (hs : (noSet r && noSet r2) = true) (h1 : evE n C sc ρ l = .ok a) (h2 : evE n C sc ρ r = .ok b) (h3 : cmpE op a b = .ok c) (h4 : evE n C sc ρ r2 = .ok b2) (h5 : cmpE op2 b b2 = .ok d) :
    evT (n + 1) C sc ρ (.Compare l [op, op2] [r, r2] p) = .ok (c && d) := by
  show (if noSet r && noSet r2 then (evE n C sc ρ l).bind fun a => (evE n C sc ρ r).bind fun b => (cmpE op a b).bind fun c =>
        if c then (evE n C sc ρ r2).bind fun b2 => cmpE op2 b b2 else .ok false
        else .stuck) = _
  rw [if_pos hs, h1]
  show (evE n C sc ρ r).bind _ = _
  rw [h2]
  show (cmpE op a b).bind _ = _
  rw [h3]
  show (if c = true then (evE n C sc ρ r2).bind fun b2 => cmpE op2 b b2 else Res.ok false) = _
  cases c with
  | false => rfl
  | true => rw [if_pos rfl, h4]; exact h5

noncomputable def lawF1 (ns HD : List Int) (f : Int) (k : Nat) (nm : Str) (r : Int) (V : List Int) (pl nb on : Int) (H i j : Nat) : Rho :=
  lawFv ns HD f k nm r V ++ [(S "place", .int pl, false), (S "number", .int nb, false), (S "one", .int on, false), (S "size", .int (V.length : Int), false), (S "house", .int (H : Int), false), (S "i", .int (i : Int), false), (S "j", .int (j : Int), false)]

theorem votesN_length {f : Int} {k : Nat} {L : List Int} {i : Nat} : (votesN f k L i).length = i := by unfold votesN; rw [List.length_map, List.length_range]
theorem law_head (ns : List Int) (hl : ns.length ≤ 63) {res : Res PV} (hK : ∀ n HD f k nm r V pl nb on H i j, Facts k nm V H i j → Out (exs (n + 300) ⟨G1, false, false⟩ lawFD.scope (lawF1 ns HD f k nm r V pl nb on H i j) (lawFD.body.drop 11)) = res) (n : Nat) :
    callF (n + 400) ⟨G1, false, false⟩ lawFD [intL ns] = res := by
  refine c_call (by decide +kernel) rfl ?_
  have hadd : (ns ++ [0, 0, 0]).length = ns.length + 3 := by rw [List.length_append]; rfl
  refine o_next (r_assign (r_slice (L := ns ++ [0, 0, 0]) (i := 0) (j := 3) (r_bin rfl rfl (r_list3 rfl rfl rfl) (b_addL (by rw [show [(0 : Int), 0, 0].length = 3 from rfl]; lia))) (by rw [hadd]; lia) rfl rfl) (a_ints' rfl)) ?_
  have hHD : (((ns ++ [0, 0, 0]).take 3).drop 0).length = 3 := by
    rw [List.drop_zero, List.length_take, hadd]; rfl
  generalize ((ns ++ [0, 0, 0]).take 3).drop 0 = HD at *
  refine o_next (r_assign (v := .int (gt0 HD 0)) (r_sub rfl rfl rfl (idx_nat (i := 0) (by lia) (by lia))) rfl) ?_
  generalize gt0 HD 0 = f
  obtain ⟨k, hk, hk7⟩ := fmod_nat f 7 (by decide)
  refine o_next (r_assign (v := .int (k : Int)) ((r_bin rfl rfl rfl (b_mod (by decide))).trans (by rw [show f.fmod 7 = (k : Int) from hk])) rfl) ?_
  obtain ⟨nm, N, hn⟩ := name_ev k (by exact Nat.le_of_lt_succ hk7) f ns HD
  refine o_next (r_assign (hn _) rfl) ?_
  have LB : 1000 < Big := by decide +kernel
  refine o_next (r_assign (v := .int (f.fdiv 42)) (r_bin rfl rfl rfl (b_fdiv (by decide) (by decide))) rfl) ?_
  generalize f.fdiv 42 = r
  refine o_next (ρ' := lawFv ns HD f k nm r []) (r_assign (v := intL []) rfl rfl) ?_
  have hNl : (nums ns r).length ≤ 5 ∧ 3 ≤ (nums ns r).length := by
    unfold nums
    rw [List.length_append, List.length_drop, List.length_take, show [r, r.fdiv 12 + 4, r.fdiv 144 + 1].length = 3 from rfl]
    clear hl hK hadd hHD hk hk7 N hn LB; omega
  refine o_for_inv (items := enumL (nums ns r)) (fun i ρ => ∃ tl, ρ = lawFv ns HD f k nm r (votesN f k (nums ns r) i) ++ tl ∧ ((i = 0 ∧ tl = []) ∨ ∃ a b c, tl = [(S "place", .int a, false), (S "number", .int b, false), (S "one", .int c, false)])) ?_ (by rw [enumL_length]; exact Nat.le_trans hNl.1 (by decide)) ⟨[], rfl, .inl ⟨rfl, rfl⟩⟩ ?_ ?_
  · exact i_enum rfl rfl (r_bin rfl (r_slice (i := 3) (j := 5) (L := ns) rfl (by (clear hK hHD hk hk7 N hn LB hNl; lia)) rfl rfl) (r_list3 rfl (r_bin rfl (r_bin rfl rfl rfl (b_fdiv (by decide) (by decide))) rfl rfl) (r_bin rfl (r_bin rfl rfl rfl (b_fdiv (by decide) (by decide))) rfl rfl)) (b_addL (by
      have := hNl.1
      unfold nums at this
      rw [List.length_append] at this
      clear hl hK hadd hHD hk hk7 N hn LB hNl; omega)))
  · intro i hi ρ ⟨tl, e, ht⟩
    rw [enumL_at hi]
    rw [enumL_length] at hi
    subst e
    have hv : (votesN f k (nums ns r) i).length ≤ 1000 := by rw [votesN_length]; (clear hl hK hadd hHD hk hk7 N hn LB ht; lia)
    have e2 : votesN f k (nums ns r) i ++ [vote f k (gt0 (nums ns r) i) i] = votesN f k (nums ns r) (i + 1) := by
      unfold votesN
      rw [List.range_succ, List.map_append]; rfl
    have := fun q tl ht => law_turn1 (ns := ns) (HD := HD) (f := f) (k := k) (nm := nm) (r := r) q (vs := votesN f k (nums ns r) i) (p := i) (x := gt0 (nums ns r) i) (tl := tl) (by exact Nat.lt_of_lt_of_le hi hNl.1) hv ht
    rw [e2] at this
    rcases ht with ⟨_, rfl⟩ | ⟨a, b, c, rfl⟩
    · exact ⟨_, rfl, _, this _ _ (.inl rfl), _, rfl, .inr ⟨_, _, _, rfl⟩⟩
    · exact ⟨_, rfl, _, this _ _ (.inr ⟨_, rfl⟩), _, rfl, .inr ⟨_, _, _, rfl⟩⟩
  · intro ρ' ⟨tl, e, ht⟩
    subst e
    rw [enumL_length] at ht ⊢
    rcases ht with ⟨h0, _⟩ | ⟨pl, nb, on, rfl⟩
    · clear hl hK hadd hHD hk hk7 N hn LB; lia
    have hVl : (votesN f k (nums ns r) (nums ns r).length).length = (nums ns r).length := votesN_length
    have hVb : ∀ p, p ∈ votesN f k (nums ns r) (nums ns r).length → 0 < p ∧ p < 10000000000000000000000 := by
      intro p hp
      unfold votesN at hp
      obtain ⟨i, hi, rfl⟩ := List.mem_map.mp hp
      have hi := List.mem_range.mp hi
      have a12 := mod_bd (gt0 (nums ns r) i) 12 (by decide)
      have b3 := mod_bd ((gt0 (nums ns r) i).fdiv 12) 3 (by decide)
      have h1 : 0 < vote1 f (gt0 (nums ns r) i) ∧ vote1 f (gt0 (nums ns r) i) < 20000000000000000000 := by
        unfold vote1 tens; split <;> omega
      have h5 : 0 ≤ gt0 [1, 5, 11, 20, 33] i ∧ gt0 [1, 5, 11, 20, 33] i < 34 := by
        have : i < 5 := by exact Nat.lt_of_lt_of_le hi hNl.1
        match i, this with
        | 0, _ => decide
        | 1, _ => decide
        | 2, _ => decide
        | 3, _ => decide
        | 4, _ => decide
      unfold vote
      split <;> omega
    rw [← hVl] at hNl
    generalize votesN f k (nums ns r) (nums ns r).length = V at *
    refine o_next (r_assign (r_lenN rfl rfl rfl (by (clear hl hK hadd hHD hk hk7 N hn LB hVb; lia))) rfl) ?_
    obtain ⟨t, ht, ht8⟩ := fmod_nat (gt0 HD 1 + 3) 8 (by decide)
    obtain ⟨H, hH⟩ : ∃ H : Nat, H = (if 2 < k ∧ k < 6 then V.length else 1) + t := ⟨_, rfl⟩
    have hhouse : (if ((2 : Int) < (k : Int)) ∧ ((k : Int) < 6) then (V.length : Int) else 1) + (gt0 HD 1 + 3).fmod 8 = (H : Int) := by
      rw [show (gt0 HD 1 + 3).fmod 8 = (t : Int) from ht, hH]
      by_cases h : 2 < k ∧ k < 6
      · rw [if_pos h, if_pos (by (clear hl hK hadd hHD hk7 N hn LB hNl hVl hVb ht ht8 hH; omega))]; rfl
      · rw [if_neg h, if_neg (by (clear hl hK hadd hHD hk7 N hn LB hNl hVl hVb ht ht8 hH; omega))]; rfl
    refine o_next (r_assign (v := .int (H : Int)) ((r_bin rfl (r_ife01 (P := (2 : Int) < (k : Int) ∧ (k : Int) < 6) ((r_cmp2 rfl rfl rfl rfl rfl rfl).trans (by rw [← Bool.decide_and])) rfl rfl) (r_bin rfl (r_bin rfl (r_sub rfl rfl rfl (idx_nat (i := 1) (by (clear hl hK hadd hk hk7 N hn LB hNl hVl hVb ht ht8 hH hhouse; lia)) (by (clear hl hK hadd hk hk7 N hn LB hNl hVl hVb ht ht8 hH hhouse; lia)))) rfl rfl) rfl (b_mod (by decide))) rfl).trans (by rw [hhouse])) rfl) ?_
    obtain ⟨i, hi, him⟩ := fmod_nat (gt0 HD 2) V.length (by exact Nat.zero_lt_of_lt hNl.2)
    refine o_next (r_assign (v := .int (i : Int)) ((r_bin rfl (r_sub rfl rfl rfl (idx_nat (i := 2) (by (clear hl hK hadd hk hk7 N hn LB hNl hVl hVb ht ht8 hH hhouse hi him; lia)) (by (clear hl hK hadd hk hk7 N hn LB hNl hVl hVb ht ht8 hH hhouse hi him; lia)))) rfl (b_mod (by (clear hl hK hadd hHD hk hk7 N hn LB hVb ht ht8 hH hhouse hi him; lia)))).trans (by rw [hi])) rfl) ?_
    obtain ⟨q, hq, hqm⟩ := fmod_nat ((gt0 HD 2).fdiv V.length) (V.length - 1) (by (clear hl hK hadd hHD hk hk7 N hn LB hVb ht ht8 hH hhouse hi him; lia))
    rw [show ((V.length - 1 : Nat) : Int) = (V.length : Int) - 1 by (clear hl hK hadd hHD hk hk7 N hn LB hVb ht ht8 hH hhouse hi him hq hqm; lia)] at hq
    obtain ⟨j, hj, hjm⟩ := fmod_nat ((i : Int) + 1 + (q : Int)) V.length (by exact Nat.zero_lt_of_lt him)
    refine o_next (r_assign (v := .int (j : Int)) ((r_bin rfl (r_bin rfl (r_bin rfl rfl rfl rfl) (r_bin rfl (r_bin rfl (r_sub rfl rfl rfl (idx_nat (i := 2) (by (clear hl hK hadd hk hk7 N hn LB hNl hVl hVb ht ht8 hH hhouse hi him hq hqm hj hjm; lia)) (by (clear hl hK hadd hk hk7 N hn LB hNl hVl hVb ht ht8 hH hhouse hi him hq hqm hj hjm; lia)))) rfl (b_fdiv (by (clear hl hK hadd hHD hk hk7 N hn LB hVb ht ht8 hH hhouse hi him hq hqm hj hjm; lia)) (by (clear hl hK hadd hHD hk hk7 N hn hVl hVb ht ht8 hH hhouse hi him hq hqm hj hjm; omega)))) (r_bin rfl rfl rfl rfl) (b_mod (by (clear hl hK hadd hHD hk hk7 N hn LB hVb ht ht8 hH hhouse hi him hq hqm hj hjm; lia)))) rfl) rfl (b_mod (by (clear hl hK hadd hHD hk hk7 N hn LB hVb ht ht8 hH hhouse hi him hq hqm hj hjm; lia)))).trans (by rw [hq, hj])) rfl) ?_
    refine hK _ HD f k nm r V pl nb on H i j ⟨N, by exact Nat.le_of_lt_succ hk7, hNl.2, hNl.1, hVb, ?_, ?_, ?_, him, hjm, ?_⟩
    · rw [hH]; split <;> omega
    · rw [hH]; split <;> omega
    · intro a b; rw [hH, if_pos ⟨by assumption, b⟩]; (exact Nat.le_add_right _ _)
    · intro e
      have h1 := Int.fmod_eq_emod_of_nonneg ((i : Int) + 1 + (q : Int)) (show (0 : Int) ≤ (V.length : Int) by exact Int.natCast_nonneg _)
      rw [h1] at hj
      have : ((i : Int) + 1 + q) % (V.length : Int) = ((i + 1 + q : Nat) % V.length : Nat) := by
        rw [Int.natCast_emod]; rfl
      rw [this] at hj
      have hj' : (i + 1 + q) % V.length = j := by (clear hl hK hadd hHD hk hk7 N hn LB hNl hVl hVb ht ht8 hH hhouse hi him hq hqm hjm e h1 this; lia)
      have hd := Nat.div_add_mod (i + 1 + q) V.length
      rw [hj'] at hd
      have : V.length * ((i + 1 + q) / V.length) = q + 1 := by (clear hl hK hadd hHD hk hk7 N hn LB hNl hVl hVb ht ht8 hH hhouse hi him hq hqm hj hjm h1 this hj'; lia)
      generalize (i + 1 + q) / V.length = w at this
      cases w with
      | zero => clear hl hK hadd hHD hk hk7 N hn LB hNl hVl hVb ht ht8 hH hhouse hi him hq hqm hj hjm h1 hj'; lia
      | succ w =>
        rw [Nat.mul_succ] at this
        clear hl hK hadd hHD hk hk7 N hn LB hVb ht ht8 hH hhouse hi him hq hj hjm h1 hj'; lia
end Mine
end
section
namespace Mine
open PySem

theorem eqvAll_int : ∀ l : List Int, PyData.eqvAll (PV.toPyL (l.map .int)) (PV.toPyL (l.map .int)) = true
  | [] => rfl
  | a :: r => by
    show (a == a && PyData.eqvAll (PV.toPyL (r.map .int)) (PV.toPyL (r.map .int))) = true
    rw [eqvAll_int r, beq_self_eq_true]; rfl
theorem num_intL (l : List Int) : (intL l).num2 = true := by
  show (l.map PV.int).all PV.num1 = true
  rw [List.all_map]; exact List.all_eq_true.mpr fun _ _ => rfl
theorem beqL (l : List Int) : PV.beq (intL l) (intL l) = .ok true := by
  show ofO (if (intL l).num2 && (intL l).num2 then some (PyData.eqvAll (PV.toPyL (l.map .int)) (PV.toPyL (l.map .int))) else none) = _
  rw [num_intL, eqvAll_int]; rfl
theorem c_neL (l : List Int) : cmpE .NotEq (intL l) (intL l) = .ok false := by
  show ofO ((beqO (intL l) (intL l)).map (!·)) = _
  rw [ofO_ok (beqL l)]; rfl
theorem c_neI (a b : Int) : cmpE .NotEq (.int a) (.int b) = .ok (!decide (a = b)) := by
  show ofO ((beqO (.int a) (.int b)).map (!·)) = _
  rw [ofO_ok (eqv_int a b)]; rfl
theorem c_neB (a b : Bool) : cmpE .NotEq (.bool a) (.bool b) = .ok (!(a == b)) := by
  cases a <;> cases b <;> rfl

section rules
variable {n : Nat} {C : Cx} {sc : Scope} {ρ ρ' : Rho}
theorem r_or3 {x y z : PySem.Expr} {p : Pos} {b : Bool} (h1 : evT (n + 4) C sc ρ x = .ok false) (h2 : evT (n + 3) C sc ρ y = .ok false) (h3 : evT (n + 2) C sc ρ z = .ok b) : evT (n + 6) C sc ρ (.BoolOp .Or [x, y, z] p) = .ok b := by
  show (evT (n + 4) C sc ρ x).bind _ = _
  rw [h1]
  show (evT (n + 3) C sc ρ y).bind _ = _
  rw [h2]
  show (evT (n + 2) C sc ρ z).bind _ = _
  rw [h3]
  cases b <;> rfl
theorem r_ifeB {t a b : PySem.Expr} {p : Pos} {c : Bool} {x y : Int} (h : evT n C sc ρ t = .ok c) (h1 : evE n C sc ρ a = .ok (.int x)) (h2 : evE n C sc ρ b = .ok (.int y)) : evE (n + 1) C sc ρ (.IfExp t a b p) = .ok (.int (if c then x else y)) := by
  rw [r_ife h (fun _ => h1) (fun _ => h2)]
  cases c <;> rfl
theorem r_eand {x y : PySem.Expr} {p : Pos} {v : PV} (h1 : evE n C sc ρ x = .ok (.bool true)) (h2 : evE n C sc ρ y = .ok v) : evE (n + 1) C sc ρ (.BoolOp .And [x, y] p) = .ok v := by
  show (evE n C sc ρ x).bind _ = _
  rw [h1]; exact h2
end rules
theorem b_min (a b : Int) : builtinE false (S "min") [.int a, .int b] = .ok (.int (if b < a then b else a)) := rfl
theorem b_max (a b : Int) : builtinE false (S "max") [.int a, .int b] = .ok (.int (if b > a then b else a)) := rfl

noncomputable def lawB (ns HD : List Int) (f : Int) (k : Nat) (nm : Str) (r : Int) (V : List Int) (pl nb on : Int) (H i j : Nat) (X : List Int) (t : Bool) (M hd : List Int) (o : Bool) (tl : Rho) : Rho :=
  (S "script", intL ns, false) :: (S "head", intL HD, false) :: (S "first", .int f, false) :: (S "kind", .int k, false) :: (S "name", .str nm, false) :: (S "rest", .int r, false) :: (S "votes", intL V, false) ::
  (S "place", .int pl, false) :: (S "number", .int nb, false) :: (S "one", .int on, false) :: (S "size", .int (V.length : Int), false) :: (S "house", .int (H : Int), false) :: (S "i", .int (i : Int), false) :: (S "j", .int (j : Int), false) ::
  (S "old", intL X, false) :: (S "tied", .bool t, false) :: (S "mates", intL M, o) :: (S "had", intL hd, o) :: tl
noncomputable def rests (V : List Int) (H : Nat) : List Int := sortI (V.map fun p : Int => (p * (H : Int)).fmod V.sum)
noncomputable def Tie6 (V : List Int) (H : Nat) : Prop := ∃ s : Nat, (rests V H).sum.fdiv V.sum = s ∧ 0 < s ∧ s < V.length ∧ gt0 (rests V H) (V.length - s) = gt0 (rests V H) (V.length - s - 1)
noncomputable def pick (V : List Int) (i j : Nat) : List Int := [gt0 V (min i j), gt0 V (max i j)]

variable {ns HD : List Int} {f : Int} {k : Nat} {nm : Str} {r : Int} {V : List Int} {pl nb on : Int} {H i j : Nat} {X : List Int} {T : Bool}

theorem law_tie6 (n : Nat) (F : Facts k nm V H i j) (hs : V.sum ≠ 0 ∧ V.sum.natAbs < Lim) (h6 : Tie6 V H) :
    Out (exs (n + 190) ⟨G1, false, false⟩ lawFD.scope (freeze (lawF1 ns HD f k nm r V pl nb on H i j) ++ [(S "old", intL X, false), (S "tied", .bool T, false)]) (match lawFD.body.drop 12 with | .If _ b _ _ :: _ => b | _ => [])) = .ok (.bool true) := by
  have LB : 10000000000000000000000 * 1000 < Big := by decide +kernel
  have LL : Lim < Big := by decide +kernel
  have m5 := F.m5
  have hm63 : V.length ≤ sortMax := Nat.le_trans F.m5 (by decide)
  refine o_next (r_assign (v := intL (rests V H)) (r_blt rfl rfl (m_cons (r_compI (f := fun p : Int => (p * H).fmod V.sum) rfl (i_names (g := PV.int) rfl) (Nat.le_trans F.m5 (by decide)) fun p hp => ⟨_, rfl, r_bin rfl (r_bin rfl rfl rfl (b_mul (mulOk_of (by have := F.vb p hp; (clear F hs h6 LL m5 hm63 hp; omega)) (by have := F.h12; (clear F hs h6 LL m5 hm63 hp; omega))))) (r_blt rfl rfl (m_cons rfl m_nil) (b_sum _ _)) (b_mod hs.1)⟩) m_nil) (b_sorted _ _ (by rw [List.length_map]; exact hm63))) (a_ints' rfl)) ?_
  obtain ⟨s, h1, h2, h3, h4⟩ := h6
  have hrl : (rests V H).length = V.length := by unfold rests; rw [sortI_length, List.length_map]
  generalize rests V H = RS at *
  refine o_next (r_assign (v := .int (s : Int)) ((r_bin rfl (r_blt rfl rfl (m_cons rfl m_nil) (b_sum _ _)) (r_blt rfl rfl (m_cons rfl m_nil) (b_sum _ _)) (b_fdiv hs.1 (by exact Nat.lt_trans hs.2 LL))).trans (by rw [h1])) rfl) ?_
  have ix : ∀ (q : Nat) (w : Int), q < RS.length → w < 0 → w + RS.length = q → idxE (RS.map PV.int) w = .ok (.int (gt0 RS q)) := by
    intro q w hq hw hq'
    refine idx_nz (i := q) (by rw [List.length_map, hrl]; exact Nat.le_trans m5 (by decide)) (by rw [List.length_map, if_pos hw]; exact hq') ?_
    rw [List.getElem?_map, List.getElem?_eq_getElem hq]
    unfold gt0
    rw [List.getD_eq_getElem?_getD, List.getElem?_eq_getElem hq]; rfl
  have i1 := ix (V.length - s) (-(s : Int)) (by (clear F hs LB LL m5 hm63 h1 h4 ix; omega)) (by lia) (by lia)
  have i2 := ix (V.length - s - 1) (-(s : Int) - 1) (by (clear F hs LB LL m5 hm63 h2 h1 h4 ix i1; omega)) (by (clear F hs LB LL m5 hm63 h2 h3 h1 h4 hrl ix i1; lia)) (by lia)
  refine o_return (r_eand ((r_cmp rfl rfl rfl rfl).trans (congrArg (fun b => Res.ok (PV.bool b)) (decide_eq_true (show (s : Int) > 0 by lia)))) (r_cmp rfl (r_sub rfl rfl (r_usub rfl) i1) (r_sub rfl rfl (r_bin rfl (r_usub rfl) rfl rfl) i2) ?_))
  rw [c_eq, h4, decide_eq_true rfl]

theorem law_mid (n : Nat) (F : Facts k nm V H i j) (c : Cmp nm V H X T) (hs : V.sum ≠ 0 ∧ V.sum.natAbs < Lim) (h6 : k = 6 → T = true → Tie6 V H)
    (hne : ¬ (k = 6 ∧ T = true) → X.length = V.length ∧ X.sum = H ∧ ∃ l b : Nat, ∀ n, callF (n + 90) ⟨G1, false, false⟩ weighFD [.int k, intL V, intL X, .int H] = .ok (.tup [.int (if T then 0 else -1), .int l, .int b]))
    (hr : ¬ (k = 6 ∧ T = true) → ∀ n, Out (exs (n + 280) ⟨G1, false, false⟩ lawFD.scope (lawB ns HD f k nm r V pl nb on H i j X T (pick V i j) (pick X i j) true []) (lawFD.body.drop 17)) = .ok (.bool true)) :
    Out (exs (n + 300) ⟨G1, false, false⟩ lawFD.scope (lawF1 ns HD f k nm r V pl nb on H i j) (lawFD.body.drop 11)) = .ok (.bool true) := by
  refine o_next (ρ' := freeze (lawF1 ns HD f k nm r V pl nb on H i j) ++ [(S "old", intL X, false), (S "tied", .bool T, false)]) (r_assignT rfl (r_fun rfl rfl rfl rfl (m_cons rfl (m_cons rfl (m_cons rfl m_nil))) (told_ev c _)) rfl) ?_
  have tst : ∀ m, evT (m + 20) ⟨G1, false, false⟩ lawFD.scope (freeze (lawF1 ns HD f k nm r V pl nb on H i j) ++ [(S "old", intL X, false), (S "tied", .bool T, false)]) (match lawFD.body.drop 12 with | .If t _ _ _ :: _ => t | _ => default) = .ok (decide ((k : Int) = 6) && T) := fun m => r_and (r_tcmp rfl rfl rfl (c_eq _ _)) (r_tname rfl)
  by_cases hc : k = 6 ∧ T = true
  · refine o_ifT ((tst _).trans (by rw [hc.2, Bool.and_true, decide_eq_true (by (clear F c hs h6 hne hr tst; lia))])) (law_tie6 (n + 107) F hs (h6 hc.1 hc.2))
  have hcf : (decide ((k : Int) = 6) && T) = false := by
    cases T with
    | false => rw [Bool.and_false]
    | true => rw [Bool.and_true]; exact decide_eq_false fun e => hc ⟨by (clear F hs c h6 hne hr tst hc; lia), rfl⟩
  refine o_next (r_ifF ((tst _).trans (by rw [hcf])) r_nil) ?_
  obtain ⟨hX, hS, hw⟩ := hne hc
  have m5 := F.m5
  have hV : V.length ≤ 1000 := by (clear F c hs h6 hne hr tst hc hcf hS hw; lia)
  refine o_next (r_ifF (r_or3 ((r_tcmp rfl (r_lenN rfl rfl rfl (by (clear F c hs h6 hne hr tst hc hcf hS hw hV; lia))) rfl (c_neI _ _)).trans (congrArg (fun b => Res.ok (!b)) (decide_eq_true (by (clear F c hs h6 hne hr tst hc hcf hS hw m5 hV; lia))))) ((r_tcmp rfl (r_blt rfl rfl (m_cons rfl m_nil) (b_sum _ _)) rfl (c_neI _ _)).trans (congrArg (fun b => Res.ok (!b)) (decide_eq_true hS))) ?_) r_nil) ?_
  · obtain ⟨l, b, hw⟩ := hw
    refine Eq.trans (r_tcmp rfl (r_subT rfl (r_fun rfl rfl rfl rfl (m_cons rfl (m_cons rfl (m_cons rfl (m_cons rfl m_nil)))) (hw _)) rfl rfl) (r_ifeB (c := T) (r_tname rfl) rfl rfl) (c_neI _ _)) (congrArg (fun b => Res.ok (!b)) (decide_eq_true rfl))
  refine o_next (r_ifF (r_tcmp rfl (r_fun rfl rfl rfl rfl (m_cons rfl (m_cons rfl (m_cons rfl m_nil))) (c.c1 _ _)) rfl (c_neL X)) r_nil) ?_
  have mm : ∀ (m : Nat) {x : Str} {L : List Int} {ρ : Rho} {p1 p2 p3 p4 p5 p6 p7 q1 q2 q3 q4 q5 q6 : Pos}, L.length ≤ 1000 → i < L.length → j < L.length → (∀ m p, evE (m + 1) ⟨G1, false, false⟩ lawFD.scope ρ (.Name x p) = .ok (intL L)) → (∀ m p, evE (m + 1) ⟨G1, false, false⟩ lawFD.scope ρ (.Name (S "i") p) = .ok (.int i)) → (∀ m p, evE (m + 1) ⟨G1, false, false⟩ lawFD.scope ρ (.Name (S "j") p) = .ok (.int j)) →
      evE (m + 20) ⟨G1, false, false⟩ lawFD.scope ρ (.List [.Subscript (.Name x p1) (.Call (.Name (S "min") p2) [.Name (S "i") p3, .Name (S "j") p4] [] p5) p6, .Subscript (.Name x p7) (.Call (.Name (S "max") q1) [.Name (S "i") q2, .Name (S "j") q3] [] q4) q5] q6) = .ok (intL (pick L i j)) := by
    intro m x L ρ p1 p2 p3 p4 p5 p6 p7 q1 q2 q3 q4 q5 q6 hL hi hj h1 h2 h3
    have e1 : (if (j : Int) < (i : Int) then (j : Int) else (i : Int)) = ((min i j : Nat) : Int) := by split <;> (clear F c hs h6 hne hr tst hc hcf hX hS hw m5 hV hL hi hj h1 h2 h3; lia)
    have e2 : (if (j : Int) > (i : Int) then (j : Int) else (i : Int)) = ((max i j : Nat) : Int) := by split <;> (clear F c hs h6 hne hr tst hc hcf hX hS hw m5 hV hL hi hj h1 h2 h3 e1; lia)
    exact r_list2 (r_sub rfl (h1 _ _) ((r_blt rfl rfl (m_cons (h2 _ _) (m_cons (h3 _ _) m_nil)) (b_min _ _)).trans (by rw [e1])) (idx_nat (by (clear F c hs h6 hne hr tst hc hcf hX hS hw m5 hV hL h1 h2 h3 e1 e2; lia)) hL)) (r_sub rfl (h1 _ _) ((r_blt rfl rfl (m_cons (h2 _ _) (m_cons (h3 _ _) m_nil)) (b_max _ _)).trans (by rw [e2])) (idx_nat (by (clear F c hs h6 hne hr tst hc hcf hX hS hw m5 hV hL h1 h2 h3 e1 e2; lia)) hL))
  refine o_next (r_assign (mm _ (L := V) hV F.im F.jm (fun _ _ => rfl) (fun _ _ => rfl) (fun _ _ => rfl)) (a_ints rfl)) ?_
  refine o_next (r_assign (mm _ (L := X) (by (clear F c hs h6 hne hr tst hc hcf hS hw hV mm; lia)) (by rw [hX]; exact F.im) (by rw [hX]; exact F.jm) (fun _ _ => rfl) (fun _ _ => rfl) (fun _ _ => rfl)) (a_ints rfl)) ?_
  exact hr hc _
end Mine
end
section
namespace Mine
open PySem

theorem r_compFI {n : Nat} {C : Cx} {sc : Scope} {ρ : Rho} {α : Type} {elt t it : PySem.Expr} {test : PySem.Expr} {scope : Scope} {p : Pos} {L : List α} {g : α → PV} {f : α → Int} {q : α → Bool} (hc : compOK scope sc = true) (hi : evI (n + 1) C sc ρ t it = .ok (L.map g)) (hl : L.length ≤ szLine)
    (h : ∀ a, a ∈ L → ∃ ρ', storeT C.hd scope t (g a) (inner scope ρ) = .ok ρ' ∧ evT n { C with pure := true } (relab scope sc) ρ' test = .ok (q a) ∧ evE (n + 1) { C with pure := true } (relab scope sc) ρ' elt = .ok (.int (f a))) :
    evE (n + 2) C sc ρ (.ListComp elt [⟨t, it, [test], 0⟩] scope p) = .ok (intL ((L.filter q).map f)) := by
  rw [r_compF (f := fun a => .int (f a)) (q := q) hc hi hl (fun a ha => by
    obtain ⟨ρ', h1, h2, h3⟩ := h a ha
    exact ⟨ρ', h1, h2, fun _ => h3⟩), intL, List.map_map]; rfl
theorem enumL_range (L : List Int) : enumL L = (List.range L.length).map fun p : Nat => PV.tup [.int (p : Int), .int (gt0 L p)] := by
  refine List.ext_getElem (by rw [enumL_length, List.length_map, List.length_range]) fun i h1 h2 => ?_
  rw [enumL_at h1, List.getElem_map, List.getElem_range]
theorem i_enumR {n : Nat} {C : Cx} {sc : Scope} {ρ : Rho} {t a : PySem.Expr} {p p' : Pos} {L : List Int} (hg : (isG C.G sc (S "enumerate") && isIt (S "enumerate") && [a].all plainArg) = true) (hh : (!C.hd && isTup t) = true) (h : evE n C sc ρ a = .ok (intL L)) :
    evI (n + 1) C sc ρ t (.Call (.Name (S "enumerate") p) [a] [] p') = .ok ((List.range L.length).map fun p : Nat => PV.tup [.int (p : Int), .int (gt0 L p)]) := by
  rw [i_enum hg hh h, enumL_range]

noncomputable def joinL (V : List Int) (a g : Nat) : List Int := ((List.range V.length).filter fun p : Nat => !decide ((p : Int) = (g : Int))).map fun p : Nat => if decide ((p : Int) = (a : Int)) = true then gt0 V p + gt0 V g else gt0 V p
noncomputable def mv (D : List Int) (l b : Nat) : List Int := (D.set l (gt0 D l - 1)).set b (gt0 (D.set l (gt0 D l - 1)) b + 1)
noncomputable def posA (a g : Nat) : Nat := if g < a then a - 1 else a
noncomputable def sharedOf (hd : List Int) (e : Nat × Nat) (c : Int) : List Int := if c > hd.sum then hd.set e.2 (gt0 hd e.2 + 1) else if c < hd.sum then hd.set (e.1 - 1) (gt0 hd (e.1 - 1) - 1) else hd

/-- the tails of the loop's frame -/
noncomputable def ShT (tl : Rho) : Prop := tl = [] ∨ (∃ e1 e2 e3 e4 e5 e6 e7, tl = [(S "joined", e1), (S "due", e2), (S "turn", e3), (S "last", e4), (S "best", e5), (S "told", e6), (S "count", e7)]) ∨
  (∃ e1 e2 e3 e4 e5 e6 e7 e8, tl = [(S "joined", e1), (S "due", e2), (S "turn", e3), (S "last", e4), (S "best", e5), (S "told", e6), (S "count", e7), (S "shared", e8)])
noncomputable def ShT' (tl : Rho) : Prop := tl = [] ∨ (∃ e6 e7, tl = [(S "told", e6), (S "count", e7)]) ∨ (∃ e6 e7 e8, tl = [(S "told", e6), (S "count", e7), (S "shared", e8)])

variable {ns HD : List Int} {f : Int} {k : Nat} {nm : Str} {r : Int} {V : List Int} {pl nb on : Int} {H i j : Nat} {X M hdl : List Int} {T o : Bool}

noncomputable def lawL (ns HD : List Int) (f : Int) (k : Nat) (nm : Str) (r : Int) (V : List Int) (pl nb on : Int) (H i j : Nat) (X : List Int) (t : Bool) (M hd : List Int) (o : Bool) (a g : Nat) (tl : Rho) : Rho :=
  lawB ns HD f k nm r V pl nb on H i j X t M hd o ((S "at", .int (a : Int), false) :: (S "gone", .int (g : Int), false) :: tl)
noncomputable def lawW (J D : List Int) (w l b : Int) (tl : Rho) : Rho := (S "joined", intL J, true) :: (S "due", intL D, true) :: (S "turn", .int w, false) :: (S "last", .int l, false) :: (S "best", .int b, false) :: tl
noncomputable def lawLoop : List Stmt := match lawFD.body.drop 17 with
  | .For _ _ b _ _ :: _ => b
  | _ => []

theorem law_t02 (n : Nat) {a g : Nat} {tl : Rho} (hm : V.length ≤ 1000) (hX : X.length = V.length) (ha : a < V.length) (hg : g < V.length) (ht : ShT tl) {w l b : Int}
    (hw : ∀ n, callF (n + 90) ⟨G1, false, false⟩ weighFD [.int k, intL (joinL V a g), intL (joinL X a g), .int H] = .ok (.tup [.int w, .int l, .int b])) :
    ∃ tl', ShT' tl' ∧ ∀ (rest : List Stmt) res, exs (n + 120) ⟨G1, false, false⟩ lawFD.scope (lawL ns HD f k nm r V pl nb on H i j X T M hdl o a g (lawW (joinL V a g) (joinL X a g) w l b tl')) rest = res →
      exs (n + 123) ⟨G1, false, false⟩ lawFD.scope (lawL ns HD f k nm r V pl nb on H i j X T M hdl o a g tl) (lawLoop.take 3 ++ rest) = res := by
  have hR : (List.range V.length).length ≤ szLine := by rw [List.length_range]; exact hm
  have hR2 : (List.range X.length).length ≤ szLine := by rw [List.length_range, hX]; exact hm
  rcases ht with rfl | ⟨e1, e2, e3, e4, e5, e6, e7, rfl⟩ | ⟨e1, e2, e3, e4, e5, e6, e7, e8, rfl⟩
  · refine ⟨[], .inl rfl, fun rest res h => ?_⟩
    refine r_next (ρ' := lawL ns HD f k nm r V pl nb on H i j X T M hdl o a g ((S "joined", intL (joinL V a g), true) :: [])) (r_assign (v := intL (joinL V a g)) (r_compFI rfl (i_enumR rfl rfl rfl) hR fun p hp => ⟨_, rfl, r_tcmp rfl rfl rfl (c_neI _ _), r_ifeB (r_tcmp rfl rfl rfl (c_eq _ _)) (r_bin rfl rfl (r_sub rfl rfl rfl (idx_nat hg hm)) rfl) rfl⟩) ((a_ints rfl).trans rfl)) ?_
    refine r_next (ρ' := lawL ns HD f k nm r V pl nb on H i j X T M hdl o a g ((S "joined", intL (joinL V a g), true) :: (S "due", intL (joinL X a g), true) :: [])) (r_assign (v := intL (joinL X a g)) (r_compFI rfl (i_enumR rfl rfl rfl) hR2 fun p hp => ⟨_, rfl, r_tcmp rfl rfl rfl (c_neI _ _), r_ifeB (r_tcmp rfl rfl rfl (c_eq _ _)) (r_bin rfl rfl (r_sub rfl rfl rfl (idx_nat (by lia) (by lia))) rfl) rfl⟩) ((a_ints rfl).trans rfl)) ?_
    exact r_next (ρ' := lawL ns HD f k nm r V pl nb on H i j X T M hdl o a g (lawW (joinL V a g) (joinL X a g) w l b [])) (r_assignT rfl (r_fun rfl rfl rfl rfl (m_cons rfl (m_cons rfl (m_cons rfl (m_cons rfl m_nil)))) (hw _)) rfl) h
  · refine ⟨[(S "told", e6), (S "count", e7)], .inr (.inl ⟨_, _, rfl⟩), fun rest res h => ?_⟩
    refine r_next (ρ' := lawL ns HD f k nm r V pl nb on H i j X T M hdl o a g ((S "joined", intL (joinL V a g), true) :: (S "due", e2) :: (S "turn", e3) :: (S "last", e4) :: (S "best", e5) :: [(S "told", e6), (S "count", e7)])) (r_assign (v := intL (joinL V a g)) (r_compFI rfl (i_enumR rfl rfl rfl) hR fun p hp => ⟨_, rfl, r_tcmp rfl rfl rfl (c_neI _ _), r_ifeB (r_tcmp rfl rfl rfl (c_eq _ _)) (r_bin rfl rfl (r_sub rfl rfl rfl (idx_nat hg hm)) rfl) rfl⟩) ((a_ints rfl).trans rfl)) ?_
    refine r_next (ρ' := lawL ns HD f k nm r V pl nb on H i j X T M hdl o a g ((S "joined", intL (joinL V a g), true) :: (S "due", intL (joinL X a g), true) :: (S "turn", e3) :: (S "last", e4) :: (S "best", e5) :: [(S "told", e6), (S "count", e7)])) (r_assign (v := intL (joinL X a g)) (r_compFI rfl (i_enumR rfl rfl rfl) hR2 fun p hp => ⟨_, rfl, r_tcmp rfl rfl rfl (c_neI _ _), r_ifeB (r_tcmp rfl rfl rfl (c_eq _ _)) (r_bin rfl rfl (r_sub rfl rfl rfl (idx_nat (by lia) (by lia))) rfl) rfl⟩) ((a_ints rfl).trans rfl)) ?_
    exact r_next (ρ' := lawL ns HD f k nm r V pl nb on H i j X T M hdl o a g (lawW (joinL V a g) (joinL X a g) w l b [(S "told", e6), (S "count", e7)])) (r_assignT rfl (r_fun rfl rfl rfl rfl (m_cons rfl (m_cons rfl (m_cons rfl (m_cons rfl m_nil)))) (hw _)) rfl) h
  · refine ⟨[(S "told", e6), (S "count", e7), (S "shared", e8)], .inr (.inr ⟨_, _, _, rfl⟩), fun rest res h => ?_⟩
    refine r_next (ρ' := lawL ns HD f k nm r V pl nb on H i j X T M hdl o a g ((S "joined", intL (joinL V a g), true) :: (S "due", e2) :: (S "turn", e3) :: (S "last", e4) :: (S "best", e5) :: [(S "told", e6), (S "count", e7), (S "shared", e8)])) (r_assign (v := intL (joinL V a g)) (r_compFI rfl (i_enumR rfl rfl rfl) hR fun p hp => ⟨_, rfl, r_tcmp rfl rfl rfl (c_neI _ _), r_ifeB (r_tcmp rfl rfl rfl (c_eq _ _)) (r_bin rfl rfl (r_sub rfl rfl rfl (idx_nat hg hm)) rfl) rfl⟩) ((a_ints rfl).trans rfl)) ?_
    refine r_next (ρ' := lawL ns HD f k nm r V pl nb on H i j X T M hdl o a g ((S "joined", intL (joinL V a g), true) :: (S "due", intL (joinL X a g), true) :: (S "turn", e3) :: (S "last", e4) :: (S "best", e5) :: [(S "told", e6), (S "count", e7), (S "shared", e8)])) (r_assign (v := intL (joinL X a g)) (r_compFI rfl (i_enumR rfl rfl rfl) hR2 fun p hp => ⟨_, rfl, r_tcmp rfl rfl rfl (c_neI _ _), r_ifeB (r_tcmp rfl rfl rfl (c_eq _ _)) (r_bin rfl rfl (r_sub rfl rfl rfl (idx_nat (by lia) (by lia))) rfl) rfl⟩) ((a_ints rfl).trans rfl)) ?_
    exact r_next (ρ' := lawL ns HD f k nm r V pl nb on H i j X T M hdl o a g (lawW (joinL V a g) (joinL X a g) w l b [(S "told", e6), (S "count", e7), (S "shared", e8)])) (r_assignT rfl (r_fun rfl rfl rfl rfl (m_cons rfl (m_cons rfl (m_cons rfl (m_cons rfl m_nil)))) (hw _)) rfl) h
theorem law_t3 (n : Nat) {a g : Nat} {tl : Rho} {J D0 D1 : List Int} {w w1 : Int} {l b : Nat} (hD : D0.length ≤ 1000)
    (h1 : w = 1 → D1 = mv D0 l b ∧ l < D0.length ∧ b < D0.length ∧ ∃ l' b' : Nat, ∀ n, callF (n + 90) ⟨G1, false, false⟩ weighFD [.int k, intL J, intL D1, .int H] = .ok (.tup [.int w1, .int l', .int b']))
    (h2 : w ≠ 1 → D1 = D0 ∧ w1 = w) :
    ex (n + 119) ⟨G1, false, false⟩ lawFD.scope (lawL ns HD f k nm r V pl nb on H i j X T M hdl o a g (lawW J D0 w l b tl)) (lawLoop.drop 3 |>.headD default) = .ok (.next, lawL ns HD f k nm r V pl nb on H i j X T M hdl o a g (lawW J D1 w1 l b tl)) := by
  refine r_if (c := decide (w = 1)) (r_tcmp rfl rfl rfl (c_eq _ _)) ?_
  by_cases hw : w = 1
  · rw [decide_eq_true hw, if_pos rfl]
    obtain ⟨rfl, hl, hb, l', b', hc⟩ := h1 hw
    have hDl : (D0.set l (gt0 D0 l - 1)).length = D0.length := List.length_set ..
    refine r_next (r_aug (X := D0) (j := l) rfl rfl rfl hl hD rfl rfl rfl) ?_
    refine r_next (r_aug (X := D0.set l (gt0 D0 l - 1)) (j := b) rfl rfl rfl (by rw [hDl]; exact hb) (by rw [hDl]; exact hD) rfl rfl rfl) ?_
    exact r_next (r_assign (v := .int w1) (r_subT rfl (r_fun rfl rfl rfl rfl (m_cons rfl (m_cons rfl (m_cons rfl (m_cons rfl m_nil)))) (hc _)) rfl rfl) rfl) r_nil
  · rw [decide_eq_false hw, if_neg Bool.false_ne_true]
    obtain ⟨rfl, rfl⟩ := h2 hw
    exact r_nil
end Mine
end
section
namespace Mine
open PySem

variable {ns HD : List Int} {f : Int} {k : Nat} {nm : Str} {r : Int} {V : List Int} {pl nb on : Int} {H i j : Nat} {X M hdl : List Int} {T o : Bool}

theorem c_neL2 (a b : List Int) : ∃ c, cmpE .NotEq (intL a) (intL b) = .ok c ∧ (a = b → c = false) := by
  have : ∃ c, PV.beq (intL a) (intL b) = .ok c := by
    refine ⟨PyData.eqv (intL a).toPy (intL b).toPy, ?_⟩
    show ofO (if (intL a).num2 && (intL b).num2 then some (PyData.eqv (intL a).toPy (intL b).toPy) else none) = _
    rw [num_intL, num_intL]; rfl
  obtain ⟨c, hc⟩ := this
  refine ⟨!c, ?_, fun e => ?_⟩
  · show ofO ((beqO (intL a) (intL b)).map (!·)) = _
    rw [ofO_ok hc]; rfl
  · subst e
    rw [beqL] at hc
    cases hc; rfl

noncomputable def lawW2 (J D : List Int) (w l b : Int) (Y : List Int) (tl : Rho) : Rho := (S "joined", intL J, false) :: (S "due", intL D, false) :: (S "turn", .int w, false) :: (S "last", .int l, false) :: (S "best", .int b, false) :: (S "told", intL Y, false) :: tl

/-- the fourth to the eighth statement's tests -/
theorem law_t4 (n : Nat) {a g : Nat} {tl : Rho} {J D : List Int} {w l b : Int} {Y : List Int} {U : Bool} (ht : ShT' tl) (c : Cmp nm J H Y U) :
    ∃ tl', (tl' = [] ∨ (∃ e, tl' = [(S "count", e)]) ∨ (∃ e e', tl' = [(S "count", e), (S "shared", e')])) ∧
    ex (n + 170) ⟨G1, false, false⟩ lawFD.scope (lawL ns HD f k nm r V pl nb on H i j X T M hdl o a g (lawW J D w l b tl)) (lawLoop.drop 4 |>.headD default) = .ok (.next, lawL ns HD f k nm r V pl nb on H i j X U M hdl false a g (lawW2 J D w l b Y tl')) := by
  rcases ht with rfl | ⟨e6, e7, rfl⟩ | ⟨e6, e7, e8, rfl⟩
  · exact ⟨[], .inl rfl, r_assignT rfl (r_fun rfl rfl rfl rfl (m_cons rfl (m_cons rfl (m_cons rfl m_nil))) (told_ev c _)) rfl⟩
  · obtain ⟨v7, o7⟩ := e7
    exact ⟨[(S "count", v7, false)], .inr (.inl ⟨_, rfl⟩), r_assignT rfl (r_fun rfl rfl rfl rfl (m_cons rfl (m_cons rfl (m_cons rfl m_nil))) (told_ev c _)) rfl⟩
  · obtain ⟨v7, o7⟩ := e7
    obtain ⟨v8, o8⟩ := e8
    exact ⟨[(S "count", v7, false), (S "shared", v8, false)], .inr (.inr ⟨_, _, rfl⟩), r_assignT rfl (r_fun rfl rfl rfl rfl (m_cons rfl (m_cons rfl (m_cons rfl m_nil))) (told_ev c _)) rfl⟩
theorem law_t5 (n : Nat) {a g : Nat} {tl : Rho} {J D : List Int} {w l b : Int} {Y : List Int} {U : Bool} (hU : U = decide (w = 0)) :
    ex (n + 60) ⟨G1, false, false⟩ lawFD.scope (lawL ns HD f k nm r V pl nb on H i j X U M hdl false a g (lawW2 J D w l b Y tl)) (lawLoop.drop 5 |>.headD default) = .ok (.next, lawL ns HD f k nm r V pl nb on H i j X U M hdl false a g (lawW2 J D w l b Y tl)) :=
  r_ifF (Eq.trans (r_tcmp rfl rfl (r_cmp rfl rfl rfl (c_eq _ _)) (c_neB _ _)) (by rw [← hU, beq_self_eq_true]; rfl)) r_nil
theorem law_t6 (n : Nat) {a g : Nat} {tl : Rho} {J D : List Int} {w l b : Int} {Y : List Int} {U : Bool} (hY : k < 6 ∨ U = false → Y = D) :
    ex (n + 60) ⟨G1, false, false⟩ lawFD.scope (lawL ns HD f k nm r V pl nb on H i j X U M hdl false a g (lawW2 J D w l b Y tl)) (lawLoop.drop 6 |>.headD default) = .ok (.next, lawL ns HD f k nm r V pl nb on H i j X U M hdl false a g (lawW2 J D w l b Y tl)) := by
  obtain ⟨c, hc, hc2⟩ := c_neL2 Y D
  refine r_ifF (Eq.trans (r_and (r_or2 (a := decide ((k : Int) < 6)) (b := !U) (r_tcmp rfl rfl rfl rfl) (r_not (r_tname rfl))) (r_tcmp rfl rfl rfl hc)) ?_) r_nil
  cases hq : (decide ((k : Int) < 6) || !U) with
  | false => rw [Bool.false_and]
  | true =>
    rw [hc2 (hY (by
      rw [Bool.or_eq_true, decide_eq_true_eq, Bool.not_eq_true'] at hq
      exact hq.imp (fun h => by lia) id))]
    rfl
theorem law_t7 (n : Nat) {a g : Nat} {tl' : Rho} {J D : List Int} {w l b : Int} {Y : List Int} {U : Bool} (hD : D.length ≤ 1000) (hp : posA a g < D.length)
    (ht : tl' = [] ∨ (∃ e, tl' = [(S "count", e)]) ∨ (∃ e e', tl' = [(S "count", e), (S "shared", e')])) :
    ∃ tl, (tl = [] ∨ (∃ e, tl = [(S "shared", e)])) ∧
    ex (n + 60) ⟨G1, false, false⟩ lawFD.scope (lawL ns HD f k nm r V pl nb on H i j X U M hdl false a g (lawW2 J D w l b Y tl')) (lawLoop.drop 7 |>.headD default) = .ok (.next, lawL ns HD f k nm r V pl nb on H i j X U M hdl false a g (lawW2 J D w l b Y ((S "count", .int (gt0 D (posA a g)), false) :: tl))) := by
  have hpos : (if decide ((g : Int) < (a : Int)) = true then (a : Int) - 1 else (a : Int)) = ((posA a g : Nat) : Int) := by
    unfold posA
    by_cases h : g < a
    · rw [decide_eq_true (show (g : Int) < a by lia), if_pos rfl, if_pos h]; lia
    · rw [decide_eq_false (show ¬ (g : Int) < a by lia), if_neg Bool.false_ne_true, if_neg h]
  rcases ht with rfl | ⟨e, rfl⟩ | ⟨e, e', rfl⟩
  · exact ⟨[], .inl rfl, r_assign (v := .int (gt0 D (posA a g))) (r_sub rfl rfl (Eq.trans (r_ifeB (r_tcmp rfl rfl rfl rfl) (r_bin rfl rfl rfl rfl) rfl) (by rw [hpos])) (idx_nat hp hD)) rfl⟩
  · exact ⟨[], .inl rfl, r_assign (v := .int (gt0 D (posA a g))) (r_sub rfl rfl (Eq.trans (r_ifeB (r_tcmp rfl rfl rfl rfl) (r_bin rfl rfl rfl rfl) rfl) (by rw [hpos])) (idx_nat hp hD)) rfl⟩
  · exact ⟨_, .inr ⟨_, rfl⟩, r_assign (v := .int (gt0 D (posA a g))) (r_sub rfl rfl (Eq.trans (r_ifeB (r_tcmp rfl rfl rfl rfl) (r_bin rfl rfl rfl rfl) rfl) (by rw [hpos])) (idx_nat hp hD)) rfl⟩

theorem law_t8 (n : Nat) {a g : Nat} {tl : Rho} {J D : List Int} {w l b c : Int} {Y : List Int} {U : Bool} (hk : k ≤ 6) (FM : Fine M hdl H) (hm : 0 < M.length)
    (ht : tl = [] ∨ (∃ e, tl = [(S "shared", e)]))
    (h : k < 3 ∨ (k < 6 ∧ 1 < c) → (c < hdl.sum → 0 < (endsN k M hdl H hdl.length).1) ∧ ∀ n, callF (n + 110) ⟨G1, false, false⟩ compFD [.str nm, intL M, .int c] = .ok (intL (sharedOf hdl (endsN k M hdl H hdl.length) c))) :
    ∃ tl', ShT tl' ∧
    ex (n + 160) ⟨G1, false, false⟩ lawFD.scope (lawL ns HD f k nm r V pl nb on H i j X U M hdl false a g (lawW2 J D w l b Y ((S "count", .int c, false) :: tl))) (lawLoop.drop 8 |>.headD default) = .ok (.next, lawL ns HD f k nm r V pl nb on H i j X U M hdl false a g tl') := by
  have tst : ∀ m, evT (m + 20) ⟨G1, false, false⟩ lawFD.scope (lawL ns HD f k nm r V pl nb on H i j X U M hdl false a g (lawW2 J D w l b Y ((S "count", .int c, false) :: tl))) (match lawLoop.drop 8 with | .If t _ _ _ :: _ => t | _ => default) = .ok (decide ((k : Int) < 3) || (decide ((k : Int) < 6) && decide (c > 1))) :=
    fun m => r_or2 (r_tcmp rfl rfl rfl rfl) (r_and (r_tcmp rfl rfl rfl rfl) (r_tcmp rfl rfl rfl rfl))
  by_cases hc : k < 3 ∨ (k < 6 ∧ 1 < c)
  case neg =>
    refine ⟨lawW2 J D w l b Y ((S "count", .int c, false) :: tl), ?_, r_ifF ((tst _).trans ?_) r_nil⟩
    · rcases ht with rfl | ⟨e, rfl⟩
      · exact .inr (.inl ⟨_, _, _, _, _, _, _, rfl⟩)
      · exact .inr (.inr ⟨_, _, _, _, _, _, _, _, rfl⟩)
    · congr 1
      rw [Bool.or_eq_false_iff, Bool.and_eq_false_iff, decide_eq_false_iff_not, decide_eq_false_iff_not, decide_eq_false_iff_not]
      clear FM hm ht h tst; omega
  case pos =>
    obtain ⟨hl1, hcm⟩ := h hc
    have hml : hdl.length ≤ 1000 := by rw [FM.len]; exact FM.sm
    have E := fun n => ends_ev FM hk hm n
    have le := endsN_le k M hdl H hdl.length
    have lt := endsN_lt k M hdl H hm hdl.length (by rw [FM.len]; exact Nat.le_refl _)
    generalize endsN k M hdl H hdl.length = e at *
    have hlen := FM.len
    refine ⟨(S "joined", intL J, false) :: (S "due", intL D, false) :: (S "turn", .int w, false) :: (S "last", .int ((e.1 : Int) - 1), false) :: (S "best", .int (e.2 : Int), false) :: (S "told", intL Y, false) :: (S "count", .int c, false) :: [(S "shared", intL (sharedOf hdl e c), true)], .inr (.inr ⟨_, _, _, _, _, _, _, _, rfl⟩), r_ifT ((tst _).trans ?_) ?_⟩
    · congr 1
      rw [Bool.or_eq_true, Bool.and_eq_true, decide_eq_true_eq, decide_eq_true_eq, decide_eq_true_eq]
      clear FM hm ht tst hml hcm E le lt hlen; lia
    refine r_next (ρ' := lawL ns HD f k nm r V pl nb on H i j X U M hdl false a g (lawW2 J D w l b Y ((S "count", .int c, false) :: [(S "shared", intL hdl, true)]))) ?_ ?_
    · have idm : intL (hdl.map fun x => x) = intL hdl := by rw [List.map_id']
      rcases ht with rfl | ⟨e, rfl⟩
      · exact r_assign (Eq.trans (r_compI (f := fun x : Int => x) rfl (i_names (g := PV.int) rfl) hml fun x _ => ⟨_, rfl, rfl⟩) (by rw [idm])) ((a_ints rfl).trans rfl)
      · exact r_assign (Eq.trans (r_compI (f := fun x : Int => x) rfl (i_names (g := PV.int) rfl) hml fun x _ => ⟨_, rfl, rfl⟩) (by rw [idm])) ((a_ints rfl).trans rfl)
    refine r_next (ρ' := lawL ns HD f k nm r V pl nb on H i j X U M hdl false a g ((S "joined", intL J, false) :: (S "due", intL D, false) :: (S "turn", .int w, false) :: (S "last", .int ((e.1 : Int) - 1), false) :: (S "best", .int (e.2 : Int), false) :: (S "told", intL Y, false) :: (S "count", .int c, false) :: [(S "shared", intL hdl, true)])) (r_assignT rfl (r_fun rfl rfl rfl rfl (m_cons rfl (m_cons rfl (m_cons rfl (m_cons rfl m_nil)))) (E _)) rfl) ?_
    refine r_next (ρ' := lawL ns HD f k nm r V pl nb on H i j X U M hdl false a g ((S "joined", intL J, false) :: (S "due", intL D, false) :: (S "turn", .int w, false) :: (S "last", .int ((e.1 : Int) - 1), false) :: (S "best", .int (e.2 : Int), false) :: (S "told", intL Y, false) :: (S "count", .int c, false) :: [(S "shared", intL (sharedOf hdl e c), true)])) ?_ ?_
    · refine r_if (c := decide (c > hdl.sum)) (r_tcmp rfl rfl (r_blt rfl rfl (m_cons rfl m_nil) (b_sum _ _)) rfl) ?_
      unfold sharedOf
      by_cases h1 : c > hdl.sum
      · rw [decide_eq_true h1, if_pos rfl, if_pos h1]
        exact r_next (r_aug (X := hdl) (j := e.2) rfl rfl rfl (by (clear hk FM hm ht tst hc hml h hl1 hcm E le h1; lia)) hml rfl rfl rfl) r_nil
      · rw [decide_eq_false h1, if_neg Bool.false_ne_true, if_neg h1]
        refine r_next (r_if (c := decide (c < hdl.sum)) (r_tcmp rfl rfl (r_blt rfl rfl (m_cons rfl m_nil) (b_sum _ _)) rfl) ?_) r_nil
        by_cases h2 : c < hdl.sum
        · rw [decide_eq_true h2, if_pos rfl, if_pos h2]
          have he := hl1 h2
          rw [show ((e.1 : Int) - 1) = ((e.1 - 1 : Nat) : Int) by (clear hk FM hm ht tst hc hml h hl1 hcm E le lt hlen h1 h2; lia)]
          exact r_next (r_aug (X := hdl) (j := e.1 - 1) rfl rfl rfl (by (clear hk FM hm ht tst hc hml h hl1 hcm E lt hlen h1 h2; omega)) hml rfl rfl rfl) r_nil
        · rw [decide_eq_false h2, if_neg Bool.false_ne_true, if_neg h2]
          exact r_nil
    · exact r_next (r_ifF (r_tcmp rfl (r_fun rfl rfl rfl rfl (m_cons rfl (m_cons rfl (m_cons rfl m_nil))) (hcm _)) rfl (c_neL _)) r_nil) r_nil
end Mine
end
section
namespace Mine
open PySem

variable {ns HD : List Int} {f : Int} {k : Nat} {nm : Str} {r : Int} {V : List Int} {pl nb on : Int} {H i j : Nat} {X M hdl : List Int} {T o : Bool}

noncomputable def Weighs (k : Nat) (V X : List Int) (H : Nat) (w : Int) (l b : Nat) : Prop := ∀ n, callF (n + 90) ⟨G1, false, false⟩ weighFD [.int k, intL V, intL X, .int H] = .ok (.tup [.int w, .int l, .int b])
/-- what one turn of the law's loop needs -/
noncomputable def TurnOK (k : Nat) (nm : Str) (V X : List Int) (H a g : Nat) (M hdl : List Int) : Prop := ∃ (w w1 : Int) (l b : Nat) (D Y : List Int) (U : Bool),
  Weighs k (joinL V a g) (joinL X a g) H w l b ∧
  (w = 1 → D = mv (joinL X a g) l b ∧ l < (joinL X a g).length ∧ b < (joinL X a g).length ∧ ∃ l' b' : Nat, Weighs k (joinL V a g) D H w1 l' b') ∧
  (w ≠ 1 → D = joinL X a g ∧ w1 = w) ∧
  Cmp nm (joinL V a g) H Y U ∧ U = decide (w1 = 0) ∧ (k < 6 ∨ U = false → Y = D) ∧ D.length ≤ 1000 ∧ posA a g < D.length ∧
  (k < 3 ∨ (k < 6 ∧ 1 < gt0 D (posA a g)) → (gt0 D (posA a g) < hdl.sum → 0 < (endsN k M hdl H hdl.length).1) ∧
    ∀ n, callF (n + 110) ⟨G1, false, false⟩ compFD [.str nm, intL M, .int (gt0 D (posA a g))] = .ok (intL (sharedOf hdl (endsN k M hdl H hdl.length) (gt0 D (posA a g)))))

theorem law_turn (n : Nat) {a g : Nat} {tl : Rho} (hk : k ≤ 6) (hm : V.length ≤ 1000) (hX : X.length = V.length) (ha : a < V.length) (hg : g < V.length) (FM : Fine M hdl H) (hM : 0 < M.length) (ht : ShT tl)
    (hT : TurnOK k nm V X H a g M hdl) :
    ∃ U tl', ShT tl' ∧ exs (n + 200) ⟨G1, false, false⟩ lawFD.scope (lawL ns HD f k nm r V pl nb on H i j X T M hdl o a g tl) lawLoop = .ok (.next, lawL ns HD f k nm r V pl nb on H i j X U M hdl false a g tl') := by
  obtain ⟨w, w1, l, b, D, Y, U, h1, h2, h3, h4, h5, h6, h7, h8, h9⟩ := hT
  have hDl : (joinL X a g).length ≤ 1000 := by
    unfold joinL
    rw [List.length_map]
    refine Nat.le_trans (List.length_filter_le _ _) ?_
    rw [List.length_range, hX]; exact hm
  obtain ⟨t1, ht1, e1⟩ := law_t02 (ns := ns) (HD := HD) (f := f) (k := k) (nm := nm) (r := r) (pl := pl) (nb := nb) (on := on) (H := H) (i := i) (j := j) (X := X) (M := M) (hdl := hdl) (T := T) (o := o) (n + 77) hm hX ha hg ht h1
  have e2 := law_t3 (ns := ns) (HD := HD) (f := f) (k := k) (nm := nm) (r := r) (V := V) (pl := pl) (nb := nb) (on := on) (H := H) (i := i) (j := j) (X := X) (M := M) (hdl := hdl) (T := T) (o := o) (a := a) (g := g) (tl := t1) (D1 := D) (w1 := w1) (n + 77) hDl h2 h3
  obtain ⟨t2, ht2, e3⟩ := law_t4 (ns := ns) (HD := HD) (f := f) (k := k) (nm := nm) (r := r) (V := V) (pl := pl) (nb := nb) (on := on) (H := H) (i := i) (j := j) (X := X) (M := M) (hdl := hdl) (T := T) (o := o) (n + 25) (a := a) (g := g) (J := joinL V a g) (D := D) (w := w1) (l := l) (b := b) ht1 h4
  have e4 := law_t5 (ns := ns) (HD := HD) (f := f) (k := k) (nm := nm) (r := r) (V := V) (pl := pl) (nb := nb) (on := on) (H := H) (i := i) (j := j) (X := X) (M := M) (hdl := hdl) (n + 134) (a := a) (g := g) (tl := t2) (J := joinL V a g) (D := D) (w := w1) (l := l) (b := b) (Y := Y) h5
  have e5 := law_t6 (ns := ns) (HD := HD) (f := f) (k := k) (nm := nm) (r := r) (V := V) (pl := pl) (nb := nb) (on := on) (H := H) (i := i) (j := j) (X := X) (M := M) (hdl := hdl) (n + 133) (a := a) (g := g) (tl := t2) (J := joinL V a g) (D := D) (w := w1) (l := l) (b := b) (Y := Y) h6
  obtain ⟨t3, ht3, e6⟩ := law_t7 (ns := ns) (HD := HD) (f := f) (k := k) (nm := nm) (r := r) (V := V) (pl := pl) (nb := nb) (on := on) (H := H) (i := i) (j := j) (X := X) (M := M) (hdl := hdl) (n + 132) (a := a) (g := g) (J := joinL V a g) (D := D) (w := w1) (l := l) (b := b) (Y := Y) (U := U) h7 h8 ht2
  obtain ⟨t4, ht4, e7⟩ := law_t8 (ns := ns) (HD := HD) (f := f) (k := k) (nm := nm) (r := r) (V := V) (pl := pl) (nb := nb) (on := on) (H := H) (i := i) (j := j) (X := X) (M := M) (hdl := hdl) (n + 31) (a := a) (g := g) (J := joinL V a g) (D := D) (w := w1) (l := l) (b := b) (Y := Y) (U := U) hk FM hM ht3 h9
  exact ⟨U, t4, ht4, e1 (lawLoop.drop 3) _ (r_next e2 (r_next e3 (r_next e4 (r_next e5 (r_next e6 (r_next e7 r_nil))))))⟩

theorem law_rest (n : Nat) (hk : k ≤ 6) (hm : V.length ≤ 1000) (hX : X.length = V.length) (hi : i < V.length) (hj : j < V.length) (FM : Fine (pick V i j) (pick X i j) H)
    (h1 : TurnOK k nm V X H i j (pick V i j) (pick X i j)) (h2 : TurnOK k nm V X H j i (pick V i j) (pick X i j)) :
    Out (exs (n + 280) ⟨G1, false, false⟩ lawFD.scope (lawB ns HD f k nm r V pl nb on H i j X T (pick V i j) (pick X i j) true []) (lawFD.body.drop 17)) = .ok (.bool true) := by
  refine o_for_inv (items := [.tup [.int (i : Int), .int (j : Int)], .tup [.int (j : Int), .int (i : Int)]]) (fun q ρ => (q = 0 ∧ ρ = lawB ns HD f k nm r V pl nb on H i j X T (pick V i j) (pick X i j) true []) ∨ (0 < q ∧ ∃ t a g tl, ShT tl ∧ ρ = lawL ns HD f k nm r V pl nb on H i j X t (pick V i j) (pick X i j) false a g tl)) ?_ (show 2 ≤ szLine by decide) (.inl ⟨rfl, rfl⟩) ?_ ?_
  · exact i_list (m_cons (r_tup2 rfl rfl) (m_cons (r_tup2 rfl rfl) m_nil)) (show 2 ≤ szLine by decide)
  · intro q hq ρ hI
    match q, hq with
    | 0, _ =>
      rcases hI with ⟨_, rfl⟩ | ⟨h, _⟩
      · obtain ⟨U, tl', ht', e⟩ := law_turn (ns := ns) (HD := HD) (f := f) (r := r) (pl := pl) (nb := nb) (on := on) (i := i) (j := j) (T := T) (o := true) (n + 78) hk hm hX hi hj FM (show 0 < 2 by decide) (.inl rfl) h1
        exact ⟨lawL ns HD f k nm r V pl nb on H i j X T (pick V i j) (pick X i j) true i j [], rfl, _, e, .inr ⟨by exact Nat.lt_succ_self _, _, _, _, _, ht', rfl⟩⟩
      · lia
    | 1, _ =>
      rcases hI with ⟨h, _⟩ | ⟨_, t, a, g, tl, ht, rfl⟩
      · lia
      · obtain ⟨U, tl', ht', e⟩ := law_turn (ns := ns) (HD := HD) (f := f) (r := r) (pl := pl) (nb := nb) (on := on) (i := i) (j := j) (T := t) (o := false) (n + 78) hk hm hX hj hi FM (show 0 < 2 by decide) ht h2
        exact ⟨lawL ns HD f k nm r V pl nb on H i j X t (pick V i j) (pick X i j) false j i tl, rfl, _, e, .inr ⟨by exact Nat.zero_lt_succ _, _, _, _, _, ht', rfl⟩⟩
    | q + 2, hq => exact absurd hq (by simp)
  · intro ρ' hI
    exact o_return rfl

/-- what is to be shown of plain numbers -/
structure Plain (k : Nat) (nm : Str) (V : List Int) (H i j : Nat) (X : List Int) (T : Bool) : Prop where
  c : Cmp nm V H X T
  sv : V.sum ≠ 0 ∧ V.sum.natAbs < Lim
  t6 : k = 6 → T = true → Tie6 V H
  len : ¬ (k = 6 ∧ T = true) → X.length = V.length
  sum : ¬ (k = 6 ∧ T = true) → X.sum = H
  w : ¬ (k = 6 ∧ T = true) → ∃ l b : Nat, Weighs k V X H (if T then 0 else -1) l b
  fm : ¬ (k = 6 ∧ T = true) → Fine (pick V i j) (pick X i j) H
  u1 : ¬ (k = 6 ∧ T = true) → TurnOK k nm V X H i j (pick V i j) (pick X i j)
  u2 : ¬ (k = 6 ∧ T = true) → TurnOK k nm V X H j i (pick V i j) (pick X i j)
theorem law1_of (P : ∀ k nm V H i j, Facts k nm V H i j → ∃ X T, Plain k nm V H i j X T) (ns : List Int) (h : ns.length ≤ 63) (n : Nat) : callF (n + 400) ⟨G1, false, false⟩ lawFD [intL ns] = .ok (.bool true) := by
  refine law_head ns h (fun n HD f k nm r V pl nb on H i j F => ?_) n
  obtain ⟨X, T, p⟩ := P k nm V H i j F
  exact law_mid n F p.c p.sv p.t6 (fun h => ⟨p.len h, p.sum h, p.w h⟩) (fun h n => law_rest n F.k6 (Nat.le_trans F.m5 (by decide)) (p.len h) F.im F.jm (p.fm h) (p.u1 h) (p.u2 h))
end Mine
end
section
namespace Mine
/-- the sum of the first m -/
noncomputable def sumN : Nat → (Nat → Int) → Int
  | 0, _ => 0
  | m + 1, x => sumN m x + x m
theorem sumN_le {x y : Nat → Int} : ∀ {m : Nat}, (∀ i, i < m → x i ≤ y i) → sumN m x ≤ sumN m y
  | 0, _ => Int.le_refl _
  | m + 1, h => by
    have := sumN_le (m := m) fun i hi => h i (by lia)
    have := h m (by exact Nat.lt_succ_self _)
    simp only [sumN]; lia
theorem sumN_lt {x y : Nat → Int} : ∀ {m : Nat}, (∀ i, i < m → x i ≤ y i) → ∀ i, i < m → x i < y i → sumN m x < sumN m y
  | 0, _, i, hi, _ => absurd hi (by lia)
  | m + 1, h, i, hi, hl => by
    have h1 := sumN_le (m := m) fun i hi => h i (by lia)
    have h2 := h m (by exact Nat.lt_succ_self _)
    simp only [sumN]
    by_cases e : i = m
    · subst e; (clear h hi h2; lia)
    · have := sumN_lt (m := m) (fun i hi => h i (by lia)) i (by lia) hl
      clear h hi hl h1 e; lia
theorem sumN_congr {x y : Nat → Int} {m : Nat} (h : ∀ i, i < m → x i = y i) : sumN m x = sumN m y := by
  have h1 := sumN_le (m := m) fun i hi => Int.le_of_eq (h i hi)
  have h2 := sumN_le (m := m) fun i hi => Int.le_of_eq (h i hi).symm
  lia
/-- one place turned -/
noncomputable def upd (x : Nat → Int) (a : Nat) (d : Int) : Nat → Int := fun i => if i = a then x i + d else x i
theorem sumN_upd_out {x : Nat → Int} {a : Nat} {d : Int} {m : Nat} (h : m ≤ a) : sumN m (upd x a d) = sumN m x := by
  refine sumN_congr fun i hi => ?_
  unfold upd; rw [if_neg (by lia)]
theorem sumN_upd {x : Nat → Int} {a : Nat} {d : Int} : ∀ {m : Nat}, a < m → sumN m (upd x a d) = sumN m x + d
  | 0, h => absurd h (by lia)
  | m + 1, h => by
    simp only [sumN]
    by_cases e : a = m
    · subst e
      rw [sumN_upd_out (Nat.le_refl _)]
      simp only [upd, if_pos]; lia
    · rw [sumN_upd (m := m) (by lia)]
      have : upd x a d m = x m := by unfold upd; rw [if_neg (by (clear h; lia))]
      lia

structure Key (m : Nat) (S : Int) (key : Nat → Int → Int) : Prop where
  mono : ∀ i s t, i < m → 1 ≤ s → s < t → t ≤ S → key i t < key i s
  inj : ∀ i j s t, i < m → j < m → i ≠ j → key i s ≠ key j t

noncomputable def Good (m : Nat) (key : Nat → Int → Int) (x : Nat → Int) : Prop := ∀ i j, i < m → j < m → i ≠ j → 0 < x i → key j (x j + 1) < key i (x i)
noncomputable def Fits (m : Nat) (S : Int) (x : Nat → Int) : Prop := ∀ i, i < m → 0 ≤ x i ∧ x i < S

theorem Key.monoLe {m : Nat} {S : Int} {key : Nat → Int → Int} (K : Key m S key) {i : Nat} {s t : Int} (hi : i < m) (hs : 1 ≤ s) (h : s ≤ t) (ht : t ≤ S) : key i t ≤ key i s := by
  by_cases e : s = t
  · subst e; exact Int.le_refl _
  · exact Int.le_of_lt (K.mono i s t hi hs (by (clear K hi hs ht; lia)) ht)

theorem good_uniq {m : Nat} {S : Int} {key : Nat → Int → Int} (K : Key m S key) {x y : Nat → Int} (hx : Good m key x) (hy : Good m key y) (fx : Fits m S x) (fy : Fits m S y) (hs : sumN m x = sumN m y) : ∀ i, i < m → x i = y i := by
  have main : ∀ {x y : Nat → Int}, Good m key x → Good m key y → Fits m S x → Fits m S y → sumN m x = sumN m y → ∀ i, i < m → x i ≤ y i := by
    intro x y hx hy fx fy hs i hi
    apply Classical.byContradiction; intro hc
    have hc : y i < x i := by lia
    have : ∃ j, j < m ∧ x j < y j := by
      apply Classical.byContradiction; intro hn
      have hall : ∀ j, j < m → y j ≤ x j := fun j hj => Classical.byContradiction fun h => hn ⟨j, hj, by lia⟩
      have := sumN_lt hall i hi hc
      lia
    obtain ⟨j, hj, hl⟩ := this
    have nij : i ≠ j := by intro e; subst e; lia
    have := fx i hi; have := fy i hi; have := fx j hj; have := fy j hj
    have a1 := hx i j hi hj nij (by lia)
    have a2 := hy j i hj hi (Ne.symm nij) (by lia)
    have a3 := K.monoLe (s := x j + 1) (t := y j) hj (by lia) (by assumption) (by exact Int.le_of_lt this.2)
    have a4 := K.monoLe (s := y i + 1) (t := x i) hi (by lia) (by assumption) (by lia)
    lia
  intro i hi
  have := main hx hy fx fy hs i hi
  have := main hy hx fy fx hs.symm i hi
  lia

/-- the weakest last seat and the strongest next claim -/
structure Ends (m : Nat) (key : Nat → Int → Int) (x : Nat → Int) (last best : Nat) : Prop where
  lm : last < m
  bm : best < m
  lp : 0 < x last
  ll : ∀ k, k < m → k ≠ last → 0 < x k → key last (x last) < key k (x k)
  bb : ∀ k, k < m → k ≠ best → key k (x k + 1) < key best (x best + 1)

theorem good_iff {m : Nat} {S : Int} {key : Nat → Int → Int} (K : Key m S key) {x : Nat → Int} (fx : Fits m S x) {last best : Nat} (E : Ends m key x last best) :
    Good m key x ↔ key best (x best + 1) < key last (x last) := by
  have := fx last E.lm; have := fx best E.bm
  constructor
  · intro g
    by_cases e : last = best
    · have := K.mono best (x best) (x best + 1) E.bm (by have := E.lp; rw [e] at this; assumption) (by lia) (by exact Int.add_one_le_of_lt this.2)
      rw [e]; exact this
    · exact g last best E.lm E.bm e E.lp
  · intro h i j hi hj nij hp
    have a1 : key last (x last) ≤ key i (x i) := by
      by_cases e : i = last
      · rw [e]; exact Int.le_refl _
      · exact Int.le_of_lt (E.ll i hi e hp)
    have a2 : key j (x j + 1) ≤ key best (x best + 1) := by
      by_cases e : j = best
      · rw [e]; exact Int.le_refl _
      · exact Int.le_of_lt (E.bb j hj e)
    lia

/-- one seat from the weakest last to the strongest next mends a state that is good but for J's own place -/
theorem exchange {m : Nat} {S : Int} {key : Nat → Int → Int} (K : Key m S key) {x : Nat → Int} (fx : Fits m S x) {last best : Nat} (E : Ends m key x last best)
    (hb : x best + 2 ≤ S)
    (J : Nat) (hJ : J < m) (others : ∀ i j, i < m → j < m → i ≠ j → i ≠ J → j ≠ J → 0 < x i → key j (x j + 1) < key i (x i))
    (up : ∀ k, k < m → k ≠ J → 0 < x k → key J (x J + 2) < key k (x k))
    (low : 2 ≤ x J → ∀ k, k < m → k ≠ J → key k (x k + 1) < key J (x J - 1))
    (h : ¬ key best (x best + 1) < key last (x last)) :
    best ≠ last ∧ Good m key (upd (upd x last (-1)) best 1) := by
  have fl := fx last E.lm; have fb := fx best E.bm
  have lp := E.lp
  have hbl : best ≠ last := by
    intro e
    have := K.mono best (x best) (x best + 1) E.bm (by rw [e]; assumption) (by lia) (by exact Int.add_one_le_of_lt fb.2)
    rw [e] at this h; lia
  refine ⟨hbl, ?_⟩
  have hlt : key last (x last) < key best (x best + 1) := by
    have := K.inj best last (x best + 1) (x last) E.bm E.lm hbl
    lia
  have hJ2 : best = J ∨ last = J := by
    apply Classical.byContradiction; intro hn
    have := others last best E.lm E.bm (Ne.symm hbl) (fun e => hn (.inr e)) (fun e => hn (.inl e)) lp
    lia
  have vl : upd (upd x last (-1)) best 1 last = x last - 1 := by
    unfold upd; rw [if_neg (Ne.symm hbl), if_pos rfl]; rfl
  have vb : upd (upd x last (-1)) best 1 best = x best + 1 := by
    unfold upd; rw [if_pos rfl, if_neg hbl]
  have vo : ∀ k, k ≠ last → k ≠ best → upd (upd x last (-1)) best 1 k = x k := by
    intro k h1 h2
    unfold upd; rw [if_neg h2, if_neg h1]
  intro i j hi hj nij
  have fi := fx i hi; have fj := fx j hj
  by_cases il : i = last
  · subst il
    rw [vl]
    intro hp
    have s1 := K.mono i (x i - 1) (x i) hi (by assumption) (by lia) (by exact Int.le_of_lt fl.2)
    by_cases jb : j = best
    · subst jb
      rw [vb, show x j + 1 + 1 = x j + 2 by lia]
      rcases hJ2 with e | e
      · subst e
        have := up i hi nij lp
        clear K fx hi hj nij fi fj fl lp hp hb fb E h hbl hlt vl vb vo hJ others up low; omega
      · subst e
        have := low (by (clear K fx hi hj nij fi fj fl lp s1 hb fb E h hbl hlt vb vo hJ others up low; lia)) j hj (Ne.symm nij)
        have := K.mono j (x j + 1) (x j + 2) hj (by lia) (by lia) hb
        clear K fx hi hj nij fi fj fl lp hp s1 hb fb E h hbl hlt vl vb vo hJ others up low; omega
    · rw [vo j (Ne.symm nij) jb]
      rcases hJ2 with e | e
      · have := others i j hi hj nij (by rw [← e]; exact Ne.symm hbl) (by rw [← e]; exact jb) lp
        clear K fx hb hJ others up low fb hi hj nij fi fj E h fl lp hbl hlt vl vb vo hp jb e; omega
      · subst e
        exact low (by (clear K fx hb fb hi hj nij fi fj E h fl hbl hlt vl vb vo s1 jb hJ others up low; lia)) j hj (Ne.symm nij)
  · by_cases ib : i = best
    · subst ib
      rw [vb]
      intro _
      by_cases jl : j = last
      · subst jl
        rw [vl, show x j - 1 + 1 = x j by lia]
        exact hlt
      · rw [vo j jl (Ne.symm nij)]
        exact E.bb j hj (Ne.symm nij)
    · rw [vo i il ib]
      intro hp
      by_cases jl : j = last
      · subst jl
        rw [vl, show x j - 1 + 1 = x j by lia]
        exact E.ll i hi il hp
      · by_cases jb : j = best
        · subst jb
          rw [vb, show x j + 1 + 1 = x j + 2 by lia]
          rcases hJ2 with e | e
          · subst e; exact up i hi nij hp
          · have h1 := others i j hi hj nij (by rw [← e]; exact il) (by rw [← e]; exact jl) hp
            have := K.mono j (x j + 1) (x j + 2) hj (by lia) (by lia) hb
            lia
        · rw [vo j jl jb]
          rcases hJ2 with e | e
          · have h1 := others last j E.lm hj (Ne.symm jl) (by rw [← e]; exact Ne.symm hbl) (by rw [← e]; exact jb) lp
            have h2 := E.ll i hi il hp
            lia
          · exact others i j hi hj nij (by rw [← e]; exact il) (by rw [← e]; exact jl) hp
end Mine
end
section
namespace Mine
noncomputable def keyOf (vl : Nat → Int → Int) (i : Nat) (s : Int) : Int := vl i s * 8 + (7 - (i : Int))
theorem key_lt {vl : Nat → Int → Int} {i j : Nat} {s t : Int} (hi : i < 8) (hj : j < 8) : keyOf vl j t < keyOf vl i s ↔ vl j t < vl i s ∨ (vl j t = vl i s ∧ i < j) := by
  unfold keyOf; lia

structure Val (m : Nat) (S : Int) (vl : Nat → Int → Int) : Prop where
  m8 : m ≤ 7
  mono : ∀ i s t, i < m → 1 ≤ s → s < t → t ≤ S → vl i t < vl i s
variable {m : Nat} {S : Int} {vl : Nat → Int → Int}
theorem Val.key (W : Val m S vl) : Key m S (keyOf vl) := by
  refine ⟨fun i s t hi hs hst ht => ?_, fun i j s t hi hj nij => ?_⟩
  · have := W.mono i s t hi hs hst ht
    unfold keyOf; lia
  · have := W.m8
    unfold keyOf; lia
theorem Val.lt (W : Val m S vl) {i j : Nat} {s t : Int} (hi : i < m) (hj : j < m) : keyOf vl j t < keyOf vl i s ↔ vl j t < vl i s ∨ (vl j t = vl i s ∧ i < j) := by
  have := W.m8
  exact key_lt (by lia) (by lia)

noncomputable def TieS (m : Nat) (vl : Nat → Int → Int) (x : Nat → Int) : Prop := ∃ i j, i < m ∧ j < m ∧ i ≠ j ∧ 0 < x i ∧ vl i (x i) = vl j (x j + 1)

theorem tie_ends (W : Val m S vl) {x : Nat → Int} (fx : Fits m S x) {last best : Nat} (E : Ends m (keyOf vl) x last best) (g : Good m (keyOf vl) x) : TieS m vl x ↔ vl last (x last) = vl best (x best + 1) := by
  have flx := fx last E.lm
  have lp := E.lp
  constructor
  · intro ⟨i, j, hi, hj, nij, hp, e⟩
    have a1 : vl last (x last) ≤ vl i (x i) := by
      by_cases c : i = last
      · rw [c]; exact Int.le_refl _
      · have := (W.lt hi E.lm).mp (E.ll i hi c hp)
        lia
    have a2 : vl j (x j + 1) ≤ vl best (x best + 1) := by
      by_cases c : j = best
      · rw [c]; exact Int.le_refl _
      · have := (W.lt E.bm hj).mp (E.bb j hj c)
        clear W fx E g flx lp hi hj nij hp e a1 c; lia
    have a3 : vl best (x best + 1) ≤ vl last (x last) := by
      by_cases c : last = best
      · rw [← c]
        exact Int.le_of_lt (W.mono last _ _ E.lm (by assumption) (by lia) (by exact Int.add_one_le_of_lt flx.2))
      · have := (W.lt E.lm E.bm).mp (g last best E.lm E.bm c lp)
        clear W fx E g flx lp hi hj nij hp e a1 a2 c; lia
    lia
  · intro e
    refine ⟨last, best, E.lm, E.bm, ?_, lp, e⟩
    intro c
    subst c
    have := W.mono last (x last) (x last + 1) E.lm (by assumption) (by lia) (by exact Int.add_one_le_of_lt flx.2)
    lia

theorem upd_at {x : Nat → Int} {a : Nat} {d : Int} : upd x a d a = x a + d := by unfold upd; rw [if_pos rfl]
theorem upd_ne {x : Nat → Int} {a i : Nat} {d : Int} (h : i ≠ a) : upd x a d i = x i := by unfold upd; rw [if_neg h]

theorem good_add (W : Val m S vl) {x : Nat → Int} (fx : ∀ i, i < m → 0 ≤ x i ∧ x i + 2 ≤ S) {best : Nat} (bm : best < m) (bb : ∀ k, k < m → k ≠ best → keyOf vl k (x k + 1) < keyOf vl best (x best + 1)) (g : Good m (keyOf vl) x) : Good m (keyOf vl) (upd x best 1) := by
  intro i j hi hj nij
  have K := W.key
  by_cases ci : i = best
  · subst ci
    rw [upd_at, upd_ne (Ne.symm nij)]
    intro _
    exact bb j hj (Ne.symm nij)
  · rw [upd_ne ci]
    intro hp
    by_cases cj : j = best
    · subst cj
      rw [upd_at]
      have := g i j hi hj nij hp
      have f := fx j hj
      have := K.mono j (x j + 1) (x j + 1 + 1) hj (by lia) (by lia) (by (clear W fx g hi hj nij K hp bm bb ci this; lia))
      lia
    · rw [upd_ne cj]
      exact g i j hi hj nij hp
theorem good_sub (W : Val m S vl) {x : Nat → Int} (fx : Fits m S x) {last : Nat} (lm : last < m) (lp : 0 < x last) (ll : ∀ k, k < m → k ≠ last → 0 < x k → keyOf vl last (x last) < keyOf vl k (x k)) (g : Good m (keyOf vl) x) : Good m (keyOf vl) (upd x last (-1)) := by
  intro i j hi hj nij
  have K := W.key
  by_cases ci : i = last
  · subst ci
    rw [upd_at, upd_ne (Ne.symm nij)]
    intro hp
    have := g i j hi hj nij lp
    have f := fx i hi
    have := K.mono i (x i + -1) (x i) hi (by assumption) (by lia) (by exact Int.le_of_lt f.2)
    clear W fx g hi hj nij K lm lp ll hp f; omega
  · rw [upd_ne ci]
    intro hp
    by_cases cj : j = last
    · subst cj
      rw [upd_at, show x j + -1 + 1 = x j by lia]
      exact ll i hi ci hp
    · rw [upd_ne cj]
      exact g i j hi hj nij hp

/-- holders ahead of i -/
noncomputable def cnt (h : Nat → Bool) : Nat → Nat
  | 0 => 0
  | i + 1 => cnt h i + if h i then 1 else 0
theorem cnt_le (h : Nat → Bool) {i j : Nat} (hij : i ≤ j) : cnt h i ≤ cnt h j := by
  induction hij with
  | refl => exact Nat.le_refl _
  | step _ ih => exact Nat.le_trans ih (Nat.le_add_right _ _)
theorem cnt_lt (h : Nat → Bool) {i j : Nat} (hi : h i = true) (hij : i < j) : cnt h i < cnt h j := by
  have := cnt_le h (show i + 1 ≤ j from hij)
  have e : cnt h (i + 1) = cnt h i + 1 := by show cnt h i + _ = _; rw [hi, if_pos rfl]
  lia
theorem cnt_ex (h : Nat → Bool) {N : Nat} : ∀ {m : Nat}, N < cnt h m → ∃ i, i < m ∧ h i = true ∧ cnt h i = N
  | 0, hN => absurd hN (Nat.not_lt_zero _)
  | m + 1, hN => by
    by_cases c : N < cnt h m
    · obtain ⟨i, a, b, e⟩ := cnt_ex h c
      exact ⟨i, by lia, b, e⟩
    · have hN : N < cnt h m + if h m then 1 else 0 := hN
      cases hm : h m with
      | false => rw [hm, if_neg Bool.false_ne_true] at hN; omega
      | true => rw [hm, if_pos rfl] at hN; exact ⟨m, by exact Nat.lt_succ_self _, hm, by lia⟩
noncomputable def selX (c : Nat → Int) (h : Nat → Bool) (N : Nat) (i : Nat) : Int := c i + if (h i && decide (cnt h i < N)) = true then 1 else 0
theorem sel_sum (c : Nat → Int) (h : Nat → Bool) (N : Nat) : ∀ m, sumN m (selX c h N) = sumN m c + (min (cnt h m) N : Nat)
  | 0 => by simp [sumN, cnt]
  | m + 1 => by
    simp only [sumN, sel_sum c h N m, selX, cnt]
    cases h m with
    | false => simp; lia
    | true =>
      simp only [Bool.true_and, decide_eq_true_eq, if_true]
      split <;> lia
theorem sel_good (W : Val m S vl) {c : Nat → Int} {h : Nat → Bool} {ν : Int} {N : Nat} (c0 : ∀ i, i < m → 0 ≤ c i ∧ c i + 2 ≤ S) (c1 : ∀ i, i < m → 0 < c i → ν < vl i (c i))
    (c2 : ∀ i, i < m → h i = true → vl i (c i + 1) = ν) (c3 : ∀ i, i < m → h i = false → vl i (c i + 1) < ν) : Good m (keyOf vl) (selX c h N) := by
  intro i j hi hj nij
  rw [W.lt hi hj]
  have lastI : 0 < selX c h N i → ν < vl i (selX c h N i) ∨ (ν = vl i (selX c h N i) ∧ h i = true ∧ cnt h i < N) := by
    unfold selX
    split
    · rename_i q
      intro _
      rw [Bool.and_eq_true, decide_eq_true_eq] at q
      exact .inr ⟨(c2 i hi q.1).symm, q⟩
    · intro hp
      rw [Int.add_zero] at hp ⊢
      exact .inl (c1 i hi hp)
  have nextJ : vl j (selX c h N j + 1) < ν ∨ (vl j (selX c h N j + 1) = ν ∧ h j = true ∧ N ≤ cnt h j) := by
    unfold selX
    split
    · rename_i q
      rw [Bool.and_eq_true, decide_eq_true_eq] at q
      have := c2 j hj q.1
      have f := c0 j hj
      have := W.mono j (c j + 1) (c j + 1 + 1) hj (by lia) (by lia) (by (clear W c0 c1 c2 c3 hi hj nij lastI q this; lia))
      left; lia
    · rename_i q
      rw [Int.add_zero]
      cases hh : h j with
      | false => exact .inl (c3 j hj hh)
      | true =>
        rw [hh, Bool.true_and, decide_eq_true_eq] at q
        exact .inr ⟨c2 j hj hh, rfl, by exact Nat.le_of_not_lt q⟩
  intro hp
  have l := lastI hp
  rcases l with l | ⟨l, l2, l3⟩ <;> rcases nextJ with n | ⟨n, n2, n3⟩
  · left; (exact Int.lt_trans n l)
  · left; lia
  · left; (clear W c0 c1 c2 c3 hi hj nij lastI hp l2 l3; lia)
  · right
    refine ⟨by (clear W c0 c1 c2 c3 hi hj nij lastI hp l2 l3 n2 n3; lia), ?_⟩
    apply Classical.byContradiction
    intro q
    have := cnt_le h (show j ≤ i by exact Nat.le_of_not_lt q)
    lia
theorem sel_tie (W : Val m S vl) {c : Nat → Int} {h : Nat → Bool} {ν : Int} {N : Nat} (c0 : ∀ i, i < m → 0 ≤ c i ∧ c i + 2 ≤ S) (c1 : ∀ i, i < m → 0 < c i → ν < vl i (c i))
    (c2 : ∀ i, i < m → h i = true → vl i (c i + 1) = ν) (c3 : ∀ i, i < m → h i = false → vl i (c i + 1) < ν) (hN : 0 < N) (hc : N ≤ cnt h m) : TieS m vl (selX c h N) ↔ N < cnt h m := by
  constructor
  · intro ⟨i, j, hi, hj, nij, hp, e⟩
    apply Classical.byContradiction
    intro q
    have sj : ∀ j, j < m → h j = true → cnt h j < N := by
      intro j hj hh
      have := cnt_lt h hh hj
      lia
    have nj : vl j (selX c h N j + 1) < ν := by
      unfold selX
      cases hh : h j with
      | true =>
        rw [Bool.true_and, decide_eq_true (sj j hj hh), if_pos rfl]
        have := c2 j hj hh
        have f := c0 j hj
        have := W.mono j (c j + 1) (c j + 1 + 1) hj (by lia) (by lia) (by (clear W c0 c1 c2 c3 hN hc hi hj nij hp e q sj hh this; lia))
        lia
      | false =>
        rw [Bool.false_and, if_neg Bool.false_ne_true, Int.add_zero]
        exact c3 j hj hh
    have li : ν ≤ vl i (selX c h N i) := by
      unfold selX at hp ⊢
      split
      · rename_i q
        rw [Bool.and_eq_true] at q
        exact Int.le_of_eq (c2 i hi q.1).symm
      · rename_i q
        rw [if_neg q, Int.add_zero] at hp
        rw [Int.add_zero]
        exact Int.le_of_lt (c1 i hi hp)
    lia
  · intro hlt
    obtain ⟨j, hj, hhj, ej⟩ := cnt_ex h hlt
    obtain ⟨i, hi, hhi, ei⟩ := cnt_ex h (show 0 < cnt h m by exact Nat.zero_lt_of_lt hlt)
    refine ⟨i, j, hi, hj, fun e => ?_, ?_, ?_⟩
    · subst e; lia
    · unfold selX
      rw [hhi, Bool.true_and, decide_eq_true (by lia), if_pos rfl]
      have := c0 i hi
      exact Int.lt_add_one_of_le this.1
    · have e1 : selX c h N i = c i + 1 := by
        unfold selX
        rw [hhi, Bool.true_and, decide_eq_true (by lia), if_pos rfl]
      have e2 : selX c h N j = c j := by
        unfold selX
        rw [hhj, Bool.true_and, decide_eq_false (by lia), if_neg Bool.false_ne_true, Int.add_zero]
      rw [e1, e2, c2 i hi hhi, c2 j hj hhj]
end Mine
end
section
namespace Mine

noncomputable def Dn : Int := 3099044504245996706400
noncomputable def den (k : Nat) (s : Int) : Int := match k with
  | 0 => s
  | 1 => 2 * s - 1
  | 2 => if s = 1 then 7 else 2 * s - 1
  | 3 => s * (s - 1)
  | 4 => s - 1
  | 5 => 2 * s * (s - 1)
  | _ => 1
noncomputable def nf (k : Nat) (s : Int) : Int := match k with
  | 2 => if s = 1 then 5 else 1
  | 5 => 2 * s - 1
  | _ => 1
noncomputable def qk (k : Nat) (s : Int) : Int := nf k s * (Dn / den k s)
noncomputable def vv (k : Nat) (v : Int) : Int := if k = 3 then v * v else v
noncomputable def BigV : Int := 10000000000000000000000000000000000000000000000000000000000000000000000000000000000000000000000000000
noncomputable def valF (k : Nat) (v s H T : Int) : Int := if k = 6 then v * H - s * T else if 3 ≤ k ∧ s = 1 then BigV else vv k v * qk k s

noncomputable def okDen (k s : Nat) : Bool := decide (3 ≤ k ∧ s = 1) || (decide (0 < den k s) && decide (den k s * (Dn / den k s) = Dn) && decide (0 < nf k s) && decide (0 < qk k s))
theorem okDen_all : ((List.range 6).all fun k => (List.range 26).all fun s => okDen k (s + 1)) = true := by decide +kernel
theorem of_table {P : Nat → Bool} {n : Nat} (h : ((List.range n).all P) = true) {i : Nat} (hi : i < n) : P i = true := List.all_eq_true.mp h i (List.mem_range.mpr hi)
theorem den_ok {k : Nat} {s : Int} (hk : k < 6) (h1 : 1 ≤ s) (h2 : s ≤ 26) (h3 : ¬ (3 ≤ k ∧ s = 1)) : 0 < den k s ∧ den k s * (Dn / den k s) = Dn ∧ 0 < nf k s ∧ 0 < qk k s := by
  obtain ⟨i, rfl⟩ : ∃ i : Nat, s = ((i + 1 : Nat) : Int) := ⟨(s - 1).toNat, by (clear hk h2 h3; omega)⟩
  have := of_table (of_table okDen_all hk) (show i < 26 by lia)
  unfold okDen at this
  rw [Bool.or_eq_true, decide_eq_true_eq] at this
  rcases this with h | h
  · exact absurd ⟨h.1, by (clear hk h1 h2 h3; lia)⟩ h3
  · simp only [Bool.and_eq_true, decide_eq_true_eq] at h
    exact ⟨h.1.1.1, h.1.1.2, h.1.2, h.2⟩
theorem qdec_all : ((List.range 6).all fun k => (List.range 25).all fun s => decide (3 ≤ k ∧ s = 0) || decide (qk k ((s + 2 : Nat) : Int) < qk k ((s + 1 : Nat) : Int))) = true := by decide +kernel
theorem qdec1 {k : Nat} {s : Int} (hk : k < 6) (h1 : 1 ≤ s) (h2 : s + 1 ≤ 26) (h3 : ¬ (3 ≤ k ∧ s = 1)) : qk k (s + 1) < qk k s := by
  obtain ⟨i, rfl⟩ : ∃ i : Nat, s = ((i + 1 : Nat) : Int) := ⟨(s - 1).toNat, by (clear hk h2 h3; omega)⟩
  have := of_table (of_table qdec_all hk) (show i < 25 by lia)
  rw [Bool.or_eq_true, decide_eq_true_eq, decide_eq_true_eq] at this
  rcases this with h | h
  · exact absurd ⟨h.1, by (clear hk h1 h2 h3; lia)⟩ h3
  · exact h
theorem qdec {k : Nat} {s : Int} (hk : k < 6) (h1 : 1 ≤ s) (h3 : ¬ (3 ≤ k ∧ s = 1)) : ∀ d : Nat, s + d + 1 ≤ 26 → qk k (s + d + 1) < qk k s
  | 0, h => by rw [show s + ((0 : Nat) : Int) + 1 = s + 1 by lia]; exact qdec1 hk h1 (by lia) h3
  | d + 1, h => by
    have a := qdec hk h1 h3 d (by (clear hk h1 h3; lia))
    have b := qdec1 (s := s + d + 1) hk (by lia) (by (clear hk h1 h3 a; lia)) (by lia)
    rw [show s + ((d + 1 : Nat) : Int) + 1 = s + d + 1 + 1 by lia]
    clear hk h1 h3 h; omega
theorem qdec_lt {k : Nat} {s t : Int} (hk : k < 6) (h1 : 1 ≤ s) (h3 : ¬ (3 ≤ k ∧ s = 1)) (h : s < t) (ht : t ≤ 26) : qk k t < qk k s := by
  have := qdec hk h1 h3 (t - s - 1).toNat (by lia)
  rw [show s + ((t - s - 1).toNat : Int) + 1 = t by (clear hk h1 h3 ht this; lia)] at this
  exact this
noncomputable def VLim : Int := 1000000000000000000000000
theorem q_le {k : Nat} {s : Int} (hk : k < 6) (h1 : 1 ≤ s) (h2 : s ≤ 26) (h3 : ¬ (3 ≤ k ∧ s = 1)) : qk k s < 100000000000000000000000000 := by
  have tb : ((List.range 6).all fun k => (List.range 26).all fun s => decide (3 ≤ k ∧ s = 0) || decide (qk k ((s + 1 : Nat) : Int) < 100000000000000000000000000)) = true := by decide +kernel
  obtain ⟨i, rfl⟩ : ∃ i : Nat, s = ((i + 1 : Nat) : Int) := ⟨(s - 1).toNat, by (clear hk h2 h3 tb; omega)⟩
  have := of_table (of_table tb hk) (show i < 26 by lia)
  rw [Bool.or_eq_true, decide_eq_true_eq, decide_eq_true_eq] at this
  rcases this with h | h
  · exact absurd ⟨h.1, by (clear hk tb h1 h2 h3; lia)⟩ h3
  · exact h
theorem vv_pos {k : Nat} {v : Int} (h : 0 < v) : 0 < vv k v := by
  unfold vv; split
  · exact Int.mul_pos h h
  · exact h
theorem vv_lt {k : Nat} {v : Int} (h : 0 < v) (h2 : v < VLim) : vv k v < VLim * VLim := by
  unfold vv; split
  · exact Int.mul_lt_mul h2 (Int.le_of_lt h2) h (by decide)
  · exact Int.lt_trans h2 (by decide)
theorem val_fin {k : Nat} {v s H T : Int} (hk : k < 6) (h : 0 < v) (h2 : v < VLim) (h1 : 1 ≤ s) (hs : s ≤ 26) (h3 : ¬ (3 ≤ k ∧ s = 1)) : valF k v s H T = vv k v * qk k s ∧ 0 < valF k v s H T ∧ valF k v s H T < BigV := by
  have e : valF k v s H T = vv k v * qk k s := by unfold valF; rw [if_neg (by exact Nat.ne_of_lt hk), if_neg h3]
  have d := den_ok hk h1 hs h3
  have a := vv_pos (k := k) h
  refine ⟨e, by rw [e]; exact Int.mul_pos a d.2.2.2, ?_⟩
  rw [e]
  refine Int.lt_of_lt_of_le (Int.mul_lt_mul (vv_lt h h2) (Int.le_of_lt (q_le hk h1 hs h3)) d.2.2.2 (by decide)) (by decide)
theorem val_inf {k : Nat} {v H T : Int} (hk : k < 6) (h : 3 ≤ k) : valF k v 1 H T = BigV := by
  unfold valF; rw [if_neg (by exact Nat.ne_of_lt hk), if_pos ⟨h, rfl⟩]
theorem val6 {v s H T : Int} : valF 6 v s H T = v * H - s * T := rfl
theorem val_mono {k : Nat} {v s t H T : Int} (hk : k ≤ 6) (hv : 0 < v) (hv2 : v < VLim) (hT : 0 < T) (h1 : 1 ≤ s) (hst : s < t) (ht : t ≤ 26) : valF k v t H T < valF k v s H T := by
  by_cases h6 : k = 6
  · subst h6
    rw [val6, val6]
    have : s * T < t * T := Int.mul_lt_mul_of_pos_right hst hT
    lia
  · have ft := val_fin (k := k) (H := H) (T := T) (by lia) hv hv2 (show 1 ≤ t by lia) ht (by lia)
    by_cases h3 : 3 ≤ k ∧ s = 1
    · rw [h3.2, val_inf (by lia) h3.1]
      exact ft.2.2
    · rw [ft.1, (val_fin (k := k) (by lia) hv hv2 h1 (by (clear hk hv hv2 hT h1 h6 ft h3; lia)) h3).1]
      exact Int.mul_lt_mul_of_pos_left (qdec_lt (by lia) h1 h3 hst ht) (vv_pos hv)

theorem claim_fin {k : Nat} (hk : k < 6) (v s h t : Int) : claimP k v s h t = (vv k v * nf k s, den k s) := by
  match k, hk with
  | 0, _ => simp [claimP, vv, nf, den]
  | 1, _ => simp [claimP, vv, nf, den]
  | 2, _ =>
    by_cases e : s = 1
    · simp [claimP, vv, nf, den, e]; lia
    · simp [claimP, vv, nf, den, e]
  | 3, _ => simp [claimP, vv, nf, den]
  | 4, _ => simp [claimP, vv, nf, den]
  | 5, _ => simp [claimP, vv, nf, den]
theorem cross {a b d d' e e' D : Int} (h : d * e = D) (h' : d' * e' = D) (hd : 0 < d) (hd' : 0 < d') (hD : 0 < D) : b * d < a * d' ↔ b * e' < a * e := by
  have he : 0 < e := Int.pos_of_mul_pos_right (by rw [h]; exact hD) hd
  have he' : 0 < e' := Int.pos_of_mul_pos_right (by rw [h']; exact hD) hd'
  constructor
  · intro q
    have q2 := Int.mul_lt_mul_of_pos_right q (Int.mul_pos he he')
    have e1 : b * d * (e * e') = (b * e') * D := by rw [← h]; grind
    have e2 : a * d' * (e * e') = (a * e) * D := by rw [← h']; grind
    rw [e1, e2] at q2
    exact Int.lt_of_mul_lt_mul_right q2 (Int.le_of_lt hD)
  · intro q
    have q2 := Int.mul_lt_mul_of_pos_right q (Int.mul_pos hd hd')
    have e1 : b * e' * (d * d') = (b * d) * D := by rw [← h']; grind
    have e2 : a * e * (d * d') = (a * d') * D := by rw [← h]; grind
    rw [e1, e2] at q2
    exact Int.lt_of_mul_lt_mul_right q2 (Int.le_of_lt hD)
theorem abv_iff {k : Nat} (hk : k ≤ 6) {v v' s s' H T : Int} (hv : 0 < v) (hv2 : v < VLim) (hw : 0 < v') (hw2 : v' < VLim) (h1 : 1 ≤ s) (h2 : s ≤ 26) (h1' : 1 ≤ s') (h2' : s' ≤ 26) :
    abv (claimP k v s H T) (claimP k v' s' H T) = true ↔ valF k v' s' H T < valF k v s H T := by
  unfold abv
  rw [decide_eq_true_eq]
  by_cases h6 : k = 6
  · subst h6
    rw [val6, val6]
    show (v * H - s * T) * 1 > (v' * H - s' * T) * 1 ↔ _
    lia
  have hk6 : k < 6 := by lia
  rw [claim_fin hk6, claim_fin hk6]
  have d0 : 3 ≤ k → den k 1 = 0 ∧ 0 < nf k 1 := by
    intro h
    match k, hk6, h with
    | 3, _, _ => decide
    | 4, _, _ => decide
    | 5, _, _ => decide
  show vv k v' * nf k s' * den k s < vv k v * nf k s * den k s' ↔ _
  by_cases c : 3 ≤ k ∧ s = 1
  · obtain ⟨c1, rfl⟩ := c
    rw [(d0 c1).1, Int.mul_zero, val_inf hk6 c1]
    by_cases c' : s' = 1
    · subst c'
      rw [(d0 c1).1, Int.mul_zero, val_inf hk6 c1]
      rfl
    · have f := val_fin (k := k) (H := H) (T := T) hk6 hw hw2 h1' h2' (by (clear hk hv hv2 hw hw2 h1' h2' h6 hk6 d0 c1 h1 h2; lia))
      have d := den_ok hk6 h1' h2' (by (clear hk hv hv2 hw hw2 h1' h2' h6 hk6 d0 c1 h1 h2 f; lia))
      have : 0 < vv k v * nf k 1 * den k s' := Int.mul_pos (Int.mul_pos (vv_pos hv) (d0 c1).2) d.1
      constructor
      · intro _; exact f.2.2
      · intro _; exact this
  · have d := den_ok hk6 h1 h2 c
    have f := val_fin (k := k) (H := H) (T := T) hk6 hv hv2 h1 h2 c
    by_cases c' : 3 ≤ k ∧ s' = 1
    · obtain ⟨c1, rfl⟩ := c'
      rw [(d0 c1).1, Int.mul_zero, val_inf hk6 c1]
      have : 0 < vv k v' * nf k 1 * den k s := Int.mul_pos (Int.mul_pos (vv_pos hw) (d0 c1).2) d.1
      clear hk hv hv2 hw hw2 h1 h2 h6 hk6 d0 c d c1 h1' h2'; omega
    · have d' := den_ok hk6 h1' h2' c'
      have f' := val_fin (k := k) (H := H) (T := T) hk6 hw hw2 h1' h2' c'
      rw [f.1, f'.1]
      unfold qk
      rw [← Int.mul_assoc, ← Int.mul_assoc]
      exact cross d.2.1 d'.2.1 d.1 d'.1 (by decide)
end Mine
end
section
namespace Mine

theorem med_up {a b p r t A : Int} (ha : 0 < a) (hb : 0 < b) (hp : 0 < p) (hr : 0 < r) (ht : t * (p + r) ≤ p * r) (h1 : a * p ≤ A) (h2 : b * r ≤ A) : (a + b) * t ≤ A ∧ ((a + b) * t = A → a * p = A ∧ b * r = A) := by
  have q1 : a * p * r ≤ A * r := Int.mul_le_mul_of_nonneg_right h1 (Int.le_of_lt hr)
  have q2 : b * r * p ≤ A * p := Int.mul_le_mul_of_nonneg_right h2 (Int.le_of_lt hp)
  have q3 : (a + b) * (t * (p + r)) ≤ (a + b) * (p * r) := Int.mul_le_mul_of_nonneg_left ht (by lia)
  have e1 : (a + b) * (p * r) = a * p * r + b * r * p := by grind
  have e2 : (a + b) * (t * (p + r)) = (a + b) * t * (p + r) := by grind
  have e3 : A * (p + r) = A * r + A * p := by grind
  refine ⟨Int.le_of_mul_le_mul_right (a := p + r) (by lia) (by lia), fun e => ?_⟩
  rw [e2, e] at q3
  exact ⟨Int.le_antisymm h1 (Int.le_of_mul_le_mul_right (a := r) (by (clear ha hb hp hr ht h1 h2 q1 e2 e; lia)) hr), Int.le_antisymm h2 (Int.le_of_mul_le_mul_right (a := p) (by (clear ha hb hp hr ht h1 h2 q2 e2 e; lia)) hp)⟩
theorem med_low {a b p r t A : Int} (ha : 0 < a) (hb : 0 < b) (hp : 0 < p) (hr : 0 < r) (ht : p * r ≤ t * (p + r)) (h1 : A ≤ a * p) (h2 : A ≤ b * r) : A ≤ (a + b) * t ∧ ((a + b) * t = A → a * p = A ∧ b * r = A) := by
  have q1 : A * r ≤ a * p * r := Int.mul_le_mul_of_nonneg_right h1 (Int.le_of_lt hr)
  have q2 : A * p ≤ b * r * p := Int.mul_le_mul_of_nonneg_right h2 (Int.le_of_lt hp)
  have q3 : (a + b) * (p * r) ≤ (a + b) * (t * (p + r)) := Int.mul_le_mul_of_nonneg_left ht (by lia)
  have e1 : (a + b) * (p * r) = a * p * r + b * r * p := by grind
  have e2 : (a + b) * (t * (p + r)) = (a + b) * t * (p + r) := by grind
  have e3 : A * (p + r) = A * r + A * p := by grind
  refine ⟨Int.le_of_mul_le_mul_right (a := p + r) (by lia) (by lia), fun e => ?_⟩
  rw [e2, e] at q3
  exact ⟨Int.le_antisymm (Int.le_of_mul_le_mul_right (a := r) (by (clear ha hb hp hr ht h1 h2 q1 e2 e; lia)) hr) h1, Int.le_antisymm (Int.le_of_mul_le_mul_right (a := p) (by (clear ha hb hp hr ht h1 h2 q2 e2 e; lia)) hp) h2⟩
theorem le_of_sq {a b : Int} (hb : 0 ≤ b) (h : a * a ≤ b * b) : a ≤ b := by
  apply Classical.byContradiction
  intro q
  have q : b < a := by lia
  have q1 : b * b ≤ b * a := Int.mul_le_mul_of_nonneg_left (Int.le_of_lt q) hb
  have q2 : b * a < a * a := Int.mul_lt_mul_of_pos_right q (by exact Int.lt_of_le_of_lt hb q)
  omega
theorem sq_up {a b P R Z t p r U A D : Int} (ha : 0 < a) (hb : 0 < b) (hP : 0 < P) (hR : 0 < R) (hZ : Z = P + R + 2 * U) (hU : 0 ≤ U) (hPR : P * R ≤ U * U) (hA : 0 ≤ A) (hD : 0 < D)
    (ep : p * P = D) (er : r * R = D) (et : t * Z = D) (h1 : a * a * p ≤ A) (h2 : b * b * r ≤ A) : (a + b) * (a + b) * t ≤ A ∧ ((a + b) * (a + b) * t = A → a * a * p = A ∧ b * b * r = A) := by
  have u1 : a * a * D ≤ A * P := by
    have := Int.mul_le_mul_of_nonneg_right h1 (Int.le_of_lt hP)
    rw [← ep]; rw [Int.mul_assoc (a * a)] at this; exact this
  have u2 : b * b * D ≤ A * R := by
    have := Int.mul_le_mul_of_nonneg_right h2 (Int.le_of_lt hR)
    rw [← er]; rw [Int.mul_assoc (b * b)] at this; exact this
  have hZ0 : 0 < Z := by lia
  have aa : 0 < a * a := Int.mul_pos ha ha
  have bb : 0 < b * b := Int.mul_pos hb hb
  have u3 : a * b * D ≤ A * U := by
    refine le_of_sq (Int.mul_nonneg hA hU) ?_
    have s1 : a * a * D * (b * b * D) ≤ A * P * (A * R) := Int.mul_le_mul u1 u2 (Int.le_of_lt (Int.mul_pos bb hD)) (Int.mul_nonneg hA (Int.le_of_lt hP))
    have s2 : A * A * (P * R) ≤ A * A * (U * U) := Int.mul_le_mul_of_nonneg_left hPR (Int.mul_nonneg hA hA)
    have e1 : a * b * D * (a * b * D) = a * a * D * (b * b * D) := by grind
    have e2 : A * P * (A * R) = A * A * (P * R) := by grind
    have e3 : A * U * (A * U) = A * A * (U * U) := by grind
    lia
  have e4 : (a + b) * (a + b) * D = a * a * D + b * b * D + 2 * (a * b * D) := by grind
  have e5 : A * Z = A * P + A * R + 2 * (A * U) := by rw [hZ]; grind
  have e6 : (a + b) * (a + b) * t * Z = (a + b) * (a + b) * D := by rw [Int.mul_assoc, et]
  refine ⟨Int.le_of_mul_le_mul_right (a := Z) (by (clear ha hb hP hR hZ hU hPR hA hD ep er et h1 h2 hZ0 aa bb; lia)) hZ0, fun e => ?_⟩
  rw [e] at e6
  have v1 : A * P ≤ a * a * p * P := by rw [Int.mul_assoc (a * a), ep]; (clear ha hb hP hR hZ hU hPR hA hD ep er et h1 h2 u1 hZ0 aa bb e; lia)
  have v2 : A * R ≤ b * b * r * R := by rw [Int.mul_assoc (b * b), er]; (clear ha hb hP hR hZ hU hPR hA hD ep er et h1 h2 u2 hZ0 aa bb e4 e v1; lia)
  exact ⟨Int.le_antisymm h1 (Int.le_of_mul_le_mul_right v1 hP), Int.le_antisymm h2 (Int.le_of_mul_le_mul_right v2 hR)⟩
theorem sq_low {a b P R Z t p r U A D : Int} (ha : 0 < a) (hb : 0 < b) (hP : 0 < P) (hR : 0 < R) (hZ : Z = P + R + 2 * U) (hU : 0 ≤ U) (hPR : U * U ≤ P * R) (hA : 0 ≤ A) (hD : 0 < D)
    (ep : p * P = D) (er : r * R = D) (et : t * Z = D) (h1 : A ≤ a * a * p) (h2 : A ≤ b * b * r) : A ≤ (a + b) * (a + b) * t ∧ ((a + b) * (a + b) * t = A → a * a * p = A ∧ b * b * r = A) := by
  have u1 : A * P ≤ a * a * D := by
    have := Int.mul_le_mul_of_nonneg_right h1 (Int.le_of_lt hP)
    rw [← ep]; rw [Int.mul_assoc (a * a)] at this; exact this
  have u2 : A * R ≤ b * b * D := by
    have := Int.mul_le_mul_of_nonneg_right h2 (Int.le_of_lt hR)
    rw [← er]; rw [Int.mul_assoc (b * b)] at this; exact this
  have hZ0 : 0 < Z := by lia
  have aa : 0 < a * a := Int.mul_pos ha ha
  have bb : 0 < b * b := Int.mul_pos hb hb
  have ab : 0 < a * b := Int.mul_pos ha hb
  have u3 : A * U ≤ a * b * D := by
    refine le_of_sq (Int.le_of_lt (Int.mul_pos ab hD)) ?_
    have s1 : A * P * (A * R) ≤ a * a * D * (b * b * D) := Int.mul_le_mul u1 u2 (Int.mul_nonneg hA (Int.le_of_lt hR)) (Int.le_of_lt (Int.mul_pos aa hD))
    have s2 : A * A * (U * U) ≤ A * A * (P * R) := Int.mul_le_mul_of_nonneg_left hPR (Int.mul_nonneg hA hA)
    have e1 : a * b * D * (a * b * D) = a * a * D * (b * b * D) := by grind
    have e2 : A * P * (A * R) = A * A * (P * R) := by grind
    have e3 : A * U * (A * U) = A * A * (U * U) := by grind
    lia
  have e4 : (a + b) * (a + b) * D = a * a * D + b * b * D + 2 * (a * b * D) := by grind
  have e5 : A * Z = A * P + A * R + 2 * (A * U) := by rw [hZ]; grind
  have e6 : (a + b) * (a + b) * t * Z = (a + b) * (a + b) * D := by rw [Int.mul_assoc, et]
  refine ⟨Int.le_of_mul_le_mul_right (a := Z) (by (clear ha hb hP hR hZ hU hPR hA hD ep er et h1 h2 hZ0 aa bb ab; lia)) hZ0, fun e => ?_⟩
  rw [e] at e6
  have v1 : a * a * p * P ≤ A * P := by rw [Int.mul_assoc (a * a), ep]; (clear ha hb hP hR hZ hU hPR hA hD ep er et h1 h2 u1 hZ0 aa bb ab e; lia)
  have v2 : b * b * r * R ≤ A * R := by rw [Int.mul_assoc (b * b), er]; (clear ha hb hP hR hZ hU hPR hA hD ep er et h1 h2 u2 hZ0 aa bb ab e4 e v1; lia)
  exact ⟨Int.le_antisymm (Int.le_of_mul_le_mul_right v1 hP) h1, Int.le_antisymm (Int.le_of_mul_le_mul_right v2 hR) h2⟩

theorem up_tab : ((List.range 6).all fun k => (List.range 13).all fun x => (List.range 13).all fun y => decide (k = 3) || decide (3 ≤ k ∧ (x = 0 ∨ y = 0)) || decide (qk k ((x + y + 2 : Nat) : Int) * (qk k ((x + 1 : Nat) : Int) + qk k ((y + 1 : Nat) : Int)) ≤ qk k ((x + 1 : Nat) : Int) * qk k ((y + 1 : Nat) : Int))) = true := by decide +kernel
theorem low_tab : ((List.range 6).all fun k => (List.range 13).all fun x => (List.range 13).all fun y => decide (k = 3) || decide (x = 0 ∨ y = 0) || decide (3 ≤ k ∧ (x = 1 ∨ y = 1)) || decide (qk k (x : Int) * qk k (y : Int) ≤ qk k ((x + y - 1 : Nat) : Int) * (qk k (x : Int) + qk k (y : Int)))) = true := by decide +kernel

theorem q3 {s : Int} (h1 : 2 ≤ s) (h2 : s ≤ 26) : qk 3 s * (s * (s - 1)) = Dn := by
  have d := den_ok (k := 3) (s := s) (by decide) (by lia) h2 (by lia)
  have e : qk 3 s = Dn / den 3 s := by unfold qk; show 1 * _ = _; rw [Int.one_mul]
  rw [e, Int.mul_comm]; exact d.2.1

theorem val_up {k : Nat} (hk : k < 6) {v w x y H T A : Int} (hv : 0 < v) (hw : 0 < w) (hvw : v + w < VLim) (hx : 0 ≤ x) (hx2 : x ≤ 12) (hy : 0 ≤ y) (hy2 : y ≤ 12) (h3 : 3 ≤ k → 1 ≤ x ∧ 1 ≤ y)
    (h1 : valF k v (x + 1) H T ≤ A) (h2 : valF k w (y + 1) H T ≤ A) : valF k (v + w) (x + y + 2) H T ≤ A ∧ (valF k (v + w) (x + y + 2) H T = A → valF k v (x + 1) H T = A ∧ valF k w (y + 1) H T = A) := by
  have f1 := val_fin (k := k) (s := x + 1) (H := H) (T := T) hk hv (by lia) (by lia) (by lia) (by lia)
  have f2 := val_fin (k := k) (s := y + 1) (H := H) (T := T) hk hw (by lia) (by lia) (by lia) (by lia)
  have f3 := val_fin (k := k) (s := x + y + 2) (H := H) (T := T) hk (show 0 < v + w by lia) hvw (by lia) (by lia) (by (clear hk hv hw hvw h3 h1 h2 f1 f2; lia))
  have A0 : 0 ≤ A := by lia
  rw [f1.1] at h1 ⊢
  rw [f2.1] at h2 ⊢
  rw [f3.1]
  have d1 := den_ok (k := k) (s := x + 1) hk (by lia) (by lia) (by lia)
  have d2 := den_ok (k := k) (s := y + 1) hk (by lia) (by lia) (by lia)
  by_cases c : k = 3
  · subst c
    have hx1 := (h3 (by decide)).1
    have hy1 := (h3 (by decide)).2
    have e1 := q3 (s := x + 1) (by (clear hv hw hvw hy hy2 A0 hk h3 h1 h2 f1 f2 f3 d1 d2 hy1; lia)) (by lia)
    have e2 := q3 (s := y + 1) (by (clear hv hw hvw hx hx2 A0 hk h3 h1 h2 f1 f2 f3 d1 d2 hx1 e1; lia)) (by lia)
    have e3 := q3 (s := x + y + 2) (by (clear hv hw hvw A0 hk h3 h1 h2 f1 f2 f3 d1 d2 e1 e2; lia)) (by lia)
    have p1 : 0 < (x + 1) * (x + 1 - 1) := Int.mul_pos (by exact Int.lt_add_one_of_le hx) (by (clear hv hw hvw hy hy2 A0 hk h3 h1 h2 f1 f2 f3 d1 d2 hy1 e1 e2 e3; lia))
    have p2 : 0 < (y + 1) * (y + 1 - 1) := Int.mul_pos (by exact Int.lt_add_one_of_le hy) (by (clear hv hw hvw hx hx2 A0 hk h3 h1 h2 f1 f2 f3 d1 d2 hx1 e1 e2 e3 p1; lia))
    have hPR : (x + 1) * (x + 1 - 1) * ((y + 1) * (y + 1 - 1)) ≤ (x + 1) * (y + 1) * ((x + 1) * (y + 1)) := by
      have : (x + 1) * (x + 1 - 1) ≤ (x + 1) * (x + 1) := Int.mul_le_mul_of_nonneg_left (by lia) (by (clear hv hw hvw hy hy2 A0 hk h3 h1 h2 f1 f2 f3 d1 d2 hy1 e1 e2 e3 p1 p2; lia))
      have q : (y + 1) * (y + 1 - 1) ≤ (y + 1) * (y + 1) := Int.mul_le_mul_of_nonneg_left (by lia) (by (clear hv hw hvw hx hx2 A0 hk h3 h1 h2 f1 f2 f3 d1 d2 hx1 e1 e2 e3 p1 p2 this; lia))
      have := Int.mul_le_mul this q (Int.le_of_lt p2) (Int.mul_nonneg (by (clear hv hw hvw hy hy2 A0 hk h3 h1 h2 f1 f2 f3 d1 d2 hy1 e1 e2 e3 p1 p2 this q; lia)) (by (clear hv hw hvw hy hy2 A0 hk h3 h1 h2 f1 f2 f3 d1 d2 hy1 e1 e2 e3 p1 p2 this q; lia)))
      have e : (x + 1) * (y + 1) * ((x + 1) * (y + 1)) = (x + 1) * (x + 1) * ((y + 1) * (y + 1)) := by grind
      rw [e]; exact this
    exact sq_up (U := (x + 1) * (y + 1)) hv hw p1 p2 (by grind) (Int.mul_nonneg (by (clear hv hw hvw hy hy2 A0 hk h3 h1 h2 f1 f2 f3 d1 d2 hy1 e1 e2 e3 p1 p2 hPR; lia)) (by (clear hv hw hvw hx hx2 A0 hk h3 h1 h2 f1 f2 f3 d1 d2 hx1 e1 e2 e3 p1 p2 hPR; lia))) hPR A0 (by decide) e1 e2 e3 h1 h2
  · have hvv : ∀ v, vv k v = v := fun v => by unfold vv; rw [if_neg c]
    rw [hvv] at h1 h2 ⊢
    rw [hvv]
    rw [hvv]
    obtain ⟨i, rfl⟩ : ∃ i : Nat, x = (i : Int) := ⟨x.toNat, by lia⟩
    obtain ⟨j, rfl⟩ : ∃ j : Nat, y = (j : Int) := ⟨y.toNat, by lia⟩
    have t := of_table (of_table (of_table up_tab hk) (show i < 13 by lia)) (show j < 13 by lia)
    rw [Bool.or_eq_true, Bool.or_eq_true, decide_eq_true_eq, decide_eq_true_eq, decide_eq_true_eq] at t
    rcases t with (t | t) | t
    · exact absurd t c
    · have := h3 t.1; (clear hk hv hw hvw A0 c hvv f1 d1 f2 d2 h3 f3; lia)
    · exact med_up hv hw d1.2.2.2 d2.2.2.2 t h1 h2
theorem val_low {k : Nat} (hk : k < 6) {v w x y H T A : Int} (hv : 0 < v) (hw : 0 < w) (hvw : v + w < VLim) (hT : 0 < T) (hx : 0 ≤ x) (hx2 : x ≤ 12) (hy : 0 ≤ y) (hy2 : y ≤ 12) (h3 : 3 ≤ k → 1 ≤ x ∧ 1 ≤ y) (hxy : 2 ≤ x + y) (hA : A < BigV) (A0 : 0 ≤ A)
    (h1 : 0 < x → A ≤ valF k v x H T) (h2 : 0 < y → A ≤ valF k w y H T) : A ≤ valF k (v + w) (x + y - 1) H T ∧ (valF k (v + w) (x + y - 1) H T = A → 0 < x ∧ 0 < y ∧ valF k v x H T = A ∧ valF k w y H T = A) := by
  -- one side alone: strict
  have one : ∀ {v w s : Int}, 0 < v → 0 < w → v + w < VLim → 1 ≤ s → s ≤ 25 → ¬ (3 ≤ k ∧ s = 1) → A ≤ valF k v s H T → A < valF k (v + w) s H T := by
    intro v w s hv hw hvw hs hs2 c h
    have f1 := val_fin (k := k) (s := s) (H := H) (T := T) hk hv (by lia) (by omega) (by lia) (by omega)
    have f2 := val_fin (k := k) (s := s) (H := H) (T := T) hk (show 0 < v + w by lia) hvw (by omega) (by lia) (by omega)
    have d := den_ok (k := k) (s := s) hk (by omega) (by lia) (by omega)
    rw [f1.1] at h
    rw [f2.1]
    have : vv k v < vv k (v + w) := by
      unfold vv; split
      · exact Int.mul_lt_mul (by lia) (by lia) hv (by lia)
      · lia
    have := Int.mul_lt_mul_of_pos_right this d.2.2.2
    clear hk hT hx hx2 hy hy2 h3 hxy hA A0 h1 h2 hv hw hvw hs hs2 c f2 d; lia
  have strict : A < valF k (v + w) (x + y - 1) H T → A ≤ valF k (v + w) (x + y - 1) H T ∧ (valF k (v + w) (x + y - 1) H T = A → 0 < x ∧ 0 < y ∧ valF k v x H T = A ∧ valF k w y H T = A) := fun h => ⟨by exact Int.le_of_lt h, fun e => by (clear hk hv hw hvw hT hx hx2 hy hy2 h3 hxy hA A0 h1 h2 one; omega)⟩
  by_cases x0 : x = 0
  · subst x0
    apply strict
    have := one hw hv (by (clear hk hv hw hT hy hy2 hA A0 h2 one hx hx2 h3 hxy h1 strict; lia)) (show 1 ≤ y by lia) (by lia) (by lia) (h2 (by lia))
    have m := val_mono (k := k) (v := v + w) (s := y - 1) (t := y) (H := H) (T := T) (by exact Nat.le_of_lt hk) (by lia) hvw hT (by (clear hk hv hw hvw hT hA A0 h2 one hx hx2 h3 h1 strict this; lia)) (by lia) (by lia)
    rw [Int.add_comm w v] at this
    rw [show 0 + y - 1 = y - 1 by (clear hk hv hw hvw hT hy hy2 hA A0 h2 one hx hx2 h3 hxy h1 strict this m; lia)]
    clear hk hv hw hvw hT hy hy2 hA A0 h2 one hx hx2 h3 hxy h1 strict; omega
  by_cases y0 : y = 0
  · subst y0
    apply strict
    have := one hv hw (by omega) (show 1 ≤ x by lia) (by lia) (by lia) (h1 (by lia))
    have m := val_mono (k := k) (v := v + w) (s := x - 1) (t := x) (H := H) (T := T) (by exact Nat.le_of_lt hk) (by lia) hvw hT (by (clear hk hv hw hvw hT hA A0 h1 one x0 hy hy2 h3 h2 strict this; lia)) (by lia) (by lia)
    rw [show x + 0 - 1 = x - 1 by (clear hk hv hw hvw hT hx hx2 hA A0 h1 one x0 hy hy2 h3 hxy h2 strict this m; lia)]
    omega
  by_cases c1 : 3 ≤ k ∧ (x = 1 ∨ y = 1)
  · apply strict
    by_cases z : x + y - 1 = 1
    · rw [z, val_inf hk c1.1]; exact hA
    · rcases c1.2 with rfl | rfl
      · have := one hw hv (by (clear hk hv hw hT hy hy2 hA A0 h2 one y0 hx hx2 h3 hxy h1 strict x0 c1 z; lia)) (show 1 ≤ y by (clear hk hv hw hvw hT hA A0 h2 one y0 hx hx2 h3 h1 strict x0 c1 z; lia)) (by lia) (by (clear hk hv hw hvw hT hy hy2 hA A0 h2 one y0 hx hx2 h3 hxy h1 strict x0 c1; lia)) (h2 (by (clear hk hv hw hvw hT hA A0 h2 one y0 hx hx2 h3 h1 strict x0 c1 z; lia)))
        rw [Int.add_comm w v] at this
        rw [show 1 + y - 1 = y by (clear hk hv hw hvw hT hy hy2 hA A0 h2 one y0 hx hx2 h3 hxy h1 strict x0 c1 z this; lia)]; exact this
      · have := one hv hw (by omega) (show 1 ≤ x by (clear hk hv hw hvw hT hA A0 h1 one x0 hy hy2 h3 h2 strict y0 c1 z; lia)) (by lia) (by (clear hk hv hw hvw hT hx hx2 hA A0 h1 one x0 hy hy2 h3 hxy h2 strict y0 c1; lia)) (h1 (by (clear hk hv hw hvw hT hA A0 h1 one x0 hy hy2 h3 h2 strict y0 c1 z; lia)))
        rw [show x + 1 - 1 = x by (clear hk hv hw hvw hT hx hx2 hA A0 h1 one x0 hy hy2 h3 hxy h2 strict y0 c1 z this; lia)]; exact this
  have h1 := h1 (by lia)
  have h2 := h2 (by lia)
  have f1 := val_fin (k := k) (s := x) (H := H) (T := T) hk hv (by lia) (by lia) (by lia) (by lia)
  have f2 := val_fin (k := k) (s := y) (H := H) (T := T) hk hw (by lia) (by lia) (by lia) (by lia)
  have f3 := val_fin (k := k) (s := x + y - 1) (H := H) (T := T) hk (show 0 < v + w by lia) hvw (by (clear hk hv hw hvw hT hx hx2 hy hy2 h3 hA A0 one strict x0 y0 c1 h1 h2 f1 f2; lia)) (by (clear hk hv hw hvw hT h3 hxy hA A0 one strict x0 y0 c1 h1 h2 f1 f2; lia)) (by (clear hv hw hvw hT h3 hxy hA A0 one strict h1 h2 f1 f2; lia))
  rw [f1.1] at h1 ⊢
  rw [f2.1] at h2 ⊢
  rw [f3.1]
  have d1 := den_ok (k := k) (s := x) hk (by lia) (by lia) (by lia)
  have d2 := den_ok (k := k) (s := y) hk (by lia) (by lia) (by lia)
  by_cases c : k = 3
  · subst c
    have e1 := q3 (s := x) (by lia) (by lia)
    have e2 := q3 (s := y) (by lia) (by lia)
    have e3 := q3 (s := x + y - 1) (by (clear hv hw hvw hT hx2 hy2 hA A0 hk h3 one strict h1 h2 f1 f2 f3 d1 d2 e1 e2; lia)) (by (clear hv hw hvw hT hxy hA A0 x0 y0 hk h3 one strict c1 h1 h2 f1 f2 f3 d1 d2 e1 e2; lia))
    have p1 : 0 < x * (x - 1) := Int.mul_pos (by lia) (by lia)
    have p2 : 0 < y * (y - 1) := Int.mul_pos (by lia) (by lia)
    have hPR : (x - 1) * (y - 1) * ((x - 1) * (y - 1)) ≤ x * (x - 1) * (y * (y - 1)) := by
      have a : (x - 1) * (x - 1) ≤ x * (x - 1) := Int.mul_le_mul_of_nonneg_right (by lia) (by lia)
      have q : (y - 1) * (y - 1) ≤ y * (y - 1) := Int.mul_le_mul_of_nonneg_right (by lia) (by lia)
      have := Int.mul_le_mul a q (Int.mul_nonneg (by lia) (by lia)) (Int.le_of_lt p1)
      have e : (x - 1) * (y - 1) * ((x - 1) * (y - 1)) = (x - 1) * (x - 1) * ((y - 1) * (y - 1)) := by grind
      rw [e]; exact this
    have := sq_low (U := (x - 1) * (y - 1)) hv hw p1 p2 (by grind) (Int.mul_nonneg (by lia) (by lia)) hPR A0 (by decide) e1 e2 e3 h1 h2
    exact ⟨this.1, fun e => ⟨by lia, by lia, this.2 e⟩⟩
  · have hvv : ∀ v, vv k v = v := fun v => by unfold vv; rw [if_neg c]
    rw [hvv] at h1 h2 ⊢
    rw [hvv]
    rw [hvv]
    obtain ⟨i, rfl⟩ : ∃ i : Nat, x = (i : Int) := ⟨x.toNat, by lia⟩
    obtain ⟨j, rfl⟩ : ∃ j : Nat, y = (j : Int) := ⟨y.toNat, by lia⟩
    have t := of_table (of_table (of_table low_tab hk) (show i < 13 by lia)) (show j < 13 by lia)
    rw [Bool.or_eq_true, Bool.or_eq_true, Bool.or_eq_true, decide_eq_true_eq, decide_eq_true_eq, decide_eq_true_eq, decide_eq_true_eq] at t
    rcases t with ((t | t) | t) | t
    · exact absurd t c
    · lia
    · lia
    · rw [show ((i + j - 1 : Nat) : Int) = (i : Int) + j - 1 by lia] at t
      have := med_low hv hw d1.2.2.2 d2.2.2.2 t h1 h2
      exact ⟨this.1, fun e => ⟨by lia, by lia, this.2 e⟩⟩
theorem val_up6 {v w x y H T A : Int} (h2 : valF 6 w (y + 1) H T < 0) (h1 : valF 6 v (x + 1) H T ≤ A) : valF 6 (v + w) (x + y + 2) H T < A := by
  rw [val6] at *
  have e1 : (v + w) * H = v * H + w * H := Int.add_mul ..
  have e2 : (x + y + 2) * T = (x + 1) * T + (y + 1) * T := by grind
  lia
theorem val_low6 {v w x y H T A : Int} (hv : 0 < v) (hw : 0 < w) (hH : 0 < H) (hT : 0 < T) (hx : 0 ≤ x) (hy : 0 ≤ y) (hxy : 2 ≤ x + y) (n1 : 0 < x → -T ≤ valF 6 v x H T) (n2 : 0 < y → -T ≤ valF 6 w y H T)
    (h1 : 0 < x → A < valF 6 v x H T) (h2 : 0 < y → A < valF 6 w y H T) : A < valF 6 (v + w) (x + y - 1) H T := by
  rw [val6] at *
  have e1 : (v + w) * H = v * H + w * H := Int.add_mul ..
  have e2 : (x + y - 1) * T = x * T + y * T - T := by grind
  have p1 : 0 < v * H := Int.mul_pos hv hH
  have p2 : 0 < w * H := Int.mul_pos hw hH
  by_cases x0 : x = 0
  · subst x0
    have := h2 (by (clear hv hw hH hT hy n2 h2 e1 p1 p2 hx n1 h1 e2; lia))
    clear hv hw hH hy n2 h2 e1 p2 hx hxy n1 h1 e2; lia
  · by_cases y0 : y = 0
    · subst y0
      have := h1 (by lia)
      clear hv hw hH hx n1 h1 e1 p1 x0 hy hxy n2 h2 e2; lia
    · have := h1 (by lia)
      have := n2 (by lia)
      clear hv hw hH hT hx hy hxy n1 n2 h1 h2 e1 e2 p1 p2 x0 y0; lia
end Mine
end
section
namespace Mine

noncomputable def psi (g q : Nat) : Nat := if q < g then q else q + 1
theorem psi_pos {a g : Nat} (h : a ≠ g) : psi g (posA a g) = a := by unfold psi posA; split <;> split <;> lia
theorem psi_ne (g q : Nat) : psi g q ≠ g := by unfold psi; split <;> lia
theorem psi_lt {m g q : Nat} (hq : q < m - 1) : psi g q < m := by unfold psi; split <;> omega
theorem psi_inj {g q r : Nat} (h : psi g q = psi g r) : q = r := by unfold psi at h; split at h <;> split at h <;> lia
theorem psi_mono {g q r : Nat} : psi g q < psi g r ↔ q < r := by unfold psi; split <;> split <;> lia
theorem psi_J {a g q : Nat} (h : a ≠ g) (hq : q ≠ posA a g) : psi g q ≠ a := fun e => hq (psi_inj (e.trans (psi_pos h).symm))
theorem posA_lt {m a g : Nat} (ha : a < m) (hg : g < m) (h : a ≠ g) : posA a g < m - 1 := by unfold posA; split <;> omega
/-- both ahead of the pair: ahead of it when joined -/
theorem psi_ahead {a g q : Nat} (h : a ≠ g) (h1 : psi g q < a) (h2 : psi g q < g) : q < posA a g := by
  unfold psi at h1 h2; unfold posA; split at h1 <;> split <;> omega
theorem psi_behind {a g q : Nat} (h : a ≠ g) (h1 : a < psi g q) (h2 : g < psi g q) : posA a g < q := by
  unfold psi at h1 h2; unfold posA; split at h1 <;> split <;> omega
theorem sumN_psi (f : Nat → Int) {g : Nat} : ∀ {m : Nat}, g < m → sumN (m - 1) (fun q => f (psi g q)) + f g = sumN m f
  | 0, h => absurd h (by lia)
  | m + 1, h => by
    rw [Nat.add_sub_cancel]
    by_cases e : g = m
    · subst e
      rw [sumN_congr (y := f) fun i hi => by unfold psi; rw [if_pos hi]]
      rfl
    · have ih := sumN_psi f (g := g) (m := m) (by lia)
      obtain ⟨m', rfl⟩ : ∃ m', m = m' + 1 := ⟨m - 1, by lia⟩
      rw [Nat.add_sub_cancel] at ih
      have : psi g m' = m' + 1 := by unfold psi; rw [if_neg (by lia)]
      simp only [sumN] at ih ⊢
      rw [this]; lia

/-- the setting of a join -/
structure JoinIn (k m : Nat) (v x : Nat → Int) (H T : Int) (a g : Nat) : Prop where
  k6 : k ≤ 6
  am : a < m
  gm : g < m
  ag : a ≠ g
  vp : ∀ i, i < m → 0 < v i ∧ v i < VLim
  vs : v a + v g < VLim
  x0 : ∀ i, i < m → 0 ≤ x i ∧ x i ≤ 12
  xs : x a + x g ≤ 12
  H0 : 0 < H
  T0 : 0 < T
  x3 : 3 ≤ k → k < 6 → ∀ i, i < m → 1 ≤ x i
  n6 : k = 6 → ∀ i, i < m → (0 < x i → -T ≤ valF 6 (v i) (x i) H T) ∧ valF 6 (v i) (x i + 1) H T < 0
  st6 : k = 6 → ∀ i j, i < m → j < m → i ≠ j → 0 < x i → valF 6 (v j) (x j + 1) H T < valF 6 (v i) (x i) H T
  m7 : m ≤ 7
noncomputable def vlf (k : Nat) (v : Nat → Int) (H T : Int) (i : Nat) (s : Int) : Int := valF k (v i) s H T
noncomputable def jn (f : Nat → Int) (a g q : Nat) : Int := upd f a (f g) (psi g q)
variable {k m : Nat} {v x : Nat → Int} {H T : Int} {a g : Nat}
theorem vlf_val (hk : k ≤ 6) (hm : m ≤ 7) (hT : 0 < T) (hv : ∀ i, i < m → 0 < v i ∧ v i < VLim) : Val m 26 (vlf k v H T) :=
  ⟨hm, fun i s t hi hs hst ht => val_mono hk (hv i hi).1 (hv i hi).2 hT hs hst ht⟩
theorem jn_J (h : a ≠ g) (f : Nat → Int) : jn f a g (posA a g) = f a + f g := by unfold jn; rw [psi_pos h, upd_at]
theorem jn_ne (h : a ≠ g) (f : Nat → Int) {q : Nat} (hq : q ≠ posA a g) : jn f a g q = f (psi g q) := by unfold jn; rw [upd_ne (psi_J h hq)]
theorem JoinIn.vp' (D : JoinIn k m v x H T a g) : ∀ q, q < m - 1 → 0 < jn v a g q ∧ jn v a g q < VLim := by
  intro q hq
  by_cases e : q = posA a g
  · subst e
    rw [jn_J D.ag]
    have := D.vp a D.am; have := D.vp g D.gm; have := D.vs
    clear D hq; omega
  · rw [jn_ne D.ag v e]
    exact D.vp _ (psi_lt hq)
theorem JoinIn.x0' (D : JoinIn k m v x H T a g) : ∀ q, q < m - 1 → 0 ≤ jn x a g q ∧ jn x a g q ≤ 12 := by
  intro q hq
  by_cases e : q = posA a g
  · subst e
    rw [jn_J D.ag]
    have := D.x0 a D.am; have := D.x0 g D.gm; have := D.xs
    lia
  · rw [jn_ne D.ag x e]
    exact D.x0 _ (psi_lt hq)
theorem JoinIn.val (D : JoinIn k m v x H T a g) : Val m 26 (vlf k v H T) := vlf_val D.k6 D.m7 D.T0 D.vp
theorem JoinIn.val' (D : JoinIn k m v x H T a g) : Val (m - 1) 26 (vlf k (jn v a g) H T) := vlf_val D.k6 (by have := D.m7; omega) D.T0 D.vp'

theorem join_others (D : JoinIn k m v x H T a g) (G : Good m (keyOf (vlf k v H T)) x) : ∀ i j, i < m - 1 → j < m - 1 → i ≠ j → i ≠ posA a g → j ≠ posA a g → 0 < jn x a g i → keyOf (vlf k (jn v a g) H T) j (jn x a g j + 1) < keyOf (vlf k (jn v a g) H T) i (jn x a g i) := by
  intro i j hi hj nij iJ jJ
  rw [D.val'.lt hi hj, jn_ne D.ag x iJ, jn_ne D.ag x jJ]
  intro hp
  have h := (D.val.lt (psi_lt hi) (psi_lt hj)).mp (G _ _ (psi_lt hi) (psi_lt hj) (fun e => nij (psi_inj e)) hp)
  unfold vlf at h ⊢
  rw [jn_ne D.ag v iJ, jn_ne D.ag v jJ, ← psi_mono (g := g)]
  exact h
theorem join_up (D : JoinIn k m v x H T a g) (G : Good m (keyOf (vlf k v H T)) x) : ∀ q, q < m - 1 → q ≠ posA a g → 0 < jn x a g q → keyOf (vlf k (jn v a g) H T) (posA a g) (jn x a g (posA a g) + 2) < keyOf (vlf k (jn v a g) H T) q (jn x a g q) := by
  intro q hq qJ
  have hJ := posA_lt D.am D.gm D.ag
  rw [D.val'.lt hq hJ, jn_ne D.ag x qJ]
  intro hp
  have pq := psi_lt (g := g) hq
  have g1 := (D.val.lt pq D.am).mp (G _ _ pq D.am (psi_J D.ag qJ) hp)
  have g2 := (D.val.lt pq D.gm).mp (G _ _ pq D.gm (psi_ne g q) hp)
  unfold vlf at g1 g2 ⊢
  rw [jn_ne D.ag v qJ, jn_J D.ag, jn_J D.ag]
  have ha := D.x0 a D.am; have hg := D.x0 g D.gm; have va := D.vp a D.am; have vg := D.vp g D.gm
  by_cases k6 : k = 6
  · subst k6
    left
    exact val_up6 (D.n6 rfl g D.gm).2 (by lia)
  · have hk6 : k < 6 := by have := D.k6; lia
    have u := val_up (k := k) (H := H) (T := T) hk6 va.1 vg.1 D.vs ha.1 ha.2 hg.1 hg.2 (fun h => ⟨D.x3 h hk6 a D.am, D.x3 h hk6 g D.gm⟩) (A := valF k (v (psi g q)) (x (psi g q)) H T) (by lia) (by lia)
    by_cases e : valF k (v a + v g) (x a + x g + 2) H T = valF k (v (psi g q)) (x (psi g q)) H T
    · right
      have u2 := u.2 e
      exact ⟨e, psi_ahead D.ag (by (clear D G hq qJ hJ hp pq ha hg va vg; lia)) (by (clear D G hq qJ hJ hp pq g1 ha hg va vg; lia))⟩
    · left
      have := u.1
      lia
theorem join_low (D : JoinIn k m v x H T a g) (G : Good m (keyOf (vlf k v H T)) x) : 2 ≤ jn x a g (posA a g) → ∀ q, q < m - 1 → q ≠ posA a g → keyOf (vlf k (jn v a g) H T) q (jn x a g q + 1) < keyOf (vlf k (jn v a g) H T) (posA a g) (jn x a g (posA a g) - 1) := by
  intro h2 q hq qJ
  have hJ := posA_lt D.am D.gm D.ag
  rw [jn_J D.ag] at h2
  rw [D.val'.lt hJ hq, jn_ne D.ag x qJ]
  have pq := psi_lt (g := g) hq
  have ha := D.x0 a D.am; have hg := D.x0 g D.gm; have va := D.vp a D.am; have vg := D.vp g D.gm
  have vq := D.vp _ pq; have hxq := D.x0 _ pq
  have g1 : 0 < x a → _ := fun hp => (D.val.lt D.am pq).mp (G _ _ D.am pq (Ne.symm (psi_J D.ag qJ)) hp)
  have g2 : 0 < x g → _ := fun hp => (D.val.lt D.gm pq).mp (G _ _ D.gm pq (Ne.symm (psi_ne g q)) hp)
  unfold vlf at g1 g2 ⊢
  rw [jn_ne D.ag v qJ, jn_J D.ag, jn_J D.ag]
  by_cases k6 : k = 6
  · subst k6
    left
    exact val_low6 va.1 vg.1 D.H0 D.T0 ha.1 hg.1 h2 (D.n6 rfl a D.am).1 (D.n6 rfl g D.gm).1 (fun hp => D.st6 rfl a _ D.am pq (Ne.symm (psi_J D.ag qJ)) hp) (fun hp => D.st6 rfl g _ D.gm pq (Ne.symm (psi_ne g q)) hp)
  · have hk6 : k < 6 := by have := D.k6; lia
    have f := val_fin (k := k) (s := x (psi g q) + 1) (H := H) (T := T) hk6 vq.1 vq.2 (by lia) (by lia) (fun c => by have := D.x3 c.1 hk6 _ pq; lia)
    have u := val_low (k := k) (H := H) (T := T) hk6 va.1 vg.1 D.vs D.T0 ha.1 ha.2 hg.1 hg.2 (fun h => ⟨D.x3 h hk6 a D.am, D.x3 h hk6 g D.gm⟩) h2 (A := valF k (v (psi g q)) (x (psi g q) + 1) H T) f.2.2 (by exact Int.le_of_lt f.2.1) (fun hp => by have := g1 hp; (clear D G h2 hq qJ hJ pq ha hg va vg vq hxq g1 g2 k6 hk6 hp; omega)) (fun hp => by have := g2 hp; (clear D G h2 hq qJ hJ pq ha hg va vg vq hxq g1 g2 k6 hk6 hp; omega))
    by_cases e : valF k (v a + v g) (x a + x g - 1) H T = valF k (v (psi g q)) (x (psi g q) + 1) H T
    · right
      have u2 := u.2 e
      have := g1 u2.1
      have := g2 u2.2.1
      exact ⟨e.symm, psi_behind D.ag (by (clear D G h2 hq qJ hJ pq ha hg va vg vq hxq g1 g2 k6 hk6 u; lia)) (by (clear D G h2 hq qJ hJ pq ha hg va vg vq hxq g1 g2 k6 hk6 u; lia))⟩
    · left
      have := u.1
      clear D G h2 hq qJ hJ pq ha hg va vg vq hxq g1 g2 k6 hk6 this; omega

/-- joined: good at once, or after one seat from the weakest last to the strongest next -/
theorem join_good (D : JoinIn k m v x H T a g) (G : Good m (keyOf (vlf k v H T)) x) {last best : Nat} (E : Ends (m - 1) (keyOf (vlf k (jn v a g) H T)) (jn x a g) last best)
    (h : ¬ Good (m - 1) (keyOf (vlf k (jn v a g) H T)) (jn x a g)) : best ≠ last ∧ (posA a g = best ∨ posA a g = last) ∧ Good (m - 1) (keyOf (vlf k (jn v a g) H T)) (upd (upd (jn x a g) last (-1)) best 1) := by
  have fx : Fits (m - 1) 26 (jn x a g) := fun i hi => by have := D.x0' i hi; lia
  rw [good_iff D.val'.key fx E] at h
  have hb := D.x0' best E.bm
  have e := exchange D.val'.key fx E (by lia) (posA a g) (posA_lt D.am D.gm D.ag) (join_others D G) (join_up D G) (join_low D G) h
  refine ⟨e.1, ?_, e.2⟩
  apply Classical.byContradiction
  intro q
  have := join_others D G last best E.lm E.bm (Ne.symm e.1) (fun c => q (.inr c.symm)) (fun c => q (.inl c.symm)) E.lp
  lia
end Mine
end
section
namespace Mine
open PySem

structure VOK (V : List Int) : Prop where
  m0 : 0 < V.length
  m7 : V.length ≤ 7
  vp : ∀ i, i < V.length → 0 < gt0 V i ∧ gt0 V i < VLim
  s0 : 0 < V.sum
  s1 : V.sum < VLim
structure XOK (V X : List Int) : Prop where
  len : X.length = V.length
  x0 : ∀ i, i < V.length → 0 ≤ gt0 X i ∧ gt0 X i ≤ 24
noncomputable def vL (k : Nat) (V : List Int) (H : Int) : Nat → Int → Int := vlf k (gt0 V) H V.sum
variable {k : Nat} {V X : List Int} {H : Int}
theorem VOK.val (O : VOK V) (hk : k ≤ 6) : Val V.length 26 (vL k V H) := vlf_val hk O.m7 O.s0 O.vp
theorem XOK.fits (O : XOK V X) : Fits V.length 26 (gt0 X) := fun i hi => by have := O.x0 i hi; lia
theorem clm_abv (hk : k ≤ 6) (O : VOK V) {i j : Nat} {s t : Int} (hi : i < V.length) (hj : j < V.length) (h1 : 1 ≤ s) (h2 : s ≤ 26) (h1' : 1 ≤ t) (h2' : t ≤ 26) : abv (clm k V H i s) (clm k V H j t) = true ↔ vL k V H j t < vL k V H i s :=
  abv_iff hk (O.vp i hi).1 (O.vp i hi).2 (O.vp j hj).1 (O.vp j hj).2 h1 h2 h1' h2'

theorem endsN_inv (hk : k ≤ 6) (O : VOK V) (P : XOK V X) : ∀ i, i ≤ V.length →
    ((endsN k V X H i).1 = 0 → ∀ p, p < i → ¬ 0 < gt0 X p) ∧
    ((endsN k V X H i).1 ≠ 0 → (endsN k V X H i).1 - 1 < i ∧ 0 < gt0 X ((endsN k V X H i).1 - 1) ∧ ∀ p, p < i → p ≠ (endsN k V X H i).1 - 1 → 0 < gt0 X p → keyOf (vL k V H) ((endsN k V X H i).1 - 1) (gt0 X ((endsN k V X H i).1 - 1)) < keyOf (vL k V H) p (gt0 X p)) ∧
    ((endsN k V X H i).2 = 0 ∨ (endsN k V X H i).2 < i) ∧
    (∀ p, p < i → p ≠ (endsN k V X H i).2 → keyOf (vL k V H) p (gt0 X p + 1) < keyOf (vL k V H) (endsN k V X H i).2 (gt0 X (endsN k V X H i).2 + 1))
  | 0, _ => ⟨fun _ p hp => absurd hp (by lia), fun h => absurd rfl h, .inl rfl, fun p hp => absurd hp (by lia)⟩
  | i + 1, hi => by
    obtain ⟨a1, a2, a3, a4⟩ := endsN_inv hk O P i (by exact Nat.le_of_lt hi)
    have W := O.val hk (H := H)
    have xi := P.x0 i (by assumption)
    rw [show endsN k V X H (i + 1) = endsStep k V X H i (endsN k V X H i) from rfl]
    generalize endsN k V X H i = σ at *
    have hsnd : σ.2 < V.length := by lia
    have hx2 := P.x0 σ.2 hsnd
    have c2 := clm_abv (H := H) hk O (i := i) (j := σ.2) (s := gt0 X i + 1) (t := gt0 X σ.2 + 1) (by assumption) hsnd (by lia) (by lia) (by lia) (by lia)
    refine ⟨?_, ?_, ?_, ?_⟩
    · unfold endsStep
      dsimp only
      split
      · intro h; exact absurd h (by lia)
      · rename_i q
        intro h p hp
        by_cases e : p = i
        · subst e
          intro hpos
          exact q ⟨hpos, .inl h⟩
        · exact a1 h p (by lia)
    · unfold endsStep
      dsimp only
      split
      · rename_i q
        intro _
        rw [Nat.add_sub_cancel]
        refine ⟨by exact Nat.lt_succ_self _, q.1, fun p hp np hpp => ?_⟩
        have q2 := q.2
        rcases q2 with q2 | q2
        · exact absurd hpp (a1 q2 p (by lia))
        · by_cases h0 : σ.1 = 0
          · exact absurd hpp (a1 h0 p (by lia))
          obtain ⟨b1, b2, b3⟩ := a2 h0
          have hx1 := P.x0 (σ.1 - 1) (by (clear hk O P W xi a1 a2 a3 a4 hsnd hx2 c2 q hp np hpp q2 h0 b2 b3; lia))
          have c1 := clm_abv (H := H) hk O (i := i) (j := σ.1 - 1) (s := gt0 X i) (t := gt0 X (σ.1 - 1)) (by assumption) (by (clear hk O P W xi a1 a2 a3 a4 hsnd hx2 c2 q hp np hpp q2 h0 b2 b3 hx1; lia)) (by lia) (by lia) (by assumption) (by lia)
          rw [q2] at c1
          have c3 : ¬ vL k V H (σ.1 - 1) (gt0 X (σ.1 - 1)) < vL k V H i (gt0 X i) := fun h => Bool.noConfusion (c1.mpr h)
          have c4 : keyOf (vL k V H) i (gt0 X i) < keyOf (vL k V H) (σ.1 - 1) (gt0 X (σ.1 - 1)) := (W.lt (by (clear hk O P W xi a1 a2 a3 a4 hsnd hx2 c2 q hp np hpp q2 h0 b2 b3 hx1 c1 c3; lia)) (by assumption)).mpr (by (clear hk O P hi W xi a1 a2 a3 a4 hsnd hx2 c2 q hp np hpp q2 h0 b2 b3 hx1 c1; lia))
          by_cases e : p = σ.1 - 1
          · subst e; exact c4
          · have := b3 p (by lia) e hpp
            lia
      · rename_i q
        intro h0
        obtain ⟨b1, b2, b3⟩ := a2 h0
        refine ⟨by (clear hk O P hi W xi a1 a2 a3 a4 hsnd hx2 c2 q h0 b2 b3; lia), b2, fun p hp np hpp => ?_⟩
        by_cases e : p = i
        · subst e
          have hx1 := P.x0 (σ.1 - 1) (by (clear hk O P W hsnd hx2 h0 b2 np hpp xi a1 a2 a3 a4 c2 q b3 hp; lia))
          have c1 := clm_abv (H := H) hk O (i := p) (j := σ.1 - 1) (s := gt0 X p) (t := gt0 X (σ.1 - 1)) (by assumption) (by (clear hk O P W hsnd hx2 h0 b2 np hpp xi a1 a2 a3 a4 c2 q b3 hp hx1; lia)) (by assumption) (by lia) (by assumption) (by lia)
          have c3 : abv (clm k V H p (gt0 X p)) (clm k V H (σ.1 - 1) (gt0 X (σ.1 - 1))) = true := by
            cases hc : abv (clm k V H p (gt0 X p)) (clm k V H (σ.1 - 1) (gt0 X (σ.1 - 1))) with
            | true => rfl
            | false => exact absurd ⟨hpp, .inr hc⟩ q
          exact (W.lt (by assumption) (by (clear hk O P W hsnd hx2 h0 b2 np hpp xi a1 a2 a3 a4 c2 q b3 hp hx1 c1 c3; lia))).mpr (.inl (c1.mp c3))
        · exact b3 p (by lia) np hpp
    · unfold endsStep
      dsimp only
      split
      · right; (exact Nat.lt_succ_self _)
      · lia
    · unfold endsStep
      dsimp only
      split
      · rename_i q
        intro p hp np
        have c3 := c2.mp q
        have c4 : keyOf (vL k V H) σ.2 (gt0 X σ.2 + 1) < keyOf (vL k V H) i (gt0 X i + 1) := (W.lt (by assumption) (by omega)).mpr (.inl c3)
        by_cases e : p = σ.2
        · subst e; exact c4
        · have := a4 p (by lia) e
          lia
      · rename_i q
        intro p hp np
        by_cases e : p = i
        · subst e
          have c3 : ¬ vL k V H σ.2 (gt0 X σ.2 + 1) < vL k V H p (gt0 X p + 1) := fun h => q (c2.mpr h)
          exact (W.lt (by omega) (by assumption)).mpr (by (clear hk O P W hsnd hx2 hi xi a1 a2 a4 hp c3; lia))
        · exact a4 p (by lia) np

theorem ends_ok (hk : k ≤ 6) (O : VOK V) (P : XOK V X) (hp : ∃ i, i < V.length ∧ 0 < gt0 X i) : ∃ l b, (endsN k V X H X.length).1 = l + 1 ∧ (endsN k V X H X.length).2 = b ∧ Ends V.length (keyOf (vL k V H)) (gt0 X) l b := by
  obtain ⟨a1, a2, a3, a4⟩ := endsN_inv (H := H) hk O P V.length (Nat.le_refl _)
  rw [P.len]
  obtain ⟨i, hi, hpi⟩ := hp
  have h0 : (endsN k V X H V.length).1 ≠ 0 := fun h => a1 h i hi hpi
  obtain ⟨b1, b2, b3⟩ := a2 h0
  have := O.m0
  exact ⟨(endsN k V X H V.length).1 - 1, _, by lia, rfl, b1, by lia, b2, b3, a4⟩
theorem best_ok (hk : k ≤ 6) (O : VOK V) (P : XOK V X) : (endsN k V X H X.length).2 < V.length ∧ ∀ p, p < V.length → p ≠ (endsN k V X H X.length).2 → keyOf (vL k V H) p (gt0 X p + 1) < keyOf (vL k V H) (endsN k V X H X.length).2 (gt0 X (endsN k V X H X.length).2 + 1) := by
  obtain ⟨a1, a2, a3, a4⟩ := endsN_inv (H := H) hk O P V.length (Nat.le_refl _)
  rw [P.len]
  have := O.m0
  exact ⟨by lia, a4⟩

theorem weigh_val (hk : k ≤ 6) (O : VOK V) (P : XOK V X) {l b : Nat} (E : Ends V.length (keyOf (vL k V H)) (gt0 X) l b) :
    (Good V.length (keyOf (vL k V H)) (gt0 X) → (TieS V.length (vL k V H) (gt0 X) → weighT k V X H l b = 0) ∧ (¬ TieS V.length (vL k V H) (gt0 X) → weighT k V X H l b = -1)) ∧
    (¬ Good V.length (keyOf (vL k V H)) (gt0 X) → weighT k V X H l b = 1) := by
  have W := O.val hk (H := H)
  have xl := P.x0 l E.lm; have xb := P.x0 b E.bm
  have lp := E.lp
  have u := clm_abv (H := H) hk O (i := b) (j := l) (s := gt0 X b + 1) (t := gt0 X l) E.bm E.lm (by lia) (by lia) (by assumption) (by lia)
  have d := clm_abv (H := H) hk O (i := l) (j := b) (s := gt0 X l) (t := gt0 X b + 1) E.lm E.bm (by assumption) (by lia) (by lia) (by lia)
  have gi := good_iff W.key P.fits E
  have ti := fun g => tie_ends W P.fits E g
  have lt := W.lt (i := l) (j := b) (s := gt0 X l) (t := gt0 X b + 1) E.lm E.bm
  have same : b = l → vL k V H b (gt0 X b + 1) < vL k V H l (gt0 X l) := by
    intro e
    subst e
    exact W.mono b (gt0 X b) (gt0 X b + 1) E.bm (by assumption) (by lia) (by lia)
  have c1 : ((abv (clm k V H b (gt0 X b + 1)) (clm k V H l (gt0 X l)) || (decide ((b : Int) < (l : Int)) && !abv (clm k V H l (gt0 X l)) (clm k V H b (gt0 X b + 1)))) = true) ↔ (vL k V H l (gt0 X l) < vL k V H b (gt0 X b + 1) ∨ (b < l ∧ ¬ vL k V H b (gt0 X b + 1) < vL k V H l (gt0 X l))) := by
    rw [Bool.or_eq_true, Bool.and_eq_true, decide_eq_true_eq, Bool.not_eq_true', ← Bool.not_eq_true, u, d]
    clear hk O P E W xl xb lp ti; omega
  constructor
  · intro g
    have g2 := lt.mp (gi.mp g)
    have nc : ¬ ((abv (clm k V H b (gt0 X b + 1)) (clm k V H l (gt0 X l)) || (decide ((b : Int) < (l : Int)) && !abv (clm k V H l (gt0 X l)) (clm k V H b (gt0 X b + 1)))) = true) := by
      rw [c1]
      clear hk O P E W xl xb lp u d gi ti lt same c1 g; lia
    unfold weighT
    rw [if_neg nc]
    refine ⟨fun t => ?_, fun t => ?_⟩
    · have := (ti g).mp t
      rw [if_neg]
      rw [d]; (clear hk O P E W xl xb lp u d gi ti lt same c1 g g2 nc t; lia)
    · have : ¬ _ := fun h => t ((ti g).mpr h)
      rw [if_pos]
      rw [d]; (clear hk O P E W xl xb lp u d gi ti lt same c1 g nc t; lia)
  · intro g
    have g2 : ¬ _ := fun h => g (gi.mpr (lt.mpr h))
    unfold weighT
    rw [if_pos]
    rw [c1]
    by_cases e : b = l
    · have := same e; (clear hk O P E W xl xb lp u d gi ti lt same c1 g e; omega)
    · clear hk O P E W xl xb lp u d ti c1 e; lia

theorem fine_ok (O : VOK V) (P : XOK V X) (hH : H.natAbs < Lim) : Fine V X H := by
  have L : VLim + 100 < Lim := by decide +kernel
  have V0 : (1000 : Int) < Lim := by decide +kernel
  have out : ∀ {L : List Int} {p : Nat}, ¬ p < L.length → gt0 L p = 0 := by
    intro L p h
    unfold gt0
    rw [List.getD_eq_getElem?_getD, List.getElem?_eq_none (by exact Nat.le_of_not_lt h)]; rfl
  refine ⟨P.len, by have := O.m7; lia, fun p => ?_, fun p => ?_, hH, by have := O.s0; have := O.s1; (clear O P hH out; omega)⟩
  · by_cases h : p < V.length
    · have := O.vp p h; (clear O P hH out h; omega)
    · rw [out h]; (exact Nat.zero_lt_succ _)
  · by_cases h : p < V.length
    · have := P.x0 p h; lia
    · rw [out (by rw [P.len]; exact h)]; decide

theorem weighs_ok {H : Nat} (hk : k ≤ 6) (O : VOK V) (P : XOK V X) (hp : ∃ i, i < V.length ∧ 0 < gt0 X i) (hH : H ≤ 1000) : ∃ l b w, Ends V.length (keyOf (vL k V H)) (gt0 X) l b ∧ Weighs k V X H w l b ∧
    (Good V.length (keyOf (vL k V H)) (gt0 X) → (TieS V.length (vL k V H) (gt0 X) → w = 0) ∧ (¬ TieS V.length (vL k V H) (gt0 X) → w = -1)) ∧ (¬ Good V.length (keyOf (vL k V H)) (gt0 X) → w = 1) := by
  have L : 1000 < Lim := by decide +kernel
  obtain ⟨l, b, e1, e2, E⟩ := ends_ok (H := H) hk O P hp
  have w := weigh_val hk O P E
  exact ⟨l, b, _, E, fun n => weigh_ev (fine_ok O P (by (clear hk O P e1 e2 E w; omega))) hk n l b E.lm E.bm e1 e2, w.1, w.2⟩
end Mine
end
section
namespace Mine
open PySem

theorem sortI_count (p : Int → Bool) (l : List Int) : ((sortI l).filter p).length = (l.filter p).length := ((sortI_perm l).filter p).length_eq
theorem sortI_mem {x : Int} {l : List Int} : x ∈ sortI l ↔ x ∈ l := (sortI_perm l).mem_iff
theorem gt0_get {l : List Int} {i : Nat} (h : i < l.length) : gt0 l i = l[i] := by
  unfold gt0
  rw [List.getD_eq_getElem?_getD, List.getElem?_eq_getElem h]; rfl
theorem sorted_le {s : List Int} (h : s.Pairwise (· ≤ ·)) {i j : Nat} (hij : i ≤ j) (hj : j < s.length) : gt0 s i ≤ gt0 s j := by
  rw [gt0_get hj, gt0_get (show i < s.length by exact Nat.lt_of_le_of_lt hij hj)]
  by_cases e : i = j
  · subst e; exact Int.le_refl _
  · exact List.pairwise_iff_getElem.mp h i j (by exact Nat.lt_of_le_of_lt hij hj) hj (by lia)

theorem nth_large {l : List Int} {N : Nat} (hN : 0 < N) (hl : N ≤ l.length) : (l.filter fun w => decide (w > gt0 (sortI l) (l.length - N))).length < N ∧ N ≤ (l.filter fun w => decide (w ≥ gt0 (sortI l) (l.length - N))).length ∧ gt0 (sortI l) (l.length - N) ∈ l := by
  have hs := sortI_sorted l
  have hlen := sortI_length l
  have ct := fun p => sortI_count p l
  have hmem : gt0 (sortI l) (l.length - N) ∈ l := sortI_mem.mp (gt0_mem (by rw [hlen]; (clear hs hlen ct; omega)))
  generalize hμ : gt0 (sortI l) (l.length - N) = μ at *
  generalize sortI l = s at *
  have hq : l.length - N < s.length := by (clear hmem hs ct hμ; omega)
  rw [← ct, ← ct]
  refine ⟨?_, ?_, hmem⟩
  · have e : s = s.take (l.length - N + 1) ++ s.drop (l.length - N + 1) := (List.take_append_drop _ _).symm
    rw [e, List.filter_append, List.length_append]
    have z : (s.take (l.length - N + 1)).filter (fun w => decide (w > μ)) = [] := by
      rw [List.filter_eq_nil_iff]
      intro x hx
      obtain ⟨i, hi, rfl⟩ := List.mem_iff_getElem.mp hx
      rw [List.length_take] at hi
      rw [List.getElem_take, ← gt0_get]
      have := sorted_le hs (show i ≤ l.length - N by lia) hq
      rw [decide_eq_true_eq]
      lia
    rw [z]
    have := List.length_filter_le (fun w => decide (w > μ)) (s.drop (l.length - N + 1))
    rw [List.length_drop] at this
    rw [List.length_nil]
    clear hN hmem hs ct hμ e z; omega
  · have e : s = s.take (l.length - N) ++ s.drop (l.length - N) := (List.take_append_drop _ _).symm
    rw [e, List.filter_append, List.length_append]
    have z : (s.drop (l.length - N)).filter (fun w => decide (w ≥ μ)) = s.drop (l.length - N) := by
      rw [List.filter_eq_self]
      intro x hx
      obtain ⟨i, hi, rfl⟩ := List.mem_iff_getElem.mp hx
      rw [List.length_drop] at hi
      rw [List.getElem_drop, ← gt0_get (by (clear hN hl hmem hs ct hμ e hx; lia))]
      have := sorted_le hs (show l.length - N ≤ l.length - N + i by exact Nat.le_add_right _ _) (by (clear hN hl hmem hs ct hμ e hx; lia))
      rw [decide_eq_true_eq]
      lia
    rw [z, List.length_drop]
    lia

theorem sumN_shift (x : Nat → Int) : ∀ m, sumN (m + 1) x = x 0 + sumN m fun i => x (i + 1)
  | 0 => by simp [sumN]
  | m + 1 => by
    rw [sumN, sumN_shift x m]
    simp only [sumN]; lia
theorem sum_sumN : ∀ X : List Int, X.sum = sumN X.length (gt0 X)
  | [] => rfl
  | a :: r => by
    rw [List.length_cons, sumN_shift, List.sum_cons, sum_sumN r]; rfl
theorem flat_count (p : Int → Bool) : ∀ L : List (List Int), ((L.flatten.filter p).length : Int) = sumN L.length fun i => (((L.getD i []).filter p).length : Int)
  | [] => rfl
  | a :: r => by
    rw [List.flatten_cons, List.filter_append, List.length_append, List.length_cons, sumN_shift]
    have := flat_count p r
    show (((a.filter p).length + (r.flatten.filter p).length : Nat) : Int) = ((a.filter p).length : Int) + sumN r.length fun i => (((r.getD i []).filter p).length : Int)
    lia

theorem dec_above {μ : Int} : ∀ {l : List Int}, l.Pairwise (· > ·) → (∀ c, c < l.length → (gt0 l c > μ ↔ c < above μ l)) ∧ (l.filter fun w => decide (w ≥ μ)).length = above μ l + (if (l.any fun b => b == μ) = true then 1 else 0) ∧ above μ l ≤ l.length ∧ ((l.any fun b => b == μ) = true → above μ l < l.length ∧ gt0 l (above μ l) = μ) ∧ ((l.any fun b => b == μ) = false → ∀ c, c < l.length → gt0 l c ≠ μ)
  | [], _ => by simp [above]
  | w :: r, h => by
    rw [List.pairwise_cons] at h
    obtain ⟨a1, a2, a3, a4, a5⟩ := dec_above (μ := μ) h.2
    by_cases hw : w > μ
    · have e : above μ (w :: r) = above μ r + 1 := by
        unfold above
        rw [List.filter_cons_of_pos (by rw [decide_eq_true_eq]; exact hw)]; rfl
      have e2 : ((w :: r).any fun b => b == μ) = r.any fun b => b == μ := by
        rw [List.any_cons]
        have : (w == μ) = false := by rw [beq_eq_false_iff_ne]; (exact Int.ne_of_gt hw)
        rw [this, Bool.false_or]
      rw [e, e2]
      refine ⟨fun c hc => ?_, ?_, ?_, fun q => ?_, fun q c hc => ?_⟩
      · cases c with
        | zero => exact ⟨fun _ => by exact Nat.zero_lt_succ _, fun _ => hw⟩
        | succ c => have := a1 c (by rw [List.length_cons] at hc; lia); show gt0 r c > μ ↔ _; lia
      · rw [List.filter_cons_of_pos (by rw [decide_eq_true_eq]; (exact Int.le_of_lt hw)), List.length_cons, a2]; lia
      · rw [List.length_cons]; lia
      · have := a4 q
        refine ⟨by rw [List.length_cons]; (exact Nat.lt_succ_of_le this.1), this.2⟩
      · cases c with
        | zero => show w ≠ μ; (exact Int.ne_of_gt hw)
        | succ c => exact a5 q c (by rw [List.length_cons] at hc; lia)
    · have z : r.filter (fun w => decide (w ≥ μ)) = [] := by
        rw [List.filter_eq_nil_iff]
        intro x hx
        have := h.1 x hx
        rw [decide_eq_true_eq]; lia
      have z2 : r.filter (fun w => decide (w > μ)) = [] := by
        rw [List.filter_eq_nil_iff]
        intro x hx
        have := h.1 x hx
        rw [decide_eq_true_eq]; lia
      have z3 : (r.any fun b => b == μ) = false := by
        rw [List.any_eq_false]
        intro x hx
        have := h.1 x hx
        rw [beq_iff_eq]; lia
      have e : above μ (w :: r) = 0 := by
        unfold above
        rw [List.filter_cons_of_neg (by rw [decide_eq_true_eq]; exact hw), z2]; rfl
      rw [e, List.any_cons, z3, Bool.or_false]
      refine ⟨fun c hc => ?_, ?_, by exact Nat.zero_le _, fun q => ?_, fun q c hc => ?_⟩
      · cases c with
        | zero => exact ⟨fun h => absurd h hw, fun h => absurd h (by decide)⟩
        | succ c =>
          have hc' : c < r.length := by rw [List.length_cons] at hc; lia
          have := h.1 _ (gt0_mem hc')
          refine ⟨fun q => ?_, fun h => absurd h (by lia)⟩
          have q : gt0 r c > μ := q
          lia
      · rw [List.filter_cons, z]
        by_cases e : w = μ
        · rw [e, beq_self_eq_true, if_pos rfl, if_pos (by rw [decide_eq_true_eq]; lia)]; rfl
        · have : (w == μ) = false := by rw [beq_eq_false_iff_ne]; exact e
          rw [this, if_neg Bool.false_ne_true, if_neg (by rw [decide_eq_true_eq]; lia)]; rfl
      · rw [beq_iff_eq] at q
        exact ⟨by rw [List.length_cons]; (exact Nat.zero_lt_succ _), q⟩
      · rw [beq_eq_false_iff_ne] at q
        cases c with
        | zero => exact q
        | succ c =>
          have hc' : c < r.length := by rw [List.length_cons] at hc; lia
          have := h.1 _ (gt0_mem hc')
          show gt0 r c ≠ μ
          clear h a1 a2 a3 a4 a5 z z2 z3 e q hc hc'; lia
end Mine
end
section
namespace Mine
open PySem

/-- the loop that hands the seats out, in plain numbers -/
theorem loopX_at {H : Nat} {μ : Int} {WS : List (List Int)} {X : List Int} {N : Nat} (hN : X.sum + N = H) : ∀ i, i ≤ X.length →
    (∀ p, gt0 (loopX H μ WS X i) p = if p < i then selX (gt0 X) (fun i => (WS.getD i []).any fun b => b == μ) N p else gt0 X p) ∧
    (loopX H μ WS X i).sum = X.sum + (min (cnt (fun i => (WS.getD i []).any fun b => b == μ) i) N : Nat)
  | 0, _ => ⟨fun p => by rw [if_neg (by lia)]; rfl, by simp [loopX, cnt]⟩
  | i + 1, hi => by
    obtain ⟨a, b⟩ := loopX_at hN i (by exact Nat.le_of_lt hi)
    have hlen : (loopX H μ WS X i).length = X.length := loopX_length i
    have hset : ∀ (Y : List Int) (p : Nat), i < Y.length → gt0 (Y.set i (gt0 Y i + 1)) p = if p = i then gt0 Y i + 1 else gt0 Y p := by
      intro Y p h
      unfold gt0
      rw [List.getD_eq_getElem?_getD, List.getElem?_set]
      by_cases e : i = p
      · subst e; rw [if_pos rfl, if_pos h, if_pos rfl]; rfl
      · rw [if_neg e, if_neg (Ne.symm e), List.getD_eq_getElem?_getD]
    have hl : ∀ (h : Nat → Bool), cnt h (i + 1) = cnt h i + if h i then 1 else 0 := fun _ => rfl
    have hc : ((loopX H μ WS X i).sum < (H : Int)) ↔ cnt (fun i => (WS.getD i []).any fun b => b == μ) i < N := by rw [b]; (clear hi a b hlen hset hl; omega)
    have key : loopX H μ WS X (i + 1) = stepX H μ WS i (loopX H μ WS X i) := rfl
    generalize hh : (fun i => (WS.getD i []).any fun b => b == μ) = h at *
    have hi' : ((WS.getD i []).any fun b => b == μ) = h i := by rw [← hh]
    have key2 : ∀ p, gt0 (loopX H μ WS X (i + 1)) p = if p < i + 1 then selX (gt0 X) h N p else gt0 X p := by
      intro p
      rw [key]
      unfold stepX
      rw [hi']
      split
      · rename_i q
        rw [Bool.and_eq_true, decide_eq_true_eq, hc] at q
        rw [hset _ _ (by lia), a p, a i, if_neg (show ¬ i < i by lia)]
        by_cases e : p = i
        · subst e
          rw [if_pos rfl, if_pos (by exact Nat.lt_succ_self _)]
          unfold selX
          rw [q.2, Bool.true_and, decide_eq_true q.1, if_pos rfl]
        · rw [if_neg e]
          by_cases e2 : p < i
          · rw [if_pos e2, if_pos (by lia)]
          · rw [if_neg e2, if_neg (by lia)]
      · rename_i q
        rw [Bool.and_eq_true, decide_eq_true_eq, hc] at q
        rw [a p]
        by_cases e : p = i
        · subst e
          rw [if_neg (by lia), if_pos (by exact Nat.lt_succ_self _)]
          unfold selX
          rw [if_neg, Int.add_zero]
          rw [Bool.and_eq_true, decide_eq_true_eq]
          exact fun r => q ⟨r.2, r.1⟩
        · by_cases e2 : p < i
          · rw [if_pos e2, if_pos (by lia)]
          · rw [if_neg e2, if_neg (by lia)]
    refine ⟨key2, ?_⟩
    have hlen2 : (loopX H μ WS X (i + 1)).length = X.length := loopX_length (i + 1)
    rw [sum_sumN, hlen2, sum_sumN X]
    have e1 : sumN X.length (gt0 (loopX H μ WS X (i + 1))) = sumN X.length fun p => if p < i + 1 then selX (gt0 X) h N p else gt0 X p := sumN_congr fun p _ => key2 p
    rw [e1]
    have gen : ∀ m, i + 1 ≤ m → (sumN m fun p => if p < i + 1 then selX (gt0 X) h N p else gt0 X p) = sumN m (gt0 X) + (min (cnt h (i + 1)) N : Nat) := by
      intro m hm
      induction hm with
      | refl =>
        rw [sumN_congr (y := selX (gt0 X) h N) fun p hp => by rw [if_pos hp]]
        exact sel_sum _ _ _ _
      | step hm ih =>
        rename_i m
        simp only [sumN]
        rw [ih, if_neg (by have : i + 1 ≤ m := hm; (exact Nat.not_lt_of_le hm))]
        lia
    exact gen _ hi
theorem tieN_iff {H : Nat} {μ : Int} {WS : List (List Int)} {X : List Int} {N : Nat} (hN : X.sum + N = H) (h0 : 0 < N) : ∀ i, i ≤ X.length → (tieN H μ WS X i = true ↔ N < cnt (fun i => (WS.getD i []).any fun b => b == μ) i)
  | 0, _ => by simp [tieN, cnt]
  | i + 1, hi => by
    have ih := tieN_iff (μ := μ) (WS := WS) hN h0 i (by exact Nat.le_of_lt hi)
    obtain ⟨a, b⟩ := loopX_at (μ := μ) (WS := WS) hN i (by exact Nat.le_of_lt hi)
    show (tieN H μ WS X i || tieB H μ WS i (loopX H μ WS X i)) = true ↔ cnt _ i + (if _ then 1 else 0) > N
    have hc : ((loopX H μ WS X i).sum = (H : Int)) ↔ N ≤ cnt (fun i => (WS.getD i []).any fun b => b == μ) i := by rw [b]; (clear h0 hi a b; omega)
    rw [Bool.or_eq_true, ih]
    unfold tieB
    rw [Bool.and_eq_true, decide_eq_true_eq, hc]
    dsimp only
    by_cases hq : ((WS.getD i []).any fun b => b == μ) = true
    · rw [if_pos hq]
      constructor
      · rintro (h | ⟨h, _⟩) <;> lia
      · intro h
        exact .inr ⟨by exact Nat.le_of_lt_succ h, hq⟩
    · rw [if_neg hq]
      constructor
      · rintro (h | ⟨_, h⟩)
        · omega
        · exact absurd h hq
      · intro h
        exact .inl (by omega)

variable {k : Nat} {V : List Int} {H : Nat}
noncomputable def bs (k : Nat) : Nat := if k < 3 then 0 else 1
theorem divs_at (hk : k < 6) {c : Nat} (hc : c < H) : (divs k H).getD c (0, 0) = (den k ((bs k + c + 1 : Nat) : Int), nf k ((bs k + c + 1 : Nat) : Int)) := by
  have gr : ∀ {f : Nat → Int × Int} {n : Nat}, c < n → ((List.range n).map f).getD c (0, 0) = f c := by
    intro f n h
    rw [List.getD_eq_getElem?_getD, List.getElem?_map, List.getElem?_range h]; rfl
  match k, hk with
  | 0, _ => show ((List.range H).map _).getD c (0, 0) = _; rw [gr hc]; simp [den, nf, bs]
  | 1, _ => show ((List.range H).map _).getD c (0, 0) = _; rw [gr hc]; simp [den, nf, bs]; lia
  | 2, _ =>
    cases c with
    | zero => rfl
    | succ c =>
      show ((List.range (H - 1)).map _).getD c (0, 0) = _
      rw [List.getD_eq_getElem?_getD, List.getElem?_map, List.getElem?_range (by (clear hk gr; omega))]
      show ((2 * (1 + (c : Int)) + 1, 1) : Int × Int) = _
      have hs : ((bs 2 + (c + 1) + 1 : Nat) : Int) = (c : Int) + 2 := by
        show ((0 + (c + 1) + 1 : Nat) : Int) = _
        lia
      rw [hs]
      unfold den nf
      simp only
      rw [if_neg (by lia), if_neg (by lia)]
      congr 1
      lia
  | 3, _ => show ((List.range H).map _).getD c (0, 0) = _; rw [gr hc]; simp [den, nf, bs]; grind
  | 4, _ => show ((List.range H).map _).getD c (0, 0) = _; rw [gr hc]; simp [den, nf, bs]; (exact Int.add_comm _ _)
  | 5, _ => show ((List.range H).map _).getD c (0, 0) = _; rw [gr hc]; simp [den, nf, bs]; grind
theorem common_dvd {ds : List (Int × Int)} {c : Nat} : ∀ {n : Nat}, c < n → (ds.getD c (0, 0)).1 ∣ commonN ds n
  | 0, h => absurd h (by lia)
  | n + 1, h => by
    show _ ∣ commonN ds n * (ds.getD n (0, 0)).1
    by_cases e : c = n
    · subst e; exact Int.dvd_mul_left _ _
    · exact Int.dvd_trans (common_dvd (n := n) (by lia)) (Int.dvd_mul_right _ _)
theorem common_pos {ds : List (Int × Int)} : ∀ {n : Nat}, (∀ c, c < n → 0 < (ds.getD c (0, 0)).1) → 0 < commonN ds n
  | 0, _ => by show (0 : Int) < 1; decide
  | n + 1, h => Int.mul_pos (common_pos fun c hc => h c (by lia)) (h n (by exact Nat.lt_succ_self _))

/-- a weight and the value of its seat -/
theorem weight_val (hk : k < 6) (h24 : H ≤ 24) {p T' H' : Int} (hp : 0 < p) (hp2 : p < VLim) {c : Nat} (hc : c < H) :
    wgt k (commonN (divs k H) H) p ((divs k H).getD c (0, 0)) * Dn = valF k p ((bs k + c + 1 : Nat) : Int) H' T' * commonN (divs k H) H := by
  have b1 : bs k ≤ 1 := by unfold bs; split <;> decide
  have b3 : ¬ (3 ≤ k ∧ ((bs k + c + 1 : Nat) : Int) = 1) := by unfold bs; split <;> lia
  have d := den_ok (k := k) (s := ((bs k + c + 1 : Nat) : Int)) hk (by lia) (by lia) b3
  have f := val_fin (k := k) (s := ((bs k + c + 1 : Nat) : Int)) (H := H') (T := T') hk hp hp2 (by (clear hk hp hp2 b3 d; lia)) (by lia) b3
  have dv := common_dvd (ds := divs k H) hc
  have da := divs_at (H := H) hk hc
  rw [da] at dv ⊢
  generalize commonN (divs k H) H = cm at *
  rw [f.1]
  unfold qk
  generalize den k ((bs k + c + 1 : Nat) : Int) = e at *
  generalize nf k ((bs k + c + 1 : Nat) : Int) = q at *
  obtain ⟨z, rfl⟩ := dv
  have w : wgt k (e * z) p (e, q) = vv k p * q * z := by
    unfold wgt vv
    have : ∀ u : Int, (u * q * (e * z)).fdiv e = u * q * z := by
      intro u
      rw [show u * q * (e * z) = u * q * z * e by grind]
      exact Int.mul_fdiv_cancel _ (by exact Int.ne_of_gt d.1)
    split
    · exact this (p * p)
    · exact this p
  rw [w]
  have := d.2.1
  generalize Dn / e = y at *
  rw [← this]
  grind
theorem common_pos' (hk : k < 6) (h24 : H ≤ 24) : 0 < commonN (divs k H) H := by
  refine common_pos fun c hc => ?_
  rw [divs_at hk hc]
  have b1 : bs k ≤ 1 := by unfold bs; split <;> decide
  have b3 : ¬ (3 ≤ k ∧ ((bs k + c + 1 : Nat) : Int) = 1) := by unfold bs; split <;> lia
  exact (den_ok (k := k) (s := ((bs k + c + 1 : Nat) : Int)) hk (by lia) (by lia) b3).1
end Mine
end
section
namespace Mine
open PySem
variable {k : Nat} {V : List Int} {H : Nat}

theorem bs_le (k : Nat) : bs k ≤ 1 := by unfold bs; split <;> decide
theorem base_at (O : VOK V) {i : Nat} (hi : i < V.length) : gt0 (base k V) i = (bs k : Int) := by
  unfold base bs
  split
  · unfold gt0
    rw [List.getD_eq_getElem?_getD, List.getElem?_replicate, if_pos hi]; rfl
  · show ((V.map fun p : Int => if p > 0 then (1 : Int) else 0)).getD i 0 = _
    rw [getD_map (f := fun p : Int => if p > 0 then (1 : Int) else 0) hi, if_pos (O.vp i hi).1]; rfl
theorem sumN_const (c : Int) : ∀ m, sumN m (fun _ => c) = m * c
  | 0 => by simp [sumN]
  | m + 1 => by
    simp only [sumN, sumN_const c m]
    rw [show ((m + 1 : Nat) : Int) = (m : Int) + 1 by rfl, Int.add_mul]; lia
theorem base_sum (O : VOK V) : (base k V).sum = (V.length : Int) * bs k := by
  rw [sum_sumN, base_length, sumN_congr (y := fun _ => (bs k : Int)) fun i hi => base_at O hi, sumN_const]
theorem wts_at {ds : List (Int × Int)} {i : Nat} (hi : i < V.length) : (wts k V ds).getD i [] = ds.map (wgt k (commonN ds ds.length) (gt0 V i)) :=
  getD_map (f := fun p => ds.map (wgt k (commonN ds ds.length) p)) hi
theorem wts_len {ds : List (Int × Int)} : (wts k V ds).length = V.length := by unfold wts; rw [List.length_map]
theorem map_gt0 {ds : List (Int × Int)} {f : Int × Int → Int} {c : Nat} (h : c < ds.length) : gt0 (ds.map f) c = f (ds.getD c (0, 0)) := by
  unfold gt0
  rw [List.getD_eq_getElem?_getD, List.getElem?_map, List.getElem?_eq_getElem h, List.getD_eq_getElem?_getD, List.getElem?_eq_getElem h]; rfl
theorem repsOf_at {R : List Int} {m : Nat} {μ : Int} {WS : List (List Int)} {i : Nat} (h : i < m) : gt0 (repsOf R m μ WS) i = gt0 R i + (above μ (WS.getD i []) : Int) := by
  unfold repsOf gt0
  rw [List.getD_eq_getElem?_getD, List.getElem?_map, List.getElem?_range h]; rfl

structure DivIn (k : Nat) (V : List Int) (H : Nat) : Prop where
  k6 : k < 6
  O : VOK V
  h0 : 0 < H
  h24 : H ≤ 24
  h3 : 3 ≤ k → V.length ≤ H
  sz : V.length * H ≤ sortMax
/-- what the divisor method answers -/
structure DivOut (k : Nat) (V : List Int) (H : Nat) : Prop where
  ok : DivOK k V H
  len : (divX k V H).length = V.length
  x0 : ∀ i, i < V.length → (bs k : Int) ≤ gt0 (divX k V H) i ∧ gt0 (divX k V H) i ≤ H
  sum : (divX k V H).sum = H
  good : ∀ h, Good V.length (keyOf (vL k V h)) (gt0 (divX k V H))
  tie : ∀ h, divT k V H = true ↔ TieS V.length (vL k V h) (gt0 (divX k V H))
theorem vbound (O : VOK V) : ∀ p, p ∈ V → p.natAbs < Lim := by
  have L : VLim < Lim := by decide +kernel
  intro p hp
  obtain ⟨i, hi, rfl⟩ := List.mem_iff_getElem.mp hp
  have := O.vp i hi
  rw [gt0_get hi] at this
  omega
theorem nn_le_sum {x : Nat → Int} : ∀ {m : Nat}, (∀ i, i < m → 0 ≤ x i) → ∀ i, i < m → x i ≤ sumN m x
  | 0, _, i, hi => absurd hi (by lia)
  | m + 1, h, i, hi => by
    have nn : 0 ≤ sumN m x := by
      have := sumN_le (x := fun _ => 0) (y := x) (m := m) fun i hi => h i (by lia)
      rw [sumN_const] at this; assumption
    simp only [sumN]
    have := h m (by exact Nat.lt_succ_self _)
    by_cases e : i = m
    · subst e; lia
    · have := nn_le_sum (m := m) (fun i hi => h i (by lia)) i (by lia)
      lia
theorem sum_add {x y : Nat → Int} : ∀ m, sumN m (fun i => x i + y i) = sumN m x + sumN m y
  | 0 => rfl
  | m + 1 => by simp only [sumN, sum_add m]; lia
theorem sum_cnt (h : Nat → Bool) : ∀ m, sumN m (fun i => if h i = true then (1 : Int) else 0) = cnt h m
  | 0 => rfl
  | m + 1 => by
    simp only [sumN, cnt, sum_cnt h m]
    split <;> rfl

theorem div_plain (D : DivIn k V H) : DivOut k V H := by
  have O := D.O
  have b1 := bs_le k
  have bsum := base_sum (k := k) O
  have m7 := O.m7
  have m0 := O.m0
  have blen := base_length k V
  have vb := vbound O
  have hb0 : 0 ≤ (base k V).sum := by rw [bsum]; exact Int.mul_nonneg (by exact Int.natCast_nonneg _) (by exact Int.natCast_nonneg _)
  have bsum2 : (base k V).sum ≤ H := by
    rw [bsum]
    by_cases c : k < 3
    · have : bs k = 0 := by unfold bs; rw [if_pos c]
      rw [this]; simp
    · have := D.h3 (by exact Nat.le_of_not_lt c)
      have e : bs k = 1 := by unfold bs; rw [if_neg c]
      rw [e]; lia
  by_cases hs : (base k V).sum < H
  case neg =>
    have hX : divX k V H = base k V := by unfold divX; rw [if_neg hs]
    have hT : divT k V H = false := by unfold divT; rw [if_neg hs]
    have hk3 : 3 ≤ k := by
      apply Classical.byContradiction
      intro c
      have : bs k = 0 := by unfold bs; rw [if_pos (by exact Nat.lt_of_not_le c)]
      rw [bsum, this] at hs
      have := D.h0
      lia
    have hbs : bs k = 1 := by unfold bs; rw [if_neg (by exact Nat.not_lt_of_le hk3)]
    have at1 : ∀ i, i < V.length → gt0 (base k V) i = 1 := fun i hi => by rw [base_at O hi, hbs]; rfl
    have strict : ∀ h i j, i < V.length → j < V.length → vL k V h j (gt0 (base k V) j + 1) < vL k V h i (gt0 (base k V) i) := by
      intro h i j hi hj
      rw [at1 i hi, at1 j hj]
      show valF k _ _ _ _ < valF k _ _ _ _
      rw [val_inf D.k6 hk3]
      exact (val_fin D.k6 (O.vp j hj).1 (O.vp j hj).2 (by decide) (by decide) (by lia)).2.2
    refine ⟨⟨D.k6, m0, D.h0, D.h24, D.h3, vb, D.sz, fun h => absurd h hs, hb0⟩, by rw [hX, blen], fun i hi => by rw [hX, base_at O hi]; have := D.h0; (clear D O b1 bsum m7 m0 blen vb hb0 bsum2 hs hX hT hk3 at1 strict hi; lia), by rw [hX]; (clear D O b1 m7 m0 blen vb hb0 hX hT hk3 hbs at1 strict; lia), fun h i j hi hj nij _ => ?_, fun h => ?_⟩
    · rw [hX, (O.val (Nat.le_of_lt D.k6)).lt hi hj]
      exact .inl (strict h i j hi hj)
    · rw [hT]
      refine ⟨fun e => Bool.noConfusion e, fun ⟨i, j, hi, hj, nij, hp, e⟩ => ?_⟩
      rw [hX] at e
      have := strict h i j hi hj
      lia
  case pos =>
    obtain ⟨N, hN⟩ : ∃ N : Nat, (base k V).sum + N = H := ⟨(H - (base k V).sum).toNat, by lia⟩
    have hdl := divs_length k H D.h0
    have hfl := wts_flat k V (divs k H)
    rw [hdl] at hfl
    have hmH : 1 * H ≤ V.length * H := Nat.mul_le_mul_right _ m0
    have hcm := common_pos' (k := k) (H := H) D.k6 D.h24
    have hX : divX k V H = loopX H (muOf (base k V) H (wts k V (divs k H))) (wts k V (divs k H)) (repsOf (base k V) V.length (muOf (base k V) H (wts k V (divs k H))) (wts k V (divs k H))) V.length := by unfold divX; rw [if_pos hs]
    have hT : divT k V H = tieN H (muOf (base k V) H (wts k V (divs k H))) (wts k V (divs k H)) (repsOf (base k V) V.length (muOf (base k V) H (wts k V (divs k H))) (wts k V (divs k H))) V.length := by unfold divT; rw [if_pos hs]
    have hmu : muOf (base k V) H (wts k V (divs k H)) = gt0 (sortI (wts k V (divs k H)).flatten) ((wts k V (divs k H)).flatten.length - N) := by
      unfold muOf
      congr 1
      rw [hfl]
      clear D O b1 m7 m0 blen vb hb0 bsum2 hs hdl hfl hcm hX hT; omega
    have nth := nth_large (l := (wts k V (divs k H)).flatten) (N := N) (by lia) (by rw [hfl]; lia)
    rw [← hmu] at nth
    have hWl := wts_len (k := k) (V := V) (ds := divs k H)
    have wat : ∀ i, i < V.length → ∀ c, c < H → gt0 ((wts k V (divs k H)).getD i []) c * Dn = vL k V 0 i ((bs k + c + 1 : Nat) : Int) * commonN (divs k H) H := by
      intro i hi c hc
      rw [wts_at hi, map_gt0 (by rw [hdl]; exact hc), hdl]
      exact weight_val D.k6 D.h24 (O.vp i hi).1 (O.vp i hi).2 hc
    have wlen : ∀ i, i < V.length → ((wts k V (divs k H)).getD i []).length = H := by
      intro i hi
      rw [wts_at hi, List.length_map, hdl]
    have wmem : ∃ i c, i < V.length ∧ c < H ∧ muOf (base k V) H (wts k V (divs k H)) = gt0 ((wts k V (divs k H)).getD i []) c := by
      obtain ⟨l, hl, hx⟩ := List.mem_flatten.mp nth.2.2
      obtain ⟨i, hi, rfl⟩ := List.mem_iff_getElem.mp hl
      obtain ⟨c, hc, e⟩ := List.mem_iff_getElem.mp hx
      have hi' : i < V.length := by rw [← hWl]; exact hi
      have eg : (wts k V (divs k H)).getD i [] = (wts k V (divs k H))[i] := by
        rw [List.getD_eq_getElem?_getD, List.getElem?_eq_getElem hi]; rfl
      refine ⟨i, c, hi', by rw [← wlen i hi', eg]; exact hc, ?_⟩
      rw [eg, gt0_get hc]; exact e.symm
    generalize hmu' : muOf (base k V) H (wts k V (divs k H)) = μ at *
    obtain ⟨i0, c0, hi0, hc0, eμ⟩ := wmem
    have wμ := wat i0 hi0 c0 hc0
    rw [← eμ] at wμ
    generalize hν : vL k V 0 i0 ((bs k + c0 + 1 : Nat) : Int) = ν at wμ
    have νfin : ν < BigV := by
      rw [← hν]
      exact (val_fin D.k6 (O.vp i0 hi0).1 (O.vp i0 hi0).2 (by (clear D O bsum m7 m0 blen vb hb0 bsum2 hs hN hdl hfl hmH hcm hWl wat wlen hmu' hX hT hmu nth hi0 hc0 eμ hν wμ; lia)) (by have := D.h24; lia) (by unfold bs; split <;> lia)).2.2
    have DnP : 0 < Dn := by decide
    have lt1 : ∀ i, i < V.length → ∀ c, c < H → (gt0 ((wts k V (divs k H)).getD i []) c > μ ↔ ν < vL k V 0 i ((bs k + c + 1 : Nat) : Int)) := by
      intro i hi c hc
      have w := wat i hi c hc
      constructor
      · intro q
        have := Int.mul_lt_mul_of_pos_right q DnP
        rw [w, wμ] at this
        exact Int.lt_of_mul_lt_mul_right this (Int.le_of_lt hcm)
      · intro q
        have := Int.mul_lt_mul_of_pos_right q hcm
        rw [← w, ← wμ] at this
        exact Int.lt_of_mul_lt_mul_right this (Int.le_of_lt DnP)
    have eq1 : ∀ i, i < V.length → ∀ c, c < H → gt0 ((wts k V (divs k H)).getD i []) c = μ → vL k V 0 i ((bs k + c + 1 : Nat) : Int) = ν := by
      intro i hi c hc q
      have w := wat i hi c hc
      rw [q, wμ] at w
      exact (Int.eq_of_mul_eq_mul_right (by exact Int.ne_of_gt hcm) w).symm
    have eq2 : ∀ i, i < V.length → ∀ c, c < H → gt0 ((wts k V (divs k H)).getD i []) c ≠ μ → vL k V 0 i ((bs k + c + 1 : Nat) : Int) ≠ ν := by
      intro i hi c hc q e
      have w := wat i hi c hc
      rw [e, ← wμ] at w
      exact q (Int.eq_of_mul_eq_mul_right (by exact Int.ne_of_gt DnP) w)
    have W := O.val (Nat.le_of_lt D.k6) (H := 0)
    have dec : ∀ i, i < V.length → ((wts k V (divs k H)).getD i []).Pairwise (· > ·) := by
      intro i hi
      rw [List.pairwise_iff_getElem]
      intro a b ha hb hab
      rw [← gt0_get ha, ← gt0_get hb]
      rw [wlen i hi] at ha hb
      have wa := wat i hi a ha
      have wb := wat i hi b hb
      have mono := W.mono i ((bs k + a + 1 : Nat) : Int) ((bs k + b + 1 : Nat) : Int) hi (by (clear D O bsum m7 m0 blen vb hb0 bsum2 hs hN hdl hfl hmH hcm hWl wat wlen hmu' hX hT hmu nth hi0 hc0 eμ hν wμ νfin DnP lt1 eq1 eq2 W hi ha hb hab wa wb; lia)) (by lia) (by have := D.h24; lia)
      have := Int.mul_lt_mul_of_pos_right mono hcm
      rw [← wa, ← wb] at this
      exact Int.lt_of_mul_lt_mul_right this (Int.le_of_lt DnP)
    have ab := fun i (hi : i < V.length) => dec_above (μ := μ) (dec i hi)
    generalize hh : (fun i => ((wts k V (divs k H)).getD i []).any fun b => b == μ) = h
    have hhi : ∀ i, (((wts k V (divs k H)).getD i []).any fun b => b == μ) = h i := fun i => by rw [← hh]
    -- counts
    have cgt : sumN V.length (fun i => (above μ ((wts k V (divs k H)).getD i []) : Int)) < N := by
      have := flat_count (fun w => decide (w > μ)) (wts k V (divs k H))
      rw [hWl] at this
      have n1 := nth.1
      have e : sumN V.length (fun i => (above μ ((wts k V (divs k H)).getD i []) : Int)) = sumN V.length fun i => ((((wts k V (divs k H)).getD i []).filter fun w => decide (w > μ)).length : Int) := rfl
      rw [e, ← this]; (clear D O b1 m7 m0 blen vb hb0 bsum2 hs hdl hfl hmH hcm hWl wat wlen hmu' hX hT hmu hi0 hc0 eμ hν wμ νfin DnP lt1 eq1 eq2 W dec ab hh hhi this n1 e; omega)
    have cge : (N : Int) ≤ sumN V.length (fun i => (above μ ((wts k V (divs k H)).getD i []) : Int)) + cnt h V.length := by
      have := flat_count (fun w => decide (w ≥ μ)) (wts k V (divs k H))
      rw [hWl] at this
      have n1 := nth.2.1
      have e : (sumN V.length fun i => ((((wts k V (divs k H)).getD i []).filter fun w => decide (w ≥ μ)).length : Int)) = sumN V.length fun i => (above μ ((wts k V (divs k H)).getD i []) : Int) + (if h i = true then 1 else 0) := by
        refine sumN_congr fun i hi => ?_
        rw [(ab i hi).2.1, hhi i]
        split <;> rfl
      rw [sum_add, sum_cnt] at e
      clear D O b1 bsum m7 m0 blen vb hb0 bsum2 hs hN hdl hfl hmH hcm hWl wat wlen hmu' hX hT hmu hi0 hc0 eμ hν wμ νfin DnP lt1 eq1 eq2 W dec ab hh hhi cgt n1; omega
    have above_le : ∀ i, i < V.length → (above μ ((wts k V (divs k H)).getD i []) : Int) < N := by
      intro i hi
      have := nn_le_sum (x := fun i => (above μ ((wts k V (divs k H)).getD i []) : Int)) (m := V.length) (fun i _ => by exact Int.natCast_nonneg _) i hi
      clear D O b1 bsum m7 m0 blen vb hb0 bsum2 hs hN hdl hfl hmH hcm hWl wat wlen hmu' hX hT hmu nth hi0 hc0 eμ hν wμ νfin DnP lt1 eq1 eq2 W dec ab hh hhi cge hi; lia
    have hR : ∀ i, i < V.length → gt0 (repsOf (base k V) V.length μ (wts k V (divs k H))) i = (bs k : Int) + (above μ ((wts k V (divs k H)).getD i []) : Int) := by
      intro i hi
      rw [repsOf_at hi, base_at O hi]
    have hRl : (repsOf (base k V) V.length μ (wts k V (divs k H))).length = V.length := repsOf_length
    have hRs : (repsOf (base k V) V.length μ (wts k V (divs k H))).sum = (base k V).sum + sumN V.length (fun i => (above μ ((wts k V (divs k H)).getD i []) : Int)) := by
      rw [sum_sumN, hRl, sumN_congr hR, sum_add, sumN_const, bsum]
    have hRlt : (repsOf (base k V) V.length μ (wts k V (divs k H))).sum < H := by rw [hRs]; lia
    obtain ⟨N', hN'⟩ : ∃ N' : Nat, (repsOf (base k V) V.length μ (wts k V (divs k H))).sum + N' = H := ⟨(H - (repsOf (base k V) V.length μ (wts k V (divs k H))).sum).toNat, by (clear D O b1 m7 m0 blen vb hb0 bsum2 hs hdl hfl hmH hcm hWl wat wlen hmu' hX hT hmu nth hi0 hc0 eμ hν wμ νfin DnP lt1 eq1 eq2 W dec ab hh hhi cge above_le hR hRl hRlt; omega)⟩
    have N'0 : 0 < N' := by lia
    have N'c : N' ≤ cnt h V.length := by lia
    have lp := loopX_at (μ := μ) (WS := wts k V (divs k H)) hN' V.length (by rw [hRl]; exact Nat.le_refl _)
    have tn := tieN_iff (μ := μ) (WS := wts k V (divs k H)) hN' N'0 V.length (by rw [hRl]; exact Nat.le_refl _)
    rw [hh] at lp tn
    -- the selection
    have s0 : ∀ i, i < V.length → 0 ≤ gt0 (repsOf (base k V) V.length μ (wts k V (divs k H))) i ∧ gt0 (repsOf (base k V) V.length μ (wts k V (divs k H))) i + 2 ≤ 26 := by
      intro i hi
      rw [hR i hi]
      have := above_le i hi
      have := D.h24
      have hbN : (bs k : Int) + N ≤ H := by
        by_cases c : bs k = 0
        · rw [c]; (clear D O b1 m7 m0 blen vb bsum2 hs hfl hmH hcm hWl wat wlen hmu' hX hT hmu nth hi0 hc0 eμ hν wμ νfin DnP lt1 eq1 eq2 W dec ab hh hhi cgt cge above_le hR hRl hRlt hN' N'0 N'c tn hi this c; lia)
        · have e : bs k = 1 := by lia
          rw [bsum, e] at hN
          rw [e]; lia
      lia
    have s1 : ∀ i, i < V.length → 0 < gt0 (repsOf (base k V) V.length μ (wts k V (divs k H))) i → ν < vL k V 0 i (gt0 (repsOf (base k V) V.length μ (wts k V (divs k H))) i) := by
      intro i hi hp
      rw [hR i hi] at hp ⊢
      by_cases a0 : above μ ((wts k V (divs k H)).getD i []) = 0
      · rw [a0] at hp ⊢
        have e : bs k = 1 := by lia
        have hk3 : 3 ≤ k := by
          apply Classical.byContradiction
          intro c
          unfold bs at e
          rw [if_pos (by exact Nat.lt_of_not_le c)] at e
          lia
        rw [e]
        show ν < valF k _ 1 _ _
        rw [val_inf D.k6 hk3]
        exact νfin
      · have hlt : above μ ((wts k V (divs k H)).getD i []) - 1 < H := by have := (ab i hi).2.2.1; rw [wlen i hi] at this; (clear D O b1 bsum m7 m0 blen vb hb0 bsum2 hs hN hfl hmH hcm hWl wat wlen hmu' hX hT hmu nth hi0 eμ hν wμ νfin DnP lt1 eq1 eq2 W dec ab hh hhi cgt cge above_le hR hRl hRs hRlt N'0 N'c tn s0 hi hp a0; lia)
        have q := ((ab i hi).1 (above μ ((wts k V (divs k H)).getD i []) - 1) (by rw [wlen i hi]; exact hlt)).mpr (by (clear D O b1 bsum m7 m0 blen vb hb0 bsum2 hs hN hdl hfl hmH hcm hWl wat wlen hmu' hX hT hmu nth hi0 hc0 eμ hν wμ νfin DnP lt1 eq1 eq2 W dec ab hh hhi cgt cge above_le hR hRl hRs hRlt hN' N'0 N'c lp tn s0 hi hp hlt; lia))
        have := (lt1 i hi _ hlt).mp q
        rw [show ((bs k + (above μ ((wts k V (divs k H)).getD i []) - 1) + 1 : Nat) : Int) = (bs k : Int) + (above μ ((wts k V (divs k H)).getD i []) : Int) by (clear D O b1 bsum m7 m0 blen vb hb0 bsum2 hs hN hdl hfl hmH hcm hWl wat wlen hmu' hX hT hmu nth hi0 hc0 eμ hν wμ νfin DnP lt1 eq1 eq2 W dec ab hh hhi cgt cge above_le hR hRl hRs hRlt hN' N'0 N'c lp tn s0 hi hp hlt q this; lia)] at this
        exact this
    have s2 : ∀ i, i < V.length → h i = true → vL k V 0 i (gt0 (repsOf (base k V) V.length μ (wts k V (divs k H))) i + 1) = ν := by
      intro i hi hq
      rw [hR i hi]
      have q := (ab i hi).2.2.2.1 (by rw [hhi i]; exact hq)
      have := eq1 i hi _ (by have := q.1; rw [wlen i hi] at this; exact this) q.2
      rw [show ((bs k + above μ ((wts k V (divs k H)).getD i []) + 1 : Nat) : Int) = (bs k : Int) + (above μ ((wts k V (divs k H)).getD i []) : Int) + 1 by rfl] at this
      exact this
    have s3 : ∀ i, i < V.length → h i = false → vL k V 0 i (gt0 (repsOf (base k V) V.length μ (wts k V (divs k H))) i + 1) < ν := by
      intro i hi hq
      rw [hR i hi]
      have hlt : above μ ((wts k V (divs k H)).getD i []) < H := by have := above_le i hi; lia
      have q := (ab i hi).2.2.2.2 (by rw [hhi i]; exact hq) _ (by rw [wlen i hi]; exact hlt)
      have n1 := eq2 i hi _ hlt q
      have n2 : ¬ ν < vL k V 0 i ((bs k + above μ ((wts k V (divs k H)).getD i []) + 1 : Nat) : Int) := by
        intro c
        have c2 := (lt1 i hi _ hlt).mpr c
        have := ((ab i hi).1 _ (by rw [wlen i hi]; exact hlt)).mp c2
        lia
      rw [show ((bs k + above μ ((wts k V (divs k H)).getD i []) + 1 : Nat) : Int) = (bs k : Int) + (above μ ((wts k V (divs k H)).getD i []) : Int) + 1 by rfl] at n1 n2
      lia
    have xat : ∀ i, i < V.length → gt0 (divX k V H) i = selX (gt0 (repsOf (base k V) V.length μ (wts k V (divs k H)))) h N' i := by
      intro i hi
      rw [hX, lp.1 i, if_pos hi]
    have hlen : (divX k V H).length = V.length := by rw [hX, loopX_length, hRl]
    have hsum : (divX k V H).sum = H := by rw [hX, lp.2]; (clear D O b1 m7 m0 blen vb hb0 bsum2 hs hdl hfl hmH hcm hWl wat wlen hmu' hX hT hmu nth hi0 hc0 eμ hν wμ νfin DnP lt1 eq1 eq2 W dec ab hh hhi cgt above_le hR hRl hRlt N'0 N'c lp s0 s1 s2 s3 xat hlen; omega)
    have xge : ∀ i, i < V.length → (bs k : Int) ≤ gt0 (divX k V H) i := by
      intro i hi
      rw [xat i hi]
      unfold selX
      rw [hR i hi]
      split <;> lia
    have vh : ∀ h', vL k V h' = vL k V 0 := by
      intro h'
      funext i s
      show valF k _ s h' _ = valF k _ s 0 _
      unfold valF
      have h6 : ¬ k = 6 := by have := D.k6; (exact Nat.ne_of_lt this)
      rw [if_neg h6, if_neg h6]
    have gd := sel_good W (N := N') s0 s1 s2 s3
    have ti := sel_tie W s0 s1 s2 s3 N'0 N'c
    have gcongr : ∀ {x y : Nat → Int}, (∀ i, i < V.length → x i = y i) → Good V.length (keyOf (vL k V 0)) y → Good V.length (keyOf (vL k V 0)) x := by
      intro x y e g i j hi hj nij
      rw [e i hi, e j hj]
      exact g i j hi hj nij
    have tcongr : ∀ {x y : Nat → Int}, (∀ i, i < V.length → x i = y i) → TieS V.length (vL k V 0) x → TieS V.length (vL k V 0) y := by
      intro x y e ⟨i, j, hi, hj, nij, hp, q⟩
      exact ⟨i, j, hi, hj, nij, by rw [← e i hi]; exact hp, by rw [← e i hi, ← e j hj]; exact q⟩
    refine ⟨⟨D.k6, m0, D.h0, D.h24, D.h3, vb, D.sz, fun _ => ?_, hb0⟩, hlen, fun i hi => ⟨xge i hi, ?_⟩, hsum, fun h' => ?_, fun h' => ?_⟩
    · rw [hmu'] 
      exact hRlt
    · have := nn_le_sum (x := gt0 (divX k V H)) (m := V.length) (fun i hi => by have := xge i hi; lia) i hi
      rw [← hlen, ← sum_sumN, hsum] at this
      exact this
    · rw [vh h']
      exact gcongr xat gd
    · rw [vh h', hT, tn, ← ti]
      exact ⟨tcongr fun i hi => (xat i hi).symm, tcongr xat⟩
end Mine
end
section
namespace Mine
open PySem
variable {V : List Int} {H : Nat}

noncomputable def lrW (M : List Int) (c : Int) : List (List Int) := M.map fun x => if x ≥ c then [0] else []
theorem lrW_any {M : List Int} {c : Int} {i : Nat} (hi : i < M.length) : (((lrW M c).getD i []).any fun b => b == 0) = decide (gt0 M i ≥ c) := by
  unfold lrW
  rw [getD_map (f := fun x : Int => if x ≥ c then [(0 : Int)] else []) hi]
  by_cases h : gt0 M i ≥ c
  · rw [if_pos h, decide_eq_true h]; rfl
  · rw [if_neg h, decide_eq_false h]; rfl
theorem loopR_eq {M : List Int} {c : Int} {X : List Int} : ∀ i, i ≤ M.length → loopR H M c X i = loopX H 0 (lrW M c) X i
  | 0, _ => rfl
  | i + 1, h => by
    show stepR H M c i (loopR H M c X i) = stepX H 0 (lrW M c) i (loopX H 0 (lrW M c) X i)
    rw [loopR_eq i (by exact Nat.le_of_lt h)]
    unfold stepR stepX
    rw [lrW_any (by assumption)]
theorem tieRN_eq {M : List Int} {c : Int} {X : List Int} : ∀ i, i ≤ M.length → tieRN H M c X i = tieN H 0 (lrW M c) X i
  | 0, _ => rfl
  | i + 1, h => by
    show (tieRN H M c X i || tieR H M c i (loopR H M c X i)) = (tieN H 0 (lrW M c) X i || tieB H 0 (lrW M c) i (loopX H 0 (lrW M c) X i))
    rw [tieRN_eq i (by exact Nat.le_of_lt h), loopR_eq i (by exact Nat.le_of_lt h)]
    unfold tieR tieB
    rw [lrW_any (by assumption)]

/-- whole quotas and rests -/
noncomputable def fl (V : List Int) (H : Nat) (i : Nat) : Int := (gt0 V i * H).fdiv V.sum
noncomputable def rm (V : List Int) (H : Nat) (i : Nat) : Int := gt0 V i * H - fl V H i * V.sum
theorem sumN_mul (c : Int) (x : Nat → Int) : ∀ m, sumN m (fun i => x i * c) = sumN m x * c
  | 0 => by simp [sumN]
  | m + 1 => by simp only [sumN, sumN_mul c x m, Int.add_mul]
theorem sum_sub {x y : Nat → Int} : ∀ m, sumN m (fun i => x i - y i) = sumN m x - sumN m y
  | 0 => rfl
  | m + 1 => by simp only [sumN, sum_sub m]; lia
theorem fl_rm (O : VOK V) {i : Nat} (hi : i < V.length) : 0 ≤ fl V H i ∧ 0 ≤ rm V H i ∧ rm V H i < V.sum := by
  have s0 := O.s0
  have vp := (O.vp i hi).1
  have h1 : 0 ≤ gt0 V i * (H : Int) := Int.mul_nonneg (by exact Int.le_of_lt vp) (by exact Int.natCast_nonneg _)
  have e := Int.fdiv_mul_add_fmod (gt0 V i * (H : Int)) V.sum
  have a := Int.fmod_nonneg_of_pos (gt0 V i * (H : Int)) s0
  have b := Int.fmod_lt_of_pos (gt0 V i * (H : Int)) s0
  unfold rm fl
  refine ⟨Int.fdiv_nonneg h1 (by exact Int.le_of_lt s0), ?_, ?_⟩ <;> omega
theorem sum_fl (O : VOK V) : (sumN V.length (rm V H)) = ((H : Int) - sumN V.length (fl V H)) * V.sum := by
  have e : sumN V.length (rm V H) = sumN V.length (fun i => gt0 V i * (H : Int) - fl V H i * V.sum) := rfl
  rw [e, sum_sub, sumN_mul, sumN_mul, ← sum_sumN, Int.sub_mul, Int.mul_comm V.sum]
theorem lrR_gt (hi : i < V.length) : gt0 (lrR V H) i = fl V H i := lrR_at hi
theorem lrM_gt {i : Nat} (hi : i < V.length) : gt0 (lrM V H) i = rm V H i := by
  unfold lrM gt0
  rw [List.getD_eq_getElem?_getD, List.getElem?_map, List.getElem?_range hi]
  show gt0 V i * H - gt0 (lrR V H) i * V.sum = _
  rw [lrR_gt hi]; rfl
theorem lrR_sum : (lrR V H).sum = sumN V.length (fl V H) := by
  rw [sum_sumN, lrR_length, sumN_congr fun i hi => lrR_gt hi]
theorem sum_lt {m : Nat} {x : Nat → Int} {c : Int} (hm : 0 < m) (h : ∀ i, i < m → x i < c) : sumN m x < m * c := by
  rw [← sumN_const]
  exact sumN_lt (fun i hi => Int.le_of_lt (h i hi)) 0 hm (h 0 hm)
theorem fl_sum (O : VOK V) : sumN V.length (fl V H) ≤ H ∧ (H : Int) < sumN V.length (fl V H) + V.length ∧ ∀ i, i < V.length → fl V H i ≤ sumN V.length (fl V H) := by
  have s0 := O.s0
  have e := sum_fl (H := H) O
  have n := sumN_le (x := fun _ => 0) (y := rm V H) (m := V.length) fun i hi => (fl_rm O hi).2.1
  rw [sumN_const, Int.mul_zero] at n
  have l := sum_lt (x := rm V H) (c := V.sum) O.m0 fun i hi => (fl_rm O hi).2.2
  rw [e] at n l
  refine ⟨?_, ?_, fun i hi => nn_le_sum (fun i hi => (fl_rm O hi).1) i hi⟩
  · apply Classical.byContradiction
    intro q
    have := Int.mul_lt_mul_of_pos_right (show (H : Int) - sumN V.length (fl V H) < 0 by lia) s0
    lia
  · have := Int.lt_of_mul_lt_mul_right l (by exact Int.le_of_lt s0)
    lia

structure LrIn (V : List Int) (H : Nat) : Prop where
  O : VOK V
  h0 : 0 < H
  h24 : H ≤ 24
theorem lr_ok (D : LrIn V H) : LrOK V H := by
  have O := D.O
  have f := fl_sum (H := H) O
  have L : VLim < Lim := by decide +kernel
  refine ⟨D.h0, D.h24, Nat.le_trans O.m7 (by decide), fun p hp => ?_, ⟨by have := O.s0; have := O.s1; (clear D O f; omega), O.s0⟩, by rw [lrR_sum]; lia⟩
  obtain ⟨i, hi, rfl⟩ := List.mem_iff_getElem.mp hp
  have := O.vp i hi
  rw [gt0_get hi] at this
  lia

/-- a strict state: every last claim above every next claim -/
noncomputable def StrictS (m : Nat) (vl : Nat → Int → Int) (x : Nat → Int) : Prop := ∀ i j, i < m → j < m → i ≠ j → 0 < x i → vl j (x j + 1) < vl i (x i)
structure LrOut (V : List Int) (H : Nat) : Prop where
  ok : LrOK V H
  len : (lrX V H).length = V.length
  x0 : lrT V H = false → ∀ i, i < V.length → 0 ≤ gt0 (lrX V H) i ∧ gt0 (lrX V H) i ≤ H
  sum : lrT V H = false → (lrX V H).sum = H
  strict : lrT V H = false → StrictS V.length (vL 6 V H) (gt0 (lrX V H))
  n6 : lrT V H = false → ∀ i, i < V.length → -V.sum ≤ valF 6 (gt0 V i) (gt0 (lrX V H) i) H V.sum ∧ valF 6 (gt0 V i) (gt0 (lrX V H) i + 1) H V.sum < 0
  tie : lrT V H = true → ∃ x, Good V.length (keyOf (vL 6 V H)) x ∧ sumN V.length x = H ∧ TieS V.length (vL 6 V H) x ∧ Fits V.length 26 x
  t6 : lrT V H = true → Tie6 V H
theorem strict_good {m : Nat} {vl : Nat → Int → Int} (W : Val m 26 vl) {x : Nat → Int} (h : StrictS m vl x) : Good m (keyOf vl) x := fun i j hi hj nij hp => (W.lt hi hj).mpr (.inl (h i j hi hj nij hp))
theorem strict_noTie {m : Nat} {vl : Nat → Int → Int} {x : Nat → Int} (h : StrictS m vl x) : ¬ TieS m vl x := fun ⟨i, j, hi, hj, nij, hp, e⟩ => by
  have := h i j hi hj nij hp
  lia
theorem insI_sum (a : Int) : ∀ l, (insI a l).sum = a + l.sum
  | [] => by simp [insI]
  | b :: r => by
    unfold insI
    split
    · rw [List.sum_cons]
    · rw [List.sum_cons, List.sum_cons, insI_sum a r]; lia
theorem sortI_sum : ∀ l : List Int, (sortI l).sum = l.sum
  | [] => rfl
  | a :: r => by
    show (insI a (sortI r)).sum = _
    rw [insI_sum, sortI_sum r, List.sum_cons]
theorem count_all {p : Int → Bool} : ∀ L : List Int, ((L.filter p).length : Int) = sumN L.length fun i => if p (gt0 L i) = true then (1 : Int) else 0
  | [] => rfl
  | a :: r => by
    rw [List.length_cons, sumN_shift, List.filter_cons]
    have ih := count_all (p := p) r
    show _ = (if p a = true then (1 : Int) else 0) + sumN r.length fun i => if p (gt0 r i) = true then (1 : Int) else 0
    rw [← ih]
    split
    · rw [List.length_cons]; lia
    · lia
theorem v6 (V : List Int) (H : Nat) (i : Nat) : valF 6 (gt0 V i) (fl V H i) H V.sum = rm V H i := rfl
theorem v6' (V : List Int) (H : Nat) (i : Nat) : valF 6 (gt0 V i) (fl V H i + 1) H V.sum = rm V H i - V.sum := by
  rw [val6]; unfold rm; rw [Int.add_mul]; lia
theorem v6'' (V : List Int) (H : Nat) (i : Nat) : valF 6 (gt0 V i) (fl V H i + 1 + 1) H V.sum = rm V H i - 2 * V.sum := by
  rw [val6]; unfold rm; rw [Int.add_mul, Int.add_mul]; lia

theorem rests_eq (O : VOK V) : rests V H = sortI (lrM V H) := by
  unfold rests
  congr 1
  refine List.ext_getElem (by rw [List.length_map, lrM_length]) fun i h1 h2 => ?_
  rw [List.length_map] at h1
  rw [← gt0_get h2, lrM_gt h1, List.getElem_map, ← gt0_get h1]
  have e := Int.fdiv_mul_add_fmod (gt0 V i * (H : Int)) V.sum
  unfold rm fl
  clear O h1 h2; omega

theorem lr_plain (D : LrIn V H) : LrOut V H := by
  have O := D.O
  have s0 := O.s0
  have m0 := O.m0
  have ok := lr_ok D
  have fs := fl_sum (H := H) O
  have W := O.val (k := 6) (H := H) (by decide)
  have vdef : ∀ i s, vL 6 V H i s = valF 6 (gt0 V i) s H V.sum := fun _ _ => rfl
  by_cases hs : (lrR V H).sum < H
  case neg =>
    have hX : lrX V H = lrR V H := by unfold lrX; rw [if_neg hs]
    have hT : lrT V H = false := by unfold lrT; rw [if_neg hs]
    rw [lrR_sum] at hs
    have xat : ∀ i, i < V.length → gt0 (lrX V H) i = fl V H i := fun i hi => by rw [hX, lrR_gt hi]
    refine ⟨ok, by rw [hX, lrR_length], fun _ i hi => ?_, fun _ => by rw [hX, lrR_sum]; lia, fun _ i j hi hj nij hp => ?_, fun _ i hi => ?_, fun h => (by rw [hT] at h; cases h), fun h => (by rw [hT] at h; cases h)⟩
    · rw [xat i hi]
      have := fl_rm (H := H) O hi
      have := fs.2.2 i hi
      clear D O s0 m0 ok W vdef hX hT xat hi; omega
    · rw [vdef, vdef, xat i hi, xat j hj, v6, v6']
      have := fl_rm (H := H) O hi; have := fl_rm (H := H) O hj
      clear D O s0 m0 ok fs W vdef hs hX hT xat hi hj nij hp; omega
    · rw [xat i hi, v6, v6']
      have := fl_rm (H := H) O hi
      clear D O m0 ok fs W vdef hs hX hT xat hi; omega
  case pos =>
    obtain ⟨N, hN⟩ : ∃ N : Nat, (lrR V H).sum + N = H := ⟨(H - (lrR V H).sum).toNat, by lia⟩
    have hN0 : 0 < N := by lia
    have hNm : N < V.length := by rw [lrR_sum] at hN; (clear D O s0 m0 ok W vdef hs hN0; omega)
    have hMl := lrM_length (V := V) (H := H)
    have hX : lrX V H = loopX H 0 (lrW (lrM V H) (lrC V H)) (lrR V H) V.length := by unfold lrX; rw [if_pos hs, loopR_eq _ (by rw [hMl]; exact Nat.le_refl _)]
    have hT : lrT V H = tieN H 0 (lrW (lrM V H) (lrC V H)) (lrR V H) V.length := by unfold lrT; rw [if_pos hs, tieRN_eq _ (by rw [hMl]; exact Nat.le_refl _)]
    have hC : lrC V H = gt0 (sortI (lrM V H)) ((lrM V H).length - N) := by
      unfold lrC
      congr 1
      rw [hMl]; (clear D O s0 m0 ok fs W vdef hs hN0 hX hT; lia)
    have nth := nth_large (l := lrM V H) (N := N) hN0 (by (clear D O s0 m0 ok fs W vdef hs hN0 hX hT hC; lia))
    rw [← hC] at nth
    have lp := loopX_at (μ := 0) (WS := lrW (lrM V H) (lrC V H)) hN V.length (by rw [lrR_length]; exact Nat.le_refl _)
    have tn := tieN_iff (μ := 0) (WS := lrW (lrM V H) (lrC V H)) hN hN0 V.length (by rw [lrR_length]; exact Nat.le_refl _)
    generalize hh : (fun i => ((lrW (lrM V H) (lrC V H)).getD i []).any fun b => b == 0) = h at *
    have hhi : ∀ i, i < V.length → h i = decide (rm V H i ≥ lrC V H) := fun i hi => by
      have := lrW_any (M := lrM V H) (c := lrC V H) (i := i) (by lia)
      rw [lrM_gt hi] at this
      rw [← hh]; exact this
    have cge : (((lrM V H).filter fun w => decide (w ≥ lrC V H)).length : Int) = cnt h V.length := by
      rw [count_all, hMl, ← sum_cnt]
      exact sumN_congr fun i hi => by rw [hhi i hi, lrM_gt hi]
    have hcN : N ≤ cnt h V.length := by (clear D O s0 m0 ok fs W vdef hs hN hN0 hNm hMl hX hT hC hh lp tn hhi; omega)
    have xsum : (lrX V H).sum = H := by rw [hX, lp.2]; (clear D O s0 m0 ok fs W vdef hs hN0 hNm hMl hX hT hC hh lp hhi hcN; omega)
    have xat0 : ∀ i, i < V.length → gt0 (lrX V H) i = selX (gt0 (lrR V H)) h N i := fun i hi => by rw [hX, lp.1 i, if_pos hi]
    have xlen : (lrX V H).length = V.length := by rw [hX, loopX_length, lrR_length]
    -- no tie
    have xat : lrT V H = false → ∀ i, i < V.length → (h i = true ∧ gt0 (lrX V H) i = fl V H i + 1) ∨ (h i = false ∧ gt0 (lrX V H) i = fl V H i) := by
      intro ht i hi
      have : ¬ N < cnt h V.length := fun q => by rw [hT, tn.mpr q] at ht; cases ht
      rw [xat0 i hi]
      unfold selX
      rw [lrR_gt hi]
      cases hq : h i with
      | true =>
        have := cnt_lt h hq hi
        rw [Bool.true_and, decide_eq_true (by (clear D O s0 m0 ok fs W vdef hs hN0 hNm hMl hX hC hh lp hhi hcN xsum xat0 xlen hi hq; omega)), if_pos rfl]
        exact .inl ⟨rfl, rfl⟩
      | false =>
        rw [Bool.false_and, if_neg Bool.false_ne_true, Int.add_zero]
        exact .inr ⟨rfl, rfl⟩
    refine ⟨ok, xlen, fun ht i hi => ?_, fun _ => xsum, fun ht i j hi hj nij hp => ?_, fun ht i hi => ?_, fun ht => ?_, fun ht => ?_⟩
    · have a := fl_rm (H := H) O hi
      have nn : ∀ i, i < V.length → 0 ≤ gt0 (lrX V H) i := by
        intro i hi
        have a := fl_rm (H := H) O hi
        rcases xat ht i hi with q | q <;> lia
      have := nn_le_sum nn i hi
      rw [← xlen, ← sum_sumN, xsum] at this
      exact ⟨nn i hi, this⟩
    · rw [vdef, vdef]
      have a := fl_rm (H := H) O hi
      have b := fl_rm (H := H) O hj
      have di := hhi i hi
      have dj := hhi j hj
      rcases xat ht i hi with ⟨q1, q2⟩ | ⟨q1, q2⟩ <;> rcases xat ht j hj with ⟨r1, r2⟩ | ⟨r1, r2⟩
      · rw [q2, r2, v6'', v6']; lia
      · rw [q2, r2, v6', v6']
        rw [q1] at di; rw [r1] at dj
        have di := of_decide_eq_true di.symm
        have dj := of_decide_eq_false dj.symm
        lia
      · rw [q2, r2, v6'', v6]; (clear D O s0 m0 ok fs W vdef hs hN hN0 hNm hMl hX hT hC nth hh lp tn hhi cge hcN xsum xat0 xlen xat ht hi hj nij hp di dj q1 q2 r1 r2; lia)
      · rw [q2, r2, v6', v6]; lia
    · have a := fl_rm (H := H) O hi
      rcases xat ht i hi with ⟨q1, q2⟩ | ⟨q1, q2⟩
      · rw [q2, v6'', v6']; lia
      · rw [q2, v6', v6]; (clear D O s0 m0 ok fs W vdef hs hN hN0 hNm hMl hX hT hC nth hh lp tn hhi cge hcN xsum xat0 xlen xat ht hi q1 q2; omega)
    · have hgt : N < cnt h V.length := by rw [hT] at ht; exact tn.mp ht
      -- the ideal state
      have hA : ∀ i, i < V.length → 0 ≤ fl V H i + (if rm V H i > lrC V H then (1 : Int) else 0) := fun i hi => by have := fl_rm (H := H) O hi; split <;> lia
      have cgt : (((lrM V H).filter fun w => decide (w > lrC V H)).length : Int) = sumN V.length fun i => if rm V H i > lrC V H then (1 : Int) else 0 := by
        rw [count_all, hMl]
        exact sumN_congr fun i hi => by rw [lrM_gt hi]; by_cases q : rm V H i > lrC V H <;> simp [q]
      have csum : (cnt h V.length : Int) = (sumN V.length fun i => if rm V H i > lrC V H then (1 : Int) else 0) + cnt (fun i => decide (rm V H i = lrC V H)) V.length := by
        rw [← sum_cnt, ← sum_cnt, ← sum_add]
        refine sumN_congr fun i hi => ?_
        rw [hhi i hi]
        by_cases q1 : rm V H i > lrC V H
        · have q2 : rm V H i ≥ lrC V H := by exact Int.le_of_lt q1
          have q3 : ¬ rm V H i = lrC V H := by exact Int.ne_of_gt q1
          simp [q1, q2, q3]
        · by_cases q2 : rm V H i ≥ lrC V H
          · have q3 : rm V H i = lrC V H := by lia
            simp [q1, q2, q3]
          · have q3 : ¬ rm V H i = lrC V H := by lia
            simp [q1, q2, q3]
      obtain ⟨N2, hN2⟩ : ∃ N2 : Nat, (N2 : Int) = N - (sumN V.length fun i => if rm V H i > lrC V H then (1 : Int) else 0) := ⟨(N - (sumN V.length fun i => if rm V H i > lrC V H then (1 : Int) else 0)).toNat, by (clear D O s0 m0 ok fs W vdef hs hN0 hNm hMl hX hT hC hh lp tn hhi cge hcN xsum xat0 xlen xat ht hgt hA csum; omega)⟩
      have nn1 := nth.1
      have s0' : ∀ i, i < V.length → 0 ≤ fl V H i + (if rm V H i > lrC V H then (1 : Int) else 0) ∧ fl V H i + (if rm V H i > lrC V H then (1 : Int) else 0) + 2 ≤ 26 := by
        intro i hi
        refine ⟨hA i hi, ?_⟩
        have := fs.2.2 i hi
        have := D.h24
        rw [lrR_sum] at hN
        split <;> lia
      have s1' : ∀ i, i < V.length → 0 < fl V H i + (if rm V H i > lrC V H then (1 : Int) else 0) → lrC V H - V.sum < vL 6 V H i (fl V H i + (if rm V H i > lrC V H then (1 : Int) else 0)) := by
        intro i hi _
        rw [vdef]
        have a := fl_rm (H := H) O hi
        split
        · rw [v6']; lia
        · rw [Int.add_zero, v6]
          obtain ⟨j, hj, e⟩ := List.mem_iff_getElem.mp nth.2.2
          rw [hMl] at hj
          rw [← gt0_get, lrM_gt hj] at e
          have := fl_rm (H := H) O hj
          lia
      have s2' : ∀ i, i < V.length → (decide (rm V H i = lrC V H)) = true → vL 6 V H i (fl V H i + (if rm V H i > lrC V H then (1 : Int) else 0) + 1) = lrC V H - V.sum := by
        intro i hi q
        have q := of_decide_eq_true q
        rw [vdef, if_neg (by lia), Int.add_zero, v6', q]
      have s3' : ∀ i, i < V.length → (decide (rm V H i = lrC V H)) = false → vL 6 V H i (fl V H i + (if rm V H i > lrC V H then (1 : Int) else 0) + 1) < lrC V H - V.sum := by
        intro i hi q
        have q := of_decide_eq_false q
        have a := fl_rm (H := H) O hi
        have a' := fl_rm (H := H) O hi
        rw [vdef]
        obtain ⟨j, hj, e⟩ := List.mem_iff_getElem.mp nth.2.2
        rw [hMl] at hj
        rw [← gt0_get, lrM_gt hj] at e
        have := fl_rm (H := H) O hj
        split
        · rw [v6'']; lia
        · rw [Int.add_zero, v6']; lia
      have e1 := sel_sum (fun i => fl V H i + (if rm V H i > lrC V H then (1 : Int) else 0)) (fun i => decide (rm V H i = lrC V H)) N2 V.length
      rw [sum_add] at e1
      rw [lrR_sum] at hN
      refine ⟨_, sel_good W (N := N2) s0' s1' s2' s3', by rw [e1]; (clear D O s0 m0 ok fs W vdef hs hN0 hNm hMl hX hT hC nth hh lp tn hhi cge hcN xsum xat0 xlen xat ht hA cgt nn1 s0' s1' s2' s3' e1; omega), (sel_tie W s0' s1' s2' s3' (N := N2) (by (clear D O s0 m0 ok fs W vdef hs hN hN0 hNm hMl hX hT hC hh lp tn hhi cge hcN xsum xat0 xlen xat ht hgt hA csum nn1 s0' s1' s2' s3' e1; omega)) (by (clear D O s0 m0 ok fs W vdef hs hN hN0 hNm hMl hX hT hC nth hh lp tn hhi cge hcN xsum xat0 xlen xat ht hA cgt nn1 s0' s1' s2' s3' e1; omega))).mpr (by (clear D O s0 m0 ok fs W vdef hs hN hN0 hNm hMl hX hT hC nth hh lp tn hhi cge hcN xsum xat0 xlen xat ht hA cgt nn1 s0' s1' s2' s3' e1; omega)), fun i hi => ?_⟩
      have := s0' i hi
      unfold selX
      dsimp only
      split <;> (clear D O s0 m0 ok fs W vdef hs hN hN0 hNm hMl hX hT hC nth hh lp tn hhi cge hcN xsum xat0 xlen xat ht hgt hA cgt csum hN2 nn1 s0' s1' s2' s3' e1 hi; omega)
    · have hgt : N < cnt h V.length := by rw [hT] at ht; exact tn.mp ht
      have e := rests_eq (H := H) O
      have hsl : (sortI (lrM V H)).length = V.length := by rw [sortI_length, hMl]
      have hrs : (lrM V H).sum = (N : Int) * V.sum := by
        rw [sum_sumN, hMl, sumN_congr fun i hi => lrM_gt hi, sum_fl O]
        rw [lrR_sum] at hN
        congr 1
        lia
      refine ⟨N, ?_, hN0, hNm, ?_⟩
      · rw [e, sortI_sum, hrs]
        exact Int.mul_fdiv_cancel _ (by exact Int.ne_of_gt s0)
      · rw [e]
        have hc2 : gt0 (sortI (lrM V H)) (V.length - N) = lrC V H := by rw [hC, hMl]
        have srt := sortI_sorted (lrM V H)
        have le := sorted_le srt (show V.length - N - 1 ≤ V.length - N by exact Nat.sub_le _ _) (by (clear D O s0 ok fs W vdef hN0 hNm hX hT hC nth hh lp tn hhi cge hcN xsum xat0 xlen xat ht hgt e hrs hc2 srt; lia))
        rw [hc2] at le ⊢
        refine Int.le_antisymm ?_ le
        apply Classical.byContradiction
        intro q
        have c1 := sortI_count (fun w => decide (w ≥ lrC V H)) (lrM V H)
        have cc : ((sortI (lrM V H)).filter fun w => decide (w ≥ lrC V H)).length ≤ N := by
          have e3 : sortI (lrM V H) = (sortI (lrM V H)).take (V.length - N) ++ (sortI (lrM V H)).drop (V.length - N) := (List.take_append_drop _ _).symm
          rw [e3, List.filter_append, List.length_append]
          have z : ((sortI (lrM V H)).take (V.length - N)).filter (fun w => decide (w ≥ lrC V H)) = [] := by
            rw [List.filter_eq_nil_iff]
            intro x hx
            obtain ⟨i, hi, rfl⟩ := List.mem_iff_getElem.mp hx
            rw [List.length_take] at hi
            rw [List.getElem_take, ← gt0_get]
            have := sorted_le srt (show i ≤ V.length - N - 1 by (clear D O s0 m0 ok fs W vdef hN0 hX hT hC nth hh tn hhi cge hcN xat0 xat ht hgt e hrs hc2 srt le q c1 e3 hx; lia)) (by (clear D O s0 ok fs W vdef hN0 hNm hMl hX hT hC nth hh lp tn hhi cge hcN xsum xat0 xlen xat ht hgt e hrs hc2 srt le q c1 e3 hi hx; omega))
            rw [decide_eq_true_eq]
            clear D O s0 m0 ok fs W vdef hs hN hN0 hNm hMl hX hT nth hh lp tn hhi cge hcN xsum xat0 xlen xat ht hgt e hsl hrs srt le c1 e3 hi hx; lia
          rw [z]
          have := List.length_filter_le (fun w => decide (w ≥ lrC V H)) ((sortI (lrM V H)).drop (V.length - N))
          rw [List.length_drop, hsl] at this
          rw [List.length_nil]
          clear D O s0 m0 ok fs W vdef hN0 hX hT hC nth hh tn hhi cge hcN xat0 xat ht hgt e hrs hc2 srt le q c1 e3 z; lia
        clear D O s0 m0 ok fs W vdef hs hN0 hNm hMl hX hT hC nth hh tn hhi hcN xat0 xlen xat ht e hsl hrs hc2 srt le q; lia
end Mine
end
section
namespace Mine
open PySem
variable {V : List Int} {nm : Str} {al hd : Bool}

theorem sum_rep (m : Nat) : (List.replicate m (0 : Int)).sum = 0 := by
  induction m with
  | zero => rfl
  | succ m ih => rw [List.replicate_succ, List.sum_cons, ih]; rfl
theorem div_skip0 (n : Nat) {R : List Int} {P : PV} {o o2 : Bool} (hs : R.sum = 0) :
    Out (exs (n + 80) ⟨G1, false, hd⟩ divFD.scope (divF V 0 nm al ++ [(S "representatives", intL R, o), (S "divisors", P, o2)]) (divFD.body.drop 2)) = .ok (intL R) := by
  have hs : decide (((0 : Nat) : Int) > R.sum) = false := decide_eq_false (by lia)
  refine o_next (r_ifF (r_tcmp rfl rfl (r_blt rfl rfl (m_cons rfl m_nil) (b_sum _ _)) (congrArg Res.ok hs)) r_nil) ?_
  refine o_next (r_assign (v := .bool false) rfl rfl) ?_
  refine o_next (r_ifF (r_tcmp rfl rfl (r_blt rfl rfl (m_cons rfl m_nil) (b_sum _ _)) (congrArg Res.ok hs)) r_nil) ?_
  refine o_next (r_ifF (r_and (a := false) (b := !al) (r_tname rfl) (r_not (r_tname rfl))) r_nil) (o_return rfl)
theorem div_zero (n : Nat) {k : Nat} (hk : k < 3) (N : Nm nm k) (hl : V.length ≤ 1000) :
    callF (n + 83) ⟨G1, false, hd⟩ divFD [intL V, .int ((0 : Nat) : Int), .str nm, .bool al] = .ok (intL (List.replicate V.length 0)) := by
  refine c_call (by decide +kernel) rfl ?_
  show Out (exs (n + 82) ⟨G1, false, hd⟩ divFD.scope (divF V 0 nm al) divFD.body) = _
  refine o_next (r_assign (r_repI rfl rfl (r_lenN rfl rfl rfl hl) hl) (a_ints rfl)) ?_
  match k, hk with
  | 0, _ =>
    exact o_next (ρ' := divF V 0 nm al ++ [(S "representatives", intL (List.replicate V.length 0), true), (S "divisors", pairL [], true)]) (r_ifT (r_tcmp rfl rfl rfl (cI N.g0)) (r_next (r_assign (v := pairL []) (r_compP (f := fun i : Nat => ((i : Int) + 1, 1)) rfl (r_rangeI (m := 0) rfl rfl (by decide)) (show 0 ≤ szLine by decide) fun a ha => absurd ha (by simp)) rfl) r_nil)) (div_skip0 n (sum_rep _))
  | 1, _ =>
    exact o_next (ρ' := divF V 0 nm al ++ [(S "representatives", intL (List.replicate V.length 0), true), (S "divisors", pairL [], true)]) (r_ifF (r_tcmp rfl rfl rfl (cI N.g0)) (r_next (r_ifT (r_tcmp rfl rfl rfl (cI N.g1)) (r_next (r_assign (v := pairL []) (r_compP (f := fun i : Nat => (2 * (i : Int) + 1, 1)) rfl (r_rangeI (m := 0) rfl rfl (by decide)) (show 0 ≤ szLine by decide) fun a ha => absurd ha (by simp)) rfl) r_nil)) r_nil)) (div_skip0 n (sum_rep _))
  | 2, _ =>
    exact o_next (ρ' := divF V 0 nm al ++ [(S "representatives", intL (List.replicate V.length 0), false), (S "divisors", pairL [(7, 5)], false)]) (r_ifF (r_tcmp rfl rfl rfl (cI N.g0)) (r_next (r_ifF (r_tcmp rfl rfl rfl (cI N.g1)) (r_next (r_ifT (r_tcmp rfl rfl rfl (cI N.g2)) (r_next (r_assign (v := pairL [(7, 5)]) (Eq.trans (r_bin (b := pairL []) (a := .list [pairP (7, 5)]) rfl rfl (r_compP (f := fun i : Nat => (2 * (1 + (i : Int)) + 1, 1)) rfl (i_range2 (k := 1) (m := 0) rfl rfl rfl (by decide) (by decide)) (show 0 ≤ szLine by decide) fun a ha => absurd ha (by simp)) rfl) rfl) rfl) r_nil)) r_nil)) r_nil)) (div_skip0 n (sum_rep _))
theorem comp_zero (n : Nat) {k : Nat} (hk : k < 3) (N : Nm nm k) (hl : V.length ≤ 1000) : callF (n + 110) ⟨G1, false, hd⟩ compFD [.str nm, intL V, .int ((0 : Nat) : Int)] = .ok (intL (List.replicate V.length 0)) := by
  rw [comp_dflt]
  exact comp_div N (by lia) (fun e => by cases e) (fun n => div_zero n hk N hl) n
end Mine
end
section
namespace Mine
open PySem

section congr
variable {m : Nat} {vl vl' : Nat → Int → Int} {x x' : Nat → Int}
theorem key_congr {i : Nat} {s : Int} (h : vl i s = vl' i s) : keyOf vl i s = keyOf vl' i s := by unfold keyOf; rw [h]
theorem good_congr (hv : ∀ i, i < m → ∀ s, vl i s = vl' i s) (hx : ∀ i, i < m → x i = x' i) (g : Good m (keyOf vl) x) : Good m (keyOf vl') x' := by
  intro i j hi hj nij hp
  rw [← key_congr (hv j hj _), ← key_congr (hv i hi _), ← hx i hi, ← hx j hj]
  exact g i j hi hj nij (by rw [hx i hi]; exact hp)
theorem tie_congr (hv : ∀ i, i < m → ∀ s, vl i s = vl' i s) (hx : ∀ i, i < m → x i = x' i) (t : TieS m vl x) : TieS m vl' x' := by
  obtain ⟨i, j, hi, hj, nij, hp, e⟩ := t
  exact ⟨i, j, hi, hj, nij, by rw [← hx i hi]; exact hp, by rw [← hv i hi, ← hv j hj, ← hx i hi, ← hx j hj]; exact e⟩
theorem ends_congr {l b : Nat} (hv : ∀ i, i < m → ∀ s, vl i s = vl' i s) (hx : ∀ i, i < m → x i = x' i) (E : Ends m (keyOf vl) x l b) : Ends m (keyOf vl') x' l b := by
  refine ⟨E.lm, E.bm, by rw [← hx l E.lm]; exact E.lp, fun k hk nk hp => ?_, fun k hk nk => ?_⟩
  · rw [← key_congr (hv l E.lm _), ← key_congr (hv k hk _), ← hx l E.lm, ← hx k hk]
    exact E.ll k hk nk (by rw [hx k hk]; exact hp)
  · rw [← key_congr (hv k hk _), ← key_congr (hv b E.bm _), ← hx b E.bm, ← hx k hk]
    exact E.bb k hk nk
end congr

theorem gt0_set {Y : List Int} {i p : Nat} {w : Int} (h : i < Y.length) : gt0 (Y.set i w) p = if p = i then w else gt0 Y p := by
  unfold gt0
  rw [List.getD_eq_getElem?_getD, List.getElem?_set]
  by_cases e : i = p
  · subst e; rw [if_pos rfl, if_pos h, if_pos rfl]; rfl
  · rw [if_neg e, if_neg (Ne.symm e), List.getD_eq_getElem?_getD]
theorem mv_at {D : List Int} {l b : Nat} (hl : l < D.length) (hb : b < D.length) (p : Nat) : gt0 (mv D l b) p = upd (upd (gt0 D) l (-1)) b 1 p := by
  unfold mv upd
  rw [gt0_set (by rw [List.length_set]; exact hb), gt0_set hl, gt0_set hl]
  by_cases e : p = b
  · subst e
    rw [if_pos rfl, if_pos rfl]
    split
    · rename_i q
      rw [q]; rfl
    · rfl
  · rw [if_neg e, if_neg e]
    split
    · rename_i q; subst q; rfl
    · rfl
theorem mv_length {D : List Int} {l b : Nat} : (mv D l b).length = D.length := by unfold mv; rw [List.length_set, List.length_set]
theorem list_ext {X Y : List Int} (hl : X.length = Y.length) (h : ∀ i, i < X.length → gt0 X i = gt0 Y i) : X = Y := by
  refine List.ext_getElem hl fun i h1 h2 => ?_
  rw [← gt0_get h1, ← gt0_get h2]; exact h i h1
theorem upd_sum {D D' : List Int} {a : Nat} {d : Int} (hl : D'.length = D.length) (ha : a < D.length) (h : ∀ p, p < D.length → gt0 D' p = upd (gt0 D) a d p) : D'.sum = D.sum + d := by
  rw [sum_sumN, sum_sumN D, hl, sumN_congr h, sumN_upd ha]
theorem mv_sum {D : List Int} {l b : Nat} (hl : l < D.length) (hb : b < D.length) : (mv D l b).sum = D.sum := by
  rw [sum_sumN, sum_sumN D, mv_length, sumN_congr fun p _ => mv_at hl hb p, sumN_upd hb, sumN_upd hl]; lia

theorem filt_tab : ((List.range 8).all fun m => (List.range 8).all fun g => decide (¬ g < m) || decide (((List.range m).filter fun p : Nat => !decide ((p : Int) = (g : Int))) = (List.range (m - 1)).map (psi g))) = true := by decide +kernel
theorem filt_eq {m g : Nat} (hm : m ≤ 7) (hg : g < m) : ((List.range m).filter fun p : Nat => !decide ((p : Int) = (g : Int))) = (List.range (m - 1)).map (psi g) := by
  have := of_table (of_table filt_tab (show m < 8 by exact Nat.lt_succ_of_le hm)) (show g < 8 by lia)
  rw [Bool.or_eq_true, decide_eq_true_eq, decide_eq_true_eq] at this
  exact this.resolve_left (by lia)
theorem joinL_length {V : List Int} {a g : Nat} (hm : V.length ≤ 7) (hg : g < V.length) : (joinL V a g).length = V.length - 1 := by
  unfold joinL
  rw [filt_eq hm hg, List.length_map, List.length_map, List.length_range]
theorem joinL_at {V : List Int} {a g : Nat} (hm : V.length ≤ 7) (hg : g < V.length) {q : Nat} (hq : q < V.length - 1) : gt0 (joinL V a g) q = jn (gt0 V) a g q := by
  unfold joinL
  rw [filt_eq hm hg, List.map_map]
  unfold gt0
  rw [List.getD_eq_getElem?_getD, List.getElem?_map, List.getElem?_range hq]
  show (if decide ((psi g q : Int) = (a : Int)) = true then gt0 V (psi g q) + gt0 V g else gt0 V (psi g q)) = _
  unfold jn upd
  by_cases e : psi g q = a
  · rw [if_pos (by rw [decide_eq_true_eq]; lia), if_pos e]; rfl
  · rw [if_neg (by rw [decide_eq_true_eq]; lia), if_neg e]; rfl
theorem joinL_sum {V : List Int} {a g : Nat} (hm : V.length ≤ 7) (ha : a < V.length) (hg : g < V.length) (h : a ≠ g) : (joinL V a g).sum = V.sum := by
  rw [sum_sumN, joinL_length hm hg, sumN_congr fun q hq => joinL_at hm hg hq, sum_sumN V]
  have e := sumN_psi (upd (gt0 V) a (gt0 V g)) hg
  rw [sumN_upd ha, upd_ne (Ne.symm h)] at e
  have e2 : sumN (V.length - 1) (jn (gt0 V) a g) = sumN (V.length - 1) (fun q => upd (gt0 V) a (gt0 V g) (psi g q)) := rfl
  rw [e2]; lia

theorem pick_at0 (V : List Int) (i j : Nat) : gt0 (pick V i j) 0 = gt0 V (min i j) := rfl
theorem pick_at1 (V : List Int) (i j : Nat) : gt0 (pick V i j) 1 = gt0 V (max i j) := rfl
noncomputable def pk (i j q : Nat) : Nat := if q = 0 then min i j else max i j
theorem pick_at {V : List Int} {i j q : Nat} (hq : q < 2) : gt0 (pick V i j) q = gt0 V (pk i j q) := by
  match q, hq with
  | 0, _ => rfl
  | 1, _ => rfl
theorem pick_sum (V : List Int) (i j : Nat) : (pick V i j).sum = gt0 V i + gt0 V j := by
  show gt0 V (min i j) + (gt0 V (max i j) + 0) = _
  by_cases h : i ≤ j
  · rw [show min i j = i by lia, show max i j = j by lia]; lia
  · rw [show min i j = j by lia, show max i j = i by lia]; lia
theorem pk_lt {m i j q : Nat} (hi : i < m) (hj : j < m) : pk i j q < m := by unfold pk; split <;> lia
theorem pk_mono {i j q r : Nat} (h : i ≠ j) (hq : q < 2) (hr : r < 2) : pk i j q < pk i j r ↔ q < r := by unfold pk; split <;> split <;> lia
theorem val_indep {k : Nat} (hk : k < 6) (v s H T H' T' : Int) : valF k v s H T = valF k v s H' T' := by
  have h6 : ¬ k = 6 := by exact Nat.ne_of_lt hk
  unfold valF
  rw [if_neg h6, if_neg h6]
end Mine
end
section
namespace Mine
open PySem

/-- the method's answer, told from any good state of that sum -/
theorem answer {k : Nat} {nm : Str} {W D : List Int} {H : Nat} (N : Nm nm k) (hk : k ≤ 6) (O : VOK W) (h0 : 0 < H) (h24 : H ≤ 24) (h3 : 3 ≤ k → k < 6 → W.length ≤ H) (sz : W.length * H ≤ 63)
    (P : XOK W D) (hs : D.sum = H) (hg : Good W.length (keyOf (vL k W H)) (gt0 D)) :
    ∃ Y U, Cmp nm W H Y U ∧ (U = true ↔ TieS W.length (vL k W H) (gt0 D)) ∧ (k < 6 ∨ U = false → Y = D) := by
  have V' := O.val hk (H := H)
  have fitsOf : ∀ {Y : List Int}, Y.length = W.length → (∀ i, i < W.length → 0 ≤ gt0 Y i ∧ gt0 Y i ≤ H) → Fits W.length 26 (gt0 Y) := fun _ h i hi => by have := h i hi; lia
  have same : ∀ {Y : List Int}, Y.length = W.length → Fits W.length 26 (gt0 Y) → Y.sum = H → Good W.length (keyOf (vL k W H)) (gt0 Y) → Y = D := by
    intro Y hl hf hys hyg
    refine list_ext (hl.trans P.len.symm) fun i hi => ?_
    refine good_uniq V'.key hyg hg hf P.fits ?_ i (by lia)
    rw [← hl, ← sum_sumN, hys, hl, ← P.len, ← sum_sumN, hs]
  by_cases k6 : k = 6
  · subst k6
    have out := lr_plain (V := W) (H := H) ⟨O, h0, h24⟩
    refine ⟨_, _, Cmp.of_lr out.ok N, ?_, ?_⟩
    · cases hT : lrT W H with
      | true =>
        obtain ⟨x, xg, xs, xt, xf⟩ := out.tie hT
        refine ⟨fun _ => ?_, fun _ => rfl⟩
        have e : ∀ i, i < W.length → x i = gt0 D i := good_uniq V'.key xg hg xf P.fits (by rw [xs, ← P.len, ← sum_sumN, hs])
        exact tie_congr (fun _ _ _ => rfl) e xt
      | false =>
        refine ⟨fun h => Bool.noConfusion h, fun t => ?_⟩
        have st := out.strict hT
        have e := same out.len (fitsOf out.len (out.x0 hT)) (out.sum hT) (strict_good V' st)
        rw [e] at st
        exact absurd t (strict_noTie st)
    · intro h
      have hT := h.resolve_left (by decide)
      exact same out.len (fitsOf out.len (out.x0 hT)) (out.sum hT) (strict_good V' (out.strict hT))
  · have hk6 : k < 6 := by lia
    have out := div_plain (k := k) (V := W) (H := H) ⟨hk6, O, h0, h24, fun h => h3 h hk6, sz⟩
    have e : divX k W H = D := same out.len (fitsOf out.len fun i hi => by have := out.x0 i hi; have := bs_le k; lia) out.sum (out.good H)
    refine ⟨_, _, Cmp.of_div out.ok N, ?_, fun _ => e⟩
    rw [out.tie H, e]

structure Base (k : Nat) (nm : Str) (V : List Int) (H : Nat) (X : List Int) : Prop where
  N : Nm nm k
  k6 : k ≤ 6
  O : VOK V
  m3 : 3 ≤ V.length
  m5 : V.length ≤ 5
  h0 : 0 < H
  h12 : H ≤ 12
  hm : 3 ≤ k → k < 6 → V.length ≤ H
  P : XOK V X
  sum : X.sum = H
  good : Good V.length (keyOf (vL k V H)) (gt0 X)
  x3 : 3 ≤ k → k < 6 → ∀ i, i < V.length → 1 ≤ gt0 X i
  n6 : k = 6 → ∀ i, i < V.length → -V.sum ≤ valF 6 (gt0 V i) (gt0 X i) H V.sum ∧ valF 6 (gt0 V i) (gt0 X i + 1) H V.sum < 0
  st6 : k = 6 → StrictS V.length (vL 6 V H) (gt0 X)
variable {k : Nat} {nm : Str} {V X : List Int} {H : Nat} {a g : Nat}

theorem two_le {x : Nat → Int} {m : Nat} (h : ∀ i, i < m → 0 ≤ x i) {a g : Nat} (ha : a < m) (hg : g < m) (ag : a ≠ g) : x a + x g ≤ sumN m x := by
  have e := sumN_psi (upd x a (x g)) hg
  rw [sumN_upd ha, upd_ne (Ne.symm ag)] at e
  have nn : ∀ q, q < m - 1 → 0 ≤ upd x a (x g) (psi g q) := by
    intro q hq
    have := h _ (psi_lt (g := g) hq)
    have := h g hg
    unfold upd
    split <;> lia
  have := nn_le_sum nn (posA a g) (posA_lt ha hg ag)
  rw [psi_pos ag, upd_at] at this
  lia
theorem Base.join (B : Base k nm V H X) (ha : a < V.length) (hg : g < V.length) (ag : a ≠ g) : JoinIn k V.length (gt0 V) (gt0 X) H V.sum a g := by
  have xn := fun i hi => (B.P.x0 i hi).1
  have xs := B.sum
  rw [sum_sumN, B.P.len] at xs
  have h12 := B.h12
  have h0 := B.h0
  have t1 := two_le xn ha hg ag
  have vs := B.O.s1
  rw [sum_sumN] at vs
  have t2 := two_le (fun i hi => Int.le_of_lt (B.O.vp i hi).1) ha hg ag
  refine ⟨B.k6, ha, hg, ag, B.O.vp, by exact Int.lt_of_le_of_lt t2 vs, fun i hi => ⟨xn i hi, ?_⟩, by lia, by lia, B.O.s0, B.x3, fun h i hi => ⟨fun _ => (B.n6 h i hi).1, (B.n6 h i hi).2⟩, fun h => B.st6 h, B.O.m7⟩
  have := nn_le_sum xn i hi
  lia
theorem Base.vokJ (B : Base k nm V H X) (ha : a < V.length) (hg : g < V.length) (ag : a ≠ g) : VOK (joinL V a g) := by
  have J := B.join ha hg ag
  have hl := joinL_length (a := a) B.O.m7 hg
  have m3 := B.m3; have m5 := B.m5
  refine ⟨by lia, by lia, fun i hi => ?_, by rw [joinL_sum B.O.m7 ha hg ag]; exact B.O.s0, by rw [joinL_sum B.O.m7 ha hg ag]; exact B.O.s1⟩
  rw [hl] at hi
  rw [joinL_at B.O.m7 hg hi]
  exact J.vp' i hi
theorem Base.vlJ (B : Base k nm V H X) (ha : a < V.length) (hg : g < V.length) (ag : a ≠ g) : ∀ i, i < V.length - 1 → ∀ s, vL k (joinL V a g) H i s = vlf k (jn (gt0 V) a g) H V.sum i s := by
  intro i hi s
  unfold vL vlf
  rw [joinL_at B.O.m7 hg hi, joinL_sum B.O.m7 ha hg ag]

/-- the state that the law makes for the joined -/
theorem Base.due (B : Base k nm V H X) (ha : a < V.length) (hg : g < V.length) (ag : a ≠ g) : ∃ (w w1 : Int) (l b : Nat) (D : List Int),
    Weighs k (joinL V a g) (joinL X a g) H w l b ∧
    (w = 1 → D = mv (joinL X a g) l b ∧ l < (joinL X a g).length ∧ b < (joinL X a g).length ∧ ∃ l' b' : Nat, Weighs k (joinL V a g) D H w1 l' b') ∧
    (w ≠ 1 → D = joinL X a g ∧ w1 = w) ∧
    XOK (joinL V a g) D ∧ D.sum = H ∧ Good (joinL V a g).length (keyOf (vL k (joinL V a g) H)) (gt0 D) ∧ (w1 = 0 ↔ TieS (joinL V a g).length (vL k (joinL V a g) H) (gt0 D)) ∧
    (gt0 X a + gt0 X g - 1 ≤ gt0 D (posA a g) ∧ gt0 D (posA a g) ≤ gt0 X a + gt0 X g + 1) := by
  have J := B.join ha hg ag
  have O' := B.vokJ ha hg ag
  have m7 := B.O.m7
  have hlV := joinL_length (V := V) (a := a) m7 hg
  have hlX := joinL_length (V := X) (a := a) (g := g) (by rw [B.P.len]; exact m7) (by rw [B.P.len]; exact hg)
  have xat : ∀ q, q < V.length - 1 → gt0 (joinL X a g) q = jn (gt0 X) a g q := fun q hq => joinL_at (by rw [B.P.len]; exact m7) (by rw [B.P.len]; exact hg) (by rw [B.P.len]; exact hq)
  rw [B.P.len] at hlX
  have P0 : XOK (joinL V a g) (joinL X a g) := by
    refine ⟨by rw [hlX, hlV], fun i hi => ?_⟩
    rw [hlV] at hi
    rw [xat i hi]
    have := J.x0' i hi
    lia
  have s0 : (joinL X a g).sum = H := by
    rw [joinL_sum (by rw [B.P.len]; exact m7) (by rw [B.P.len]; exact ha) (by rw [B.P.len]; exact hg) ag]; exact B.sum
  have vlJ := B.vlJ ha hg ag
  have pos : ∀ {D : List Int}, XOK (joinL V a g) D → D.sum = H → ∃ i, i < (joinL V a g).length ∧ 0 < gt0 D i := by
    intro D P hs
    apply Classical.byContradiction
    intro q
    have z : sumN (joinL V a g).length (gt0 D) ≤ sumN (joinL V a g).length (fun _ => 0) := sumN_le fun i hi => by
      apply Classical.byContradiction
      intro r
      exact q ⟨i, hi, by lia⟩
    rw [sumN_const, ← P.len, ← sum_sumN, hs] at z
    have := B.h0
    lia
  have hJ := posA_lt ha hg ag
  obtain ⟨l, b, w, E, hw, w1, w2⟩ := weighs_ok (H := H) B.k6 O' P0 (pos P0 s0) (by have := B.h12; lia)
  by_cases g0 : Good (joinL V a g).length (keyOf (vL k (joinL V a g) H)) (gt0 (joinL X a g))
  · have w1 := w1 g0
    refine ⟨w, w, l, b, joinL X a g, hw, fun h => ?_, fun _ => ⟨rfl, rfl⟩, P0, s0, g0, ?_, ?_⟩
    · by_cases t : TieS (joinL V a g).length (vL k (joinL V a g) H) (gt0 (joinL X a g))
      · have := w1.1 t; (clear B ha hg ag J O' m7 hlV hlX xat P0 s0 vlJ pos hJ E hw w2 g0 w1 t; lia)
      · have := w1.2 t; (clear B ha hg ag J O' m7 hlV hlX xat P0 s0 vlJ pos hJ E hw w2 g0 w1 t; lia)
    · by_cases t : TieS (joinL V a g).length (vL k (joinL V a g) H) (gt0 (joinL X a g))
      · exact ⟨fun _ => t, fun _ => w1.1 t⟩
      · exact ⟨fun h => by have := w1.2 t; (clear B ha hg ag J O' m7 hlV hlX xat P0 s0 vlJ pos hJ E hw w2 g0 w1 t; lia), fun h => absurd h t⟩
    · rw [xat _ hJ, jn_J ag]; lia
  · have w2 := w2 g0
    have hl : l < (joinL X a g).length := by rw [P0.len]; exact E.lm
    have hb : b < (joinL X a g).length := by rw [P0.len]; exact E.bm
    have E' : Ends (V.length - 1) (keyOf (vlf k (jn (gt0 V) a g) H V.sum)) (jn (gt0 X) a g) l b := by
      rw [hlV] at E
      exact ends_congr vlJ xat E
    have ng : ¬ Good (V.length - 1) (keyOf (vlf k (jn (gt0 V) a g) H V.sum)) (jn (gt0 X) a g) := by
      intro c
      apply g0
      rw [hlV]
      exact good_congr (fun i hi s => (vlJ i hi s).symm) (fun i hi => (xat i hi).symm) c
    obtain ⟨nbl, hJ2, gd⟩ := join_good J B.good E' ng
    have mat := fun p => mv_at (D := joinL X a g) hl hb p
    have mlen : (mv (joinL X a g) l b).length = (joinL V a g).length := by rw [mv_length, P0.len]
    have El := E'.lp
    have PD : XOK (joinL V a g) (mv (joinL X a g) l b) := by
      refine ⟨mlen, fun i hi => ?_⟩
      have x0 := P0.x0 i hi
      rw [hlV] at hi
      have x1 := J.x0' i hi
      rw [← xat i hi] at x1
      rw [← xat l E'.lm] at El
      rw [mat]
      unfold upd
      split <;> split
      · clear B ha hg ag J O' m7 hlV hlX xat P0 s0 vlJ pos hJ E hw w1 g0 w2 hl hb E' ng hJ2 gd mat mlen El hi x0 x1; lia
      · lia
      · rename_i q; subst q; lia
      · omega
    have sD : (mv (joinL X a g) l b).sum = H := by rw [mv_sum hl hb]; exact s0
    have GD : Good (joinL V a g).length (keyOf (vL k (joinL V a g) H)) (gt0 (mv (joinL X a g) l b)) := by
      rw [hlV]
      refine good_congr (fun i hi s => (vlJ i hi s).symm) (fun i hi => ?_) gd
      rw [mat]
      unfold upd
      rw [xat i hi]
    obtain ⟨l', b', w', E2, hw', v1, v2⟩ := weighs_ok (H := H) B.k6 O' PD (pos PD sD) (by have := B.h12; lia)
    have v1 := v1 GD
    refine ⟨w, w', l, b, _, hw, fun _ => ⟨rfl, hl, hb, l', b', hw'⟩, fun h => absurd w2 h, PD, sD, GD, ?_, ?_⟩
    · by_cases t : TieS (joinL V a g).length (vL k (joinL V a g) H) (gt0 (mv (joinL X a g) l b))
      · exact ⟨fun _ => t, fun _ => v1.1 t⟩
      · exact ⟨fun h => by have := v1.2 t; (clear B ha hg ag J O' m7 hlV hlX xat P0 s0 vlJ pos hJ E hw w1 g0 w2 hl hb E' ng nbl hJ2 gd mat mlen El PD sD GD E2 hw' v2 v1 t; lia), fun h => absurd h t⟩
    · rw [mat]
      have e := xat _ hJ
      rw [jn_J ag] at e
      unfold upd
      rw [e]
      split <;> split <;> lia
end Mine
end
section
namespace Mine
open PySem
variable {k : Nat} {nm : Str} {V X : List Int} {H : Nat} {i j : Nat}

theorem Base.vokM (B : Base k nm V H X) (hi : i < V.length) (hj : j < V.length) (ij : i ≠ j) : VOK (pick V i j) := by
  have t2 := two_le (fun i hi => Int.le_of_lt (B.O.vp i hi).1) hi hj ij
  have vs := B.O.s1
  rw [sum_sumN] at vs
  have a := B.O.vp i hi
  have b := B.O.vp j hj
  refine ⟨by show 0 < 2; decide, by show 2 ≤ 7; decide, fun q hq => ?_, by rw [pick_sum]; (clear B hi hj ij t2 vs; omega), by rw [pick_sum]; (exact Int.lt_of_le_of_lt t2 vs)⟩
  have hq : q < 2 := hq
  rw [pick_at hq]
  exact B.O.vp _ (pk_lt hi hj)
theorem Base.xokM (B : Base k nm V H X) (hi : i < V.length) (hj : j < V.length) : XOK (pick V i j) (pick X i j) := by
  refine ⟨rfl, fun q hq => ?_⟩
  have hq : q < 2 := hq
  rw [pick_at hq]
  exact B.P.x0 _ (pk_lt hi hj)
theorem Base.x12 (B : Base k nm V H X) (hi : i < V.length) (hj : j < V.length) (ij : i ≠ j) : 0 ≤ gt0 X i ∧ 0 ≤ gt0 X j ∧ gt0 X i + gt0 X j ≤ H := by
  have xn := fun i hi => (B.P.x0 i hi).1
  have xs := B.sum
  rw [sum_sumN, B.P.len] at xs
  have t1 := two_le xn hi hj ij
  exact ⟨xn i hi, xn j hj, by lia⟩

theorem Base.mates (B : Base k nm V H X) (hi : i < V.length) (hj : j < V.length) (ij : i ≠ j) {c : Int} (c0 : 0 ≤ c) (hc1 : gt0 X i + gt0 X j - 1 ≤ c) (hc2 : c ≤ gt0 X i + gt0 X j + 1) (hk : k < 3 ∨ (k < 6 ∧ 1 < c)) :
    (c < (pick X i j).sum → 0 < (endsN k (pick V i j) (pick X i j) H (pick X i j).length).1) ∧
    ∀ n, callF (n + 110) ⟨G1, false, false⟩ compFD [.str nm, intL (pick V i j), .int c] = .ok (intL (sharedOf (pick X i j) (endsN k (pick V i j) (pick X i j) H (pick X i j).length) c)) := by
  have hk6 : k < 6 := by (clear B hi hj ij c0 hc1 hc2; omega)
  have O := B.vokM hi hj ij
  have P := B.xokM hi hj
  have xb := B.x12 hi hj ij
  have h12 := B.h12
  have hs := pick_sum X i j
  have W := O.val B.k6 (H := (H : Int))
  have len2 : (pick V i j).length = 2 := rfl
  have xle : ∀ q, q < 2 → 0 ≤ gt0 (pick X i j) q ∧ gt0 (pick X i j) q ≤ 12 := by
    intro q hq
    have h0 := P.x0 0 (show 0 < 2 by decide)
    have h1 := P.x0 1 (show 1 < 2 by decide)
    have e : gt0 (pick X i j) 0 + gt0 (pick X i j) 1 = gt0 X i + gt0 X j := by
      rw [← hs]
      show _ = gt0 X (min i j) + (gt0 X (max i j) + 0)
      rw [pick_at0, pick_at1]; lia
    match q, hq with
    | 0, _ => clear B hi hj ij c0 hc1 hc2 hk hk6 O P W len2 hq; lia
    | 1, _ => clear B hi hj ij c0 hc1 hc2 hk hk6 O P W len2 hq; lia
  have gd : Good (pick V i j).length (keyOf (vL k (pick V i j) H)) (gt0 (pick X i j)) := by
    intro q r hq hr nqr hp
    have hq' : q < 2 := hq
    have hr' : r < 2 := hr
    rw [W.lt hq hr]
    rw [pick_at hq'] at hp
    have pq := pk_lt (m := V.length) (i := i) (j := j) (q := q) hi hj
    have pr := pk_lt (m := V.length) (i := i) (j := j) (q := r) hi hj
    have ne : pk i j q ≠ pk i j r := by
      intro e
      have a := pk_mono (i := i) (j := j) ij hq' hr'
      have b := pk_mono (i := i) (j := j) ij hr' hq'
      clear B hi hj ij c0 hc1 hc2 hk hk6 O P xb h12 hs W len2 xle hq hr hp hq' hr' pq pr; lia
    have g := ((B.O.val B.k6 (H := (H : Int))).lt pq pr).mp (B.good _ _ pq pr ne hp)
    rw [pk_mono ij hq' hr'] at g
    have ve : ∀ q, q < 2 → ∀ s, vL k (pick V i j) H q s = vL k V H (pk i j q) s := by
      intro q hq s
      show valF k (gt0 (pick V i j) q) s H _ = valF k (gt0 V (pk i j q)) s H _
      rw [pick_at hq]
      exact val_indep hk6 _ _ _ _ _ _
    rw [ve q hq', ve r hr', pick_at hq', pick_at hr']
    exact g
  have bo := best_ok (H := (H : Int)) B.k6 O P
  have lo : 0 < (pick X i j).sum → ∃ l b, (endsN k (pick V i j) (pick X i j) H (pick X i j).length).1 = l + 1 ∧ (endsN k (pick V i j) (pick X i j) H (pick X i j).length).2 = b ∧ Ends (pick V i j).length (keyOf (vL k (pick V i j) H)) (gt0 (pick X i j)) l b := by
    intro hp
    refine ends_ok B.k6 O P ?_
    apply Classical.byContradiction
    intro q
    have z : sumN (pick V i j).length (gt0 (pick X i j)) ≤ sumN (pick V i j).length (fun _ => 0) := sumN_le fun i hi => by
      apply Classical.byContradiction
      intro r
      exact q ⟨i, hi, by lia⟩
    rw [sumN_const, ← P.len, ← sum_sumN] at z
    clear B hi hj ij c0 hc1 hc2 hk hk6 O P xb h12 W len2 xle gd bo q; lia
  generalize he : endsN k (pick V i j) (pick X i j) H (pick X i j).length = e at *
  refine ⟨fun h => by obtain ⟨l, b, h1, _⟩ := lo (by exact Int.lt_of_le_of_lt c0 h); lia, ?_⟩
  -- the state shared
  have sh : XOK (pick V i j) (sharedOf (pick X i j) e c) ∧ (sharedOf (pick X i j) e c).sum = c ∧ Good (pick V i j).length (keyOf (vL k (pick V i j) H)) (gt0 (sharedOf (pick X i j) e c)) := by
    unfold sharedOf
    by_cases h1 : c > (pick X i j).sum
    · rw [if_pos h1]
      have hb : e.2 < (pick X i j).length := bo.1
      have at1 : ∀ p, gt0 ((pick X i j).set e.2 (gt0 (pick X i j) e.2 + 1)) p = upd (gt0 (pick X i j)) e.2 1 p := by
        intro p
        rw [gt0_set hb]
        unfold upd
        split
        · rename_i q; rw [q]
        · rfl
      refine ⟨⟨List.length_set .., fun p hp => ?_⟩, ?_, ?_⟩
      · rw [at1]
        have := xle p hp
        unfold upd
        split <;> (clear B hi hj ij c0 hc1 hc2 hk hk6 O P xb h12 hs W len2 xle gd he bo lo h1 hb at1 hp; lia)
      · rw [upd_sum (List.length_set ..) hb fun p _ => at1 p]
        lia
      · refine good_congr (fun _ _ _ => rfl) (fun p _ => (at1 p).symm) (good_add W (fun p hp => ?_) bo.1 bo.2 gd)
        have := xle p hp
        lia
    · rw [if_neg h1]
      by_cases h2 : c < (pick X i j).sum
      · rw [if_pos h2]
        obtain ⟨l, b, e1, e2, E⟩ := lo (by exact Int.lt_of_le_of_lt c0 h2)
        have el : e.1 - 1 = l := by (clear B hi hj ij c0 hc1 hc2 hk hk6 O P xb h12 hs W len2 xle gd he bo lo h1 h2 e2 E; lia)
        rw [el]
        have hb : l < (pick X i j).length := E.lm
        have at1 : ∀ p, gt0 ((pick X i j).set l (gt0 (pick X i j) l - 1)) p = upd (gt0 (pick X i j)) l (-1) p := by
          intro p
          rw [gt0_set hb]
          unfold upd
          split
          · rename_i q; rw [q]; rfl
          · rfl
        have lp := E.lp
        refine ⟨⟨List.length_set .., fun p hp => ?_⟩, ?_, ?_⟩
        · rw [at1]
          have := xle p hp
          unfold upd
          split
          · rename_i q; rw [q]; rw [q] at this; (clear B hi hj ij c0 hc1 hc2 hk hk6 O P xb h12 hs W len2 xle gd he bo lo h1 h2 e1 e2 E el hb at1 hp q; lia)
          · clear B hi hj ij c0 hc1 hc2 hk hk6 O P xb h12 hs W len2 xle gd he bo lo h1 h2 e1 e2 E el hb at1 lp hp; lia
        · rw [upd_sum (List.length_set ..) hb fun p _ => at1 p]
          lia
        · exact good_congr (fun _ _ _ => rfl) (fun p _ => (at1 p).symm) (good_sub W P.fits E.lm lp E.ll gd)
      · rw [if_neg h2]
        exact ⟨P, by (clear B hi hj ij c0 hc1 hc2 hk hk6 O P xb h12 W len2 xle gd he bo lo; lia), gd⟩
  obtain ⟨Ps, ss, gs⟩ := sh
  generalize sharedOf (pick X i j) e c = Z at *
  by_cases cz : c = 0
  · subst cz
    have hk3 : k < 3 := by lia
    have : Z = List.replicate (pick V i j).length 0 := by
      refine list_ext (by rw [Ps.len, List.length_replicate]) fun p hp => ?_
      rw [Ps.len] at hp
      have z1 := nn_le_sum (x := gt0 Z) (m := (pick V i j).length) (fun i hi => (Ps.x0 i hi).1) p hp
      rw [← Ps.len, ← sum_sumN, ss] at z1
      have := Ps.x0 p hp
      have r : gt0 (List.replicate (pick V i j).length (0 : Int)) p = 0 := by
        unfold gt0
        rw [List.getD_eq_getElem?_getD, List.getElem?_replicate, if_pos hp]; rfl
      lia
    rw [this]
    exact fun n => comp_zero n hk3 B.N (show 2 ≤ 1000 by decide)
  · obtain ⟨n, rfl⟩ : ∃ n : Nat, c = (n : Int) := ⟨c.toNat, by (clear B hi hj ij hc1 hc2 hk hk6 O P xb h12 hs W len2 xle gd he bo lo Ps gs cz; lia)⟩
    obtain ⟨Y, U, cm, _, hY⟩ := answer (H := n) B.N B.k6 O (by lia) (by lia) (fun h _ => by show 2 ≤ n; lia) (by show 2 * n ≤ 63; lia) Ps ss (good_congr (fun q hq s => val_indep hk6 _ _ _ _ _ _) (fun _ _ => rfl) gs)
    have hY := hY (.inl hk6)
    subst hY
    exact fun m => cm.c1 m false

theorem Base.turn (B : Base k nm V H X) {a g : Nat} (hi : i < V.length) (hj : j < V.length) (ij : i ≠ j) (hag : (a = i ∧ g = j) ∨ (a = j ∧ g = i)) : TurnOK k nm V X H a g (pick V i j) (pick X i j) := by
  have ha : a < V.length := by (clear B ij; lia)
  have hg : g < V.length := by (clear B ij ha; lia)
  have ag : a ≠ g := by lia
  have esum : gt0 X a + gt0 X g = gt0 X i + gt0 X j := by
    rcases hag with ⟨rfl, rfl⟩ | ⟨rfl, rfl⟩ <;> lia
  obtain ⟨w, w1, l, b, D, h1, h2, h3, P, s, G, t, hd⟩ := B.due ha hg ag
  have m5 := B.m5; have m3 := B.m3; have h12 := B.h12
  have hl := joinL_length (V := V) (a := a) B.O.m7 hg
  have sz : (joinL V a g).length * H ≤ 63 := by
    rw [hl]
    have : (V.length - 1) * H ≤ 4 * 12 := Nat.mul_le_mul (by lia) h12
    lia
  obtain ⟨Y, U, cm, hU, hY⟩ := answer B.N B.k6 (B.vokJ ha hg ag) B.h0 (by lia) (fun h h' => by have := B.hm h h'; lia) sz P s G
  have hJ := posA_lt ha hg ag
  refine ⟨w, w1, l, b, D, Y, U, h1, h2, h3, cm, ?_, hY, by rw [P.len, hl]; (clear B hi hj ij hag ha hg ag esum h1 h2 h3 P s G t hd h12 hl sz cm hY hJ; lia), by rw [P.len, hl]; exact hJ, ?_⟩
  · rw [Bool.eq_iff_iff, decide_eq_true_eq, hU, t]
  · intro hk
    rw [esum] at hd
    have D0 := P.x0 (posA a g) (by rw [hl]; exact hJ)
    exact B.mates hi hj ij D0.1 hd.1 hd.2 hk

theorem plain_all (F : Facts k nm V H i j) : ∃ X T, Plain k nm V H i j X T := by
  have m3 := F.m3; have m5 := F.m5; have h12 := F.h12
  have vp : ∀ p, p < V.length → 0 < gt0 V p ∧ gt0 V p < 10000000000000000000000 := fun p hp => F.vb _ (gt0_mem hp)
  have ss := sum_lt (x := gt0 V) (m := V.length) (c := 10000000000000000000000) (by exact Nat.zero_lt_of_lt m3) fun i hi => (vp i hi).2
  have s0 := sumN_lt (x := fun _ => 0) (y := gt0 V) (m := V.length) (fun i hi => Int.le_of_lt (vp i hi).1) 0 (by exact Nat.zero_lt_of_lt m3) (vp 0 (by exact Nat.zero_lt_of_lt m3)).1
  rw [sumN_const, Int.mul_zero, ← sum_sumN] at s0
  rw [← sum_sumN] at ss
  have VL : VLim = 1000000000000000000000000 := rfl
  have LL : VLim < Lim := by decide +kernel
  have O : VOK V := ⟨by exact Nat.zero_lt_of_lt m3, by lia, fun i hi => by have := vp i hi; (clear F m3 m5 h12 vp ss s0 LL hi; omega), s0, by lia⟩
  have sz : V.length * H ≤ 63 := by
    have : V.length * H ≤ 5 * 12 := Nat.mul_le_mul m5 h12
    lia
  -- the rest, from a base
  have fin : ∀ X T, Cmp nm V H X T → Base k nm V H X → ¬ (k = 6 ∧ T = true) → (T = true ↔ TieS V.length (vL k V H) (gt0 X)) → Plain k nm V H i j X T := by
    intro X T c B nt hT
    refine ⟨c, by lia, fun h1 h2 => absurd ⟨h1, h2⟩ nt, fun _ => B.P.len, fun _ => B.sum, fun _ => ?_, fun _ => ?_, fun _ => B.turn F.im F.jm F.ij (.inl ⟨rfl, rfl⟩), fun _ => B.turn F.im F.jm F.ij (.inr ⟨rfl, rfl⟩)⟩
    · obtain ⟨l, b, w, E, hw, w1, _⟩ := weighs_ok (H := H) B.k6 O B.P (by
        apply Classical.byContradiction
        intro q
        have z : sumN V.length (gt0 X) ≤ sumN V.length (fun _ => 0) := sumN_le fun i hi => by
          apply Classical.byContradiction
          intro r
          exact q ⟨i, hi, by lia⟩
        rw [sumN_const, ← B.P.len, ← sum_sumN, B.sum] at z
        have := B.h0
        lia) (by lia)
      have w1 := w1 B.good
      refine ⟨l, b, ?_⟩
      have e : w = if T = true then 0 else -1 := by
        by_cases h : T = true
        · rw [if_pos h]; exact w1.1 (hT.mp h)
        · rw [if_neg h]; exact w1.2 fun t => h (hT.mpr t)
      rw [← e]; exact hw
    · exact fine_ok (B.vokM F.im F.jm F.ij) (B.xokM F.im F.jm) (by lia)
  by_cases k6 : k = 6
  · subst k6
    have out := lr_plain (V := V) (H := H) ⟨O, F.h0, by lia⟩
    have c := Cmp.of_lr out.ok F.nk
    cases hT : lrT V H with
    | true =>
      rw [hT] at c
      exact ⟨_, true, c, by lia, fun _ _ => out.t6 hT, fun h => absurd ⟨rfl, rfl⟩ h, fun h => absurd ⟨rfl, rfl⟩ h, fun h => absurd ⟨rfl, rfl⟩ h, fun h => absurd ⟨rfl, rfl⟩ h, fun h => absurd ⟨rfl, rfl⟩ h, fun h => absurd ⟨rfl, rfl⟩ h⟩
    | false =>
      rw [hT] at c
      have st := out.strict hT
      have W := O.val (k := 6) (H := (H : Int)) (by decide)
      refine ⟨_, false, fin _ _ c ⟨F.nk, by decide, O, m3, m5, F.h0, h12, fun _ h => absurd h (by decide), ⟨out.len, fun i hi => by have := out.x0 hT i hi; lia⟩, out.sum hT, strict_good W st, fun _ h => absurd h (by decide), fun _ => out.n6 hT, fun _ => st⟩ (fun h => Bool.noConfusion h.2) ⟨fun h => Bool.noConfusion h, fun t => absurd t (strict_noTie st)⟩⟩
  · have hk6 : k < 6 := by have := F.k6; lia
    have out := div_plain (k := k) (V := V) (H := H) ⟨hk6, O, F.h0, by lia, fun h => F.hm h hk6, sz⟩
    refine ⟨_, _, fin _ _ (Cmp.of_div out.ok F.nk) ⟨F.nk, F.k6, O, m3, m5, F.h0, h12, F.hm, ⟨out.len, fun i hi => ?_⟩, out.sum, out.good H, fun h _ i hi => ?_, fun h => absurd h k6, fun h => absurd h k6⟩ (fun h => k6 h.1) (out.tie H)⟩
    · have := out.x0 i hi
      have := bs_le k
      lia
    · have := out.x0 i hi
      have e : bs k = 1 := by unfold bs; rw [if_neg (by exact Nat.not_lt_of_le h)]
      rw [e] at this
      exact this.1

theorem law1 (ns : List Int) (h : ns.length ≤ 63) : callF 400 ⟨G1, false, false⟩ lawFD [.list (ns.map .int)] = .ok (.bool true) :=
  law1_of (fun _ _ _ _ _ _ F => plain_all F) ns h 0
end Mine
end
section
namespace Mine
open PySem PySem.W PyProof.Rows

noncomputable abbrev DfR := Str × Arguments × List Stmt × Scope
noncomputable def defsOf : List Stmt → List DfR
  | [] => []
  | .FunctionDef name args body _ _ _ scope _ _ _ :: r => (name, args, body, scope) :: defsOf r
  | _ :: r => defsOf r
noncomputable def cV : Const → Value
  | .bool b => .bool b
  | _ => .none
noncomputable def constV (e : PySem.Expr) : Value := (constX e).elim .none cV

noncomputable def vRef (v : Value) : Option Addr := if h : v.ctorIdx = 10 then PySem.Value.ref.elim (motive := fun _ => Option Addr) v h some else none
noncomputable def vStr (v : Value) : Option Str := if h : v.ctorIdx = 6 then PySem.Value.str.elim (motive := fun _ => Option Str) v h fun x _ => some x else none
noncomputable def vType (v : Value) : Option String := if h : v.ctorIdx = 8 then PySem.Value.type.elim (motive := fun _ => Option String) v h some else none
noncomputable def dSeq (v : Data) : Option (Array Value) := if h : v.ctorIdx = 2 then PySem.Data.seq.elim (motive := fun _ => Option (Array Value)) v h fun x _ => some x else none
noncomputable def dFields (v : Data) : Option (Array Value) := if h : v.ctorIdx = 9 then PySem.Data.fields.elim (motive := fun _ => Option (Array Value)) v h some else none
noncomputable def dFunc (v : Data) : Option FuncData := if h : v.ctorIdx = 7 then PySem.Data.func.elim (motive := fun _ => Option FuncData) v h some else none
noncomputable def dCls (v : Data) : Option ClassData := if h : v.ctorIdx = 8 then PySem.Data.cls.elim (motive := fun _ => Option ClassData) v h some else none
theorem vRef_some {v : Value} {a : Addr} (e : vRef v = some a) : v = .ref a := by
  obtain ⟨h, e⟩ := dite_some e
  obtain ⟨b, rfl⟩ : ∃ b, v = .ref b := PySem.Value.ref.elim (motive := fun v => ∃ b, v = .ref b) v h fun b => ⟨b, rfl⟩
  cases (show some b = some a from e); rfl
theorem vStr_some {v : Value} {a : Str} (e : vStr v = some a) : ∃ t, v = .str a t := by
  obtain ⟨h, e⟩ := dite_some e
  obtain ⟨b, t, rfl⟩ : ∃ b t, v = .str b t := PySem.Value.str.elim (motive := fun v => ∃ b t, v = .str b t) v h fun b t => ⟨b, t, rfl⟩
  cases (show some b = some a from e); exact ⟨t, rfl⟩
theorem vType_some {v : Value} {a : String} (e : vType v = some a) : v = .type a := by
  obtain ⟨h, e⟩ := dite_some e
  obtain ⟨b, rfl⟩ : ∃ b, v = .type b := PySem.Value.type.elim (motive := fun v => ∃ b, v = .type b) v h fun b => ⟨b, rfl⟩
  cases (show some b = some a from e); rfl
theorem dSeq_some {v : Data} {a : Array Value} (e : dSeq v = some a) : ∃ n, v = .seq a n := by
  obtain ⟨h, e⟩ := dite_some e
  obtain ⟨b, t, rfl⟩ : ∃ b t, v = .seq b t := PySem.Data.seq.elim (motive := fun v => ∃ b t, v = .seq b t) v h fun b t => ⟨b, t, rfl⟩
  cases (show some b = some a from e); exact ⟨t, rfl⟩
theorem dFields_some {v : Data} {a : Array Value} (e : dFields v = some a) : v = .fields a := by
  obtain ⟨h, e⟩ := dite_some e
  obtain ⟨b, rfl⟩ : ∃ b, v = .fields b := PySem.Data.fields.elim (motive := fun v => ∃ b, v = .fields b) v h fun b => ⟨b, rfl⟩
  cases (show some b = some a from e); rfl
theorem dFunc_some {v : Data} {a : FuncData} (e : dFunc v = some a) : v = .func a := by
  obtain ⟨h, e⟩ := dite_some e
  obtain ⟨b, rfl⟩ : ∃ b, v = .func b := PySem.Data.func.elim (motive := fun v => ∃ b, v = .func b) v h fun b => ⟨b, rfl⟩
  cases (show some b = some a from e); rfl
theorem dCls_some {v : Data} {a : ClassData} (e : dCls v = some a) : v = .cls a := by
  obtain ⟨h, e⟩ := dite_some e
  obtain ⟨b, rfl⟩ : ∃ b, v = .cls b := PySem.Data.cls.elim (motive := fun v => ∃ b, v = .cls b) v h fun b => ⟨b, rfl⟩
  cases (show some b = some a from e); rfl

noncomputable def codeB (h : Heap) (cd : Value) (q : Str) : Bool := (((vRef cd).bind h.get?).bind fun o => (dFields o.data).bind fun vs => (vs.toList[1]?).bind vStr) == some q
theorem codeB_ok {h : Heap} {cd : Value} {q : Str} (e : codeB h cd q = true) : h.CodeRec cd q := by
  obtain ⟨o, h1, e⟩ := Option.bind_eq_some_iff.mp (eq_of_beq e)
  obtain ⟨a, h2, h3⟩ := Option.bind_eq_some_iff.mp h1
  obtain ⟨vs, h4, e⟩ := Option.bind_eq_some_iff.mp e
  obtain ⟨v, h5, h6⟩ := Option.bind_eq_some_iff.mp e
  obtain ⟨t, rfl⟩ := vStr_some h6
  exact ⟨a, o, vs, t, vRef_some h2, h3, dFields_some h4, by rw [← Array.getElem?_toList]; exact h5⟩
/-- the defaults -/
noncomputable def dfSeen (h : Heap) (v : Value) : Option (List Value) := bif v.ctorIdx == 0 then some [] else ((vRef v).bind h.get?).bind fun o => (dSeq o.data).bind fun vs => bif vs.toList.isEmpty then none else some vs.toList
noncomputable def DfS (h : Heap) (v : Value) (dv : List Value) : Prop := (v = .none ∧ dv = []) ∨ (dv ≠ [] ∧ ∃ T o n, v = .ref T ∧ h.get? T = some o ∧ o.data = .seq dv.toArray n)
theorem dfSeen_ok {h : Heap} {v : Value} {dv : List Value} (e : dfSeen h v = some dv) : DfS h v dv := by
  unfold dfSeen at e
  cases q : v.ctorIdx == 0 with
  | true =>
    rw [q] at e
    cases (show some [] = some dv from e)
    exact .inl ⟨PySem.Value.none.elim (motive := fun v => v = .none) v (eq_of_beq q) rfl, rfl⟩
  | false =>
    rw [q] at e
    obtain ⟨o, h1, e⟩ := Option.bind_eq_some_iff.mp (show ((vRef v).bind h.get?).bind _ = some dv from e)
    obtain ⟨a, h2, h3⟩ := Option.bind_eq_some_iff.mp h1
    obtain ⟨vs, h4, e⟩ := Option.bind_eq_some_iff.mp e
    obtain ⟨n, hd⟩ := dSeq_some h4
    cases q : vs.toList.isEmpty with
    | true => rw [q] at e; cases e
    | false =>
      rw [q] at e
      cases (show some vs.toList = some dv from e)
      exact .inr ⟨fun z => (by rw [z] at q; cases q), a, o, n, vRef_some h2, h3, hd⟩
/-- what is seen of a function -/
noncomputable def fnSeen (h : Heap) (x : Str) : Option (FuncData × Bool × Option (List Value)) := ((h.nsMap mainGlobals x).bind vRef).bind fun a => (h.get? a).bind fun o => (dFunc o.data).map fun f => ({ f with name := x, qualname := x, doc := .none, pyModule := .none, code := .none, annotations := none, defaults := .none, kwdefaults := .none, closureTuple := .none }, codeB h f.code f.qualname, dfSeen h f.defaults)
noncomputable def fnVal (p : DfR) : FuncData := { name := p.1, qualname := p.1, params := p.2.1, body := .stmts p.2.2.1, scope := p.2.2.2, globals := mainGlobals, closure := [], defaults := .none, kwdefaults := .none, builtins := builtinsNs }
noncomputable def FnS (h : Heap) (m : Str → Option Value) (p : DfR) : Prop := ∃ a o f, m p.1 = some (.ref a) ∧ h.get? a = some o ∧ o.data = .func f ∧ f.params = p.2.1 ∧ f.scope = p.2.2.2 ∧ f.body = .stmts p.2.2.1 ∧ f.closure = [] ∧ f.globals = mainGlobals ∧ f.builtins = builtinsNs ∧
  h.CodeRec f.code f.qualname ∧ DfS h f.defaults (p.2.1.defaults.map constV)
theorem fnSeen_ok {h : Heap} {p : DfR} (e : fnSeen h p.1 = some (fnVal p, true, some (p.2.1.defaults.map constV))) : FnS h (h.nsMap mainGlobals) p := by
  obtain ⟨a, h1, e⟩ := Option.bind_eq_some_iff.mp e
  obtain ⟨v, h2, h3⟩ := Option.bind_eq_some_iff.mp h1
  obtain ⟨o, h4, e⟩ := Option.bind_eq_some_iff.mp e
  obtain ⟨f, h5, e⟩ := Option.map_eq_some_iff.mp e
  have e1 := congrArg Prod.fst e
  have e2 := congrArg (fun x => x.2.1) e
  have e3 := congrArg (fun x => x.2.2) e
  exact ⟨a, o, f, h2.trans (congrArg some (vRef_some h3)), h4, dFunc_some h5, congrArg FuncData.params e1, congrArg FuncData.scope e1, congrArg FuncData.body e1, congrArg FuncData.closure e1, congrArg FuncData.globals e1, congrArg FuncData.builtins e1, codeB_ok e2, dfSeen_ok e3⟩
theorem DfS.keeps {h h' : Heap} {v : Value} {dv : List Value} (x : DfS h v dv) (k : ∀ b o, h.get? b = some o → h'.get? b = some o) : DfS h' v dv := by
  rcases x with x | ⟨q0, T, o, n, q1, q2, q3⟩
  · exact .inl x
  · exact .inr ⟨q0, T, o, n, q1, k _ _ q2, q3⟩
theorem FnS.keeps {h h' : Heap} {m : Str → Option Value} {p : DfR} (x : FnS h m p) (k : ∀ b o, h.get? b = some o → h'.get? b = some o) : FnS h' m p := by
  obtain ⟨a, o, f, h1, h2, h3, h4, h5, h6, h7, h8, h9, h10, h11⟩ := x
  exact ⟨a, o, f, h1, k _ _ h2, h3, h4, h5, h6, h7, h8, h9, h10.keeps k, h11.keeps k⟩

/-! a deep value is read -/
mutual
noncomputable def repB (h : Heap) : PV → Value → Bool
  | .str x, v => vStr v == some x
  | .list xs, v => (((vRef v).bind h.get?).bind fun o => (vType o.cls).bind fun t => (dSeq o.data).map fun vs => t == "list" && repBL h xs vs.toList) == some true
  | _, _ => false
noncomputable def repBL (h : Heap) : List PV → List Value → Bool
  | [], vs => vs.isEmpty
  | x :: xs, vs => (vs.head?.map (repB h x)) == some true && repBL h xs vs.tail
end
mutual
theorem repB_ok {h : Heap} : ∀ (V : PV) (v : Value), repB h V v = true → Rep h [] V v
  | .str x, v, e => vStr_some (eq_of_beq e)
  | .list xs, v, e => by
    obtain ⟨o, h1, e⟩ := Option.bind_eq_some_iff.mp (eq_of_beq e)
    obtain ⟨a, h2, h3⟩ := Option.bind_eq_some_iff.mp h1
    obtain ⟨t, h4, e⟩ := Option.bind_eq_some_iff.mp e
    obtain ⟨vs, h5, e⟩ := Option.map_eq_some_iff.mp e
    obtain ⟨n, hd⟩ := dSeq_some h5
    rw [Bool.and_eq_true, beq_iff_eq] at e
    exact ⟨a, vs.toList, vRef_some h2, by simp, ⟨o, h3, (vType_some h4).trans (congrArg Value.type e.1), n, hd⟩, repBL_ok xs _ e.2⟩
  | .none, _, e => Bool.noConfusion e
  | .bool _, _, e => Bool.noConfusion e
  | .int _, _, e => Bool.noConfusion e
  | .tup _, _, e => Bool.noConfusion e
theorem repBL_ok {h : Heap} : ∀ (xs : List PV) (vs : List Value), repBL h xs vs = true → RepL h [] xs vs
  | [], vs, e => List.isEmpty_iff.mp e
  | x :: xs, vs, e => by
    have e : ((vs.head?.map (repB h x)) == some true && repBL h xs vs.tail) = true := e
    rw [Bool.and_eq_true, beq_iff_eq] at e
    obtain ⟨v, h1, h2⟩ := Option.map_eq_some_iff.mp e.1
    cases vs with
    | nil => cases h1
    | cons w ws => cases h1; exact ⟨v, ws, rfl, repB_ok x v h2, repBL_ok xs ws e.2⟩
end
noncomputable def mroSeen (h : Heap) (x : Str) : Option (List Value) := ((h.nsMap mainGlobals x).bind vRef).bind fun a => (h.get? a).bind fun o => (dCls o.data).map fun c => c.mro.drop 1
noncomputable def tieMro : List Value := [.type "Exception", .type "BaseException", .type "object"]
noncomputable def valSeen (h : Heap) (x : Str) (V : PV) : Bool := ((h.nsMap mainGlobals x).map fun v => repB h V v) == some true

structure HkS (p : Program) (x : Str) (V : PV) (h : Heap) (m : Str → Option Value) : Prop where
  ns : h.Ns mainGlobals m
  fns : ∀ d ∈ defsOf p.main.body, FnS h m d
  val : ∃ v, m x = some v ∧ Rep h [] V v
  mro : ∃ C o c, m tieName = some (.ref C) ∧ h.get? C = some o ∧ o.data = .cls c ∧ c.mro.drop 1 = tieMro

noncomputable def Hk1 (p : Program) (x : Str) (V : PV) : Hook where
  α := List (Option (FuncData × Bool × Option (List Value))) × Bool × Option (List Value)
  obs := fun s => ((defsOf p.main.body).map fun d => fnSeen s.heap d.1, s.heap.isNs mainGlobals && valSeen s.heap x V, mroSeen s.heap tieName)
  val := fun _ => ((defsOf p.main.body).map fun d => some (fnVal d, true, some (d.2.1.defaults.map constV)), true, some tieMro)
  says := fun _ h => ∃ m, HkS p x V h m
  of := fun _ s e => by
    have e1 := congrArg Prod.fst e
    have e2 := (Bool.and_eq_true _ _).mp (congrArg (fun x => x.2.1) e)
    have e3 := congrArg (fun x => x.2.2) e
    refine ⟨s.heap.nsMap mainGlobals, .of_isNs e2.1, fun d hd => fnSeen_ok (List.map_inj_left.mp e1 d hd), ?_, ?_⟩
    · obtain ⟨v, h1, h2⟩ := Option.map_eq_some_iff.mp (eq_of_beq e2.2)
      exact ⟨v, h1, repB_ok _ _ h2⟩
    · obtain ⟨a, h1, e⟩ := Option.bind_eq_some_iff.mp e3
      obtain ⟨v, h2, h3⟩ := Option.bind_eq_some_iff.mp h1
      obtain ⟨o, h4, e⟩ := Option.bind_eq_some_iff.mp e
      obtain ⟨c, h5, e⟩ := Option.map_eq_some_iff.mp e
      exact ⟨a, o, c, h2.trans (congrArg some (vRef_some h3)), h4, dCls_some h5, e⟩
  keeps := fun _ h h' ⟨m, x⟩ k => by
    obtain ⟨v, h1, h2⟩ := x.val
    obtain ⟨C, o, c, q1, q2, q3⟩ := x.mro
    exact ⟨m, x.ns.keeps k, fun d hd => (x.fns d hd).keeps k, ⟨v, h1, Rep.sim (SimX.t fun b o _ e => ⟨o, k b o e, rfl, rfl⟩) _ _ h2⟩, C, o, c, q1, k _ _ q2, q3⟩
end Mine
end
section
namespace Mine
open PySem PySem.W PyProof.Rows

noncomputable def fdD (p : DfR) : FD := { params := p.2.1.args.map (·.arg), dflts := p.2.1.defaults.map constPV, body := p.2.2.1, scope := p.2.2.2 }
noncomputable def dfltOK (e : PySem.Expr) : Bool := (constX e).map (fun c => c.ctorIdx == 1 || c.ctorIdx == 0) == some true
theorem dflt_one {h : Heap} {c : Const} (x : (c.ctorIdx == 1 || c.ctorIdx == 0) = true) : Rep h [] (cPV c) (cV c) := by
  rw [Bool.or_eq_true, beq_iff_eq, beq_iff_eq] at x
  rcases x with x | x
  · exact PySem.Const.bool.elim (motive := fun c => Rep h [] (cPV c) (cV c)) c x fun _ => rfl
  · exact PySem.Const.none.elim (motive := fun c => Rep h [] (cPV c) (cV c)) c x rfl
theorem dfltOK_rep {h : Heap} : ∀ {es : List PySem.Expr}, es.all dfltOK = true → RepL h [] (es.map constPV) (es.map constV)
  | [], _ => rfl
  | e :: r, x => by
    rw [List.all_cons, Bool.and_eq_true] at x
    refine ⟨_, _, rfl, ?_, dfltOK_rep x.2⟩
    obtain ⟨c, h1, h2⟩ := Option.map_eq_some_iff.mp (eq_of_beq x.1)
    unfold constPV constV
    rw [h1]
    exact dflt_one h2
/-- what is asked of a def -/
structure FnB (p : DfR) : Prop where
  co : p.2.2.2.isCoroutine = false
  ge : p.2.2.2.isGenerator = false
  nd : (p.2.1.args.map (·.arg)).Nodup
  st : ((p.2.1.args.map (·.arg)).all fun x => p.2.2.2.names.lookup x == some .local || p.2.2.2.names.lookup x == some .cell) = true
  df : p.2.1.defaults.all dfltOK = true
  bi : ∀ (f : FuncData) (s : Shared) (vals : List Value), f.params = p.2.1 → DfS s.heap f.defaults (p.2.1.defaults.map constV) → vals.length ≤ (p.2.1.args.map (·.arg)).length →
    (p.2.1.args.map (·.arg)).length - (p.2.1.defaults.map constPV).length ≤ vals.length →
    BindsTo s f ⟨vals, []⟩ ((p.2.1.args.map (·.arg)).zip (vals ++ (p.2.1.defaults.map constV).drop (vals.length - ((p.2.1.args.map (·.arg)).length - (p.2.1.defaults.map constPV).length))))
theorem fn_ok {h : Heap} {m : Str → Option Value} {p : DfR} (x : FnS h m p) (b : FnB p) : ∃ a, m p.1 = some (.ref a) ∧ FnOK h (fdD p) a := by
  obtain ⟨a, o, f, h1, h2, h3, h4, h5, h6, h7, h8, h9, h10, h11⟩ := x
  refine ⟨a, h1, o, f, p.2.1.defaults.map constV, h2, h3, h5, h6, h7, h8, h9, h10, h5 ▸ b.co, h5 ▸ b.ge, b.nd, stor_of b.st, dfltOK_rep b.df, fun s vals hs l1 l2 => b.bi f s vals h4 ?_ l1 l2⟩
  exact h11.imp id fun ⟨q0, T, o, n, q1, q2, q3⟩ => ⟨q0, T, o, n, q1, hs _ _ q2, q3⟩
theorem allFn_of {h : Heap} {m : Str → Option Value} : ∀ {body : List Stmt}, (∀ d ∈ defsOf body, FnS h m d) → (∀ d ∈ defsOf body, FnB d) → AllFn h m (funsOf body)
  | [], _, _ => trivial
  | st :: r, x, b => by
    cases st with
    | FunctionDef nm args body a1 a2 a3 scope a4 a5 a6 =>
      exact ⟨fn_ok (x _ (List.mem_cons_self ..)) (b _ (List.mem_cons_self ..)), allFn_of (fun d hd => x d (List.mem_cons_of_mem _ hd)) fun d hd => b d (List.mem_cons_of_mem _ hd)⟩
    | _ => exact allFn_of (body := r) x b
noncomputable def def1 (i : Nat) : DfR := (defsOf PySem.Challenge.pw_ai0004_01.main.body).getD i default
theorem of_idx {P : DfR → Prop} {l : List DfR} (h : ∀ i, i < l.length → P (l.getD i default)) : ∀ d ∈ l, P d := fun d hd => by
  obtain ⟨i, hi, rfl⟩ := List.getElem_of_mem hd
  have := h i hi
  rwa [List.getD_eq_getElem?_getD, List.getElem?_eq_getElem hi] at this
/-- the binding of an arity, with all arguments given or none wanted -/
theorem bi_eq {f : FuncData} {s : Shared} {vals : List Value} {P : Arguments} {b : List (Str × Value)} (hp : f.params = P) (hd : DfS s.heap f.defaults []) (h : ∀ f : FuncData, bindArgs { f with params := P, defaults := .none } ⟨vals, []⟩ = pure b) : BindsTo s f ⟨vals, []⟩ b := by
  have hd : f.defaults = .none := hd.elim (fun q => q.1) fun q => absurd rfl q.1
  obtain ⟨a1, a2, a3, a4, a5, a6, a7, a8, a9, a10, a11, a12, a13, a14, a15⟩ := f
  cases hp; cases hd
  exact BindsTo.of_eq (h ⟨a1, a2, a3, a4, a5, a6, a7, .none, a9, a10, a11, a12, a13, a14, a15⟩)
theorem bi_df {f : FuncData} {s : Shared} {vals : List Value} {P : Arguments} {b : List (Str × Value)} {dv : List Value} (hp : f.params = P) (hd : DfS s.heap f.defaults dv) (h0 : dv ≠ [])
    (h : ∀ (f : FuncData) (T : Addr), ∃ k, bindArgs { f with params := P, defaults := .ref T } ⟨vals, []⟩ = (seqItems? (.ref T) >>= k) ∧ k (some dv.toArray) = pure b) : BindsTo s f ⟨vals, []⟩ b := by
  rcases hd with ⟨_, q⟩ | ⟨_, T, o, n, q1, q2, q3⟩
  · exact absurd q h0
  · obtain ⟨a1, a2, a3, a4, a5, a6, a7, a8, a9, a10, a11, a12, a13, a14, a15⟩ := f
    cases hp; cases q1
    obtain ⟨k, e1, e2⟩ := h ⟨a1, a2, a3, a4, a5, a6, a7, .none, a9, a10, a11, a12, a13, a14, a15⟩ T
    exact BindsTo.of_defaults rfl q2 q3 e1 e2

theorem b0 : FnB (def1 0) := by
  refine ⟨by decide +kernel, by decide +kernel, by decide +kernel, by decide +kernel, by decide +kernel, fun f s vals hp hd h1 h2 => ?_⟩
  match vals, h1, h2 with
  | [], _, h2 => exact absurd (show (3 : Nat) ≤ 0 from h2) (by decide)
  | [a], _, h2 => exact absurd (show (3 : Nat) ≤ 1 from h2) (by decide)
  | [a, b], _, h2 => exact absurd (show (3 : Nat) ≤ 2 from h2) (by decide)
  | [a, b, c], _, _ => exact bi_df hp hd (by intro q; cases q) fun f T => ⟨_, rfl, rfl⟩
  | [a, b, c, d], _, _ => exact bi_df hp hd (by intro q; cases q) fun f T => ⟨_, rfl, rfl⟩
  | [a, b, c, d, e], _, _ => exact bi_df hp hd (by intro q; cases q) fun f T => ⟨_, rfl, rfl⟩
  | _ :: _ :: _ :: _ :: _ :: _ :: r, h1, _ => exact absurd (show r.length + 6 ≤ 5 from h1) (by lia)
theorem b1 : FnB (def1 1) := by
  refine ⟨by decide +kernel, by decide +kernel, by decide +kernel, by decide +kernel, by decide +kernel, fun f s vals hp hd h1 h2 => ?_⟩
  match vals, h1, h2 with
  | [], _, h2 => exact absurd (show (2 : Nat) ≤ 0 from h2) (by decide)
  | [a], _, h2 => exact absurd (show (2 : Nat) ≤ 1 from h2) (by decide)
  | [a, b], _, _ => exact bi_eq hp hd fun f => by kernel_rfl
  | _ :: _ :: _ :: r, h1, _ => exact absurd (show r.length + 3 ≤ 2 from h1) (by lia)
theorem b2 : FnB (def1 2) := by
  refine ⟨by decide +kernel, by decide +kernel, by decide +kernel, by decide +kernel, by decide +kernel, fun f s vals hp hd h1 h2 => ?_⟩
  match vals, h1, h2 with
  | [], _, h2 => exact absurd (show (2 : Nat) ≤ 0 from h2) (by decide)
  | [a], _, h2 => exact absurd (show (2 : Nat) ≤ 1 from h2) (by decide)
  | [a, b], _, _ => exact bi_df hp hd (by intro q; cases q) fun f T => ⟨_, rfl, rfl⟩
  | [a, b, c], _, _ => exact bi_df hp hd (by intro q; cases q) fun f T => ⟨_, rfl, rfl⟩
  | _ :: _ :: _ :: _ :: r, h1, _ => exact absurd (show r.length + 4 ≤ 3 from h1) (by lia)
theorem b3 : FnB (def1 3) := by
  refine ⟨by decide +kernel, by decide +kernel, by decide +kernel, by decide +kernel, by decide +kernel, fun f s vals hp hd h1 h2 => ?_⟩
  match vals, h1, h2 with
  | [], _, h2 => exact absurd (show (3 : Nat) ≤ 0 from h2) (by decide)
  | [a], _, h2 => exact absurd (show (3 : Nat) ≤ 1 from h2) (by decide)
  | [a, b], _, h2 => exact absurd (show (3 : Nat) ≤ 2 from h2) (by decide)
  | [a, b, c], _, _ => exact bi_df hp hd (by intro q; cases q) fun f T => ⟨_, rfl, rfl⟩
  | [a, b, c, d], _, _ => exact bi_df hp hd (by intro q; cases q) fun f T => ⟨_, rfl, rfl⟩
  | _ :: _ :: _ :: _ :: _ :: r, h1, _ => exact absurd (show r.length + 5 ≤ 4 from h1) (by lia)
theorem b4 : FnB (def1 4) := by
  refine ⟨by decide +kernel, by decide +kernel, by decide +kernel, by decide +kernel, by decide +kernel, fun f s vals hp hd h1 h2 => ?_⟩
  match vals, h1, h2 with
  | [], _, h2 => exact absurd (show (3 : Nat) ≤ 0 from h2) (by decide)
  | [a], _, h2 => exact absurd (show (3 : Nat) ≤ 1 from h2) (by decide)
  | [a, b], _, h2 => exact absurd (show (3 : Nat) ≤ 2 from h2) (by decide)
  | [a, b, c], _, _ => exact bi_eq hp hd fun f => by kernel_rfl
  | _ :: _ :: _ :: _ :: r, h1, _ => exact absurd (show r.length + 4 ≤ 3 from h1) (by lia)
theorem b5 : FnB (def1 5) := by
  refine ⟨by decide +kernel, by decide +kernel, by decide +kernel, by decide +kernel, by decide +kernel, fun f s vals hp hd h1 h2 => ?_⟩
  match vals, h1, h2 with
  | [], _, h2 => exact absurd (show (2 : Nat) ≤ 0 from h2) (by decide)
  | [a], _, h2 => exact absurd (show (2 : Nat) ≤ 1 from h2) (by decide)
  | [a, b], _, _ => exact bi_df hp hd (by intro q; cases q) fun f T => ⟨_, rfl, rfl⟩
  | [a, b, c], _, _ => exact bi_df hp hd (by intro q; cases q) fun f T => ⟨_, rfl, rfl⟩
  | _ :: _ :: _ :: _ :: r, h1, _ => exact absurd (show r.length + 4 ≤ 3 from h1) (by lia)
theorem b6 : FnB (def1 6) := by
  refine ⟨by decide +kernel, by decide +kernel, by decide +kernel, by decide +kernel, by decide +kernel, fun f s vals hp hd h1 h2 => ?_⟩
  match vals, h1, h2 with
  | [], _, h2 => exact absurd (show (5 : Nat) ≤ 0 from h2) (by decide)
  | [a], _, h2 => exact absurd (show (5 : Nat) ≤ 1 from h2) (by decide)
  | [a, b], _, h2 => exact absurd (show (5 : Nat) ≤ 2 from h2) (by decide)
  | [a, b, c], _, h2 => exact absurd (show (5 : Nat) ≤ 3 from h2) (by decide)
  | [a, b, c, d], _, h2 => exact absurd (show (5 : Nat) ≤ 4 from h2) (by decide)
  | [a, b, c, d, e], _, _ => exact bi_eq hp hd fun f => by kernel_rfl
  | _ :: _ :: _ :: _ :: _ :: _ :: r, h1, _ => exact absurd (show r.length + 6 ≤ 5 from h1) (by lia)
theorem b7 : FnB (def1 7) := by
  refine ⟨by decide +kernel, by decide +kernel, by decide +kernel, by decide +kernel, by decide +kernel, fun f s vals hp hd h1 h2 => ?_⟩
  match vals, h1, h2 with
  | [], _, h2 => exact absurd (show (2 : Nat) ≤ 0 from h2) (by decide)
  | [a], _, h2 => exact absurd (show (2 : Nat) ≤ 1 from h2) (by decide)
  | [a, b], _, _ => exact bi_eq hp hd fun f => by kernel_rfl
  | _ :: _ :: _ :: r, h1, _ => exact absurd (show r.length + 3 ≤ 2 from h1) (by lia)
theorem b8 : FnB (def1 8) := by
  refine ⟨by decide +kernel, by decide +kernel, by decide +kernel, by decide +kernel, by decide +kernel, fun f s vals hp hd h1 h2 => ?_⟩
  match vals, h1, h2 with
  | [], _, h2 => exact absurd (show (4 : Nat) ≤ 0 from h2) (by decide)
  | [a], _, h2 => exact absurd (show (4 : Nat) ≤ 1 from h2) (by decide)
  | [a, b], _, h2 => exact absurd (show (4 : Nat) ≤ 2 from h2) (by decide)
  | [a, b, c], _, h2 => exact absurd (show (4 : Nat) ≤ 3 from h2) (by decide)
  | [a, b, c, d], _, _ => exact bi_eq hp hd fun f => by kernel_rfl
  | _ :: _ :: _ :: _ :: _ :: r, h1, _ => exact absurd (show r.length + 5 ≤ 4 from h1) (by lia)
theorem b9 : FnB (def1 9) := by
  refine ⟨by decide +kernel, by decide +kernel, by decide +kernel, by decide +kernel, by decide +kernel, fun f s vals hp hd h1 h2 => ?_⟩
  match vals, h1, h2 with
  | [], _, h2 => exact absurd (show (4 : Nat) ≤ 0 from h2) (by decide)
  | [a], _, h2 => exact absurd (show (4 : Nat) ≤ 1 from h2) (by decide)
  | [a, b], _, h2 => exact absurd (show (4 : Nat) ≤ 2 from h2) (by decide)
  | [a, b, c], _, h2 => exact absurd (show (4 : Nat) ≤ 3 from h2) (by decide)
  | [a, b, c, d], _, _ => exact bi_eq hp hd fun f => by kernel_rfl
  | _ :: _ :: _ :: _ :: _ :: r, h1, _ => exact absurd (show r.length + 5 ≤ 4 from h1) (by lia)
theorem b10 : FnB (def1 10) := by
  refine ⟨by decide +kernel, by decide +kernel, by decide +kernel, by decide +kernel, by decide +kernel, fun f s vals hp hd h1 h2 => ?_⟩
  match vals, h1, h2 with
  | [], _, h2 => exact absurd (show (3 : Nat) ≤ 0 from h2) (by decide)
  | [a], _, h2 => exact absurd (show (3 : Nat) ≤ 1 from h2) (by decide)
  | [a, b], _, h2 => exact absurd (show (3 : Nat) ≤ 2 from h2) (by decide)
  | [a, b, c], _, _ => exact bi_eq hp hd fun f => by kernel_rfl
  | _ :: _ :: _ :: _ :: r, h1, _ => exact absurd (show r.length + 4 ≤ 3 from h1) (by lia)
theorem b11 : FnB (def1 11) := by
  refine ⟨by decide +kernel, by decide +kernel, by decide +kernel, by decide +kernel, by decide +kernel, fun f s vals hp hd h1 h2 => ?_⟩
  match vals, h1, h2 with
  | [], _, h2 => exact absurd (show (1 : Nat) ≤ 0 from h2) (by decide)
  | [a], _, _ => exact bi_eq hp hd fun f => by kernel_rfl
  | _ :: _ :: r, h1, _ => exact absurd (show r.length + 2 ≤ 1 from h1) (by lia)
theorem bAll : ∀ d ∈ defsOf PySem.Challenge.pw_ai0004_01.main.body, FnB d := of_idx fun i hi => match i, hi with
  | 0, _ => b0
  | 1, _ => b1
  | 2, _ => b2
  | 3, _ => b3
  | 4, _ => b4
  | 5, _ => b5
  | 6, _ => b6
  | 7, _ => b7
  | 8, _ => b8
  | 9, _ => b9
  | 10, _ => b10
  | 11, _ => b11
  | n + 12, hi => absurd (show n + 12 < 12 from hi) (by lia)
end Mine
end
section
namespace Mine
open PySem PySem.W PyProof.Rows
def keep1 : List Nat := [1, 3, 6, 9, 10, 11, 12, 13, 14, 15]
def q1 : Program := view PySem.Challenge.pw_ai0004_01 keep1
def loose1 : List Str := [Str.ofString "compute", Str.ofString "largest_remainder", Str.ofString "divisor", Str.ofString "quota", Str.ofString "_law_names"]
noncomputable def hk1 : Hook := Hk1 PySem.Challenge.pw_ai0004_01 (Str.ofString "_law_names") names1
def row1 : OpenRow := OpenLaw.row PySem.Challenge.rw_ai0004_01
set_option maxHeartbeats 16000000 in
theorem left1 : LeftO PySem.Challenge.pw_ai0004_01 q1 loose1 (fun s => xlAt q1 [] s && recOk (RowW.records (OpenRow.toRowW row1)) s) hk1.obs hk1.val 1394 := by
  intro w
  kernel_rfl
end Mine
end
section
open PySem PySem.W PyProof.Rows
namespace Mine
theorem law1d (ns : List Int) (h : ns.length ≤ 63) : callF 400 ⟨G1, false, false⟩ (fdD (def1 11)) [.list (ns.map .int)] = .ok (.bool true) := law1 ns h
theorem post_ok (as bs : List WData) : PySem.Challenge.rw_ai0004_01.row.claim.post as (.bool true) bs = true := by
  have hs : PySem.W.same (.bool true) (.bool true) = true := by first | rfl | decide +kernel | simp [PySem.W.same]
  unfold PySem.Challenge.rw_ai0004_01
  simp [OpenLaw.row, RowW.claim, WShape.has, WTm.holds, WShape.arms, WTm.value, hs]
theorem tie_of2 {h : Heap} {mean : ExcName → Option Value} {mg mb : Str → Option Value} {loose : List Str} {p : Program} (T : Top p loose mean mg mb h) (ho : ∃ o ∈ ownsOf p, o.name = tieName ∧ o.newId = "Exception.__new__")
    (Y : ∃ C o c, mg tieName = some (.ref C) ∧ h.get? C = some o ∧ o.data = .cls c ∧ c.mro.drop 1 = tieMro) : ∃ C, mg tieName = some (.ref C) ∧ ∃ nm q N bs hdct sn sub ab col dd k0 k1 k2 k3 k5, h.get? C = some (excClassObj nm q C N bs tieMro hdct sn sub ab col dd k0 k1 k2 k3 k5 "Exception.__new__") ∧ ∃ mN, h.Ns N mN ∧ mN "__init__" = none := by
  obtain ⟨o, hmem, hn, hi⟩ := ho
  obtain ⟨C, O, _⟩ := T.own o hmem
  have O' := O.own
  have hb := O'.bound
  obtain ⟨bm, N, nm, q, bs, hdct, sn, sub, ab, col, dd, k0, k1, k2, k3, k5, mN, hC, hN, hni, _⟩ := O'.obj
  obtain ⟨C', o', c, q1, q2, q3, q4⟩ := Y
  rw [hn, q1] at hb
  have e : C' = C := Value.ref.inj (Option.some.inj hb)
  subst e
  rw [hC] at q2
  cases q2
  cases q3
  have q4 : bm = tieMro := q4
  subst q4
  exact ⟨C', q1, nm, q, N, bs, hdct, sn, sub, ab, col, dd, k0, k1, k2, k3, k5, hi ▸ hC, mN, hN, hni⟩
theorem said1 : PySem.Challenge.rw_ai0004_01.wellSaid = true := by kernel_rfl
theorem hdef1 : ∃ d kwd, defOf q1 row1.name = some (d, kwd) ∧ row1.prog.theDef row1.name = some (d.params, d.body, d.scope) ∧ kwWritten? d.params.kwonlyargs d.params.kw_defaults = some kwd ∧ d.name = Str.ofString "law" := ⟨_, _, rfl, rfl, rfl, rfl⟩
theorem owns1 : ∃ o ∈ ownsOf q1, o.name = tieName ∧ o.newId = "Exception.__new__" := by decide +kernel
theorem opens1 : (chainsOk q1 && opensWell row1.prog && (frees row1.toRowW && row1.within.isEmpty)) = true := by decide +kernel
end Mine
set_option maxRecDepth 100000 in
set_option maxHeartbeats 16000000 in
theorem PySem.Challenge.cw_ai0004_01_holds : PySem.Challenge.rw_ai0004_01.Holds := by
  w_on
  refine holds_law Mine.said1 fun said => ?_
  obtain ⟨d, kwd, e1, e2, e3, e4⟩ := Mine.hdef1
  refine holds_open (r := Mine.row1) (q := Mine.q1) (loose := Mine.loose1) (XP := XL Mine.q1 []) (Yf := Mine.hk1.obs) (Ya := Mine.hk1.val) (YP := Mine.hk1.says) (N := 1394) Mine.left1 Mine.hk1.of Mine.hk1.keeps (fun s e => xl_of s (Bool.and_eq_true_iff.mp e).1) XL.keeps e1 e2 e3 (fun s e => recFacts_of (Bool.and_eq_true_iff.mp e).2) (by rfl) said Mine.opens1 ⟨rfl, rfl, rfl, rfl, rfl, by decide +kernel⟩ ?hw ?hc
  case hw => w_witness2
  intro w s₀ s₁ mg mb G Y fa o pm cd doc dV kV ho hd hcd hD hmg hg args vals as hpre hlay hrd hwl hlo
  refine Ground.open G ?_
  intro T B D TE TW
  obtain ⟨m, Y⟩ := Y
  obtain rfl : m = mg := Mine.ns_unique Y.ns T.g
  have FN := Mine.allFn_of Y.fns Mine.bAll
  obtain ⟨v, hv, hr⟩ := Y.val
  obtain ⟨C, htm, hC⟩ := Mine.tie_of2 T Mine.owns1 Y.mro
  have GK : Mine.GOK ⟨PySem.Challenge.rw_ai0004_01.row.prog, w, s₁.heap, m, mb, C⟩ Mine.G1 := ⟨T.g, T.b, T.nolimit, Mine.vals_one (v := v) hv hr, fun x fd _ e => FN.at x fd e, fun x v _ _ e => Mine.blt1 T (by decide +kernel) e, htm, hC⟩
  wrow_args hpre hlay hrd hwl hlo
  all_goals (
    (first | refine callC_kw (enter_call ?_) | refine enter_call ?_ | refine callC_kw (enter_callW ?_) | refine enter_callW ?_)
    refine codeAny_mono ?_ (fun _ _ g => GoodW.toG g)
    rename_i hL hra hw1 hr0 hI hr' hcond ht
    obtain ⟨a, ha, fo⟩ := FN.at (Str.ofString "law") (Mine.fdD (Mine.def1 11)) rfl
    have hfa : fa = a := by
      have h2 : m (Str.ofString "law") = some (.ref fa) := e4 ▸ hmg
      rw [ha] at h2
      exact (Value.ref.inj (Option.some.inj h2)).symm
    subst hfa
    refine Mine.join (K := ⟨PySem.Challenge.rw_ai0004_01.row.prog, w, s₁.heap, m, mb, C⟩) GK fo rfl hL hI (Mine.law1d _ (by omega)) fun s' k => ?_
    have ka := k.all
    obtain ⟨h', tk, rfl⟩ := k.same
    exact ⟨.inl ⟨.bool true, .bool true, [], rfl, fun _ => rfl, .bool true, Mine.post_ok _ _, fun _ => ⟨List.nodup_nil, fun b hb => by cases hb⟩⟩, ka, rfl, hg⟩)
end
